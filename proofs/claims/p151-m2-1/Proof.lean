import JvmDerived
import JvmDerived.Pilot.@@N@@Statement
import JvmDerived.Pilot.@@N@@Code
set_option linter.unusedVariables false
set_option linter.unusedSimpArgs false
namespace Jvm.OwnKit
open Jvm Jvm.ClassFile Sem Op Lib Jvm.Free Jvm.Stand Jvm.LawKit Jvm.RoadKit
section Walk
variable {p : Program} {l : Launch} {e : Env} {R : Room} {s : State} {m : MethodId} {args : Array Value} {below : List Frame} {meth : Method} {c : Code} {T T' : State} {locs : List Loc} {cells slots k n : Nat} {Q : Option Value → Heap → List Loc → Prop} {P : Option Value → State → List Loc → Prop} {g g' : JFrame}
/-- from T with the frame g on top the run comes home: it returns, and Q says of what it returned, the heap and the places written -/
def Home {p : Program} {e : Env} {below : List Frame} {P : Option Value → State → List Loc → Prop} (T : State) (g : JFrame) : Prop :=
  ∃ U o, Steps p.tables e below (T.setTop g) U ∧ U.status = .running ∧ Ended U below o ∧ ∃ v L, o = .returned v ∧ P v U L
/-- the end of a walk that has booked no text -/
abbrev End (s : State) (Q : Option Value → Heap → List Loc → Prop) (k n : Nat) : Option Value → State → List Loc → Prop := fun v U L => Q v U.heap L ∧ FrameEnd s (.returned v) U L k n
theorem Home.cut {p : Program} {e : Env} {below : List Frame} {P : Option Value → State → List Loc → Prop} {T : State} {g : JFrame} {C : (Option Value → State → List Loc → Prop) → Prop} (h1 : ∀ E, C E → @Home p e below E T g) (h2 : C P) : @Home p e below P T g := h1 P h2
theorem Home.go (st : ∀ t, Steps p.tables e below (T'.setTop g') t → Steps p.tables e below (T.setTop g) t) (H : @Home p e below P T' g') : @Home p e below P T g := by
  obtain ⟨U, o, h1, h2⟩ := H
  exact ⟨U, o, st _ h1, h2⟩
section Cps
variable {S : State → Prop} {S2 : State → Heap → Prop} {W E A D M : Heap → Prop} {A2 : Heap → ClassId → Prop} {O : ClassId → Prop} {h : Heap}
theorem Home.st (q : ∃ T', S T' ∧ T'.heap = h ∧ ∀ t, Steps p.tables e below (T'.setTop g') t → Steps p.tables e below (T.setTop g) t) (H : ∀ T', S T' → T'.heap = h → @Home p e below P T' g') : @Home p e below P T g := by
  obtain ⟨T', x, y, st⟩ := q
  exact Home.go st (H T' x y)
theorem Home.wr (q : ∃ T' h', S T' ∧ T'.heap = h' ∧ W h' ∧ ∀ t, Steps p.tables e below (T'.setTop g') t → Steps p.tables e below (T.setTop g) t) (H : ∀ T' h', S T' → T'.heap = h' → W h' → @Home p e below P T' g') : @Home p e below P T g := by
  obtain ⟨T', h', x, y, z, st⟩ := q
  exact Home.go st (H T' h' x y z)
theorem Home.nw {B : Addr → Prop} {A3 D3 : Heap → Addr → Prop} {ga : Addr → JFrame} (q : ∃ T' h' b, B b ∧ S T' ∧ T'.heap = h' ∧ E h' ∧ A3 h' b ∧ D3 h' b ∧ ∀ t, Steps p.tables e below (T'.setTop (ga b)) t → Steps p.tables e below (T.setTop g) t) (H : ∀ T' h' b, B b → S T' → T'.heap = h' → E h' → A3 h' b → D3 h' b → @Home p e below P T' (ga b)) : @Home p e below P T g := by
  obtain ⟨T', h', b, i, x, y, z, u, v, st⟩ := q
  exact Home.go st (H T' h' b i x y z u v)
theorem Home.na {B : Addr → Prop} {A3 : Heap → ClassId → Addr → Prop} {ga : Addr → JFrame} (q : ∃ T' h' c' b, B b ∧ S T' ∧ T'.heap = h' ∧ E h' ∧ A3 h' c' b ∧ ∀ t, Steps p.tables e below (T'.setTop (ga b)) t → Steps p.tables e below (T.setTop g) t) (H : ∀ T' h' c' b, B b → S T' → T'.heap = h' → E h' → A3 h' c' b → @Home p e below P T' (ga b)) : @Home p e below P T g := by
  obtain ⟨T', h', c', b, i, x, y, z, u, st⟩ := q
  exact Home.go st (H T' h' c' b i x y z u)
theorem Home.call {S3 : State → List Loc → Prop} {Q3 : Option Value → State → List Loc → Prop} {gv : Option Value → JFrame} (q : ∃ v T' L, S3 T' L ∧ Q3 v T' L ∧ ∀ t, Steps p.tables e below (T'.setTop (gv v)) t → Steps p.tables e below (T.setTop g) t) (H : ∀ v T' L, S3 T' L → Q3 v T' L → @Home p e below P T' (gv v)) : @Home p e below P T g := by
  obtain ⟨v, T', L, x, y, st⟩ := q
  exact Home.go st (H v T' L x y)
end Cps
theorem hW0 {m : MethodId} {pc n : Nat} {L : Array Slot} {S : List Value} : 2 * (mkF m pc L S).monitorRoom + n ≤ n := by show 2 * 0 + n ≤ n; omega
theorem Home.enter (q : g = g') (H : @Home p e below P T g') : @Home p e below P T g := by
  subst q; exact H
theorem Home.retN (X : Stand p l e R s m args below meth c T locs cells slots) (hx : p.tables.exec = Jvm.exec) (hlk : meth.locks = false) {pc : Nat} {Ls : Array Slot} {z : Int32} {t : FieldType} {rest : List Value} (hret : meth.sig.returnType = some t) (ht : t = .boolean ∨ t = .byte ∨ t = .char ∨ t = .short)
    (hd : decode c.code pc = .ok (.ireturn, 1)) (hQ : Q (some (.int (nar t z))) T.heap locs) (hk : cells ≤ k) (hn : slots ≤ n) : @Home p e below (End s Q k n) T (mkF m pc Ls (.int z :: rest)) := by
  obtain ⟨fs, hr, hrun, hended, hW, hsame⟩ := X.leave (v := some (.int (nar t z))) (fun h => by rw [hret] at h; cases h) hlk
  exact ⟨_, _, Jvm.RoadKit.retN X hx hret ht hd hr, hrun, hended, _, _, rfl, hQ, ⟨_, rfl⟩, hW, hsame.mono hk hn⟩
theorem Home.ret (X : Stand p l e R s m args below meth c T locs cells slots) (hx : p.tables.exec = Jvm.exec) (hlk : meth.locks = false) {pc : Nat} {Ls : Array Slot} {w : Value} {t : FieldType} {i : Instr} {rest : List Value} (hret : meth.sig.returnType = some t) (hnn : narrow t w = w)
    (hi : (i = .ireturn ∧ (t = .int ∨ t = .boolean ∨ t = .byte ∨ t = .char ∨ t = .short) ∧ ∃ z, w = .int z) ∨ (i = .lreturn ∧ t = .long ∧ ∃ z, w = .long z) ∨ (i = .dreturn ∧ t = .double ∧ ∃ z, w = .double z) ∨ (i = .freturn ∧ t = .float ∧ ∃ z, w = .float z) ∨ (i = .areturn ∧ t.isReference = true ∧ w.isRef = true))
    (hd : decode c.code pc = .ok (i, 1)) (hQ : Q (some w) T.heap locs) (hk : cells ≤ k) (hn : slots ≤ n) : @Home p e below (End s Q k n) T (mkF m pc Ls (w :: rest)) := by
  obtain ⟨fs, hr, hrun, hended, hW, hsame⟩ := X.leave (v := some w) (fun h => by rw [hret] at h; cases h) hlk
  exact ⟨_, _, retOut X hx hret hnn hi hd hr, hrun, hended, _, _, rfl, hQ, ⟨_, rfl⟩, hW, hsame.mono hk hn⟩
theorem Home.retI (X : Stand p l e R s m args below meth c T locs cells slots) (hx : p.tables.exec = Jvm.exec) (hlk : meth.locks = false) {pc : Nat} {Ls : Array Slot} {z : Int32} {rest : List Value} (hret : meth.sig.returnType = some .int)
    (hd : decode c.code pc = .ok (.ireturn, 1)) (hQ : Q (some (.int z)) T.heap locs) (hk : cells ≤ k) (hn : slots ≤ n) : @Home p e below (End s Q k n) T (mkF m pc Ls (.int z :: rest)) :=
  Home.ret X hx hlk hret rfl (Or.inl ⟨rfl, Or.inl rfl, z, rfl⟩) hd hQ hk hn
theorem Home.retJ (X : Stand p l e R s m args below meth c T locs cells slots) (hx : p.tables.exec = Jvm.exec) (hlk : meth.locks = false) {pc : Nat} {Ls : Array Slot} {z : Int64} {rest : List Value} (hret : meth.sig.returnType = some .long)
    (hd : decode c.code pc = .ok (.lreturn, 1)) (hQ : Q (some (.long z)) T.heap locs) (hk : cells ≤ k) (hn : slots ≤ n) : @Home p e below (End s Q k n) T (mkF m pc Ls (.long z :: rest)) :=
  Home.ret X hx hlk hret rfl (Or.inr (Or.inl ⟨rfl, rfl, z, rfl⟩)) hd hQ hk hn
theorem own_narrow_ref {t : FieldType} {w : Value} (hw : w.isRef = true) : narrow t w = w := by
  rcases ref_cases hw with rfl | ⟨a, rfl⟩ <;> cases t <;> rfl
theorem Home.retR (X : Stand p l e R s m args below meth c T locs cells slots) (hx : p.tables.exec = Jvm.exec) (hlk : meth.locks = false) {pc : Nat} {Ls : Array Slot} {w : Value} {t : FieldType} {rest : List Value} (hret : meth.sig.returnType = some t) (ht : t.isReference = true) (hw : w.isRef = true)
    (hd : decode c.code pc = .ok (.areturn, 1)) (hQ : Q (some w) T.heap locs) (hk : cells ≤ k) (hn : slots ≤ n) : @Home p e below (End s Q k n) T (mkF m pc Ls (w :: rest)) :=
  Home.ret X hx hlk hret (own_narrow_ref hw) (Or.inr (Or.inr (Or.inr (Or.inr ⟨rfl, ht, hw⟩)))) hd hQ hk hn
theorem Home.ret0 (X : Stand p l e R s m args below meth c T locs cells slots) (hx : p.tables.exec = Jvm.exec) (hlk : meth.locks = false) {pc : Nat} {Ls : Array Slot} (hret : meth.sig.returnType = none)
    (hd : decode c.code pc = .ok (.return_, 1)) (hQ : Q none T.heap locs) (hk : cells ≤ k) (hn : slots ≤ n) : @Home p e below (End s Q k n) T (mkF m pc Ls []) := by
  obtain ⟨fs, hr, hrun, hended, hW, hsame⟩ := X.leave (v := none) (fun _ => rfl) hlk
  exact ⟨_, _, X.returnOut hx hret hd hr, hrun, hended, _, _, rfl, hQ, ⟨_, rfl⟩, hW, hsame.mono hk hn⟩
end Walk
section New
variable {p : Program} {l : Launch} {e : Env} {R : Room} {s : State} {m : MethodId} {args : Array Value} {below : List Frame} {meth : Method} {c : Code} {T : State} {locs : List Loc} {cells slots : Nat} {Z : State} {a0 : Array Value} {h : Heap}
theorem own_newO (X : Stand p l e R s m args below meth c T locs cells slots) (hx : p.tables.exec = Jvm.exec) (hZ : Z.Warmed39 s.vm) {own C : String} {index n : Nat} (hown : s.vm.findClass own = some m.cls) (w : (Cond.classLink own index C).before a0 Z = true) (wi : (Cond.instantiable C n).before a0 Z = true) (wz : (Cond.initialized C).before a0 Z = true) (eT : T.heap = h)
    {g : JFrame} (hg : g.method = m) (hd : decode c.code g.pc = .ok (.new index, 3)) (hc : cells + 1 ≤ R.cells) (hl : slots + n ≤ R.slots) :
    ∃ T' h' b, b = h.size ∧ Stand p l e R s m args below meth c T' locs (cells + 1) (slots + n) ∧ T'.heap = h' ∧ Ext h h' ∧ Exa Z h' b C ∧ (∀ {O nm d : String} {ty : FieldType}, Laid Z a0 C O nm d → parseFieldDescriptor d = some ty → Fld Z h' b O nm d (defaultValue ty)) ∧
      ∀ target, Steps p.tables e below (T'.setTop { g with pc := g.pc + 3, stack := .ref b :: g.stack }) target → Steps p.tables e below (T.setTop g) target := by
  obtain ⟨T', h', X', e', E', A', D', -, st⟩ := newO X hx hZ hown w wi wz eT hg hd hc hl
  exact ⟨T', h', _, rfl, X', e', E', A', D', st⟩
theorem own_newP (X : Stand p l e R s m args below meth c T locs cells slots) (hx : p.tables.exec = Jvm.exec) (hZ : Z.Warmed39 s.vm) {aty : ArrayType} (w : (Cond.arrayClass (newarray.typeOf aty)).before a0 Z = true) (eT : T.heap = h) {g : JFrame} (hg : g.method = m) (hd : decode c.code g.pc = .ok (.newarray aty, 2)) {n : Int32} {rest : List Value} (hs : g.stack = .int n :: rest)
    (hn : ¬ n < 0) {cap : Nat} (hcap : n.toNatClampNeg ≤ cap) (hb : cap * 8 ≤ 536870912) (hc : cells + 1 ≤ R.cells) (hl : slots + cap ≤ R.slots) :
    ∃ T' h' cA b, b = h.size ∧ Stand p l e R s m args below meth c T' locs (cells + 1) (slots + cap) ∧ T'.heap = h' ∧ Ext h h' ∧ Arr Z h' b (newA cA (newarray.typeOf aty) n) (newarray.typeOf aty) ∧
      ∀ target, Steps p.tables e below (T'.setTop { g with pc := g.pc + 2, stack := .ref b :: rest }) target → Steps p.tables e below (T.setTop g) target := by
  obtain ⟨T', h', cA, X', e', E', A', st⟩ := newP X hx hZ w eT hg hd hs hn hcap hb hc hl
  exact ⟨T', h', cA, _, rfl, X', e', E', A', st⟩
end New
section Run
variable {p : Program} {l : Launch} {e : Env} {R : Room} {s : State} {m : MethodId} {args : Array Value} {below : List Frame} {meth : Method} {c : Code} {T : State} {locs : List Loc} {cells slots : Nat} {target : State}
def un32 (f : Int32 → Value) (S : List Value) : Option (List Value) := match S with | .int x :: r => some (f x :: r) | _ => none
def un64 (f : Int64 → Value) (S : List Value) : Option (List Value) := match S with | .long x :: r => some (f x :: r) | _ => none
def bi32 (f : Int32 → Int32 → Int32) (S : List Value) : Option (List Value) := match S with | .int y :: .int x :: r => some (.int (f x y) :: r) | _ => none
def bi64 (f : Int64 → Int64 → Value) (S : List Value) : Option (List Value) := match S with | .long y :: .long x :: r => some (f x y :: r) | _ => none
def sh64 (f : Int64 → Int32 → Int64) (S : List Value) : Option (List Value) := match S with | .int y :: .long x :: r => some (.long (f x y) :: r) | _ => none
/-- the stack behind an instruction that reads and writes the stack alone -/
def stk (i : Instr) (S : List Value) : Option (List Value) := match i with
  | .iconst k => some (.int (Int32.ofInt k) :: S)
  | .bipush k => some (.int (Int8.ofInt k).toInt32 :: S)
  | .sipush k => some (.int (Int16.ofInt k).toInt32 :: S)
  | .lconst k => some (.long (Int64.ofNat k) :: S)
  | .aconst_null => some (.null :: S)
  | .iadd => bi32 (· + ·) S
  | .isub => bi32 (· - ·) S
  | .imul => bi32 (· * ·) S
  | .iand => bi32 (· &&& ·) S
  | .ior => bi32 (· ||| ·) S
  | .ixor => bi32 (· ^^^ ·) S
  | .ishl => bi32 (fun x y => x <<< (y &&& 31)) S
  | .ishr => bi32 (fun x y => x >>> (y &&& 31)) S
  | .iushr => bi32 (fun x y => (x.toUInt32 >>> (y &&& 31).toUInt32).toInt32) S
  | .ladd => bi64 (fun x y => .long (x + y)) S
  | .lsub => bi64 (fun x y => .long (x - y)) S
  | .lmul => bi64 (fun x y => .long (x * y)) S
  | .land => bi64 (fun x y => .long (x &&& y)) S
  | .lor => bi64 (fun x y => .long (x ||| y)) S
  | .lxor => bi64 (fun x y => .long (x ^^^ y)) S
  | .lcmp => bi64 (fun x y => .int (if x > y then 1 else if x = y then 0 else -1)) S
  | .lshl => sh64 (fun x y => x <<< (y &&& 0x3f).toInt64) S
  | .lshr => sh64 (fun x y => x >>> (y &&& 0x3f).toInt64) S
  | .lushr => sh64 (fun x y => (x.toUInt64 >>> (y &&& 0x3f).toInt64.toUInt64).toInt64) S
  | .ineg => un32 (fun x => .int (-x)) S
  | .lneg => un64 (fun x => .long (-x)) S
  | .i2l => un32 (fun x => .long x.toInt64) S
  | .l2i => un64 (fun x => .int x.toInt32) S
  | .i2b => un32 (fun x => .int x.toInt8.toInt32) S
  | .i2c => un32 (fun x => .int x.toUInt32.toUInt16.toUInt32.toInt32) S
  | .i2s => un32 (fun x => .int x.toInt16.toInt32) S
  | .dup => match S with | x :: r => if x.category = 1 then some (x :: x :: r) else none | _ => none
  | .pop => match S with | x :: r => if x.category = 1 then some r else none | _ => none
  | .dup_x1 => match S with | x :: y :: r => if x.category = 1 ∧ y.category = 1 then some (x :: y :: x :: r) else none | _ => none
  | _ => none
theorem un32_s {f : Int32 → Value} {S S' : List Value} (h : un32 f S = some S') : ∃ x r, S = .int x :: r ∧ S' = f x :: r := by
  unfold un32 at h; split at h
  · cases h; exact ⟨_, _, rfl, rfl⟩
  · cases h
theorem un64_s {f : Int64 → Value} {S S' : List Value} (h : un64 f S = some S') : ∃ x r, S = .long x :: r ∧ S' = f x :: r := by
  unfold un64 at h; split at h
  · cases h; exact ⟨_, _, rfl, rfl⟩
  · cases h
theorem bi32_s {f : Int32 → Int32 → Int32} {S S' : List Value} (h : bi32 f S = some S') : ∃ x y r, S = .int y :: .int x :: r ∧ S' = .int (f x y) :: r := by
  unfold bi32 at h; split at h
  · cases h; exact ⟨_, _, _, rfl, rfl⟩
  · cases h
theorem bi64_s {f : Int64 → Int64 → Value} {S S' : List Value} (h : bi64 f S = some S') : ∃ x y r, S = .long y :: .long x :: r ∧ S' = f x y :: r := by
  unfold bi64 at h; split at h
  · cases h; exact ⟨_, _, _, rfl, rfl⟩
  · cases h
theorem sh64_s {f : Int64 → Int32 → Int64} {S S' : List Value} (h : sh64 f S = some S') : ∃ x y r, S = .int y :: .long x :: r ∧ S' = .long (f x y) :: r := by
  unfold sh64 at h; split at h
  · cases h; exact ⟨_, _, _, rfl, rfl⟩
  · cases h
def len1 (i : Instr) : Nat := match i with | .bipush _ => 2 | .sipush _ => 3 | _ => 1
theorem stk_s (X : Stand p l e R s m args below meth c T locs cells slots) (hx : p.tables.exec = Jvm.exec) {i : Instr} {n pc : Nat} {L : Array Slot} {S S' : List Value} (hd : decode c.code pc = .ok (i, n)) (hn : n = len1 i) (h : stk i S = some S')
    (H : Steps p.tables e below (T.setTop (mkF m (pc + n) L S')) target) : Steps p.tables e below (T.setTop (mkF m pc L S)) target := by
  subst hn
  unfold stk at h
  split at h <;> first
    | (cases h; first | exact XS.iconst X.here hx rfl hd H | exact XS.bipush X.here hx rfl hd H | exact XS.sipush X.here hx rfl hd H | exact XS.lconst X.here hx rfl hd H | exact XS.aconstNull X.here hx rfl hd H)
    | (obtain ⟨x, y, r, rfl, rfl⟩ := bi32_s h; first | exact XS.iadd X.here hx rfl hd rfl H | exact XS.isub X.here hx rfl hd rfl H | exact XS.imul X.here hx rfl hd rfl H | exact XS.iand X.here hx rfl hd rfl H | exact XS.ior X.here hx rfl hd rfl H | exact XS.ixor X.here hx rfl hd rfl H | exact XS.ishl X.here hx rfl hd rfl H | exact XS.ishr X.here hx rfl hd rfl H | exact XS.iushr X.here hx rfl hd rfl H)
    | (obtain ⟨x, y, r, rfl, rfl⟩ := bi64_s h; first | exact XS.ladd X.here hx rfl hd rfl H | exact XS.lsub X.here hx rfl hd rfl H | exact XS.lmul X.here hx rfl hd rfl H | exact XS.land X.here hx rfl hd rfl H | exact XS.lor X.here hx rfl hd rfl H | exact XS.lxor X.here hx rfl hd rfl H | exact XS.lcmp X.here hx rfl hd rfl H)
    | (obtain ⟨x, y, r, rfl, rfl⟩ := sh64_s h; first | exact XS.lshl X.here hx rfl hd rfl H | exact XS.lshr X.here hx rfl hd rfl H | exact XS.lushr X.here hx rfl hd rfl H)
    | (obtain ⟨x, r, rfl, rfl⟩ := un32_s h; first | exact XS.ineg X.here hx rfl hd rfl H | exact XS.i2l X.here hx rfl hd rfl H | exact XS.i2b X.here hx rfl hd rfl H | exact XS.i2c X.here hx rfl hd rfl H | exact XS.i2s X.here hx rfl hd rfl H)
    | (obtain ⟨x, r, rfl, rfl⟩ := un64_s h; first | exact XS.lneg X.here hx rfl hd rfl H | exact XS.l2i X.here hx rfl hd rfl H)
    | (split at h <;> (try split at h) <;> first | (cases h; done) | (rename_i q; cases h; first | exact XS.dup X.here hx rfl hd rfl q H | exact XS.pop X.here hx rfl hd rfl q H | exact XS.dupX1 X.here hx rfl hd rfl q.1 q.2 H))
    | cases h
def ldI (L : Array Slot) (S : List Value) (k : Nat) : Option (Array Slot × List Value) := match L[k]? with | some (.val (.int v)) => some (L, .int v :: S) | _ => none
def ldJ (L : Array Slot) (S : List Value) (k : Nat) : Option (Array Slot × List Value) := match L[k]? with | some (.val (.long v)) => some (L, .long v :: S) | _ => none
def ldA (L : Array Slot) (S : List Value) (k : Nat) : Option (Array Slot × List Value) := match L[k]? with | some (.val v) => if v.isRef = true then some (L, v :: S) else none | _ => none
def stI1 (L : Array Slot) (S : List Value) (k : Nat) : Option (Array Slot × List Value) := match S with | .int x :: r => (storeLocals L k (.int x)).map fun l' => (l', r) | _ => none
def stJ1 (L : Array Slot) (S : List Value) (k : Nat) : Option (Array Slot × List Value) := match S with | .long x :: r => (storeLocals L k (.long x)).map fun l' => (l', r) | _ => none
def stA1 (L : Array Slot) (S : List Value) (k : Nat) : Option (Array Slot × List Value) := match S with | x :: r => if x.isRef = true then (storeLocals L k x).map fun l' => (l', r) else none | _ => none
/-- what an instruction does to pc, locals and stack; nothing else is touched -/
def run1 (i : Instr) (n pc : Nat) (L : Array Slot) (S : List Value) : Option (Nat × Array Slot × List Value) := match i with
  | .iload_n k => if n = 1 then (ldI L S k.val).map (pc + n, ·) else none
  | .iload k => if n = 2 then (ldI L S k).map (pc + n, ·) else none
  | .lload_n k => if n = 1 then (ldJ L S k.val).map (pc + n, ·) else none
  | .lload k => if n = 2 then (ldJ L S k).map (pc + n, ·) else none
  | .aload_n k => if n = 1 then (ldA L S k.val).map (pc + n, ·) else none
  | .aload k => if n = 2 then (ldA L S k).map (pc + n, ·) else none
  | .istore_n k => if n = 1 then (stI1 L S k.val).map (pc + n, ·) else none
  | .istore k => if n = 2 then (stI1 L S k).map (pc + n, ·) else none
  | .lstore_n k => if n = 1 then (stJ1 L S k.val).map (pc + n, ·) else none
  | .lstore k => if n = 2 then (stJ1 L S k).map (pc + n, ·) else none
  | .astore_n k => if n = 1 then (stA1 L S k.val).map (pc + n, ·) else none
  | .astore k => if n = 2 then (stA1 L S k).map (pc + n, ·) else none
  | .iinc k cst => if n = 3 then (match L[k]? with | some (.val (.int x)) => (storeLocals L k (.int (x + Int32.ofInt cst))).map fun l' => (pc + n, l', S) | _ => none) else none
  | .goto o => if n = 3 then (if 0 ≤ (pc : Int) + o then some (((pc : Int) + o).toNat, L, S) else none) else none
  | i => if n = len1 i then (stk i S).map fun S' => (pc + n, L, S') else none
theorem ldI_s {L L' : Array Slot} {S S' : List Value} {k : Nat} (h : ldI L S k = some (L', S')) : ∃ v, L[k]? = some (.val (.int v)) ∧ L' = L ∧ S' = .int v :: S := by
  unfold ldI at h; split at h
  · cases h; exact ⟨_, by assumption, rfl, rfl⟩
  · cases h
theorem ldJ_s {L L' : Array Slot} {S S' : List Value} {k : Nat} (h : ldJ L S k = some (L', S')) : ∃ v, L[k]? = some (.val (.long v)) ∧ L' = L ∧ S' = .long v :: S := by
  unfold ldJ at h; split at h
  · cases h; exact ⟨_, by assumption, rfl, rfl⟩
  · cases h
theorem ldA_s {L L' : Array Slot} {S S' : List Value} {k : Nat} (h : ldA L S k = some (L', S')) : ∃ v, L[k]? = some (.val v) ∧ v.isRef = true ∧ L' = L ∧ S' = v :: S := by
  unfold ldA at h; split at h
  · split at h
    · cases h; exact ⟨_, by assumption, by assumption, rfl, rfl⟩
    · cases h
  · cases h
theorem stI1_s {L L' : Array Slot} {S S' : List Value} {k : Nat} (h : stI1 L S k = some (L', S')) : ∃ x, S = .int x :: S' ∧ storeLocals L k (.int x) = some L' := by
  unfold stI1 at h; split at h
  · rw [Option.map_eq_some_iff] at h; obtain ⟨l', h1, h2⟩ := h; cases h2; exact ⟨_, rfl, h1⟩
  · cases h
theorem stJ1_s {L L' : Array Slot} {S S' : List Value} {k : Nat} (h : stJ1 L S k = some (L', S')) : ∃ x, S = .long x :: S' ∧ storeLocals L k (.long x) = some L' := by
  unfold stJ1 at h; split at h
  · rw [Option.map_eq_some_iff] at h; obtain ⟨l', h1, h2⟩ := h; cases h2; exact ⟨_, rfl, h1⟩
  · cases h
theorem stA1_s {L L' : Array Slot} {S S' : List Value} {k : Nat} (h : stA1 L S k = some (L', S')) : ∃ x, S = x :: S' ∧ x.isRef = true ∧ storeLocals L k x = some L' := by
  unfold stA1 at h; split at h
  · split at h
    · rw [Option.map_eq_some_iff] at h; obtain ⟨l', h1, h2⟩ := h; cases h2; exact ⟨_, rfl, by assumption, h1⟩
    · cases h
  · cases h
theorem map_s {α β : Type} {o : Option α} {f : α → β} {y : β} (h : o.map f = some y) : ∃ x, o = some x ∧ f x = y := Option.map_eq_some_iff.mp h
theorem run1_s (X : Stand p l e R s m args below meth c T locs cells slots) (hx : p.tables.exec = Jvm.exec) {i : Instr} {n pc pc' : Nat} {L L' : Array Slot} {S S' : List Value} (hd : decode c.code pc = .ok (i, n)) (h : run1 i n pc L S = some (pc', L', S'))
    (H : Steps p.tables e below (T.setTop (mkF m pc' L' S')) target) : Steps p.tables e below (T.setTop (mkF m pc L S)) target := by
  unfold run1 at h
  split at h <;> split at h <;> first
    | (cases h; done)
    | (rename_i hn; subst hn; obtain ⟨⟨L1, S1⟩, h1, h2⟩ := map_s h; cases h2; first
        | (obtain ⟨v, q1, rfl, rfl⟩ := ldI_s h1; first | exact XS.iloadN X.here hx rfl hd q1 H | exact XS.iload X.here hx rfl hd q1 H)
        | (obtain ⟨v, q1, rfl, rfl⟩ := ldJ_s h1; first | exact XS.lloadN X.here hx rfl hd q1 H | exact XS.lload X.here hx rfl hd q1 H)
        | (obtain ⟨v, q1, q2, rfl, rfl⟩ := ldA_s h1; first | exact XS.aloadN X.here hx rfl hd q1 q2 H | exact XS.aload X.here hx rfl hd q1 q2 H)
        | (obtain ⟨x, rfl, q⟩ := stI1_s h1; first | exact XS.istoreN X.here hx rfl hd rfl q H | exact XS.istore X.here hx rfl hd rfl q H)
        | (obtain ⟨x, rfl, q⟩ := stJ1_s h1; first | exact XS.lstoreN X.here hx rfl hd rfl q H | exact XS.lstore X.here hx rfl hd rfl q H)
        | (obtain ⟨x, rfl, q1, q⟩ := stA1_s h1; first | exact XS.astoreN X.here hx rfl hd rfl q1 q H | exact XS.astore X.here hx rfl hd rfl q1 q H))
    | (rename_i hn; subst hn; split at h <;> first
        | (cases h; done)
        | (rename_i q; obtain ⟨l', h1, h2⟩ := map_s h; cases h2; exact XS.iinc X.here hx rfl hd q h1 H)
        | (rename_i q; cases h; exact XS.goto X.here hx rfl (pc0 := pc) rfl hd q rfl H))
    | (rename_i hn; obtain ⟨S1, h1, h2⟩ := map_s h; cases h2; exact stk_s X hx hd hn h1 H)
def runs : List (Nat × Instr × Nat) → Nat → Array Slot → List Value → Option (Nat × Array Slot × List Value)
  | [], pc, L, S => some (pc, L, S)
  | (q, i, n) :: is, pc, L, S => if q = pc then (match run1 i n pc L S with | some (pc', L', S') => runs is pc' L' S' | none => none) else none
def decs (code : ByteArray) : List (Nat × Instr × Nat) → Prop
  | [] => True
  | (q, i, n) :: is => decode code q = .ok (i, n) ∧ decs code is
theorem runs_s (X : Stand p l e R s m args below meth c T locs cells slots) (hx : p.tables.exec = Jvm.exec) {pc' : Nat} {L' : Array Slot} {S' : List Value} (H : Steps p.tables e below (T.setTop (mkF m pc' L' S')) target) :
    ∀ (is : List (Nat × Instr × Nat)) (pc : Nat) (L : Array Slot) (S : List Value), decs c.code is → runs is pc L S = some (pc', L', S') → Steps p.tables e below (T.setTop (mkF m pc L S)) target
  | [], pc, L, S, _, h => by cases h; exact H
  | (q, i, n) :: is, pc, L, S, hd, h => by
    unfold runs at h
    split at h
    · rename_i e1; subst e1
      split at h
      · rename_i pc1 L1 S1 h1
        exact run1_s X hx hd.1 h1 (runs_s X hx H is pc1 L1 S1 hd.2 h)
      · cases h
    · cases h
variable {P : Option Value → State → List Loc → Prop}
theorem Home.run (X : Stand p l e R s m args below meth c T locs cells slots) (hx : p.tables.exec = Jvm.exec) {bytes : ByteArray} (hby : c.code = bytes) {is : List (Nat × Instr × Nat)} (hd : decs bytes is) {pc pc' : Nat} {L L' : Array Slot} {S S' : List Value} (h : runs is pc L S = some (pc', L', S'))
    (H : @Home p e below P T (mkF m pc' L' S')) : @Home p e below P T (mkF m pc L S) :=
  Home.go (fun _ kt => runs_s X hx kt is pc L S (by rw [hby]; exact hd) h) H
end Run
section Calls
variable {p : Program} {l : Launch} {e : Env} {R : Room} {s : State} {m : MethodId} {args : Array Value} {below : List Frame} {meth : Method} {c : Code} {T : State} {locs : List Loc} {cells slots : Nat} {Z : State} {a0 : Array Value} {h : Heap} {y z : MethodName} {bytes : ByteArray} {maxL : Nat} {ret : Option FieldType} {rm : Room} {W : Nat} {as' : Array Value} {Q : Option Value → Heap → List Loc → Prop} {own C : String} {index : Nat}
/-- a body's contract, at one heap and one list of arguments -/
abbrev Con (l : Launch) (Z : State) (y : MethodName) (bytes : ByteArray) (maxL : Nat) (ret : Option FieldType) (ws : List Jvm.Cond) (rm : Room) (as' : Array Value) (h : Heap) (Q : Option Value → Heap → List Loc → Prop) : Prop :=
  MetFree l y (head1 (Jvm.Cond.code y bytes maxL ret :: ws) rm) (fun a U => a = as' ∧ Z.Warmed39 U.vm ∧ U.heap = h) (fun _ _ _ _ _ => True) (fun _ U o U' => ∃ v L, o = .returned v ∧ Q v U'.heap L ∧ FrameEnd U o U' L rm.cells rm.slots)
/-- it leaves the heap as it was -/
abbrev Pur (w : Option Value) (h0 : Heap) : Option Value → Heap → List Loc → Prop := fun v h L => v = w ∧ L = [] ∧ h = h0
/-- from a walk that comes home to the contract -/
theorem own_body {ws : List Jvm.Cond} {L0 : Array Slot} (pn : plainFor y = true) (ef : ∀ m, entryFrame m as' maxL = mkF m 0 L0 [])
    (body : ∀ (p : Program) (e : Env) (s : State) (m : MethodId) (below : List Frame) (meth : Method) (c : Code) (s₁ : State), p.tables.exec = Jvm.exec → c.code = bytes → meth.locks = false → c.maxLocals = maxL → meth.sig.returnType = ret → Z.Warmed39 s.vm → s.vm.findClass y.cls = some m.cls → meth.name = y.name →
      Stand p l e rm s m as' below meth c s₁ [] 0 0 → s₁.heap = h → @Home p e below (End s Q rm.cells rm.slots) s₁ (mkF m 0 L0 [])) : Con l Z y bytes maxL ret ws rm as' h Q := by
  refine MetFree.of_bodySF pn hisR ?_
  intro p e s m args below meth c s₁ Bd hml0 hP hK
  obtain ⟨rfl, hZ, hh⟩ := hP
  have H : @Home p e below (End s Q rm.cells rm.slots) s₁ (entryFrame m args maxL) := Home.enter (ef m) (body p e s m below meth c s₁ Bd.exec Bd.bytes (BodyLoose.notSynchronized Bd) hml0 Bd.returns hZ (findClass_of_methodNamed Bd.named) (name_of_methodNamed Bd.named Bd.method).1 (Stand.of_body Bd) (by rw [← hh, Bd.state]; rfl))
  obtain ⟨U, o, h1, h2, h3, v, L, rfl, h4, h5⟩ := H
  exact ⟨U, _, h1, h2, h3, v, L, rfl, h4, h5⟩
theorem own_static (X : Stand p l e R s m args below meth c T locs cells slots) (hx : p.tables.exec = Jvm.exec) (hZ : Z.Warmed39 s.vm) (hown : s.vm.findClass own = some m.cls)
    (w1 : (Cond.methodLink own index y).before a0 Z = true) (w2 : (Cond.static y).before a0 Z = true) (w3 : (Cond.initialized y.cls).before a0 Z = true) (w4 : (Cond.code y bytes maxL ret).before a0 Z = true)
    (hy : y.cls ≠ "java/lang/invoke/MethodHandle" ∧ y.cls ≠ "java/lang/invoke/VarHandle") (hM : Con l Z y bytes maxL ret [] rm as' h Q) (eT : T.heap = h)
    {g : JFrame} (hg : g.method = m) (hsize : g.locals.size = c.maxLocals) {argsL rest : List Value} (hlen : ∀ sig, parseMethodDescriptor y.desc = some sig → argsL.length = sig.parameters.length) (hstack : g.stack = argsL.reverse ++ rest) (ha : argsL.toArray = as')
    (hW : 2 * g.monitorRoom + (rest.map fun v => v.category).sum ≤ W) (hf : rm.frames + 1 ≤ R.frames) (hl : W + (maxL + 11) + rm.locals ≤ R.locals)
    (hdg : decode c.code g.pc = .ok (.invokestatic index, 3)) (hc : cells + rm.cells ≤ R.cells) (hs : slots + rm.slots ≤ R.slots) :
    ∃ v T' L, Stand p l e R s m args below meth c T' (locs ++ L) (cells + rm.cells) (slots + rm.slots) ∧ Q v T'.heap L ∧
      ∀ t, Steps p.tables e below (T'.setTop { g with pc := g.pc + 3, stack := v.toList ++ rest }) t → Steps p.tables e below (T.setTop g) t := by
  obtain ⟨v, _, ⟨T', L', k', n'⟩, -, X', ⟨L, hQ, l', y', z'⟩, st⟩ := Jvm.LawKit.callS X hx (y := y) hown (mvT hZ w1) (mvT hZ w2) (mvT hZ w3) (mvT hZ w4) hy (backOf (W := W) hM hZ w4 w3 hf hl) hg hsize hlen hstack hW hdg (fun _ _ => ⟨ha, eT, hc, hs⟩)
  dsimp only [Pt.U, Pt.locs, Pt.cells, Pt.slots] at X' l' y' z' st hQ
  subst l' y' z'
  exact ⟨v, T', L, X', hQ, st⟩
theorem own_special (X : Stand p l e R s m args below meth c T locs cells slots) (hx : p.tables.exec = Jvm.exec) (hZ : Z.Warmed39 s.vm) (hown : s.vm.findClass own = some m.cls) (hy1 : y.name = "<init>")
    (w1 : (Cond.methodLink own index y).before a0 Z = true) (w2 : (Cond.instanceMethod y).before a0 Z = true) (w3 : (Cond.initialized y.cls).before a0 Z = true) (w4 : (Cond.code y bytes maxL none).before a0 Z = true)
    (hy : y.cls ≠ "java/lang/invoke/MethodHandle" ∧ y.cls ≠ "java/lang/invoke/VarHandle") (hM : Con l Z y bytes maxL none [] rm as' h Q) (eT : T.heap = h)
    {g : JFrame} (hg : g.method = m) (hsize : g.locals.size = c.maxLocals) {a : Addr} {argsL rest : List Value} (hlen : ∀ sig, parseMethodDescriptor y.desc = some sig → argsL.length = sig.parameters.length) (hstack : g.stack = argsL.reverse ++ .ref a :: rest) (ha : (.ref a :: argsL).toArray = as')
    (hW : 2 * g.monitorRoom + (rest.map fun v => v.category).sum ≤ W) (hf : rm.frames + 1 ≤ R.frames) (hl : W + (maxL + 11) + rm.locals ≤ R.locals)
    (hdg : decode c.code g.pc = .ok (.invokespecial index, 3)) (hc : cells + rm.cells ≤ R.cells) (hs : slots + rm.slots ≤ R.slots) :
    ∃ v T' L, Stand p l e R s m args below meth c T' (locs ++ L) (cells + rm.cells) (slots + rm.slots) ∧ Q v T'.heap L ∧
      ∀ t, Steps p.tables e below (T'.setTop { g with pc := g.pc + 3, stack := v.toList ++ rest }) t → Steps p.tables e below (T.setTop g) t := by
  obtain ⟨v, _, ⟨T', L', k', n'⟩, -, X', ⟨L, hQ, l', y', z'⟩, st⟩ := X.specialBack hx (y := y) hy1 hown (mvT hZ w1) (mvT hZ w2) (mvT hZ w4) hy (backOf (W := W) hM hZ w4 w3 hf hl) hg hsize (Steps.refl _) (a := a) hlen hstack hW hdg (fun _ _ => ⟨ha, eT, hc, hs⟩)
  dsimp only [Pt.U, Pt.locs, Pt.cells, Pt.slots] at X' l' y' z' st hQ
  subst l' y' z'
  exact ⟨v, T', L, X', hQ, fun t k => st.trans k⟩
theorem own_virtual (X : Stand p l e R s m args below meth c T locs cells slots) (hx : p.tables.exec = Jvm.exec) (hZ : Z.Warmed39 s.vm) (hown : s.vm.findClass own = some m.cls)
    (w1 : (Cond.methodLink own index y).before a0 Z = true) (w2 : (Cond.declares y).before a0 Z = true) (hnf : NotFace s y) (w3 : (Cond.selects C y z).before a0 Z = true) (w4 : (Cond.instanceMethod z).before a0 Z = true) (w5 : (Cond.initialized z.cls).before a0 Z = true) (w6 : (Cond.code z bytes maxL ret).before a0 Z = true)
    (hy : y.cls ≠ "java/lang/invoke/MethodHandle" ∧ y.cls ≠ "java/lang/invoke/VarHandle") (hM : Con l Z z bytes maxL ret [] rm as' h Q) (eT : T.heap = h) {a : Addr} (E : Exa Z h a C)
    {g : JFrame} (hg : g.method = m) (hsize : g.locals.size = c.maxLocals) {argsL rest : List Value} (hlen : ∀ sig, parseMethodDescriptor y.desc = some sig → argsL.length = sig.parameters.length) (hstack : g.stack = argsL.reverse ++ .ref a :: rest) (ha : (.ref a :: argsL).toArray = as')
    (hW : 2 * g.monitorRoom + (rest.map fun v => v.category).sum ≤ W) (hf : rm.frames + 1 ≤ R.frames) (hl : W + (maxL + 11) + rm.locals ≤ R.locals)
    (hdg : decode c.code g.pc = .ok (.invokevirtual index, 3)) (hc : cells + rm.cells ≤ R.cells) (hs : slots + rm.slots ≤ R.slots) :
    ∃ v T' L, Stand p l e R s m args below meth c T' (locs ++ L) (cells + rm.cells) (slots + rm.slots) ∧ Q v T'.heap L ∧
      ∀ t, Steps p.tables e below (T'.setTop { g with pc := g.pc + 3, stack := v.toList ++ rest }) t → Steps p.tables e below (T.setTop g) t := by
  obtain ⟨cB, kB, q1, q2, q3⟩ := isOf hZ eT E
  obtain ⟨v, _, ⟨T', L', k', n'⟩, -, X', ⟨L, hQ, l', y', z'⟩, st⟩ := X.virtualBack hx (y := y) (z := z) hown (mvT hZ w1) (mvT hZ w2) hnf (mvT hZ w3) (mvT hZ w4) hy (backOf (W := W) hM hZ w6 w5 hf hl) q1 q3 hg hsize (Steps.refl _) hlen hstack hW hdg (fun _ _ => ⟨ha, eT, hc, hs⟩)
  dsimp only [Pt.U, Pt.locs, Pt.cells, Pt.slots] at X' l' y' z' st hQ
  subst l' y' z'
  exact ⟨v, T', L, X', hQ, fun t k => st.trans k⟩
/-- a call that left the heap as it was -/
theorem own_pure {w : Option Value} {g : JFrame} {g' : Option Value → JFrame} (q : ∃ v T' L, Stand p l e R s m args below meth c T' (locs ++ L) (cells + rm.cells) (slots + rm.slots) ∧ Pur w h v T'.heap L ∧ ∀ t, Steps p.tables e below (T'.setTop (g' v)) t → Steps p.tables e below (T.setTop g) t)
    (hc : rm.cells = 0 := by rfl) (hs : rm.slots = 0 := by rfl) : ∃ T', Stand p l e R s m args below meth c T' locs cells slots ∧ T'.heap = h ∧ ∀ t, Steps p.tables e below (T'.setTop (g' w)) t → Steps p.tables e below (T.setTop g) t := by
  obtain ⟨v, T', L, X', ⟨rfl, rfl, hh⟩, st⟩ := q
  rw [List.append_nil, hc, hs] at X'
  exact ⟨T', X', hh, st⟩
end Calls
section Facts
variable {Z : State} {h h' : Heap} {a b : Addr} {C n d : String} {v : Value} {n0 : Nat}
theorem Old.le (O : Old Z n0 h) : n0 ≤ h.size := O.1 ▸ O.2.1
end Facts
end Jvm.OwnKit
namespace Jvm.OwnKit
open Jvm Jvm.ClassFile Sem Op Lib Jvm.Free Jvm.Stand Jvm.LawKit Jvm.RoadKit
section Arrays
variable {p : Program} {l : Launch} {e : Env} {R : Room} {s : State} {m : MethodId} {args : Array Value} {below : List Frame} {meth : Method} {c : Code} {T : State} {locs : List Loc} {cells slots : Nat} {Z : State} {h : Heap}
theorem own_alen (X : Stand p l e R s m args below meth c T locs cells slots) (hx : p.tables.exec = Jvm.exec) (hZ : Z.Warmed39 s.vm) (eT : T.heap = h) {a : Addr} {cl : Cell} {ty : FieldType} {z : Int32} (A : Arr Z h a cl ty) (S : cl.slots.size = z.toNatClampNeg) (M : ¬ z < 0)
    {g : JFrame} (hg : g.method = m) {rest : List Value} (hs : g.stack = .ref a :: rest) (hd : decode c.code g.pc = .ok (.arraylength, 1)) :
    ∀ t, Steps p.tables e below (T.setTop { g with pc := g.pc + 1, stack := .int z :: rest }) t → Steps p.tables e below (T.setTop g) t := fun t k =>
  X.arraylength hx (by rw [eT]; exact A.1) (State.isArrayOf_alike hZ.alike A.2.1) hg hs hd _ (by rw [len_of S M]; exact k)
/-- what stands at a place that is a number -/
def own_at (vs : List Int32) (j : Int32) : Int32 := vs.getD j.toNatClampNeg 0
theorem own_getD (vs : List Int32) (i : Nat) : (vs.map Value.int).getD i (.int 0) = .int (vs.getD i 0) := by
  simp only [List.getD_eq_getElem?_getD, List.getElem?_map]
  cases vs[i]? <;> rfl
/-- a write at a place that is a number -/
theorem own_setS {a : Addr} {k : ClassId} {ty : FieldType} {z j : Int32} {vs : List Int32} {h' : Heap} {x : Int32} {cl : Cell} (A : Arr Z h a cl ty) (q1 : cl.cls = k) (S : cl.slots.size = z.toNatClampNeg) (q3 : ¬ z < 0) (H : Has cl (vs.map Value.int) (.int 0)) (G : ∀ i, i < cl.slots.size → fits ty ((vs.map Value.int).getD i (.int 0)) = true) (hv : fits ty (.int x) = true) (W : Wr h h' a j.toNatClampNeg (.int x)) (hj : j.toNatClampNeg < vs.length) {ws : List Int32} (hws : vs.set j.toNatClampNeg x = ws) : Arv Z h' a k ty z (ws.map Value.int) (.int 0) := by
  subst hws
  have := Arv.set A q1 S q3 H G hv W j.toNatClampNeg rfl (by simpa using hj)
  rwa [← List.map_set] at this
end Arrays
end Jvm.OwnKit
namespace Jvm.OwnKit
open Jvm Jvm.ClassFile Sem Op Lib Jvm.Free Jvm.Stand Jvm.LawKit Jvm.RoadKit
theorem Ins.keep {Z : State} {h h' : Heap} {a : Addr} {C : String} {b : Bool} {ws : List Addr} (F : Ins Z h a C b) (K : Keep h h' ws) : Ins Z h' a C b := by
  obtain ⟨cell, cT, h1, h2, h3⟩ := F
  obtain ⟨c', e1, e2, e3, -⟩ := K.2.2 _ _ h1
  exact ⟨c', cT, e1, h2, by rw [e2, e3]; exact h3⟩
section Bounds
variable {x y a b c d : Int32}
theorem bnd_ite {c : Prop} [Decidable c] {a b lo hi : Int32} (ha : ¬ a < lo ∧ ¬ hi < a) (hb : ¬ b < lo ∧ ¬ hi < b) : ¬ (if c then a else b) < lo ∧ ¬ hi < (if c then a else b) := by
  split
  · exact ha
  · exact hb
theorem bnd_and (x m : Int32) (h : 0 ≤ m.toInt) : ¬ (x &&& m) < (0 : Int32) ∧ ¬ m < (x &&& m) := by
  have q := c_and x m h
  have e : (0 : Int32).toInt = 0 := rfl
  rw [Int32.lt_iff_toInt_lt, Int32.lt_iff_toInt_lt, e]; omega
theorem bnd_mono (h : ¬ x < a ∧ ¬ b < x) (h1 : c.toInt ≤ a.toInt) (h2 : b.toInt ≤ d.toInt) : ¬ x < c ∧ ¬ d < x := by
  simp only [Int32.lt_iff_toInt_lt] at *; omega
theorem bnd_lt (h : ¬ x < a ∧ ¬ b < x) (k : ¬ y < c ∧ ¬ d < y) (q : b.toInt < c.toInt) : x < y := by
  simp only [Int32.lt_iff_toInt_lt] at *; omega
theorem bnd_nlt (h : ¬ x < a ∧ ¬ b < x) (k : ¬ y < c ∧ ¬ d < y) (q : d.toInt ≤ a.toInt) : ¬ x < y := by
  simp only [Int32.lt_iff_toInt_lt] at *; omega
theorem bnd_rem (h : ¬ x < a ∧ ¬ b < x) (h1 : 0 ≤ a.toInt) (h2 : 0 < y.toInt) : ¬ (x % y) < (0 : Int32) ∧ ¬ (y - 1) < (x % y) := by
  have q := (c_iremV x y).1
  have e : (0 : Int32).toInt = 0 := rfl
  have e1 := c_isub y 1
  have e2 : (1 : Int32).toInt = 1 := rfl
  have r := rng32 y
  have r2 := rng32 (y - 1)
  simp only [Int32.lt_iff_toInt_lt, e] at *
  have h0 : 0 ≤ x.toInt := by omega
  have q := q h0 h2
  omega
theorem own_capb {n hi lo : Int32} {cap : Nat} (h : ¬ n < lo ∧ ¬ hi < n) (q : hi.toInt ≤ cap) : n.toNatClampNeg ≤ cap := by
  have h2 := h.2; rw [Int32.lt_iff_toInt_lt] at h2; simp only [Int32.toNatClampNeg]; omega
theorem own_shr0 (x : Int32) : x >>> ((0 : Int32) &&& 31) = x := by
  rw [show ((0 : Int32) &&& 31) = 0 from by decide]; simp
theorem bnd_add {lo hi : Int32} (h : ¬ x < a ∧ ¬ b < x) (k : ¬ y < c ∧ ¬ d < y) (q1 : lo.toInt = a.toInt + c.toInt) (q2 : hi.toInt = b.toInt + d.toInt) (q3 : -2147483648 ≤ a.toInt + c.toInt) (q4 : b.toInt + d.toInt < 2147483648) : ¬ (x + y) < lo ∧ ¬ hi < (x + y) := by
  have e := c_iadd x y
  have r := rng32 (x + y)
  simp only [Int32.lt_iff_toInt_lt] at *
  omega
theorem bnd_ushr (x : Int32) {q hi : Int32} {k : Nat} (hk : q.toBitVec.toNat % 32 = k ∧ 0 < k) (hh : hi.toInt = 4294967296 / (2 ^ k : Nat) - 1) : ¬ ((x.toUInt32 >>> (q &&& 31).toUInt32).toInt32) < (0 : Int32) ∧ ¬ hi < ((x.toUInt32 >>> (q &&& 31).toUInt32).toInt32) := by
  have e := c_iushr x q k hk.1 hk.2
  have e0 : (0 : Int32).toInt = 0 := rfl
  simp only [Int32.lt_iff_toInt_lt, e, hh, e0]
  have p : (0 : Int) < (2 ^ k : Nat) := by exact_mod_cast Nat.two_pow_pos k
  have m0 := Int.emod_nonneg x.toInt (show (4294967296 : Int) ≠ 0 by decide)
  have m1 := Int.emod_lt_of_pos x.toInt (show (0 : Int) < 4294967296 by decide)
  have d0 := Int.ediv_nonneg m0 (Int.le_of_lt p)
  have hk32 : k < 32 := by rw [← hk.1]; exact Nat.mod_lt _ (by decide)
  have dd : (4294967296 : Int) = (2 ^ (32 - k) : Nat) * (2 ^ k : Nat) := by
    rw [← Int.natCast_mul, ← Nat.pow_add, Nat.sub_add_cancel (Nat.le_of_lt hk32)]; rfl
  have d1 : x.toInt % 4294967296 / (2 ^ k : Nat) < (2 ^ (32 - k) : Nat) := by
    apply Int.ediv_lt_of_lt_mul p; rw [← dd]; exact m1
  have d2 : (4294967296 : Int) / (2 ^ k : Nat) = (2 ^ (32 - k) : Nat) := by
    rw [dd]; exact Int.mul_ediv_cancel _ (by omega)
  omega
theorem bnd_i2c (x : Int32) : ¬ (x.toUInt32.toUInt16.toUInt32.toInt32) < (0 : Int32) ∧ ¬ (65535 : Int32) < (x.toUInt32.toUInt16.toUInt32.toInt32) := by
  have q := c_i2c x
  have e : (0 : Int32).toInt = 0 := rfl
  have e1 : (65535 : Int32).toInt = 65535 := rfl
  simp only [Int32.lt_iff_toInt_lt, e, e1]; omega
theorem bnd_i2b (x : Int32) : ¬ (x.toInt8.toInt32) < (-128 : Int32) ∧ ¬ (127 : Int32) < (x.toInt8.toInt32) := by
  have q := c_i2b x
  have e : (-128 : Int32).toInt = -128 := rfl
  have e1 : (127 : Int32).toInt = 127 := rfl
  simp only [Int32.lt_iff_toInt_lt, e, e1]; omega
theorem i2c_id (h : ¬ x < a ∧ ¬ b < x) (h1 : 0 ≤ a.toInt) (h2 : b.toInt ≤ 65535) : x.toUInt32.toUInt16.toUInt32.toInt32 = x := by
  have q := c_i2c x
  simp only [Int32.lt_iff_toInt_lt] at h
  apply Int32.toInt_inj.mp; omega
theorem i2b_id (h : ¬ x < a ∧ ¬ b < x) (h1 : -128 ≤ a.toInt) (h2 : b.toInt ≤ 127) : x.toInt8.toInt32 = x := by
  have q := c_i2b x
  simp only [Int32.lt_iff_toInt_lt] at h
  apply Int32.toInt_inj.mp; omega
theorem bnd_lit (k : Int32) : ¬ k < k ∧ ¬ k < k := by
  simp only [Int32.lt_iff_toInt_lt]; omega
theorem bnd_all (x : Int32) : ¬ x < (-2147483648 : Int32) ∧ ¬ (2147483647 : Int32) < x := by
  have r := rng32 x
  have e1 : (-2147483648 : Int32).toInt = -2147483648 := rfl
  have e2 : (2147483647 : Int32).toInt = 2147483647 := rfl
  simp only [Int32.lt_iff_toInt_lt, e1, e2]; omega
theorem bnd_up (h : c < x) (q : d.toInt = c.toInt + 1) : ¬ x < d := by
  simp only [Int32.lt_iff_toInt_lt] at *; omega
theorem bnd_lt2 (h : x < y) (k : ¬ c < y) (q : d.toInt = c.toInt - 1) : ¬ d < x := by
  simp only [Int32.lt_iff_toInt_lt] at *; omega
theorem bnd_eql (h : x = c) : ¬ x < c := by
  subst h; simp only [Int32.lt_iff_toInt_lt]; omega
theorem bnd_eqr (h : x = c) : ¬ c < x := by
  subst h; simp only [Int32.lt_iff_toInt_lt]; omega
theorem bnd_nel (h : ¬ x < c) (k : ¬ x = c) (q : d.toInt = c.toInt + 1) : ¬ x < d := by
  rw [← Int32.toInt_inj] at k; simp only [Int32.lt_iff_toInt_lt] at *; omega
theorem bnd_fix (h : ¬ x < c ∧ ¬ c < x) : x = c := by
  rw [← Int32.toInt_inj]; simp only [Int32.lt_iff_toInt_lt] at *; omega
theorem nar_char_id (h : ¬ x < a ∧ ¬ b < x) (h1 : 0 ≤ a.toInt) (h2 : b.toInt ≤ 65535) : nar .char x = x := i2c_id h h1 h2
theorem nar_byte_id (h : ¬ x < a ∧ ¬ b < x) (h1 : -128 ≤ a.toInt) (h2 : b.toInt ≤ 127) : nar .byte x = x := i2b_id h h1 h2
theorem nar_i2c (x : Int32) : nar .char (x.toUInt32.toUInt16.toUInt32.toInt32) = x.toUInt32.toUInt16.toUInt32.toInt32 := nar_char_id (bnd_i2c x) (by decide) (by decide)
theorem nar_i2b (x : Int32) : nar .byte (x.toInt8.toInt32) = x.toInt8.toInt32 := nar_byte_id (bnd_i2b x) (by decide) (by decide)
theorem nar_bool_id (h : ¬ x < a ∧ ¬ b < x) (h1 : 0 ≤ a.toInt) (h2 : b.toInt ≤ 1) : nar .boolean x = x := by
  simp only [Int32.lt_iff_toInt_lt] at h
  have hx : x.toInt = 0 ∨ x.toInt = 1 := by omega
  rcases hx with q | q
  · have : x = 0 := Int32.toInt_inj.mp q
    subst this; rfl
  · have : x = 1 := Int32.toInt_inj.mp q
    subst this; rfl
end Bounds
theorem Wr.to {h h' : Heap} {a : Addr} {sl : Nat} {v w : Value} (W : Wr h h' a sl v) (q : v = w) : Wr h h' a sl w := q ▸ W
theorem fits_char_b {x a b : Int32} (h : ¬ x < a ∧ ¬ b < x) (h1 : 0 ≤ a.toInt) (h2 : b.toInt ≤ 65535) : fits .char (.int x) = true := by
  have q := fits_nar_char x
  rw [nar_char_id h h1 h2] at q; exact q
theorem fits_byte_b {x a b : Int32} (h : ¬ x < a ∧ ¬ b < x) (h1 : -128 ≤ a.toInt) (h2 : b.toInt ≤ 127) : fits .byte (.int x) = true := by
  have q := fits_nar_byte x
  rw [i2b_id h h1 h2] at q; exact q
/-- null, or an object of exactly that class -/
def Nul (Z : State) (h : Heap) (x : Value) (C : String) : Prop := x = .null ∨ ∃ a, x = .ref a ∧ Exa Z h a C
section Nulls
variable {Z : State} {h h' : Heap} {x : Value} {C : String}
theorem Nul.null (Z : State) (h : Heap) (C : String) : Nul Z h .null C := Or.inl rfl
theorem Nul.of {a : Addr} (E : Exa Z h a C) : Nul Z h (.ref a) C := Or.inr ⟨a, rfl, E⟩
theorem Nul.ext (N : Nul Z h x C) (E : Ext h h') : Nul Z h' x C := N.imp id fun ⟨a, e, F⟩ => ⟨a, e, F.ext E⟩
theorem Nul.wr {a : Addr} {sl : Nat} {v : Value} (N : Nul Z h x C) (W : Wr h h' a sl v) : Nul Z h' x C := N.imp id fun ⟨a, e, F⟩ => ⟨a, e, F.wr W⟩
theorem Nul.keep {ws : List Addr} (N : Nul Z h x C) (K : Keep h h' ws) : Nul Z h' x C := N.imp id fun ⟨a, e, F⟩ => ⟨a, e, F.keep K⟩
theorem Nul.isRef (N : Nul Z h x C) : x.isRef = true := by rcases N with rfl | ⟨a, rfl, -⟩ <;> rfl
end Nulls
section NotSub
variable {Z : State} {a0 : Array Value} {C S O K : String} {nn : Nat}
end NotSub
theorem Fld.to {Z : State} {h : Heap} {a : Addr} {C n d : String} {v w : Value} (F : Fld Z h a C n d v) (q : v = w) : Fld Z h a C n d w := q ▸ F
end Jvm.OwnKit
namespace Jvm.OwnKit
open Jvm Jvm.ClassFile Sem Op Lib Jvm.Free Jvm.Stand Jvm.LawKit Jvm.RoadKit
section Lists
variable {p : Program} {l : Launch} {e : Env} {R : Room} {s : State} {m : MethodId} {args : Array Value} {below : List Frame} {meth : Method} {c : Code} {T : State} {locs : List Loc} {cells slots : Nat} {Z : State} {h : Heap}
def own_n (cs : List Int32) : Int32 := Int32.ofNat cs.length
theorem own_n_int {l : List Int32} (h : l.length < 2147483648) : (own_n l).toInt = l.length := Int32.toInt_ofNat_small h
theorem own_n_b {l : List Int32} {a b : Nat} {lo hi : Int32} (h : a ≤ l.length ∧ l.length ≤ b) (h1 : lo.toInt = a) (h2 : hi.toInt = b) (h3 : b < 2147483648) : ¬ own_n l < lo ∧ ¬ hi < own_n l := by
  have e := own_n_int (l := l) (by omega)
  rw [Int32.lt_iff_toInt_lt, Int32.lt_iff_toInt_lt, e]; omega
theorem own_len_lit {l : List Int32} {n : Nat} (h : l.length = n) : n ≤ l.length ∧ l.length ≤ n := ⟨Nat.le_of_eq h.symm, Nat.le_of_eq h⟩
theorem own_len_le {l : List Int32} {n : Nat} (h : l.length ≤ n) : 0 ≤ l.length ∧ l.length ≤ n := ⟨Nat.zero_le _, h⟩
end Lists
end Jvm.OwnKit
namespace Jvm.OwnKit
open Jvm Jvm.ClassFile Sem Op Lib Bundle Jvm.Free Jvm.Stand Jvm.LawKit Jvm.RoadKit
section Cold
variable {p : Program} {l : Launch} {e : Env} {R : Room} {s : State} {m : MethodId} {args : Array Value} {below : List Frame} {meth : Method} {c : Code} {T : State} {locs : List Loc} {cells slots k n : Nat} {Z : State} {a0 : Array Value} {h h' : Heap} {y z : MethodName} {bytes : ByteArray} {maxL : Nat} {rt : Option FieldType} {rm : Room} {W : Nat} {as' : Array Value} {Q : Option Value → Heap → List Loc → Prop} {own C : String} {index : Nat} {EL : List (String × Nat)} {vm0 vm1 : Vm} {xs : List Addr} {sf : Bool}
/-- what a walk that may book texts knows of its tables: they came of the start's, what is booked of EL is read, xs are none of the booked cells -/
def Cold (Z : State) (EL : List (String × Nat)) (s : State) (xs : List Addr) (vm0 : Vm) (h : Heap) : Prop := (∃ k0, s.Since vm0 k0 ∧ k0 ≤ h.size) ∧ CHr Z EL s.vm s.heap vm0 h ∧ ∀ x ∈ xs, Safe Z EL vm0 h x ∧ x < h.size
theorem Cold.go (H : Cold Z EL s xs vm0 h) (hs : ∃ k0, s.Since vm1 k0 ∧ k0 ≤ h'.size) (q : CHr Z EL vm0 h vm1 h') : Cold Z EL s xs vm1 h' :=
  ⟨hs, H.2.1.trans q, fun x hx => ⟨q.safe (H.2.2 x hx).2 (H.2.2 x hx).1, Nat.lt_of_lt_of_le (H.2.2 x hx).2 q.2.1⟩⟩
theorem Cold.same (H : Cold Z EL s xs vm0 h) (q : CHr Z EL vm0 h vm0 h') : Cold Z EL s xs vm0 h' := H.go (by obtain ⟨⟨k0, a, b⟩, -⟩ := H; exact ⟨k0, a, Nat.le_trans b q.2.1⟩) q
theorem Cold.ext (H : Cold Z EL s xs vm0 h) (E : Ext h h') : Cold Z EL s xs vm0 h' := H.same (CHr.ext E H.2.1.1)
theorem Cold.keep {ws : List Addr} (H : Cold Z EL s xs vm0 h) (K : Keep h h' ws) (hs : ∀ x ∈ ws, Safe Z EL vm0 h x) : Cold Z EL s xs vm0 h' := H.same (CHr.keep K hs H.2.1.1)
theorem Cold.wr {a : Addr} {sl : Nat} {v : Value} (H : Cold Z EL s xs vm0 h) (w : Wr h h' a sl v) (S : Safe Z EL vm0 h a) : Cold Z EL s xs vm0 h' := H.same (CHr.wr w S H.2.1.1)
theorem Cold.add {b : Addr} (H : Cold Z EL s xs vm0 h) (E : Ext h h') (hb : h.size ≤ b) (hb' : b < h'.size) : Cold Z EL s (b :: xs) vm0 h' := by
  have H' := H.ext E
  refine ⟨H'.1, H'.2.1, fun x hx => ?_⟩
  rcases List.mem_cons.mp hx with rfl | hx
  · exact ⟨Safe.ext E H.2.1.1 (Safe.new hb), hb'⟩
  · exact H'.2.2 x hx
theorem Cold.safe {x : Addr} (H : Cold Z EL s xs vm0 h) (hx : x ∈ xs) : Safe Z EL vm0 h x := (H.2.2 x hx).1
theorem Cold.start (H : CHv Z EL s.vm s.heap) : Cold Z EL s [] s.vm s.heap := ⟨⟨_, (State.WarmedH.refl s).since _, Nat.le_refl _⟩, CHr.refl H, fun _ hx => nomatch hx⟩
theorem Cold.put {b : Addr} (H : Cold Z EL s xs vm0 h) (q : Safe Z EL vm0 h b ∧ b < h.size) : Cold Z EL s (b :: xs) vm0 h := ⟨H.1, H.2.1, fun x hx => (List.mem_cons.mp hx).elim (fun e => e ▸ q) (H.2.2 x)⟩
/-- what is returned is none of the booked cells -/
def SafeR (sf : Bool) (Z : State) (EL : List (String × Nat)) (vm : Vm) (h : Heap) (v : Option Value) : Prop := sf = true → ∀ a, v = some (.ref a) → Safe Z EL vm h a ∧ a < h.size
/-- the contract of a body that may book texts -/
abbrev ConW (l : Launch) (Z : State) (EL : List (String × Nat)) (xs : List Addr) (sf : Bool) (y : MethodName) (bytes : ByteArray) (maxL : Nat) (rt : Option FieldType) (ws : List Jvm.Cond) (rm : Room) (as' : Array Value) (h : Heap) (Q : Option Value → Heap → List Loc → Prop) : Prop :=
  MetFree l y (head1 (Jvm.Cond.code y bytes maxL rt :: ws) rm) (fun a U => a = as' ∧ Z.Warmed39 U.vm ∧ U.heap = h ∧ CHv Z EL U.vm h ∧ ∀ x ∈ xs, Safe Z EL U.vm h x ∧ x < h.size) (fun _ _ _ _ _ => True) (fun _ U o U' => ∃ v L, o = .returned v ∧ Q v U'.heap L ∧ CHr Z EL U.vm U.heap U'.vm U'.heap ∧ SafeR sf Z EL U'.vm U'.heap v ∧ ReturnedEndW U o U' L rm.cells rm.slots)
abbrev EndW (s : State) (Z : State) (EL : List (String × Nat)) (sf : Bool) (Q : Option Value → Heap → List Loc → Prop) (k n : Nat) : Option Value → State → List Loc → Prop := fun v U L => Q v U.heap L ∧ CHr Z EL s.vm s.heap U.vm U.heap ∧ SafeR sf Z EL U.vm U.heap v ∧ ReturnedEndW s (.returned v) U L k n
theorem retW_mono {o : Outcome} {t : State} {L : List Loc} {k n k' n' : Nat} (h : ReturnedEndW s o t L k n) (hk : k ≤ k') (hn : n ≤ n') : ReturnedEndW s o t L k' n' := ⟨h.1, h.2.1, h.2.2.1, h.2.2.2.mono hk hn⟩
theorem HomeW.retN (X : Stand p l e R (s.setVm vm0) m args below meth c T locs cells slots) (hx : p.tables.exec = Jvm.exec) (hlk : meth.locks = false) (hZ : Z.Warmed39 (s.setVm vm0).vm) (hEL : EW Z a0 EL) (eT : T.heap = h) (H : Cold Z EL s xs vm0 h)
    {pc : Nat} {Ls : Array Slot} {z : Int32} {t : FieldType} {rest : List Value} (hret : meth.sig.returnType = some t) (ht : t = .boolean ∨ t = .byte ∨ t = .char ∨ t = .short)
    (hd : decode c.code pc = .ok (.ireturn, 1)) (hQ : Q (some (.int (nar t z))) T.heap locs) (hk : cells ≤ k) (hn : slots ≤ n) : @Home p e below (EndW s Z EL sf Q k n) T (mkF m pc Ls (.int z :: rest)) := by
  subst eT
  obtain ⟨⟨k0, hS, hk0⟩, CR, -⟩ := H
  obtain ⟨fs, hr, hrun, hended, hW⟩ := X.leaveW hS hk0 (v := some (.int (nar t z))) (fun h => by rw [hret] at h; cases h) hlk
  have q : CHr Z EL s.vm s.heap T.vm T.heap := CR.trans (CHv.at X hZ hEL CR.1)
  exact ⟨_, _, Jvm.RoadKit.retN X hx hret ht hd hr, hrun, hended, _, _, rfl, hQ, q, (fun _ _ z => by cases z), retW_mono hW hk hn⟩
theorem HomeW.ret (X : Stand p l e R (s.setVm vm0) m args below meth c T locs cells slots) (hx : p.tables.exec = Jvm.exec) (hlk : meth.locks = false) (hZ : Z.Warmed39 (s.setVm vm0).vm) (hEL : EW Z a0 EL) (eT : T.heap = h) (H : Cold Z EL s xs vm0 h) {w : Value} (hsr : sf = true → ∀ a, w = .ref a → a ∈ xs)
    {pc : Nat} {Ls : Array Slot} {t : FieldType} {i : Instr} {rest : List Value} (hret : meth.sig.returnType = some t) (hnn : narrow t w = w)
    (hi : (i = .ireturn ∧ (t = .int ∨ t = .boolean ∨ t = .byte ∨ t = .char ∨ t = .short) ∧ ∃ z, w = .int z) ∨ (i = .lreturn ∧ t = .long ∧ ∃ z, w = .long z) ∨ (i = .dreturn ∧ t = .double ∧ ∃ z, w = .double z) ∨ (i = .freturn ∧ t = .float ∧ ∃ z, w = .float z) ∨ (i = .areturn ∧ t.isReference = true ∧ w.isRef = true))
    (hd : decode c.code pc = .ok (i, 1)) (hQ : Q (some w) T.heap locs) (hk : cells ≤ k) (hn : slots ≤ n) : @Home p e below (EndW s Z EL sf Q k n) T (mkF m pc Ls (w :: rest)) := by
  subst eT
  obtain ⟨⟨k0, hS, hk0⟩, CR, hxs⟩ := H
  obtain ⟨fs, hr, hrun, hended, hW⟩ := X.leaveW hS hk0 (v := some w) (fun h => by rw [hret] at h; cases h) hlk
  have q : CHr Z EL s.vm s.heap T.vm T.heap := CR.trans (CHv.at X hZ hEL CR.1)
  exact ⟨_, _, retOut X hx hret hnn hi hd hr, hrun, hended, _, _, rfl, hQ, q, (fun z a ha => ⟨(CHv.at X hZ hEL CR.1).safe (hxs a (hsr z a (Option.some.inj ha))).2 (hxs a (hsr z a (Option.some.inj ha))).1, (hxs a (hsr z a (Option.some.inj ha))).2⟩), retW_mono hW hk hn⟩
theorem HomeW.retI (X : Stand p l e R (s.setVm vm0) m args below meth c T locs cells slots) (hx : p.tables.exec = Jvm.exec) (hlk : meth.locks = false) (hZ : Z.Warmed39 (s.setVm vm0).vm) (hEL : EW Z a0 EL) (eT : T.heap = h) (H : Cold Z EL s xs vm0 h)
    {pc : Nat} {Ls : Array Slot} {z : Int32} {rest : List Value} (hret : meth.sig.returnType = some .int)
    (hd : decode c.code pc = .ok (.ireturn, 1)) (hQ : Q (some (.int z)) T.heap locs) (hk : cells ≤ k) (hn : slots ≤ n) : @Home p e below (EndW s Z EL sf Q k n) T (mkF m pc Ls (.int z :: rest)) := HomeW.ret X hx hlk hZ hEL eT H (fun _ _ z => by cases z) hret rfl (Or.inl ⟨rfl, Or.inl rfl, _, rfl⟩) hd hQ hk hn
theorem HomeW.retJ (X : Stand p l e R (s.setVm vm0) m args below meth c T locs cells slots) (hx : p.tables.exec = Jvm.exec) (hlk : meth.locks = false) (hZ : Z.Warmed39 (s.setVm vm0).vm) (hEL : EW Z a0 EL) (eT : T.heap = h) (H : Cold Z EL s xs vm0 h)
    {pc : Nat} {Ls : Array Slot} {z : Int64} {rest : List Value} (hret : meth.sig.returnType = some .long)
    (hd : decode c.code pc = .ok (.lreturn, 1)) (hQ : Q (some (.long z)) T.heap locs) (hk : cells ≤ k) (hn : slots ≤ n) : @Home p e below (EndW s Z EL sf Q k n) T (mkF m pc Ls (.long z :: rest)) := HomeW.ret X hx hlk hZ hEL eT H (fun _ _ z => by cases z) hret rfl (Or.inr (Or.inl ⟨rfl, rfl, _, rfl⟩)) hd hQ hk hn
theorem HomeW.retR (X : Stand p l e R (s.setVm vm0) m args below meth c T locs cells slots) (hx : p.tables.exec = Jvm.exec) (hlk : meth.locks = false) (hZ : Z.Warmed39 (s.setVm vm0).vm) (hEL : EW Z a0 EL) (eT : T.heap = h) (H : Cold Z EL s xs vm0 h) {w : Value} (hsr : sf = true → ∀ a, w = .ref a → a ∈ xs)
    {pc : Nat} {Ls : Array Slot} {t : FieldType} {rest : List Value} (hret : meth.sig.returnType = some t) (ht : t.isReference = true) (hw : w.isRef = true)
    (hd : decode c.code pc = .ok (.areturn, 1)) (hQ : Q (some w) T.heap locs) (hk : cells ≤ k) (hn : slots ≤ n) : @Home p e below (EndW s Z EL sf Q k n) T (mkF m pc Ls (w :: rest)) := HomeW.ret X hx hlk hZ hEL eT H hsr hret (own_narrow_ref hw) (Or.inr (Or.inr (Or.inr (Or.inr ⟨rfl, ht, hw⟩)))) hd hQ hk hn
theorem HomeW.ret0 (X : Stand p l e R (s.setVm vm0) m args below meth c T locs cells slots) (hx : p.tables.exec = Jvm.exec) (hlk : meth.locks = false) (hZ : Z.Warmed39 (s.setVm vm0).vm) (hEL : EW Z a0 EL) (eT : T.heap = h) (H : Cold Z EL s xs vm0 h)
    {pc : Nat} {Ls : Array Slot} (hret : meth.sig.returnType = none)
    (hd : decode c.code pc = .ok (.return_, 1)) (hQ : Q none T.heap locs) (hk : cells ≤ k) (hn : slots ≤ n) : @Home p e below (EndW s Z EL sf Q k n) T (mkF m pc Ls []) := by
  subst eT
  obtain ⟨⟨k0, hS, hk0⟩, CR, -⟩ := H
  obtain ⟨fs, hr, hrun, hended, hW⟩ := X.leaveW hS hk0 (v := none) (fun _ => rfl) hlk
  have q : CHr Z EL s.vm s.heap T.vm T.heap := CR.trans (CHv.at X hZ hEL CR.1)
  exact ⟨_, _, X.returnOut hx hret hd hr, hrun, hended, _, _, rfl, hQ, q, (fun _ _ z => by cases z), retW_mono hW hk hn⟩
theorem own_bodyW {ws : List Jvm.Cond} {L0 : Array Slot} (pn : plainFor y = true) (ef : ∀ m, entryFrame m as' maxL = mkF m 0 L0 [])
    (body : ∀ (p : Program) (e : Env) (s : State) (m : MethodId) (below : List Frame) (meth : Method) (c : Code) (s₁ : State), p.tables.exec = Jvm.exec → c.code = bytes → meth.locks = false → c.maxLocals = maxL → meth.sig.returnType = rt → Z.Warmed39 (s.setVm s.vm).vm → (s.setVm s.vm).vm.findClass y.cls = some m.cls → meth.name = y.name →
      Stand p l e rm (s.setVm s.vm) m as' below meth c s₁ [] 0 0 → s₁.heap = h → Cold Z EL s xs s.vm h → @Home p e below (EndW s Z EL sf Q rm.cells rm.slots) s₁ (mkF m 0 L0 [])) : ConW l Z EL xs sf y bytes maxL rt ws rm as' h Q := by
  refine MetFree.of_bodySF pn hisR ?_
  intro p e s m args below meth c s₁ Bd hml0 hP hK
  obtain ⟨rfl, hZ, rfl, hH, hxs⟩ := hP
  have hc : Cold Z EL s xs s.vm s.heap := ⟨(Cold.start hH).1, CHr.refl hH, hxs⟩
  have H : @Home p e below (EndW s Z EL sf Q rm.cells rm.slots) s₁ (entryFrame m args maxL) := Home.enter (ef m) (body p e s m below meth c s₁ Bd.exec Bd.bytes (BodyLoose.notSynchronized Bd) hml0 Bd.returns hZ (findClass_of_methodNamed Bd.named) (name_of_methodNamed Bd.named Bd.method).1 (Stand.of_body Bd) (by rw [Bd.state]; rfl) hc)
  obtain ⟨U, o, h1, h2, h3, v, L, rfl, h4, h5, h6⟩ := H
  exact ⟨U, _, h1, h2, h3, v, L, rfl, h4, h5, h6⟩
theorem own_warmW {U : State} (hZ : Z.Warmed39 (s.setVm vm0).vm) (hS : (s.setVm vm0).Since U.vm n) : Z.Warmed39 (s.setVm U.vm).vm := State.Warmed39.trans (t := s.setVm vm0) hZ hS.1
theorem own_ownW {U : State} (hS : (s.setVm vm0).Since U.vm n) (hown : (s.setVm vm0).vm.findClass own = some m.cls) : (s.setVm U.vm).vm.findClass own = some m.cls := by rw [show (s.setVm U.vm).vm.findClass own = (s.setVm vm0).vm.findClass own from hS.1.alike.findClass _ _]; exact hown
theorem own_backW {len : Nat} (hM : ConW l Z EL xs sf y bytes maxL rt [] rm as' h Q) (hZ : Z.Warmed39 (s.setVm vm0).vm) (hEL : EW Z a0 EL) (wc : (Cond.code y bytes maxL rt).before a0 Z = true) (wz : (Cond.initialized y.cls).before a0 Z = true) (hf : rm.frames + 1 ≤ R.frames) (hl : W + (maxL + 11) + rm.locals ≤ R.locals) (H : CHv Z EL vm0 h) (hxs : ∀ x ∈ xs, Safe Z EL vm0 h x ∧ x < h.size) :
    BackS l R p e below (s.setVm vm0) args y len W (fun A a => a = as' ∧ A.U.heap = h ∧ A.cells + rm.cells ≤ R.cells ∧ A.slots + rm.slots ≤ R.slots) (fun A _ v B => ∃ L, Q v B.U.heap L ∧ B.locs = A.locs ++ L ∧ B.cells = A.cells + rm.cells ∧ B.slots = A.slots + rm.slots ∧ CHr Z EL vm0 h B.U.vm B.U.heap ∧ SafeR sf Z EL B.U.vm B.U.heap v) := by
  refine BackS.of_freeW (bytes := bytes) (maxL := maxL) (ret := rt) (E := fun _ first o t L k n => k = rm.cells ∧ n = rm.slots ∧ (∃ v, o = .returned v ∧ Q v t.heap L ∧ SafeR sf Z EL t.vm t.heap v) ∧ CHr Z EL first.vm first.heap t.vm t.heap) hM hf hl ?_ ?_ (fun _ _ _ _ _ _ _ _ _ => trivial) ?_ ?_
  · intro m meth c A a Y hp
    have hU : Z.Warmed39 A.U.vm := wtrans (s := s.setVm vm0) hZ Y.warmed
    exact ⟨by show (Cond.and _ .tt).before a A.U = true; rw [Cond.before_and, mv hU wc]; rfl, mv hU wc, mv hU wz, hp.2.2⟩
  · intro m meth c A a g mk Y hp
    have q := CHv.at Y hZ hEL H
    exact ⟨hp.1, wtrans (s := s.setVm vm0) hZ Y.warmed, hp.2.1, q.1, fun x hx => ⟨q.safe (hxs x hx).2 (hxs x hx).1, (hxs x hx).2⟩⟩
  · rintro _ _ _ _ ⟨v, L, h1, h2, h3, h5, h4⟩
    exact ⟨L, _, _, h4, rfl, rfl, ⟨v, h1, h2, h5⟩, h3⟩
  · intro m meth c A a g mk v t L k n Y hp _ _ hE
    obtain ⟨rfl, rfl, ⟨v', e3, e4, e7⟩, e5⟩ := hE
    cases e3
    have e6 : CHr Z EL A.U.vm h t.vm t.heap := hp.2.1 ▸ e5
    exact ⟨L, e4, rfl, rfl, rfl, (CHv.at Y hZ hEL H).trans e6, e7⟩
theorem own_staticW (X : Stand p l e R (s.setVm vm0) m args below meth c T locs cells slots) (hx : p.tables.exec = Jvm.exec) (hZ : Z.Warmed39 (s.setVm vm0).vm) (hown : (s.setVm vm0).vm.findClass own = some m.cls) (hEL : EW Z a0 EL) {xs0 : List Addr} (H : Cold Z EL s xs0 vm0 h) (hsub : ∀ x ∈ xs, x ∈ xs0)
    (w1 : (Cond.methodLink own index y).before a0 Z = true) (w2 : (Cond.static y).before a0 Z = true) (w3 : (Cond.initialized y.cls).before a0 Z = true) (w4 : (Cond.code y bytes maxL rt).before a0 Z = true)
    (hy : y.cls ≠ "java/lang/invoke/MethodHandle" ∧ y.cls ≠ "java/lang/invoke/VarHandle") (hM : ConW l Z EL xs sf y bytes maxL rt [] rm as' h Q) (eT : T.heap = h)
    {g : JFrame} (hg : g.method = m) (hsize : g.locals.size = c.maxLocals) {argsL rest : List Value} (hlen : ∀ sig, parseMethodDescriptor y.desc = some sig → argsL.length = sig.parameters.length) (hstack : g.stack = argsL.reverse ++ rest) (ha : argsL.toArray = as')
    (hW : 2 * g.monitorRoom + (rest.map fun v => v.category).sum ≤ W) (hf : rm.frames + 1 ≤ R.frames) (hl : W + (maxL + 11) + rm.locals ≤ R.locals)
    (hdg : decode c.code g.pc = .ok (.invokestatic index, 3)) (hc : cells + rm.cells ≤ R.cells) (hs : slots + rm.slots ≤ R.slots) :
    ∃ v T' L, Stand p l e R (s.setVm T'.vm) m args below meth c T' (locs ++ L) (cells + rm.cells) (slots + rm.slots) ∧ (Q v T'.heap L ∧ Z.Warmed39 (s.setVm T'.vm).vm ∧ (s.setVm T'.vm).vm.findClass own = some m.cls ∧ Cold Z EL s xs0 T'.vm T'.heap ∧ SafeR sf Z EL T'.vm T'.heap v) ∧
      ∀ t, Steps p.tables e below (T'.setTop { g with pc := g.pc + 3, stack := v.toList ++ rest }) t → Steps p.tables e below (T.setTop g) t := by
  obtain ⟨v, _, ⟨T', L', k', n'⟩, -, X', hS, hg', ⟨L, hQ, l', y', z', hC, hR⟩, st⟩ := Jvm.RoadKit.callSS X hx (y := y) hown (mvT hZ w1) (mvT hZ w2) (mvT hZ w3) (mvT hZ w4) hy (own_backW (W := W) hM hZ hEL w4 w3 hf hl H.2.1.1 (fun x hx => H.2.2 x (hsub x hx))) hg hsize hlen hstack hW hdg (fun _ _ => ⟨ha, eT, hc, hs⟩)
  dsimp only [Pt.U, Pt.locs, Pt.cells, Pt.slots] at X' l' y' z' st hQ hS hg' hC hR
  subst l' y' z'
  exact ⟨v, T', L, X', ⟨hQ, own_warmW hZ hS, own_ownW hS hown, H.go (by obtain ⟨⟨k0, a, b⟩, -⟩ := H; exact ⟨_, Jvm.RoadKit.foldS (T := T) a (by rw [eT]; exact b) hS hg', Nat.le_refl _⟩) hC, hR⟩, fun t k => st.trans k⟩
theorem own_specialW (X : Stand p l e R (s.setVm vm0) m args below meth c T locs cells slots) (hx : p.tables.exec = Jvm.exec) (hZ : Z.Warmed39 (s.setVm vm0).vm) (hown : (s.setVm vm0).vm.findClass own = some m.cls) (hEL : EW Z a0 EL) {xs0 : List Addr} (H : Cold Z EL s xs0 vm0 h) (hsub : ∀ x ∈ xs, x ∈ xs0) (hy1 : y.name = "<init>")
    (w1 : (Cond.methodLink own index y).before a0 Z = true) (w2 : (Cond.instanceMethod y).before a0 Z = true) (w3 : (Cond.initialized y.cls).before a0 Z = true) (w4 : (Cond.code y bytes maxL none).before a0 Z = true)
    (hy : y.cls ≠ "java/lang/invoke/MethodHandle" ∧ y.cls ≠ "java/lang/invoke/VarHandle") (hM : ConW l Z EL xs sf y bytes maxL none [] rm as' h Q) (eT : T.heap = h)
    {g : JFrame} (hg : g.method = m) (hsize : g.locals.size = c.maxLocals) {a : Addr} {argsL rest : List Value} (hlen : ∀ sig, parseMethodDescriptor y.desc = some sig → argsL.length = sig.parameters.length) (hstack : g.stack = argsL.reverse ++ .ref a :: rest) (ha : (.ref a :: argsL).toArray = as')
    (hW : 2 * g.monitorRoom + (rest.map fun v => v.category).sum ≤ W) (hf : rm.frames + 1 ≤ R.frames) (hl : W + (maxL + 11) + rm.locals ≤ R.locals)
    (hdg : decode c.code g.pc = .ok (.invokespecial index, 3)) (hc : cells + rm.cells ≤ R.cells) (hs : slots + rm.slots ≤ R.slots) :
    ∃ v T' L, Stand p l e R (s.setVm T'.vm) m args below meth c T' (locs ++ L) (cells + rm.cells) (slots + rm.slots) ∧ (Q v T'.heap L ∧ Z.Warmed39 (s.setVm T'.vm).vm ∧ (s.setVm T'.vm).vm.findClass own = some m.cls ∧ Cold Z EL s xs0 T'.vm T'.heap ∧ SafeR sf Z EL T'.vm T'.heap v) ∧
      ∀ t, Steps p.tables e below (T'.setTop { g with pc := g.pc + 3, stack := v.toList ++ rest }) t → Steps p.tables e below (T.setTop g) t := by
  obtain ⟨v, _, ⟨T', L', k', n'⟩, -, X', hS, hg', ⟨L, hQ, l', y', z', hC, hR⟩, st⟩ := X.specialBackS hx (y := y) hy1 hown (mvT hZ w1) (mvT hZ w2) (mvT hZ w4) hy (own_backW (W := W) hM hZ hEL w4 w3 hf hl H.2.1.1 (fun x hx => H.2.2 x (hsub x hx))) hg hsize (Steps.refl _) (a := a) hlen hstack hW hdg (fun _ _ => ⟨ha, eT, hc, hs⟩)
  dsimp only [Pt.U, Pt.locs, Pt.cells, Pt.slots] at X' l' y' z' st hQ hS hg' hC hR
  subst l' y' z'
  exact ⟨v, T', L, X', ⟨hQ, own_warmW hZ hS, own_ownW hS hown, H.go (by obtain ⟨⟨k0, a, b⟩, -⟩ := H; exact ⟨_, Jvm.RoadKit.foldS (T := T) a (by rw [eT]; exact b) hS hg', Nat.le_refl _⟩) hC, hR⟩, fun t k => st.trans k⟩
theorem own_ldcL {text : String} (X : Stand p l e R (s.setVm vm0) m args below meth c T locs cells slots) (hx : p.tables.exec = Jvm.exec) (hZ : Z.Warmed39 (s.setVm vm0).vm) (hown : (s.setVm vm0).vm.findClass own = some m.cls) (hEL : EW Z a0 EL) (H : Cold Z EL s xs vm0 h) (w : (Cond.stringLink own index text).before a0 Z = true) (wS : ∀ a ∈ Bundle.stringAtoms, a.before a0 Z = true)
    (eT : T.heap = h) (hmem : (own, index) ∈ EL) {vs : List Value} {z : Int32} (ht : (∀ c ∈ text.toList, c.toNat < 256) ∧ text.toList.map (fun c => Value.int (Jvm.Lit.byteI c.toNat.toUInt16)) = vs) (hz : ¬ z < 0) (hl : z.toNatClampNeg = vs.length)
    {g : JFrame} (hg : g.method = m) (hd : decode c.code g.pc = .ok (.ldc index, 2)) {n : Nat} (hn : 4 * text.toList.length ≤ n) (hbig : n ≤ 536870912) (hc : cells + 2 ≤ R.cells) (hl' : slots + (n + 4) ≤ R.slots) :
    ∃ (a b : Addr) (k : ClassId) (T' : State) (h' : Heap), Stand p l e R (s.setVm T'.vm) m args below meth c T' locs (cells + 2) (slots + (n + 4)) ∧ T'.heap = h' ∧ Ext h h' ∧ Z.Warmed39 (s.setVm T'.vm).vm ∧ (s.setVm T'.vm).vm.findClass own = some m.cls ∧ Cold Z EL s xs T'.vm h' ∧
      Exa Z h' a "java/lang/String" ∧ Fld Z h' a "java/lang/String" "coder" "B" (.int 0) ∧ Fld Z h' a "java/lang/String" "value" "[B" (.ref b) ∧ Arv Z h' b k .byte z vs (.int 0) ∧ a < h'.size ∧ b < h'.size ∧ (∀ x ∈ xs, x ≠ a ∧ x ≠ b) ∧ Lit (s.setVm T'.vm) own index a ∧
      ∀ t, Steps p.tables e below (T'.setTop { g with pc := g.pc + 2, stack := .ref a :: g.stack }) t → Steps p.tables e below (T.setTop g) t := by
  obtain ⟨k0, hS, hk⟩ := H.1
  obtain ⟨a, T', h', k1, b, k, X', e1, E, hS', hk', hZ', ho', f1, f2, f3, f4, f5, f6, hC, hL, hne, st⟩ := ldcCH X hx hZ hown w wS eT hS hk hEL hmem H.2.1.1 ht hz hl hg hd hn hbig hc hl'
  have H' := H.go ⟨k1, hS', hk'⟩ hC
  exact ⟨a, b, k, T', h', X', e1, E, hZ', ho', H', f1, f2, f3, f4, f5, f6, fun x hx => hne x (H'.safe hx), hL, st⟩
end Cold
end Jvm.OwnKit
namespace Jvm.OwnKit
end Jvm.OwnKit
namespace Jvm.Pilot.@@N@@
open Jvm Jvm.ClassFile Sem Op Lib Jvm.Free Jvm.Stand Jvm.LawKit Jvm.RoadKit Jvm.OwnKit Bundle Jvm.Pilot.@@N@@.Jvm.D
set_option maxRecDepth 65536
set_option maxHeartbeats 40000000
abbrev HW (a0 : Array Value) (Z : State) : Prop := ∀ d ∈ tables_1, d.before a0 Z = true
abbrev WD (d : Jvm.Cond) : Prop := ∀ {a0 : Array Value} {Z : State}, HW a0 Z → d.before a0 Z = true
theorem wd {d : Jvm.Cond} (i : Nat) (h : tables_1[i]? = some d) : WD d := fun hw => hw _ (List.mem_of_getElem? h)
abbrev sr (a : Addr) : Slot := .val (.ref a)
abbrev si (a : Int32) : Slot := .val (.int a)
abbrev un : Slot := .unset
theorem own_lenk {Z : State} {args : Array Value} {t : Term} {a : Addr} {c : Cell} {ty : FieldType} {k : Int32} (ev : t.eval args Z none [] Z = some (.ref a)) (A : Arr Z Z.heap a c ty) (h : (Jvm.Cond.eq (Jvm.Term.length t) (Jvm.Term.int k)).value args Z none Z [] = some true) : c.slots.size < 2 ^ 31 ∧ c.slots.size.toInt32 = k := by
  have e := eqv_i (Term.int_eval k) h
  have ha := A.fin (U := Z) (Vm.Alike.refl _)
  by_cases q : c.slots.size < 2 ^ 31
  · have e2 := len_f (first := Z) (o := none) (idx := []) (args := args) ev ha q
    rw [e] at e2
    exact ⟨q, by injection e2 with e3; injection e3 with e4; exact e4.symm⟩
  · exfalso
    simp [Term.eval, ev, ha, q] at e
abbrev own_TI0 : List Int32 := [(49 : Int32), (50 : Int32), (51 : Int32), (52 : Int32), (53 : Int32), (54 : Int32), (55 : Int32), (56 : Int32), (57 : Int32), (65 : Int32), (66 : Int32), (67 : Int32), (68 : Int32), (69 : Int32), (70 : Int32), (71 : Int32), (72 : Int32), (74 : Int32), (75 : Int32), (76 : Int32), (77 : Int32), (78 : Int32), (80 : Int32), (81 : Int32), (82 : Int32), (83 : Int32), (84 : Int32), (85 : Int32), (86 : Int32), (87 : Int32), (88 : Int32), (89 : Int32), (90 : Int32), (97 : Int32), (98 : Int32), (99 : Int32), (100 : Int32), (101 : Int32), (102 : Int32), (103 : Int32), (104 : Int32), (105 : Int32), (106 : Int32), (107 : Int32), (109 : Int32), (110 : Int32), (111 : Int32), (112 : Int32), (113 : Int32), (114 : Int32), (115 : Int32), (116 : Int32), (117 : Int32), (118 : Int32), (119 : Int32), (120 : Int32), (121 : Int32), (122 : Int32)]
def own_from (c : Int32) : List Int32 → Int32 → Int32
  | [], _ => (-1 : Int32)
  | a :: r, i => if a = c then i else own_from c r (i + (1 : Int32))
theorem own_at_pre {pre r : List Int32} {a ix : Int32} (h : pre.length < 2147483648) (e : ix = Int32.ofNat pre.length) : own_at (pre ++ a :: r) ix = a := by
  subst e
  have q : (Int32.ofNat pre.length).toNatClampNeg = pre.length := by
    simp only [Int32.toNatClampNeg, Int32.toInt_ofNat_small h]; omega
  unfold own_at
  rw [q]; simp [List.getD_eq_getElem?_getD]
def own_zs : List Int32 → Nat
  | [] => 0
  | a :: r => if (a &&& (255 : Int32)) = (49 : Int32) then own_zs r + 1 else 0
theorem own_zs_no {a : Int32} {r : List Int32} (h : ¬ (a &&& (255 : Int32)) = (49 : Int32)) : own_zs (a :: r) = 0 := if_neg h
theorem own_zs_go {a : Int32} {r : List Int32} (h : (a &&& (255 : Int32)) = (49 : Int32)) : own_zs (a :: r) = own_zs r + 1 := if_pos h
theorem own_zs_le : ∀ l : List Int32, own_zs l ≤ l.length
  | [] => Nat.le_refl _
  | a :: r => by
    have := own_zs_le r
    by_cases q : (a &&& (255 : Int32)) = (49 : Int32)
    · rw [own_zs_go q, List.length_cons]; omega
    · rw [own_zs_no q]; exact Nat.zero_le _
theorem own_take (l : List Int32) : (List.take (own_zs l) l).length = own_zs l := by rw [List.length_take]; exact Nat.min_eq_left (own_zs_le l)
theorem own_cons {l : List Int32} (h : (0 : Int32) < own_n l) : ∃ a r, l = a :: r := by
  cases l with
  | nil => exact absurd h (by decide)
  | cons a r => exact ⟨a, r, rfl⟩
theorem own_succ (n : Nat) : Int32.ofNat n + (1 : Int32) = Int32.ofNat (n + 1) := by rw [Int32.ofNat_add]; rfl
theorem own_ofNat_b {n : Nat} (h : n ≤ 6) : ¬ Int32.ofNat n < (0 : Int32) ∧ ¬ (6 : Int32) < Int32.ofNat n := by
  have e : (Int32.ofNat n).toInt = n := Int32.toInt_ofNat_small (by omega)
  have e0 : (0 : Int32).toInt = 0 := rfl
  have e6 : (6 : Int32).toInt = 6 := rfl
  rw [Int32.lt_iff_toInt_lt, Int32.lt_iff_toInt_lt, e, e0, e6]; omega
theorem own_ofNat_in {n : Nat} {l : List Int32} (h : n < l.length) (hl : l.length < 2147483648) : ¬ Int32.ofNat n < (0 : Int32) ∧ Int32.ofNat n < own_n l := by
  have e : (Int32.ofNat n).toInt = n := Int32.toInt_ofNat_small (by omega)
  have e0 : (0 : Int32).toInt = 0 := rfl
  rw [Int32.lt_iff_toInt_lt, Int32.lt_iff_toInt_lt, e, e0, own_n_int hl]; omega
theorem own_clamp {n : Nat} (h : n < 2147483648) : (Int32.ofNat n).toNatClampNeg = n := by
  simp only [Int32.toNatClampNeg, Int32.toInt_ofNat_small h]; omega
theorem own_len_mid {pre r : List Int32} {a j : Int32} (h : j = Int32.ofNat pre.length ∧ pre.length < 2147483648) : j.toNatClampNeg < (pre ++ a :: r).length := by
  obtain ⟨rfl, h⟩ := h
  rw [own_clamp h, List.length_append, List.length_cons]; omega
theorem own_set_len (a x : Int32) (r : List Int32) : ∀ pre : List Int32, (pre ++ a :: r).set pre.length x = pre ++ x :: r
  | [] => rfl
  | b :: pre => congrArg (List.cons b) (own_set_len a x r pre)
theorem own_set_mid {pre r : List Int32} {a x j : Int32} (h : j = Int32.ofNat pre.length ∧ pre.length < 2147483648) : (pre ++ a :: r).set j.toNatClampNeg x = pre ++ x :: r := by
  obtain ⟨rfl, h⟩ := h
  rw [own_clamp h]; exact own_set_len a x r pre
theorem own_pad1 {Z : State} {h : Heap} {b : Addr} {k : ClassId} {z : Int32} {Q : List Int32} (V : Arv Z h b k .byte z (List.map Value.int Q) (.int 0)) : Arv Z h b k .byte z (List.map Value.int (Q ++ [0])) (.int 0) := by
  have q := V.pad (pad_rep (List.map Value.int Q) (.int 0) 1)
  rw [List.map_append]; exact q
theorem own_padn {Z : State} {h : Heap} {b : Addr} {k : ClassId} {z : Int32} (V : Arv Z h b k .byte z (List.map Value.int []) (.int 0)) (n : Nat) : Arv Z h b k .byte z (List.map Value.int (List.replicate n (0 : Int32) ++ [])) (.int 0) := by
  have q := V.pad (pad_rep (List.map Value.int []) (.int 0) n)
  rw [List.append_nil, List.map_replicate]; exact q
theorem own_n_snoc (Q : List Int32) (x : Int32) : Int32.ofNat Q.length + (1 : Int32) = own_n (Q ++ [x]) := by
  unfold own_n; rw [List.length_append]; exact own_succ _
theorem own_back {n3 j : Int32} {B dn t : List Int32} (hn : n3 = own_n B) (hj : j = Int32.ofNat dn.length) (hl : dn.length + (t.length + 1) = B.length) (hb : B.length < 2147483648) : ((n3 - (1 : Int32)) - j) = Int32.ofNat t.length := by
  subst hn; subst hj
  unfold own_n
  have e1 : (1 : Int32).toBitVec.toNat = 1 := rfl
  apply Int32.toBitVec_inj.mp
  apply BitVec.eq_of_toNat_eq
  simp only [Int32.toBitVec_sub, Int32.toBitVec_ofNat', BitVec.toNat_sub, BitVec.toNat_ofNat, e1]
  omega
theorem own_turn {B dn t : List Int32} {a : Int32} (h : B.reverse = dn ++ a :: t) : B = t.reverse ++ a :: dn.reverse := by
  have q := congrArg List.reverse h
  rw [List.reverse_reverse, List.reverse_append, List.reverse_cons, List.append_assoc] at q; exact q
theorem own_in_sum {zs j n3 : Int32} {z : Nat} {dn B : List Int32} (hz : zs = Int32.ofNat z) (hj : j = Int32.ofNat dn.length) (hn : n3 = own_n B) (h : dn.length < B.length) (hb : z + B.length < 2147483648) : ¬ (zs + j) < (0 : Int32) ∧ (zs + j) < (zs + n3) := by
  subst hz; subst hj; subst hn
  unfold own_n
  rw [← Int32.ofNat_add, ← Int32.ofNat_add]
  have e1 : (Int32.ofNat (z + dn.length)).toInt = ((z + dn.length : Nat) : Int) := Int32.toInt_ofNat_small (by omega)
  have e2 : (Int32.ofNat (z + B.length)).toInt = ((z + B.length : Nat) : Int) := Int32.toInt_ofNat_small (by omega)
  have e0 : (0 : Int32).toInt = 0 := rfl
  rw [Int32.lt_iff_toInt_lt, Int32.lt_iff_toInt_lt, e1, e2, e0]; omega
theorem own_nt {x hi : Int32} {k : Nat} (hk : hi.toInt = k) (hk2 : k < 2147483648) (h : ¬ x < (0 : Int32) ∧ ¬ hi < x) : ∃ n, n ≤ k ∧ x = Int32.ofNat n := by
  simp only [Int32.lt_iff_toInt_lt] at h
  have e0 : (0 : Int32).toInt = 0 := rfl
  rw [e0, hk] at h
  refine ⟨x.toInt.toNat, by omega, ?_⟩
  rw [← Int32.toInt_inj, Int32.toInt_ofNat_small (by omega)]
  omega
theorem own_ushr {n k : Nat} {q : Int32} (hn : n < 4294967296) (hk : k < 32) (hq : (q &&& 31).toUInt32 = UInt32.ofNat k) : ((Int32.ofNat n).toUInt32 >>> (q &&& 31).toUInt32).toInt32 = Int32.ofNat (n / 2 ^ k) := by
  rw [hq]
  have h3 : n / 2 ^ k ≤ n := Nat.div_le_self _ _
  apply Int32.toBitVec_inj.mp
  apply BitVec.eq_of_toNat_eq
  simp [Nat.shiftRight_eq_div_pow, Nat.mod_eq_of_lt hn, Nat.mod_eq_of_lt hk, Nat.mod_eq_of_lt (show k < 4294967296 by omega), Nat.mod_eq_of_lt (show n / 2 ^ k < 4294967296 by omega)]
theorem own_i8 {n m : Nat} (h : n % 256 = m % 256) : (Int32.ofNat n).toInt8.toInt32 = (Int32.ofNat m).toInt8.toInt32 := by
  have : (Int32.ofNat n).toInt8 = (Int32.ofNat m).toInt8 := by
    apply Int8.toBitVec_inj.mp
    apply BitVec.eq_of_toNat_eq
    simp; omega
  rw [this]
theorem own_bN : ∀ n < 256, (Int32.ofNat n).toInt8.toInt32 &&& (255 : Int32) = Int32.ofNat n := by decide +kernel
/-- a byte as a number -/
def own_bt (a : Int32) : Nat := (a &&& (255 : Int32)).toInt.toNat
theorem own_bt_is (a : Int32) : own_bt a ≤ 255 ∧ a &&& (255 : Int32) = Int32.ofNat (own_bt a) := by
  obtain ⟨n, hn, e⟩ := own_nt (k := 255) (hi := 255) rfl (by decide) (bnd_and a (255 : Int32) (by decide))
  unfold own_bt
  rw [e, Int32.toInt_ofNat_small (by omega), Int.toNat_natCast]
  exact ⟨hn, rfl⟩
theorem own_bt_i8 (t : Nat) : own_bt ((Int32.ofNat t).toInt8.toInt32) = t % 256 := by
  have q := own_bN (t % 256) (by omega)
  rw [own_i8 (n := t) (m := t % 256) (by omega)]
  unfold own_bt
  rw [q, Int32.toInt_ofNat_small (by omega), Int.toNat_natCast]
theorem own_b57 {n : Nat} (h : n ≤ 57) : ¬ Int32.ofNat n < (0 : Int32) ∧ ¬ (57 : Int32) < Int32.ofNat n := by
  have e : (Int32.ofNat n).toInt = n := Int32.toInt_ofNat_small (by omega)
  have e0 : (0 : Int32).toInt = 0 := rfl
  have e6 : (57 : Int32).toInt = 57 := rfl
  rw [Int32.lt_iff_toInt_lt, Int32.lt_iff_toInt_lt, e, e0, e6]; omega
theorem own_sh0 {c : Int32} (h : ¬ c < (0 : Int32) ∧ ¬ (57 : Int32) < c) : ¬ (0 : Int32) < ((c.toUInt32 >>> ((8 : Int32) &&& 31).toUInt32).toInt32) := by
  obtain ⟨n, hn, rfl⟩ := own_nt (k := 57) rfl (by decide) h
  rw [own_ushr (k := 8) (by omega) (by decide) (by decide), show n / 2 ^ 8 = 0 from by omega]; decide
theorem sg0_0_1 : decs code [(0, .iload_n 0, 1)] := ⟨at_0, trivial⟩
theorem own_w0 : WD (Cond.constant "com/example/tryst/tryst/encoding/Base58DecodePinLaw" 7 (2147483647 : Int32)) := wd 0 rfl
theorem sg0_3_2 : decs code [(3, .iand, 1), (4, .bipush 7, 2)] := ⟨at_3, at_4, trivial⟩
theorem sg0_7_1 : decs code [(7, .istore 4, 2)] := ⟨at_7, trivial⟩
theorem sg0_9_1 : decs code [(9, .iload_n 1, 1)] := ⟨at_9, trivial⟩
theorem own_w1 : WD (Cond.constant "com/example/tryst/tryst/encoding/Base58DecodePinLaw" 8 (65535 : Int32)) := wd 1 rfl
theorem sg0_12_2 : decs code [(12, .iand, 1), (13, .bipush 58, 2)] := ⟨at_12, at_13, trivial⟩
theorem sg0_16_1 : decs code [(16, .istore 5, 2)] := ⟨at_16, trivial⟩
theorem sg0_18_4 : decs code [(18, .iload_n 1, 1), (19, .bipush 16, 2), (21, .iushr, 1), (22, .bipush 58, 2)] := ⟨at_18, at_19, at_21, at_22, trivial⟩
theorem sg0_25_1 : decs code [(25, .istore 6, 2)] := ⟨at_25, trivial⟩
theorem sg0_27_1 : decs code [(27, .iload_n 2, 1)] := ⟨at_27, trivial⟩
theorem sg0_30_2 : decs code [(30, .iand, 1), (31, .bipush 58, 2)] := ⟨at_30, at_31, trivial⟩
theorem sg0_34_1 : decs code [(34, .istore 7, 2)] := ⟨at_34, trivial⟩
theorem sg0_36_4 : decs code [(36, .iload_n 2, 1), (37, .bipush 16, 2), (39, .iushr, 1), (40, .bipush 58, 2)] := ⟨at_36, at_37, at_39, at_40, trivial⟩
theorem sg0_43_1 : decs code [(43, .istore 8, 2)] := ⟨at_43, trivial⟩
theorem sg0_45_1 : decs code [(45, .iload_n 3, 1)] := ⟨at_45, trivial⟩
theorem sg0_48_2 : decs code [(48, .iand, 1), (49, .bipush 58, 2)] := ⟨at_48, at_49, trivial⟩
theorem sg0_52_1 : decs code [(52, .istore 9, 2)] := ⟨at_52, trivial⟩
theorem sg0_54_4 : decs code [(54, .iload_n 3, 1), (55, .bipush 16, 2), (57, .iushr, 1), (58, .bipush 58, 2)] := ⟨at_54, at_55, at_57, at_58, trivial⟩
theorem sg0_61_1 : decs code [(61, .istore 10, 2)] := ⟨at_61, trivial⟩
theorem own_w2 : WD (Cond.methodLink "com/example/tryst/tryst/encoding/Base58DecodePinLaw" 9 ⟨"com/example/tryst/tryst/encoding/Base58DecodePinLaw", "build", "(IIIIIII)Ljava/lang/String;"⟩) := wd 2 rfl
theorem sg0_63_7 : decs code [(63, .iload 4, 2), (65, .iload 5, 2), (67, .iload 6, 2), (69, .iload 7, 2), (71, .iload 8, 2), (73, .iload 9, 2), (75, .iload 10, 2)] := ⟨at_63, at_65, at_67, at_69, at_71, at_73, at_75, trivial⟩
theorem d1_0 : decode method_4_code 0 = .ok (.iload_n 0, 1) := by decide +kernel
theorem sg1_0_1 : decs method_4_code [(0, .iload_n 0, 1)] := ⟨d1_0, trivial⟩
theorem d1_1 : decode method_4_code 1 = .ok (.ifCond .ne 14, 3) := by decide +kernel
theorem d1_4 : decode method_4_code 4 = .ok (.new 40, 3) := by decide +kernel
theorem own_w6 : WD (Cond.classLink "com/example/tryst/tryst/encoding/Base58DecodePinLaw" 40 "java/lang/String") := wd 6 rfl
theorem own_w7 : WD (Cond.instantiable "java/lang/String" 4) := wd 7 rfl
theorem own_w8 : WD (Cond.initialized "java/lang/String") := wd 8 rfl
theorem own_w22 : WD (Cond.laysFinal "java/lang/String" "java/lang/String" "value" "[B") := wd 22 rfl
theorem own_w23 : WD (Cond.laysFinal "java/lang/String" "java/lang/String" "coder" "B") := wd 23 rfl
theorem d1_7 : decode method_4_code 7 = .ok (.dup, 1) := by decide +kernel
theorem d1_8 : decode method_4_code 8 = .ok (.iconst 0, 1) := by decide +kernel
theorem sg1_7_2 : decs method_4_code [(7, .dup, 1), (8, .iconst 0, 1)] := ⟨d1_7, d1_8, trivial⟩
theorem d1_9 : decode method_4_code 9 = .ok (.newarray .char, 2) := by decide +kernel
theorem own_w9 : WD (Cond.arrayClass Jvm.ClassFile.FieldType.char) := wd 9 rfl
theorem own_w10 : WD (Cond.methodLink "com/example/tryst/tryst/encoding/Base58DecodePinLaw" 45 ⟨"java/lang/String", "<init>", "([C)V"⟩) := wd 10 rfl
theorem d1_11 : decode method_4_code 11 = .ok (.invokespecial 45, 3) := by decide +kernel
theorem d2_0 : decode jdk_42_method_3_code 0 = .ok (.aload_n 0, 1) := by decide +kernel
theorem d2_1 : decode jdk_42_method_3_code 1 = .ok (.aload_n 1, 1) := by decide +kernel
theorem d2_2 : decode jdk_42_method_3_code 2 = .ok (.iconst 0, 1) := by decide +kernel
theorem d2_3 : decode jdk_42_method_3_code 3 = .ok (.aload_n 1, 1) := by decide +kernel
theorem sg2_0_4 : decs jdk_42_method_3_code [(0, .aload_n 0, 1), (1, .aload_n 1, 1), (2, .iconst 0, 1), (3, .aload_n 1, 1)] := ⟨d2_0, d2_1, d2_2, d2_3, trivial⟩
theorem d2_4 : decode jdk_42_method_3_code 4 = .ok (.arraylength, 1) := by decide +kernel
theorem d2_5 : decode jdk_42_method_3_code 5 = .ok (.aconst_null, 1) := by decide +kernel
theorem own_w13 : WD (Cond.methodLink "java/lang/String" 27 ⟨"java/lang/String", "<init>", "([CIILjava/lang/Void;)V"⟩) := wd 13 rfl
theorem sg2_5_1 : decs jdk_42_method_3_code [(5, .aconst_null, 1)] := ⟨d2_5, trivial⟩
theorem d2_6 : decode jdk_42_method_3_code 6 = .ok (.invokespecial 27, 3) := by decide +kernel
theorem d3_0 : decode jdk_42_method_149_code 0 = .ok (.aload_n 0, 1) := by decide +kernel
theorem own_w17 : WD (Cond.methodLink "java/lang/String" 1 ⟨"java/lang/Object", "<init>", "()V"⟩) := wd 17 rfl
theorem sg3_0_1 : decs jdk_42_method_149_code [(0, .aload_n 0, 1)] := ⟨d3_0, trivial⟩
theorem d3_1 : decode jdk_42_method_149_code 1 = .ok (.invokespecial 1, 3) := by decide +kernel
theorem own_w19 : WD (Cond.code ⟨"java/lang/Object", "<init>", "()V"⟩ object_method_1_code 1 (Option.none : Option Jvm.ClassFile.FieldType)) := wd 19 rfl
theorem own_w18 : WD (Cond.instanceMethod ⟨"java/lang/Object", "<init>", "()V"⟩) := wd 18 rfl
theorem d3_4 : decode jdk_42_method_149_code 4 = .ok (.iload_n 3, 1) := by decide +kernel
theorem sg3_4_1 : decs jdk_42_method_149_code [(4, .iload_n 3, 1)] := ⟨d3_4, trivial⟩
theorem d3_5 : decode jdk_42_method_149_code 5 = .ok (.ifCond .ne 22, 3) := by decide +kernel
theorem d3_8 : decode jdk_42_method_149_code 8 = .ok (.aload_n 0, 1) := by decide +kernel
theorem sg3_8_1 : decs jdk_42_method_149_code [(8, .aload_n 0, 1)] := ⟨d3_8, trivial⟩
theorem d3_9 : decode jdk_42_method_149_code 9 = .ok (.ldc 7, 2) := by decide +kernel
theorem own_w20 : WD (Cond.stringLink "java/lang/String" 7 "") := wd 20 rfl
theorem d3_11 : decode jdk_42_method_149_code 11 = .ok (.getfield 9, 3) := by decide +kernel
theorem own_w26 : WD (Cond.fieldLink "java/lang/String" 9 "java/lang/String" "value" "[B") := wd 26 rfl
theorem d3_14 : decode jdk_42_method_149_code 14 = .ok (.putfield 9, 3) := by decide +kernel
theorem d3_17 : decode jdk_42_method_149_code 17 = .ok (.aload_n 0, 1) := by decide +kernel
theorem sg3_17_1 : decs jdk_42_method_149_code [(17, .aload_n 0, 1)] := ⟨d3_17, trivial⟩
theorem d3_18 : decode jdk_42_method_149_code 18 = .ok (.ldc 7, 2) := by decide +kernel
theorem d3_20 : decode jdk_42_method_149_code 20 = .ok (.getfield 15, 3) := by decide +kernel
theorem own_w27 : WD (Cond.fieldLink "java/lang/String" 15 "java/lang/String" "coder" "B") := wd 27 rfl
theorem d3_23 : decode jdk_42_method_149_code 23 = .ok (.putfield 15, 3) := by decide +kernel
theorem d3_26 : decode jdk_42_method_149_code 26 = .ok (.return_, 1) := by decide +kernel
theorem ef_rm3_0 (m : MethodId) (x0 : Addr) (x1 : Addr) (x2 : Int32) : entryFrame m #[(.ref x0), (.ref x1), (.int x2), (.int x2), .null] 6 = mkF m 0 #[.val (.ref x0), .val (.ref x1), .val (.int x2), .val (.int x2), .val .null, .unset] [] := by first | (simp [entryFrame, mkF, argsToLocals, Value.category]; done) | rfl
theorem own_pn0 : plainName "java/lang/String" = true := by first | (simp [plainName, overriddenIn]; done) | decide +kernel
theorem own_w16 : WD (Cond.code ⟨"java/lang/String", "<init>", "([CIILjava/lang/Void;)V"⟩ jdk_42_method_149_code 6 (Option.none : Option Jvm.ClassFile.FieldType)) := wd 16 rfl
theorem own_pd0 : parseMethodDescriptor "([CIILjava/lang/Void;)V" = some ⟨[(.array .char), .int, .int, (.object "java/lang/Void")], none⟩ := by decide +kernel
theorem own_w14 : WD (Cond.instanceMethod ⟨"java/lang/String", "<init>", "([CIILjava/lang/Void;)V"⟩) := wd 14 rfl
theorem d2_9 : decode jdk_42_method_3_code 9 = .ok (.return_, 1) := by decide +kernel
theorem ef_rm2_0 (m : MethodId) (x0 : Addr) (x1 : Addr) : entryFrame m #[(.ref x0), (.ref x1)] 2 = mkF m 0 #[.val (.ref x0), .val (.ref x1)] [] := by first | (simp [entryFrame, mkF, argsToLocals, Value.category]; done) | rfl
theorem own_w12 : WD (Cond.code ⟨"java/lang/String", "<init>", "([C)V"⟩ jdk_42_method_3_code 2 (Option.none : Option Jvm.ClassFile.FieldType)) := wd 12 rfl
theorem own_pd1 : parseMethodDescriptor "([C)V" = some ⟨[(.array .char)], none⟩ := by decide +kernel
theorem own_w11 : WD (Cond.instanceMethod ⟨"java/lang/String", "<init>", "([C)V"⟩) := wd 11 rfl
theorem d1_14 : decode method_4_code 14 = .ok (.areturn, 1) := by decide +kernel
theorem ef_rm1_0 (m : MethodId) (x0 : Int32) (x1 : Int32) (x2 : Int32) (x3 : Int32) (x4 : Int32) (x5 : Int32) (x6 : Int32) : entryFrame m #[(.int x0), (.int x1), (.int x2), (.int x3), (.int x4), (.int x5), (.int x6)] 7 = mkF m 0 #[.val (.int x0), .val (.int x1), .val (.int x2), .val (.int x3), .val (.int x4), .val (.int x5), .val (.int x6)] [] := by first | (simp [entryFrame, mkF, argsToLocals, Value.category]; done) | rfl
theorem own_pn1 : plainName "com/example/tryst/tryst/encoding/Base58DecodePinLaw" = true := by first | (simp [plainName, overriddenIn]; done) | decide +kernel
theorem own_w5 : WD (Cond.code ⟨"com/example/tryst/tryst/encoding/Base58DecodePinLaw", "build", "(IIIIIII)Ljava/lang/String;"⟩ method_4_code 7 (Option.some (Jvm.ClassFile.FieldType.object "java/lang/String"))) := wd 5 rfl
theorem own_w4 : WD (Cond.initialized "com/example/tryst/tryst/encoding/Base58DecodePinLaw") := wd 4 rfl
theorem own_pd2 : parseMethodDescriptor "(IIIIIII)Ljava/lang/String;" = some ⟨[.int, .int, .int, .int, .int, .int, .int], some (.object "java/lang/String")⟩ := by decide +kernel
theorem own_w3 : WD (Cond.static ⟨"com/example/tryst/tryst/encoding/Base58DecodePinLaw", "build", "(IIIIIII)Ljava/lang/String;"⟩) := wd 3 rfl
theorem own_w28 : WD (Cond.methodLink "com/example/tryst/tryst/encoding/Base58DecodePinLaw" 15 ⟨"com/example/tryst/tryst/encoding/Base58", "decode", "(Ljava/lang/String;)[B"⟩) := wd 28 rfl
theorem sg0_80_2 : decs code [(80, .astore 11, 2), (82, .aload 11, 2)] := ⟨at_80, at_82, trivial⟩
theorem d5_0 : decode prog_9_method_3_code 0 = .ok (.iconst 0, 1) := by decide +kernel
theorem d5_1 : decode prog_9_method_3_code 1 = .ok (.istore_n 1, 1) := by decide +kernel
theorem d5_2 : decode prog_9_method_3_code 2 = .ok (.iload_n 1, 1) := by decide +kernel
theorem d5_3 : decode prog_9_method_3_code 3 = .ok (.aload_n 0, 1) := by decide +kernel
theorem own_w32 : WD (Cond.methodLink "com/example/tryst/tryst/encoding/Base58" 39 ⟨"java/lang/String", "length", "()I"⟩) := wd 32 rfl
theorem sg5_0_4 : decs prog_9_method_3_code [(0, .iconst 0, 1), (1, .istore_n 1, 1), (2, .iload_n 1, 1), (3, .aload_n 0, 1)] := ⟨d5_0, d5_1, d5_2, d5_3, trivial⟩
theorem d5_4 : decode prog_9_method_3_code 4 = .ok (.invokevirtual 39, 3) := by decide +kernel
theorem d6_0 : decode jdk_42_method_54_code 0 = .ok (.aload_n 0, 1) := by decide +kernel
theorem sg6_0_1 : decs jdk_42_method_54_code [(0, .aload_n 0, 1)] := ⟨d6_0, trivial⟩
theorem d6_1 : decode jdk_42_method_54_code 1 = .ok (.getfield 9, 3) := by decide +kernel
theorem d6_4 : decode jdk_42_method_54_code 4 = .ok (.arraylength, 1) := by decide +kernel
theorem d6_5 : decode jdk_42_method_54_code 5 = .ok (.aload_n 0, 1) := by decide +kernel
theorem own_w37 : WD (Cond.methodLink "java/lang/String" 335 ⟨"java/lang/String", "coder", "()B"⟩) := wd 37 rfl
theorem sg6_5_1 : decs jdk_42_method_54_code [(5, .aload_n 0, 1)] := ⟨d6_5, trivial⟩
theorem d6_6 : decode jdk_42_method_54_code 6 = .ok (.invokevirtual 335, 3) := by decide +kernel
theorem d7_0 : decode jdk_42_method_152_code 0 = .ok (.getstatic 38, 3) := by decide +kernel
theorem own_w42 : WD (Cond.fieldLink "java/lang/String" 38 "java/lang/String" "COMPACT_STRINGS" "Z") := wd 42 rfl
theorem d7_3 : decode jdk_42_method_152_code 3 = .ok (.ifCond .eq 10, 3) := by decide +kernel
theorem d7_6 : decode jdk_42_method_152_code 6 = .ok (.aload_n 0, 1) := by decide +kernel
theorem sg7_6_1 : decs jdk_42_method_152_code [(6, .aload_n 0, 1)] := ⟨d7_6, trivial⟩
theorem d7_7 : decode jdk_42_method_152_code 7 = .ok (.getfield 15, 3) := by decide +kernel
theorem d7_10 : decode jdk_42_method_152_code 10 = .ok (.goto 4, 3) := by decide +kernel
theorem sg7_10_1 : decs jdk_42_method_152_code [(10, .goto 4, 3)] := ⟨d7_10, trivial⟩
theorem d7_14 : decode jdk_42_method_152_code 14 = .ok (.ireturn, 1) := by decide +kernel
theorem ef_rm7_0 (m : MethodId) (x0 : Addr) : entryFrame m #[(.ref x0)] 1 = mkF m 0 #[.val (.ref x0)] [] := by first | (simp [entryFrame, mkF, argsToLocals, Value.category]; done) | rfl
theorem own_w41 : WD (Cond.code ⟨"java/lang/String", "coder", "()B"⟩ jdk_42_method_152_code 1 (Option.some Jvm.ClassFile.FieldType.byte)) := wd 41 rfl
theorem own_pd3 : parseMethodDescriptor "()B" = some ⟨[], some .byte⟩ := by decide +kernel
theorem own_w40 : WD (Cond.selects "java/lang/String" ⟨"java/lang/String", "coder", "()B"⟩ ⟨"java/lang/String", "coder", "()B"⟩) := wd 40 rfl
theorem own_w38 : WD (Cond.declares ⟨"java/lang/String", "coder", "()B"⟩) := wd 38 rfl
theorem own_w39 : WD (Cond.instanceMethod ⟨"java/lang/String", "coder", "()B"⟩) := wd 39 rfl
theorem d6_9 : decode jdk_42_method_54_code 9 = .ok (.ishr, 1) := by decide +kernel
theorem sg6_9_1 : decs jdk_42_method_54_code [(9, .ishr, 1)] := ⟨d6_9, trivial⟩
theorem d6_10 : decode jdk_42_method_54_code 10 = .ok (.ireturn, 1) := by decide +kernel
theorem ef_rm6_0 (m : MethodId) (x0 : Addr) : entryFrame m #[(.ref x0)] 1 = mkF m 0 #[.val (.ref x0)] [] := by first | (simp [entryFrame, mkF, argsToLocals, Value.category]; done) | rfl
theorem own_w36 : WD (Cond.code ⟨"java/lang/String", "length", "()I"⟩ jdk_42_method_54_code 1 (Option.some Jvm.ClassFile.FieldType.int)) := wd 36 rfl
theorem own_pd4 : parseMethodDescriptor "()I" = some ⟨[], some .int⟩ := by decide +kernel
theorem own_w35 : WD (Cond.selects "java/lang/String" ⟨"java/lang/String", "length", "()I"⟩ ⟨"java/lang/String", "length", "()I"⟩) := wd 35 rfl
theorem own_w33 : WD (Cond.declares ⟨"java/lang/String", "length", "()I"⟩) := wd 33 rfl
theorem own_w34 : WD (Cond.instanceMethod ⟨"java/lang/String", "length", "()I"⟩) := wd 34 rfl
theorem d5_7 : decode prog_9_method_3_code 7 = .ok (.if_icmp .ge 23, 3) := by decide +kernel
theorem d5_30 : decode prog_9_method_3_code 30 = .ok (.aload_n 0, 1) := by decide +kernel
theorem sg5_30_1 : decs prog_9_method_3_code [(30, .aload_n 0, 1)] := ⟨d5_30, trivial⟩
theorem d5_31 : decode prog_9_method_3_code 31 = .ok (.invokevirtual 39, 3) := by decide +kernel
theorem d5_34 : decode prog_9_method_3_code 34 = .ok (.newarray .byte, 2) := by decide +kernel
theorem own_w21 : WD (Cond.arrayClass Jvm.ClassFile.FieldType.byte) := wd 21 rfl
theorem d5_36 : decode prog_9_method_3_code 36 = .ok (.astore_n 2, 1) := by decide +kernel
theorem d5_37 : decode prog_9_method_3_code 37 = .ok (.iconst 0, 1) := by decide +kernel
theorem d5_38 : decode prog_9_method_3_code 38 = .ok (.istore_n 3, 1) := by decide +kernel
theorem d5_39 : decode prog_9_method_3_code 39 = .ok (.iload_n 1, 1) := by decide +kernel
theorem d5_40 : decode prog_9_method_3_code 40 = .ok (.istore 4, 2) := by decide +kernel
theorem d5_42 : decode prog_9_method_3_code 42 = .ok (.iload 4, 2) := by decide +kernel
theorem d5_44 : decode prog_9_method_3_code 44 = .ok (.aload_n 0, 1) := by decide +kernel
theorem sg5_36_7 : decs prog_9_method_3_code [(36, .astore_n 2, 1), (37, .iconst 0, 1), (38, .istore_n 3, 1), (39, .iload_n 1, 1), (40, .istore 4, 2), (42, .iload 4, 2), (44, .aload_n 0, 1)] := ⟨d5_36, d5_37, d5_38, d5_39, d5_40, d5_42, d5_44, trivial⟩
theorem d5_45 : decode prog_9_method_3_code 45 = .ok (.invokevirtual 39, 3) := by decide +kernel
theorem d5_48 : decode prog_9_method_3_code 48 = .ok (.if_icmp .ge 115, 3) := by decide +kernel
theorem d5_163 : decode prog_9_method_3_code 163 = .ok (.iload_n 1, 1) := by decide +kernel
theorem d5_164 : decode prog_9_method_3_code 164 = .ok (.iload_n 3, 1) := by decide +kernel
theorem d5_165 : decode prog_9_method_3_code 165 = .ok (.iadd, 1) := by decide +kernel
theorem sg5_163_3 : decs prog_9_method_3_code [(163, .iload_n 1, 1), (164, .iload_n 3, 1), (165, .iadd, 1)] := ⟨d5_163, d5_164, d5_165, trivial⟩
theorem d5_166 : decode prog_9_method_3_code 166 = .ok (.newarray .byte, 2) := by decide +kernel
theorem d5_168 : decode prog_9_method_3_code 168 = .ok (.astore 4, 2) := by decide +kernel
theorem d5_170 : decode prog_9_method_3_code 170 = .ok (.iconst 0, 1) := by decide +kernel
theorem d5_171 : decode prog_9_method_3_code 171 = .ok (.istore 5, 2) := by decide +kernel
theorem d5_173 : decode prog_9_method_3_code 173 = .ok (.iload 5, 2) := by decide +kernel
theorem d5_175 : decode prog_9_method_3_code 175 = .ok (.iload_n 3, 1) := by decide +kernel
theorem sg5_168_5 : decs prog_9_method_3_code [(168, .astore 4, 2), (170, .iconst 0, 1), (171, .istore 5, 2), (173, .iload 5, 2), (175, .iload_n 3, 1)] := ⟨d5_168, d5_170, d5_171, d5_173, d5_175, trivial⟩
theorem d5_176 : decode prog_9_method_3_code 176 = .ok (.if_icmp .ge 24, 3) := by decide +kernel
theorem d5_200 : decode prog_9_method_3_code 200 = .ok (.aload 4, 2) := by decide +kernel
theorem sg5_200_1 : decs prog_9_method_3_code [(200, .aload 4, 2)] := ⟨d5_200, trivial⟩
theorem d5_202 : decode prog_9_method_3_code 202 = .ok (.areturn, 1) := by decide +kernel
theorem ef_rm5_0 (m : MethodId) (x0 : Addr) : entryFrame m #[(.ref x0)] 7 = mkF m 0 #[.val (.ref x0), .unset, .unset, .unset, .unset, .unset, .unset] [] := by first | (simp [entryFrame, mkF, argsToLocals, Value.category]; done) | rfl
theorem own_pn2 : plainName "com/example/tryst/tryst/encoding/Base58" = true := by first | (simp [plainName, overriddenIn]; done) | decide +kernel
theorem own_w31 : WD (Cond.code ⟨"com/example/tryst/tryst/encoding/Base58", "decode", "(Ljava/lang/String;)[B"⟩ prog_9_method_3_code 7 (Option.some (Jvm.ClassFile.FieldType.array Jvm.ClassFile.FieldType.byte))) := wd 31 rfl
theorem own_w30 : WD (Cond.initialized "com/example/tryst/tryst/encoding/Base58") := wd 30 rfl
theorem own_pd5 : parseMethodDescriptor "(Ljava/lang/String;)[B" = some ⟨[(.object "java/lang/String")], some (.array .byte)⟩ := by decide +kernel
theorem own_w29 : WD (Cond.static ⟨"com/example/tryst/tryst/encoding/Base58", "decode", "(Ljava/lang/String;)[B"⟩) := wd 29 rfl
theorem own_w43 : WD (Cond.methodLink "com/example/tryst/tryst/encoding/Base58DecodePinLaw" 21 ⟨"com/example/tryst/tryst/encoding/Base58DecodePinLaw", "leadingZeros", "(IIIIIII)I"⟩) := wd 43 rfl
theorem sg0_87_8 : decs code [(87, .astore 12, 2), (89, .iload 4, 2), (91, .iload 5, 2), (93, .iload 6, 2), (95, .iload 7, 2), (97, .iload 8, 2), (99, .iload 9, 2), (101, .iload 10, 2)] := ⟨at_87, at_89, at_91, at_93, at_95, at_97, at_99, at_101, trivial⟩
theorem d8_0 : decode method_5_code 0 = .ok (.iload_n 0, 1) := by decide +kernel
theorem d8_1 : decode method_5_code 1 = .ok (.iconst 1, 1) := by decide +kernel
theorem sg8_0_2 : decs method_5_code [(0, .iload_n 0, 1), (1, .iconst 1, 1)] := ⟨d8_0, d8_1, trivial⟩
theorem d8_2 : decode method_5_code 2 = .ok (.if_icmp .lt 7, 3) := by decide +kernel
theorem d8_9 : decode method_5_code 9 = .ok (.iconst 0, 1) := by decide +kernel
theorem sg8_9_1 : decs method_5_code [(9, .iconst 0, 1)] := ⟨d8_9, trivial⟩
theorem d8_10 : decode method_5_code 10 = .ok (.ireturn, 1) := by decide +kernel
theorem ef_rm8_0 (m : MethodId) (x0 : Int32) (x1 : Int32) (x2 : Int32) (x3 : Int32) (x4 : Int32) (x5 : Int32) (x6 : Int32) : entryFrame m #[(.int x0), (.int x1), (.int x2), (.int x3), (.int x4), (.int x5), (.int x6)] 7 = mkF m 0 #[.val (.int x0), .val (.int x1), .val (.int x2), .val (.int x3), .val (.int x4), .val (.int x5), .val (.int x6)] [] := by first | (simp [entryFrame, mkF, argsToLocals, Value.category]; done) | rfl
theorem own_w45 : WD (Cond.code ⟨"com/example/tryst/tryst/encoding/Base58DecodePinLaw", "leadingZeros", "(IIIIIII)I"⟩ method_5_code 7 (Option.some Jvm.ClassFile.FieldType.int)) := wd 45 rfl
theorem own_pd6 : parseMethodDescriptor "(IIIIIII)I" = some ⟨[.int, .int, .int, .int, .int, .int, .int], some .int⟩ := by decide +kernel
theorem own_w44 : WD (Cond.static ⟨"com/example/tryst/tryst/encoding/Base58DecodePinLaw", "leadingZeros", "(IIIIIII)I"⟩) := wd 44 rfl
theorem own_w46 : WD (Cond.methodLink "com/example/tryst/tryst/encoding/Base58DecodePinLaw" 25 ⟨"com/example/tryst/tryst/encoding/Base58DecodePinLaw", "value", "(IIIIIII)J"⟩) := wd 46 rfl
theorem sg0_106_8 : decs code [(106, .istore 13, 2), (108, .iload 4, 2), (110, .iload 5, 2), (112, .iload 6, 2), (114, .iload 7, 2), (116, .iload 8, 2), (118, .iload 9, 2), (120, .iload 10, 2)] := ⟨at_106, at_108, at_110, at_112, at_114, at_116, at_118, at_120, trivial⟩
theorem d9_0 : decode method_6_code 0 = .ok (.lconst 0, 1) := by decide +kernel
theorem d9_1 : decode method_6_code 1 = .ok (.lstore 7, 2) := by decide +kernel
theorem d9_3 : decode method_6_code 3 = .ok (.iload_n 0, 1) := by decide +kernel
theorem sg9_0_3 : decs method_6_code [(0, .lconst 0, 1), (1, .lstore 7, 2), (3, .iload_n 0, 1)] := ⟨d9_0, d9_1, d9_3, trivial⟩
theorem d9_4 : decode method_6_code 4 = .ok (.ifCond .le 7, 3) := by decide +kernel
theorem d9_11 : decode method_6_code 11 = .ok (.iload_n 0, 1) := by decide +kernel
theorem d9_12 : decode method_6_code 12 = .ok (.iconst 1, 1) := by decide +kernel
theorem sg9_11_2 : decs method_6_code [(11, .iload_n 0, 1), (12, .iconst 1, 1)] := ⟨d9_11, d9_12, trivial⟩
theorem d9_13 : decode method_6_code 13 = .ok (.if_icmp .le 14, 3) := by decide +kernel
theorem d9_27 : decode method_6_code 27 = .ok (.iload_n 0, 1) := by decide +kernel
theorem d9_28 : decode method_6_code 28 = .ok (.iconst 2, 1) := by decide +kernel
theorem sg9_27_2 : decs method_6_code [(27, .iload_n 0, 1), (28, .iconst 2, 1)] := ⟨d9_27, d9_28, trivial⟩
theorem d9_29 : decode method_6_code 29 = .ok (.if_icmp .le 14, 3) := by decide +kernel
theorem d9_43 : decode method_6_code 43 = .ok (.iload_n 0, 1) := by decide +kernel
theorem d9_44 : decode method_6_code 44 = .ok (.iconst 3, 1) := by decide +kernel
theorem sg9_43_2 : decs method_6_code [(43, .iload_n 0, 1), (44, .iconst 3, 1)] := ⟨d9_43, d9_44, trivial⟩
theorem d9_45 : decode method_6_code 45 = .ok (.if_icmp .le 15, 3) := by decide +kernel
theorem d9_60 : decode method_6_code 60 = .ok (.iload_n 0, 1) := by decide +kernel
theorem d9_61 : decode method_6_code 61 = .ok (.iconst 4, 1) := by decide +kernel
theorem sg9_60_2 : decs method_6_code [(60, .iload_n 0, 1), (61, .iconst 4, 1)] := ⟨d9_60, d9_61, trivial⟩
theorem d9_62 : decode method_6_code 62 = .ok (.if_icmp .le 15, 3) := by decide +kernel
theorem d9_77 : decode method_6_code 77 = .ok (.iload_n 0, 1) := by decide +kernel
theorem d9_78 : decode method_6_code 78 = .ok (.iconst 5, 1) := by decide +kernel
theorem sg9_77_2 : decs method_6_code [(77, .iload_n 0, 1), (78, .iconst 5, 1)] := ⟨d9_77, d9_78, trivial⟩
theorem d9_79 : decode method_6_code 79 = .ok (.if_icmp .le 15, 3) := by decide +kernel
theorem d9_94 : decode method_6_code 94 = .ok (.lload 7, 2) := by decide +kernel
theorem sg9_94_1 : decs method_6_code [(94, .lload 7, 2)] := ⟨d9_94, trivial⟩
theorem d9_96 : decode method_6_code 96 = .ok (.lreturn, 1) := by decide +kernel
theorem ef_rm9_0 (m : MethodId) (x0 : Int32) (x1 : Int32) (x2 : Int32) (x3 : Int32) (x4 : Int32) (x5 : Int32) (x6 : Int32) : entryFrame m #[(.int x0), (.int x1), (.int x2), (.int x3), (.int x4), (.int x5), (.int x6)] 9 = mkF m 0 #[.val (.int x0), .val (.int x1), .val (.int x2), .val (.int x3), .val (.int x4), .val (.int x5), .val (.int x6), .unset, .unset] [] := by first | (simp [entryFrame, mkF, argsToLocals, Value.category]; done) | rfl
theorem own_w48 : WD (Cond.code ⟨"com/example/tryst/tryst/encoding/Base58DecodePinLaw", "value", "(IIIIIII)J"⟩ method_6_code 9 (Option.some Jvm.ClassFile.FieldType.long)) := wd 48 rfl
theorem own_pd7 : parseMethodDescriptor "(IIIIIII)J" = some ⟨[.int, .int, .int, .int, .int, .int, .int], some .long⟩ := by decide +kernel
theorem own_w47 : WD (Cond.static ⟨"com/example/tryst/tryst/encoding/Base58DecodePinLaw", "value", "(IIIIIII)J"⟩) := wd 47 rfl
theorem own_w49 : WD (Cond.methodLink "com/example/tryst/tryst/encoding/Base58DecodePinLaw" 29 ⟨"com/example/tryst/tryst/encoding/Base58DecodePinLaw", "byteCount", "(J)I"⟩) := wd 49 rfl
theorem sg0_125_2 : decs code [(125, .lstore 14, 2), (127, .lload 14, 2)] := ⟨at_125, at_127, trivial⟩
theorem d10_0 : decode method_7_code 0 = .ok (.lload_n 0, 1) := by decide +kernel
theorem d10_1 : decode method_7_code 1 = .ok (.lconst 0, 1) := by decide +kernel
theorem d10_2 : decode method_7_code 2 = .ok (.lcmp, 1) := by decide +kernel
theorem sg10_0_3 : decs method_7_code [(0, .lload_n 0, 1), (1, .lconst 0, 1), (2, .lcmp, 1)] := ⟨d10_0, d10_1, d10_2, trivial⟩
theorem d10_3 : decode method_7_code 3 = .ok (.ifCond .ne 5, 3) := by decide +kernel
theorem d10_6 : decode method_7_code 6 = .ok (.iconst 0, 1) := by decide +kernel
theorem sg10_6_1 : decs method_7_code [(6, .iconst 0, 1)] := ⟨d10_6, trivial⟩
theorem d10_7 : decode method_7_code 7 = .ok (.ireturn, 1) := by decide +kernel
theorem ef_rm10_0 (m : MethodId) (x0 : Int64) : entryFrame m #[(.long x0)] 2 = mkF m 0 #[.val (.long x0), .second] [] := by first | (simp [entryFrame, mkF, argsToLocals, Value.category]; done) | rfl
theorem own_w51 : WD (Cond.code ⟨"com/example/tryst/tryst/encoding/Base58DecodePinLaw", "byteCount", "(J)I"⟩ method_7_code 2 (Option.some Jvm.ClassFile.FieldType.int)) := wd 51 rfl
theorem own_pd8 : parseMethodDescriptor "(J)I" = some ⟨[.long], some .int⟩ := by decide +kernel
theorem own_w50 : WD (Cond.static ⟨"com/example/tryst/tryst/encoding/Base58DecodePinLaw", "byteCount", "(J)I"⟩) := wd 50 rfl
theorem sg0_132_2 : decs code [(132, .istore 16, 2), (134, .aload 12, 2)] := ⟨at_132, at_134, trivial⟩
theorem sg0_137_3 : decs code [(137, .iload 13, 2), (139, .iload 16, 2), (141, .iadd, 1)] := ⟨at_137, at_139, at_141, trivial⟩
theorem own_w52 : WD (Cond.methodLink "com/example/tryst/tryst/encoding/Base58DecodePinLaw" 33 ⟨"com/example/tryst/tryst/encoding/Base58DecodePinLaw", "check", "([BIIIJ)Z"⟩) := wd 52 rfl
theorem sg0_147_5 : decs code [(147, .aload 12, 2), (149, .iconst 0, 1), (150, .iload 13, 2), (152, .iload 16, 2), (154, .lload 14, 2)] := ⟨at_147, at_149, at_150, at_152, at_154, trivial⟩
theorem d11_0 : decode method_9_code 0 = .ok (.iload_n 1, 1) := by decide +kernel
theorem d11_1 : decode method_9_code 1 = .ok (.aload_n 0, 1) := by decide +kernel
theorem sg11_0_2 : decs method_9_code [(0, .iload_n 1, 1), (1, .aload_n 0, 1)] := ⟨d11_0, d11_1, trivial⟩
theorem d11_2 : decode method_9_code 2 = .ok (.arraylength, 1) := by decide +kernel
theorem d11_3 : decode method_9_code 3 = .ok (.if_icmp .lt 5, 3) := by decide +kernel
theorem d11_6 : decode method_9_code 6 = .ok (.iconst 1, 1) := by decide +kernel
theorem sg11_6_1 : decs method_9_code [(6, .iconst 1, 1)] := ⟨d11_6, trivial⟩
theorem d11_7 : decode method_9_code 7 = .ok (.ireturn, 1) := by decide +kernel
theorem ef_rm11_0 (m : MethodId) (x0 : Addr) (x1 : Int32) (x2 : Int32) (x3 : Int32) (x4 : Int64) : entryFrame m #[(.ref x0), (.int x1), (.int x2), (.int x3), (.long x4)] 6 = mkF m 0 #[.val (.ref x0), .val (.int x1), .val (.int x2), .val (.int x3), .val (.long x4), .second] [] := by first | (simp [entryFrame, mkF, argsToLocals, Value.category]; done) | rfl
theorem own_w54 : WD (Cond.code ⟨"com/example/tryst/tryst/encoding/Base58DecodePinLaw", "check", "([BIIIJ)Z"⟩ method_9_code 6 (Option.some Jvm.ClassFile.FieldType.boolean)) := wd 54 rfl
theorem own_pd9 : parseMethodDescriptor "([BIIIJ)Z" = some ⟨[(.array .byte), .int, .int, .int, .long], some .boolean⟩ := by decide +kernel
theorem own_w53 : WD (Cond.static ⟨"com/example/tryst/tryst/encoding/Base58DecodePinLaw", "check", "([BIIIJ)Z"⟩) := wd 53 rfl
theorem sg0_162_5 : decs code [(162, .aload 12, 2), (164, .iconst 1, 1), (165, .iload 13, 2), (167, .iload 16, 2), (169, .lload 14, 2)] := ⟨at_162, at_164, at_165, at_167, at_169, trivial⟩
theorem sg0_177_5 : decs code [(177, .aload 12, 2), (179, .iconst 2, 1), (180, .iload 13, 2), (182, .iload 16, 2), (184, .lload 14, 2)] := ⟨at_177, at_179, at_180, at_182, at_184, trivial⟩
theorem sg0_192_5 : decs code [(192, .aload 12, 2), (194, .iconst 3, 1), (195, .iload 13, 2), (197, .iload 16, 2), (199, .lload 14, 2)] := ⟨at_192, at_194, at_195, at_197, at_199, trivial⟩
theorem sg0_207_5 : decs code [(207, .aload 12, 2), (209, .iconst 4, 1), (210, .iload 13, 2), (212, .iload 16, 2), (214, .lload 14, 2)] := ⟨at_207, at_209, at_210, at_212, at_214, trivial⟩
theorem sg0_222_5 : decs code [(222, .aload 12, 2), (224, .iconst 5, 1), (225, .iload 13, 2), (227, .iload 16, 2), (229, .lload 14, 2)] := ⟨at_222, at_224, at_225, at_227, at_229, trivial⟩
theorem sg0_237_2 : decs code [(237, .iconst 1, 1), (238, .goto 4, 3)] := ⟨at_237, at_238, trivial⟩
theorem d1_15 : decode method_4_code 15 = .ok (.iload_n 0, 1) := by decide +kernel
theorem d1_16 : decode method_4_code 16 = .ok (.iconst 1, 1) := by decide +kernel
theorem sg1_15_2 : decs method_4_code [(15, .iload_n 0, 1), (16, .iconst 1, 1)] := ⟨d1_15, d1_16, trivial⟩
theorem d1_17 : decode method_4_code 17 = .ok (.if_icmp .ne 21, 3) := by decide +kernel
theorem d1_20 : decode method_4_code 20 = .ok (.new 40, 3) := by decide +kernel
theorem d1_23 : decode method_4_code 23 = .ok (.dup, 1) := by decide +kernel
theorem d1_24 : decode method_4_code 24 = .ok (.iconst 1, 1) := by decide +kernel
theorem sg1_23_2 : decs method_4_code [(23, .dup, 1), (24, .iconst 1, 1)] := ⟨d1_23, d1_24, trivial⟩
theorem d1_25 : decode method_4_code 25 = .ok (.newarray .char, 2) := by decide +kernel
theorem d1_27 : decode method_4_code 27 = .ok (.dup, 1) := by decide +kernel
theorem d1_28 : decode method_4_code 28 = .ok (.iconst 0, 1) := by decide +kernel
theorem d1_29 : decode method_4_code 29 = .ok (.iload_n 1, 1) := by decide +kernel
theorem own_w55 : WD (Cond.methodLink "com/example/tryst/tryst/encoding/Base58DecodePinLaw" 48 ⟨"com/example/tryst/tryst/encoding/Base58DecodePinLaw", "digit", "(I)C"⟩) := wd 55 rfl
theorem sg1_27_3 : decs method_4_code [(27, .dup, 1), (28, .iconst 0, 1), (29, .iload_n 1, 1)] := ⟨d1_27, d1_28, d1_29, trivial⟩
theorem d1_30 : decode method_4_code 30 = .ok (.invokestatic 48, 3) := by decide +kernel
theorem d12_0 : decode method_3_code 0 = .ok (.ldc 37, 2) := by decide +kernel
abbrev own_T0 : List Value := [(.int 49), (.int 50), (.int 51), (.int 52), (.int 53), (.int 54), (.int 55), (.int 56), (.int 57), (.int 65), (.int 66), (.int 67), (.int 68), (.int 69), (.int 70), (.int 71), (.int 72), (.int 74), (.int 75), (.int 76), (.int 77), (.int 78), (.int 80), (.int 81), (.int 82), (.int 83), (.int 84), (.int 85), (.int 86), (.int 87), (.int 88), (.int 89), (.int 90), (.int 97), (.int 98), (.int 99), (.int 100), (.int 101), (.int 102), (.int 103), (.int 104), (.int 105), (.int 106), (.int 107), (.int 109), (.int 110), (.int 111), (.int 112), (.int 113), (.int 114), (.int 115), (.int 116), (.int 117), (.int 118), (.int 119), (.int 120), (.int 121), (.int 122)]
theorem own_w58 : WD (Cond.stringLink "com/example/tryst/tryst/encoding/Base58DecodePinLaw" 37 "123456789ABCDEFGHJKLMNPQRSTUVWXYZabcdefghijkmnopqrstuvwxyz") := wd 58 rfl
theorem d12_2 : decode method_3_code 2 = .ok (.iload_n 0, 1) := by decide +kernel
theorem own_w59 : WD (Cond.methodLink "com/example/tryst/tryst/encoding/Base58DecodePinLaw" 39 ⟨"java/lang/String", "charAt", "(I)C"⟩) := wd 59 rfl
theorem sg12_2_1 : decs method_3_code [(2, .iload_n 0, 1)] := ⟨d12_2, trivial⟩
theorem d12_3 : decode method_3_code 3 = .ok (.invokevirtual 39, 3) := by decide +kernel
theorem d13_0 : decode jdk_42_method_56_code 0 = .ok (.aload_n 0, 1) := by decide +kernel
theorem own_w64 : WD (Cond.methodLink "java/lang/String" 492 ⟨"java/lang/String", "isLatin1", "()Z"⟩) := wd 64 rfl
theorem sg13_0_1 : decs jdk_42_method_56_code [(0, .aload_n 0, 1)] := ⟨d13_0, trivial⟩
theorem d13_1 : decode jdk_42_method_56_code 1 = .ok (.invokevirtual 492, 3) := by decide +kernel
theorem d14_0 : decode jdk_42_method_154_code 0 = .ok (.getstatic 38, 3) := by decide +kernel
theorem d14_3 : decode jdk_42_method_154_code 3 = .ok (.ifCond .eq 14, 3) := by decide +kernel
theorem d14_6 : decode jdk_42_method_154_code 6 = .ok (.aload_n 0, 1) := by decide +kernel
theorem sg14_6_1 : decs jdk_42_method_154_code [(6, .aload_n 0, 1)] := ⟨d14_6, trivial⟩
theorem d14_7 : decode jdk_42_method_154_code 7 = .ok (.getfield 15, 3) := by decide +kernel
theorem d14_10 : decode jdk_42_method_154_code 10 = .ok (.ifCond .ne 7, 3) := by decide +kernel
theorem d14_13 : decode jdk_42_method_154_code 13 = .ok (.iconst 1, 1) := by decide +kernel
theorem d14_14 : decode jdk_42_method_154_code 14 = .ok (.goto 4, 3) := by decide +kernel
theorem sg14_13_2 : decs jdk_42_method_154_code [(13, .iconst 1, 1), (14, .goto 4, 3)] := ⟨d14_13, d14_14, trivial⟩
theorem d14_18 : decode jdk_42_method_154_code 18 = .ok (.ireturn, 1) := by decide +kernel
theorem ef_rm14_0 (m : MethodId) (x0 : Addr) : entryFrame m #[(.ref x0)] 1 = mkF m 0 #[.val (.ref x0)] [] := by first | (simp [entryFrame, mkF, argsToLocals, Value.category]; done) | rfl
theorem own_w68 : WD (Cond.code ⟨"java/lang/String", "isLatin1", "()Z"⟩ jdk_42_method_154_code 1 (Option.some Jvm.ClassFile.FieldType.boolean)) := wd 68 rfl
theorem own_pd10 : parseMethodDescriptor "()Z" = some ⟨[], some .boolean⟩ := by decide +kernel
theorem own_w67 : WD (Cond.selects "java/lang/String" ⟨"java/lang/String", "isLatin1", "()Z"⟩ ⟨"java/lang/String", "isLatin1", "()Z"⟩) := wd 67 rfl
theorem own_w65 : WD (Cond.declares ⟨"java/lang/String", "isLatin1", "()Z"⟩) := wd 65 rfl
theorem own_w66 : WD (Cond.instanceMethod ⟨"java/lang/String", "isLatin1", "()Z"⟩) := wd 66 rfl
theorem d13_4 : decode jdk_42_method_56_code 4 = .ok (.ifCond .eq 12, 3) := by decide +kernel
theorem d13_7 : decode jdk_42_method_56_code 7 = .ok (.aload_n 0, 1) := by decide +kernel
theorem sg13_7_1 : decs jdk_42_method_56_code [(7, .aload_n 0, 1)] := ⟨d13_7, trivial⟩
theorem d13_8 : decode jdk_42_method_56_code 8 = .ok (.getfield 9, 3) := by decide +kernel
theorem d13_11 : decode jdk_42_method_56_code 11 = .ok (.iload_n 1, 1) := by decide +kernel
theorem own_w69 : WD (Cond.methodLink "java/lang/String" 495 ⟨"java/lang/StringLatin1", "charAt", "([BI)C"⟩) := wd 69 rfl
theorem sg13_11_1 : decs jdk_42_method_56_code [(11, .iload_n 1, 1)] := ⟨d13_11, trivial⟩
theorem d13_12 : decode jdk_42_method_56_code 12 = .ok (.invokestatic 495, 3) := by decide +kernel
theorem d15_0 : decode jdk_43_method_2_code 0 = .ok (.iload_n 1, 1) := by decide +kernel
theorem d15_1 : decode jdk_43_method_2_code 1 = .ok (.aload_n 0, 1) := by decide +kernel
theorem sg15_0_2 : decs jdk_43_method_2_code [(0, .iload_n 1, 1), (1, .aload_n 0, 1)] := ⟨d15_0, d15_1, trivial⟩
theorem d15_2 : decode jdk_43_method_2_code 2 = .ok (.arraylength, 1) := by decide +kernel
theorem own_w73 : WD (Cond.methodLink "java/lang/StringLatin1" 9 ⟨"java/lang/String", "checkIndex", "(II)V"⟩) := wd 73 rfl
theorem d15_3 : decode jdk_43_method_2_code 3 = .ok (.invokestatic 9, 3) := by decide +kernel
theorem d16_0 : decode jdk_42_method_155_code 0 = .ok (.iload_n 0, 1) := by decide +kernel
theorem d16_1 : decode jdk_42_method_155_code 1 = .ok (.iload_n 1, 1) := by decide +kernel
theorem sg16_0_2 : decs jdk_42_method_155_code [(0, .iload_n 0, 1), (1, .iload_n 1, 1)] := ⟨d16_0, d16_1, trivial⟩
theorem d16_2 : decode jdk_42_method_155_code 2 = .ok (.getstatic 1053, 3) := by decide +kernel
theorem own_w76 : WD (Cond.fieldLink "java/lang/String" 1053 "jdk/internal/util/Preconditions" "SIOOBE_FORMATTER" "Ljava/util/function/BiFunction;") := wd 76 rfl
theorem own_w78 : WD (Cond.methodLink "java/lang/String" 1059 ⟨"jdk/internal/util/Preconditions", "checkIndex", "(IILjava/util/function/BiFunction;)I"⟩) := wd 78 rfl
theorem d16_5 : decode jdk_42_method_155_code 5 = .ok (.invokestatic 1059, 3) := by decide +kernel
theorem d17_0 : decode jdk_41_method_11_code 0 = .ok (.iload_n 0, 1) := by decide +kernel
theorem sg17_0_1 : decs jdk_41_method_11_code [(0, .iload_n 0, 1)] := ⟨d17_0, trivial⟩
theorem d17_1 : decode jdk_41_method_11_code 1 = .ok (.ifCond .lt 8, 3) := by decide +kernel
theorem d17_4 : decode jdk_41_method_11_code 4 = .ok (.iload_n 0, 1) := by decide +kernel
theorem d17_5 : decode jdk_41_method_11_code 5 = .ok (.iload_n 1, 1) := by decide +kernel
theorem sg17_4_2 : decs jdk_41_method_11_code [(4, .iload_n 0, 1), (5, .iload_n 1, 1)] := ⟨d17_4, d17_5, trivial⟩
theorem d17_6 : decode jdk_41_method_11_code 6 = .ok (.if_icmp .lt 10, 3) := by decide +kernel
theorem d17_16 : decode jdk_41_method_11_code 16 = .ok (.iload_n 0, 1) := by decide +kernel
theorem sg17_16_1 : decs jdk_41_method_11_code [(16, .iload_n 0, 1)] := ⟨d17_16, trivial⟩
theorem d17_17 : decode jdk_41_method_11_code 17 = .ok (.ireturn, 1) := by decide +kernel
theorem ef_rm17_0 (m : MethodId) (x0 : Int32) (x1 : Int32) (x2 : Value) (hx2 : x2.isRef = true) : entryFrame m #[(.int x0), (.int x1), x2] 3 = mkF m 0 #[.val (.int x0), .val (.int x1), .val x2] [] := by rcases ref_cases hx2 with rfl | ⟨ax2, rfl⟩ <;> first | (simp [entryFrame, mkF, argsToLocals, Value.category]; done) | rfl
theorem own_pn3 : plainName "jdk/internal/util/Preconditions" = true := by first | (simp [plainName, overriddenIn]; done) | decide +kernel
theorem own_w80 : WD (Cond.code ⟨"jdk/internal/util/Preconditions", "checkIndex", "(IILjava/util/function/BiFunction;)I"⟩ jdk_41_method_11_code 3 (Option.some Jvm.ClassFile.FieldType.int)) := wd 80 rfl
theorem own_w77 : WD (Cond.initialized "jdk/internal/util/Preconditions") := wd 77 rfl
theorem own_pd11 : parseMethodDescriptor "(IILjava/util/function/BiFunction;)I" = some ⟨[.int, .int, (.object "java/util/function/BiFunction")], some .int⟩ := by decide +kernel
theorem own_w79 : WD (Cond.static ⟨"jdk/internal/util/Preconditions", "checkIndex", "(IILjava/util/function/BiFunction;)I"⟩) := wd 79 rfl
theorem d16_8 : decode jdk_42_method_155_code 8 = .ok (.pop, 1) := by decide +kernel
theorem sg16_8_1 : decs jdk_42_method_155_code [(8, .pop, 1)] := ⟨d16_8, trivial⟩
theorem d16_9 : decode jdk_42_method_155_code 9 = .ok (.return_, 1) := by decide +kernel
theorem ef_rm16_0 (m : MethodId) (x0 : Int32) (x1 : Int32) : entryFrame m #[(.int x0), (.int x1)] 2 = mkF m 0 #[.val (.int x0), .val (.int x1)] [] := by first | (simp [entryFrame, mkF, argsToLocals, Value.category]; done) | rfl
theorem own_w75 : WD (Cond.code ⟨"java/lang/String", "checkIndex", "(II)V"⟩ jdk_42_method_155_code 2 (Option.none : Option Jvm.ClassFile.FieldType)) := wd 75 rfl
theorem own_pd12 : parseMethodDescriptor "(II)V" = some ⟨[.int, .int], none⟩ := by decide +kernel
theorem own_w74 : WD (Cond.static ⟨"java/lang/String", "checkIndex", "(II)V"⟩) := wd 74 rfl
theorem d15_6 : decode jdk_43_method_2_code 6 = .ok (.aload_n 0, 1) := by decide +kernel
theorem d15_7 : decode jdk_43_method_2_code 7 = .ok (.iload_n 1, 1) := by decide +kernel
theorem sg15_6_2 : decs jdk_43_method_2_code [(6, .aload_n 0, 1), (7, .iload_n 1, 1)] := ⟨d15_6, d15_7, trivial⟩
theorem d15_8 : decode jdk_43_method_2_code 8 = .ok (.baload, 1) := by decide +kernel
theorem d15_9 : decode jdk_43_method_2_code 9 = .ok (.sipush 255, 3) := by decide +kernel
theorem d15_12 : decode jdk_43_method_2_code 12 = .ok (.iand, 1) := by decide +kernel
theorem d15_13 : decode jdk_43_method_2_code 13 = .ok (.i2c, 1) := by decide +kernel
theorem sg15_9_3 : decs jdk_43_method_2_code [(9, .sipush 255, 3), (12, .iand, 1), (13, .i2c, 1)] := ⟨d15_9, d15_12, d15_13, trivial⟩
theorem d15_14 : decode jdk_43_method_2_code 14 = .ok (.ireturn, 1) := by decide +kernel
theorem ef_rm15_0 (m : MethodId) (x0 : Addr) (x1 : Int32) : entryFrame m #[(.ref x0), (.int x1)] 2 = mkF m 0 #[.val (.ref x0), .val (.int x1)] [] := by first | (simp [entryFrame, mkF, argsToLocals, Value.category]; done) | rfl
theorem own_pn4 : plainName "java/lang/StringLatin1" = true := by first | (simp [plainName, overriddenIn]; done) | decide +kernel
theorem own_w72 : WD (Cond.code ⟨"java/lang/StringLatin1", "charAt", "([BI)C"⟩ jdk_43_method_2_code 2 (Option.some Jvm.ClassFile.FieldType.char)) := wd 72 rfl
theorem own_w71 : WD (Cond.initialized "java/lang/StringLatin1") := wd 71 rfl
theorem own_pd13 : parseMethodDescriptor "([BI)C" = some ⟨[(.array .byte), .int], some .char⟩ := by decide +kernel
theorem own_w70 : WD (Cond.static ⟨"java/lang/StringLatin1", "charAt", "([BI)C"⟩) := wd 70 rfl
theorem d13_15 : decode jdk_42_method_56_code 15 = .ok (.ireturn, 1) := by decide +kernel
theorem ef_rm13_0 (m : MethodId) (x0 : Addr) (x1 : Int32) : entryFrame m #[(.ref x0), (.int x1)] 2 = mkF m 0 #[.val (.ref x0), .val (.int x1)] [] := by first | (simp [entryFrame, mkF, argsToLocals, Value.category]; done) | rfl
theorem own_w63 : WD (Cond.code ⟨"java/lang/String", "charAt", "(I)C"⟩ jdk_42_method_56_code 2 (Option.some Jvm.ClassFile.FieldType.char)) := wd 63 rfl
theorem own_pd14 : parseMethodDescriptor "(I)C" = some ⟨[.int], some .char⟩ := by decide +kernel
theorem own_w62 : WD (Cond.selects "java/lang/String" ⟨"java/lang/String", "charAt", "(I)C"⟩ ⟨"java/lang/String", "charAt", "(I)C"⟩) := wd 62 rfl
theorem own_w60 : WD (Cond.declares ⟨"java/lang/String", "charAt", "(I)C"⟩) := wd 60 rfl
theorem own_w61 : WD (Cond.instanceMethod ⟨"java/lang/String", "charAt", "(I)C"⟩) := wd 61 rfl
theorem d12_6 : decode method_3_code 6 = .ok (.ireturn, 1) := by decide +kernel
theorem ef_rm12_0 (m : MethodId) (x0 : Int32) : entryFrame m #[(.int x0)] 1 = mkF m 0 #[.val (.int x0)] [] := by first | (simp [entryFrame, mkF, argsToLocals, Value.category]; done) | rfl
theorem own_w57 : WD (Cond.code ⟨"com/example/tryst/tryst/encoding/Base58DecodePinLaw", "digit", "(I)C"⟩ method_3_code 1 (Option.some Jvm.ClassFile.FieldType.char)) := wd 57 rfl
theorem own_w56 : WD (Cond.static ⟨"com/example/tryst/tryst/encoding/Base58DecodePinLaw", "digit", "(I)C"⟩) := wd 56 rfl
theorem d1_33 : decode method_4_code 33 = .ok (.castore, 1) := by decide +kernel
theorem d1_34 : decode method_4_code 34 = .ok (.invokespecial 45, 3) := by decide +kernel
theorem d3_27 : decode jdk_42_method_149_code 27 = .ok (.getstatic 38, 3) := by decide +kernel
theorem d3_30 : decode jdk_42_method_149_code 30 = .ok (.ifCond .eq 28, 3) := by decide +kernel
theorem d3_33 : decode jdk_42_method_149_code 33 = .ok (.aload_n 1, 1) := by decide +kernel
theorem d3_34 : decode jdk_42_method_149_code 34 = .ok (.iload_n 2, 1) := by decide +kernel
theorem d3_35 : decode jdk_42_method_149_code 35 = .ok (.iload_n 3, 1) := by decide +kernel
theorem own_w81 : WD (Cond.methodLink "java/lang/String" 177 ⟨"java/lang/StringUTF16", "compress", "([CII)[B"⟩) := wd 81 rfl
theorem sg3_33_3 : decs jdk_42_method_149_code [(33, .aload_n 1, 1), (34, .iload_n 2, 1), (35, .iload_n 3, 1)] := ⟨d3_33, d3_34, d3_35, trivial⟩
theorem d3_36 : decode jdk_42_method_149_code 36 = .ok (.invokestatic 177, 3) := by decide +kernel
theorem d18_0 : decode jdk_52_method_16_code 0 = .ok (.iload_n 2, 1) := by decide +kernel
theorem sg18_0_1 : decs jdk_52_method_16_code [(0, .iload_n 2, 1)] := ⟨d18_0, trivial⟩
theorem d18_1 : decode jdk_52_method_16_code 1 = .ok (.newarray .byte, 2) := by decide +kernel
theorem d18_3 : decode jdk_52_method_16_code 3 = .ok (.astore_n 3, 1) := by decide +kernel
theorem d18_4 : decode jdk_52_method_16_code 4 = .ok (.aload_n 0, 1) := by decide +kernel
theorem d18_5 : decode jdk_52_method_16_code 5 = .ok (.iload_n 1, 1) := by decide +kernel
theorem d18_6 : decode jdk_52_method_16_code 6 = .ok (.aload_n 3, 1) := by decide +kernel
theorem d18_7 : decode jdk_52_method_16_code 7 = .ok (.iconst 0, 1) := by decide +kernel
theorem d18_8 : decode jdk_52_method_16_code 8 = .ok (.iload_n 2, 1) := by decide +kernel
theorem own_w85 : WD (Cond.methodLink "java/lang/StringUTF16" 115 ⟨"java/lang/StringUTF16", "compress", "([CI[BII)I"⟩) := wd 85 rfl
theorem sg18_3_6 : decs jdk_52_method_16_code [(3, .astore_n 3, 1), (4, .aload_n 0, 1), (5, .iload_n 1, 1), (6, .aload_n 3, 1), (7, .iconst 0, 1), (8, .iload_n 2, 1)] := ⟨d18_3, d18_4, d18_5, d18_6, d18_7, d18_8, trivial⟩
theorem d18_9 : decode jdk_52_method_16_code 9 = .ok (.invokestatic 115, 3) := by decide +kernel
theorem d19_0 : decode jdk_52_method_21_code 0 = .ok (.iconst 0, 1) := by decide +kernel
theorem d19_1 : decode jdk_52_method_21_code 1 = .ok (.istore 5, 2) := by decide +kernel
theorem d19_3 : decode jdk_52_method_21_code 3 = .ok (.iload 5, 2) := by decide +kernel
theorem d19_5 : decode jdk_52_method_21_code 5 = .ok (.iload 4, 2) := by decide +kernel
theorem sg19_0_4 : decs jdk_52_method_21_code [(0, .iconst 0, 1), (1, .istore 5, 2), (3, .iload 5, 2), (5, .iload 4, 2)] := ⟨d19_0, d19_1, d19_3, d19_5, trivial⟩
theorem d19_7 : decode jdk_52_method_21_code 7 = .ok (.if_icmp .ge 37, 3) := by decide +kernel
theorem d19_10 : decode jdk_52_method_21_code 10 = .ok (.aload_n 0, 1) := by decide +kernel
theorem d19_11 : decode jdk_52_method_21_code 11 = .ok (.iload_n 1, 1) := by decide +kernel
theorem sg19_10_2 : decs jdk_52_method_21_code [(10, .aload_n 0, 1), (11, .iload_n 1, 1)] := ⟨d19_10, d19_11, trivial⟩
theorem d19_12 : decode jdk_52_method_21_code 12 = .ok (.caload, 1) := by decide +kernel
theorem d19_13 : decode jdk_52_method_21_code 13 = .ok (.istore 6, 2) := by decide +kernel
theorem d19_15 : decode jdk_52_method_21_code 15 = .ok (.iload 6, 2) := by decide +kernel
theorem d19_17 : decode jdk_52_method_21_code 17 = .ok (.sipush 255, 3) := by decide +kernel
theorem sg19_13_3 : decs jdk_52_method_21_code [(13, .istore 6, 2), (15, .iload 6, 2), (17, .sipush 255, 3)] := ⟨d19_13, d19_15, d19_17, trivial⟩
theorem d19_20 : decode jdk_52_method_21_code 20 = .ok (.if_icmp .le 6, 3) := by decide +kernel
theorem d19_26 : decode jdk_52_method_21_code 26 = .ok (.aload_n 2, 1) := by decide +kernel
theorem d19_27 : decode jdk_52_method_21_code 27 = .ok (.iload_n 3, 1) := by decide +kernel
theorem d19_28 : decode jdk_52_method_21_code 28 = .ok (.iload 6, 2) := by decide +kernel
theorem d19_30 : decode jdk_52_method_21_code 30 = .ok (.i2b, 1) := by decide +kernel
theorem sg19_26_4 : decs jdk_52_method_21_code [(26, .aload_n 2, 1), (27, .iload_n 3, 1), (28, .iload 6, 2), (30, .i2b, 1)] := ⟨d19_26, d19_27, d19_28, d19_30, trivial⟩
theorem d19_31 : decode jdk_52_method_21_code 31 = .ok (.bastore, 1) := by decide +kernel
theorem d19_32 : decode jdk_52_method_21_code 32 = .ok (.iinc 1 1, 3) := by decide +kernel
theorem d19_35 : decode jdk_52_method_21_code 35 = .ok (.iinc 3 1, 3) := by decide +kernel
theorem d19_38 : decode jdk_52_method_21_code 38 = .ok (.iinc 5 1, 3) := by decide +kernel
theorem d19_41 : decode jdk_52_method_21_code 41 = .ok (.goto (-38), 3) := by decide +kernel
theorem sg19_32_6 : decs jdk_52_method_21_code [(32, .iinc 1 1, 3), (35, .iinc 3 1, 3), (38, .iinc 5 1, 3), (41, .goto (-38), 3), (3, .iload 5, 2), (5, .iload 4, 2)] := ⟨d19_32, d19_35, d19_38, d19_41, d19_3, d19_5, trivial⟩
theorem d19_44 : decode jdk_52_method_21_code 44 = .ok (.iload 4, 2) := by decide +kernel
theorem sg19_44_1 : decs jdk_52_method_21_code [(44, .iload 4, 2)] := ⟨d19_44, trivial⟩
theorem d19_46 : decode jdk_52_method_21_code 46 = .ok (.ireturn, 1) := by decide +kernel
theorem ef_rm19_0 (m : MethodId) (x0 : Addr) (x1 : Int32) (x2 : Addr) (x4 : Int32) : entryFrame m #[(.ref x0), (.int x1), (.ref x2), (.int x1), (.int x4)] 7 = mkF m 0 #[.val (.ref x0), .val (.int x1), .val (.ref x2), .val (.int x1), .val (.int x4), .unset, .unset] [] := by first | (simp [entryFrame, mkF, argsToLocals, Value.category]; done) | rfl
theorem own_pn5 : plainName "java/lang/StringUTF16" = true := by first | (simp [plainName, overriddenIn]; done) | decide +kernel
theorem own_w87 : WD (Cond.code ⟨"java/lang/StringUTF16", "compress", "([CI[BII)I"⟩ jdk_52_method_21_code 7 (Option.some Jvm.ClassFile.FieldType.int)) := wd 87 rfl
theorem own_w83 : WD (Cond.initialized "java/lang/StringUTF16") := wd 83 rfl
theorem own_pd15 : parseMethodDescriptor "([CI[BII)I" = some ⟨[(.array .char), .int, (.array .byte), .int, .int], some .int⟩ := by decide +kernel
theorem own_w86 : WD (Cond.static ⟨"java/lang/StringUTF16", "compress", "([CI[BII)I"⟩) := wd 86 rfl
theorem d18_12 : decode jdk_52_method_16_code 12 = .ok (.istore 4, 2) := by decide +kernel
theorem d18_14 : decode jdk_52_method_16_code 14 = .ok (.iload 4, 2) := by decide +kernel
theorem d18_16 : decode jdk_52_method_16_code 16 = .ok (.iload_n 2, 1) := by decide +kernel
theorem sg18_12_3 : decs jdk_52_method_16_code [(12, .istore 4, 2), (14, .iload 4, 2), (16, .iload_n 2, 1)] := ⟨d18_12, d18_14, d18_16, trivial⟩
theorem d18_17 : decode jdk_52_method_16_code 17 = .ok (.if_icmp .eq 40, 3) := by decide +kernel
theorem d18_57 : decode jdk_52_method_16_code 57 = .ok (.aload_n 3, 1) := by decide +kernel
theorem sg18_57_1 : decs jdk_52_method_16_code [(57, .aload_n 3, 1)] := ⟨d18_57, trivial⟩
theorem d18_58 : decode jdk_52_method_16_code 58 = .ok (.areturn, 1) := by decide +kernel
theorem ef_rm18_0 (m : MethodId) (x0 : Addr) (x1 : Int32) (x2 : Int32) : entryFrame m #[(.ref x0), (.int x1), (.int x2)] 6 = mkF m 0 #[.val (.ref x0), .val (.int x1), .val (.int x2), .unset, .unset, .unset] [] := by first | (simp [entryFrame, mkF, argsToLocals, Value.category]; done) | rfl
theorem own_w84 : WD (Cond.code ⟨"java/lang/StringUTF16", "compress", "([CII)[B"⟩ jdk_52_method_16_code 6 (Option.some (Jvm.ClassFile.FieldType.array Jvm.ClassFile.FieldType.byte))) := wd 84 rfl
theorem own_pd16 : parseMethodDescriptor "([CII)[B" = some ⟨[(.array .char), .int, .int], some (.array .byte)⟩ := by decide +kernel
theorem own_w82 : WD (Cond.static ⟨"java/lang/StringUTF16", "compress", "([CII)[B"⟩) := wd 82 rfl
theorem d3_39 : decode jdk_42_method_149_code 39 = .ok (.astore 5, 2) := by decide +kernel
theorem d3_41 : decode jdk_42_method_149_code 41 = .ok (.aload_n 0, 1) := by decide +kernel
theorem d3_42 : decode jdk_42_method_149_code 42 = .ok (.aload 5, 2) := by decide +kernel
theorem d3_44 : decode jdk_42_method_149_code 44 = .ok (.iload_n 3, 1) := by decide +kernel
theorem own_w88 : WD (Cond.methodLink "java/lang/String" 47 ⟨"java/lang/StringUTF16", "coderFromArrayLen", "([BI)B"⟩) := wd 88 rfl
theorem sg3_39_4 : decs jdk_42_method_149_code [(39, .astore 5, 2), (41, .aload_n 0, 1), (42, .aload 5, 2), (44, .iload_n 3, 1)] := ⟨d3_39, d3_41, d3_42, d3_44, trivial⟩
theorem d3_45 : decode jdk_42_method_149_code 45 = .ok (.invokestatic 47, 3) := by decide +kernel
theorem d20_0 : decode jdk_52_method_15_code 0 = .ok (.iload_n 1, 1) := by decide +kernel
theorem d20_1 : decode jdk_52_method_15_code 1 = .ok (.aload_n 0, 1) := by decide +kernel
theorem sg20_0_2 : decs jdk_52_method_15_code [(0, .iload_n 1, 1), (1, .aload_n 0, 1)] := ⟨d20_0, d20_1, trivial⟩
theorem d20_2 : decode jdk_52_method_15_code 2 = .ok (.arraylength, 1) := by decide +kernel
theorem d20_3 : decode jdk_52_method_15_code 3 = .ok (.isub, 1) := by decide +kernel
theorem d20_4 : decode jdk_52_method_15_code 4 = .ok (.bipush 31, 2) := by decide +kernel
theorem d20_6 : decode jdk_52_method_15_code 6 = .ok (.iushr, 1) := by decide +kernel
theorem d20_7 : decode jdk_52_method_15_code 7 = .ok (.i2b, 1) := by decide +kernel
theorem sg20_3_4 : decs jdk_52_method_15_code [(3, .isub, 1), (4, .bipush 31, 2), (6, .iushr, 1), (7, .i2b, 1)] := ⟨d20_3, d20_4, d20_6, d20_7, trivial⟩
theorem d20_8 : decode jdk_52_method_15_code 8 = .ok (.ireturn, 1) := by decide +kernel
theorem ef_rm20_0 (m : MethodId) (x0 : Addr) (x1 : Int32) : entryFrame m #[(.ref x0), (.int x1)] 2 = mkF m 0 #[.val (.ref x0), .val (.int x1)] [] := by first | (simp [entryFrame, mkF, argsToLocals, Value.category]; done) | rfl
theorem own_w90 : WD (Cond.code ⟨"java/lang/StringUTF16", "coderFromArrayLen", "([BI)B"⟩ jdk_52_method_15_code 2 (Option.some Jvm.ClassFile.FieldType.byte)) := wd 90 rfl
theorem own_pd17 : parseMethodDescriptor "([BI)B" = some ⟨[(.array .byte), .int], some .byte⟩ := by decide +kernel
theorem own_w89 : WD (Cond.static ⟨"java/lang/StringUTF16", "coderFromArrayLen", "([BI)B"⟩) := wd 89 rfl
theorem d3_48 : decode jdk_42_method_149_code 48 = .ok (.putfield 15, 3) := by decide +kernel
theorem d3_51 : decode jdk_42_method_149_code 51 = .ok (.aload_n 0, 1) := by decide +kernel
theorem d3_52 : decode jdk_42_method_149_code 52 = .ok (.aload 5, 2) := by decide +kernel
theorem sg3_51_2 : decs jdk_42_method_149_code [(51, .aload_n 0, 1), (52, .aload 5, 2)] := ⟨d3_51, d3_52, trivial⟩
theorem d3_54 : decode jdk_42_method_149_code 54 = .ok (.putfield 9, 3) := by decide +kernel
theorem d3_57 : decode jdk_42_method_149_code 57 = .ok (.return_, 1) := by decide +kernel
theorem ef_rm3_1 (m : MethodId) (x0 : Addr) (x1 : Addr) (x2 : Int32) (x3 : Int32) : entryFrame m #[(.ref x0), (.ref x1), (.int x2), (.int x3), .null] 6 = mkF m 0 #[.val (.ref x0), .val (.ref x1), .val (.int x2), .val (.int x3), .val .null, .unset] [] := by first | (simp [entryFrame, mkF, argsToLocals, Value.category]; done) | rfl
theorem ef_rm2_1 (m : MethodId) (x0 : Addr) (x1 : Addr) : entryFrame m #[(.ref x0), (.ref x1)] 2 = mkF m 0 #[.val (.ref x0), .val (.ref x1)] [] := by first | (simp [entryFrame, mkF, argsToLocals, Value.category]; done) | rfl
theorem d1_37 : decode method_4_code 37 = .ok (.areturn, 1) := by decide +kernel
theorem ef_rm1_1 (m : MethodId) (x0 : Int32) (x1 : Int32) (x2 : Int32) (x3 : Int32) (x4 : Int32) (x5 : Int32) (x6 : Int32) : entryFrame m #[(.int x0), (.int x1), (.int x2), (.int x3), (.int x4), (.int x5), (.int x6)] 7 = mkF m 0 #[.val (.int x0), .val (.int x1), .val (.int x2), .val (.int x3), .val (.int x4), .val (.int x5), .val (.int x6)] [] := by first | (simp [entryFrame, mkF, argsToLocals, Value.category]; done) | rfl
theorem ef_rm6_1 (m : MethodId) (x0 : Addr) : entryFrame m #[(.ref x0)] 1 = mkF m 0 #[.val (.ref x0)] [] := by first | (simp [entryFrame, mkF, argsToLocals, Value.category]; done) | rfl
theorem d5_10 : decode prog_9_method_3_code 10 = .ok (.aload_n 0, 1) := by decide +kernel
theorem d5_11 : decode prog_9_method_3_code 11 = .ok (.iload_n 1, 1) := by decide +kernel
theorem own_w91 : WD (Cond.methodLink "com/example/tryst/tryst/encoding/Base58" 28 ⟨"java/lang/String", "charAt", "(I)C"⟩) := wd 91 rfl
theorem d17_9 : decode jdk_41_method_11_code 9 = .ok (.aload_n 2, 1) := by decide +kernel
theorem d17_10 : decode jdk_41_method_11_code 10 = .ok (.iload_n 0, 1) := by decide +kernel
theorem d17_11 : decode jdk_41_method_11_code 11 = .ok (.iload_n 1, 1) := by decide +kernel
theorem sg17_10_2 : decs jdk_41_method_11_code [(10, .iload_n 0, 1), (11, .iload_n 1, 1)] := ⟨d17_10, d17_11, trivial⟩
theorem d17_12 : decode jdk_41_method_11_code 12 = .ok (.invokestatic 95, 3) := by decide +kernel
theorem ef_rm17_1 (m : MethodId) (x0 : Int32) (x1 : Int32) (x2 : Value) (hx2 : x2.isRef = true) : entryFrame m #[(.int x0), (.int x1), x2] 3 = mkF m 0 #[.val (.int x0), .val (.int x1), .val x2] [] := by rcases ref_cases hx2 with rfl | ⟨ax2, rfl⟩ <;> first | (simp [entryFrame, mkF, argsToLocals, Value.category]; done) | rfl
theorem ef_rm16_1 (m : MethodId) (x0 : Int32) (x1 : Int32) : entryFrame m #[(.int x0), (.int x1)] 2 = mkF m 0 #[.val (.int x0), .val (.int x1)] [] := by first | (simp [entryFrame, mkF, argsToLocals, Value.category]; done) | rfl
theorem ef_rm15_1 (m : MethodId) (x0 : Addr) (x1 : Int32) : entryFrame m #[(.ref x0), (.int x1)] 2 = mkF m 0 #[.val (.ref x0), .val (.int x1)] [] := by first | (simp [entryFrame, mkF, argsToLocals, Value.category]; done) | rfl
theorem sg5_10_2 : decs prog_9_method_3_code [(10, .aload_n 0, 1), (11, .iload_n 1, 1)] := ⟨d5_10, d5_11, trivial⟩
theorem d5_12 : decode prog_9_method_3_code 12 = .ok (.invokevirtual 28, 3) := by decide +kernel
theorem ef_rm13_1 (m : MethodId) (x0 : Addr) (x1 : Int32) : entryFrame m #[(.ref x0), (.int x1)] 2 = mkF m 0 #[.val (.ref x0), .val (.int x1)] [] := by first | (simp [entryFrame, mkF, argsToLocals, Value.category]; done) | rfl
theorem d5_15 : decode prog_9_method_3_code 15 = .ok (.ldc 26, 2) := by decide +kernel
theorem own_w92 : WD (Cond.stringLink "com/example/tryst/tryst/encoding/Base58" 26 "123456789ABCDEFGHJKLMNPQRSTUVWXYZabcdefghijkmnopqrstuvwxyz") := wd 92 rfl
theorem d5_17 : decode prog_9_method_3_code 17 = .ok (.iconst 0, 1) := by decide +kernel
theorem sg5_17_1 : decs prog_9_method_3_code [(17, .iconst 0, 1)] := ⟨d5_17, trivial⟩
theorem d5_18 : decode prog_9_method_3_code 18 = .ok (.invokevirtual 28, 3) := by decide +kernel
theorem d5_21 : decode prog_9_method_3_code 21 = .ok (.if_icmp .ne 9, 3) := by decide +kernel
theorem d5_24 : decode prog_9_method_3_code 24 = .ok (.iinc 1 1, 3) := by decide +kernel
theorem d5_27 : decode prog_9_method_3_code 27 = .ok (.goto (-25), 3) := by decide +kernel
theorem sg5_24_4 : decs prog_9_method_3_code [(24, .iinc 1 1, 3), (27, .goto (-25), 3), (2, .iload_n 1, 1), (3, .aload_n 0, 1)] := ⟨d5_24, d5_27, d5_2, d5_3, trivial⟩
theorem ef_rm17_2 (m : MethodId) (x0 : Int32) (x1 : Int32) (x2 : Value) (hx2 : x2.isRef = true) : entryFrame m #[(.int x0), (.int x1), x2] 3 = mkF m 0 #[.val (.int x0), .val (.int x1), .val x2] [] := by rcases ref_cases hx2 with rfl | ⟨ax2, rfl⟩ <;> first | (simp [entryFrame, mkF, argsToLocals, Value.category]; done) | rfl
theorem ef_rm16_2 (m : MethodId) (x0 : Int32) (x1 : Int32) : entryFrame m #[(.int x0), (.int x1)] 2 = mkF m 0 #[.val (.int x0), .val (.int x1)] [] := by first | (simp [entryFrame, mkF, argsToLocals, Value.category]; done) | rfl
theorem ef_rm15_2 (m : MethodId) (x0 : Addr) (x1 : Int32) : entryFrame m #[(.ref x0), (.int x1)] 2 = mkF m 0 #[.val (.ref x0), .val (.int x1)] [] := by first | (simp [entryFrame, mkF, argsToLocals, Value.category]; done) | rfl
theorem ef_rm13_2 (m : MethodId) (x0 : Addr) (x1 : Int32) : entryFrame m #[(.ref x0), (.int x1)] 2 = mkF m 0 #[.val (.ref x0), .val (.int x1)] [] := by first | (simp [entryFrame, mkF, argsToLocals, Value.category]; done) | rfl
theorem sg5_36_5 : decs prog_9_method_3_code [(36, .astore_n 2, 1), (37, .iconst 0, 1), (38, .istore_n 3, 1), (39, .iload_n 1, 1), (40, .istore 4, 2)] := ⟨d5_36, d5_37, d5_38, d5_39, d5_40, trivial⟩
theorem sg5_42_2 : decs prog_9_method_3_code [(42, .iload 4, 2), (44, .aload_n 0, 1)] := ⟨d5_42, d5_44, trivial⟩
theorem d5_51 : decode prog_9_method_3_code 51 = .ok (.ldc 26, 2) := by decide +kernel
theorem d5_53 : decode prog_9_method_3_code 53 = .ok (.aload_n 0, 1) := by decide +kernel
theorem d5_54 : decode prog_9_method_3_code 54 = .ok (.iload 4, 2) := by decide +kernel
theorem sg5_53_2 : decs prog_9_method_3_code [(53, .aload_n 0, 1), (54, .iload 4, 2)] := ⟨d5_53, d5_54, trivial⟩
theorem d5_56 : decode prog_9_method_3_code 56 = .ok (.invokevirtual 28, 3) := by decide +kernel
theorem own_w93 : WD (Cond.methodLink "com/example/tryst/tryst/encoding/Base58" 43 ⟨"java/lang/String", "indexOf", "(I)I"⟩) := wd 93 rfl
theorem d5_59 : decode prog_9_method_3_code 59 = .ok (.invokevirtual 43, 3) := by decide +kernel
theorem d21_0 : decode jdk_42_method_79_code 0 = .ok (.aload_n 0, 1) := by decide +kernel
theorem d21_1 : decode jdk_42_method_79_code 1 = .ok (.iload_n 1, 1) := by decide +kernel
theorem d21_2 : decode jdk_42_method_79_code 2 = .ok (.iconst 0, 1) := by decide +kernel
theorem own_w98 : WD (Cond.methodLink "java/lang/String" 633 ⟨"java/lang/String", "indexOf", "(II)I"⟩) := wd 98 rfl
theorem sg21_0_3 : decs jdk_42_method_79_code [(0, .aload_n 0, 1), (1, .iload_n 1, 1), (2, .iconst 0, 1)] := ⟨d21_0, d21_1, d21_2, trivial⟩
theorem d21_3 : decode jdk_42_method_79_code 3 = .ok (.invokevirtual 633, 3) := by decide +kernel
theorem d22_0 : decode jdk_42_method_80_code 0 = .ok (.aload_n 0, 1) := by decide +kernel
theorem sg22_0_1 : decs jdk_42_method_80_code [(0, .aload_n 0, 1)] := ⟨d22_0, trivial⟩
theorem d22_1 : decode jdk_42_method_80_code 1 = .ok (.invokevirtual 492, 3) := by decide +kernel
theorem d22_4 : decode jdk_42_method_80_code 4 = .ok (.ifCond .eq 19, 3) := by decide +kernel
theorem d22_7 : decode jdk_42_method_80_code 7 = .ok (.aload_n 0, 1) := by decide +kernel
theorem sg22_7_1 : decs jdk_42_method_80_code [(7, .aload_n 0, 1)] := ⟨d22_7, trivial⟩
theorem d22_8 : decode jdk_42_method_80_code 8 = .ok (.getfield 9, 3) := by decide +kernel
theorem d22_11 : decode jdk_42_method_80_code 11 = .ok (.iload_n 1, 1) := by decide +kernel
theorem d22_12 : decode jdk_42_method_80_code 12 = .ok (.iload_n 2, 1) := by decide +kernel
theorem d22_13 : decode jdk_42_method_80_code 13 = .ok (.aload_n 0, 1) := by decide +kernel
theorem own_w103 : WD (Cond.methodLink "java/lang/String" 505 ⟨"java/lang/String", "length", "()I"⟩) := wd 103 rfl
theorem sg22_11_3 : decs jdk_42_method_80_code [(11, .iload_n 1, 1), (12, .iload_n 2, 1), (13, .aload_n 0, 1)] := ⟨d22_11, d22_12, d22_13, trivial⟩
theorem d22_14 : decode jdk_42_method_80_code 14 = .ok (.invokevirtual 505, 3) := by decide +kernel
theorem ef_rm6_2 (m : MethodId) (x0 : Addr) : entryFrame m #[(.ref x0)] 1 = mkF m 0 #[.val (.ref x0)] [] := by first | (simp [entryFrame, mkF, argsToLocals, Value.category]; done) | rfl
theorem own_w104 : WD (Cond.methodLink "java/lang/String" 637 ⟨"java/lang/StringLatin1", "indexOf", "([BIII)I"⟩) := wd 104 rfl
theorem d22_17 : decode jdk_42_method_80_code 17 = .ok (.invokestatic 637, 3) := by decide +kernel
theorem d23_0 : decode jdk_43_method_22_code 0 = .ok (.iload_n 1, 1) := by decide +kernel
theorem own_w107 : WD (Cond.methodLink "java/lang/StringLatin1" 88 ⟨"java/lang/StringLatin1", "canEncode", "(I)Z"⟩) := wd 107 rfl
theorem sg23_0_1 : decs jdk_43_method_22_code [(0, .iload_n 1, 1)] := ⟨d23_0, trivial⟩
theorem d23_1 : decode jdk_43_method_22_code 1 = .ok (.invokestatic 88, 3) := by decide +kernel
theorem d24_0 : decode jdk_43_method_4_code 0 = .ok (.iload_n 0, 1) := by decide +kernel
theorem sg24_0_1 : decs jdk_43_method_4_code [(0, .iload_n 0, 1)] := ⟨d24_0, trivial⟩
theorem d24_1 : decode jdk_43_method_4_code 1 = .ok (.ifCond .lt 14, 3) := by decide +kernel
theorem d24_4 : decode jdk_43_method_4_code 4 = .ok (.iload_n 0, 1) := by decide +kernel
theorem d24_5 : decode jdk_43_method_4_code 5 = .ok (.sipush 255, 3) := by decide +kernel
theorem sg24_4_2 : decs jdk_43_method_4_code [(4, .iload_n 0, 1), (5, .sipush 255, 3)] := ⟨d24_4, d24_5, trivial⟩
theorem d24_8 : decode jdk_43_method_4_code 8 = .ok (.if_icmp .gt 7, 3) := by decide +kernel
theorem d24_11 : decode jdk_43_method_4_code 11 = .ok (.iconst 1, 1) := by decide +kernel
theorem d24_12 : decode jdk_43_method_4_code 12 = .ok (.goto 4, 3) := by decide +kernel
theorem sg24_11_2 : decs jdk_43_method_4_code [(11, .iconst 1, 1), (12, .goto 4, 3)] := ⟨d24_11, d24_12, trivial⟩
theorem d24_16 : decode jdk_43_method_4_code 16 = .ok (.ireturn, 1) := by decide +kernel
theorem ef_rm24_0 (m : MethodId) (x0 : Int32) : entryFrame m #[(.int x0)] 1 = mkF m 0 #[.val (.int x0)] [] := by first | (simp [entryFrame, mkF, argsToLocals, Value.category]; done) | rfl
theorem own_w109 : WD (Cond.code ⟨"java/lang/StringLatin1", "canEncode", "(I)Z"⟩ jdk_43_method_4_code 1 (Option.some Jvm.ClassFile.FieldType.boolean)) := wd 109 rfl
theorem own_pd18 : parseMethodDescriptor "(I)Z" = some ⟨[.int], some .boolean⟩ := by decide +kernel
theorem own_w108 : WD (Cond.static ⟨"java/lang/StringLatin1", "canEncode", "(I)Z"⟩) := wd 108 rfl
theorem d23_4 : decode jdk_43_method_22_code 4 = .ok (.ifCond .ne 5, 3) := by decide +kernel
theorem d23_9 : decode jdk_43_method_22_code 9 = .ok (.iload_n 2, 1) := by decide +kernel
theorem d23_10 : decode jdk_43_method_22_code 10 = .ok (.iconst 0, 1) := by decide +kernel
theorem own_w110 : WD (Cond.methodLink "java/lang/StringLatin1" 92 ⟨"java/lang/Math", "max", "(II)I"⟩) := wd 110 rfl
theorem sg23_9_2 : decs jdk_43_method_22_code [(9, .iload_n 2, 1), (10, .iconst 0, 1)] := ⟨d23_9, d23_10, trivial⟩
theorem d23_11 : decode jdk_43_method_22_code 11 = .ok (.invokestatic 92, 3) := by decide +kernel
theorem d25_0 : decode jdk_29_method_65_code 0 = .ok (.iload_n 0, 1) := by decide +kernel
theorem d25_1 : decode jdk_29_method_65_code 1 = .ok (.iload_n 1, 1) := by decide +kernel
theorem sg25_0_2 : decs jdk_29_method_65_code [(0, .iload_n 0, 1), (1, .iload_n 1, 1)] := ⟨d25_0, d25_1, trivial⟩
theorem d25_2 : decode jdk_29_method_65_code 2 = .ok (.if_icmp .lt 7, 3) := by decide +kernel
theorem d25_5 : decode jdk_29_method_65_code 5 = .ok (.iload_n 0, 1) := by decide +kernel
theorem d25_6 : decode jdk_29_method_65_code 6 = .ok (.goto 4, 3) := by decide +kernel
theorem sg25_5_2 : decs jdk_29_method_65_code [(5, .iload_n 0, 1), (6, .goto 4, 3)] := ⟨d25_5, d25_6, trivial⟩
theorem d25_10 : decode jdk_29_method_65_code 10 = .ok (.ireturn, 1) := by decide +kernel
theorem ef_rm25_0 (m : MethodId) (x0 : Int32) : entryFrame m #[(.int x0), (.int x0)] 2 = mkF m 0 #[.val (.int x0), .val (.int x0)] [] := by first | (simp [entryFrame, mkF, argsToLocals, Value.category]; done) | rfl
theorem own_w113 : WD (Cond.code ⟨"java/lang/Math", "max", "(II)I"⟩ jdk_29_method_65_code 2 (Option.some Jvm.ClassFile.FieldType.int)) := wd 113 rfl
theorem own_w112 : WD (Cond.initialized "java/lang/Math") := wd 112 rfl
theorem own_pd19 : parseMethodDescriptor "(II)I" = some ⟨[.int, .int], some .int⟩ := by decide +kernel
theorem own_w111 : WD (Cond.static ⟨"java/lang/Math", "max", "(II)I"⟩) := wd 111 rfl
theorem d23_14 : decode jdk_43_method_22_code 14 = .ok (.istore_n 2, 1) := by decide +kernel
theorem d23_15 : decode jdk_43_method_22_code 15 = .ok (.iload_n 3, 1) := by decide +kernel
theorem d23_16 : decode jdk_43_method_22_code 16 = .ok (.aload_n 0, 1) := by decide +kernel
theorem sg23_14_3 : decs jdk_43_method_22_code [(14, .istore_n 2, 1), (15, .iload_n 3, 1), (16, .aload_n 0, 1)] := ⟨d23_14, d23_15, d23_16, trivial⟩
theorem d23_17 : decode jdk_43_method_22_code 17 = .ok (.arraylength, 1) := by decide +kernel
theorem own_w114 : WD (Cond.methodLink "java/lang/StringLatin1" 38 ⟨"java/lang/Math", "min", "(II)I"⟩) := wd 114 rfl
theorem d23_18 : decode jdk_43_method_22_code 18 = .ok (.invokestatic 38, 3) := by decide +kernel
theorem d26_0 : decode jdk_29_method_69_code 0 = .ok (.iload_n 0, 1) := by decide +kernel
theorem d26_1 : decode jdk_29_method_69_code 1 = .ok (.iload_n 1, 1) := by decide +kernel
theorem sg26_0_2 : decs jdk_29_method_69_code [(0, .iload_n 0, 1), (1, .iload_n 1, 1)] := ⟨d26_0, d26_1, trivial⟩
theorem d26_2 : decode jdk_29_method_69_code 2 = .ok (.if_icmp .gt 7, 3) := by decide +kernel
theorem d26_5 : decode jdk_29_method_69_code 5 = .ok (.iload_n 0, 1) := by decide +kernel
theorem d26_6 : decode jdk_29_method_69_code 6 = .ok (.goto 4, 3) := by decide +kernel
theorem sg26_5_2 : decs jdk_29_method_69_code [(5, .iload_n 0, 1), (6, .goto 4, 3)] := ⟨d26_5, d26_6, trivial⟩
theorem d26_10 : decode jdk_29_method_69_code 10 = .ok (.ireturn, 1) := by decide +kernel
theorem ef_rm26_0 (m : MethodId) (x0 : Int32) : entryFrame m #[(.int x0), (.int x0)] 2 = mkF m 0 #[.val (.int x0), .val (.int x0)] [] := by first | (simp [entryFrame, mkF, argsToLocals, Value.category]; done) | rfl
theorem own_w116 : WD (Cond.code ⟨"java/lang/Math", "min", "(II)I"⟩ jdk_29_method_69_code 2 (Option.some Jvm.ClassFile.FieldType.int)) := wd 116 rfl
theorem own_w115 : WD (Cond.static ⟨"java/lang/Math", "min", "(II)I"⟩) := wd 115 rfl
theorem d23_21 : decode jdk_43_method_22_code 21 = .ok (.istore_n 3, 1) := by decide +kernel
theorem d23_22 : decode jdk_43_method_22_code 22 = .ok (.iload_n 2, 1) := by decide +kernel
theorem d23_23 : decode jdk_43_method_22_code 23 = .ok (.iload_n 3, 1) := by decide +kernel
theorem sg23_21_3 : decs jdk_43_method_22_code [(21, .istore_n 3, 1), (22, .iload_n 2, 1), (23, .iload_n 3, 1)] := ⟨d23_21, d23_22, d23_23, trivial⟩
theorem d23_24 : decode jdk_43_method_22_code 24 = .ok (.if_icmp .lt 5, 3) := by decide +kernel
theorem d23_29 : decode jdk_43_method_22_code 29 = .ok (.aload_n 0, 1) := by decide +kernel
theorem d23_30 : decode jdk_43_method_22_code 30 = .ok (.iload_n 1, 1) := by decide +kernel
theorem d23_31 : decode jdk_43_method_22_code 31 = .ok (.iload_n 2, 1) := by decide +kernel
theorem d23_32 : decode jdk_43_method_22_code 32 = .ok (.iload_n 3, 1) := by decide +kernel
theorem own_w117 : WD (Cond.methodLink "java/lang/StringLatin1" 95 ⟨"java/lang/StringLatin1", "indexOfChar", "([BIII)I"⟩) := wd 117 rfl
theorem sg23_29_4 : decs jdk_43_method_22_code [(29, .aload_n 0, 1), (30, .iload_n 1, 1), (31, .iload_n 2, 1), (32, .iload_n 3, 1)] := ⟨d23_29, d23_30, d23_31, d23_32, trivial⟩
theorem d23_33 : decode jdk_43_method_22_code 33 = .ok (.invokestatic 95, 3) := by decide +kernel
def f_rm27_0 (i1 : Int32) : Int32 := own_from (i1.toInt8.toInt32) own_TI0 (0 : Int32)
theorem d27_0 : decode jdk_43_method_23_code 0 = .ok (.iload_n 1, 1) := by decide +kernel
theorem d27_1 : decode jdk_43_method_23_code 1 = .ok (.i2b, 1) := by decide +kernel
theorem d27_2 : decode jdk_43_method_23_code 2 = .ok (.istore 4, 2) := by decide +kernel
theorem d27_4 : decode jdk_43_method_23_code 4 = .ok (.iload_n 2, 1) := by decide +kernel
theorem d27_5 : decode jdk_43_method_23_code 5 = .ok (.istore 5, 2) := by decide +kernel
theorem sg27_0_5 : decs jdk_43_method_23_code [(0, .iload_n 1, 1), (1, .i2b, 1), (2, .istore 4, 2), (4, .iload_n 2, 1), (5, .istore 5, 2)] := ⟨d27_0, d27_1, d27_2, d27_4, d27_5, trivial⟩
theorem d27_7 : decode jdk_43_method_23_code 7 = .ok (.iload 5, 2) := by decide +kernel
theorem d27_9 : decode jdk_43_method_23_code 9 = .ok (.iload_n 3, 1) := by decide +kernel
theorem sg27_7_2 : decs jdk_43_method_23_code [(7, .iload 5, 2), (9, .iload_n 3, 1)] := ⟨d27_7, d27_9, trivial⟩
theorem d27_10 : decode jdk_43_method_23_code 10 = .ok (.if_icmp .ge 21, 3) := by decide +kernel
theorem d27_31 : decode jdk_43_method_23_code 31 = .ok (.iconst (-1), 1) := by decide +kernel
theorem sg27_31_1 : decs jdk_43_method_23_code [(31, .iconst (-1), 1)] := ⟨d27_31, trivial⟩
theorem d27_32 : decode jdk_43_method_23_code 32 = .ok (.ireturn, 1) := by decide +kernel
theorem d27_13 : decode jdk_43_method_23_code 13 = .ok (.aload_n 0, 1) := by decide +kernel
theorem d27_14 : decode jdk_43_method_23_code 14 = .ok (.iload 5, 2) := by decide +kernel
theorem sg27_13_2 : decs jdk_43_method_23_code [(13, .aload_n 0, 1), (14, .iload 5, 2)] := ⟨d27_13, d27_14, trivial⟩
theorem d27_16 : decode jdk_43_method_23_code 16 = .ok (.baload, 1) := by decide +kernel
theorem d27_17 : decode jdk_43_method_23_code 17 = .ok (.iload 4, 2) := by decide +kernel
theorem sg27_17_1 : decs jdk_43_method_23_code [(17, .iload 4, 2)] := ⟨d27_17, trivial⟩
theorem d27_19 : decode jdk_43_method_23_code 19 = .ok (.if_icmp .ne 6, 3) := by decide +kernel
theorem d27_22 : decode jdk_43_method_23_code 22 = .ok (.iload 5, 2) := by decide +kernel
theorem sg27_22_1 : decs jdk_43_method_23_code [(22, .iload 5, 2)] := ⟨d27_22, trivial⟩
theorem d27_24 : decode jdk_43_method_23_code 24 = .ok (.ireturn, 1) := by decide +kernel
theorem d27_25 : decode jdk_43_method_23_code 25 = .ok (.iinc 5 1, 3) := by decide +kernel
theorem d27_28 : decode jdk_43_method_23_code 28 = .ok (.goto (-21), 3) := by decide +kernel
theorem sg27_25_2 : decs jdk_43_method_23_code [(25, .iinc 5 1, 3), (28, .goto (-21), 3)] := ⟨d27_25, d27_28, trivial⟩
theorem ef_rm27_0 (m : MethodId) (x0 : Addr) (x1 : Int32) (x2 : Int32) (x3 : Int32) : entryFrame m #[(.ref x0), (.int x1), (.int x2), (.int x3)] 6 = mkF m 0 #[.val (.ref x0), .val (.int x1), .val (.int x2), .val (.int x3), .unset, .unset] [] := by first | (simp [entryFrame, mkF, argsToLocals, Value.category]; done) | rfl
theorem own_w119 : WD (Cond.code ⟨"java/lang/StringLatin1", "indexOfChar", "([BIII)I"⟩ jdk_43_method_23_code 6 (Option.some Jvm.ClassFile.FieldType.int)) := wd 119 rfl
theorem own_pd20 : parseMethodDescriptor "([BIII)I" = some ⟨[(.array .byte), .int, .int, .int], some .int⟩ := by decide +kernel
theorem own_w118 : WD (Cond.static ⟨"java/lang/StringLatin1", "indexOfChar", "([BIII)I"⟩) := wd 118 rfl
theorem d23_36 : decode jdk_43_method_22_code 36 = .ok (.ireturn, 1) := by decide +kernel
theorem ef_rm23_0 (m : MethodId) (x0 : Addr) (x1 : Int32) (x2 : Int32) (x3 : Int32) : entryFrame m #[(.ref x0), (.int x1), (.int x2), (.int x3)] 4 = mkF m 0 #[.val (.ref x0), .val (.int x1), .val (.int x2), .val (.int x3)] [] := by first | (simp [entryFrame, mkF, argsToLocals, Value.category]; done) | rfl
theorem own_w106 : WD (Cond.code ⟨"java/lang/StringLatin1", "indexOf", "([BIII)I"⟩ jdk_43_method_22_code 4 (Option.some Jvm.ClassFile.FieldType.int)) := wd 106 rfl
theorem own_w105 : WD (Cond.static ⟨"java/lang/StringLatin1", "indexOf", "([BIII)I"⟩) := wd 105 rfl
theorem d22_20 : decode jdk_42_method_80_code 20 = .ok (.goto 16, 3) := by decide +kernel
theorem sg22_20_1 : decs jdk_42_method_80_code [(20, .goto 16, 3)] := ⟨d22_20, trivial⟩
theorem d22_36 : decode jdk_42_method_80_code 36 = .ok (.ireturn, 1) := by decide +kernel
theorem ef_rm22_0 (m : MethodId) (x0 : Addr) (x1 : Int32) (x2 : Int32) : entryFrame m #[(.ref x0), (.int x1), (.int x2)] 3 = mkF m 0 #[.val (.ref x0), .val (.int x1), .val (.int x2)] [] := by first | (simp [entryFrame, mkF, argsToLocals, Value.category]; done) | rfl
theorem own_w102 : WD (Cond.code ⟨"java/lang/String", "indexOf", "(II)I"⟩ jdk_42_method_80_code 3 (Option.some Jvm.ClassFile.FieldType.int)) := wd 102 rfl
theorem own_w101 : WD (Cond.selects "java/lang/String" ⟨"java/lang/String", "indexOf", "(II)I"⟩ ⟨"java/lang/String", "indexOf", "(II)I"⟩) := wd 101 rfl
theorem own_w99 : WD (Cond.declares ⟨"java/lang/String", "indexOf", "(II)I"⟩) := wd 99 rfl
theorem own_w100 : WD (Cond.instanceMethod ⟨"java/lang/String", "indexOf", "(II)I"⟩) := wd 100 rfl
theorem d21_6 : decode jdk_42_method_79_code 6 = .ok (.ireturn, 1) := by decide +kernel
theorem ef_rm21_0 (m : MethodId) (x0 : Addr) (x1 : Int32) : entryFrame m #[(.ref x0), (.int x1)] 2 = mkF m 0 #[.val (.ref x0), .val (.int x1)] [] := by first | (simp [entryFrame, mkF, argsToLocals, Value.category]; done) | rfl
theorem own_w97 : WD (Cond.code ⟨"java/lang/String", "indexOf", "(I)I"⟩ jdk_42_method_79_code 2 (Option.some Jvm.ClassFile.FieldType.int)) := wd 97 rfl
theorem own_pd21 : parseMethodDescriptor "(I)I" = some ⟨[.int], some .int⟩ := by decide +kernel
theorem own_w96 : WD (Cond.selects "java/lang/String" ⟨"java/lang/String", "indexOf", "(I)I"⟩ ⟨"java/lang/String", "indexOf", "(I)I"⟩) := wd 96 rfl
theorem own_w94 : WD (Cond.declares ⟨"java/lang/String", "indexOf", "(I)I"⟩) := wd 94 rfl
theorem own_w95 : WD (Cond.instanceMethod ⟨"java/lang/String", "indexOf", "(I)I"⟩) := wd 95 rfl
theorem d5_62 : decode prog_9_method_3_code 62 = .ok (.istore 5, 2) := by decide +kernel
theorem d5_64 : decode prog_9_method_3_code 64 = .ok (.iload 5, 2) := by decide +kernel
theorem sg5_64_1 : decs prog_9_method_3_code [(64, .iload 5, 2)] := ⟨d5_64, trivial⟩
theorem d5_66 : decode prog_9_method_3_code 66 = .ok (.ifCond .ge 22, 3) := by decide +kernel
theorem d5_88 : decode prog_9_method_3_code 88 = .ok (.iconst 0, 1) := by decide +kernel
theorem sg5_88_1 : decs prog_9_method_3_code [(88, .iconst 0, 1)] := ⟨d5_88, trivial⟩
theorem d5_89 : decode prog_9_method_3_code 89 = .ok (.istore 6, 2) := by decide +kernel
def own_in : List Int32 → Int32 → List Int32 × Int32
  | [], c => ([], c)
  | a :: r, c => (((c + ((a &&& (255 : Int32)) * (58 : Int32))).toInt8.toInt32) :: (own_in r (((c + ((a &&& (255 : Int32)) * (58 : Int32))).toUInt32 >>> ((8 : Int32) &&& 31).toUInt32).toInt32)).1, (own_in r (((c + ((a &&& (255 : Int32)) * (58 : Int32))).toUInt32 >>> ((8 : Int32) &&& 31).toUInt32).toInt32)).2)
def own_st (B : List Int32) (c : Int32) : List Int32 := if (0 : Int32) < (own_in B c).2 then (own_in B c).1 ++ [((own_in B c).2.toInt8.toInt32)] else (own_in B c).1
def own_run : List Int32 → List Int32 → List Int32
  | [], B => B
  | a :: r, B => own_run r (own_st B (f_rm27_0 (a &&& (255 : Int32))))
def own_B (l : List Int32) : List Int32 := own_run (l.drop (own_zs l)) []
def own_dec (l : List Int32) : List Int32 := List.replicate (own_zs l) (0 : Int32) ++ (own_B l).reverse
theorem own_in_len : ∀ (B : List Int32) (c : Int32), (own_in B c).1.length = B.length
  | [], _ => rfl
  | a :: r, c => congrArg (· + 1) (own_in_len r _)
theorem own_st_len (B : List Int32) (c : Int32) : (own_st B c).length ≤ B.length + 1 := by
  unfold own_st
  split
  · rw [List.length_append, own_in_len]; exact Nat.le_refl _
  · rw [own_in_len]; omega
theorem own_run_len : ∀ (r B : List Int32), (own_run r B).length ≤ r.length + B.length
  | [], B => by show B.length ≤ 0 + B.length; omega
  | a :: r, B => by
    have h1 := own_run_len r (own_st B (f_rm27_0 (a &&& (255 : Int32))))
    have h2 := own_st_len B (f_rm27_0 (a &&& (255 : Int32)))
    show (own_run r (own_st B (f_rm27_0 (a &&& (255 : Int32))))).length ≤ r.length + 1 + B.length
    omega
theorem own_B_len (l : List Int32) : (own_B l).length ≤ l.length := by
  have h := own_run_len (l.drop (own_zs l)) []
  rw [List.length_drop, List.length_nil] at h
  unfold own_B; omega
theorem own_dec_n {l : List Int32} {zs n3 : Int32} (hz : zs = Int32.ofNat (own_zs l)) (hn : n3 = own_n (own_B l)) : zs + n3 = own_n (own_dec l) := by
  subst hz; subst hn
  unfold own_n own_dec
  rw [List.length_append, List.length_replicate, List.length_reverse, Int32.ofNat_add]
/-- the number that bytes make, the least first -/
def own_val : List Int32 → Nat
  | [] => 0
  | a :: r => own_bt a + 256 * own_val r
theorem own_in_val : ∀ (B : List Int32) {c : Int32} {n : Nat}, c = Int32.ofNat n → n ≤ 57 → ∃ n', n' ≤ 57 ∧ (own_in B c).2 = Int32.ofNat n' ∧ own_val (own_in B c).1 + 256 ^ B.length * n' = n + 58 * own_val B
  | [], c, n, hc, hn => ⟨n, hn, hc, by simp [own_in, own_val]⟩
  | a :: r, c, n, hc, hn => by
    obtain ⟨hm, ea⟩ := own_bt_is a
    have e1 : (c + ((a &&& (255 : Int32)) * (58 : Int32))) = Int32.ofNat (n + own_bt a * 58) := by
      rw [hc, ea, Int32.ofNat_add, Int32.ofNat_mul]; rfl
    have e2 : (((c + ((a &&& (255 : Int32)) * (58 : Int32))).toUInt32 >>> ((8 : Int32) &&& 31).toUInt32).toInt32) = Int32.ofNat ((n + own_bt a * 58) / 256) := by
      rw [e1]; exact own_ushr (k := 8) (by omega) (by decide) (by decide)
    have e3 : own_bt ((c + ((a &&& (255 : Int32)) * (58 : Int32))).toInt8.toInt32) = (n + own_bt a * 58) % 256 := by rw [e1]; exact own_bt_i8 _
    obtain ⟨n', h1, h2, h3⟩ := own_in_val r e2 (by omega)
    refine ⟨n', h1, h2, ?_⟩
    have hp : 256 ^ (r.length + 1) * n' = 256 * (256 ^ r.length * n') := by rw [Nat.pow_succ, Nat.mul_comm (256 ^ r.length) 256, Nat.mul_assoc]
    show (own_bt ((c + ((a &&& (255 : Int32)) * (58 : Int32))).toInt8.toInt32) + 256 * own_val (own_in r (((c + ((a &&& (255 : Int32)) * (58 : Int32))).toUInt32 >>> ((8 : Int32) &&& 31).toUInt32).toInt32)).1) + 256 ^ (r.length + 1) * n' = n + 58 * (own_bt a + 256 * own_val r)
    rw [e3, hp]
    generalize 256 ^ r.length * n' = P at h3 ⊢
    generalize own_val (own_in r (((c + ((a &&& (255 : Int32)) * (58 : Int32))).toUInt32 >>> ((8 : Int32) &&& 31).toUInt32).toInt32)).1 = Y at h3 ⊢
    omega
theorem own_in_b (B : List Int32) {c : Int32} (h : ¬ c < (0 : Int32) ∧ ¬ (57 : Int32) < c) : ¬ (own_in B c).2 < (0 : Int32) ∧ ¬ (57 : Int32) < (own_in B c).2 := by
  obtain ⟨n, hn, e⟩ := own_nt (k := 57) rfl (by decide) h
  obtain ⟨n', h1, h2, -⟩ := own_in_val B e hn
  rw [h2]; exact own_b57 h1
theorem own_in_r : ∀ (B : List Int32) (c x : Int32), x ∈ (own_in B c).1 → ¬ x < (-128 : Int32) ∧ ¬ (127 : Int32) < x
  | [], c, x, h => by simp [own_in] at h
  | a :: r, c, x, h => by
    rcases List.mem_cons.mp h with q | q
    · rw [q]; exact bnd_i2b _
    · exact own_in_r r _ x q
theorem own_st_r (B : List Int32) (c x : Int32) (h : x ∈ own_st B c) : ¬ x < (-128 : Int32) ∧ ¬ (127 : Int32) < x := by
  unfold own_st at h
  split at h
  · rcases List.mem_append.mp h with q | q
    · exact own_in_r B c x q
    · rw [List.mem_singleton.mp q]; exact bnd_i2b _
  · exact own_in_r B c x h
theorem own_run_r : ∀ (r B : List Int32), (∀ x ∈ B, ¬ x < (-128 : Int32) ∧ ¬ (127 : Int32) < x) → ∀ x ∈ own_run r B, ¬ x < (-128 : Int32) ∧ ¬ (127 : Int32) < x
  | [], B, h => h
  | a :: r, B, h => own_run_r r _ (own_st_r B _)
theorem own_B_b (l : List Int32) : ∀ x ∈ own_B l, ¬ x < (-128 : Int32) ∧ ¬ (127 : Int32) < x := own_run_r _ [] (fun _ q => nomatch q)
theorem d5_91 : decode prog_9_method_3_code 91 = .ok (.iload 6, 2) := by decide +kernel
theorem d5_93 : decode prog_9_method_3_code 93 = .ok (.iload_n 3, 1) := by decide +kernel
theorem sg5_91_2 : decs prog_9_method_3_code [(91, .iload 6, 2), (93, .iload_n 3, 1)] := ⟨d5_91, d5_93, trivial⟩
theorem d5_94 : decode prog_9_method_3_code 94 = .ok (.if_icmp .ge 39, 3) := by decide +kernel
theorem d5_97 : decode prog_9_method_3_code 97 = .ok (.iload 5, 2) := by decide +kernel
theorem d5_99 : decode prog_9_method_3_code 99 = .ok (.aload_n 2, 1) := by decide +kernel
theorem d5_100 : decode prog_9_method_3_code 100 = .ok (.iload 6, 2) := by decide +kernel
theorem sg5_97_3 : decs prog_9_method_3_code [(97, .iload 5, 2), (99, .aload_n 2, 1), (100, .iload 6, 2)] := ⟨d5_97, d5_99, d5_100, trivial⟩
theorem d5_102 : decode prog_9_method_3_code 102 = .ok (.baload, 1) := by decide +kernel
theorem d5_103 : decode prog_9_method_3_code 103 = .ok (.sipush 255, 3) := by decide +kernel
theorem d5_106 : decode prog_9_method_3_code 106 = .ok (.iand, 1) := by decide +kernel
theorem d5_107 : decode prog_9_method_3_code 107 = .ok (.bipush 58, 2) := by decide +kernel
theorem d5_109 : decode prog_9_method_3_code 109 = .ok (.imul, 1) := by decide +kernel
theorem d5_110 : decode prog_9_method_3_code 110 = .ok (.iadd, 1) := by decide +kernel
theorem d5_111 : decode prog_9_method_3_code 111 = .ok (.istore 5, 2) := by decide +kernel
theorem d5_113 : decode prog_9_method_3_code 113 = .ok (.aload_n 2, 1) := by decide +kernel
theorem d5_114 : decode prog_9_method_3_code 114 = .ok (.iload 6, 2) := by decide +kernel
theorem d5_116 : decode prog_9_method_3_code 116 = .ok (.iload 5, 2) := by decide +kernel
theorem d5_118 : decode prog_9_method_3_code 118 = .ok (.i2b, 1) := by decide +kernel
theorem sg5_103_10 : decs prog_9_method_3_code [(103, .sipush 255, 3), (106, .iand, 1), (107, .bipush 58, 2), (109, .imul, 1), (110, .iadd, 1), (111, .istore 5, 2), (113, .aload_n 2, 1), (114, .iload 6, 2), (116, .iload 5, 2), (118, .i2b, 1)] := ⟨d5_103, d5_106, d5_107, d5_109, d5_110, d5_111, d5_113, d5_114, d5_116, d5_118, trivial⟩
theorem d5_119 : decode prog_9_method_3_code 119 = .ok (.bastore, 1) := by decide +kernel
theorem d5_120 : decode prog_9_method_3_code 120 = .ok (.iload 5, 2) := by decide +kernel
theorem d5_122 : decode prog_9_method_3_code 122 = .ok (.bipush 8, 2) := by decide +kernel
theorem d5_124 : decode prog_9_method_3_code 124 = .ok (.iushr, 1) := by decide +kernel
theorem d5_125 : decode prog_9_method_3_code 125 = .ok (.istore 5, 2) := by decide +kernel
theorem d5_127 : decode prog_9_method_3_code 127 = .ok (.iinc 6 1, 3) := by decide +kernel
theorem d5_130 : decode prog_9_method_3_code 130 = .ok (.goto (-39), 3) := by decide +kernel
theorem sg5_120_6 : decs prog_9_method_3_code [(120, .iload 5, 2), (122, .bipush 8, 2), (124, .iushr, 1), (125, .istore 5, 2), (127, .iinc 6 1, 3), (130, .goto (-39), 3)] := ⟨d5_120, d5_122, d5_124, d5_125, d5_127, d5_130, trivial⟩
theorem d5_133 : decode prog_9_method_3_code 133 = .ok (.iload 5, 2) := by decide +kernel
theorem sg5_133_1 : decs prog_9_method_3_code [(133, .iload 5, 2)] := ⟨d5_133, trivial⟩
theorem d5_135 : decode prog_9_method_3_code 135 = .ok (.ifCond .le 22, 3) := by decide +kernel
theorem d5_138 : decode prog_9_method_3_code 138 = .ok (.aload_n 2, 1) := by decide +kernel
theorem d5_139 : decode prog_9_method_3_code 139 = .ok (.iload_n 3, 1) := by decide +kernel
theorem d5_140 : decode prog_9_method_3_code 140 = .ok (.iinc 3 1, 3) := by decide +kernel
theorem d5_143 : decode prog_9_method_3_code 143 = .ok (.iload 5, 2) := by decide +kernel
theorem d5_145 : decode prog_9_method_3_code 145 = .ok (.i2b, 1) := by decide +kernel
theorem sg5_138_5 : decs prog_9_method_3_code [(138, .aload_n 2, 1), (139, .iload_n 3, 1), (140, .iinc 3 1, 3), (143, .iload 5, 2), (145, .i2b, 1)] := ⟨d5_138, d5_139, d5_140, d5_143, d5_145, trivial⟩
theorem d5_146 : decode prog_9_method_3_code 146 = .ok (.bastore, 1) := by decide +kernel
theorem d5_147 : decode prog_9_method_3_code 147 = .ok (.iload 5, 2) := by decide +kernel
theorem d5_149 : decode prog_9_method_3_code 149 = .ok (.bipush 8, 2) := by decide +kernel
theorem d5_151 : decode prog_9_method_3_code 151 = .ok (.iushr, 1) := by decide +kernel
theorem d5_152 : decode prog_9_method_3_code 152 = .ok (.istore 5, 2) := by decide +kernel
theorem d5_154 : decode prog_9_method_3_code 154 = .ok (.goto (-21), 3) := by decide +kernel
theorem sg5_147_6 : decs prog_9_method_3_code [(147, .iload 5, 2), (149, .bipush 8, 2), (151, .iushr, 1), (152, .istore 5, 2), (154, .goto (-21), 3), (133, .iload 5, 2)] := ⟨d5_147, d5_149, d5_151, d5_152, d5_154, d5_133, trivial⟩
theorem d5_157 : decode prog_9_method_3_code 157 = .ok (.iinc 4 1, 3) := by decide +kernel
theorem d5_160 : decode prog_9_method_3_code 160 = .ok (.goto (-118), 3) := by decide +kernel
theorem sg5_157_2 : decs prog_9_method_3_code [(157, .iinc 4 1, 3), (160, .goto (-118), 3)] := ⟨d5_157, d5_160, trivial⟩
theorem sg5_168_2 : decs prog_9_method_3_code [(168, .astore 4, 2), (170, .iconst 0, 1)] := ⟨d5_168, d5_170, trivial⟩
theorem sg5_173_2 : decs prog_9_method_3_code [(173, .iload 5, 2), (175, .iload_n 3, 1)] := ⟨d5_173, d5_175, trivial⟩
theorem d5_179 : decode prog_9_method_3_code 179 = .ok (.aload 4, 2) := by decide +kernel
theorem d5_181 : decode prog_9_method_3_code 181 = .ok (.iload_n 1, 1) := by decide +kernel
theorem d5_182 : decode prog_9_method_3_code 182 = .ok (.iload 5, 2) := by decide +kernel
theorem d5_184 : decode prog_9_method_3_code 184 = .ok (.iadd, 1) := by decide +kernel
theorem d5_185 : decode prog_9_method_3_code 185 = .ok (.aload_n 2, 1) := by decide +kernel
theorem d5_186 : decode prog_9_method_3_code 186 = .ok (.iload_n 3, 1) := by decide +kernel
theorem d5_187 : decode prog_9_method_3_code 187 = .ok (.iconst 1, 1) := by decide +kernel
theorem d5_188 : decode prog_9_method_3_code 188 = .ok (.isub, 1) := by decide +kernel
theorem d5_189 : decode prog_9_method_3_code 189 = .ok (.iload 5, 2) := by decide +kernel
theorem d5_191 : decode prog_9_method_3_code 191 = .ok (.isub, 1) := by decide +kernel
theorem sg5_179_10 : decs prog_9_method_3_code [(179, .aload 4, 2), (181, .iload_n 1, 1), (182, .iload 5, 2), (184, .iadd, 1), (185, .aload_n 2, 1), (186, .iload_n 3, 1), (187, .iconst 1, 1), (188, .isub, 1), (189, .iload 5, 2), (191, .isub, 1)] := ⟨d5_179, d5_181, d5_182, d5_184, d5_185, d5_186, d5_187, d5_188, d5_189, d5_191, trivial⟩
theorem d5_192 : decode prog_9_method_3_code 192 = .ok (.baload, 1) := by decide +kernel
theorem d5_193 : decode prog_9_method_3_code 193 = .ok (.bastore, 1) := by decide +kernel
theorem d5_194 : decode prog_9_method_3_code 194 = .ok (.iinc 5 1, 3) := by decide +kernel
theorem d5_197 : decode prog_9_method_3_code 197 = .ok (.goto (-24), 3) := by decide +kernel
theorem sg5_194_2 : decs prog_9_method_3_code [(194, .iinc 5 1, 3), (197, .goto (-24), 3)] := ⟨d5_194, d5_197, trivial⟩
theorem ef_rm5_1 (m : MethodId) (x0 : Addr) : entryFrame m #[(.ref x0)] 7 = mkF m 0 #[.val (.ref x0), .unset, .unset, .unset, .unset, .unset, .unset] [] := by first | (simp [entryFrame, mkF, argsToLocals, Value.category]; done) | rfl
theorem d8_5 : decode method_5_code 5 = .ok (.iload_n 1, 1) := by decide +kernel
theorem sg8_5_1 : decs method_5_code [(5, .iload_n 1, 1)] := ⟨d8_5, trivial⟩
theorem d8_6 : decode method_5_code 6 = .ok (.ifCond .eq 5, 3) := by decide +kernel
theorem d8_11 : decode method_5_code 11 = .ok (.iload_n 0, 1) := by decide +kernel
theorem d8_12 : decode method_5_code 12 = .ok (.iconst 2, 1) := by decide +kernel
theorem sg8_11_2 : decs method_5_code [(11, .iload_n 0, 1), (12, .iconst 2, 1)] := ⟨d8_11, d8_12, trivial⟩
theorem d8_13 : decode method_5_code 13 = .ok (.if_icmp .lt 7, 3) := by decide +kernel
theorem d8_20 : decode method_5_code 20 = .ok (.iconst 1, 1) := by decide +kernel
theorem sg8_20_1 : decs method_5_code [(20, .iconst 1, 1)] := ⟨d8_20, trivial⟩
theorem d8_21 : decode method_5_code 21 = .ok (.ireturn, 1) := by decide +kernel
def f_rm8_1 (i1 : Int32) : Int32 := (if i1 = (0 : Int32) then (1 : Int32) else (0 : Int32))
theorem ef_rm8_1 (m : MethodId) (x0 : Int32) (x1 : Int32) (x2 : Int32) (x3 : Int32) (x4 : Int32) (x5 : Int32) (x6 : Int32) : entryFrame m #[(.int x0), (.int x1), (.int x2), (.int x3), (.int x4), (.int x5), (.int x6)] 7 = mkF m 0 #[.val (.int x0), .val (.int x1), .val (.int x2), .val (.int x3), .val (.int x4), .val (.int x5), .val (.int x6)] [] := by first | (simp [entryFrame, mkF, argsToLocals, Value.category]; done) | rfl
theorem d9_7 : decode method_6_code 7 = .ok (.iload_n 1, 1) := by decide +kernel
theorem d9_8 : decode method_6_code 8 = .ok (.i2l, 1) := by decide +kernel
theorem d9_9 : decode method_6_code 9 = .ok (.lstore 7, 2) := by decide +kernel
theorem sg9_7_5 : decs method_6_code [(7, .iload_n 1, 1), (8, .i2l, 1), (9, .lstore 7, 2), (11, .iload_n 0, 1), (12, .iconst 1, 1)] := ⟨d9_7, d9_8, d9_9, d9_11, d9_12, trivial⟩
theorem ef_rm9_1 (m : MethodId) (x0 : Int32) (x1 : Int32) (x2 : Int32) (x3 : Int32) (x4 : Int32) (x5 : Int32) (x6 : Int32) : entryFrame m #[(.int x0), (.int x1), (.int x2), (.int x3), (.int x4), (.int x5), (.int x6)] 9 = mkF m 0 #[.val (.int x0), .val (.int x1), .val (.int x2), .val (.int x3), .val (.int x4), .val (.int x5), .val (.int x6), .unset, .unset] [] := by first | (simp [entryFrame, mkF, argsToLocals, Value.category]; done) | rfl
theorem d10_8 : decode method_7_code 8 = .ok (.lload_n 0, 1) := by decide +kernel
theorem sg10_8_1 : decs method_7_code [(8, .lload_n 0, 1)] := ⟨d10_8, trivial⟩
theorem d10_9 : decode method_7_code 9 = .ok (.ldc2_w 53, 3) := by decide +kernel
theorem own_w121 : WD (Cond.constantLong "com/example/tryst/tryst/encoding/Base58DecodePinLaw" 53 (256 : Int64)) := wd 121 rfl
theorem d10_12 : decode method_7_code 12 = .ok (.lcmp, 1) := by decide +kernel
theorem sg10_12_1 : decs method_7_code [(12, .lcmp, 1)] := ⟨d10_12, trivial⟩
theorem d10_13 : decode method_7_code 13 = .ok (.ifCond .ge 5, 3) := by decide +kernel
theorem d10_16 : decode method_7_code 16 = .ok (.iconst 1, 1) := by decide +kernel
theorem sg10_16_1 : decs method_7_code [(16, .iconst 1, 1)] := ⟨d10_16, trivial⟩
theorem d10_17 : decode method_7_code 17 = .ok (.ireturn, 1) := by decide +kernel
theorem d10_18 : decode method_7_code 18 = .ok (.lload_n 0, 1) := by decide +kernel
theorem sg10_18_1 : decs method_7_code [(18, .lload_n 0, 1)] := ⟨d10_18, trivial⟩
theorem d10_19 : decode method_7_code 19 = .ok (.ldc2_w 55, 3) := by decide +kernel
theorem own_w122 : WD (Cond.constantLong "com/example/tryst/tryst/encoding/Base58DecodePinLaw" 55 (65536 : Int64)) := wd 122 rfl
theorem d10_22 : decode method_7_code 22 = .ok (.lcmp, 1) := by decide +kernel
theorem sg10_22_1 : decs method_7_code [(22, .lcmp, 1)] := ⟨d10_22, trivial⟩
theorem d10_23 : decode method_7_code 23 = .ok (.ifCond .ge 5, 3) := by decide +kernel
theorem d10_26 : decode method_7_code 26 = .ok (.iconst 2, 1) := by decide +kernel
theorem sg10_26_1 : decs method_7_code [(26, .iconst 2, 1)] := ⟨d10_26, trivial⟩
theorem d10_27 : decode method_7_code 27 = .ok (.ireturn, 1) := by decide +kernel
theorem d10_28 : decode method_7_code 28 = .ok (.lload_n 0, 1) := by decide +kernel
theorem sg10_28_1 : decs method_7_code [(28, .lload_n 0, 1)] := ⟨d10_28, trivial⟩
theorem d10_29 : decode method_7_code 29 = .ok (.ldc2_w 57, 3) := by decide +kernel
theorem own_w123 : WD (Cond.constantLong "com/example/tryst/tryst/encoding/Base58DecodePinLaw" 57 (16777216 : Int64)) := wd 123 rfl
theorem d10_32 : decode method_7_code 32 = .ok (.lcmp, 1) := by decide +kernel
theorem sg10_32_1 : decs method_7_code [(32, .lcmp, 1)] := ⟨d10_32, trivial⟩
theorem d10_33 : decode method_7_code 33 = .ok (.ifCond .ge 5, 3) := by decide +kernel
theorem d10_36 : decode method_7_code 36 = .ok (.iconst 3, 1) := by decide +kernel
theorem sg10_36_1 : decs method_7_code [(36, .iconst 3, 1)] := ⟨d10_36, trivial⟩
theorem d10_37 : decode method_7_code 37 = .ok (.ireturn, 1) := by decide +kernel
theorem d10_38 : decode method_7_code 38 = .ok (.lload_n 0, 1) := by decide +kernel
theorem sg10_38_1 : decs method_7_code [(38, .lload_n 0, 1)] := ⟨d10_38, trivial⟩
theorem d10_39 : decode method_7_code 39 = .ok (.ldc2_w 59, 3) := by decide +kernel
theorem own_w124 : WD (Cond.constantLong "com/example/tryst/tryst/encoding/Base58DecodePinLaw" 59 (4294967296 : Int64)) := wd 124 rfl
theorem d10_42 : decode method_7_code 42 = .ok (.lcmp, 1) := by decide +kernel
theorem sg10_42_1 : decs method_7_code [(42, .lcmp, 1)] := ⟨d10_42, trivial⟩
theorem d10_43 : decode method_7_code 43 = .ok (.ifCond .ge 5, 3) := by decide +kernel
theorem d10_46 : decode method_7_code 46 = .ok (.iconst 4, 1) := by decide +kernel
theorem sg10_46_1 : decs method_7_code [(46, .iconst 4, 1)] := ⟨d10_46, trivial⟩
theorem d10_47 : decode method_7_code 47 = .ok (.ireturn, 1) := by decide +kernel
theorem d10_48 : decode method_7_code 48 = .ok (.iconst 5, 1) := by decide +kernel
theorem sg10_48_1 : decs method_7_code [(48, .iconst 5, 1)] := ⟨d10_48, trivial⟩
theorem d10_49 : decode method_7_code 49 = .ok (.ireturn, 1) := by decide +kernel
def f_rm10_1 (j0 : Int64) : Int32 := (if j0 = (0 : Int64) then (0 : Int32) else (if j0 < (256 : Int64) then (1 : Int32) else (if j0 < (65536 : Int64) then (2 : Int32) else (if j0 < (16777216 : Int64) then (3 : Int32) else (if j0 < (4294967296 : Int64) then (4 : Int32) else (5 : Int32))))))
theorem ef_rm10_1 (m : MethodId) (x0 : Int64) : entryFrame m #[(.long x0)] 2 = mkF m 0 #[.val (.long x0), .second] [] := by first | (simp [entryFrame, mkF, argsToLocals, Value.category]; done) | rfl
theorem d11_8 : decode method_9_code 8 = .ok (.aload_n 0, 1) := by decide +kernel
theorem d11_9 : decode method_9_code 9 = .ok (.iload_n 1, 1) := by decide +kernel
theorem sg11_8_2 : decs method_9_code [(8, .aload_n 0, 1), (9, .iload_n 1, 1)] := ⟨d11_8, d11_9, trivial⟩
theorem d11_10 : decode method_9_code 10 = .ok (.baload, 1) := by decide +kernel
theorem d11_11 : decode method_9_code 11 = .ok (.iload_n 1, 1) := by decide +kernel
theorem d11_12 : decode method_9_code 12 = .ok (.iload_n 2, 1) := by decide +kernel
theorem d11_13 : decode method_9_code 13 = .ok (.iload_n 3, 1) := by decide +kernel
theorem d11_14 : decode method_9_code 14 = .ok (.lload 4, 2) := by decide +kernel
theorem own_w125 : WD (Cond.methodLink "com/example/tryst/tryst/encoding/Base58DecodePinLaw" 61 ⟨"com/example/tryst/tryst/encoding/Base58DecodePinLaw", "expected", "(IIIJ)B"⟩) := wd 125 rfl
theorem sg11_11_4 : decs method_9_code [(11, .iload_n 1, 1), (12, .iload_n 2, 1), (13, .iload_n 3, 1), (14, .lload 4, 2)] := ⟨d11_11, d11_12, d11_13, d11_14, trivial⟩
theorem d11_16 : decode method_9_code 16 = .ok (.invokestatic 61, 3) := by decide +kernel
theorem d28_0 : decode method_8_code 0 = .ok (.iload_n 0, 1) := by decide +kernel
theorem d28_1 : decode method_8_code 1 = .ok (.iload_n 1, 1) := by decide +kernel
theorem sg28_0_2 : decs method_8_code [(0, .iload_n 0, 1), (1, .iload_n 1, 1)] := ⟨d28_0, d28_1, trivial⟩
theorem d28_2 : decode method_8_code 2 = .ok (.if_icmp .ge 5, 3) := by decide +kernel
theorem d28_5 : decode method_8_code 5 = .ok (.iconst 0, 1) := by decide +kernel
theorem sg28_5_1 : decs method_8_code [(5, .iconst 0, 1)] := ⟨d28_5, trivial⟩
theorem d28_6 : decode method_8_code 6 = .ok (.ireturn, 1) := by decide +kernel
theorem d28_7 : decode method_8_code 7 = .ok (.bipush 8, 2) := by decide +kernel
theorem d28_9 : decode method_8_code 9 = .ok (.iload_n 1, 1) := by decide +kernel
theorem d28_10 : decode method_8_code 10 = .ok (.iload_n 2, 1) := by decide +kernel
theorem d28_11 : decode method_8_code 11 = .ok (.iadd, 1) := by decide +kernel
theorem d28_12 : decode method_8_code 12 = .ok (.iconst 1, 1) := by decide +kernel
theorem d28_13 : decode method_8_code 13 = .ok (.isub, 1) := by decide +kernel
theorem d28_14 : decode method_8_code 14 = .ok (.iload_n 0, 1) := by decide +kernel
theorem d28_15 : decode method_8_code 15 = .ok (.isub, 1) := by decide +kernel
theorem d28_16 : decode method_8_code 16 = .ok (.imul, 1) := by decide +kernel
theorem d28_17 : decode method_8_code 17 = .ok (.istore 5, 2) := by decide +kernel
theorem d28_19 : decode method_8_code 19 = .ok (.lload_n 3, 1) := by decide +kernel
theorem d28_20 : decode method_8_code 20 = .ok (.iload 5, 2) := by decide +kernel
theorem d28_22 : decode method_8_code 22 = .ok (.lushr, 1) := by decide +kernel
theorem d28_23 : decode method_8_code 23 = .ok (.l2i, 1) := by decide +kernel
theorem d28_24 : decode method_8_code 24 = .ok (.i2b, 1) := by decide +kernel
theorem sg28_7_15 : decs method_8_code [(7, .bipush 8, 2), (9, .iload_n 1, 1), (10, .iload_n 2, 1), (11, .iadd, 1), (12, .iconst 1, 1), (13, .isub, 1), (14, .iload_n 0, 1), (15, .isub, 1), (16, .imul, 1), (17, .istore 5, 2), (19, .lload_n 3, 1), (20, .iload 5, 2), (22, .lushr, 1), (23, .l2i, 1), (24, .i2b, 1)] := ⟨d28_7, d28_9, d28_10, d28_11, d28_12, d28_13, d28_14, d28_15, d28_16, d28_17, d28_19, d28_20, d28_22, d28_23, d28_24, trivial⟩
theorem d28_25 : decode method_8_code 25 = .ok (.ireturn, 1) := by decide +kernel
def f_rm28_0 (i0 i1 i2 : Int32) (j3 : Int64) : Int32 := (if i0 < i1 then (0 : Int32) else ((((j3.toUInt64 >>> (((8 : Int32) * (((i1 + i2) - (1 : Int32)) - i0)) &&& 0x3f).toInt64.toUInt64).toInt64).toInt32).toInt8.toInt32))
theorem ef_rm28_0 (m : MethodId) (x0 : Int32) (x1 : Int32) (x2 : Int32) (x3 : Int64) : entryFrame m #[(.int x0), (.int x1), (.int x2), (.long x3)] 6 = mkF m 0 #[.val (.int x0), .val (.int x1), .val (.int x2), .val (.long x3), .second, .unset] [] := by first | (simp [entryFrame, mkF, argsToLocals, Value.category]; done) | rfl
theorem own_w127 : WD (Cond.code ⟨"com/example/tryst/tryst/encoding/Base58DecodePinLaw", "expected", "(IIIJ)B"⟩ method_8_code 6 (Option.some Jvm.ClassFile.FieldType.byte)) := wd 127 rfl
theorem own_pd22 : parseMethodDescriptor "(IIIJ)B" = some ⟨[.int, .int, .int, .long], some .byte⟩ := by decide +kernel
theorem own_w126 : WD (Cond.static ⟨"com/example/tryst/tryst/encoding/Base58DecodePinLaw", "expected", "(IIIJ)B"⟩) := wd 126 rfl
theorem d11_19 : decode method_9_code 19 = .ok (.if_icmp .ne 7, 3) := by decide +kernel
theorem d11_22 : decode method_9_code 22 = .ok (.iconst 1, 1) := by decide +kernel
theorem d11_23 : decode method_9_code 23 = .ok (.goto 4, 3) := by decide +kernel
theorem sg11_22_2 : decs method_9_code [(22, .iconst 1, 1), (23, .goto 4, 3)] := ⟨d11_22, d11_23, trivial⟩
theorem d11_26 : decode method_9_code 26 = .ok (.iconst 0, 1) := by decide +kernel
theorem sg11_26_1 : decs method_9_code [(26, .iconst 0, 1)] := ⟨d11_26, trivial⟩
theorem d11_27 : decode method_9_code 27 = .ok (.ireturn, 1) := by decide +kernel
def f_rm11_1 (i1 i2 i3 : Int32) (j4 : Int64) (l_1 : List Int32) : Int32 := (if i1 < (own_n l_1) then (if (own_at l_1 i1) = (f_rm28_0 i1 i2 i3 j4) then (1 : Int32) else (0 : Int32)) else (1 : Int32))
theorem ef_rm11_1 (m : MethodId) (x0 : Addr) (x1 : Int32) (x2 : Int32) (x3 : Int32) (x4 : Int64) : entryFrame m #[(.ref x0), (.int x1), (.int x2), (.int x3), (.long x4)] 6 = mkF m 0 #[.val (.ref x0), .val (.int x1), .val (.int x2), .val (.int x3), .val (.long x4), .second] [] := by first | (simp [entryFrame, mkF, argsToLocals, Value.category]; done) | rfl
theorem sg0_241_1 : decs code [(241, .iconst 0, 1)] := ⟨at_241, trivial⟩
theorem d1_38 : decode method_4_code 38 = .ok (.iload_n 0, 1) := by decide +kernel
theorem d1_39 : decode method_4_code 39 = .ok (.iconst 2, 1) := by decide +kernel
theorem sg1_38_2 : decs method_4_code [(38, .iload_n 0, 1), (39, .iconst 2, 1)] := ⟨d1_38, d1_39, trivial⟩
theorem d1_40 : decode method_4_code 40 = .ok (.if_icmp .ne 28, 3) := by decide +kernel
theorem d1_43 : decode method_4_code 43 = .ok (.new 40, 3) := by decide +kernel
theorem d1_46 : decode method_4_code 46 = .ok (.dup, 1) := by decide +kernel
theorem d1_47 : decode method_4_code 47 = .ok (.iconst 2, 1) := by decide +kernel
theorem sg1_46_2 : decs method_4_code [(46, .dup, 1), (47, .iconst 2, 1)] := ⟨d1_46, d1_47, trivial⟩
theorem d1_48 : decode method_4_code 48 = .ok (.newarray .char, 2) := by decide +kernel
theorem d1_50 : decode method_4_code 50 = .ok (.dup, 1) := by decide +kernel
theorem d1_51 : decode method_4_code 51 = .ok (.iconst 0, 1) := by decide +kernel
theorem d1_52 : decode method_4_code 52 = .ok (.iload_n 1, 1) := by decide +kernel
theorem sg1_50_3 : decs method_4_code [(50, .dup, 1), (51, .iconst 0, 1), (52, .iload_n 1, 1)] := ⟨d1_50, d1_51, d1_52, trivial⟩
theorem d1_53 : decode method_4_code 53 = .ok (.invokestatic 48, 3) := by decide +kernel
theorem d1_56 : decode method_4_code 56 = .ok (.castore, 1) := by decide +kernel
theorem d1_57 : decode method_4_code 57 = .ok (.dup, 1) := by decide +kernel
theorem d1_58 : decode method_4_code 58 = .ok (.iconst 1, 1) := by decide +kernel
theorem d1_59 : decode method_4_code 59 = .ok (.iload_n 2, 1) := by decide +kernel
theorem sg1_57_3 : decs method_4_code [(57, .dup, 1), (58, .iconst 1, 1), (59, .iload_n 2, 1)] := ⟨d1_57, d1_58, d1_59, trivial⟩
theorem d1_60 : decode method_4_code 60 = .ok (.invokestatic 48, 3) := by decide +kernel
theorem d1_63 : decode method_4_code 63 = .ok (.castore, 1) := by decide +kernel
theorem d1_64 : decode method_4_code 64 = .ok (.invokespecial 45, 3) := by decide +kernel
theorem ef_rm19_1 (m : MethodId) (x0 : Addr) (x1 : Int32) (x2 : Addr) (x4 : Int32) : entryFrame m #[(.ref x0), (.int x1), (.ref x2), (.int x1), (.int x4)] 7 = mkF m 0 #[.val (.ref x0), .val (.int x1), .val (.ref x2), .val (.int x1), .val (.int x4), .unset, .unset] [] := by first | (simp [entryFrame, mkF, argsToLocals, Value.category]; done) | rfl
theorem ef_rm18_1 (m : MethodId) (x0 : Addr) (x1 : Int32) (x2 : Int32) : entryFrame m #[(.ref x0), (.int x1), (.int x2)] 6 = mkF m 0 #[.val (.ref x0), .val (.int x1), .val (.int x2), .unset, .unset, .unset] [] := by first | (simp [entryFrame, mkF, argsToLocals, Value.category]; done) | rfl
theorem ef_rm20_1 (m : MethodId) (x0 : Addr) (x1 : Int32) : entryFrame m #[(.ref x0), (.int x1)] 2 = mkF m 0 #[.val (.ref x0), .val (.int x1)] [] := by first | (simp [entryFrame, mkF, argsToLocals, Value.category]; done) | rfl
theorem ef_rm3_2 (m : MethodId) (x0 : Addr) (x1 : Addr) (x2 : Int32) (x3 : Int32) : entryFrame m #[(.ref x0), (.ref x1), (.int x2), (.int x3), .null] 6 = mkF m 0 #[.val (.ref x0), .val (.ref x1), .val (.int x2), .val (.int x3), .val .null, .unset] [] := by first | (simp [entryFrame, mkF, argsToLocals, Value.category]; done) | rfl
theorem ef_rm2_2 (m : MethodId) (x0 : Addr) (x1 : Addr) : entryFrame m #[(.ref x0), (.ref x1)] 2 = mkF m 0 #[.val (.ref x0), .val (.ref x1)] [] := by first | (simp [entryFrame, mkF, argsToLocals, Value.category]; done) | rfl
theorem d1_67 : decode method_4_code 67 = .ok (.areturn, 1) := by decide +kernel
theorem ef_rm1_2 (m : MethodId) (x0 : Int32) (x1 : Int32) (x2 : Int32) (x3 : Int32) (x4 : Int32) (x5 : Int32) (x6 : Int32) : entryFrame m #[(.int x0), (.int x1), (.int x2), (.int x3), (.int x4), (.int x5), (.int x6)] 7 = mkF m 0 #[.val (.int x0), .val (.int x1), .val (.int x2), .val (.int x3), .val (.int x4), .val (.int x5), .val (.int x6)] [] := by first | (simp [entryFrame, mkF, argsToLocals, Value.category]; done) | rfl
theorem d8_16 : decode method_5_code 16 = .ok (.iload_n 2, 1) := by decide +kernel
theorem sg8_16_1 : decs method_5_code [(16, .iload_n 2, 1)] := ⟨d8_16, trivial⟩
theorem d8_17 : decode method_5_code 17 = .ok (.ifCond .eq 5, 3) := by decide +kernel
theorem d8_22 : decode method_5_code 22 = .ok (.iload_n 0, 1) := by decide +kernel
theorem d8_23 : decode method_5_code 23 = .ok (.iconst 3, 1) := by decide +kernel
theorem sg8_22_2 : decs method_5_code [(22, .iload_n 0, 1), (23, .iconst 3, 1)] := ⟨d8_22, d8_23, trivial⟩
theorem d8_24 : decode method_5_code 24 = .ok (.if_icmp .lt 7, 3) := by decide +kernel
theorem d8_31 : decode method_5_code 31 = .ok (.iconst 2, 1) := by decide +kernel
theorem sg8_31_1 : decs method_5_code [(31, .iconst 2, 1)] := ⟨d8_31, trivial⟩
theorem d8_32 : decode method_5_code 32 = .ok (.ireturn, 1) := by decide +kernel
def f_rm8_2 (i1 i2 : Int32) : Int32 := (if i1 = (0 : Int32) then (if i2 = (0 : Int32) then (2 : Int32) else (1 : Int32)) else (0 : Int32))
theorem ef_rm8_2 (m : MethodId) (x0 : Int32) (x1 : Int32) (x2 : Int32) (x3 : Int32) (x4 : Int32) (x5 : Int32) (x6 : Int32) : entryFrame m #[(.int x0), (.int x1), (.int x2), (.int x3), (.int x4), (.int x5), (.int x6)] 7 = mkF m 0 #[.val (.int x0), .val (.int x1), .val (.int x2), .val (.int x3), .val (.int x4), .val (.int x5), .val (.int x6)] [] := by first | (simp [entryFrame, mkF, argsToLocals, Value.category]; done) | rfl
theorem d9_16 : decode method_6_code 16 = .ok (.lload 7, 2) := by decide +kernel
theorem sg9_16_1 : decs method_6_code [(16, .lload 7, 2)] := ⟨d9_16, trivial⟩
theorem d9_18 : decode method_6_code 18 = .ok (.ldc2_w 51, 3) := by decide +kernel
theorem own_w120 : WD (Cond.constantLong "com/example/tryst/tryst/encoding/Base58DecodePinLaw" 51 (58 : Int64)) := wd 120 rfl
theorem d9_21 : decode method_6_code 21 = .ok (.lmul, 1) := by decide +kernel
theorem d9_22 : decode method_6_code 22 = .ok (.iload_n 2, 1) := by decide +kernel
theorem d9_23 : decode method_6_code 23 = .ok (.i2l, 1) := by decide +kernel
theorem d9_24 : decode method_6_code 24 = .ok (.ladd, 1) := by decide +kernel
theorem d9_25 : decode method_6_code 25 = .ok (.lstore 7, 2) := by decide +kernel
theorem sg9_21_7 : decs method_6_code [(21, .lmul, 1), (22, .iload_n 2, 1), (23, .i2l, 1), (24, .ladd, 1), (25, .lstore 7, 2), (27, .iload_n 0, 1), (28, .iconst 2, 1)] := ⟨d9_21, d9_22, d9_23, d9_24, d9_25, d9_27, d9_28, trivial⟩
theorem ef_rm9_2 (m : MethodId) (x0 : Int32) (x1 : Int32) (x2 : Int32) (x3 : Int32) (x4 : Int32) (x5 : Int32) (x6 : Int32) : entryFrame m #[(.int x0), (.int x1), (.int x2), (.int x3), (.int x4), (.int x5), (.int x6)] 9 = mkF m 0 #[.val (.int x0), .val (.int x1), .val (.int x2), .val (.int x3), .val (.int x4), .val (.int x5), .val (.int x6), .unset, .unset] [] := by first | (simp [entryFrame, mkF, argsToLocals, Value.category]; done) | rfl
theorem sg0_125_1 : decs code [(125, .lstore 14, 2)] := ⟨at_125, trivial⟩
theorem sg0_127_1 : decs code [(127, .lload 14, 2)] := ⟨at_127, trivial⟩
theorem d1_68 : decode method_4_code 68 = .ok (.iload_n 0, 1) := by decide +kernel
theorem d1_69 : decode method_4_code 69 = .ok (.iconst 3, 1) := by decide +kernel
theorem sg1_68_2 : decs method_4_code [(68, .iload_n 0, 1), (69, .iconst 3, 1)] := ⟨d1_68, d1_69, trivial⟩
theorem d1_70 : decode method_4_code 70 = .ok (.if_icmp .ne 35, 3) := by decide +kernel
theorem d1_73 : decode method_4_code 73 = .ok (.new 40, 3) := by decide +kernel
theorem d1_76 : decode method_4_code 76 = .ok (.dup, 1) := by decide +kernel
theorem d1_77 : decode method_4_code 77 = .ok (.iconst 3, 1) := by decide +kernel
theorem sg1_76_2 : decs method_4_code [(76, .dup, 1), (77, .iconst 3, 1)] := ⟨d1_76, d1_77, trivial⟩
theorem d1_78 : decode method_4_code 78 = .ok (.newarray .char, 2) := by decide +kernel
theorem d1_80 : decode method_4_code 80 = .ok (.dup, 1) := by decide +kernel
theorem d1_81 : decode method_4_code 81 = .ok (.iconst 0, 1) := by decide +kernel
theorem d1_82 : decode method_4_code 82 = .ok (.iload_n 1, 1) := by decide +kernel
theorem sg1_80_3 : decs method_4_code [(80, .dup, 1), (81, .iconst 0, 1), (82, .iload_n 1, 1)] := ⟨d1_80, d1_81, d1_82, trivial⟩
theorem d1_83 : decode method_4_code 83 = .ok (.invokestatic 48, 3) := by decide +kernel
theorem d1_86 : decode method_4_code 86 = .ok (.castore, 1) := by decide +kernel
theorem d1_87 : decode method_4_code 87 = .ok (.dup, 1) := by decide +kernel
theorem d1_88 : decode method_4_code 88 = .ok (.iconst 1, 1) := by decide +kernel
theorem d1_89 : decode method_4_code 89 = .ok (.iload_n 2, 1) := by decide +kernel
theorem sg1_87_3 : decs method_4_code [(87, .dup, 1), (88, .iconst 1, 1), (89, .iload_n 2, 1)] := ⟨d1_87, d1_88, d1_89, trivial⟩
theorem d1_90 : decode method_4_code 90 = .ok (.invokestatic 48, 3) := by decide +kernel
theorem d1_93 : decode method_4_code 93 = .ok (.castore, 1) := by decide +kernel
theorem d1_94 : decode method_4_code 94 = .ok (.dup, 1) := by decide +kernel
theorem d1_95 : decode method_4_code 95 = .ok (.iconst 2, 1) := by decide +kernel
theorem d1_96 : decode method_4_code 96 = .ok (.iload_n 3, 1) := by decide +kernel
theorem sg1_94_3 : decs method_4_code [(94, .dup, 1), (95, .iconst 2, 1), (96, .iload_n 3, 1)] := ⟨d1_94, d1_95, d1_96, trivial⟩
theorem d1_97 : decode method_4_code 97 = .ok (.invokestatic 48, 3) := by decide +kernel
theorem d1_100 : decode method_4_code 100 = .ok (.castore, 1) := by decide +kernel
theorem d1_101 : decode method_4_code 101 = .ok (.invokespecial 45, 3) := by decide +kernel
theorem ef_rm19_2 (m : MethodId) (x0 : Addr) (x1 : Int32) (x2 : Addr) (x4 : Int32) : entryFrame m #[(.ref x0), (.int x1), (.ref x2), (.int x1), (.int x4)] 7 = mkF m 0 #[.val (.ref x0), .val (.int x1), .val (.ref x2), .val (.int x1), .val (.int x4), .unset, .unset] [] := by first | (simp [entryFrame, mkF, argsToLocals, Value.category]; done) | rfl
theorem ef_rm18_2 (m : MethodId) (x0 : Addr) (x1 : Int32) (x2 : Int32) : entryFrame m #[(.ref x0), (.int x1), (.int x2)] 6 = mkF m 0 #[.val (.ref x0), .val (.int x1), .val (.int x2), .unset, .unset, .unset] [] := by first | (simp [entryFrame, mkF, argsToLocals, Value.category]; done) | rfl
theorem ef_rm20_2 (m : MethodId) (x0 : Addr) (x1 : Int32) : entryFrame m #[(.ref x0), (.int x1)] 2 = mkF m 0 #[.val (.ref x0), .val (.int x1)] [] := by first | (simp [entryFrame, mkF, argsToLocals, Value.category]; done) | rfl
theorem ef_rm3_3 (m : MethodId) (x0 : Addr) (x1 : Addr) (x2 : Int32) (x3 : Int32) : entryFrame m #[(.ref x0), (.ref x1), (.int x2), (.int x3), .null] 6 = mkF m 0 #[.val (.ref x0), .val (.ref x1), .val (.int x2), .val (.int x3), .val .null, .unset] [] := by first | (simp [entryFrame, mkF, argsToLocals, Value.category]; done) | rfl
theorem ef_rm2_3 (m : MethodId) (x0 : Addr) (x1 : Addr) : entryFrame m #[(.ref x0), (.ref x1)] 2 = mkF m 0 #[.val (.ref x0), .val (.ref x1)] [] := by first | (simp [entryFrame, mkF, argsToLocals, Value.category]; done) | rfl
theorem d1_104 : decode method_4_code 104 = .ok (.areturn, 1) := by decide +kernel
theorem ef_rm1_3 (m : MethodId) (x0 : Int32) (x1 : Int32) (x2 : Int32) (x3 : Int32) (x4 : Int32) (x5 : Int32) (x6 : Int32) : entryFrame m #[(.int x0), (.int x1), (.int x2), (.int x3), (.int x4), (.int x5), (.int x6)] 7 = mkF m 0 #[.val (.int x0), .val (.int x1), .val (.int x2), .val (.int x3), .val (.int x4), .val (.int x5), .val (.int x6)] [] := by first | (simp [entryFrame, mkF, argsToLocals, Value.category]; done) | rfl
theorem d8_27 : decode method_5_code 27 = .ok (.iload_n 3, 1) := by decide +kernel
theorem sg8_27_1 : decs method_5_code [(27, .iload_n 3, 1)] := ⟨d8_27, trivial⟩
theorem d8_28 : decode method_5_code 28 = .ok (.ifCond .eq 5, 3) := by decide +kernel
theorem d8_33 : decode method_5_code 33 = .ok (.iload_n 0, 1) := by decide +kernel
theorem d8_34 : decode method_5_code 34 = .ok (.iconst 4, 1) := by decide +kernel
theorem sg8_33_2 : decs method_5_code [(33, .iload_n 0, 1), (34, .iconst 4, 1)] := ⟨d8_33, d8_34, trivial⟩
theorem d8_35 : decode method_5_code 35 = .ok (.if_icmp .lt 8, 3) := by decide +kernel
theorem d8_43 : decode method_5_code 43 = .ok (.iconst 3, 1) := by decide +kernel
theorem sg8_43_1 : decs method_5_code [(43, .iconst 3, 1)] := ⟨d8_43, trivial⟩
theorem d8_44 : decode method_5_code 44 = .ok (.ireturn, 1) := by decide +kernel
def f_rm8_3 (i1 i2 i3 : Int32) : Int32 := (if i1 = (0 : Int32) then (if i2 = (0 : Int32) then (if i3 = (0 : Int32) then (3 : Int32) else (2 : Int32)) else (1 : Int32)) else (0 : Int32))
theorem ef_rm8_3 (m : MethodId) (x0 : Int32) (x1 : Int32) (x2 : Int32) (x3 : Int32) (x4 : Int32) (x5 : Int32) (x6 : Int32) : entryFrame m #[(.int x0), (.int x1), (.int x2), (.int x3), (.int x4), (.int x5), (.int x6)] 7 = mkF m 0 #[.val (.int x0), .val (.int x1), .val (.int x2), .val (.int x3), .val (.int x4), .val (.int x5), .val (.int x6)] [] := by first | (simp [entryFrame, mkF, argsToLocals, Value.category]; done) | rfl
theorem d9_32 : decode method_6_code 32 = .ok (.lload 7, 2) := by decide +kernel
theorem sg9_32_1 : decs method_6_code [(32, .lload 7, 2)] := ⟨d9_32, trivial⟩
theorem d9_34 : decode method_6_code 34 = .ok (.ldc2_w 51, 3) := by decide +kernel
theorem d9_37 : decode method_6_code 37 = .ok (.lmul, 1) := by decide +kernel
theorem d9_38 : decode method_6_code 38 = .ok (.iload_n 3, 1) := by decide +kernel
theorem d9_39 : decode method_6_code 39 = .ok (.i2l, 1) := by decide +kernel
theorem d9_40 : decode method_6_code 40 = .ok (.ladd, 1) := by decide +kernel
theorem d9_41 : decode method_6_code 41 = .ok (.lstore 7, 2) := by decide +kernel
theorem sg9_37_7 : decs method_6_code [(37, .lmul, 1), (38, .iload_n 3, 1), (39, .i2l, 1), (40, .ladd, 1), (41, .lstore 7, 2), (43, .iload_n 0, 1), (44, .iconst 3, 1)] := ⟨d9_37, d9_38, d9_39, d9_40, d9_41, d9_43, d9_44, trivial⟩
theorem ef_rm9_3 (m : MethodId) (x0 : Int32) (x1 : Int32) (x2 : Int32) (x3 : Int32) (x4 : Int32) (x5 : Int32) (x6 : Int32) : entryFrame m #[(.int x0), (.int x1), (.int x2), (.int x3), (.int x4), (.int x5), (.int x6)] 9 = mkF m 0 #[.val (.int x0), .val (.int x1), .val (.int x2), .val (.int x3), .val (.int x4), .val (.int x5), .val (.int x6), .unset, .unset] [] := by first | (simp [entryFrame, mkF, argsToLocals, Value.category]; done) | rfl
theorem d1_105 : decode method_4_code 105 = .ok (.iload_n 0, 1) := by decide +kernel
theorem d1_106 : decode method_4_code 106 = .ok (.iconst 4, 1) := by decide +kernel
theorem sg1_105_2 : decs method_4_code [(105, .iload_n 0, 1), (106, .iconst 4, 1)] := ⟨d1_105, d1_106, trivial⟩
theorem d1_107 : decode method_4_code 107 = .ok (.if_icmp .ne 43, 3) := by decide +kernel
theorem d1_110 : decode method_4_code 110 = .ok (.new 40, 3) := by decide +kernel
theorem d1_113 : decode method_4_code 113 = .ok (.dup, 1) := by decide +kernel
theorem d1_114 : decode method_4_code 114 = .ok (.iconst 4, 1) := by decide +kernel
theorem sg1_113_2 : decs method_4_code [(113, .dup, 1), (114, .iconst 4, 1)] := ⟨d1_113, d1_114, trivial⟩
theorem d1_115 : decode method_4_code 115 = .ok (.newarray .char, 2) := by decide +kernel
theorem d1_117 : decode method_4_code 117 = .ok (.dup, 1) := by decide +kernel
theorem d1_118 : decode method_4_code 118 = .ok (.iconst 0, 1) := by decide +kernel
theorem d1_119 : decode method_4_code 119 = .ok (.iload_n 1, 1) := by decide +kernel
theorem sg1_117_3 : decs method_4_code [(117, .dup, 1), (118, .iconst 0, 1), (119, .iload_n 1, 1)] := ⟨d1_117, d1_118, d1_119, trivial⟩
theorem d1_120 : decode method_4_code 120 = .ok (.invokestatic 48, 3) := by decide +kernel
theorem d1_123 : decode method_4_code 123 = .ok (.castore, 1) := by decide +kernel
theorem d1_124 : decode method_4_code 124 = .ok (.dup, 1) := by decide +kernel
theorem d1_125 : decode method_4_code 125 = .ok (.iconst 1, 1) := by decide +kernel
theorem d1_126 : decode method_4_code 126 = .ok (.iload_n 2, 1) := by decide +kernel
theorem sg1_124_3 : decs method_4_code [(124, .dup, 1), (125, .iconst 1, 1), (126, .iload_n 2, 1)] := ⟨d1_124, d1_125, d1_126, trivial⟩
theorem d1_127 : decode method_4_code 127 = .ok (.invokestatic 48, 3) := by decide +kernel
theorem d1_130 : decode method_4_code 130 = .ok (.castore, 1) := by decide +kernel
theorem d1_131 : decode method_4_code 131 = .ok (.dup, 1) := by decide +kernel
theorem d1_132 : decode method_4_code 132 = .ok (.iconst 2, 1) := by decide +kernel
theorem d1_133 : decode method_4_code 133 = .ok (.iload_n 3, 1) := by decide +kernel
theorem sg1_131_3 : decs method_4_code [(131, .dup, 1), (132, .iconst 2, 1), (133, .iload_n 3, 1)] := ⟨d1_131, d1_132, d1_133, trivial⟩
theorem d1_134 : decode method_4_code 134 = .ok (.invokestatic 48, 3) := by decide +kernel
theorem d1_137 : decode method_4_code 137 = .ok (.castore, 1) := by decide +kernel
theorem d1_138 : decode method_4_code 138 = .ok (.dup, 1) := by decide +kernel
theorem d1_139 : decode method_4_code 139 = .ok (.iconst 3, 1) := by decide +kernel
theorem d1_140 : decode method_4_code 140 = .ok (.iload 4, 2) := by decide +kernel
theorem sg1_138_3 : decs method_4_code [(138, .dup, 1), (139, .iconst 3, 1), (140, .iload 4, 2)] := ⟨d1_138, d1_139, d1_140, trivial⟩
theorem d1_142 : decode method_4_code 142 = .ok (.invokestatic 48, 3) := by decide +kernel
theorem d1_145 : decode method_4_code 145 = .ok (.castore, 1) := by decide +kernel
theorem d1_146 : decode method_4_code 146 = .ok (.invokespecial 45, 3) := by decide +kernel
theorem ef_rm19_3 (m : MethodId) (x0 : Addr) (x1 : Int32) (x2 : Addr) (x4 : Int32) : entryFrame m #[(.ref x0), (.int x1), (.ref x2), (.int x1), (.int x4)] 7 = mkF m 0 #[.val (.ref x0), .val (.int x1), .val (.ref x2), .val (.int x1), .val (.int x4), .unset, .unset] [] := by first | (simp [entryFrame, mkF, argsToLocals, Value.category]; done) | rfl
theorem ef_rm18_3 (m : MethodId) (x0 : Addr) (x1 : Int32) (x2 : Int32) : entryFrame m #[(.ref x0), (.int x1), (.int x2)] 6 = mkF m 0 #[.val (.ref x0), .val (.int x1), .val (.int x2), .unset, .unset, .unset] [] := by first | (simp [entryFrame, mkF, argsToLocals, Value.category]; done) | rfl
theorem ef_rm20_3 (m : MethodId) (x0 : Addr) (x1 : Int32) : entryFrame m #[(.ref x0), (.int x1)] 2 = mkF m 0 #[.val (.ref x0), .val (.int x1)] [] := by first | (simp [entryFrame, mkF, argsToLocals, Value.category]; done) | rfl
theorem ef_rm3_4 (m : MethodId) (x0 : Addr) (x1 : Addr) (x2 : Int32) (x3 : Int32) : entryFrame m #[(.ref x0), (.ref x1), (.int x2), (.int x3), .null] 6 = mkF m 0 #[.val (.ref x0), .val (.ref x1), .val (.int x2), .val (.int x3), .val .null, .unset] [] := by first | (simp [entryFrame, mkF, argsToLocals, Value.category]; done) | rfl
theorem ef_rm2_4 (m : MethodId) (x0 : Addr) (x1 : Addr) : entryFrame m #[(.ref x0), (.ref x1)] 2 = mkF m 0 #[.val (.ref x0), .val (.ref x1)] [] := by first | (simp [entryFrame, mkF, argsToLocals, Value.category]; done) | rfl
theorem d1_149 : decode method_4_code 149 = .ok (.areturn, 1) := by decide +kernel
theorem ef_rm1_4 (m : MethodId) (x0 : Int32) (x1 : Int32) (x2 : Int32) (x3 : Int32) (x4 : Int32) (x5 : Int32) (x6 : Int32) : entryFrame m #[(.int x0), (.int x1), (.int x2), (.int x3), (.int x4), (.int x5), (.int x6)] 7 = mkF m 0 #[.val (.int x0), .val (.int x1), .val (.int x2), .val (.int x3), .val (.int x4), .val (.int x5), .val (.int x6)] [] := by first | (simp [entryFrame, mkF, argsToLocals, Value.category]; done) | rfl
theorem d8_38 : decode method_5_code 38 = .ok (.iload 4, 2) := by decide +kernel
theorem sg8_38_1 : decs method_5_code [(38, .iload 4, 2)] := ⟨d8_38, trivial⟩
theorem d8_40 : decode method_5_code 40 = .ok (.ifCond .eq 5, 3) := by decide +kernel
theorem d8_45 : decode method_5_code 45 = .ok (.iload_n 0, 1) := by decide +kernel
theorem d8_46 : decode method_5_code 46 = .ok (.iconst 5, 1) := by decide +kernel
theorem sg8_45_2 : decs method_5_code [(45, .iload_n 0, 1), (46, .iconst 5, 1)] := ⟨d8_45, d8_46, trivial⟩
theorem d8_47 : decode method_5_code 47 = .ok (.if_icmp .lt 8, 3) := by decide +kernel
theorem d8_55 : decode method_5_code 55 = .ok (.iconst 4, 1) := by decide +kernel
theorem sg8_55_1 : decs method_5_code [(55, .iconst 4, 1)] := ⟨d8_55, trivial⟩
theorem d8_56 : decode method_5_code 56 = .ok (.ireturn, 1) := by decide +kernel
def f_rm8_4 (i1 i2 i3 i4 : Int32) : Int32 := (if i1 = (0 : Int32) then (if i2 = (0 : Int32) then (if i3 = (0 : Int32) then (if i4 = (0 : Int32) then (4 : Int32) else (3 : Int32)) else (2 : Int32)) else (1 : Int32)) else (0 : Int32))
theorem ef_rm8_4 (m : MethodId) (x0 : Int32) (x1 : Int32) (x2 : Int32) (x3 : Int32) (x4 : Int32) (x5 : Int32) (x6 : Int32) : entryFrame m #[(.int x0), (.int x1), (.int x2), (.int x3), (.int x4), (.int x5), (.int x6)] 7 = mkF m 0 #[.val (.int x0), .val (.int x1), .val (.int x2), .val (.int x3), .val (.int x4), .val (.int x5), .val (.int x6)] [] := by first | (simp [entryFrame, mkF, argsToLocals, Value.category]; done) | rfl
theorem d9_48 : decode method_6_code 48 = .ok (.lload 7, 2) := by decide +kernel
theorem sg9_48_1 : decs method_6_code [(48, .lload 7, 2)] := ⟨d9_48, trivial⟩
theorem d9_50 : decode method_6_code 50 = .ok (.ldc2_w 51, 3) := by decide +kernel
theorem d9_53 : decode method_6_code 53 = .ok (.lmul, 1) := by decide +kernel
theorem d9_54 : decode method_6_code 54 = .ok (.iload 4, 2) := by decide +kernel
theorem d9_56 : decode method_6_code 56 = .ok (.i2l, 1) := by decide +kernel
theorem d9_57 : decode method_6_code 57 = .ok (.ladd, 1) := by decide +kernel
theorem d9_58 : decode method_6_code 58 = .ok (.lstore 7, 2) := by decide +kernel
theorem sg9_53_7 : decs method_6_code [(53, .lmul, 1), (54, .iload 4, 2), (56, .i2l, 1), (57, .ladd, 1), (58, .lstore 7, 2), (60, .iload_n 0, 1), (61, .iconst 4, 1)] := ⟨d9_53, d9_54, d9_56, d9_57, d9_58, d9_60, d9_61, trivial⟩
theorem ef_rm9_4 (m : MethodId) (x0 : Int32) (x1 : Int32) (x2 : Int32) (x3 : Int32) (x4 : Int32) (x5 : Int32) (x6 : Int32) : entryFrame m #[(.int x0), (.int x1), (.int x2), (.int x3), (.int x4), (.int x5), (.int x6)] 9 = mkF m 0 #[.val (.int x0), .val (.int x1), .val (.int x2), .val (.int x3), .val (.int x4), .val (.int x5), .val (.int x6), .unset, .unset] [] := by first | (simp [entryFrame, mkF, argsToLocals, Value.category]; done) | rfl
theorem d1_150 : decode method_4_code 150 = .ok (.iload_n 0, 1) := by decide +kernel
theorem d1_151 : decode method_4_code 151 = .ok (.iconst 5, 1) := by decide +kernel
theorem sg1_150_2 : decs method_4_code [(150, .iload_n 0, 1), (151, .iconst 5, 1)] := ⟨d1_150, d1_151, trivial⟩
theorem d1_152 : decode method_4_code 152 = .ok (.if_icmp .ne 51, 3) := by decide +kernel
theorem d1_155 : decode method_4_code 155 = .ok (.new 40, 3) := by decide +kernel
theorem d1_158 : decode method_4_code 158 = .ok (.dup, 1) := by decide +kernel
theorem d1_159 : decode method_4_code 159 = .ok (.iconst 5, 1) := by decide +kernel
theorem sg1_158_2 : decs method_4_code [(158, .dup, 1), (159, .iconst 5, 1)] := ⟨d1_158, d1_159, trivial⟩
theorem d1_160 : decode method_4_code 160 = .ok (.newarray .char, 2) := by decide +kernel
theorem d1_162 : decode method_4_code 162 = .ok (.dup, 1) := by decide +kernel
theorem d1_163 : decode method_4_code 163 = .ok (.iconst 0, 1) := by decide +kernel
theorem d1_164 : decode method_4_code 164 = .ok (.iload_n 1, 1) := by decide +kernel
theorem sg1_162_3 : decs method_4_code [(162, .dup, 1), (163, .iconst 0, 1), (164, .iload_n 1, 1)] := ⟨d1_162, d1_163, d1_164, trivial⟩
theorem d1_165 : decode method_4_code 165 = .ok (.invokestatic 48, 3) := by decide +kernel
theorem d1_168 : decode method_4_code 168 = .ok (.castore, 1) := by decide +kernel
theorem d1_169 : decode method_4_code 169 = .ok (.dup, 1) := by decide +kernel
theorem d1_170 : decode method_4_code 170 = .ok (.iconst 1, 1) := by decide +kernel
theorem d1_171 : decode method_4_code 171 = .ok (.iload_n 2, 1) := by decide +kernel
theorem sg1_169_3 : decs method_4_code [(169, .dup, 1), (170, .iconst 1, 1), (171, .iload_n 2, 1)] := ⟨d1_169, d1_170, d1_171, trivial⟩
theorem d1_172 : decode method_4_code 172 = .ok (.invokestatic 48, 3) := by decide +kernel
theorem d1_175 : decode method_4_code 175 = .ok (.castore, 1) := by decide +kernel
theorem d1_176 : decode method_4_code 176 = .ok (.dup, 1) := by decide +kernel
theorem d1_177 : decode method_4_code 177 = .ok (.iconst 2, 1) := by decide +kernel
theorem d1_178 : decode method_4_code 178 = .ok (.iload_n 3, 1) := by decide +kernel
theorem sg1_176_3 : decs method_4_code [(176, .dup, 1), (177, .iconst 2, 1), (178, .iload_n 3, 1)] := ⟨d1_176, d1_177, d1_178, trivial⟩
theorem d1_179 : decode method_4_code 179 = .ok (.invokestatic 48, 3) := by decide +kernel
theorem d1_182 : decode method_4_code 182 = .ok (.castore, 1) := by decide +kernel
theorem d1_183 : decode method_4_code 183 = .ok (.dup, 1) := by decide +kernel
theorem d1_184 : decode method_4_code 184 = .ok (.iconst 3, 1) := by decide +kernel
theorem d1_185 : decode method_4_code 185 = .ok (.iload 4, 2) := by decide +kernel
theorem sg1_183_3 : decs method_4_code [(183, .dup, 1), (184, .iconst 3, 1), (185, .iload 4, 2)] := ⟨d1_183, d1_184, d1_185, trivial⟩
theorem d1_187 : decode method_4_code 187 = .ok (.invokestatic 48, 3) := by decide +kernel
theorem d1_190 : decode method_4_code 190 = .ok (.castore, 1) := by decide +kernel
theorem d1_191 : decode method_4_code 191 = .ok (.dup, 1) := by decide +kernel
theorem d1_192 : decode method_4_code 192 = .ok (.iconst 4, 1) := by decide +kernel
theorem d1_193 : decode method_4_code 193 = .ok (.iload 5, 2) := by decide +kernel
theorem sg1_191_3 : decs method_4_code [(191, .dup, 1), (192, .iconst 4, 1), (193, .iload 5, 2)] := ⟨d1_191, d1_192, d1_193, trivial⟩
theorem d1_195 : decode method_4_code 195 = .ok (.invokestatic 48, 3) := by decide +kernel
theorem d1_198 : decode method_4_code 198 = .ok (.castore, 1) := by decide +kernel
theorem d1_199 : decode method_4_code 199 = .ok (.invokespecial 45, 3) := by decide +kernel
theorem ef_rm19_4 (m : MethodId) (x0 : Addr) (x1 : Int32) (x2 : Addr) (x4 : Int32) : entryFrame m #[(.ref x0), (.int x1), (.ref x2), (.int x1), (.int x4)] 7 = mkF m 0 #[.val (.ref x0), .val (.int x1), .val (.ref x2), .val (.int x1), .val (.int x4), .unset, .unset] [] := by first | (simp [entryFrame, mkF, argsToLocals, Value.category]; done) | rfl
theorem ef_rm18_4 (m : MethodId) (x0 : Addr) (x1 : Int32) (x2 : Int32) : entryFrame m #[(.ref x0), (.int x1), (.int x2)] 6 = mkF m 0 #[.val (.ref x0), .val (.int x1), .val (.int x2), .unset, .unset, .unset] [] := by first | (simp [entryFrame, mkF, argsToLocals, Value.category]; done) | rfl
theorem ef_rm20_4 (m : MethodId) (x0 : Addr) (x1 : Int32) : entryFrame m #[(.ref x0), (.int x1)] 2 = mkF m 0 #[.val (.ref x0), .val (.int x1)] [] := by first | (simp [entryFrame, mkF, argsToLocals, Value.category]; done) | rfl
theorem ef_rm3_5 (m : MethodId) (x0 : Addr) (x1 : Addr) (x2 : Int32) (x3 : Int32) : entryFrame m #[(.ref x0), (.ref x1), (.int x2), (.int x3), .null] 6 = mkF m 0 #[.val (.ref x0), .val (.ref x1), .val (.int x2), .val (.int x3), .val .null, .unset] [] := by first | (simp [entryFrame, mkF, argsToLocals, Value.category]; done) | rfl
theorem ef_rm2_5 (m : MethodId) (x0 : Addr) (x1 : Addr) : entryFrame m #[(.ref x0), (.ref x1)] 2 = mkF m 0 #[.val (.ref x0), .val (.ref x1)] [] := by first | (simp [entryFrame, mkF, argsToLocals, Value.category]; done) | rfl
theorem d1_202 : decode method_4_code 202 = .ok (.areturn, 1) := by decide +kernel
theorem ef_rm1_5 (m : MethodId) (x0 : Int32) (x1 : Int32) (x2 : Int32) (x3 : Int32) (x4 : Int32) (x5 : Int32) (x6 : Int32) : entryFrame m #[(.int x0), (.int x1), (.int x2), (.int x3), (.int x4), (.int x5), (.int x6)] 7 = mkF m 0 #[.val (.int x0), .val (.int x1), .val (.int x2), .val (.int x3), .val (.int x4), .val (.int x5), .val (.int x6)] [] := by first | (simp [entryFrame, mkF, argsToLocals, Value.category]; done) | rfl
theorem d8_50 : decode method_5_code 50 = .ok (.iload 5, 2) := by decide +kernel
theorem sg8_50_1 : decs method_5_code [(50, .iload 5, 2)] := ⟨d8_50, trivial⟩
theorem d8_52 : decode method_5_code 52 = .ok (.ifCond .eq 5, 3) := by decide +kernel
theorem d8_57 : decode method_5_code 57 = .ok (.iload_n 0, 1) := by decide +kernel
theorem d8_58 : decode method_5_code 58 = .ok (.bipush 6, 2) := by decide +kernel
theorem sg8_57_2 : decs method_5_code [(57, .iload_n 0, 1), (58, .bipush 6, 2)] := ⟨d8_57, d8_58, trivial⟩
theorem d8_60 : decode method_5_code 60 = .ok (.if_icmp .lt 8, 3) := by decide +kernel
theorem d8_68 : decode method_5_code 68 = .ok (.iconst 5, 1) := by decide +kernel
theorem sg8_68_1 : decs method_5_code [(68, .iconst 5, 1)] := ⟨d8_68, trivial⟩
theorem d8_69 : decode method_5_code 69 = .ok (.ireturn, 1) := by decide +kernel
def f_rm8_5 (i1 i2 i3 i4 i5 : Int32) : Int32 := (if i1 = (0 : Int32) then (if i2 = (0 : Int32) then (if i3 = (0 : Int32) then (if i4 = (0 : Int32) then (if i5 = (0 : Int32) then (5 : Int32) else (4 : Int32)) else (3 : Int32)) else (2 : Int32)) else (1 : Int32)) else (0 : Int32))
theorem ef_rm8_5 (m : MethodId) (x0 : Int32) (x1 : Int32) (x2 : Int32) (x3 : Int32) (x4 : Int32) (x5 : Int32) (x6 : Int32) : entryFrame m #[(.int x0), (.int x1), (.int x2), (.int x3), (.int x4), (.int x5), (.int x6)] 7 = mkF m 0 #[.val (.int x0), .val (.int x1), .val (.int x2), .val (.int x3), .val (.int x4), .val (.int x5), .val (.int x6)] [] := by first | (simp [entryFrame, mkF, argsToLocals, Value.category]; done) | rfl
theorem d9_65 : decode method_6_code 65 = .ok (.lload 7, 2) := by decide +kernel
theorem sg9_65_1 : decs method_6_code [(65, .lload 7, 2)] := ⟨d9_65, trivial⟩
theorem d9_67 : decode method_6_code 67 = .ok (.ldc2_w 51, 3) := by decide +kernel
theorem d9_70 : decode method_6_code 70 = .ok (.lmul, 1) := by decide +kernel
theorem d9_71 : decode method_6_code 71 = .ok (.iload 5, 2) := by decide +kernel
theorem d9_73 : decode method_6_code 73 = .ok (.i2l, 1) := by decide +kernel
theorem d9_74 : decode method_6_code 74 = .ok (.ladd, 1) := by decide +kernel
theorem d9_75 : decode method_6_code 75 = .ok (.lstore 7, 2) := by decide +kernel
theorem sg9_70_7 : decs method_6_code [(70, .lmul, 1), (71, .iload 5, 2), (73, .i2l, 1), (74, .ladd, 1), (75, .lstore 7, 2), (77, .iload_n 0, 1), (78, .iconst 5, 1)] := ⟨d9_70, d9_71, d9_73, d9_74, d9_75, d9_77, d9_78, trivial⟩
theorem ef_rm9_5 (m : MethodId) (x0 : Int32) (x1 : Int32) (x2 : Int32) (x3 : Int32) (x4 : Int32) (x5 : Int32) (x6 : Int32) : entryFrame m #[(.int x0), (.int x1), (.int x2), (.int x3), (.int x4), (.int x5), (.int x6)] 9 = mkF m 0 #[.val (.int x0), .val (.int x1), .val (.int x2), .val (.int x3), .val (.int x4), .val (.int x5), .val (.int x6), .unset, .unset] [] := by first | (simp [entryFrame, mkF, argsToLocals, Value.category]; done) | rfl
theorem d1_203 : decode method_4_code 203 = .ok (.new 40, 3) := by decide +kernel
theorem d1_206 : decode method_4_code 206 = .ok (.dup, 1) := by decide +kernel
theorem d1_207 : decode method_4_code 207 = .ok (.bipush 6, 2) := by decide +kernel
theorem sg1_206_2 : decs method_4_code [(206, .dup, 1), (207, .bipush 6, 2)] := ⟨d1_206, d1_207, trivial⟩
theorem d1_209 : decode method_4_code 209 = .ok (.newarray .char, 2) := by decide +kernel
theorem d1_211 : decode method_4_code 211 = .ok (.dup, 1) := by decide +kernel
theorem d1_212 : decode method_4_code 212 = .ok (.iconst 0, 1) := by decide +kernel
theorem d1_213 : decode method_4_code 213 = .ok (.iload_n 1, 1) := by decide +kernel
theorem sg1_211_3 : decs method_4_code [(211, .dup, 1), (212, .iconst 0, 1), (213, .iload_n 1, 1)] := ⟨d1_211, d1_212, d1_213, trivial⟩
theorem d1_214 : decode method_4_code 214 = .ok (.invokestatic 48, 3) := by decide +kernel
theorem d1_217 : decode method_4_code 217 = .ok (.castore, 1) := by decide +kernel
theorem d1_218 : decode method_4_code 218 = .ok (.dup, 1) := by decide +kernel
theorem d1_219 : decode method_4_code 219 = .ok (.iconst 1, 1) := by decide +kernel
theorem d1_220 : decode method_4_code 220 = .ok (.iload_n 2, 1) := by decide +kernel
theorem sg1_218_3 : decs method_4_code [(218, .dup, 1), (219, .iconst 1, 1), (220, .iload_n 2, 1)] := ⟨d1_218, d1_219, d1_220, trivial⟩
theorem d1_221 : decode method_4_code 221 = .ok (.invokestatic 48, 3) := by decide +kernel
theorem d1_224 : decode method_4_code 224 = .ok (.castore, 1) := by decide +kernel
theorem d1_225 : decode method_4_code 225 = .ok (.dup, 1) := by decide +kernel
theorem d1_226 : decode method_4_code 226 = .ok (.iconst 2, 1) := by decide +kernel
theorem d1_227 : decode method_4_code 227 = .ok (.iload_n 3, 1) := by decide +kernel
theorem sg1_225_3 : decs method_4_code [(225, .dup, 1), (226, .iconst 2, 1), (227, .iload_n 3, 1)] := ⟨d1_225, d1_226, d1_227, trivial⟩
theorem d1_228 : decode method_4_code 228 = .ok (.invokestatic 48, 3) := by decide +kernel
theorem d1_231 : decode method_4_code 231 = .ok (.castore, 1) := by decide +kernel
theorem d1_232 : decode method_4_code 232 = .ok (.dup, 1) := by decide +kernel
theorem d1_233 : decode method_4_code 233 = .ok (.iconst 3, 1) := by decide +kernel
theorem d1_234 : decode method_4_code 234 = .ok (.iload 4, 2) := by decide +kernel
theorem sg1_232_3 : decs method_4_code [(232, .dup, 1), (233, .iconst 3, 1), (234, .iload 4, 2)] := ⟨d1_232, d1_233, d1_234, trivial⟩
theorem d1_236 : decode method_4_code 236 = .ok (.invokestatic 48, 3) := by decide +kernel
theorem d1_239 : decode method_4_code 239 = .ok (.castore, 1) := by decide +kernel
theorem d1_240 : decode method_4_code 240 = .ok (.dup, 1) := by decide +kernel
theorem d1_241 : decode method_4_code 241 = .ok (.iconst 4, 1) := by decide +kernel
theorem d1_242 : decode method_4_code 242 = .ok (.iload 5, 2) := by decide +kernel
theorem sg1_240_3 : decs method_4_code [(240, .dup, 1), (241, .iconst 4, 1), (242, .iload 5, 2)] := ⟨d1_240, d1_241, d1_242, trivial⟩
theorem d1_244 : decode method_4_code 244 = .ok (.invokestatic 48, 3) := by decide +kernel
theorem d1_247 : decode method_4_code 247 = .ok (.castore, 1) := by decide +kernel
theorem d1_248 : decode method_4_code 248 = .ok (.dup, 1) := by decide +kernel
theorem d1_249 : decode method_4_code 249 = .ok (.iconst 5, 1) := by decide +kernel
theorem d1_250 : decode method_4_code 250 = .ok (.iload 6, 2) := by decide +kernel
theorem sg1_248_3 : decs method_4_code [(248, .dup, 1), (249, .iconst 5, 1), (250, .iload 6, 2)] := ⟨d1_248, d1_249, d1_250, trivial⟩
theorem d1_252 : decode method_4_code 252 = .ok (.invokestatic 48, 3) := by decide +kernel
theorem d1_255 : decode method_4_code 255 = .ok (.castore, 1) := by decide +kernel
theorem d1_256 : decode method_4_code 256 = .ok (.invokespecial 45, 3) := by decide +kernel
theorem ef_rm19_5 (m : MethodId) (x0 : Addr) (x1 : Int32) (x2 : Addr) (x4 : Int32) : entryFrame m #[(.ref x0), (.int x1), (.ref x2), (.int x1), (.int x4)] 7 = mkF m 0 #[.val (.ref x0), .val (.int x1), .val (.ref x2), .val (.int x1), .val (.int x4), .unset, .unset] [] := by first | (simp [entryFrame, mkF, argsToLocals, Value.category]; done) | rfl
theorem ef_rm18_5 (m : MethodId) (x0 : Addr) (x1 : Int32) (x2 : Int32) : entryFrame m #[(.ref x0), (.int x1), (.int x2)] 6 = mkF m 0 #[.val (.ref x0), .val (.int x1), .val (.int x2), .unset, .unset, .unset] [] := by first | (simp [entryFrame, mkF, argsToLocals, Value.category]; done) | rfl
theorem ef_rm20_5 (m : MethodId) (x0 : Addr) (x1 : Int32) : entryFrame m #[(.ref x0), (.int x1)] 2 = mkF m 0 #[.val (.ref x0), .val (.int x1)] [] := by first | (simp [entryFrame, mkF, argsToLocals, Value.category]; done) | rfl
theorem ef_rm3_6 (m : MethodId) (x0 : Addr) (x1 : Addr) (x2 : Int32) (x3 : Int32) : entryFrame m #[(.ref x0), (.ref x1), (.int x2), (.int x3), .null] 6 = mkF m 0 #[.val (.ref x0), .val (.ref x1), .val (.int x2), .val (.int x3), .val .null, .unset] [] := by first | (simp [entryFrame, mkF, argsToLocals, Value.category]; done) | rfl
theorem ef_rm2_6 (m : MethodId) (x0 : Addr) (x1 : Addr) : entryFrame m #[(.ref x0), (.ref x1)] 2 = mkF m 0 #[.val (.ref x0), .val (.ref x1)] [] := by first | (simp [entryFrame, mkF, argsToLocals, Value.category]; done) | rfl
theorem d1_259 : decode method_4_code 259 = .ok (.areturn, 1) := by decide +kernel
theorem ef_rm1_6 (m : MethodId) (x0 : Int32) (x1 : Int32) (x2 : Int32) (x3 : Int32) (x4 : Int32) (x5 : Int32) (x6 : Int32) : entryFrame m #[(.int x0), (.int x1), (.int x2), (.int x3), (.int x4), (.int x5), (.int x6)] 7 = mkF m 0 #[.val (.int x0), .val (.int x1), .val (.int x2), .val (.int x3), .val (.int x4), .val (.int x5), .val (.int x6)] [] := by first | (simp [entryFrame, mkF, argsToLocals, Value.category]; done) | rfl
theorem d8_63 : decode method_5_code 63 = .ok (.iload 6, 2) := by decide +kernel
theorem sg8_63_1 : decs method_5_code [(63, .iload 6, 2)] := ⟨d8_63, trivial⟩
theorem d8_65 : decode method_5_code 65 = .ok (.ifCond .eq 5, 3) := by decide +kernel
theorem d8_70 : decode method_5_code 70 = .ok (.bipush 6, 2) := by decide +kernel
theorem sg8_70_1 : decs method_5_code [(70, .bipush 6, 2)] := ⟨d8_70, trivial⟩
theorem d8_72 : decode method_5_code 72 = .ok (.ireturn, 1) := by decide +kernel
def f_rm8_6 (i1 i2 i3 i4 i5 i6 : Int32) : Int32 := (if i1 = (0 : Int32) then (if i2 = (0 : Int32) then (if i3 = (0 : Int32) then (if i4 = (0 : Int32) then (if i5 = (0 : Int32) then (if i6 = (0 : Int32) then (6 : Int32) else (5 : Int32)) else (4 : Int32)) else (3 : Int32)) else (2 : Int32)) else (1 : Int32)) else (0 : Int32))
theorem ef_rm8_6 (m : MethodId) (x0 : Int32) (x1 : Int32) (x2 : Int32) (x3 : Int32) (x4 : Int32) (x5 : Int32) (x6 : Int32) : entryFrame m #[(.int x0), (.int x1), (.int x2), (.int x3), (.int x4), (.int x5), (.int x6)] 7 = mkF m 0 #[.val (.int x0), .val (.int x1), .val (.int x2), .val (.int x3), .val (.int x4), .val (.int x5), .val (.int x6)] [] := by first | (simp [entryFrame, mkF, argsToLocals, Value.category]; done) | rfl
theorem d9_82 : decode method_6_code 82 = .ok (.lload 7, 2) := by decide +kernel
theorem sg9_82_1 : decs method_6_code [(82, .lload 7, 2)] := ⟨d9_82, trivial⟩
theorem d9_84 : decode method_6_code 84 = .ok (.ldc2_w 51, 3) := by decide +kernel
theorem d9_87 : decode method_6_code 87 = .ok (.lmul, 1) := by decide +kernel
theorem d9_88 : decode method_6_code 88 = .ok (.iload 6, 2) := by decide +kernel
theorem d9_90 : decode method_6_code 90 = .ok (.i2l, 1) := by decide +kernel
theorem d9_91 : decode method_6_code 91 = .ok (.ladd, 1) := by decide +kernel
theorem d9_92 : decode method_6_code 92 = .ok (.lstore 7, 2) := by decide +kernel
theorem sg9_87_6 : decs method_6_code [(87, .lmul, 1), (88, .iload 6, 2), (90, .i2l, 1), (91, .ladd, 1), (92, .lstore 7, 2), (94, .lload 7, 2)] := ⟨d9_87, d9_88, d9_90, d9_91, d9_92, d9_94, trivial⟩
theorem ef_rm9_6 (m : MethodId) (x0 : Int32) (x1 : Int32) (x2 : Int32) (x3 : Int32) (x4 : Int32) (x5 : Int32) (x6 : Int32) : entryFrame m #[(.int x0), (.int x1), (.int x2), (.int x3), (.int x4), (.int x5), (.int x6)] 9 = mkF m 0 #[.val (.int x0), .val (.int x1), .val (.int x2), .val (.int x3), .val (.int x4), .val (.int x5), .val (.int x6), .unset, .unset] [] := by first | (simp [entryFrame, mkF, argsToLocals, Value.category]; done) | rfl
theorem ef_rm0 (m : MethodId) (x0 : Int32) (x1 : Int32) (x2 : Int32) (x3 : Int32) : entryFrame m #[(.int x0), (.int x1), (.int x2), (.int x3)] maxLocals = mkF m 0 #[.val (.int x0), .val (.int x1), .val (.int x2), .val (.int x3), .unset, .unset, .unset, .unset, .unset, .unset, .unset, .unset, .unset, .unset, .unset, .unset, .unset] [] := by first | (simp [entryFrame, mkF, argsToLocals, Value.category, maxLocals]; done) | rfl
abbrev own_EL : List (String × Nat) := [("com/example/tryst/tryst/encoding/Base58", 26), ("com/example/tryst/tryst/encoding/Base58DecodePinLaw", 37), ("java/lang/String", 7)]
theorem own_hEL {Z : State} {a0 : Array Value} (hw : HW a0 Z) : EW Z a0 own_EL := (EW.cons (own_w92 hw) (by decide) (EW.cons (own_w58 hw) (by decide) (EW.cons (own_w20 hw) (by decide) EW.nil)))
theorem own_wS0 : ∀ a ∈ Bundle.stringAtoms, a ∈ tables_1 := by decide +kernel
theorem own_wS {Z : State} {a0 : Array Value} (hw : HW a0 Z) : ∀ a ∈ Bundle.stringAtoms, a.before a0 Z = true := fun a ha => hw a (own_wS0 a ha)
theorem rm3_0 (l : Launch) (Z : State) (a0 : Array Value) (hw : HW a0 Z) (ws : List Jvm.Cond) (o0 o1 : Addr) (h0 : Heap) (n0 : Nat) (O0 : Old Z n0 h0) (E_o0 : Exa Z h0 o0 "java/lang/String") (F_value_o0 : Fld Z h0 o0 "java/lang/String" "value" "[B" .null) (g_o0 : n0 ≤ o0) (F_coder_o0 : Fld Z h0 o0 "java/lang/String" "coder" "B" (.int 0)) :
    ConW l Z own_EL ([o0] : List Addr) false (⟨"java/lang/String", "<init>", "([CIILjava/lang/Void;)V"⟩ : MethodName) jdk_42_method_149_code 6 none ws ({ frames := 1, cells := 2, slots := 4, locals := 12 } : Room) #[(.ref o0), (.ref o1), (.int 0), (.int 0), .null] h0 (fun v h L => ∃ (b2 : Jvm.Addr), ∃ (k2 : ClassId), v = none ∧ Fr n0 L ∧ Keep h0 h [o0] ∧ Exa Z h o0 "java/lang/String" ∧ Fld Z h o0 "java/lang/String" "value" "[B" (.ref b2) ∧ Fld Z h o0 "java/lang/String" "coder" "B" (.int 0) ∧ Arv Z h b2 k2 .byte (0 : Int32) [] (.int 0)) := by
 refine own_bodyW (plainFor_of_name own_pn0) (fun m => ef_rm3_0 m o0 o1 (0 : Int32)) ?_
 intro p e s m below meth c s₁ hx hby hlk hml hret hZ hown hnm X0 e0 Cd0
 have N0 := Fr.nil n0
 refine Home.run X0 hx hby sg3_0_1 (pc' := 1) (L' := #[sr o0, sr o1, si 0, si 0, .val .null, un]) (S' := [(.ref o0)]) rfl ?_
 refine Home.st (initO X0 hx hZ hown (own_w17 hw) (own_w18 hw) (own_w19 hw) e0 rfl (by rw [hml]; rfl) rfl (hb hby d3_1) (by decide) (W := 0) (by exact hW0) (by decide)) fun T1 X1 e1 => ?_
 refine Home.run X1 hx hby sg3_4_1 (pc' := 5) (L' := #[sr o0, sr o1, si 0, si 0, .val .null, un]) (S' := [(.int 0)]) rfl ?_
 refine Home.go (fun _ => XS.ifNo X1.here hx rfl (hb hby d3_5) rfl ((if0 _ _).trans (teq (by decide)).2)) ?_
 refine Home.run X1 hx hby sg3_8_1 (pc' := 9) (L' := #[sr o0, sr o1, si 0, si 0, .val .null, un]) (S' := [(.ref o0)]) rfl ?_
 obtain ⟨ad2, b2, k2, T2, h2, X2, e2, E2, hZ, hown, Cd2, Ea2, Fc2, Fv2, V2, la2, lb2, hne2, Li2, st2⟩ := own_ldcL X1 hx hZ hown (own_hEL hw) Cd0 (own_w20 hw) (own_wS hw) e1 (List.mem_of_getElem? (i := 2) rfl) (vs := []) (z := (0 : Int32)) ⟨by decide, by rfl⟩ (by decide) (by decide) (g := (mkF m 9 #[.val (.ref o0), .val (.ref o1), .val (.int 0), .val (.int 0), .val .null, .unset] [(.ref o0)])) rfl (hb hby d3_9) (n := 0) (by decide) (by decide) (by decide) (by decide)
 refine Home.go st2 ?_
 have O2 := O0.ext E2
 have K2 : Keep h0 h2 ([o0] : List Addr) := Keep.ext (Keep.refl h0 ([o0] : List Addr)) E2
 refine Home.st (getF X2 hx hZ hown (host := "") (Or.inl (own_w26 hw)) Via.refl e2 Fv2 rfl rfl (hb hby d3_11)) fun T3 X3 e3 => ?_
 have q4 := (F_value_o0.ext E2)
 refine Home.wr (putF X3 hx hZ hown (host := "") (Or.inl (own_w26 hw)) Via.refl e3 q4 (E_o0.keep K2) (Or.inr ⟨(own_w22 hw), rfl, hnm⟩) (own_w7 hw) (ty := (.array .byte)) (by decide) rfl rfl rfl rfl (hb hby d3_14)) fun T5 h5 X5 e5 W5 => ?_
 have Fw5 := q4.same W5
 have O5 := O2.wr W5 g_o0
 have K5 : Keep h0 h5 ([o0] : List Addr) := Keep.wr K2 W5 (Or.inl (List.mem_of_getElem? (i := 0) rfl))
 have Cd5 := Cold.wr Cd2 W5 (Cold.safe Cd2 (List.mem_of_getElem? (i := 0) rfl))
 have N5 := Fr.snoc X5 N0 g_o0
 show Home T5 (mkF m 17 #[sr o0, sr o1, si 0, si 0, .val .null, un] [])
 refine Home.run X5 hx hby sg3_17_1 (pc' := 18) (L' := #[sr o0, sr o1, si 0, si 0, .val .null, un]) (S' := [(.ref o0)]) rfl ?_
 refine Home.go (ldcAgain X5 hx hZ hown (own_w20 hw) Li2 (g := (mkF m 18 #[.val (.ref o0), .val (.ref o1), .val (.int 0), .val (.int 0), .val .null, .unset] [(.ref o0)])) rfl (hb hby d3_18)) ?_
 have ne6 : ad2 ≠ o0 := (Ne.symm (hne2 _ (List.mem_of_getElem? (i := 0) rfl)).1)
 have q7 := (Fc2.other W5 (Or.inl ne6))
 refine Home.st (getF X5 hx hZ hown (host := "") (Or.inl (own_w27 hw)) Via.refl e5 q7 rfl rfl (hb hby d3_20)) fun T8 X8 e8 => ?_
 have q9 := ((F_coder_o0.ext E2).other W5 (Or.inr (slot_ne (Or.inr (own_w23 hw)) (Or.inr (own_w22 hw)) (by decide) (t := .byte) (t' := (.array .byte)) (by decide) (by decide))))
 refine Home.wr (putFN X8 hx hZ hown (own_w27 hw) Via.refl e8 q9 (E_o0.keep K5) (Or.inr ⟨(own_w23 hw), rfl, hnm⟩) (own_w7 hw) (ty := .byte) (v := (.int 0)) (v' := (.int 0)) (by decide) rfl rfl rfl rfl (hb hby d3_23)) fun T10 h10 X10 e10 W10 => ?_
 have Fw10 := q9.same W10
 have O10 := O5.wr W10 g_o0
 have K10 : Keep h0 h10 ([o0] : List Addr) := Keep.wr K5 W10 (Or.inl (List.mem_of_getElem? (i := 0) rfl))
 have Cd10 := Cold.wr Cd5 W10 (Cold.safe Cd5 (List.mem_of_getElem? (i := 0) rfl))
 have N10 := Fr.snoc X10 N5 g_o0
 have q11 := (Fw5.other W10 (Or.inr (slot_ne (Or.inr (own_w22 hw)) (Or.inr (own_w23 hw)) (by decide) (t := (.array .byte)) (t' := .byte) (by decide) (by decide))))
 have ne12 : b2 ≠ o0 := (Ne.symm (hne2 _ (List.mem_of_getElem? (i := 0) rfl)).2)
 have q13 := ((V2.other W5 ne12).other W10 ne12)
 exact HomeW.ret0 X10 hx hlk hZ (own_hEL hw) e10 Cd10 hret (hb hby d3_26) (by rw [show T10.heap = h10 from e10]; exact ⟨b2, k2, rfl, N10, K10, (E_o0.keep K10), q11, Fw10, q13⟩) (by decide) (by decide)
theorem rm2_0 (l : Launch) (Z : State) (a0 : Array Value) (hw : HW a0 Z) (ws : List Jvm.Cond) (o0 o1 : Addr) (k_o1 : ClassId) (h0 : Heap) (n0 : Nat) (O0 : Old Z n0 h0) (V_o1 : Arv Z h0 o1 k_o1 .char (0 : Int32) [] (.int 0)) (E_o0 : Exa Z h0 o0 "java/lang/String") (F_value_o0 : Fld Z h0 o0 "java/lang/String" "value" "[B" .null) (F_coder_o0 : Fld Z h0 o0 "java/lang/String" "coder" "B" (.int 0)) (g_o0 : n0 ≤ o0) :
    ConW l Z own_EL ([o0] : List Addr) false (⟨"java/lang/String", "<init>", "([C)V"⟩ : MethodName) jdk_42_method_3_code 2 none ws ({ frames := 2, cells := 2, slots := 4, locals := 29 } : Room) #[(.ref o0), (.ref o1)] h0 (fun v h L => ∃ (b2_2 : Jvm.Addr), ∃ (k2_2 : ClassId), v = none ∧ Fr n0 L ∧ Keep h0 h [o0] ∧ Exa Z h o0 "java/lang/String" ∧ Fld Z h o0 "java/lang/String" "value" "[B" (.ref b2_2) ∧ Fld Z h o0 "java/lang/String" "coder" "B" (.int 0) ∧ Arv Z h b2_2 k2_2 .byte (0 : Int32) [] (.int 0)) := by
 refine own_bodyW (plainFor_of_name own_pn0) (fun m => ef_rm2_0 m o0 o1) ?_
 intro p e s m below meth c s₁ hx hby hlk hml hret hZ hown hnm X0 e0 Cd0
 have N0 := Fr.nil n0
 refine Home.run X0 hx hby sg2_0_4 (pc' := 4) (L' := #[sr o0, sr o1]) (S' := [(.ref o1), (.int 0), (.ref o1), (.ref o0)]) rfl ?_
 obtain ⟨cl1, Ar1, q1, S1, M1, H1, G1⟩ := id V_o1
 refine Home.go (own_alen X0 hx hZ e0 Ar1 S1 M1 rfl rfl (hb hby d2_4)) ?_
 refine Home.run X0 hx hby sg2_5_1 (pc' := 6) (L' := #[sr o0, sr o1]) (S' := [.null, (.int 0), (.int 0), (.ref o1), (.ref o0)]) rfl ?_
 refine Home.call (own_specialW X0 hx hZ hown (own_hEL hw) Cd0 (allS (List.mem_of_getElem? (i := 0) rfl) all0) rfl (own_w13 hw) (own_w14 hw) (own_w8 hw) (own_w16 hw) (by decide) (rm3_0 l Z a0 hw [] o0 o1 h0 n0 O0 E_o0 F_value_o0 g_o0 F_coder_o0) e0 rfl (by rw [hml]; rfl) (a := o0) (argsL := [(.ref o1), (.int 0), (.int 0), .null]) (rest := []) (lenOf own_pd0 rfl) rfl rfl (W := 0) (by exact hW0) (by decide) (by decide) (hb hby d2_6) (by decide) (by decide)) ?_
 rintro _ T2 L2 X2 ⟨⟨b2_2, k2_2, rfl, N2q, K2q, P2_0, P2_1, P2_2, P2_3⟩, hZ, hown, Cd2, sR2⟩
 have O2 := Old.keep O0 K2q (allS g_o0 all0)
 have K2 : Keep h0 T2.heap ([o0] : List Addr) := Keep.trans (Keep.refl h0 ([o0] : List Addr)) K2q (allS (Or.inl (List.mem_of_getElem? (i := 0) rfl)) all0)
 have N2 := Fr.app N0 N2q
 exact HomeW.ret0 X2 hx hlk hZ (own_hEL hw) rfl Cd2 hret (hb hby d2_9) ⟨b2_2, k2_2, rfl, N2, K2, P2_0, P2_1, P2_2, P2_3⟩ (by decide) (by decide)
theorem rm1_0 (l : Launch) (Z : State) (a0 : Array Value) (hw : HW a0 Z) (ws : List Jvm.Cond) (i1 i2 i3 i4 i5 i6 : Int32) (h0 : Heap) (n0 : Nat) (O0 : Old Z n0 h0) (bnd_i1 : ¬ i1 < (0 : Int32) ∧ ¬ (57 : Int32) < i1) (bnd_i2 : ¬ i2 < (0 : Int32) ∧ ¬ (57 : Int32) < i2) (bnd_i3 : ¬ i3 < (0 : Int32) ∧ ¬ (57 : Int32) < i3) (bnd_i4 : ¬ i4 < (0 : Int32) ∧ ¬ (57 : Int32) < i4) (bnd_i5 : ¬ i5 < (0 : Int32) ∧ ¬ (57 : Int32) < i5) (bnd_i6 : ¬ i6 < (0 : Int32) ∧ ¬ (57 : Int32) < i6) :
    ConW l Z own_EL ([] : List Addr) true (⟨"com/example/tryst/tryst/encoding/Base58DecodePinLaw", "build", "(IIIIIII)Ljava/lang/String;"⟩ : MethodName) method_4_code 7 (some (.object "java/lang/String")) ws ({ frames := 3, cells := 4, slots := 8, locals := 43 } : Room) #[(.int 0), (.int i1), (.int i2), (.int i3), (.int i4), (.int i5), (.int i6)] h0 (fun v h L => ∃ (b1 : Addr), ∃ (b2_2_6 : Jvm.Addr), ∃ (k2_2_6 : ClassId), v = some (.ref b1) ∧ Fr n0 L ∧ h0.size ≤ b1 ∧ Keep h0 h [] ∧ Exa Z h b1 "java/lang/String" ∧ Fld Z h b1 "java/lang/String" "value" "[B" (.ref b2_2_6) ∧ Fld Z h b1 "java/lang/String" "coder" "B" (.int 0) ∧ Arv Z h b2_2_6 k2_2_6 .byte (0 : Int32) [] (.int 0)) := by
 refine own_bodyW (plainFor_of_name own_pn1) (fun m => ef_rm1_0 m (0 : Int32) i1 i2 i3 i4 i5 i6) ?_
 intro p e s m below meth c s₁ hx hby hlk hml hret hZ hown hnm X0 e0 Cd0
 have N0 := Fr.nil n0
 refine Home.run X0 hx hby sg1_0_1 (pc' := 1) (L' := #[si 0, si i1, si i2, si i3, si i4, si i5, si i6]) (S' := [(.int 0)]) rfl ?_
 refine Home.go (fun _ => XS.ifNo X0.here hx rfl (hb hby d1_1) rfl ((if0 _ _).trans (teq (by decide)).2)) ?_
 refine Home.nw (own_newO X0 hx hZ hown (own_w6 hw) (own_w7 hw) (own_w8 hw) e0 rfl (hb hby d1_4) (by decide) (by decide)) fun T1 h1 b1 g1 X1 e1 E1 A1 D1 => ?_
 have g_b1 : n0 ≤ b1 := Nat.le_trans (Old.le O0) (Nat.le_of_eq g1.symm)
 have F_value_b1 : Fld Z h1 b1 "java/lang/String" "value" "[B" .null := D1 (Or.inr (own_w22 hw)) (ty := (.array .byte)) (by decide)
 have F_coder_b1 : Fld Z h1 b1 "java/lang/String" "coder" "B" (.int 0) := D1 (Or.inr (own_w23 hw)) (ty := .byte) (by decide)
 have O1 := O0.ext E1
 have K1 : Keep h0 h1 ([] : List Addr) := Keep.ext (Keep.refl h0 ([] : List Addr)) E1
 have Cd1 := Cold.add Cd0 E1 (Nat.le_of_eq g1.symm) A1.lt
 refine Home.run X1 hx hby sg1_7_2 (pc' := 9) (L' := #[si 0, si i1, si i2, si i3, si i4, si i5, si i6]) (S' := [(.int 0), (.ref b1), (.ref b1)]) rfl ?_
 refine Home.na (own_newP (aty := .char) X1 hx hZ (own_w9 hw) e1 (g := (mkF m 9 #[.val (.int 0), .val (.int i1), .val (.int i2), .val (.int i3), .val (.int i4), .val (.int i5), .val (.int i6)] [(.int 0), (.ref b1), (.ref b1)])) rfl (hb hby d1_9) rfl (by decide) (cap := 0) (by decide) (by decide) (by decide) (by decide)) fun T2 h2 k2 b2 g2 X2 e2 E2 A2 => ?_
 have g_b2 : n0 ≤ b2 := Nat.le_trans (Old.le O1) (Nat.le_of_eq g2.symm)
 have V2 : Arv Z h2 b2 k2 .char (0 : Int32) [] (.int 0) := Arv.new A2 (by decide)
 have O2 := O1.ext E2
 have K2 : Keep h0 h2 ([] : List Addr) := Keep.ext K1 E2
 have Cd2 := Cold.ext Cd1 E2
 show Home T2 (mkF m 11 #[si 0, si i1, si i2, si i3, si i4, si i5, si i6] [(.ref b2), (.ref b1), (.ref b1)])
 have q3 := (A1.ext E2)
 have q4 := (F_value_b1.ext E2)
 have q5 := (F_coder_b1.ext E2)
 refine Home.call (own_specialW X2 hx hZ hown (own_hEL hw) Cd2 (allS (List.mem_of_getElem? (i := 0) rfl) all0) rfl (own_w10 hw) (own_w11 hw) (own_w8 hw) (own_w12 hw) (by decide) (rm2_0 l Z a0 hw [] b1 b2 k2 h2 n0 O2 V2 q3 q4 q5 g_b1) e2 rfl (by rw [hml]; rfl) (a := b1) (argsL := [(.ref b2)]) (rest := [(.ref b1)]) (lenOf own_pd1 rfl) rfl rfl (W := 1) (by exact hW0) (by decide) (by decide) (hb hby d1_11) (by decide) (by decide)) ?_
 rintro _ T6 L6 X6 ⟨⟨b2_2_6, k2_2_6, rfl, N6q, K6q, P6_0, P6_1, P6_2, P6_3⟩, hZ, hown, Cd6, sR6⟩
 have O6 := Old.keep O2 K6q (allS g_b1 all0)
 have K6 : Keep h0 T6.heap ([] : List Addr) := Keep.trans K2 K6q (allS (Or.inr (Nat.le_trans (Nat.le_refl _) (Nat.le_of_eq g1.symm))) all0)
 have N6 := Fr.app N0 N6q
 exact HomeW.retR X6 hx hlk hZ (own_hEL hw) rfl Cd6 (fun _ _ q => by cases q; exact (List.mem_of_getElem? (i := 0) rfl)) hret rfl rfl (hb hby d1_14) ⟨b1, b2_2_6, k2_2_6, rfl, N6, (Nat.le_trans (Nat.le_refl _) (Nat.le_of_eq g1.symm)), K6, P6_0, P6_1, P6_2, P6_3⟩ (by decide) (by decide)
theorem rm7_0 (l : Launch) (Z : State) (a0 : Array Value) (hw : HW a0 Z) (ws : List Jvm.Cond) (o0 : Addr) (sv_COMPACT_STRINGS : Int32) (h0 : Heap) (n0 : Nat) (O0 : Old Z n0 h0) (S_COMPACT_STRINGS : Sta Z Z.heap "java/lang/String" "COMPACT_STRINGS" "Z" (.int sv_COMPACT_STRINGS)) (hCS : ¬ (sv_COMPACT_STRINGS = (0 : Int32))) (F_coder_o0 : Fld Z h0 o0 "java/lang/String" "coder" "B" (.int 0)) :
    Con l Z (⟨"java/lang/String", "coder", "()B"⟩ : MethodName) jdk_42_method_152_code 1 (some .byte) ws ({ frames := 0, cells := 0, slots := 0, locals := 0 } : Room) #[(.ref o0)] h0 (Pur (some (.int 0)) h0) := by
 refine own_body (plainFor_of_name own_pn0) (fun m => ef_rm7_0 m o0) ?_
 intro p e s m below meth c s₁ hx hby hlk hml hret hZ hown hnm X0 e0
 have N0 := Fr.nil n0
 refine Home.st (getS2 X0 hx hZ hown (host := "") (Or.inl (own_w42 hw)) Via.refl e0 (S_COMPACT_STRINGS.ext O0.2) rfl (hb hby d7_0)) fun T1 X1 e1 => ?_
 refine Home.go (fun _ => XS.ifNo X1.here hx rfl (hb hby d7_3) rfl ((if0 _ _).trans (feq hCS).1)) ?_
 refine Home.run X1 hx hby sg7_6_1 (pc' := 7) (L' := #[sr o0]) (S' := [(.ref o0)]) rfl ?_
 refine Home.st (getF X1 hx hZ hown (host := "") (Or.inl (own_w27 hw)) Via.refl e1 F_coder_o0 rfl rfl (hb hby d7_7)) fun T2 X2 e2 => ?_
 refine Home.run X2 hx hby sg7_10_1 (pc' := 14) (L' := #[sr o0]) (S' := [(.int 0)]) rfl ?_
 exact Home.retN X2 hx hlk (t := .byte) hret (by simp) (hb hby d7_14) ⟨congrArg some (congrArg Value.int (by first | rfl | exact nar_i2c _ | exact nar_i2b _)), rfl, e2⟩ (by decide) (by decide)
theorem rm6_0 (l : Launch) (Z : State) (a0 : Array Value) (hw : HW a0 Z) (ws : List Jvm.Cond) (o0 p2 : Addr) (k_p2 : ClassId) (sv_COMPACT_STRINGS : Int32) (h0 : Heap) (n0 : Nat) (O0 : Old Z n0 h0) (F_value_o0 : Fld Z h0 o0 "java/lang/String" "value" "[B" (.ref p2)) (V_p2 : Arv Z h0 p2 k_p2 .byte (0 : Int32) [] (.int 0)) (E_o0 : Exa Z h0 o0 "java/lang/String") (S_COMPACT_STRINGS : Sta Z Z.heap "java/lang/String" "COMPACT_STRINGS" "Z" (.int sv_COMPACT_STRINGS)) (F_coder_o0 : Fld Z h0 o0 "java/lang/String" "coder" "B" (.int 0)) (hCS : ¬ (sv_COMPACT_STRINGS = (0 : Int32))) :
    Con l Z (⟨"java/lang/String", "length", "()I"⟩ : MethodName) jdk_42_method_54_code 1 (some .int) ws ({ frames := 1, cells := 0, slots := 0, locals := 13 } : Room) #[(.ref o0)] h0 (Pur (some (.int 0)) h0) := by
 refine own_body (plainFor_of_name own_pn0) (fun m => ef_rm6_0 m o0) ?_
 intro p e s m below meth c s₁ hx hby hlk hml hret hZ hown hnm X0 e0
 have N0 := Fr.nil n0
 refine Home.run X0 hx hby sg6_0_1 (pc' := 1) (L' := #[sr o0]) (S' := [(.ref o0)]) rfl ?_
 refine Home.st (getF X0 hx hZ hown (host := "") (Or.inl (own_w26 hw)) Via.refl e0 F_value_o0 rfl rfl (hb hby d6_1)) fun T1 X1 e1 => ?_
 obtain ⟨cl2, Ar2, q2, S2, M2, H2, G2⟩ := id V_p2
 refine Home.go (own_alen X1 hx hZ e1 Ar2 S2 M2 rfl rfl (hb hby d6_4)) ?_
 refine Home.run X1 hx hby sg6_5_1 (pc' := 6) (L' := #[sr o0]) (S' := [(.ref o0), (.int 0)]) rfl ?_
 refine Home.st (own_pure (own_virtual X1 hx hZ hown (own_w37 hw) (own_w38 hw) (notFace_of_selects (args := #[]) (mvT hZ (own_w40 hw))) (own_w40 hw) (own_w39 hw) (own_w8 hw) (own_w41 hw) (by decide) (rm7_0 l Z a0 hw [] o0 sv_COMPACT_STRINGS h0 n0 O0 S_COMPACT_STRINGS hCS F_coder_o0) e1 E_o0 rfl (by rw [hml]; rfl) (argsL := []) (rest := [(.int 0)]) (lenOf own_pd3 rfl) rfl rfl (W := 1) (by exact hW0) (by decide) (by decide) (hb hby d6_6) (by decide) (by decide))) fun T3 X3 e3 => ?_
 refine Home.run X3 hx hby sg6_9_1 (pc' := 10) (L' := #[sr o0]) (S' := [(.int 0)]) rfl ?_
 exact Home.retI X3 hx hlk hret (hb hby d6_10) ⟨rfl, rfl, e3⟩ (by decide) (by decide)
theorem rm5_0 (l : Launch) (Z : State) (a0 : Array Value) (hw : HW a0 Z) (ws : List Jvm.Cond) (o0 p2 : Addr) (k_p2 : ClassId) (sv_COMPACT_STRINGS : Int32) (h0 : Heap) (n0 : Nat) (O0 : Old Z n0 h0) (E_o0 : Exa Z h0 o0 "java/lang/String") (F_value_o0 : Fld Z h0 o0 "java/lang/String" "value" "[B" (.ref p2)) (V_p2 : Arv Z h0 p2 k_p2 .byte (0 : Int32) [] (.int 0)) (S_COMPACT_STRINGS : Sta Z Z.heap "java/lang/String" "COMPACT_STRINGS" "Z" (.int sv_COMPACT_STRINGS)) (F_coder_o0 : Fld Z h0 o0 "java/lang/String" "coder" "B" (.int 0)) (hCS : ¬ (sv_COMPACT_STRINGS = (0 : Int32))) :
    Con l Z (⟨"com/example/tryst/tryst/encoding/Base58", "decode", "(Ljava/lang/String;)[B"⟩ : MethodName) prog_9_method_3_code 7 (some (.array .byte)) ws ({ frames := 2, cells := 2, slots := 0, locals := 26 } : Room) #[(.ref o0)] h0 (fun v h L => ∃ (b5 : Addr), ∃ (k5 : ClassId), v = some (.ref b5) ∧ Fr n0 L ∧ h0.size ≤ b5 ∧ Keep h0 h [] ∧ Arv Z h b5 k5 .byte (0 : Int32) [] (.int 0)) := by
 refine own_body (plainFor_of_name own_pn2) (fun m => ef_rm5_0 m o0) ?_
 intro p e s m below meth c s₁ hx hby hlk hml hret hZ hown hnm X0 e0
 have N0 := Fr.nil n0
 refine Home.run X0 hx hby sg5_0_4 (pc' := 4) (L' := #[sr o0, si 0, un, un, un, un, un]) (S' := [(.ref o0), (.int 0)]) rfl ?_
 refine Home.st (own_pure (own_virtual X0 hx hZ hown (own_w32 hw) (own_w33 hw) (notFace_of_selects (args := #[]) (mvT hZ (own_w35 hw))) (own_w35 hw) (own_w34 hw) (own_w8 hw) (own_w36 hw) (by decide) (rm6_0 l Z a0 hw [] o0 p2 k_p2 sv_COMPACT_STRINGS h0 n0 O0 F_value_o0 V_p2 E_o0 S_COMPACT_STRINGS F_coder_o0 hCS) e0 E_o0 rfl (by rw [hml]; rfl) (argsL := []) (rest := [(.int 0)]) (lenOf own_pd4 rfl) rfl rfl (W := 1) (by exact hW0) (by decide) (by decide) (hb hby d5_4) (by decide) (by decide))) fun T1 X1 e1 => ?_
 refine Home.go (fun _ => XS.icmpYes X1.here hx rfl (pc0 := 7) (pc' := 30) rfl (hb hby d5_7) rfl (flt (by decide)).2.1 (by decide) (by decide)) ?_
 refine Home.run X1 hx hby sg5_30_1 (pc' := 31) (L' := #[sr o0, si 0, un, un, un, un, un]) (S' := [(.ref o0)]) rfl ?_
 refine Home.st (own_pure (own_virtual X1 hx hZ hown (own_w32 hw) (own_w33 hw) (notFace_of_selects (args := #[]) (mvT hZ (own_w35 hw))) (own_w35 hw) (own_w34 hw) (own_w8 hw) (own_w36 hw) (by decide) (rm6_0 l Z a0 hw [] o0 p2 k_p2 sv_COMPACT_STRINGS h0 n0 O0 F_value_o0 V_p2 E_o0 S_COMPACT_STRINGS F_coder_o0 hCS) e1 E_o0 rfl (by rw [hml]; rfl) (argsL := []) (rest := []) (lenOf own_pd4 rfl) rfl rfl (W := 0) (by exact hW0) (by decide) (by decide) (hb hby d5_31) (by decide) (by decide))) fun T2 X2 e2 => ?_
 refine Home.na (own_newP (aty := .byte) X2 hx hZ (own_w21 hw) e2 (g := (mkF m 34 #[.val (.ref o0), .val (.int 0), .unset, .unset, .unset, .unset, .unset] [(.int 0)])) rfl (hb hby d5_34) rfl (by decide) (cap := 0) (by decide) (by decide) (by decide) (by decide)) fun T3 h3 k3 b3 g3 X3 e3 E3 A3 => ?_
 have g_b3 : n0 ≤ b3 := Nat.le_trans (Old.le O0) (Nat.le_of_eq g3.symm)
 have V3 : Arv Z h3 b3 k3 .byte (0 : Int32) [] (.int 0) := Arv.new A3 (by decide)
 have O3 := O0.ext E3
 have K3 : Keep h0 h3 ([] : List Addr) := Keep.ext (Keep.refl h0 ([] : List Addr)) E3
 refine Home.run X3 hx hby sg5_36_7 (pc' := 45) (L' := #[sr o0, si 0, sr b3, si 0, si 0, un, un]) (S' := [(.ref o0), (.int 0)]) rfl ?_
 refine Home.st (own_pure (own_virtual X3 hx hZ hown (own_w32 hw) (own_w33 hw) (notFace_of_selects (args := #[]) (mvT hZ (own_w35 hw))) (own_w35 hw) (own_w34 hw) (own_w8 hw) (own_w36 hw) (by decide) (rm6_0 l Z a0 hw [] o0 p2 k_p2 sv_COMPACT_STRINGS h3 n0 O3 (F_value_o0.keep K3 nin0) (V_p2.keep K3 nin0) (E_o0.keep K3) S_COMPACT_STRINGS (F_coder_o0.keep K3 nin0) hCS) e3 (E_o0.keep K3) rfl (by rw [hml]; rfl) (argsL := []) (rest := [(.int 0)]) (lenOf own_pd4 rfl) rfl rfl (W := 1) (by exact hW0) (by decide) (by decide) (hb hby d5_45) (by decide) (by decide))) fun T4 X4 e4 => ?_
 refine Home.go (fun _ => XS.icmpYes X4.here hx rfl (pc0 := 48) (pc' := 163) rfl (hb hby d5_48) rfl (flt (by decide)).2.1 (by decide) (by decide)) ?_
 refine Home.run X4 hx hby sg5_163_3 (pc' := 166) (L' := #[sr o0, si 0, sr b3, si 0, si 0, un, un]) (S' := [(.int 0)]) rfl ?_
 refine Home.na (own_newP (aty := .byte) X4 hx hZ (own_w21 hw) e4 (g := (mkF m 166 #[.val (.ref o0), .val (.int 0), .val (.ref b3), .val (.int 0), .val (.int 0), .unset, .unset] [(.int 0)])) rfl (hb hby d5_166) rfl (by decide) (cap := 0) (by decide) (by decide) (by decide) (by decide)) fun T5 h5 k5 b5 g5 X5 e5 E5 A5 => ?_
 have g_b5 : n0 ≤ b5 := Nat.le_trans (Old.le O3) (Nat.le_of_eq g5.symm)
 have V5 : Arv Z h5 b5 k5 .byte (0 : Int32) [] (.int 0) := Arv.new A5 (by decide)
 have O5 := O3.ext E5
 have K5 : Keep h0 h5 ([] : List Addr) := Keep.ext K3 E5
 show Home T5 (mkF m 168 #[sr o0, si 0, sr b3, si 0, si 0, un, un] [(.ref b5)])
 refine Home.run X5 hx hby sg5_168_5 (pc' := 176) (L' := #[sr o0, si 0, sr b3, si 0, sr b5, si 0, un]) (S' := [(.int 0), (.int 0)]) rfl ?_
 refine Home.go (fun _ => XS.icmpYes X5.here hx rfl (pc0 := 176) (pc' := 200) rfl (hb hby d5_176) rfl (flt (by decide)).2.1 (by decide) (by decide)) ?_
 refine Home.run X5 hx hby sg5_200_1 (pc' := 202) (L' := #[sr o0, si 0, sr b3, si 0, sr b5, si 0, un]) (S' := [(.ref b5)]) rfl ?_
 exact Home.retR X5 hx hlk hret rfl rfl (hb hby d5_202) (by rw [show T5.heap = h5 from e5]; exact ⟨b5, k5, rfl, N0, (Nat.le_trans E3.1 (Nat.le_of_eq g5.symm)), K5, V5⟩) (by decide) (by decide)
theorem rm8_0 (l : Launch) (Z : State) (a0 : Array Value) (hw : HW a0 Z) (ws : List Jvm.Cond) (i1 i2 i3 i4 i5 i6 : Int32) (h0 : Heap) (n0 : Nat) (O0 : Old Z n0 h0) (bnd_i1 : ¬ i1 < (0 : Int32) ∧ ¬ (57 : Int32) < i1) (bnd_i2 : ¬ i2 < (0 : Int32) ∧ ¬ (57 : Int32) < i2) (bnd_i3 : ¬ i3 < (0 : Int32) ∧ ¬ (57 : Int32) < i3) (bnd_i4 : ¬ i4 < (0 : Int32) ∧ ¬ (57 : Int32) < i4) (bnd_i5 : ¬ i5 < (0 : Int32) ∧ ¬ (57 : Int32) < i5) (bnd_i6 : ¬ i6 < (0 : Int32) ∧ ¬ (57 : Int32) < i6) :
    Con l Z (⟨"com/example/tryst/tryst/encoding/Base58DecodePinLaw", "leadingZeros", "(IIIIIII)I"⟩ : MethodName) method_5_code 7 (some .int) ws ({ frames := 0, cells := 0, slots := 0, locals := 0 } : Room) #[(.int 0), (.int i1), (.int i2), (.int i3), (.int i4), (.int i5), (.int i6)] h0 (Pur (some (.int 0)) h0) := by
 refine own_body (plainFor_of_name own_pn1) (fun m => ef_rm8_0 m (0 : Int32) i1 i2 i3 i4 i5 i6) ?_
 intro p e s m below meth c s₁ hx hby hlk hml hret hZ hown hnm X0 e0
 have N0 := Fr.nil n0
 refine Home.run X0 hx hby sg8_0_2 (pc' := 2) (L' := #[si 0, si i1, si i2, si i3, si i4, si i5, si i6]) (S' := [(.int 1), (.int 0)]) rfl ?_
 refine Home.go (fun _ => XS.icmpYes X0.here hx rfl (pc0 := 2) (pc' := 9) rfl (hb hby d8_2) rfl (tlt (by decide)).1 (by decide) (by decide)) ?_
 refine Home.run X0 hx hby sg8_9_1 (pc' := 10) (L' := #[si 0, si i1, si i2, si i3, si i4, si i5, si i6]) (S' := [(.int 0)]) rfl ?_
 exact Home.retI X0 hx hlk hret (hb hby d8_10) ⟨rfl, rfl, e0⟩ (by decide) (by decide)
theorem rm9_0 (l : Launch) (Z : State) (a0 : Array Value) (hw : HW a0 Z) (ws : List Jvm.Cond) (i1 i2 i3 i4 i5 i6 : Int32) (h0 : Heap) (n0 : Nat) (O0 : Old Z n0 h0) (bnd_i1 : ¬ i1 < (0 : Int32) ∧ ¬ (57 : Int32) < i1) (bnd_i2 : ¬ i2 < (0 : Int32) ∧ ¬ (57 : Int32) < i2) (bnd_i3 : ¬ i3 < (0 : Int32) ∧ ¬ (57 : Int32) < i3) (bnd_i4 : ¬ i4 < (0 : Int32) ∧ ¬ (57 : Int32) < i4) (bnd_i5 : ¬ i5 < (0 : Int32) ∧ ¬ (57 : Int32) < i5) (bnd_i6 : ¬ i6 < (0 : Int32) ∧ ¬ (57 : Int32) < i6) :
    Con l Z (⟨"com/example/tryst/tryst/encoding/Base58DecodePinLaw", "value", "(IIIIIII)J"⟩ : MethodName) method_6_code 9 (some .long) ws ({ frames := 0, cells := 0, slots := 0, locals := 0 } : Room) #[(.int 0), (.int i1), (.int i2), (.int i3), (.int i4), (.int i5), (.int i6)] h0 (Pur (some (.long (0 : Int64))) h0) := by
 refine own_body (plainFor_of_name own_pn1) (fun m => ef_rm9_0 m (0 : Int32) i1 i2 i3 i4 i5 i6) ?_
 intro p e s m below meth c s₁ hx hby hlk hml hret hZ hown hnm X0 e0
 have N0 := Fr.nil n0
 refine Home.run X0 hx hby sg9_0_3 (pc' := 4) (L' := #[si 0, si i1, si i2, si i3, si i4, si i5, si i6, .val (.long (0 : Int64)), .second]) (S' := [(.int 0)]) rfl ?_
 refine Home.go (fun _ => XS.ifYes X0.here hx rfl (pc0 := 4) (pc' := 11) rfl (hb hby d9_4) rfl ((if0 _ _).trans (flt (by decide)).2.2.2) (by decide) (by decide)) ?_
 refine Home.run X0 hx hby sg9_11_2 (pc' := 13) (L' := #[si 0, si i1, si i2, si i3, si i4, si i5, si i6, .val (.long (0 : Int64)), .second]) (S' := [(.int 1), (.int 0)]) rfl ?_
 refine Home.go (fun _ => XS.icmpYes X0.here hx rfl (pc0 := 13) (pc' := 27) rfl (hb hby d9_13) rfl (flt (by decide)).2.2.2 (by decide) (by decide)) ?_
 refine Home.run X0 hx hby sg9_27_2 (pc' := 29) (L' := #[si 0, si i1, si i2, si i3, si i4, si i5, si i6, .val (.long (0 : Int64)), .second]) (S' := [(.int 2), (.int 0)]) rfl ?_
 refine Home.go (fun _ => XS.icmpYes X0.here hx rfl (pc0 := 29) (pc' := 43) rfl (hb hby d9_29) rfl (flt (by decide)).2.2.2 (by decide) (by decide)) ?_
 refine Home.run X0 hx hby sg9_43_2 (pc' := 45) (L' := #[si 0, si i1, si i2, si i3, si i4, si i5, si i6, .val (.long (0 : Int64)), .second]) (S' := [(.int 3), (.int 0)]) rfl ?_
 refine Home.go (fun _ => XS.icmpYes X0.here hx rfl (pc0 := 45) (pc' := 60) rfl (hb hby d9_45) rfl (flt (by decide)).2.2.2 (by decide) (by decide)) ?_
 refine Home.run X0 hx hby sg9_60_2 (pc' := 62) (L' := #[si 0, si i1, si i2, si i3, si i4, si i5, si i6, .val (.long (0 : Int64)), .second]) (S' := [(.int 4), (.int 0)]) rfl ?_
 refine Home.go (fun _ => XS.icmpYes X0.here hx rfl (pc0 := 62) (pc' := 77) rfl (hb hby d9_62) rfl (flt (by decide)).2.2.2 (by decide) (by decide)) ?_
 refine Home.run X0 hx hby sg9_77_2 (pc' := 79) (L' := #[si 0, si i1, si i2, si i3, si i4, si i5, si i6, .val (.long (0 : Int64)), .second]) (S' := [(.int 5), (.int 0)]) rfl ?_
 refine Home.go (fun _ => XS.icmpYes X0.here hx rfl (pc0 := 79) (pc' := 94) rfl (hb hby d9_79) rfl (flt (by decide)).2.2.2 (by decide) (by decide)) ?_
 refine Home.run X0 hx hby sg9_94_1 (pc' := 96) (L' := #[si 0, si i1, si i2, si i3, si i4, si i5, si i6, .val (.long (0 : Int64)), .second]) (S' := [(.long (0 : Int64))]) rfl ?_
 exact Home.retJ X0 hx hlk hret (hb hby d9_96) ⟨rfl, rfl, e0⟩ (by decide) (by decide)
theorem rm10_0 (l : Launch) (Z : State) (a0 : Array Value) (hw : HW a0 Z) (ws : List Jvm.Cond)  (h0 : Heap) (n0 : Nat) (O0 : Old Z n0 h0) :
    Con l Z (⟨"com/example/tryst/tryst/encoding/Base58DecodePinLaw", "byteCount", "(J)I"⟩ : MethodName) method_7_code 2 (some .int) ws ({ frames := 0, cells := 0, slots := 0, locals := 0 } : Room) #[(.long (0 : Int64))] h0 (Pur (some (.int 0)) h0) := by
 refine own_body (plainFor_of_name own_pn1) (fun m => ef_rm10_0 m (0 : Int64)) ?_
 intro p e s m below meth c s₁ hx hby hlk hml hret hZ hown hnm X0 e0
 have N0 := Fr.nil n0
 refine Home.run X0 hx hby sg10_0_3 (pc' := 3) (L' := #[.val (.long (0 : Int64)), .second]) (S' := [(.int 0)]) rfl ?_
 refine Home.go (fun _ => XS.ifNo X0.here hx rfl (hb hby d10_3) rfl ((if0 _ _).trans (teq (by decide)).2)) ?_
 refine Home.run X0 hx hby sg10_6_1 (pc' := 7) (L' := #[.val (.long (0 : Int64)), .second]) (S' := [(.int 0)]) rfl ?_
 exact Home.retI X0 hx hlk hret (hb hby d10_7) ⟨rfl, rfl, e0⟩ (by decide) (by decide)
theorem rm11_0 (l : Launch) (Z : State) (a0 : Array Value) (hw : HW a0 Z) (ws : List Jvm.Cond) (o0 : Addr) (i1 i2 i3 : Int32) (k_o0 : ClassId) (h0 : Heap) (n0 : Nat) (O0 : Old Z n0 h0) (bnd_i1 : ¬ i1 < (0 : Int32) ∧ ¬ (5 : Int32) < i1) (bnd_i2 : ¬ i2 < (0 : Int32) ∧ ¬ (6 : Int32) < i2) (bnd_i3 : ¬ i3 < (0 : Int32) ∧ ¬ (5 : Int32) < i3) (V_o0 : Arv Z h0 o0 k_o0 .byte (0 : Int32) [] (.int 0)) :
    Con l Z (⟨"com/example/tryst/tryst/encoding/Base58DecodePinLaw", "check", "([BIIIJ)Z"⟩ : MethodName) method_9_code 6 (some .boolean) ws ({ frames := 0, cells := 0, slots := 0, locals := 0 } : Room) #[(.ref o0), (.int i1), (.int i2), (.int i3), (.long (0 : Int64))] h0 (Pur (some (.int 1)) h0) := by
 refine own_body (plainFor_of_name own_pn1) (fun m => ef_rm11_0 m o0 i1 i2 i3 (0 : Int64)) ?_
 intro p e s m below meth c s₁ hx hby hlk hml hret hZ hown hnm X0 e0
 have N0 := Fr.nil n0
 refine Home.run X0 hx hby sg11_0_2 (pc' := 2) (L' := #[sr o0, si i1, si i2, si i3, .val (.long (0 : Int64)), .second]) (S' := [(.ref o0), (.int i1)]) rfl ?_
 obtain ⟨cl1, Ar1, q1, S1, M1, H1, G1⟩ := id V_o0
 refine Home.go (own_alen X0 hx hZ e0 Ar1 S1 M1 rfl rfl (hb hby d11_2)) ?_
 refine Home.go (fun _ => XS.icmpNo X0.here hx rfl (hb hby d11_3) rfl (flt (bnd_nlt bnd_i1 (bnd_lit (0 : Int32)) (by decide +kernel))).1) ?_
 refine Home.run X0 hx hby sg11_6_1 (pc' := 7) (L' := #[sr o0, si i1, si i2, si i3, .val (.long (0 : Int64)), .second]) (S' := [(.int 1)]) rfl ?_
 exact Home.retN X0 hx hlk (t := .boolean) hret (by simp) (hb hby d11_7) ⟨congrArg some (congrArg Value.int (by first | rfl | exact nar_i2c _ | exact nar_i2b _)), rfl, e0⟩ (by decide) (by decide)
theorem rm14_0 (l : Launch) (Z : State) (a0 : Array Value) (hw : HW a0 Z) (ws : List Jvm.Cond) (o0 : Addr) (sv_COMPACT_STRINGS : Int32) (h0 : Heap) (n0 : Nat) (O0 : Old Z n0 h0) (S_COMPACT_STRINGS : Sta Z Z.heap "java/lang/String" "COMPACT_STRINGS" "Z" (.int sv_COMPACT_STRINGS)) (hCS : ¬ (sv_COMPACT_STRINGS = (0 : Int32))) (F_coder_o0 : Fld Z h0 o0 "java/lang/String" "coder" "B" (.int 0)) :
    Con l Z (⟨"java/lang/String", "isLatin1", "()Z"⟩ : MethodName) jdk_42_method_154_code 1 (some .boolean) ws ({ frames := 0, cells := 0, slots := 0, locals := 0 } : Room) #[(.ref o0)] h0 (Pur (some (.int 1)) h0) := by
 refine own_body (plainFor_of_name own_pn0) (fun m => ef_rm14_0 m o0) ?_
 intro p e s m below meth c s₁ hx hby hlk hml hret hZ hown hnm X0 e0
 have N0 := Fr.nil n0
 refine Home.st (getS2 X0 hx hZ hown (host := "") (Or.inl (own_w42 hw)) Via.refl e0 (S_COMPACT_STRINGS.ext O0.2) rfl (hb hby d14_0)) fun T1 X1 e1 => ?_
 refine Home.go (fun _ => XS.ifNo X1.here hx rfl (hb hby d14_3) rfl ((if0 _ _).trans (feq hCS).1)) ?_
 refine Home.run X1 hx hby sg14_6_1 (pc' := 7) (L' := #[sr o0]) (S' := [(.ref o0)]) rfl ?_
 refine Home.st (getF X1 hx hZ hown (host := "") (Or.inl (own_w27 hw)) Via.refl e1 F_coder_o0 rfl rfl (hb hby d14_7)) fun T2 X2 e2 => ?_
 refine Home.go (fun _ => XS.ifNo X2.here hx rfl (hb hby d14_10) rfl ((if0 _ _).trans (teq (by decide)).2)) ?_
 refine Home.run X2 hx hby sg14_13_2 (pc' := 18) (L' := #[sr o0]) (S' := [(.int 1)]) rfl ?_
 exact Home.retN X2 hx hlk (t := .boolean) hret (by simp) (hb hby d14_18) ⟨congrArg some (congrArg Value.int (by first | rfl | exact nar_i2c _ | exact nar_i2b _)), rfl, e2⟩ (by decide) (by decide)
theorem rm17_0 (l : Launch) (Z : State) (a0 : Array Value) (hw : HW a0 Z) (ws : List Jvm.Cond) (i0 : Int32) (o2 : Value) (h0 : Heap) (n0 : Nat) (O0 : Old Z n0 h0) (bnd_i0 : ¬ i0 < (0 : Int32) ∧ ¬ (57 : Int32) < i0) (isr_o2 : o2.isRef = true) :
    Con l Z (⟨"jdk/internal/util/Preconditions", "checkIndex", "(IILjava/util/function/BiFunction;)I"⟩ : MethodName) jdk_41_method_11_code 3 (some .int) ws ({ frames := 0, cells := 0, slots := 0, locals := 0 } : Room) #[(.int i0), (.int 58), o2] h0 (Pur (some (.int i0)) h0) := by
 refine own_body (plainFor_of_name own_pn3) (fun m => ef_rm17_0 m i0 (58 : Int32) o2 (isr_o2)) ?_
 intro p e s m below meth c s₁ hx hby hlk hml hret hZ hown hnm X0 e0
 have N0 := Fr.nil n0
 refine Home.run X0 hx hby sg17_0_1 (pc' := 1) (L' := #[si i0, si 58, .val o2]) (S' := [(.int i0)]) rfl ?_
 refine Home.go (fun _ => XS.ifNo X0.here hx rfl (hb hby d17_1) rfl ((if0 _ _).trans (flt (bnd_nlt bnd_i0 (bnd_lit (0 : Int32)) (by decide +kernel))).1)) ?_
 refine Home.run X0 hx hby sg17_4_2 (pc' := 6) (L' := #[si i0, si 58, .val o2]) (S' := [(.int 58), (.int i0)]) rfl ?_
 refine Home.go (fun _ => XS.icmpYes X0.here hx rfl (pc0 := 6) (pc' := 16) rfl (hb hby d17_6) rfl (tlt (bnd_lt bnd_i0 (bnd_lit (58 : Int32)) (by decide +kernel))).1 (by decide) (by decide)) ?_
 refine Home.run X0 hx hby sg17_16_1 (pc' := 17) (L' := #[si i0, si 58, .val o2]) (S' := [(.int i0)]) rfl ?_
 exact Home.retI X0 hx hlk hret (hb hby d17_17) ⟨rfl, rfl, e0⟩ (by decide) (by decide)
theorem rm16_0 (l : Launch) (Z : State) (a0 : Array Value) (hw : HW a0 Z) (ws : List Jvm.Cond) (i0 : Int32) (sv_SIOOBE_FORMATTER : Value) (h0 : Heap) (n0 : Nat) (O0 : Old Z n0 h0) (bnd_i0 : ¬ i0 < (0 : Int32) ∧ ¬ (57 : Int32) < i0) (S_SIOOBE_FORMATTER : Sta Z Z.heap "jdk/internal/util/Preconditions" "SIOOBE_FORMATTER" "Ljava/util/function/BiFunction;" sv_SIOOBE_FORMATTER) (isr_sv_SIOOBE_FORMATTER : sv_SIOOBE_FORMATTER.isRef = true) :
    Con l Z (⟨"java/lang/String", "checkIndex", "(II)V"⟩ : MethodName) jdk_42_method_155_code 2 none ws ({ frames := 1, cells := 0, slots := 0, locals := 14 } : Room) #[(.int i0), (.int 58)] h0 (Pur none h0) := by
 refine own_body (plainFor_of_name own_pn0) (fun m => ef_rm16_0 m i0 (58 : Int32)) ?_
 intro p e s m below meth c s₁ hx hby hlk hml hret hZ hown hnm X0 e0
 have N0 := Fr.nil n0
 refine Home.run X0 hx hby sg16_0_2 (pc' := 2) (L' := #[si i0, si 58]) (S' := [(.int 58), (.int i0)]) rfl ?_
 refine Home.st (getS2 X0 hx hZ hown (host := "") (Or.inl (own_w76 hw)) Via.refl e0 (S_SIOOBE_FORMATTER.ext O0.2) rfl (hb hby d16_2)) fun T1 X1 e1 => ?_
 refine Home.st (own_pure (own_static X1 hx hZ hown (own_w78 hw) (own_w79 hw) (own_w77 hw) (own_w80 hw) (by decide) (rm17_0 l Z a0 hw [] i0 sv_SIOOBE_FORMATTER h0 n0 O0 bnd_i0 isr_sv_SIOOBE_FORMATTER) e1 rfl (by rw [hml]; rfl) (argsL := [(.int i0), (.int 58), sv_SIOOBE_FORMATTER]) (rest := []) (lenOf own_pd11 rfl) rfl rfl (W := 0) (by exact hW0) (by decide) (by decide) (hb hby d16_5) (by decide) (by decide))) fun T2 X2 e2 => ?_
 refine Home.run X2 hx hby sg16_8_1 (pc' := 9) (L' := #[si i0, si 58]) (S' := []) rfl ?_
 exact Home.ret0 X2 hx hlk hret (hb hby d16_9) ⟨rfl, rfl, e2⟩ (by decide) (by decide)
theorem rm15_0 (l : Launch) (Z : State) (a0 : Array Value) (hw : HW a0 Z) (ws : List Jvm.Cond) (o0 : Addr) (i1 : Int32) (k_o0 : ClassId) (sv_SIOOBE_FORMATTER : Value) (h0 : Heap) (n0 : Nat) (O0 : Old Z n0 h0) (bnd_i1 : ¬ i1 < (0 : Int32) ∧ ¬ (57 : Int32) < i1) (V_o0 : Arv Z h0 o0 k_o0 .byte (58 : Int32) [(.int 49), (.int 50), (.int 51), (.int 52), (.int 53), (.int 54), (.int 55), (.int 56), (.int 57), (.int 65), (.int 66), (.int 67), (.int 68), (.int 69), (.int 70), (.int 71), (.int 72), (.int 74), (.int 75), (.int 76), (.int 77), (.int 78), (.int 80), (.int 81), (.int 82), (.int 83), (.int 84), (.int 85), (.int 86), (.int 87), (.int 88), (.int 89), (.int 90), (.int 97), (.int 98), (.int 99), (.int 100), (.int 101), (.int 102), (.int 103), (.int 104), (.int 105), (.int 106), (.int 107), (.int 109), (.int 110), (.int 111), (.int 112), (.int 113), (.int 114), (.int 115), (.int 116), (.int 117), (.int 118), (.int 119), (.int 120), (.int 121), (.int 122)] (.int 0)) (S_SIOOBE_FORMATTER : Sta Z Z.heap "jdk/internal/util/Preconditions" "SIOOBE_FORMATTER" "Ljava/util/function/BiFunction;" sv_SIOOBE_FORMATTER) (isr_sv_SIOOBE_FORMATTER : sv_SIOOBE_FORMATTER.isRef = true) :
    Con l Z (⟨"java/lang/StringLatin1", "charAt", "([BI)C"⟩ : MethodName) jdk_43_method_2_code 2 (some .char) ws ({ frames := 2, cells := 0, slots := 0, locals := 27 } : Room) #[(.ref o0), (.int i1)] h0 (Pur (some (.int ((own_at own_TI0 i1) &&& (255 : Int32)))) h0) := by
 refine own_body (plainFor_of_name own_pn4) (fun m => ef_rm15_0 m o0 i1) ?_
 intro p e s m below meth c s₁ hx hby hlk hml hret hZ hown hnm X0 e0
 have N0 := Fr.nil n0
 refine Home.run X0 hx hby sg15_0_2 (pc' := 2) (L' := #[sr o0, si i1]) (S' := [(.ref o0), (.int i1)]) rfl ?_
 obtain ⟨cl1, Ar1, q1, S1, M1, H1, G1⟩ := id V_o0
 refine Home.go (own_alen X0 hx hZ e0 Ar1 S1 M1 rfl rfl (hb hby d15_2)) ?_
 refine Home.st (own_pure (own_static X0 hx hZ hown (own_w73 hw) (own_w74 hw) (own_w8 hw) (own_w75 hw) (by decide) (rm16_0 l Z a0 hw [] i1 sv_SIOOBE_FORMATTER h0 n0 O0 bnd_i1 S_SIOOBE_FORMATTER isr_sv_SIOOBE_FORMATTER) e0 rfl (by rw [hml]; rfl) (argsL := [(.int i1), (.int 58)]) (rest := []) (lenOf own_pd12 rfl) rfl rfl (W := 0) (by exact hW0) (by decide) (by decide) (hb hby d15_3) (by decide) (by decide))) fun T2 X2 e2 => ?_
 refine Home.run X2 hx hby sg15_6_2 (pc' := 8) (L' := #[sr o0, si i1]) (S' := [(.int i1), (.ref o0)]) rfl ?_
 obtain ⟨cl3, Ar3, q3, S3, M3, H3, G3⟩ := id V_o0
 have ib3 : ¬ (i1 < 0 ∨ cl3.slots.size ≤ (i1).toNatClampNeg) := inb_of S3 ⟨(bnd_nlt bnd_i1 (bnd_lit (0 : Int32)) (by decide +kernel)), (bnd_lt bnd_i1 (bnd_lit (58 : Int32)) (by decide +kernel))⟩
 refine Home.go (X2.baloadBytes hx (j := i1) (v := .int (own_at own_TI0 i1)) (by rw [e2]; exact Ar3.1) (State.isArrayOf_alike hZ.alike Ar3.2.1) Ar3.2.2 ib3 (Has.at H3 ib3 (own_getD own_TI0 _)) rfl rfl (hb hby d15_8)) ?_
 refine Home.run X2 hx hby sg15_9_3 (pc' := 14) (L' := #[sr o0, si i1]) (S' := [(.int (((own_at own_TI0 i1) &&& (255 : Int32)).toUInt32.toUInt16.toUInt32.toInt32))]) rfl ?_
 rw [i2c_id (bnd_and (own_at own_TI0 i1) (255 : Int32) (by decide)) (by decide +kernel) (by decide +kernel)]
 exact Home.retN X2 hx hlk (t := .char) hret (by simp) (hb hby d15_14) ⟨congrArg some (congrArg Value.int (by first | rfl | exact nar_i2c _ | exact nar_i2b _ | exact nar_char_id (bnd_and (own_at own_TI0 i1) (255 : Int32) (by decide)) (by decide +kernel) (by decide +kernel))), rfl, e2⟩ (by decide) (by decide)
theorem rm13_0 (l : Launch) (Z : State) (a0 : Array Value) (hw : HW a0 Z) (ws : List Jvm.Cond) (o0 : Addr) (i1 sv_COMPACT_STRINGS : Int32) (p2 : Addr) (k_p2 : ClassId) (sv_SIOOBE_FORMATTER : Value) (h0 : Heap) (n0 : Nat) (O0 : Old Z n0 h0) (bnd_i1 : ¬ i1 < (0 : Int32) ∧ ¬ (57 : Int32) < i1) (E_o0 : Exa Z h0 o0 "java/lang/String") (S_COMPACT_STRINGS : Sta Z Z.heap "java/lang/String" "COMPACT_STRINGS" "Z" (.int sv_COMPACT_STRINGS)) (F_coder_o0 : Fld Z h0 o0 "java/lang/String" "coder" "B" (.int 0)) (hCS : ¬ (sv_COMPACT_STRINGS = (0 : Int32))) (F_value_o0 : Fld Z h0 o0 "java/lang/String" "value" "[B" (.ref p2)) (V_p2 : Arv Z h0 p2 k_p2 .byte (58 : Int32) [(.int 49), (.int 50), (.int 51), (.int 52), (.int 53), (.int 54), (.int 55), (.int 56), (.int 57), (.int 65), (.int 66), (.int 67), (.int 68), (.int 69), (.int 70), (.int 71), (.int 72), (.int 74), (.int 75), (.int 76), (.int 77), (.int 78), (.int 80), (.int 81), (.int 82), (.int 83), (.int 84), (.int 85), (.int 86), (.int 87), (.int 88), (.int 89), (.int 90), (.int 97), (.int 98), (.int 99), (.int 100), (.int 101), (.int 102), (.int 103), (.int 104), (.int 105), (.int 106), (.int 107), (.int 109), (.int 110), (.int 111), (.int 112), (.int 113), (.int 114), (.int 115), (.int 116), (.int 117), (.int 118), (.int 119), (.int 120), (.int 121), (.int 122)] (.int 0)) (S_SIOOBE_FORMATTER : Sta Z Z.heap "jdk/internal/util/Preconditions" "SIOOBE_FORMATTER" "Ljava/util/function/BiFunction;" sv_SIOOBE_FORMATTER) (isr_sv_SIOOBE_FORMATTER : sv_SIOOBE_FORMATTER.isRef = true) :
    Con l Z (⟨"java/lang/String", "charAt", "(I)C"⟩ : MethodName) jdk_42_method_56_code 2 (some .char) ws ({ frames := 3, cells := 0, slots := 0, locals := 40 } : Room) #[(.ref o0), (.int i1)] h0 (Pur (some (.int ((own_at own_TI0 i1) &&& (255 : Int32)))) h0) := by
 refine own_body (plainFor_of_name own_pn0) (fun m => ef_rm13_0 m o0 i1) ?_
 intro p e s m below meth c s₁ hx hby hlk hml hret hZ hown hnm X0 e0
 have N0 := Fr.nil n0
 refine Home.run X0 hx hby sg13_0_1 (pc' := 1) (L' := #[sr o0, si i1]) (S' := [(.ref o0)]) rfl ?_
 refine Home.st (own_pure (own_virtual X0 hx hZ hown (own_w64 hw) (own_w65 hw) (notFace_of_selects (args := #[]) (mvT hZ (own_w67 hw))) (own_w67 hw) (own_w66 hw) (own_w8 hw) (own_w68 hw) (by decide) (rm14_0 l Z a0 hw [] o0 sv_COMPACT_STRINGS h0 n0 O0 S_COMPACT_STRINGS hCS F_coder_o0) e0 E_o0 rfl (by rw [hml]; rfl) (argsL := []) (rest := []) (lenOf own_pd10 rfl) rfl rfl (W := 0) (by exact hW0) (by decide) (by decide) (hb hby d13_1) (by decide) (by decide))) fun T1 X1 e1 => ?_
 refine Home.go (fun _ => XS.ifNo X1.here hx rfl (hb hby d13_4) rfl ((if0 _ _).trans (feq (by decide)).1)) ?_
 refine Home.run X1 hx hby sg13_7_1 (pc' := 8) (L' := #[sr o0, si i1]) (S' := [(.ref o0)]) rfl ?_
 refine Home.st (getF X1 hx hZ hown (host := "") (Or.inl (own_w26 hw)) Via.refl e1 F_value_o0 rfl rfl (hb hby d13_8)) fun T2 X2 e2 => ?_
 refine Home.run X2 hx hby sg13_11_1 (pc' := 12) (L' := #[sr o0, si i1]) (S' := [(.int i1), (.ref p2)]) rfl ?_
 refine Home.st (own_pure (own_static X2 hx hZ hown (own_w69 hw) (own_w70 hw) (own_w71 hw) (own_w72 hw) (by decide) (rm15_0 l Z a0 hw [] p2 i1 k_p2 sv_SIOOBE_FORMATTER h0 n0 O0 bnd_i1 V_p2 S_SIOOBE_FORMATTER isr_sv_SIOOBE_FORMATTER) e2 rfl (by rw [hml]; rfl) (argsL := [(.ref p2), (.int i1)]) (rest := []) (lenOf own_pd13 rfl) rfl rfl (W := 0) (by exact hW0) (by decide) (by decide) (hb hby d13_12) (by decide) (by decide))) fun T3 X3 e3 => ?_
 exact Home.retN X3 hx hlk (t := .char) hret (by simp) (hb hby d13_15) ⟨congrArg some (congrArg Value.int (by first | rfl | exact nar_i2c _ | exact nar_i2b _ | exact nar_char_id (bnd_and (own_at own_TI0 i1) (255 : Int32) (by decide)) (by decide +kernel) (by decide +kernel))), rfl, e3⟩ (by decide) (by decide)
theorem rm12_0 (l : Launch) (Z : State) (a0 : Array Value) (hw : HW a0 Z) (ws : List Jvm.Cond) (i0 sv_COMPACT_STRINGS : Int32) (sv_SIOOBE_FORMATTER : Value) (h0 : Heap) (n0 : Nat) (O0 : Old Z n0 h0) (bnd_i0 : ¬ i0 < (0 : Int32) ∧ ¬ (57 : Int32) < i0) (S_COMPACT_STRINGS : Sta Z Z.heap "java/lang/String" "COMPACT_STRINGS" "Z" (.int sv_COMPACT_STRINGS)) (S_SIOOBE_FORMATTER : Sta Z Z.heap "jdk/internal/util/Preconditions" "SIOOBE_FORMATTER" "Ljava/util/function/BiFunction;" sv_SIOOBE_FORMATTER) (hCS : ¬ (sv_COMPACT_STRINGS = (0 : Int32))) (isr_sv_SIOOBE_FORMATTER : sv_SIOOBE_FORMATTER.isRef = true) :
    ConW l Z own_EL ([] : List Addr) false (⟨"com/example/tryst/tryst/encoding/Base58DecodePinLaw", "digit", "(I)C"⟩ : MethodName) method_3_code 1 (some .char) ws ({ frames := 4, cells := 2, slots := 236, locals := 53 } : Room) #[(.int i0)] h0 (fun v h L => v = some (.int (nar .char ((own_at own_TI0 i0) &&& (255 : Int32)))) ∧ Fr n0 L ∧ Keep h0 h []) := by
 refine own_bodyW (plainFor_of_name own_pn1) (fun m => ef_rm12_0 m i0) ?_
 intro p e s m below meth c s₁ hx hby hlk hml hret hZ hown hnm X0 e0 Cd0
 have N0 := Fr.nil n0
 obtain ⟨ad1, b1, k1, T1, h1, X1, e1, E1, hZ, hown, Cd1, Ea1, Fc1, Fv1, V1, la1, lb1, hne1, Li1, st1⟩ := own_ldcL X0 hx hZ hown (own_hEL hw) Cd0 (own_w58 hw) (own_wS hw) e0 (List.mem_of_getElem? (i := 1) rfl) (vs := own_T0) (z := (58 : Int32)) ⟨by decide, by rfl⟩ (by decide) (by decide) (g := (mkF m 0 #[.val (.int i0)] [])) rfl (hb hby d12_0) (n := 232) (by decide) (by decide) (by decide) (by decide)
 refine Home.go st1 ?_
 have O1 := O0.ext E1
 have K1 : Keep h0 h1 ([] : List Addr) := Keep.ext (Keep.refl h0 ([] : List Addr)) E1
 refine Home.run X1 hx hby sg12_2_1 (pc' := 3) (L' := #[si i0]) (S' := [(.int i0), (.ref ad1)]) rfl ?_
 refine Home.st (own_pure (own_virtual X1 hx hZ hown (own_w59 hw) (own_w60 hw) (notFace_of_selects (args := #[]) (mvT hZ (own_w62 hw))) (own_w62 hw) (own_w61 hw) (own_w8 hw) (own_w63 hw) (by decide) (rm13_0 l Z a0 hw [] ad1 i0 sv_COMPACT_STRINGS b1 k1 sv_SIOOBE_FORMATTER h1 n0 O1 bnd_i0 Ea1 S_COMPACT_STRINGS Fc1 hCS Fv1 V1 S_SIOOBE_FORMATTER isr_sv_SIOOBE_FORMATTER) e1 Ea1 rfl (by rw [hml]; rfl) (argsL := [(.int i0)]) (rest := []) (lenOf own_pd14 rfl) rfl rfl (W := 0) (by exact hW0) (by decide) (by decide) (hb hby d12_3) (by decide) (by decide))) fun T2 X2 e2 => ?_
 exact HomeW.retN X2 hx hlk hZ (own_hEL hw) e2 Cd1 (t := .char) hret (by simp) (hb hby d12_6) (by rw [show T2.heap = h1 from e2]; exact ⟨congrArg some (congrArg Value.int (by first | rfl | exact nar_i2c _ | exact nar_i2b _)), N0, K1⟩) (by decide) (by decide)
theorem rm19_0 (l : Launch) (Z : State) (a0 : Array Value) (hw : HW a0 Z) (ws : List Jvm.Cond) (o0 o2 : Addr) (k_o0 : ClassId) (u1 : Int32) (k_o2 : ClassId) (h0 : Heap) (n0 : Nat) (O0 : Old Z n0 h0) (V_o0 : Arv Z h0 o0 k_o0 .char (1 : Int32) [(.int u1)] (.int 0)) (bnd_u1 : ¬ u1 < (0 : Int32) ∧ ¬ (255 : Int32) < u1) (V_o2 : Arv Z h0 o2 k_o2 .byte (1 : Int32) [(.int 0)] (.int 0)) (g_o2 : n0 ≤ o2) :
    Con l Z (⟨"java/lang/StringUTF16", "compress", "([CI[BII)I"⟩ : MethodName) jdk_52_method_21_code 7 (some .int) ws ({ frames := 0, cells := 0, slots := 0, locals := 0 } : Room) #[(.ref o0), (.int 0), (.ref o2), (.int 0), (.int 1)] h0 (fun v h L => v = some (.int 1) ∧ Fr n0 L ∧ Keep h0 h [o2] ∧ Arv Z h o2 k_o2 .byte (1 : Int32) [(.int (u1.toInt8.toInt32))] (.int 0)) := by
 refine own_body (plainFor_of_name own_pn5) (fun m => ef_rm19_0 m o0 (0 : Int32) o2 (1 : Int32)) ?_
 intro p e s m below meth c s₁ hx hby hlk hml hret hZ hown hnm X0 e0
 have N0 := Fr.nil n0
 refine Home.run X0 hx hby sg19_0_4 (pc' := 7) (L' := #[sr o0, si 0, sr o2, si 0, si 1, si 0, un]) (S' := [(.int 1), (.int 0)]) rfl ?_
 refine Home.go (fun _ => XS.icmpNo X0.here hx rfl (hb hby d19_7) rfl (tlt (by decide)).2.1) ?_
 refine Home.run X0 hx hby sg19_10_2 (pc' := 12) (L' := #[sr o0, si 0, sr o2, si 0, si 1, si 0, un]) (S' := [(.int 0), (.ref o0)]) rfl ?_
 obtain ⟨cl1, Ar1, q1, S1, M1, H1, G1⟩ := id V_o0
 have ib1 : ¬ ((0 : Int32) < 0 ∨ cl1.slots.size ≤ ((0 : Int32)).toNatClampNeg) := inb_of S1 ⟨by decide, by decide⟩
 refine Home.go (X0.caload hx (j := (0 : Int32)) (v := (.int u1)) (by rw [e0]; exact Ar1.1) (State.isArrayOf_alike hZ.alike Ar1.2.1) Ar1.2.2 ib1 (Has.at H1 ib1 rfl) rfl rfl (hb hby d19_12)) ?_
 refine Home.run X0 hx hby sg19_13_3 (pc' := 20) (L' := #[sr o0, si 0, sr o2, si 0, si 1, si 0, si u1]) (S' := [(.int 255), (.int u1)]) rfl ?_
 refine Home.go (fun _ => XS.icmpYes X0.here hx rfl (pc0 := 20) (pc' := 26) rfl (hb hby d19_20) rfl (flt (bnd_nlt (bnd_lit (255 : Int32)) bnd_u1 (by decide +kernel))).2.2.2 (by decide) (by decide)) ?_
 refine Home.run X0 hx hby sg19_26_4 (pc' := 31) (L' := #[sr o0, si 0, sr o2, si 0, si 1, si 0, si u1]) (S' := [(.int (u1.toInt8.toInt32)), (.int 0), (.ref o2)]) rfl ?_
 obtain ⟨cl2, Ar2, q2, S2, M2, H2, G2⟩ := id V_o2
 refine Home.wr (stB X0 hx hZ e0 Ar2 (j := (0 : Int32)) (inb_of S2 ⟨by decide, by decide⟩) rfl rfl (hb hby d19_31)) fun T2 h2 X2 e2 W2 => ?_
 have W2' := Wr.to W2 (congrArg Value.int (nar_byte_id (bnd_i2b u1) (by decide +kernel) (by decide +kernel)))
 have V2 : Arv Z h2 o2 k_o2 .byte (1 : Int32) [(.int (u1.toInt8.toInt32))] (.int 0) := Arv.set Ar2 q2 S2 M2 H2 G2 (fits_byte_b (bnd_i2b u1) (by decide +kernel) (by decide +kernel)) W2' 0 rfl (Nat.le_of_ble_eq_true rfl)
 have O2 := O0.wr W2 g_o2
 have K2 : Keep h0 h2 ([o2] : List Addr) := Keep.wr (Keep.refl h0 ([o2] : List Addr)) W2 (Or.inl (List.mem_of_getElem? (i := 0) rfl))
 have N2 := Fr.snoc X2 N0 g_o2
 show Home T2 (mkF m 32 #[sr o0, si 0, sr o2, si 0, si 1, si 0, si u1] [])
 refine Home.run X2 hx hby sg19_32_6 (pc' := 7) (L' := #[sr o0, si 1, sr o2, si 1, si 1, si 1, si u1]) (S' := [(.int 1), (.int 1)]) rfl ?_
 refine Home.go (fun _ => XS.icmpYes X2.here hx rfl (pc0 := 7) (pc' := 44) rfl (hb hby d19_7) rfl (flt (by decide)).2.1 (by decide) (by decide)) ?_
 refine Home.run X2 hx hby sg19_44_1 (pc' := 46) (L' := #[sr o0, si 1, sr o2, si 1, si 1, si 1, si u1]) (S' := [(.int 1)]) rfl ?_
 exact Home.retI X2 hx hlk hret (hb hby d19_46) (by rw [show T2.heap = h2 from e2]; exact ⟨rfl, N2, K2, V2⟩) (by decide) (by decide)
theorem rm18_0 (l : Launch) (Z : State) (a0 : Array Value) (hw : HW a0 Z) (ws : List Jvm.Cond) (o0 : Addr) (k_o0 : ClassId) (u1 : Int32) (h0 : Heap) (n0 : Nat) (O0 : Old Z n0 h0) (V_o0 : Arv Z h0 o0 k_o0 .char (1 : Int32) [(.int u1)] (.int 0)) (bnd_u1 : ¬ u1 < (0 : Int32) ∧ ¬ (255 : Int32) < u1) :
    Con l Z (⟨"java/lang/StringUTF16", "compress", "([CII)[B"⟩ : MethodName) jdk_52_method_16_code 6 (some (.array .byte)) ws ({ frames := 1, cells := 1, slots := 1, locals := 18 } : Room) #[(.ref o0), (.int 0), (.int 1)] h0 (fun v h L => ∃ (b1 : Addr), ∃ (k1 : ClassId), v = some (.ref b1) ∧ Fr n0 L ∧ h0.size ≤ b1 ∧ Keep h0 h [] ∧ Arv Z h b1 k1 .byte (1 : Int32) [(.int (u1.toInt8.toInt32))] (.int 0)) := by
 refine own_body (plainFor_of_name own_pn5) (fun m => ef_rm18_0 m o0 (0 : Int32) (1 : Int32)) ?_
 intro p e s m below meth c s₁ hx hby hlk hml hret hZ hown hnm X0 e0
 have N0 := Fr.nil n0
 refine Home.run X0 hx hby sg18_0_1 (pc' := 1) (L' := #[sr o0, si 0, si 1, un, un, un]) (S' := [(.int 1)]) rfl ?_
 refine Home.na (own_newP (aty := .byte) X0 hx hZ (own_w21 hw) e0 (g := (mkF m 1 #[.val (.ref o0), .val (.int 0), .val (.int 1), .unset, .unset, .unset] [(.int 1)])) rfl (hb hby d18_1) rfl (by decide) (cap := 1) (by decide) (by decide) (by decide) (by decide)) fun T1 h1 k1 b1 g1 X1 e1 E1 A1 => ?_
 have g_b1 : n0 ≤ b1 := Nat.le_trans (Old.le O0) (Nat.le_of_eq g1.symm)
 have V1 : Arv Z h1 b1 k1 .byte (1 : Int32) [(.int 0)] (.int 0) := (Arv.new A1 (by decide)).pad (pad_rep [] (.int 0) 1)
 have O1 := O0.ext E1
 have K1 : Keep h0 h1 ([] : List Addr) := Keep.ext (Keep.refl h0 ([] : List Addr)) E1
 refine Home.run X1 hx hby sg18_3_6 (pc' := 9) (L' := #[sr o0, si 0, si 1, sr b1, un, un]) (S' := [(.int 1), (.int 0), (.ref b1), (.int 0), (.ref o0)]) rfl ?_
 refine Home.call (own_static X1 hx hZ hown (own_w85 hw) (own_w86 hw) (own_w83 hw) (own_w87 hw) (by decide) (rm19_0 l Z a0 hw [] o0 b1 k_o0 u1 k1 h1 n0 O1 (V_o0.keep K1 nin0) bnd_u1 V1 g_b1) e1 rfl (by rw [hml]; rfl) (argsL := [(.ref o0), (.int 0), (.ref b1), (.int 0), (.int 1)]) (rest := []) (lenOf own_pd15 rfl) rfl rfl (W := 0) (by exact hW0) (by decide) (by decide) (hb hby d18_9) (by decide) (by decide)) ?_
 rintro _ T2 L2 X2 ⟨rfl, N2q, K2q, P2_0⟩
 have O2 := Old.keep O1 K2q (allS g_b1 all0)
 have K2 : Keep h0 T2.heap ([] : List Addr) := Keep.trans K1 K2q (allS (Or.inr (Nat.le_trans (Nat.le_refl _) (Nat.le_of_eq g1.symm))) all0)
 have N2 := Fr.app N0 N2q
 refine Home.run X2 hx hby sg18_12_3 (pc' := 17) (L' := #[sr o0, si 0, si 1, sr b1, si 1, un]) (S' := [(.int 1), (.int 1)]) rfl ?_
 refine Home.go (fun _ => XS.icmpYes X2.here hx rfl (pc0 := 17) (pc' := 57) rfl (hb hby d18_17) rfl (teq (by decide)).1 (by decide) (by decide)) ?_
 refine Home.run X2 hx hby sg18_57_1 (pc' := 58) (L' := #[sr o0, si 0, si 1, sr b1, si 1, un]) (S' := [(.ref b1)]) rfl ?_
 exact Home.retR X2 hx hlk hret rfl rfl (hb hby d18_58) ⟨b1, k1, rfl, N2, (Nat.le_trans (Nat.le_refl _) (Nat.le_of_eq g1.symm)), K2, P2_0⟩ (by decide) (by decide)
theorem rm20_0 (l : Launch) (Z : State) (a0 : Array Value) (hw : HW a0 Z) (ws : List Jvm.Cond) (o0 : Addr) (k_o0 : ClassId) (u1 : Int32) (h0 : Heap) (n0 : Nat) (O0 : Old Z n0 h0) (V_o0 : Arv Z h0 o0 k_o0 .byte (1 : Int32) [(.int u1)] (.int 0)) :
    Con l Z (⟨"java/lang/StringUTF16", "coderFromArrayLen", "([BI)B"⟩ : MethodName) jdk_52_method_15_code 2 (some .byte) ws ({ frames := 0, cells := 0, slots := 0, locals := 0 } : Room) #[(.ref o0), (.int 1)] h0 (Pur (some (.int 0)) h0) := by
 refine own_body (plainFor_of_name own_pn5) (fun m => ef_rm20_0 m o0 (1 : Int32)) ?_
 intro p e s m below meth c s₁ hx hby hlk hml hret hZ hown hnm X0 e0
 have N0 := Fr.nil n0
 refine Home.run X0 hx hby sg20_0_2 (pc' := 2) (L' := #[sr o0, si 1]) (S' := [(.ref o0), (.int 1)]) rfl ?_
 obtain ⟨cl1, Ar1, q1, S1, M1, H1, G1⟩ := id V_o0
 refine Home.go (own_alen X0 hx hZ e0 Ar1 S1 M1 rfl rfl (hb hby d20_2)) ?_
 refine Home.run X0 hx hby sg20_3_4 (pc' := 8) (L' := #[sr o0, si 1]) (S' := [(.int 0)]) rfl ?_
 exact Home.retN X0 hx hlk (t := .byte) hret (by simp) (hb hby d20_8) ⟨congrArg some (congrArg Value.int (by first | rfl | exact nar_i2c _ | exact nar_i2b _)), rfl, e0⟩ (by decide) (by decide)
theorem rm3_1 (l : Launch) (Z : State) (a0 : Array Value) (hw : HW a0 Z) (ws : List Jvm.Cond) (o0 o1 : Addr) (sv_COMPACT_STRINGS : Int32) (k_o1 : ClassId) (u1 : Int32) (h0 : Heap) (n0 : Nat) (O0 : Old Z n0 h0) (S_COMPACT_STRINGS : Sta Z Z.heap "java/lang/String" "COMPACT_STRINGS" "Z" (.int sv_COMPACT_STRINGS)) (hCS : ¬ (sv_COMPACT_STRINGS = (0 : Int32))) (V_o1 : Arv Z h0 o1 k_o1 .char (1 : Int32) [(.int u1)] (.int 0)) (bnd_u1 : ¬ u1 < (0 : Int32) ∧ ¬ (255 : Int32) < u1) (E_o0 : Exa Z h0 o0 "java/lang/String") (F_coder_o0 : Fld Z h0 o0 "java/lang/String" "coder" "B" (.int 0)) (g_o0 : n0 ≤ o0) (F_value_o0 : Fld Z h0 o0 "java/lang/String" "value" "[B" .null) :
    Con l Z (⟨"java/lang/String", "<init>", "([CIILjava/lang/Void;)V"⟩ : MethodName) jdk_42_method_149_code 6 none ws ({ frames := 2, cells := 1, slots := 1, locals := 35 } : Room) #[(.ref o0), (.ref o1), (.int 0), (.int 1), .null] h0 (fun v h L => ∃ (b1_3 : Addr), ∃ (k1_3 : ClassId), v = none ∧ Fr n0 L ∧ h0.size ≤ b1_3 ∧ Keep h0 h [o0] ∧ Exa Z h o0 "java/lang/String" ∧ Fld Z h o0 "java/lang/String" "coder" "B" (.int 0) ∧ Fld Z h o0 "java/lang/String" "value" "[B" (.ref b1_3) ∧ Arv Z h b1_3 k1_3 .byte (1 : Int32) [(.int (u1.toInt8.toInt32))] (.int 0)) := by
 refine own_body (plainFor_of_name own_pn0) (fun m => ef_rm3_1 m o0 o1 (0 : Int32) (1 : Int32)) ?_
 intro p e s m below meth c s₁ hx hby hlk hml hret hZ hown hnm X0 e0
 have N0 := Fr.nil n0
 refine Home.run X0 hx hby sg3_0_1 (pc' := 1) (L' := #[sr o0, sr o1, si 0, si 1, .val .null, un]) (S' := [(.ref o0)]) rfl ?_
 refine Home.st (initO X0 hx hZ hown (own_w17 hw) (own_w18 hw) (own_w19 hw) e0 rfl (by rw [hml]; rfl) rfl (hb hby d3_1) (by decide) (W := 0) (by exact hW0) (by decide)) fun T1 X1 e1 => ?_
 refine Home.run X1 hx hby sg3_4_1 (pc' := 5) (L' := #[sr o0, sr o1, si 0, si 1, .val .null, un]) (S' := [(.int 1)]) rfl ?_
 refine Home.go (fun _ => XS.ifYes X1.here hx rfl (pc0 := 5) (pc' := 27) rfl (hb hby d3_5) rfl ((if0 _ _).trans (feq (by decide)).2) (by decide) (by decide)) ?_
 refine Home.st (getS2 X1 hx hZ hown (host := "") (Or.inl (own_w42 hw)) Via.refl e1 (S_COMPACT_STRINGS.ext O0.2) rfl (hb hby d3_27)) fun T2 X2 e2 => ?_
 refine Home.go (fun _ => XS.ifNo X2.here hx rfl (hb hby d3_30) rfl ((if0 _ _).trans (feq hCS).1)) ?_
 refine Home.run X2 hx hby sg3_33_3 (pc' := 36) (L' := #[sr o0, sr o1, si 0, si 1, .val .null, un]) (S' := [(.int 1), (.int 0), (.ref o1)]) rfl ?_
 refine Home.call (own_static X2 hx hZ hown (own_w81 hw) (own_w82 hw) (own_w83 hw) (own_w84 hw) (by decide) (rm18_0 l Z a0 hw [] o1 k_o1 u1 h0 n0 O0 V_o1 bnd_u1) e2 rfl (by rw [hml]; rfl) (argsL := [(.ref o1), (.int 0), (.int 1)]) (rest := []) (lenOf own_pd16 rfl) rfl rfl (W := 0) (by exact hW0) (by decide) (by decide) (hb hby d3_36) (by decide) (by decide)) ?_
 rintro _ T3 L3 X3 ⟨b1_3, k1_3, rfl, N3q, sz_b1_3, K3q, P3_0⟩
 have g_b1_3 : n0 ≤ b1_3 := Nat.le_trans (Old.le O0) sz_b1_3
 have O3 := Old.keep O0 K3q all0
 have K3 : Keep h0 T3.heap ([o0] : List Addr) := Keep.trans (Keep.refl h0 ([o0] : List Addr)) K3q all0
 have N3 := Fr.app N0 N3q
 refine Home.run X3 hx hby sg3_39_4 (pc' := 45) (L' := #[sr o0, sr o1, si 0, si 1, .val .null, sr b1_3]) (S' := [(.int 1), (.ref b1_3), (.ref o0)]) rfl ?_
 refine Home.st (own_pure (own_static X3 hx hZ hown (own_w88 hw) (own_w89 hw) (own_w83 hw) (own_w90 hw) (by decide) (rm20_0 l Z a0 hw [] b1_3 k1_3 (u1.toInt8.toInt32) T3.heap n0 O3 P3_0) rfl rfl (by rw [hml]; rfl) (argsL := [(.ref b1_3), (.int 1)]) (rest := [(.ref o0)]) (lenOf own_pd17 rfl) rfl rfl (W := 1) (by exact hW0) (by decide) (by decide) (hb hby d3_45) (by decide) (by decide))) fun T4 X4 e4 => ?_
 show Home T4 (mkF m 48 #[sr o0, sr o1, si 0, si 1, .val .null, sr b1_3] [(.int 0), (.ref o0)])
 have q5 := (F_coder_o0.keep K3q nin0)
 refine Home.wr (putFN X4 hx hZ hown (own_w27 hw) Via.refl e4 q5 (E_o0.keep K3) (Or.inr ⟨(own_w23 hw), rfl, hnm⟩) (own_w7 hw) (ty := .byte) (v := (.int 0)) (v' := (.int 0)) (by decide) rfl rfl rfl rfl (hb hby d3_48)) fun T6 h6 X6 e6 W6 => ?_
 have Fw6 := q5.same W6
 have O6 := O3.wr W6 g_o0
 have K6 : Keep h0 h6 ([o0] : List Addr) := Keep.wr K3 W6 (Or.inl (List.mem_of_getElem? (i := 0) rfl))
 have N6 := Fr.snoc X6 N3 g_o0
 refine Home.run X6 hx hby sg3_51_2 (pc' := 54) (L' := #[sr o0, sr o1, si 0, si 1, .val .null, sr b1_3]) (S' := [(.ref b1_3), (.ref o0)]) rfl ?_
 have q7 := ((F_value_o0.keep K3q nin0).other W6 (Or.inr (slot_ne (Or.inr (own_w22 hw)) (Or.inr (own_w23 hw)) (by decide) (t := (.array .byte)) (t' := .byte) (by decide) (by decide))))
 refine Home.wr (putF X6 hx hZ hown (host := "") (Or.inl (own_w26 hw)) Via.refl e6 q7 (E_o0.keep K6) (Or.inr ⟨(own_w22 hw), rfl, hnm⟩) (own_w7 hw) (ty := (.array .byte)) (by decide) rfl rfl rfl rfl (hb hby d3_54)) fun T8 h8 X8 e8 W8 => ?_
 have Fw8 := q7.same W8
 have O8 := O6.wr W8 g_o0
 have K8 : Keep h0 h8 ([o0] : List Addr) := Keep.wr K6 W8 (Or.inl (List.mem_of_getElem? (i := 0) rfl))
 have N8 := Fr.snoc X8 N6 g_o0
 have q9 := (Fw6.other W8 (Or.inr (slot_ne (Or.inr (own_w23 hw)) (Or.inr (own_w22 hw)) (by decide) (t := .byte) (t' := (.array .byte)) (by decide) (by decide))))
 have ne10 : b1_3 ≠ o0 := (Ne.symm (Nat.ne_of_lt (Nat.lt_of_lt_of_le E_o0.lt (Nat.le_trans (Nat.le_refl _) sz_b1_3))))
 have q11 := ((P3_0.other W6 ne10).other W8 ne10)
 exact Home.ret0 X8 hx hlk hret (hb hby d3_57) (by rw [show T8.heap = h8 from e8]; exact ⟨b1_3, k1_3, rfl, N8, (Nat.le_trans (Nat.le_refl _) sz_b1_3), K8, (E_o0.keep K8), q9, Fw8, q11⟩) (by decide) (by decide)
theorem rm2_1 (l : Launch) (Z : State) (a0 : Array Value) (hw : HW a0 Z) (ws : List Jvm.Cond) (o0 o1 : Addr) (k_o1 : ClassId) (u1 sv_COMPACT_STRINGS : Int32) (h0 : Heap) (n0 : Nat) (O0 : Old Z n0 h0) (V_o1 : Arv Z h0 o1 k_o1 .char (1 : Int32) [(.int u1)] (.int 0)) (S_COMPACT_STRINGS : Sta Z Z.heap "java/lang/String" "COMPACT_STRINGS" "Z" (.int sv_COMPACT_STRINGS)) (E_o0 : Exa Z h0 o0 "java/lang/String") (F_coder_o0 : Fld Z h0 o0 "java/lang/String" "coder" "B" (.int 0)) (F_value_o0 : Fld Z h0 o0 "java/lang/String" "value" "[B" .null) (bnd_u1 : ¬ u1 < (0 : Int32) ∧ ¬ (255 : Int32) < u1) (g_o0 : n0 ≤ o0) (hCS : ¬ (sv_COMPACT_STRINGS = (0 : Int32))) :
    Con l Z (⟨"java/lang/String", "<init>", "([C)V"⟩ : MethodName) jdk_42_method_3_code 2 none ws ({ frames := 3, cells := 1, slots := 1, locals := 52 } : Room) #[(.ref o0), (.ref o1)] h0 (fun v h L => ∃ (b1_3_2 : Addr), ∃ (k1_3_2 : ClassId), v = none ∧ Fr n0 L ∧ h0.size ≤ b1_3_2 ∧ Keep h0 h [o0] ∧ Exa Z h o0 "java/lang/String" ∧ Fld Z h o0 "java/lang/String" "coder" "B" (.int 0) ∧ Fld Z h o0 "java/lang/String" "value" "[B" (.ref b1_3_2) ∧ Arv Z h b1_3_2 k1_3_2 .byte (1 : Int32) [(.int (u1.toInt8.toInt32))] (.int 0)) := by
 refine own_body (plainFor_of_name own_pn0) (fun m => ef_rm2_1 m o0 o1) ?_
 intro p e s m below meth c s₁ hx hby hlk hml hret hZ hown hnm X0 e0
 have N0 := Fr.nil n0
 refine Home.run X0 hx hby sg2_0_4 (pc' := 4) (L' := #[sr o0, sr o1]) (S' := [(.ref o1), (.int 0), (.ref o1), (.ref o0)]) rfl ?_
 obtain ⟨cl1, Ar1, q1, S1, M1, H1, G1⟩ := id V_o1
 refine Home.go (own_alen X0 hx hZ e0 Ar1 S1 M1 rfl rfl (hb hby d2_4)) ?_
 refine Home.run X0 hx hby sg2_5_1 (pc' := 6) (L' := #[sr o0, sr o1]) (S' := [.null, (.int 1), (.int 0), (.ref o1), (.ref o0)]) rfl ?_
 refine Home.call (own_special X0 hx hZ hown rfl (own_w13 hw) (own_w14 hw) (own_w8 hw) (own_w16 hw) (by decide) (rm3_1 l Z a0 hw [] o0 o1 sv_COMPACT_STRINGS k_o1 u1 h0 n0 O0 S_COMPACT_STRINGS hCS V_o1 bnd_u1 E_o0 F_coder_o0 g_o0 F_value_o0) e0 rfl (by rw [hml]; rfl) (a := o0) (argsL := [(.ref o1), (.int 0), (.int 1), .null]) (rest := []) (lenOf own_pd0 rfl) rfl rfl (W := 0) (by exact hW0) (by decide) (by decide) (hb hby d2_6) (by decide) (by decide)) ?_
 rintro _ T2 L2 X2 ⟨b1_3_2, k1_3_2, rfl, N2q, sz_b1_3_2, K2q, P2_0, P2_1, P2_2, P2_3⟩
 have g_b1_3_2 : n0 ≤ b1_3_2 := Nat.le_trans (Old.le O0) sz_b1_3_2
 have O2 := Old.keep O0 K2q (allS g_o0 all0)
 have K2 : Keep h0 T2.heap ([o0] : List Addr) := Keep.trans (Keep.refl h0 ([o0] : List Addr)) K2q (allS (Or.inl (List.mem_of_getElem? (i := 0) rfl)) all0)
 have N2 := Fr.app N0 N2q
 exact Home.ret0 X2 hx hlk hret (hb hby d2_9) ⟨b1_3_2, k1_3_2, rfl, N2, (Nat.le_trans (Nat.le_refl _) sz_b1_3_2), K2, P2_0, P2_1, P2_2, P2_3⟩ (by decide) (by decide)
theorem rm1_1 (l : Launch) (Z : State) (a0 : Array Value) (hw : HW a0 Z) (ws : List Jvm.Cond) (i1 i2 i3 i4 i5 i6 sv_COMPACT_STRINGS : Int32) (sv_SIOOBE_FORMATTER : Value) (h0 : Heap) (n0 : Nat) (O0 : Old Z n0 h0) (bnd_i1 : ¬ i1 < (0 : Int32) ∧ ¬ (57 : Int32) < i1) (bnd_i2 : ¬ i2 < (0 : Int32) ∧ ¬ (57 : Int32) < i2) (bnd_i3 : ¬ i3 < (0 : Int32) ∧ ¬ (57 : Int32) < i3) (bnd_i4 : ¬ i4 < (0 : Int32) ∧ ¬ (57 : Int32) < i4) (bnd_i5 : ¬ i5 < (0 : Int32) ∧ ¬ (57 : Int32) < i5) (bnd_i6 : ¬ i6 < (0 : Int32) ∧ ¬ (57 : Int32) < i6) (S_COMPACT_STRINGS : Sta Z Z.heap "java/lang/String" "COMPACT_STRINGS" "Z" (.int sv_COMPACT_STRINGS)) (S_SIOOBE_FORMATTER : Sta Z Z.heap "jdk/internal/util/Preconditions" "SIOOBE_FORMATTER" "Ljava/util/function/BiFunction;" sv_SIOOBE_FORMATTER) (hCS : ¬ (sv_COMPACT_STRINGS = (0 : Int32))) (isr_sv_SIOOBE_FORMATTER : sv_SIOOBE_FORMATTER.isRef = true) :
    ConW l Z own_EL ([] : List Addr) true (⟨"com/example/tryst/tryst/encoding/Base58DecodePinLaw", "build", "(IIIIIII)Ljava/lang/String;"⟩ : MethodName) method_4_code 7 (some (.object "java/lang/String")) ws ({ frames := 5, cells := 5, slots := 242, locals := 70 } : Room) #[(.int 1), (.int i1), (.int i2), (.int i3), (.int i4), (.int i5), (.int i6)] h0 (fun v h L => ∃ (b1 : Addr), ∃ (b1_3_2_11 : Addr), ∃ (k1_3_2_11 : ClassId), v = some (.ref b1) ∧ Fr n0 L ∧ h0.size ≤ b1 ∧ h0.size ≤ b1_3_2_11 ∧ Keep h0 h [] ∧ Exa Z h b1 "java/lang/String" ∧ Fld Z h b1 "java/lang/String" "value" "[B" (.ref b1_3_2_11) ∧ Fld Z h b1 "java/lang/String" "coder" "B" (.int 0) ∧ Arv Z h b1_3_2_11 k1_3_2_11 .byte (1 : Int32) [(.int ((nar .char ((own_at own_TI0 i1) &&& (255 : Int32))).toInt8.toInt32))] (.int 0)) := by
 refine own_bodyW (plainFor_of_name own_pn1) (fun m => ef_rm1_1 m (1 : Int32) i1 i2 i3 i4 i5 i6) ?_
 intro p e s m below meth c s₁ hx hby hlk hml hret hZ hown hnm X0 e0 Cd0
 have N0 := Fr.nil n0
 refine Home.run X0 hx hby sg1_0_1 (pc' := 1) (L' := #[si 1, si i1, si i2, si i3, si i4, si i5, si i6]) (S' := [(.int 1)]) rfl ?_
 refine Home.go (fun _ => XS.ifYes X0.here hx rfl (pc0 := 1) (pc' := 15) rfl (hb hby d1_1) rfl ((if0 _ _).trans (feq (by decide)).2) (by decide) (by decide)) ?_
 refine Home.run X0 hx hby sg1_15_2 (pc' := 17) (L' := #[si 1, si i1, si i2, si i3, si i4, si i5, si i6]) (S' := [(.int 1), (.int 1)]) rfl ?_
 refine Home.go (fun _ => XS.icmpNo X0.here hx rfl (hb hby d1_17) rfl (teq (by decide)).2) ?_
 refine Home.nw (own_newO X0 hx hZ hown (own_w6 hw) (own_w7 hw) (own_w8 hw) e0 rfl (hb hby d1_20) (by decide) (by decide)) fun T1 h1 b1 g1 X1 e1 E1 A1 D1 => ?_
 have g_b1 : n0 ≤ b1 := Nat.le_trans (Old.le O0) (Nat.le_of_eq g1.symm)
 have F_value_b1 : Fld Z h1 b1 "java/lang/String" "value" "[B" .null := D1 (Or.inr (own_w22 hw)) (ty := (.array .byte)) (by decide)
 have F_coder_b1 : Fld Z h1 b1 "java/lang/String" "coder" "B" (.int 0) := D1 (Or.inr (own_w23 hw)) (ty := .byte) (by decide)
 have O1 := O0.ext E1
 have K1 : Keep h0 h1 ([] : List Addr) := Keep.ext (Keep.refl h0 ([] : List Addr)) E1
 have Cd1 := Cold.add Cd0 E1 (Nat.le_of_eq g1.symm) A1.lt
 refine Home.run X1 hx hby sg1_23_2 (pc' := 25) (L' := #[si 1, si i1, si i2, si i3, si i4, si i5, si i6]) (S' := [(.int 1), (.ref b1), (.ref b1)]) rfl ?_
 refine Home.na (own_newP (aty := .char) X1 hx hZ (own_w9 hw) e1 (g := (mkF m 25 #[.val (.int 1), .val (.int i1), .val (.int i2), .val (.int i3), .val (.int i4), .val (.int i5), .val (.int i6)] [(.int 1), (.ref b1), (.ref b1)])) rfl (hb hby d1_25) rfl (by decide) (cap := 1) (by decide) (by decide) (by decide) (by decide)) fun T2 h2 k2 b2 g2 X2 e2 E2 A2 => ?_
 have g_b2 : n0 ≤ b2 := Nat.le_trans (Old.le O1) (Nat.le_of_eq g2.symm)
 have V2 : Arv Z h2 b2 k2 .char (1 : Int32) [(.int 0)] (.int 0) := (Arv.new A2 (by decide)).pad (pad_rep [] (.int 0) 1)
 have O2 := O1.ext E2
 have K2 : Keep h0 h2 ([] : List Addr) := Keep.ext K1 E2
 have Cd2 := Cold.ext Cd1 E2
 show Home T2 (mkF m 27 #[si 1, si i1, si i2, si i3, si i4, si i5, si i6] [(.ref b2), (.ref b1), (.ref b1)])
 refine Home.run X2 hx hby sg1_27_3 (pc' := 30) (L' := #[si 1, si i1, si i2, si i3, si i4, si i5, si i6]) (S' := [(.int i1), (.int 0), (.ref b2), (.ref b2), (.ref b1), (.ref b1)]) rfl ?_
 refine Home.call (own_staticW X2 hx hZ hown (own_hEL hw) Cd2 all0 (own_w55 hw) (own_w56 hw) (own_w4 hw) (own_w57 hw) (by decide) (rm12_0 l Z a0 hw [] i1 sv_COMPACT_STRINGS sv_SIOOBE_FORMATTER h2 n0 O2 bnd_i1 S_COMPACT_STRINGS S_SIOOBE_FORMATTER hCS isr_sv_SIOOBE_FORMATTER) e2 rfl (by rw [hml]; rfl) (argsL := [(.int i1)]) (rest := [(.int 0), (.ref b2), (.ref b2), (.ref b1), (.ref b1)]) (lenOf own_pd14 rfl) rfl rfl (W := 5) (by exact hW0) (by decide) (by decide) (hb hby d1_30) (by decide) (by decide)) ?_
 rintro _ T3 L3 X3 ⟨⟨rfl, N3q, K3q⟩, hZ, hown, Cd3, sR3⟩
 have O3 := Old.keep O2 K3q all0
 have K3 : Keep h0 T3.heap ([] : List Addr) := Keep.trans K2 K3q all0
 have N3 := Fr.app N0 N3q
 show Home T3 (mkF m 33 #[si 1, si i1, si i2, si i3, si i4, si i5, si i6] [(.int (nar .char ((own_at own_TI0 i1) &&& (255 : Int32)))), (.int 0), (.ref b2), (.ref b2), (.ref b1), (.ref b1)])
 obtain ⟨r4, hr4⟩ : ∃ z, z = (nar .char ((own_at own_TI0 i1) &&& (255 : Int32))) := ⟨_, rfl⟩
 rw [← hr4]
 have br4 : ¬ r4 < (0 : Int32) ∧ ¬ (255 : Int32) < r4 := by rw [hr4]; rw [nar_char_id (bnd_and (own_at own_TI0 i1) (255 : Int32) (by decide)) (by decide +kernel) (by decide +kernel)]; exact (bnd_and (own_at own_TI0 i1) (255 : Int32) (by decide))
 have q5 := (V2.keep K3q nin0)
 obtain ⟨cl6, Ar6, q6, S6, M6, H6, G6⟩ := id q5
 refine Home.wr (stC X3 hx hZ rfl Ar6 (j := (0 : Int32)) (inb_of S6 ⟨by decide, by decide⟩) rfl rfl (hb hby d1_33)) fun T6 h6 X6 e6 W6 => ?_
 have W6' := Wr.to W6 (congrArg Value.int (nar_char_id br4 (by decide +kernel) (by decide +kernel)))
 have V6 : Arv Z h6 b2 k2 .char (1 : Int32) [(.int r4)] (.int 0) := Arv.set Ar6 q6 S6 M6 H6 G6 (fits_char_b br4 (by decide +kernel) (by decide +kernel)) W6' 0 rfl (Nat.le_of_ble_eq_true rfl)
 have O6 := O3.wr W6 g_b2
 have K6 : Keep h0 h6 ([] : List Addr) := Keep.wr K3 W6 (Or.inr (Nat.le_trans E1.1 (Nat.le_of_eq g2.symm)))
 have Cd6 := Cold.wr Cd3 W6 (Safe.arv hZ.alike q5 (by simp))
 have N6 := Fr.snoc X6 N3 g_b2
 have q7 := (((A1.ext E2).keep K3q).wr W6)
 have ne8 : b1 ≠ b2 := (Nat.ne_of_lt (Nat.lt_of_lt_of_le A1.lt (Nat.le_trans (Nat.le_refl _) (Nat.le_of_eq g2.symm))))
 have q9 := (((F_coder_b1.ext E2).keep K3q nin0).other W6 (Or.inl ne8))
 have q10 := (((F_value_b1.ext E2).keep K3q nin0).other W6 (Or.inl ne8))
 refine Home.call (own_special X6 hx hZ hown rfl (own_w10 hw) (own_w11 hw) (own_w8 hw) (own_w12 hw) (by decide) (rm2_1 l Z a0 hw [] b1 b2 k2 r4 sv_COMPACT_STRINGS h6 n0 O6 V6 S_COMPACT_STRINGS q7 q9 q10 br4 g_b1 hCS) e6 rfl (by rw [hml]; rfl) (a := b1) (argsL := [(.ref b2)]) (rest := [(.ref b1)]) (lenOf own_pd1 rfl) rfl rfl (W := 1) (by exact hW0) (by decide) (by decide) (hb hby d1_34) (by decide) (by decide)) ?_
 rintro _ T11 L11 X11 ⟨b1_3_2_11, k1_3_2_11, rfl, N11q, sz_b1_3_2_11, K11q, P11_0, P11_1, P11_2, P11_3⟩
 have Cd11 := Cold.keep Cd6 K11q (allS (Cold.safe Cd6 (List.mem_of_getElem? (i := 0) rfl)) all0)
 have Cd11b1_3_2_11 := Cold.put Cd11 ⟨Safe.keep K11q (allS (Cold.safe Cd6 (List.mem_of_getElem? (i := 0) rfl)) all0) Cd6.2.1.1 (Safe.new sz_b1_3_2_11), P11_3.lt⟩
 have g_b1_3_2_11 : n0 ≤ b1_3_2_11 := Nat.le_trans (Old.le O6) sz_b1_3_2_11
 have O11 := Old.keep O6 K11q (allS g_b1 all0)
 have K11 : Keep h0 T11.heap ([] : List Addr) := Keep.trans K6 K11q (allS (Or.inr (Nat.le_trans (Nat.le_refl _) (Nat.le_of_eq g1.symm))) all0)
 have N11 := Fr.app N6 N11q
 show Home T11 (mkF m 37 #[si 1, si i1, si i2, si i3, si i4, si i5, si i6] [(.ref b1)])
 have le12 : h0.size ≤ h2.size := Nat.le_trans E1.1 E2.1
 have le13 : h0.size ≤ T3.heap.size := Nat.le_trans le12 K3q.1
 have le14 : h0.size ≤ h6.size := Nat.le_trans le13 (Nat.le_of_eq W6.size.symm)
 subst hr4
 exact HomeW.retR X11 hx hlk hZ (own_hEL hw) rfl Cd11b1_3_2_11 (fun _ _ q => by cases q; exact (List.mem_of_getElem? (i := 1) rfl)) hret rfl rfl (hb hby d1_37) ⟨b1, b1_3_2_11, k1_3_2_11, rfl, N11, (Nat.le_trans (Nat.le_refl _) (Nat.le_of_eq g1.symm)), (Nat.le_trans le14 sz_b1_3_2_11), K11, P11_0, P11_2, P11_1, P11_3⟩ (by decide) (by decide)
theorem rm6_1 (l : Launch) (Z : State) (a0 : Array Value) (hw : HW a0 Z) (ws : List Jvm.Cond) (o0 p2 : Addr) (k_p2 : ClassId) (l_1 : List Int32) (sv_COMPACT_STRINGS : Int32) (h0 : Heap) (n0 : Nat) (O0 : Old Z n0 h0) (F_value_o0 : Fld Z h0 o0 "java/lang/String" "value" "[B" (.ref p2)) (V_p2 : Arv Z h0 p2 k_p2 .byte (own_n l_1) (List.map Value.int l_1) (.int 0)) (E_o0 : Exa Z h0 o0 "java/lang/String") (S_COMPACT_STRINGS : Sta Z Z.heap "java/lang/String" "COMPACT_STRINGS" "Z" (.int sv_COMPACT_STRINGS)) (F_coder_o0 : Fld Z h0 o0 "java/lang/String" "coder" "B" (.int 0)) (hCS : ¬ (sv_COMPACT_STRINGS = (0 : Int32))) (sh_l_1 : l_1.length ≤ 6) :
    Con l Z (⟨"java/lang/String", "length", "()I"⟩ : MethodName) jdk_42_method_54_code 1 (some .int) ws ({ frames := 1, cells := 0, slots := 0, locals := 13 } : Room) #[(.ref o0)] h0 (Pur (some (.int (own_n l_1))) h0) := by
 refine own_body (plainFor_of_name own_pn0) (fun m => ef_rm6_1 m o0) ?_
 intro p e s m below meth c s₁ hx hby hlk hml hret hZ hown hnm X0 e0
 have N0 := Fr.nil n0
 refine Home.run X0 hx hby sg6_0_1 (pc' := 1) (L' := #[sr o0]) (S' := [(.ref o0)]) rfl ?_
 refine Home.st (getF X0 hx hZ hown (host := "") (Or.inl (own_w26 hw)) Via.refl e0 F_value_o0 rfl rfl (hb hby d6_1)) fun T1 X1 e1 => ?_
 obtain ⟨cl2, Ar2, q2, S2, M2, H2, G2⟩ := id V_p2
 refine Home.go (own_alen X1 hx hZ e1 Ar2 S2 M2 rfl rfl (hb hby d6_4)) ?_
 refine Home.run X1 hx hby sg6_5_1 (pc' := 6) (L' := #[sr o0]) (S' := [(.ref o0), (.int (own_n l_1))]) rfl ?_
 refine Home.st (own_pure (own_virtual X1 hx hZ hown (own_w37 hw) (own_w38 hw) (notFace_of_selects (args := #[]) (mvT hZ (own_w40 hw))) (own_w40 hw) (own_w39 hw) (own_w8 hw) (own_w41 hw) (by decide) (rm7_0 l Z a0 hw [] o0 sv_COMPACT_STRINGS h0 n0 O0 S_COMPACT_STRINGS hCS F_coder_o0) e1 E_o0 rfl (by rw [hml]; rfl) (argsL := []) (rest := [(.int (own_n l_1))]) (lenOf own_pd3 rfl) rfl rfl (W := 1) (by exact hW0) (by decide) (by decide) (hb hby d6_6) (by decide) (by decide))) fun T3 X3 e3 => ?_
 refine Home.run X3 hx hby sg6_9_1 (pc' := 10) (L' := #[sr o0]) (S' := [(.int ((own_n l_1) >>> ((0 : Int32) &&& 31)))]) rfl ?_
 rw [own_shr0]
 exact Home.retI X3 hx hlk hret (hb hby d6_10) ⟨rfl, rfl, e3⟩ (by decide) (by decide)
theorem rm17_1 (l : Launch) (Z : State) (a0 : Array Value) (hw : HW a0 Z) (ws : List Jvm.Cond) (o2 : Value) (l_1 : List Int32) (h0 : Heap) (n0 : Nat) (O0 : Old Z n0 h0) (pt0 : (0 : Int32) < (own_n l_1)) (isr_o2 : o2.isRef = true) :
    Con l Z (⟨"jdk/internal/util/Preconditions", "checkIndex", "(IILjava/util/function/BiFunction;)I"⟩ : MethodName) jdk_41_method_11_code 3 (some .int) ws ({ frames := 0, cells := 0, slots := 0, locals := 0 } : Room) #[(.int 0), (.int (own_n l_1)), o2] h0 (Pur (some (.int 0)) h0) := by
 refine own_body (plainFor_of_name own_pn3) (fun m => ef_rm17_1 m (0 : Int32) (own_n l_1) o2 (isr_o2)) ?_
 intro p e s m below meth c s₁ hx hby hlk hml hret hZ hown hnm X0 e0
 have N0 := Fr.nil n0
 have bd901 : ¬ (own_n l_1) < (1 : Int32) ∧ ¬ (2147483647 : Int32) < (own_n l_1) := ⟨(bnd_up pt0 (by decide +kernel)), (bnd_all (own_n l_1)).2⟩
 refine Home.run X0 hx hby sg17_0_1 (pc' := 1) (L' := #[si 0, .val (.int (own_n l_1)), .val o2]) (S' := [(.int 0)]) rfl ?_
 refine Home.go (fun _ => XS.ifNo X0.here hx rfl (hb hby d17_1) rfl ((if0 _ _).trans (flt (by decide)).1)) ?_
 refine Home.run X0 hx hby sg17_4_2 (pc' := 6) (L' := #[si 0, .val (.int (own_n l_1)), .val o2]) (S' := [(.int (own_n l_1)), (.int 0)]) rfl ?_
 refine Home.go (fun _ => XS.icmpYes X0.here hx rfl (pc0 := 6) (pc' := 16) rfl (hb hby d17_6) rfl (tlt pt0).1 (by decide) (by decide)) ?_
 refine Home.run X0 hx hby sg17_16_1 (pc' := 17) (L' := #[si 0, .val (.int (own_n l_1)), .val o2]) (S' := [(.int 0)]) rfl ?_
 exact Home.retI X0 hx hlk hret (hb hby d17_17) ⟨rfl, rfl, e0⟩ (by decide) (by decide)
theorem rm16_1 (l : Launch) (Z : State) (a0 : Array Value) (hw : HW a0 Z) (ws : List Jvm.Cond) (l_1 : List Int32) (sv_SIOOBE_FORMATTER : Value) (h0 : Heap) (n0 : Nat) (O0 : Old Z n0 h0) (pt0 : (0 : Int32) < (own_n l_1)) (S_SIOOBE_FORMATTER : Sta Z Z.heap "jdk/internal/util/Preconditions" "SIOOBE_FORMATTER" "Ljava/util/function/BiFunction;" sv_SIOOBE_FORMATTER) (isr_sv_SIOOBE_FORMATTER : sv_SIOOBE_FORMATTER.isRef = true) :
    Con l Z (⟨"java/lang/String", "checkIndex", "(II)V"⟩ : MethodName) jdk_42_method_155_code 2 none ws ({ frames := 1, cells := 0, slots := 0, locals := 14 } : Room) #[(.int 0), (.int (own_n l_1))] h0 (Pur none h0) := by
 refine own_body (plainFor_of_name own_pn0) (fun m => ef_rm16_1 m (0 : Int32) (own_n l_1)) ?_
 intro p e s m below meth c s₁ hx hby hlk hml hret hZ hown hnm X0 e0
 have N0 := Fr.nil n0
 have bd901 : ¬ (own_n l_1) < (1 : Int32) ∧ ¬ (2147483647 : Int32) < (own_n l_1) := ⟨(bnd_up pt0 (by decide +kernel)), (bnd_all (own_n l_1)).2⟩
 refine Home.run X0 hx hby sg16_0_2 (pc' := 2) (L' := #[si 0, .val (.int (own_n l_1))]) (S' := [(.int (own_n l_1)), (.int 0)]) rfl ?_
 refine Home.st (getS2 X0 hx hZ hown (host := "") (Or.inl (own_w76 hw)) Via.refl e0 (S_SIOOBE_FORMATTER.ext O0.2) rfl (hb hby d16_2)) fun T1 X1 e1 => ?_
 refine Home.st (own_pure (own_static X1 hx hZ hown (own_w78 hw) (own_w79 hw) (own_w77 hw) (own_w80 hw) (by decide) (rm17_1 l Z a0 hw [] sv_SIOOBE_FORMATTER l_1 h0 n0 O0 pt0 isr_sv_SIOOBE_FORMATTER) e1 rfl (by rw [hml]; rfl) (argsL := [(.int 0), (.int (own_n l_1)), sv_SIOOBE_FORMATTER]) (rest := []) (lenOf own_pd11 rfl) rfl rfl (W := 0) (by exact hW0) (by decide) (by decide) (hb hby d16_5) (by decide) (by decide))) fun T2 X2 e2 => ?_
 refine Home.run X2 hx hby sg16_8_1 (pc' := 9) (L' := #[si 0, .val (.int (own_n l_1))]) (S' := []) rfl ?_
 exact Home.ret0 X2 hx hlk hret (hb hby d16_9) ⟨rfl, rfl, e2⟩ (by decide) (by decide)
theorem rm15_1 (l : Launch) (Z : State) (a0 : Array Value) (hw : HW a0 Z) (ws : List Jvm.Cond) (o0 : Addr) (k_o0 : ClassId) (l_1 : List Int32) (sv_SIOOBE_FORMATTER : Value) (h0 : Heap) (n0 : Nat) (O0 : Old Z n0 h0) (pt0 : (0 : Int32) < (own_n l_1)) (V_o0 : Arv Z h0 o0 k_o0 .byte (own_n l_1) (List.map Value.int l_1) (.int 0)) (S_SIOOBE_FORMATTER : Sta Z Z.heap "jdk/internal/util/Preconditions" "SIOOBE_FORMATTER" "Ljava/util/function/BiFunction;" sv_SIOOBE_FORMATTER) (isr_sv_SIOOBE_FORMATTER : sv_SIOOBE_FORMATTER.isRef = true) :
    Con l Z (⟨"java/lang/StringLatin1", "charAt", "([BI)C"⟩ : MethodName) jdk_43_method_2_code 2 (some .char) ws ({ frames := 2, cells := 0, slots := 0, locals := 27 } : Room) #[(.ref o0), (.int 0)] h0 (Pur (some (.int ((own_at l_1 (0 : Int32)) &&& (255 : Int32)))) h0) := by
 refine own_body (plainFor_of_name own_pn4) (fun m => ef_rm15_1 m o0 (0 : Int32)) ?_
 intro p e s m below meth c s₁ hx hby hlk hml hret hZ hown hnm X0 e0
 have N0 := Fr.nil n0
 have bd901 : ¬ (own_n l_1) < (1 : Int32) ∧ ¬ (2147483647 : Int32) < (own_n l_1) := ⟨(bnd_up pt0 (by decide +kernel)), (bnd_all (own_n l_1)).2⟩
 refine Home.run X0 hx hby sg15_0_2 (pc' := 2) (L' := #[sr o0, si 0]) (S' := [(.ref o0), (.int 0)]) rfl ?_
 obtain ⟨cl1, Ar1, q1, S1, M1, H1, G1⟩ := id V_o0
 refine Home.go (own_alen X0 hx hZ e0 Ar1 S1 M1 rfl rfl (hb hby d15_2)) ?_
 refine Home.st (own_pure (own_static X0 hx hZ hown (own_w73 hw) (own_w74 hw) (own_w8 hw) (own_w75 hw) (by decide) (rm16_1 l Z a0 hw [] l_1 sv_SIOOBE_FORMATTER h0 n0 O0 pt0 S_SIOOBE_FORMATTER isr_sv_SIOOBE_FORMATTER) e0 rfl (by rw [hml]; rfl) (argsL := [(.int 0), (.int (own_n l_1))]) (rest := []) (lenOf own_pd12 rfl) rfl rfl (W := 0) (by exact hW0) (by decide) (by decide) (hb hby d15_3) (by decide) (by decide))) fun T2 X2 e2 => ?_
 refine Home.run X2 hx hby sg15_6_2 (pc' := 8) (L' := #[sr o0, si 0]) (S' := [(.int 0), (.ref o0)]) rfl ?_
 obtain ⟨cl3, Ar3, q3, S3, M3, H3, G3⟩ := id V_o0
 have ib3 : ¬ ((0 : Int32) < 0 ∨ cl3.slots.size ≤ ((0 : Int32)).toNatClampNeg) := inb_of S3 ⟨(by decide), pt0⟩
 refine Home.go (X2.baloadBytes hx (j := (0 : Int32)) (v := .int (own_at l_1 (0 : Int32))) (by rw [e2]; exact Ar3.1) (State.isArrayOf_alike hZ.alike Ar3.2.1) Ar3.2.2 ib3 (Has.at H3 ib3 (own_getD l_1 _)) rfl rfl (hb hby d15_8)) ?_
 refine Home.run X2 hx hby sg15_9_3 (pc' := 14) (L' := #[sr o0, si 0]) (S' := [(.int (((own_at l_1 (0 : Int32)) &&& (255 : Int32)).toUInt32.toUInt16.toUInt32.toInt32))]) rfl ?_
 rw [i2c_id (bnd_and (own_at l_1 (0 : Int32)) (255 : Int32) (by decide)) (by decide +kernel) (by decide +kernel)]
 exact Home.retN X2 hx hlk (t := .char) hret (by simp) (hb hby d15_14) ⟨congrArg some (congrArg Value.int (by first | rfl | exact nar_i2c _ | exact nar_i2b _ | exact nar_char_id (bnd_and (own_at l_1 (0 : Int32)) (255 : Int32) (by decide)) (by decide +kernel) (by decide +kernel))), rfl, e2⟩ (by decide) (by decide)
theorem rm13_1 (l : Launch) (Z : State) (a0 : Array Value) (hw : HW a0 Z) (ws : List Jvm.Cond) (o0 : Addr) (sv_COMPACT_STRINGS : Int32) (p2 : Addr) (k_p2 : ClassId) (l_1 : List Int32) (sv_SIOOBE_FORMATTER : Value) (h0 : Heap) (n0 : Nat) (O0 : Old Z n0 h0) (pt0 : (0 : Int32) < (own_n l_1)) (E_o0 : Exa Z h0 o0 "java/lang/String") (S_COMPACT_STRINGS : Sta Z Z.heap "java/lang/String" "COMPACT_STRINGS" "Z" (.int sv_COMPACT_STRINGS)) (F_coder_o0 : Fld Z h0 o0 "java/lang/String" "coder" "B" (.int 0)) (hCS : ¬ (sv_COMPACT_STRINGS = (0 : Int32))) (F_value_o0 : Fld Z h0 o0 "java/lang/String" "value" "[B" (.ref p2)) (V_p2 : Arv Z h0 p2 k_p2 .byte (own_n l_1) (List.map Value.int l_1) (.int 0)) (S_SIOOBE_FORMATTER : Sta Z Z.heap "jdk/internal/util/Preconditions" "SIOOBE_FORMATTER" "Ljava/util/function/BiFunction;" sv_SIOOBE_FORMATTER) (isr_sv_SIOOBE_FORMATTER : sv_SIOOBE_FORMATTER.isRef = true) :
    Con l Z (⟨"java/lang/String", "charAt", "(I)C"⟩ : MethodName) jdk_42_method_56_code 2 (some .char) ws ({ frames := 3, cells := 0, slots := 0, locals := 40 } : Room) #[(.ref o0), (.int 0)] h0 (Pur (some (.int ((own_at l_1 (0 : Int32)) &&& (255 : Int32)))) h0) := by
 refine own_body (plainFor_of_name own_pn0) (fun m => ef_rm13_1 m o0 (0 : Int32)) ?_
 intro p e s m below meth c s₁ hx hby hlk hml hret hZ hown hnm X0 e0
 have N0 := Fr.nil n0
 have bd901 : ¬ (own_n l_1) < (1 : Int32) ∧ ¬ (2147483647 : Int32) < (own_n l_1) := ⟨(bnd_up pt0 (by decide +kernel)), (bnd_all (own_n l_1)).2⟩
 refine Home.run X0 hx hby sg13_0_1 (pc' := 1) (L' := #[sr o0, si 0]) (S' := [(.ref o0)]) rfl ?_
 refine Home.st (own_pure (own_virtual X0 hx hZ hown (own_w64 hw) (own_w65 hw) (notFace_of_selects (args := #[]) (mvT hZ (own_w67 hw))) (own_w67 hw) (own_w66 hw) (own_w8 hw) (own_w68 hw) (by decide) (rm14_0 l Z a0 hw [] o0 sv_COMPACT_STRINGS h0 n0 O0 S_COMPACT_STRINGS hCS F_coder_o0) e0 E_o0 rfl (by rw [hml]; rfl) (argsL := []) (rest := []) (lenOf own_pd10 rfl) rfl rfl (W := 0) (by exact hW0) (by decide) (by decide) (hb hby d13_1) (by decide) (by decide))) fun T1 X1 e1 => ?_
 refine Home.go (fun _ => XS.ifNo X1.here hx rfl (hb hby d13_4) rfl ((if0 _ _).trans (feq (by decide)).1)) ?_
 refine Home.run X1 hx hby sg13_7_1 (pc' := 8) (L' := #[sr o0, si 0]) (S' := [(.ref o0)]) rfl ?_
 refine Home.st (getF X1 hx hZ hown (host := "") (Or.inl (own_w26 hw)) Via.refl e1 F_value_o0 rfl rfl (hb hby d13_8)) fun T2 X2 e2 => ?_
 refine Home.run X2 hx hby sg13_11_1 (pc' := 12) (L' := #[sr o0, si 0]) (S' := [(.int 0), (.ref p2)]) rfl ?_
 refine Home.st (own_pure (own_static X2 hx hZ hown (own_w69 hw) (own_w70 hw) (own_w71 hw) (own_w72 hw) (by decide) (rm15_1 l Z a0 hw [] p2 k_p2 l_1 sv_SIOOBE_FORMATTER h0 n0 O0 pt0 V_p2 S_SIOOBE_FORMATTER isr_sv_SIOOBE_FORMATTER) e2 rfl (by rw [hml]; rfl) (argsL := [(.ref p2), (.int 0)]) (rest := []) (lenOf own_pd13 rfl) rfl rfl (W := 0) (by exact hW0) (by decide) (by decide) (hb hby d13_12) (by decide) (by decide))) fun T3 X3 e3 => ?_
 exact Home.retN X3 hx hlk (t := .char) hret (by simp) (hb hby d13_15) ⟨congrArg some (congrArg Value.int (by first | rfl | exact nar_i2c _ | exact nar_i2b _ | exact nar_char_id (bnd_and (own_at l_1 (0 : Int32)) (255 : Int32) (by decide)) (by decide +kernel) (by decide +kernel))), rfl, e3⟩ (by decide) (by decide)
theorem rm17_2 (l : Launch) (Z : State) (a0 : Array Value) (hw : HW a0 Z) (ws : List Jvm.Cond) (i0 : Int32) (o2 : Value) (l_1 : List Int32) (h0 : Heap) (n0 : Nat) (O0 : Old Z n0 h0) (bnd_i0 : ¬ i0 < (0 : Int32) ∧ ¬ (5 : Int32) < i0) (pt0 : i0 < (own_n l_1)) (sh_l_1 : l_1.length ≤ 6) (isr_o2 : o2.isRef = true) :
    Con l Z (⟨"jdk/internal/util/Preconditions", "checkIndex", "(IILjava/util/function/BiFunction;)I"⟩ : MethodName) jdk_41_method_11_code 3 (some .int) ws ({ frames := 0, cells := 0, slots := 0, locals := 0 } : Room) #[(.int i0), (.int (own_n l_1)), o2] h0 (Pur (some (.int i0)) h0) := by
 refine own_body (plainFor_of_name own_pn3) (fun m => ef_rm17_2 m i0 (own_n l_1) o2 (isr_o2)) ?_
 intro p e s m below meth c s₁ hx hby hlk hml hret hZ hown hnm X0 e0
 have N0 := Fr.nil n0
 refine Home.run X0 hx hby sg17_0_1 (pc' := 1) (L' := #[si i0, .val (.int (own_n l_1)), .val o2]) (S' := [(.int i0)]) rfl ?_
 refine Home.go (fun _ => XS.ifNo X0.here hx rfl (hb hby d17_1) rfl ((if0 _ _).trans (flt (bnd_nlt bnd_i0 (bnd_lit (0 : Int32)) (by decide +kernel))).1)) ?_
 refine Home.run X0 hx hby sg17_4_2 (pc' := 6) (L' := #[si i0, .val (.int (own_n l_1)), .val o2]) (S' := [(.int (own_n l_1)), (.int i0)]) rfl ?_
 refine Home.go (fun _ => XS.icmpYes X0.here hx rfl (pc0 := 6) (pc' := 16) rfl (hb hby d17_6) rfl (tlt pt0).1 (by decide) (by decide)) ?_
 refine Home.run X0 hx hby sg17_16_1 (pc' := 17) (L' := #[si i0, .val (.int (own_n l_1)), .val o2]) (S' := [(.int i0)]) rfl ?_
 exact Home.retI X0 hx hlk hret (hb hby d17_17) ⟨rfl, rfl, e0⟩ (by decide) (by decide)
theorem rm16_2 (l : Launch) (Z : State) (a0 : Array Value) (hw : HW a0 Z) (ws : List Jvm.Cond) (i0 : Int32) (l_1 : List Int32) (sv_SIOOBE_FORMATTER : Value) (h0 : Heap) (n0 : Nat) (O0 : Old Z n0 h0) (bnd_i0 : ¬ i0 < (0 : Int32) ∧ ¬ (5 : Int32) < i0) (pt0 : i0 < (own_n l_1)) (sh_l_1 : l_1.length ≤ 6) (S_SIOOBE_FORMATTER : Sta Z Z.heap "jdk/internal/util/Preconditions" "SIOOBE_FORMATTER" "Ljava/util/function/BiFunction;" sv_SIOOBE_FORMATTER) (isr_sv_SIOOBE_FORMATTER : sv_SIOOBE_FORMATTER.isRef = true) :
    Con l Z (⟨"java/lang/String", "checkIndex", "(II)V"⟩ : MethodName) jdk_42_method_155_code 2 none ws ({ frames := 1, cells := 0, slots := 0, locals := 14 } : Room) #[(.int i0), (.int (own_n l_1))] h0 (Pur none h0) := by
 refine own_body (plainFor_of_name own_pn0) (fun m => ef_rm16_2 m i0 (own_n l_1)) ?_
 intro p e s m below meth c s₁ hx hby hlk hml hret hZ hown hnm X0 e0
 have N0 := Fr.nil n0
 refine Home.run X0 hx hby sg16_0_2 (pc' := 2) (L' := #[si i0, .val (.int (own_n l_1))]) (S' := [(.int (own_n l_1)), (.int i0)]) rfl ?_
 refine Home.st (getS2 X0 hx hZ hown (host := "") (Or.inl (own_w76 hw)) Via.refl e0 (S_SIOOBE_FORMATTER.ext O0.2) rfl (hb hby d16_2)) fun T1 X1 e1 => ?_
 refine Home.st (own_pure (own_static X1 hx hZ hown (own_w78 hw) (own_w79 hw) (own_w77 hw) (own_w80 hw) (by decide) (rm17_2 l Z a0 hw [] i0 sv_SIOOBE_FORMATTER l_1 h0 n0 O0 bnd_i0 pt0 (Nat.le_trans (own_len_le sh_l_1).2 (by decide)) isr_sv_SIOOBE_FORMATTER) e1 rfl (by rw [hml]; rfl) (argsL := [(.int i0), (.int (own_n l_1)), sv_SIOOBE_FORMATTER]) (rest := []) (lenOf own_pd11 rfl) rfl rfl (W := 0) (by exact hW0) (by decide) (by decide) (hb hby d16_5) (by decide) (by decide))) fun T2 X2 e2 => ?_
 refine Home.run X2 hx hby sg16_8_1 (pc' := 9) (L' := #[si i0, .val (.int (own_n l_1))]) (S' := []) rfl ?_
 exact Home.ret0 X2 hx hlk hret (hb hby d16_9) ⟨rfl, rfl, e2⟩ (by decide) (by decide)
theorem rm15_2 (l : Launch) (Z : State) (a0 : Array Value) (hw : HW a0 Z) (ws : List Jvm.Cond) (o0 : Addr) (i1 : Int32) (k_o0 : ClassId) (l_1 : List Int32) (sv_SIOOBE_FORMATTER : Value) (h0 : Heap) (n0 : Nat) (O0 : Old Z n0 h0) (bnd_i1 : ¬ i1 < (0 : Int32) ∧ ¬ (5 : Int32) < i1) (pt0 : i1 < (own_n l_1)) (sh_l_1 : l_1.length ≤ 6) (V_o0 : Arv Z h0 o0 k_o0 .byte (own_n l_1) (List.map Value.int l_1) (.int 0)) (S_SIOOBE_FORMATTER : Sta Z Z.heap "jdk/internal/util/Preconditions" "SIOOBE_FORMATTER" "Ljava/util/function/BiFunction;" sv_SIOOBE_FORMATTER) (isr_sv_SIOOBE_FORMATTER : sv_SIOOBE_FORMATTER.isRef = true) :
    Con l Z (⟨"java/lang/StringLatin1", "charAt", "([BI)C"⟩ : MethodName) jdk_43_method_2_code 2 (some .char) ws ({ frames := 2, cells := 0, slots := 0, locals := 27 } : Room) #[(.ref o0), (.int i1)] h0 (Pur (some (.int ((own_at l_1 i1) &&& (255 : Int32)))) h0) := by
 refine own_body (plainFor_of_name own_pn4) (fun m => ef_rm15_2 m o0 i1) ?_
 intro p e s m below meth c s₁ hx hby hlk hml hret hZ hown hnm X0 e0
 have N0 := Fr.nil n0
 refine Home.run X0 hx hby sg15_0_2 (pc' := 2) (L' := #[sr o0, si i1]) (S' := [(.ref o0), (.int i1)]) rfl ?_
 obtain ⟨cl1, Ar1, q1, S1, M1, H1, G1⟩ := id V_o0
 refine Home.go (own_alen X0 hx hZ e0 Ar1 S1 M1 rfl rfl (hb hby d15_2)) ?_
 refine Home.st (own_pure (own_static X0 hx hZ hown (own_w73 hw) (own_w74 hw) (own_w8 hw) (own_w75 hw) (by decide) (rm16_2 l Z a0 hw [] i1 l_1 sv_SIOOBE_FORMATTER h0 n0 O0 bnd_i1 pt0 (Nat.le_trans (own_len_le sh_l_1).2 (by decide)) S_SIOOBE_FORMATTER isr_sv_SIOOBE_FORMATTER) e0 rfl (by rw [hml]; rfl) (argsL := [(.int i1), (.int (own_n l_1))]) (rest := []) (lenOf own_pd12 rfl) rfl rfl (W := 0) (by exact hW0) (by decide) (by decide) (hb hby d15_3) (by decide) (by decide))) fun T2 X2 e2 => ?_
 refine Home.run X2 hx hby sg15_6_2 (pc' := 8) (L' := #[sr o0, si i1]) (S' := [(.int i1), (.ref o0)]) rfl ?_
 obtain ⟨cl3, Ar3, q3, S3, M3, H3, G3⟩ := id V_o0
 have ib3 : ¬ (i1 < 0 ∨ cl3.slots.size ≤ (i1).toNatClampNeg) := inb_of S3 ⟨(bnd_nlt bnd_i1 (bnd_lit (0 : Int32)) (by decide +kernel)), pt0⟩
 refine Home.go (X2.baloadBytes hx (j := i1) (v := .int (own_at l_1 i1)) (by rw [e2]; exact Ar3.1) (State.isArrayOf_alike hZ.alike Ar3.2.1) Ar3.2.2 ib3 (Has.at H3 ib3 (own_getD l_1 _)) rfl rfl (hb hby d15_8)) ?_
 refine Home.run X2 hx hby sg15_9_3 (pc' := 14) (L' := #[sr o0, si i1]) (S' := [(.int (((own_at l_1 i1) &&& (255 : Int32)).toUInt32.toUInt16.toUInt32.toInt32))]) rfl ?_
 rw [i2c_id (bnd_and (own_at l_1 i1) (255 : Int32) (by decide)) (by decide +kernel) (by decide +kernel)]
 exact Home.retN X2 hx hlk (t := .char) hret (by simp) (hb hby d15_14) ⟨congrArg some (congrArg Value.int (by first | rfl | exact nar_i2c _ | exact nar_i2b _ | exact nar_char_id (bnd_and (own_at l_1 i1) (255 : Int32) (by decide)) (by decide +kernel) (by decide +kernel))), rfl, e2⟩ (by decide) (by decide)
theorem rm13_2 (l : Launch) (Z : State) (a0 : Array Value) (hw : HW a0 Z) (ws : List Jvm.Cond) (o0 : Addr) (i1 sv_COMPACT_STRINGS : Int32) (p2 : Addr) (k_p2 : ClassId) (l_1 : List Int32) (sv_SIOOBE_FORMATTER : Value) (h0 : Heap) (n0 : Nat) (O0 : Old Z n0 h0) (pt0 : ¬ (i1 < (0 : Int32))) (pt1 : i1 < (own_n l_1)) (sh_l_1 : l_1.length ≤ 6) (E_o0 : Exa Z h0 o0 "java/lang/String") (S_COMPACT_STRINGS : Sta Z Z.heap "java/lang/String" "COMPACT_STRINGS" "Z" (.int sv_COMPACT_STRINGS)) (F_coder_o0 : Fld Z h0 o0 "java/lang/String" "coder" "B" (.int 0)) (hCS : ¬ (sv_COMPACT_STRINGS = (0 : Int32))) (F_value_o0 : Fld Z h0 o0 "java/lang/String" "value" "[B" (.ref p2)) (V_p2 : Arv Z h0 p2 k_p2 .byte (own_n l_1) (List.map Value.int l_1) (.int 0)) (S_SIOOBE_FORMATTER : Sta Z Z.heap "jdk/internal/util/Preconditions" "SIOOBE_FORMATTER" "Ljava/util/function/BiFunction;" sv_SIOOBE_FORMATTER) (isr_sv_SIOOBE_FORMATTER : sv_SIOOBE_FORMATTER.isRef = true) :
    Con l Z (⟨"java/lang/String", "charAt", "(I)C"⟩ : MethodName) jdk_42_method_56_code 2 (some .char) ws ({ frames := 3, cells := 0, slots := 0, locals := 40 } : Room) #[(.ref o0), (.int i1)] h0 (Pur (some (.int ((own_at l_1 i1) &&& (255 : Int32)))) h0) := by
 refine own_body (plainFor_of_name own_pn0) (fun m => ef_rm13_2 m o0 i1) ?_
 intro p e s m below meth c s₁ hx hby hlk hml hret hZ hown hnm X0 e0
 have N0 := Fr.nil n0
 have bd901 : ¬ i1 < (0 : Int32) ∧ ¬ (2147483647 : Int32) < i1 := ⟨pt0, (bnd_all i1).2⟩
 have bd911 : ¬ i1 < (0 : Int32) ∧ ¬ (5 : Int32) < i1 := ⟨bd901.1, bnd_lt2 pt1 (own_n_b (a := 0) (b := 6) (own_len_le sh_l_1) (lo := (0 : Int32)) (hi := (6 : Int32)) (by decide) (by decide) (by decide)).2 (by decide +kernel)⟩
 refine Home.run X0 hx hby sg13_0_1 (pc' := 1) (L' := #[sr o0, si i1]) (S' := [(.ref o0)]) rfl ?_
 refine Home.st (own_pure (own_virtual X0 hx hZ hown (own_w64 hw) (own_w65 hw) (notFace_of_selects (args := #[]) (mvT hZ (own_w67 hw))) (own_w67 hw) (own_w66 hw) (own_w8 hw) (own_w68 hw) (by decide) (rm14_0 l Z a0 hw [] o0 sv_COMPACT_STRINGS h0 n0 O0 S_COMPACT_STRINGS hCS F_coder_o0) e0 E_o0 rfl (by rw [hml]; rfl) (argsL := []) (rest := []) (lenOf own_pd10 rfl) rfl rfl (W := 0) (by exact hW0) (by decide) (by decide) (hb hby d13_1) (by decide) (by decide))) fun T1 X1 e1 => ?_
 refine Home.go (fun _ => XS.ifNo X1.here hx rfl (hb hby d13_4) rfl ((if0 _ _).trans (feq (by decide)).1)) ?_
 refine Home.run X1 hx hby sg13_7_1 (pc' := 8) (L' := #[sr o0, si i1]) (S' := [(.ref o0)]) rfl ?_
 refine Home.st (getF X1 hx hZ hown (host := "") (Or.inl (own_w26 hw)) Via.refl e1 F_value_o0 rfl rfl (hb hby d13_8)) fun T2 X2 e2 => ?_
 refine Home.run X2 hx hby sg13_11_1 (pc' := 12) (L' := #[sr o0, si i1]) (S' := [(.int i1), (.ref p2)]) rfl ?_
 refine Home.st (own_pure (own_static X2 hx hZ hown (own_w69 hw) (own_w70 hw) (own_w71 hw) (own_w72 hw) (by decide) (rm15_2 l Z a0 hw [] p2 i1 k_p2 l_1 sv_SIOOBE_FORMATTER h0 n0 O0 bd911 pt1 (Nat.le_trans (own_len_le sh_l_1).2 (by decide)) V_p2 S_SIOOBE_FORMATTER isr_sv_SIOOBE_FORMATTER) e2 rfl (by rw [hml]; rfl) (argsL := [(.ref p2), (.int i1)]) (rest := []) (lenOf own_pd13 rfl) rfl rfl (W := 0) (by exact hW0) (by decide) (by decide) (hb hby d13_12) (by decide) (by decide))) fun T3 X3 e3 => ?_
 exact Home.retN X3 hx hlk (t := .char) hret (by simp) (hb hby d13_15) ⟨congrArg some (congrArg Value.int (by first | rfl | exact nar_i2c _ | exact nar_i2b _ | exact nar_char_id (bnd_and (own_at l_1 i1) (255 : Int32) (by decide)) (by decide +kernel) (by decide +kernel))), rfl, e3⟩ (by decide) (by decide)
theorem rm6_2 (l : Launch) (Z : State) (a0 : Array Value) (hw : HW a0 Z) (ws : List Jvm.Cond) (o0 p2 : Addr) (k_p2 : ClassId) (sv_COMPACT_STRINGS : Int32) (h0 : Heap) (n0 : Nat) (O0 : Old Z n0 h0) (F_value_o0 : Fld Z h0 o0 "java/lang/String" "value" "[B" (.ref p2)) (V_p2 : Arv Z h0 p2 k_p2 .byte (58 : Int32) [(.int 49), (.int 50), (.int 51), (.int 52), (.int 53), (.int 54), (.int 55), (.int 56), (.int 57), (.int 65), (.int 66), (.int 67), (.int 68), (.int 69), (.int 70), (.int 71), (.int 72), (.int 74), (.int 75), (.int 76), (.int 77), (.int 78), (.int 80), (.int 81), (.int 82), (.int 83), (.int 84), (.int 85), (.int 86), (.int 87), (.int 88), (.int 89), (.int 90), (.int 97), (.int 98), (.int 99), (.int 100), (.int 101), (.int 102), (.int 103), (.int 104), (.int 105), (.int 106), (.int 107), (.int 109), (.int 110), (.int 111), (.int 112), (.int 113), (.int 114), (.int 115), (.int 116), (.int 117), (.int 118), (.int 119), (.int 120), (.int 121), (.int 122)] (.int 0)) (E_o0 : Exa Z h0 o0 "java/lang/String") (S_COMPACT_STRINGS : Sta Z Z.heap "java/lang/String" "COMPACT_STRINGS" "Z" (.int sv_COMPACT_STRINGS)) (F_coder_o0 : Fld Z h0 o0 "java/lang/String" "coder" "B" (.int 0)) (hCS : ¬ (sv_COMPACT_STRINGS = (0 : Int32))) :
    Con l Z (⟨"java/lang/String", "length", "()I"⟩ : MethodName) jdk_42_method_54_code 1 (some .int) ws ({ frames := 1, cells := 0, slots := 0, locals := 13 } : Room) #[(.ref o0)] h0 (Pur (some (.int 58)) h0) := by
 refine own_body (plainFor_of_name own_pn0) (fun m => ef_rm6_2 m o0) ?_
 intro p e s m below meth c s₁ hx hby hlk hml hret hZ hown hnm X0 e0
 have N0 := Fr.nil n0
 refine Home.run X0 hx hby sg6_0_1 (pc' := 1) (L' := #[sr o0]) (S' := [(.ref o0)]) rfl ?_
 refine Home.st (getF X0 hx hZ hown (host := "") (Or.inl (own_w26 hw)) Via.refl e0 F_value_o0 rfl rfl (hb hby d6_1)) fun T1 X1 e1 => ?_
 obtain ⟨cl2, Ar2, q2, S2, M2, H2, G2⟩ := id V_p2
 refine Home.go (own_alen X1 hx hZ e1 Ar2 S2 M2 rfl rfl (hb hby d6_4)) ?_
 refine Home.run X1 hx hby sg6_5_1 (pc' := 6) (L' := #[sr o0]) (S' := [(.ref o0), (.int 58)]) rfl ?_
 refine Home.st (own_pure (own_virtual X1 hx hZ hown (own_w37 hw) (own_w38 hw) (notFace_of_selects (args := #[]) (mvT hZ (own_w40 hw))) (own_w40 hw) (own_w39 hw) (own_w8 hw) (own_w41 hw) (by decide) (rm7_0 l Z a0 hw [] o0 sv_COMPACT_STRINGS h0 n0 O0 S_COMPACT_STRINGS hCS F_coder_o0) e1 E_o0 rfl (by rw [hml]; rfl) (argsL := []) (rest := [(.int 58)]) (lenOf own_pd3 rfl) rfl rfl (W := 1) (by exact hW0) (by decide) (by decide) (hb hby d6_6) (by decide) (by decide))) fun T3 X3 e3 => ?_
 refine Home.run X3 hx hby sg6_9_1 (pc' := 10) (L' := #[sr o0]) (S' := [(.int 58)]) rfl ?_
 exact Home.retI X3 hx hlk hret (hb hby d6_10) ⟨rfl, rfl, e3⟩ (by decide) (by decide)
theorem rm24_0 (l : Launch) (Z : State) (a0 : Array Value) (hw : HW a0 Z) (ws : List Jvm.Cond) (i0 : Int32) (h0 : Heap) (n0 : Nat) (O0 : Old Z n0 h0) (bnd_i0 : ¬ i0 < (0 : Int32) ∧ ¬ (255 : Int32) < i0) :
    Con l Z (⟨"java/lang/StringLatin1", "canEncode", "(I)Z"⟩ : MethodName) jdk_43_method_4_code 1 (some .boolean) ws ({ frames := 0, cells := 0, slots := 0, locals := 0 } : Room) #[(.int i0)] h0 (Pur (some (.int 1)) h0) := by
 refine own_body (plainFor_of_name own_pn4) (fun m => ef_rm24_0 m i0) ?_
 intro p e s m below meth c s₁ hx hby hlk hml hret hZ hown hnm X0 e0
 have N0 := Fr.nil n0
 refine Home.run X0 hx hby sg24_0_1 (pc' := 1) (L' := #[si i0]) (S' := [(.int i0)]) rfl ?_
 refine Home.go (fun _ => XS.ifNo X0.here hx rfl (hb hby d24_1) rfl ((if0 _ _).trans (flt (bnd_nlt bnd_i0 (bnd_lit (0 : Int32)) (by decide +kernel))).1)) ?_
 refine Home.run X0 hx hby sg24_4_2 (pc' := 8) (L' := #[si i0]) (S' := [(.int 255), (.int i0)]) rfl ?_
 refine Home.go (fun _ => XS.icmpNo X0.here hx rfl (hb hby d24_8) rfl (flt (bnd_nlt (bnd_lit (255 : Int32)) bnd_i0 (by decide +kernel))).2.2.1) ?_
 refine Home.run X0 hx hby sg24_11_2 (pc' := 16) (L' := #[si i0]) (S' := [(.int 1)]) rfl ?_
 exact Home.retN X0 hx hlk (t := .boolean) hret (by simp) (hb hby d24_16) ⟨congrArg some (congrArg Value.int (by first | rfl | exact nar_i2c _ | exact nar_i2b _)), rfl, e0⟩ (by decide) (by decide)
theorem rm25_0 (l : Launch) (Z : State) (a0 : Array Value) (hw : HW a0 Z) (ws : List Jvm.Cond)  (h0 : Heap) (n0 : Nat) (O0 : Old Z n0 h0) :
    Con l Z (⟨"java/lang/Math", "max", "(II)I"⟩ : MethodName) jdk_29_method_65_code 2 (some .int) ws ({ frames := 0, cells := 0, slots := 0, locals := 0 } : Room) #[(.int 0), (.int 0)] h0 (Pur (some (.int 0)) h0) := by
 refine own_body (Jvm.Free.JP.mathPlain rfl (by decide +kernel)) (fun m => ef_rm25_0 m (0 : Int32)) ?_
 intro p e s m below meth c s₁ hx hby hlk hml hret hZ hown hnm X0 e0
 have N0 := Fr.nil n0
 refine Home.run X0 hx hby sg25_0_2 (pc' := 2) (L' := #[si 0, si 0]) (S' := [(.int 0), (.int 0)]) rfl ?_
 refine Home.go (fun _ => XS.icmpNo X0.here hx rfl (hb hby d25_2) rfl (flt (by decide)).1) ?_
 refine Home.run X0 hx hby sg25_5_2 (pc' := 10) (L' := #[si 0, si 0]) (S' := [(.int 0)]) rfl ?_
 exact Home.retI X0 hx hlk hret (hb hby d25_10) ⟨rfl, rfl, e0⟩ (by decide) (by decide)
theorem rm26_0 (l : Launch) (Z : State) (a0 : Array Value) (hw : HW a0 Z) (ws : List Jvm.Cond)  (h0 : Heap) (n0 : Nat) (O0 : Old Z n0 h0) :
    Con l Z (⟨"java/lang/Math", "min", "(II)I"⟩ : MethodName) jdk_29_method_69_code 2 (some .int) ws ({ frames := 0, cells := 0, slots := 0, locals := 0 } : Room) #[(.int 58), (.int 58)] h0 (Pur (some (.int 58)) h0) := by
 refine own_body (Jvm.Free.JP.mathPlain rfl (by decide +kernel)) (fun m => ef_rm26_0 m (58 : Int32)) ?_
 intro p e s m below meth c s₁ hx hby hlk hml hret hZ hown hnm X0 e0
 have N0 := Fr.nil n0
 refine Home.run X0 hx hby sg26_0_2 (pc' := 2) (L' := #[si 58, si 58]) (S' := [(.int 58), (.int 58)]) rfl ?_
 refine Home.go (fun _ => XS.icmpNo X0.here hx rfl (hb hby d26_2) rfl (flt (by decide)).2.2.1) ?_
 refine Home.run X0 hx hby sg26_5_2 (pc' := 10) (L' := #[si 58, si 58]) (S' := [(.int 58)]) rfl ?_
 exact Home.retI X0 hx hlk hret (hb hby d26_10) ⟨rfl, rfl, e0⟩ (by decide) (by decide)
theorem rm27_0 (l : Launch) (Z : State) (a0 : Array Value) (hw : HW a0 Z) (ws : List Jvm.Cond) (o0 : Addr) (i1 : Int32) (k_o0 : ClassId) (h0 : Heap) (n0 : Nat) (O0 : Old Z n0 h0) (V_o0 : Arv Z h0 o0 k_o0 .byte (58 : Int32) [(.int 49), (.int 50), (.int 51), (.int 52), (.int 53), (.int 54), (.int 55), (.int 56), (.int 57), (.int 65), (.int 66), (.int 67), (.int 68), (.int 69), (.int 70), (.int 71), (.int 72), (.int 74), (.int 75), (.int 76), (.int 77), (.int 78), (.int 80), (.int 81), (.int 82), (.int 83), (.int 84), (.int 85), (.int 86), (.int 87), (.int 88), (.int 89), (.int 90), (.int 97), (.int 98), (.int 99), (.int 100), (.int 101), (.int 102), (.int 103), (.int 104), (.int 105), (.int 106), (.int 107), (.int 109), (.int 110), (.int 111), (.int 112), (.int 113), (.int 114), (.int 115), (.int 116), (.int 117), (.int 118), (.int 119), (.int 120), (.int 121), (.int 122)] (.int 0)) :
    Con l Z (⟨"java/lang/StringLatin1", "indexOfChar", "([BIII)I"⟩ : MethodName) jdk_43_method_23_code 6 (some .int) ws ({ frames := 0, cells := 0, slots := 0, locals := 0 } : Room) #[(.ref o0), (.int i1), (.int 0), (.int 58)] h0 (Pur (some (.int (f_rm27_0 i1))) h0) := by
 refine own_body (plainFor_of_name own_pn4) (fun m => ef_rm27_0 m o0 i1 (0 : Int32) (58 : Int32)) ?_
 intro p e s m below meth c s₁ hx hby hlk hml hret hZ hown hnm X0 e0
 have N0 := Fr.nil n0
 refine Home.run X0 hx hby sg27_0_5 (pc' := 7) (L' := #[sr o0, si i1, si 0, si 58, .val (.int (i1.toInt8.toInt32)), si 0]) (S' := []) rfl ?_
 suffices LP : ∀ (r pre : List Int32), own_TI0 = pre ++ r → f_rm27_0 i1 = own_from (i1.toInt8.toInt32) r (Int32.ofNat pre.length) → ∀ ix, ix = Int32.ofNat pre.length → @Home p e below _ s₁ (mkF m 7 #[.val (.ref o0), .val (.int i1), .val (.int 0), .val (.int 58), .val (.int (i1.toInt8.toInt32)), .val (.int ix)] []) from LP own_TI0 [] rfl rfl 0 rfl
 intro r
 induction r with
 | nil =>
   intro pre hT hf ix hix
   have hl : pre.length = 58 := by have := congrArg List.length hT; simpa using this.symm
   have hx0 : ¬ ix < (0 : Int32) := by rw [hix, hl]; decide
   have hx1 : ¬ ix < (58 : Int32) := by rw [hix, hl]; decide
   refine Home.run X0 hx hby sg27_7_2 (pc' := 10) (L' := #[sr o0, si i1, si 0, si 58, .val (.int (i1.toInt8.toInt32)), si ix]) (S' := [(.int 58), (.int ix)]) rfl ?_
   refine Home.go (fun _ => XS.icmpYes X0.here hx rfl (pc0 := 10) (pc' := 31) rfl (hb hby d27_10) rfl (flt hx1).2.1 (by decide) (by decide)) ?_
   refine Home.run X0 hx hby sg27_31_1 (pc' := 32) (L' := #[sr o0, si i1, si 0, si 58, .val (.int (i1.toInt8.toInt32)), si ix]) (S' := [(.int (-1 : Int32))]) rfl ?_
   exact Home.retI X0 hx hlk hret (hb hby d27_32) ⟨congrArg some (congrArg Value.int (hf.symm)), rfl, e0⟩ (by decide) (by decide)
 | cons a r ih =>
   intro pre hT hf ix hix
   have hl : pre.length < 58 := by have := congrArg List.length hT; simp at this; omega
   have hi : ix.toInt = pre.length := by rw [hix]; exact Int32.toInt_ofNat_small (by omega)
   have hx0 : ¬ ix < (0 : Int32) := by rw [Int32.lt_iff_toInt_lt, hi]; have : (0 : Int32).toInt = 0 := rfl; omega
   have hx1 : ix < (58 : Int32) := by rw [Int32.lt_iff_toInt_lt, hi]; have : ((58 : Int32)).toInt = 58 := rfl; omega
   have hat : (own_at own_TI0 ix) = a := by show own_at own_TI0 ix = a; rw [hT]; exact own_at_pre (by omega) hix
   have hix1 : Int32.ofNat pre.length + (1 : Int32) = Int32.ofNat (pre.length + 1) := by rw [Int32.ofNat_add]; rfl
   have hf2 : f_rm27_0 i1 = (if a = (i1.toInt8.toInt32) then Int32.ofNat pre.length else own_from (i1.toInt8.toInt32) r (Int32.ofNat pre.length + (1 : Int32))) := hf
   refine Home.run X0 hx hby sg27_7_2 (pc' := 10) (L' := #[sr o0, si i1, si 0, si 58, .val (.int (i1.toInt8.toInt32)), si ix]) (S' := [(.int 58), (.int ix)]) rfl ?_
   refine Home.go (fun _ => XS.icmpNo X0.here hx rfl (hb hby d27_10) rfl (tlt hx1).2.1) ?_
   refine Home.run X0 hx hby sg27_13_2 (pc' := 16) (L' := #[sr o0, si i1, si 0, si 58, .val (.int (i1.toInt8.toInt32)), si ix]) (S' := [(.int ix), (.ref o0)]) rfl ?_
   obtain ⟨cl1, Ar1, q1, S1, M1, H1, G1⟩ := id V_o0
   have ib1 : ¬ (ix < 0 ∨ cl1.slots.size ≤ (ix).toNatClampNeg) := inb_of S1 ⟨hx0, hx1⟩
   refine Home.go (X0.baloadBytes hx (j := ix) (v := .int (own_at own_TI0 ix)) (by rw [e0]; exact Ar1.1) (State.isArrayOf_alike hZ.alike Ar1.2.1) Ar1.2.2 ib1 (Has.at H1 ib1 (own_getD own_TI0 _)) rfl rfl (hb hby d27_16)) ?_
   refine Home.run X0 hx hby sg27_17_1 (pc' := 19) (L' := #[sr o0, si i1, si 0, si 58, .val (.int (i1.toInt8.toInt32)), si ix]) (S' := [(.int (i1.toInt8.toInt32)), (.int (own_at own_TI0 ix))]) rfl ?_
   by_cases c2 : (own_at own_TI0 ix) = (i1.toInt8.toInt32)
   ·
    refine Home.go (fun _ => XS.icmpNo X0.here hx rfl (hb hby d27_19) rfl (teq c2).2) ?_
    refine Home.run X0 hx hby sg27_22_1 (pc' := 24) (L' := #[sr o0, si i1, si 0, si 58, .val (.int (i1.toInt8.toInt32)), si ix]) (S' := [(.int ix)]) rfl ?_
    exact Home.retI X0 hx hlk hret (hb hby d27_24) ⟨congrArg some (congrArg Value.int ((hf2.trans (if_pos (hat.symm.trans c2))).trans hix.symm).symm), rfl, e0⟩ (by decide) (by decide)
   ·
    refine Home.go (fun _ => XS.icmpYes X0.here hx rfl (pc0 := 19) (pc' := 25) rfl (hb hby d27_19) rfl (feq c2).2 (by decide) (by decide)) ?_
    refine Home.run X0 hx hby sg27_25_2 (pc' := 7) (L' := #[sr o0, si i1, si 0, si 58, .val (.int (i1.toInt8.toInt32)), .val (.int (ix + (1 : Int32)))]) (S' := []) rfl ?_
    exact ih (pre ++ [a]) (by rw [hT]; simp) ((hf2.trans (if_neg (fun q => c2 (hat.trans q)))).trans (congrArg (own_from (i1.toInt8.toInt32) r) (by rw [List.length_append]; exact hix1))) (ix + (1 : Int32)) (by rw [hix, List.length_append]; exact hix1)
theorem rm23_0 (l : Launch) (Z : State) (a0 : Array Value) (hw : HW a0 Z) (ws : List Jvm.Cond) (o0 : Addr) (i1 : Int32) (k_o0 : ClassId) (h0 : Heap) (n0 : Nat) (O0 : Old Z n0 h0) (bnd_i1 : ¬ i1 < (0 : Int32) ∧ ¬ (255 : Int32) < i1) (V_o0 : Arv Z h0 o0 k_o0 .byte (58 : Int32) [(.int 49), (.int 50), (.int 51), (.int 52), (.int 53), (.int 54), (.int 55), (.int 56), (.int 57), (.int 65), (.int 66), (.int 67), (.int 68), (.int 69), (.int 70), (.int 71), (.int 72), (.int 74), (.int 75), (.int 76), (.int 77), (.int 78), (.int 80), (.int 81), (.int 82), (.int 83), (.int 84), (.int 85), (.int 86), (.int 87), (.int 88), (.int 89), (.int 90), (.int 97), (.int 98), (.int 99), (.int 100), (.int 101), (.int 102), (.int 103), (.int 104), (.int 105), (.int 106), (.int 107), (.int 109), (.int 110), (.int 111), (.int 112), (.int 113), (.int 114), (.int 115), (.int 116), (.int 117), (.int 118), (.int 119), (.int 120), (.int 121), (.int 122)] (.int 0)) :
    Con l Z (⟨"java/lang/StringLatin1", "indexOf", "([BIII)I"⟩ : MethodName) jdk_43_method_22_code 4 (some .int) ws ({ frames := 1, cells := 0, slots := 0, locals := 17 } : Room) #[(.ref o0), (.int i1), (.int 0), (.int 58)] h0 (Pur (some (.int (f_rm27_0 i1))) h0) := by
 refine own_body (plainFor_of_name own_pn4) (fun m => ef_rm23_0 m o0 i1 (0 : Int32) (58 : Int32)) ?_
 intro p e s m below meth c s₁ hx hby hlk hml hret hZ hown hnm X0 e0
 have N0 := Fr.nil n0
 refine Home.run X0 hx hby sg23_0_1 (pc' := 1) (L' := #[sr o0, si i1, si 0, si 58]) (S' := [(.int i1)]) rfl ?_
 refine Home.st (own_pure (own_static X0 hx hZ hown (own_w107 hw) (own_w108 hw) (own_w71 hw) (own_w109 hw) (by decide) (rm24_0 l Z a0 hw [] i1 h0 n0 O0 bnd_i1) e0 rfl (by rw [hml]; rfl) (argsL := [(.int i1)]) (rest := []) (lenOf own_pd18 rfl) rfl rfl (W := 0) (by exact hW0) (by decide) (by decide) (hb hby d23_1) (by decide) (by decide))) fun T1 X1 e1 => ?_
 refine Home.go (fun _ => XS.ifYes X1.here hx rfl (pc0 := 4) (pc' := 9) rfl (hb hby d23_4) rfl ((if0 _ _).trans (feq (by decide)).2) (by decide) (by decide)) ?_
 refine Home.run X1 hx hby sg23_9_2 (pc' := 11) (L' := #[sr o0, si i1, si 0, si 58]) (S' := [(.int 0), (.int 0)]) rfl ?_
 refine Home.st (own_pure (own_static X1 hx hZ hown (own_w110 hw) (own_w111 hw) (own_w112 hw) (own_w113 hw) (by decide) (rm25_0 l Z a0 hw []  h0 n0 O0) e1 rfl (by rw [hml]; rfl) (argsL := [(.int 0), (.int 0)]) (rest := []) (lenOf own_pd19 rfl) rfl rfl (W := 0) (by exact hW0) (by decide) (by decide) (hb hby d23_11) (by decide) (by decide))) fun T2 X2 e2 => ?_
 refine Home.run X2 hx hby sg23_14_3 (pc' := 17) (L' := #[sr o0, si i1, si 0, si 58]) (S' := [(.ref o0), (.int 58)]) rfl ?_
 obtain ⟨cl3, Ar3, q3, S3, M3, H3, G3⟩ := id V_o0
 refine Home.go (own_alen X2 hx hZ e2 Ar3 S3 M3 rfl rfl (hb hby d23_17)) ?_
 refine Home.st (own_pure (own_static X2 hx hZ hown (own_w114 hw) (own_w115 hw) (own_w112 hw) (own_w116 hw) (by decide) (rm26_0 l Z a0 hw []  h0 n0 O0) e2 rfl (by rw [hml]; rfl) (argsL := [(.int 58), (.int 58)]) (rest := []) (lenOf own_pd19 rfl) rfl rfl (W := 0) (by exact hW0) (by decide) (by decide) (hb hby d23_18) (by decide) (by decide))) fun T4 X4 e4 => ?_
 refine Home.run X4 hx hby sg23_21_3 (pc' := 24) (L' := #[sr o0, si i1, si 0, si 58]) (S' := [(.int 58), (.int 0)]) rfl ?_
 refine Home.go (fun _ => XS.icmpYes X4.here hx rfl (pc0 := 24) (pc' := 29) rfl (hb hby d23_24) rfl (tlt (by decide)).1 (by decide) (by decide)) ?_
 refine Home.run X4 hx hby sg23_29_4 (pc' := 33) (L' := #[sr o0, si i1, si 0, si 58]) (S' := [(.int 58), (.int 0), (.int i1), (.ref o0)]) rfl ?_
 refine Home.st (own_pure (own_static X4 hx hZ hown (own_w117 hw) (own_w118 hw) (own_w71 hw) (own_w119 hw) (by decide) (rm27_0 l Z a0 hw [] o0 i1 k_o0 h0 n0 O0 V_o0) e4 rfl (by rw [hml]; rfl) (argsL := [(.ref o0), (.int i1), (.int 0), (.int 58)]) (rest := []) (lenOf own_pd20 rfl) rfl rfl (W := 0) (by exact hW0) (by decide) (by decide) (hb hby d23_33) (by decide) (by decide))) fun T5 X5 e5 => ?_
 show Home T5 (mkF m 36 #[sr o0, si i1, si 0, si 58] [(.int (f_rm27_0 i1))])
 obtain ⟨r6, hr6⟩ : ∃ z, z = (f_rm27_0 i1) := ⟨_, rfl⟩
 rw [← hr6]
 subst hr6
 exact Home.retI X5 hx hlk hret (hb hby d23_36) ⟨rfl, rfl, e5⟩ (by decide) (by decide)
theorem rm22_0 (l : Launch) (Z : State) (a0 : Array Value) (hw : HW a0 Z) (ws : List Jvm.Cond) (o0 : Addr) (i1 sv_COMPACT_STRINGS : Int32) (p2 : Addr) (k_p2 : ClassId) (h0 : Heap) (n0 : Nat) (O0 : Old Z n0 h0) (bnd_i1 : ¬ i1 < (0 : Int32) ∧ ¬ (255 : Int32) < i1) (E_o0 : Exa Z h0 o0 "java/lang/String") (S_COMPACT_STRINGS : Sta Z Z.heap "java/lang/String" "COMPACT_STRINGS" "Z" (.int sv_COMPACT_STRINGS)) (F_coder_o0 : Fld Z h0 o0 "java/lang/String" "coder" "B" (.int 0)) (hCS : ¬ (sv_COMPACT_STRINGS = (0 : Int32))) (F_value_o0 : Fld Z h0 o0 "java/lang/String" "value" "[B" (.ref p2)) (V_p2 : Arv Z h0 p2 k_p2 .byte (58 : Int32) [(.int 49), (.int 50), (.int 51), (.int 52), (.int 53), (.int 54), (.int 55), (.int 56), (.int 57), (.int 65), (.int 66), (.int 67), (.int 68), (.int 69), (.int 70), (.int 71), (.int 72), (.int 74), (.int 75), (.int 76), (.int 77), (.int 78), (.int 80), (.int 81), (.int 82), (.int 83), (.int 84), (.int 85), (.int 86), (.int 87), (.int 88), (.int 89), (.int 90), (.int 97), (.int 98), (.int 99), (.int 100), (.int 101), (.int 102), (.int 103), (.int 104), (.int 105), (.int 106), (.int 107), (.int 109), (.int 110), (.int 111), (.int 112), (.int 113), (.int 114), (.int 115), (.int 116), (.int 117), (.int 118), (.int 119), (.int 120), (.int 121), (.int 122)] (.int 0)) :
    Con l Z (⟨"java/lang/String", "indexOf", "(II)I"⟩ : MethodName) jdk_42_method_80_code 3 (some .int) ws ({ frames := 2, cells := 0, slots := 0, locals := 32 } : Room) #[(.ref o0), (.int i1), (.int 0)] h0 (Pur (some (.int (f_rm27_0 i1))) h0) := by
 refine own_body (plainFor_of_name own_pn0) (fun m => ef_rm22_0 m o0 i1 (0 : Int32)) ?_
 intro p e s m below meth c s₁ hx hby hlk hml hret hZ hown hnm X0 e0
 have N0 := Fr.nil n0
 refine Home.run X0 hx hby sg22_0_1 (pc' := 1) (L' := #[sr o0, si i1, si 0]) (S' := [(.ref o0)]) rfl ?_
 refine Home.st (own_pure (own_virtual X0 hx hZ hown (own_w64 hw) (own_w65 hw) (notFace_of_selects (args := #[]) (mvT hZ (own_w67 hw))) (own_w67 hw) (own_w66 hw) (own_w8 hw) (own_w68 hw) (by decide) (rm14_0 l Z a0 hw [] o0 sv_COMPACT_STRINGS h0 n0 O0 S_COMPACT_STRINGS hCS F_coder_o0) e0 E_o0 rfl (by rw [hml]; rfl) (argsL := []) (rest := []) (lenOf own_pd10 rfl) rfl rfl (W := 0) (by exact hW0) (by decide) (by decide) (hb hby d22_1) (by decide) (by decide))) fun T1 X1 e1 => ?_
 refine Home.go (fun _ => XS.ifNo X1.here hx rfl (hb hby d22_4) rfl ((if0 _ _).trans (feq (by decide)).1)) ?_
 refine Home.run X1 hx hby sg22_7_1 (pc' := 8) (L' := #[sr o0, si i1, si 0]) (S' := [(.ref o0)]) rfl ?_
 refine Home.st (getF X1 hx hZ hown (host := "") (Or.inl (own_w26 hw)) Via.refl e1 F_value_o0 rfl rfl (hb hby d22_8)) fun T2 X2 e2 => ?_
 refine Home.run X2 hx hby sg22_11_3 (pc' := 14) (L' := #[sr o0, si i1, si 0]) (S' := [(.ref o0), (.int 0), (.int i1), (.ref p2)]) rfl ?_
 refine Home.st (own_pure (own_virtual X2 hx hZ hown (own_w103 hw) (own_w33 hw) (notFace_of_selects (args := #[]) (mvT hZ (own_w35 hw))) (own_w35 hw) (own_w34 hw) (own_w8 hw) (own_w36 hw) (by decide) (rm6_2 l Z a0 hw [] o0 p2 k_p2 sv_COMPACT_STRINGS h0 n0 O0 F_value_o0 V_p2 E_o0 S_COMPACT_STRINGS F_coder_o0 hCS) e2 E_o0 rfl (by rw [hml]; rfl) (argsL := []) (rest := [(.int 0), (.int i1), (.ref p2)]) (lenOf own_pd4 rfl) rfl rfl (W := 3) (by exact hW0) (by decide) (by decide) (hb hby d22_14) (by decide) (by decide))) fun T3 X3 e3 => ?_
 refine Home.st (own_pure (own_static X3 hx hZ hown (own_w104 hw) (own_w105 hw) (own_w71 hw) (own_w106 hw) (by decide) (rm23_0 l Z a0 hw [] p2 i1 k_p2 h0 n0 O0 bnd_i1 V_p2) e3 rfl (by rw [hml]; rfl) (argsL := [(.ref p2), (.int i1), (.int 0), (.int 58)]) (rest := []) (lenOf own_pd20 rfl) rfl rfl (W := 0) (by exact hW0) (by decide) (by decide) (hb hby d22_17) (by decide) (by decide))) fun T4 X4 e4 => ?_
 refine Home.run X4 hx hby sg22_20_1 (pc' := 36) (L' := #[sr o0, si i1, si 0]) (S' := [(.int (f_rm27_0 i1))]) rfl ?_
 exact Home.retI X4 hx hlk hret (hb hby d22_36) ⟨rfl, rfl, e4⟩ (by decide) (by decide)
theorem rm21_0 (l : Launch) (Z : State) (a0 : Array Value) (hw : HW a0 Z) (ws : List Jvm.Cond) (o0 : Addr) (i1 sv_COMPACT_STRINGS : Int32) (p2 : Addr) (k_p2 : ClassId) (h0 : Heap) (n0 : Nat) (O0 : Old Z n0 h0) (bnd_i1 : ¬ i1 < (0 : Int32) ∧ ¬ (255 : Int32) < i1) (E_o0 : Exa Z h0 o0 "java/lang/String") (S_COMPACT_STRINGS : Sta Z Z.heap "java/lang/String" "COMPACT_STRINGS" "Z" (.int sv_COMPACT_STRINGS)) (F_coder_o0 : Fld Z h0 o0 "java/lang/String" "coder" "B" (.int 0)) (F_value_o0 : Fld Z h0 o0 "java/lang/String" "value" "[B" (.ref p2)) (V_p2 : Arv Z h0 p2 k_p2 .byte (58 : Int32) [(.int 49), (.int 50), (.int 51), (.int 52), (.int 53), (.int 54), (.int 55), (.int 56), (.int 57), (.int 65), (.int 66), (.int 67), (.int 68), (.int 69), (.int 70), (.int 71), (.int 72), (.int 74), (.int 75), (.int 76), (.int 77), (.int 78), (.int 80), (.int 81), (.int 82), (.int 83), (.int 84), (.int 85), (.int 86), (.int 87), (.int 88), (.int 89), (.int 90), (.int 97), (.int 98), (.int 99), (.int 100), (.int 101), (.int 102), (.int 103), (.int 104), (.int 105), (.int 106), (.int 107), (.int 109), (.int 110), (.int 111), (.int 112), (.int 113), (.int 114), (.int 115), (.int 116), (.int 117), (.int 118), (.int 119), (.int 120), (.int 121), (.int 122)] (.int 0)) (hCS : ¬ (sv_COMPACT_STRINGS = (0 : Int32))) :
    Con l Z (⟨"java/lang/String", "indexOf", "(I)I"⟩ : MethodName) jdk_42_method_79_code 2 (some .int) ws ({ frames := 3, cells := 0, slots := 0, locals := 46 } : Room) #[(.ref o0), (.int i1)] h0 (Pur (some (.int (f_rm27_0 i1))) h0) := by
 refine own_body (plainFor_of_name own_pn0) (fun m => ef_rm21_0 m o0 i1) ?_
 intro p e s m below meth c s₁ hx hby hlk hml hret hZ hown hnm X0 e0
 have N0 := Fr.nil n0
 refine Home.run X0 hx hby sg21_0_3 (pc' := 3) (L' := #[sr o0, si i1]) (S' := [(.int 0), (.int i1), (.ref o0)]) rfl ?_
 refine Home.st (own_pure (own_virtual X0 hx hZ hown (own_w98 hw) (own_w99 hw) (notFace_of_selects (args := #[]) (mvT hZ (own_w101 hw))) (own_w101 hw) (own_w100 hw) (own_w8 hw) (own_w102 hw) (by decide) (rm22_0 l Z a0 hw [] o0 i1 sv_COMPACT_STRINGS p2 k_p2 h0 n0 O0 bnd_i1 E_o0 S_COMPACT_STRINGS F_coder_o0 hCS F_value_o0 V_p2) e0 E_o0 rfl (by rw [hml]; rfl) (argsL := [(.int i1), (.int 0)]) (rest := []) (lenOf own_pd19 rfl) rfl rfl (W := 0) (by exact hW0) (by decide) (by decide) (hb hby d21_3) (by decide) (by decide))) fun T1 X1 e1 => ?_
 exact Home.retI X1 hx hlk hret (hb hby d21_6) ⟨rfl, rfl, e1⟩ (by decide) (by decide)
theorem rm5_1 (l : Launch) (Z : State) (a0 : Array Value) (hw : HW a0 Z) (ws : List Jvm.Cond) (o0 p2 : Addr) (k_p2 : ClassId) (l_1 : List Int32) (sv_COMPACT_STRINGS : Int32) (sv_SIOOBE_FORMATTER : Value) (h0 : Heap) (n0 : Nat) (O0 : Old Z n0 h0) (hn1 : (0 : Int32) < (own_n l_1)) (E_o0 : Exa Z h0 o0 "java/lang/String") (F_value_o0 : Fld Z h0 o0 "java/lang/String" "value" "[B" (.ref p2)) (V_p2 : Arv Z h0 p2 k_p2 .byte (own_n l_1) (List.map Value.int l_1) (.int 0)) (S_COMPACT_STRINGS : Sta Z Z.heap "java/lang/String" "COMPACT_STRINGS" "Z" (.int sv_COMPACT_STRINGS)) (F_coder_o0 : Fld Z h0 o0 "java/lang/String" "coder" "B" (.int 0)) (hCS : ¬ (sv_COMPACT_STRINGS = (0 : Int32))) (sh_l_1 : l_1.length ≤ 6) (S_SIOOBE_FORMATTER : Sta Z Z.heap "jdk/internal/util/Preconditions" "SIOOBE_FORMATTER" "Ljava/util/function/BiFunction;" sv_SIOOBE_FORMATTER) (isr_sv_SIOOBE_FORMATTER : sv_SIOOBE_FORMATTER.isRef = true) (hA : ∀ a ∈ l_1, ¬ (f_rm27_0 (a &&& (255 : Int32))) < (0 : Int32) ∧ ¬ (57 : Int32) < (f_rm27_0 (a &&& (255 : Int32)))) :
    ConW l Z own_EL ([] : List Addr) true (⟨"com/example/tryst/tryst/encoding/Base58", "decode", "(Ljava/lang/String;)[B"⟩ : MethodName) prog_9_method_3_code 7 (some (.array .byte)) ws ({ frames := 4, cells := 4, slots := 254, locals := 59 } : Room) #[(.ref o0)] h0 (fun v h L => ∃ (b31 : Addr), ∃ (k31 : ClassId), v = some (.ref b31) ∧ Fr n0 L ∧ h0.size ≤ b31 ∧ Keep h0 h [] ∧ Arv Z h b31 k31 .byte (own_n (own_dec l_1)) (List.map Value.int (own_dec l_1)) (.int 0)) := by
 refine own_bodyW (plainFor_of_name own_pn2) (fun m => ef_rm5_1 m o0) ?_
 intro p e s m below meth c s₁ hx hby hlk hml hret hZ hown hnm X0 e0 Cd0
 have N0 := Fr.nil n0
 refine Home.run X0 hx hby sg5_0_4 (pc' := 4) (L' := #[sr o0, si 0, un, un, un, un, un]) (S' := [(.ref o0), (.int 0)]) rfl ?_
 refine Home.st (own_pure (own_virtual X0 hx hZ hown (own_w32 hw) (own_w33 hw) (notFace_of_selects (args := #[]) (mvT hZ (own_w35 hw))) (own_w35 hw) (own_w34 hw) (own_w8 hw) (own_w36 hw) (by decide) (rm6_1 l Z a0 hw [] o0 p2 k_p2 l_1 sv_COMPACT_STRINGS h0 n0 O0 F_value_o0 V_p2 E_o0 S_COMPACT_STRINGS F_coder_o0 hCS (Nat.le_trans (own_len_le sh_l_1).2 (by decide))) e0 E_o0 rfl (by rw [hml]; rfl) (argsL := []) (rest := [(.int 0)]) (lenOf own_pd4 rfl) rfl rfl (W := 1) (by exact hW0) (by decide) (by decide) (hb hby d5_4) (by decide) (by decide))) fun T1 X1 e1 => ?_
 refine Home.go (fun _ => XS.icmpNo X1.here hx rfl (hb hby d5_7) rfl (tlt hn1).2.1) ?_
 refine Home.run X1 hx hby sg5_10_2 (pc' := 12) (L' := #[sr o0, si 0, un, un, un, un, un]) (S' := [(.int 0), (.ref o0)]) rfl ?_
 refine Home.st (own_pure (own_virtual X1 hx hZ hown (own_w91 hw) (own_w60 hw) (notFace_of_selects (args := #[]) (mvT hZ (own_w62 hw))) (own_w62 hw) (own_w61 hw) (own_w8 hw) (own_w63 hw) (by decide) (rm13_1 l Z a0 hw [] o0 sv_COMPACT_STRINGS p2 k_p2 l_1 sv_SIOOBE_FORMATTER h0 n0 O0 hn1 E_o0 S_COMPACT_STRINGS F_coder_o0 hCS F_value_o0 V_p2 S_SIOOBE_FORMATTER isr_sv_SIOOBE_FORMATTER) e1 E_o0 rfl (by rw [hml]; rfl) (argsL := [(.int 0)]) (rest := []) (lenOf own_pd14 rfl) rfl rfl (W := 0) (by exact hW0) (by decide) (by decide) (hb hby d5_12) (by decide) (by decide))) fun T2 X2 e2 => ?_
 obtain ⟨ad3, b3, k3, T3, h3, X3, e3, E3, hZ, hown, Cd3, Ea3, Fc3, Fv3, V3, la3, lb3, hne3, Li3, st3⟩ := own_ldcL X2 hx hZ hown (own_hEL hw) Cd0 (own_w92 hw) (own_wS hw) e2 (List.mem_of_getElem? (i := 0) rfl) (vs := own_T0) (z := (58 : Int32)) ⟨by decide, by rfl⟩ (by decide) (by decide) (g := (mkF m 15 #[.val (.ref o0), .val (.int 0), .unset, .unset, .unset, .unset, .unset] [(.int ((own_at l_1 (0 : Int32)) &&& (255 : Int32)))])) rfl (hb hby d5_15) (n := 232) (by decide) (by decide) (by decide) (by decide)
 refine Home.go st3 ?_
 have O3 := O0.ext E3
 have K3 : Keep h0 h3 ([] : List Addr) := Keep.ext (Keep.refl h0 ([] : List Addr)) E3
 refine Home.cut (C := fun E => ∀ {T : State} (X : Stand p l e ({ frames := 4, cells := 4, slots := 254, locals := 59 } : Room) (s.setVm T3.vm) m #[(.ref o0)] below meth c T [] 2 236) (eT : T.heap = h3) (zs : Int32) (hzs : zs = Int32.ofNat (own_zs l_1)), @Home p e below E T (mkF m 30 #[sr o0, si zs, un, un, un, un, un] [])) (fun _ J4 => ?_) ?_
 ·
  refine Home.cut (C := fun E => ∀ (r pre : List Int32) (a : Int32), l_1 = pre ++ a :: r → own_zs l_1 = pre.length + own_zs (a :: r) → ∀ {T : State} (X : Stand p l e ({ frames := 4, cells := 4, slots := 254, locals := 59 } : Room) (s.setVm T3.vm) m #[(.ref o0)] below meth c T [] 2 236) (eT : T.heap = h3) (ix : Int32), ix = Int32.ofNat pre.length → @Home p e below E T (mkF m 17 #[sr o0, si ix, un, un, un, un, un] [(.ref ad3), (.int ((own_at l_1 ix) &&& (255 : Int32)))])) (fun _ LP => ?_) ?_
  · obtain ⟨a, r, hl⟩ := own_cons hn1
    exact LP r [] a hl (by rw [hl]; exact (Nat.zero_add _).symm) X3 e3 0 rfl
  intro r
  induction r with
  | nil =>
    intro pre a hL hz TA XA eA ix hix
    have hln : l_1.length = pre.length + (0 + 1) := by rw [hL, List.length_append, List.length_cons]; rfl
    have hix1 := own_succ pre.length
    have hi1 : (ix + (1 : Int32)).toInt = ((pre.length + 1 : Nat) : Int) := by rw [hix, hix1]; exact Int32.toInt_ofNat_small (by omega)
    have hn' : (own_n l_1).toInt = l_1.length := own_n_int (by omega)
    have hat : own_at l_1 ix = a := by rw [hL]; exact own_at_pre (by omega) hix
    have hy0 : ¬ (ix + (1 : Int32)) < (0 : Int32) := by rw [Int32.lt_iff_toInt_lt, hi1]; have : (0 : Int32).toInt = 0 := rfl; omega
    have hy1 : ¬ (ix + (1 : Int32)) < (own_n l_1) := by rw [Int32.lt_iff_toInt_lt, hi1, hn']; omega
    refine Home.run XA hx hby sg5_17_1 (pc' := 18) (L' := #[sr o0, si ix, un, un, un, un, un]) (S' := [(.int 0), (.ref ad3), (.int ((own_at l_1 ix) &&& (255 : Int32)))]) rfl ?_
    refine Home.st (own_pure (own_virtual XA hx hZ hown (own_w91 hw) (own_w60 hw) (notFace_of_selects (args := #[]) (mvT hZ (own_w62 hw))) (own_w62 hw) (own_w61 hw) (own_w8 hw) (own_w63 hw) (by decide) (rm13_0 l Z a0 hw [] ad3 (0 : Int32) sv_COMPACT_STRINGS b3 k3 sv_SIOOBE_FORMATTER h3 n0 O3 (bnd_mono (bnd_lit (0 : Int32)) (by decide +kernel) (by decide +kernel)) Ea3 S_COMPACT_STRINGS Fc3 hCS Fv3 V3 S_SIOOBE_FORMATTER isr_sv_SIOOBE_FORMATTER) eA Ea3 rfl (by rw [hml]; rfl) (argsL := [(.int 0)]) (rest := [(.int ((own_at l_1 ix) &&& (255 : Int32)))]) (lenOf own_pd14 rfl) rfl rfl (W := 1) (by exact hW0) (by decide) (by decide) (hb hby d5_18) (by decide) (by decide))) fun T5 X5 e5 => ?_
    show Home T5 (mkF m 21 #[sr o0, si ix, un, un, un, un, un] [(.int ((49 : Int32) &&& (255 : Int32))), (.int ((own_at l_1 ix) &&& (255 : Int32)))])
    by_cases c6 : ((own_at l_1 ix) &&& (255 : Int32)) = ((49 : Int32) &&& (255 : Int32))
    ·
     refine Home.go (fun _ => XS.icmpNo X5.here hx rfl (hb hby d5_21) rfl (teq c6).2) ?_
     refine Home.run X5 hx hby sg5_24_4 (pc' := 4) (L' := #[sr o0, .val (.int (ix + (1 : Int32))), un, un, un, un, un]) (S' := [(.ref o0), (.int (ix + (1 : Int32)))]) rfl ?_
     refine Home.st (own_pure (own_virtual X5 hx hZ hown (own_w32 hw) (own_w33 hw) (notFace_of_selects (args := #[]) (mvT hZ (own_w35 hw))) (own_w35 hw) (own_w34 hw) (own_w8 hw) (own_w36 hw) (by decide) (rm6_1 l Z a0 hw [] o0 p2 k_p2 l_1 sv_COMPACT_STRINGS h3 n0 O3 (F_value_o0.keep K3 nin0) (V_p2.keep K3 nin0) (E_o0.keep K3) S_COMPACT_STRINGS (F_coder_o0.keep K3 nin0) hCS (Nat.le_trans (own_len_le sh_l_1).2 (by decide))) e5 (E_o0.keep K3) rfl (by rw [hml]; rfl) (argsL := []) (rest := [(.int (ix + (1 : Int32)))]) (lenOf own_pd4 rfl) rfl rfl (W := 1) (by exact hW0) (by decide) (by decide) (hb hby d5_4) (by decide) (by decide))) fun T7 X7 e7 => ?_
     refine Home.go (fun _ => XS.icmpYes X7.here hx rfl (pc0 := 7) (pc' := 30) rfl (hb hby d5_7) rfl (flt hy1).2.1 (by decide) (by decide)) ?_
     have q := own_zs_go (a := a) (r := []) (by rw [← hat]; exact c6.trans (by decide))
     rw [q] at hz
     exact J4 X7 e7 (ix + (1 : Int32)) (by rw [hix, hz]; exact hix1)
    ·
     refine Home.go (fun _ => XS.icmpYes X5.here hx rfl (pc0 := 21) (pc' := 30) rfl (hb hby d5_21) rfl (feq c6).2 (by decide) (by decide)) ?_
     have q := own_zs_no (a := a) (r := []) (by rw [← hat]; exact fun q => c6 (q.trans (by decide)))
     rw [q] at hz
     exact J4 X5 e5 ix (by rw [hix, hz, Nat.add_zero])
  | cons b r ih =>
    intro pre a hL hz TA XA eA ix hix
    have hln : l_1.length = pre.length + ((r.length + 1) + 1) := by rw [hL, List.length_append, List.length_cons]; rfl
    have hix1 := own_succ pre.length
    have hi1 : (ix + (1 : Int32)).toInt = ((pre.length + 1 : Nat) : Int) := by rw [hix, hix1]; exact Int32.toInt_ofNat_small (by omega)
    have hn' : (own_n l_1).toInt = l_1.length := own_n_int (by omega)
    have hat : own_at l_1 ix = a := by rw [hL]; exact own_at_pre (by omega) hix
    have hy0 : ¬ (ix + (1 : Int32)) < (0 : Int32) := by rw [Int32.lt_iff_toInt_lt, hi1]; have : (0 : Int32).toInt = 0 := rfl; omega
    have hy1 : (ix + (1 : Int32)) < (own_n l_1) := by rw [Int32.lt_iff_toInt_lt, hi1, hn']; omega
    refine Home.run XA hx hby sg5_17_1 (pc' := 18) (L' := #[sr o0, si ix, un, un, un, un, un]) (S' := [(.int 0), (.ref ad3), (.int ((own_at l_1 ix) &&& (255 : Int32)))]) rfl ?_
    refine Home.st (own_pure (own_virtual XA hx hZ hown (own_w91 hw) (own_w60 hw) (notFace_of_selects (args := #[]) (mvT hZ (own_w62 hw))) (own_w62 hw) (own_w61 hw) (own_w8 hw) (own_w63 hw) (by decide) (rm13_0 l Z a0 hw [] ad3 (0 : Int32) sv_COMPACT_STRINGS b3 k3 sv_SIOOBE_FORMATTER h3 n0 O3 (bnd_mono (bnd_lit (0 : Int32)) (by decide +kernel) (by decide +kernel)) Ea3 S_COMPACT_STRINGS Fc3 hCS Fv3 V3 S_SIOOBE_FORMATTER isr_sv_SIOOBE_FORMATTER) eA Ea3 rfl (by rw [hml]; rfl) (argsL := [(.int 0)]) (rest := [(.int ((own_at l_1 ix) &&& (255 : Int32)))]) (lenOf own_pd14 rfl) rfl rfl (W := 1) (by exact hW0) (by decide) (by decide) (hb hby d5_18) (by decide) (by decide))) fun T8 X8 e8 => ?_
    show Home T8 (mkF m 21 #[sr o0, si ix, un, un, un, un, un] [(.int ((49 : Int32) &&& (255 : Int32))), (.int ((own_at l_1 ix) &&& (255 : Int32)))])
    by_cases c9 : ((own_at l_1 ix) &&& (255 : Int32)) = ((49 : Int32) &&& (255 : Int32))
    ·
     refine Home.go (fun _ => XS.icmpNo X8.here hx rfl (hb hby d5_21) rfl (teq c9).2) ?_
     refine Home.run X8 hx hby sg5_24_4 (pc' := 4) (L' := #[sr o0, .val (.int (ix + (1 : Int32))), un, un, un, un, un]) (S' := [(.ref o0), (.int (ix + (1 : Int32)))]) rfl ?_
     refine Home.st (own_pure (own_virtual X8 hx hZ hown (own_w32 hw) (own_w33 hw) (notFace_of_selects (args := #[]) (mvT hZ (own_w35 hw))) (own_w35 hw) (own_w34 hw) (own_w8 hw) (own_w36 hw) (by decide) (rm6_1 l Z a0 hw [] o0 p2 k_p2 l_1 sv_COMPACT_STRINGS h3 n0 O3 (F_value_o0.keep K3 nin0) (V_p2.keep K3 nin0) (E_o0.keep K3) S_COMPACT_STRINGS (F_coder_o0.keep K3 nin0) hCS (Nat.le_trans (own_len_le sh_l_1).2 (by decide))) e8 (E_o0.keep K3) rfl (by rw [hml]; rfl) (argsL := []) (rest := [(.int (ix + (1 : Int32)))]) (lenOf own_pd4 rfl) rfl rfl (W := 1) (by exact hW0) (by decide) (by decide) (hb hby d5_4) (by decide) (by decide))) fun T10 X10 e10 => ?_
     refine Home.go (fun _ => XS.icmpNo X10.here hx rfl (hb hby d5_7) rfl (tlt hy1).2.1) ?_
     refine Home.run X10 hx hby sg5_10_2 (pc' := 12) (L' := #[sr o0, .val (.int (ix + (1 : Int32))), un, un, un, un, un]) (S' := [(.int (ix + (1 : Int32))), (.ref o0)]) rfl ?_
     refine Home.st (own_pure (own_virtual X10 hx hZ hown (own_w91 hw) (own_w60 hw) (notFace_of_selects (args := #[]) (mvT hZ (own_w62 hw))) (own_w62 hw) (own_w61 hw) (own_w8 hw) (own_w63 hw) (by decide) (rm13_2 l Z a0 hw [] o0 (ix + (1 : Int32)) sv_COMPACT_STRINGS p2 k_p2 l_1 sv_SIOOBE_FORMATTER h3 n0 O3 hy0 hy1 (Nat.le_trans (own_len_le sh_l_1).2 (by decide)) (E_o0.keep K3) S_COMPACT_STRINGS (F_coder_o0.keep K3 nin0) hCS (F_value_o0.keep K3 nin0) (V_p2.keep K3 nin0) S_SIOOBE_FORMATTER isr_sv_SIOOBE_FORMATTER) e10 (E_o0.keep K3) rfl (by rw [hml]; rfl) (argsL := [(.int (ix + (1 : Int32)))]) (rest := []) (lenOf own_pd14 rfl) rfl rfl (W := 0) (by exact hW0) (by decide) (by decide) (hb hby d5_12) (by decide) (by decide))) fun T11 X11 e11 => ?_
     refine Home.go (ldcAgain X11 hx hZ hown (own_w92 hw) Li3 (g := (mkF m 15 #[.val (.ref o0), .val (.int (ix + (1 : Int32))), .unset, .unset, .unset, .unset, .unset] [(.int ((own_at l_1 (ix + (1 : Int32))) &&& (255 : Int32)))])) rfl (hb hby d5_15)) ?_
     have q := own_zs_go (a := a) (r := b :: r) (by rw [← hat]; exact c9.trans (by decide))
     rw [q] at hz
     exact ih (pre ++ [a]) b (by rw [hL]; simp) (by rw [hz, List.length_append]; simp only [List.length_cons, List.length_nil]; omega) X11 e11 (ix + (1 : Int32)) (by rw [hix, List.length_append]; exact hix1)
    ·
     refine Home.go (fun _ => XS.icmpYes X8.here hx rfl (pc0 := 21) (pc' := 30) rfl (hb hby d5_21) rfl (feq c9).2 (by decide) (by decide)) ?_
     have q := own_zs_no (a := a) (r := (b :: r)) (by rw [← hat]; exact fun q => c9 (q.trans (by decide)))
     rw [q] at hz
     exact J4 X8 e8 ix (by rw [hix, hz, Nat.add_zero])
 intro TJ4 XJ4 eJ4 zs hzs
 have hzl : own_zs l_1 ≤ l_1.length := own_zs_le _
 have hzb : ¬ zs < (0 : Int32) ∧ ¬ (6 : Int32) < zs := by rw [hzs]; exact own_ofNat_b (by omega)
 show Home TJ4 (mkF m 30 #[sr o0, si zs, un, un, un, un, un] [])
 refine Home.run XJ4 hx hby sg5_30_1 (pc' := 31) (L' := #[sr o0, si zs, un, un, un, un, un]) (S' := [(.ref o0)]) rfl ?_
 refine Home.st (own_pure (own_virtual XJ4 hx hZ hown (own_w32 hw) (own_w33 hw) (notFace_of_selects (args := #[]) (mvT hZ (own_w35 hw))) (own_w35 hw) (own_w34 hw) (own_w8 hw) (own_w36 hw) (by decide) (rm6_1 l Z a0 hw [] o0 p2 k_p2 l_1 sv_COMPACT_STRINGS h3 n0 O3 (F_value_o0.keep K3 nin0) (V_p2.keep K3 nin0) (E_o0.keep K3) S_COMPACT_STRINGS (F_coder_o0.keep K3 nin0) hCS (Nat.le_trans (own_len_le sh_l_1).2 (by decide))) eJ4 (E_o0.keep K3) rfl (by rw [hml]; rfl) (argsL := []) (rest := []) (lenOf own_pd4 rfl) rfl rfl (W := 0) (by exact hW0) (by decide) (by decide) (hb hby d5_31) (by decide) (by decide))) fun T12 X12 e12 => ?_
 refine Home.na (own_newP (aty := .byte) X12 hx hZ (own_w21 hw) e12 (g := (mkF m 34 #[.val (.ref o0), .val (.int zs), .unset, .unset, .unset, .unset, .unset] [(.int (own_n l_1))])) rfl (hb hby d5_34) rfl (bnd_nlt (own_n_b (a := 0) (b := 6) (own_len_le (Nat.le_trans (own_len_le sh_l_1).2 (by decide))) (lo := (0 : Int32)) (hi := (6 : Int32)) (by decide) (by decide) (by decide)) (bnd_lit (0 : Int32)) (by decide +kernel)) (cap := 6) (own_capb (own_n_b (a := 0) (b := 6) (own_len_le (Nat.le_trans (own_len_le sh_l_1).2 (by decide))) (lo := (0 : Int32)) (hi := (6 : Int32)) (by decide) (by decide) (by decide)) (by decide)) (by decide) (by decide) (by decide)) fun T13 h13 k13 b13 g13 X13 e13 E13 A13 => ?_
 have g_b13 : n0 ≤ b13 := Nat.le_trans (Old.le O3) (Nat.le_of_eq g13.symm)
 have V13 : Arv Z h13 b13 k13 .byte (own_n l_1) (List.map Value.int []) (.int 0) := Arv.new A13 (bnd_nlt (own_n_b (a := 0) (b := 6) (own_len_le (Nat.le_trans (own_len_le sh_l_1).2 (by decide))) (lo := (0 : Int32)) (hi := (6 : Int32)) (by decide) (by decide) (by decide)) (bnd_lit (0 : Int32)) (by decide +kernel))
 have O13 := O3.ext E13
 have K13 : Keep h0 h13 ([] : List Addr) := Keep.ext K3 E13
 have Cd13 := Cold.add Cd3 E13 (Nat.le_of_eq g13.symm) V13.lt
 refine Home.run X13 hx hby sg5_36_5 (pc' := 42) (L' := #[sr o0, si zs, sr b13, si 0, si zs, un, un]) (S' := []) rfl ?_
 refine Home.cut (C := fun E => ∀ {T : State} {lc : List Loc} {hJ : Heap} (X : Stand p l e ({ frames := 4, cells := 4, slots := 254, locals := 59 } : Room) (s.setVm T3.vm) m #[(.ref o0)] below meth c T lc 3 242) (N : Fr n0 lc) (eT : T.heap = hJ) (Kq : Keep h13 hJ ([b13] : List Addr)) (n3 : Int32) (hn3 : n3 = own_n (own_B l_1)) (vB : Arv Z hJ b13 k13 .byte (own_n l_1) (List.map Value.int (own_B l_1)) (.int 0)) (i4 : Int32) (s5 : Slot) (hs5 : s5 = .unset ∨ ∃ w, s5 = .val w ∧ w.category = 1) (s6 : Slot) (hs6 : s6 = .unset ∨ ∃ w, s6 = .val w ∧ w.category = 1), @Home p e below E T (mkF m 163 #[sr o0, si zs, sr b13, si n3, si i4, s5, s6] [])) (fun _ J14 => ?_) ?_
 ·
  refine Home.cut (C := fun E => ∀ (r pre B : List Int32), l_1 = pre ++ r → own_run r B = (own_B l_1) → B.length ≤ pre.length → ∀ {T : State} {lc : List Loc} {hJ : Heap} (X : Stand p l e ({ frames := 4, cells := 4, slots := 254, locals := 59 } : Room) (s.setVm T3.vm) m #[(.ref o0)] below meth c T lc 3 242) (N : Fr n0 lc) (eT : T.heap = hJ) (Kq : Keep h13 hJ ([b13] : List Addr)) (n3 : Int32) (hn3 : n3 = own_n B) (vB : Arv Z hJ b13 k13 .byte (own_n l_1) (List.map Value.int B) (.int 0)) (i4 : Int32) (hi4 : i4 = Int32.ofNat pre.length) (s5 : Slot) (hs5 : s5 = .unset ∨ ∃ w, s5 = .val w ∧ w.category = 1) (s6 : Slot) (hs6 : s6 = .unset ∨ ∃ w, s6 = .val w ∧ w.category = 1), @Home p e below E T (mkF m 42 #[sr o0, si zs, sr b13, si n3, si i4, s5, s6] [])) (fun _ LP => ?_) ?_
  · exact LP (List.drop (own_zs l_1) l_1) (List.take (own_zs l_1) l_1) [] (List.take_append_drop _ _).symm rfl (Nat.zero_le _) X13 N0 e13 (Keep.refl _ _) 0 rfl V13 zs (by rw [own_take]; exact hzs) .unset (Or.inl rfl) .unset (Or.inl rfl)
  intro r
  induction r with
  | nil =>
    intro pre B hL hrun hBl TB lcB hB XB NB eB KqB n3 hn3 vB i4 hi4 s5 hs5 s6 hs6
    have OB := Old.keep O13 KqB (allS g_b13 all0)
    have KB : Keep h0 hB ([] : List Addr) := Keep.trans K13 KqB (allS (Or.inr (Nat.le_trans E3.1 (Nat.le_of_eq g13.symm))) all0)
    have CdB := Cold.keep Cd13 KqB (allS (Cold.safe Cd13 (List.mem_of_getElem? (i := 0) rfl)) all0)
    have hln : l_1.length = pre.length := by rw [hL, List.append_nil]
    have hn' : (own_n l_1).toInt = l_1.length := own_n_int (by omega)
    have hi : i4.toInt = ((pre.length : Nat) : Int) := by rw [hi4]; exact Int32.toInt_ofNat_small (by omega)
    have hx1 : ¬ i4 < (own_n l_1) := by rw [Int32.lt_iff_toInt_lt, hi, hn']; omega
    refine Home.run XB hx hby sg5_42_2 (pc' := 45) (L' := #[sr o0, si zs, sr b13, si n3, si i4, s5, s6]) (S' := [(.ref o0), (.int i4)]) rfl ?_
    refine Home.st (own_pure (own_virtual XB hx hZ hown (own_w32 hw) (own_w33 hw) (notFace_of_selects (args := #[]) (mvT hZ (own_w35 hw))) (own_w35 hw) (own_w34 hw) (own_w8 hw) (own_w36 hw) (by decide) (rm6_1 l Z a0 hw [] o0 p2 k_p2 l_1 sv_COMPACT_STRINGS hB n0 OB (F_value_o0.keep KB nin0) (V_p2.keep KB nin0) (E_o0.keep KB) S_COMPACT_STRINGS (F_coder_o0.keep KB nin0) hCS (Nat.le_trans (own_len_le sh_l_1).2 (by decide))) eB (E_o0.keep KB) rfl (by rw [hml]; rfl) (argsL := []) (rest := [(.int i4)]) (lenOf own_pd4 rfl) rfl rfl (W := 1) (by exact hW0) (by decide) (by decide) (hb hby d5_45) (by decide) (by decide))) fun T15 X15 e15 => ?_
    refine Home.go (fun _ => XS.icmpYes X15.here hx rfl (pc0 := 48) (pc' := 163) rfl (hb hby d5_48) rfl (flt hx1).2.1 (by decide) (by decide)) ?_
    exact J14 X15 NB e15 KqB n3 (hn3.trans (congrArg own_n hrun)) (by rw [← hrun]; exact vB) i4 s5 hs5 s6 hs6
  | cons a r ih =>
    intro pre B hL hrun hBl TB lcB hB XB NB eB KqB n3 hn3 vB i4 hi4 s5 hs5 s6 hs6
    have OB := Old.keep O13 KqB (allS g_b13 all0)
    have KB : Keep h0 hB ([] : List Addr) := Keep.trans K13 KqB (allS (Or.inr (Nat.le_trans E3.1 (Nat.le_of_eq g13.symm))) all0)
    have CdB := Cold.keep Cd13 KqB (allS (Cold.safe Cd13 (List.mem_of_getElem? (i := 0) rfl)) all0)
    have hln : l_1.length = pre.length + (r.length + 1) := by rw [hL, List.length_append, List.length_cons]
    have hn' : (own_n l_1).toInt = l_1.length := own_n_int (by omega)
    have hi : i4.toInt = ((pre.length : Nat) : Int) := by rw [hi4]; exact Int32.toInt_ofNat_small (by omega)
    have h0' : (0 : Int32).toInt = 0 := rfl
    have hx0 : ¬ i4 < (0 : Int32) := by rw [Int32.lt_iff_toInt_lt, hi]; omega
    have hx1 : i4 < (own_n l_1) := by rw [Int32.lt_iff_toInt_lt, hi, hn']; omega
    have hat : own_at l_1 i4 = a := by rw [hL]; exact own_at_pre (by omega) hi4
    have hcb : ¬ (f_rm27_0 ((own_at l_1 i4) &&& (255 : Int32))) < (0 : Int32) ∧ ¬ (57 : Int32) < (f_rm27_0 ((own_at l_1 i4) &&& (255 : Int32))) := by rw [hat]; exact hA a (by rw [hL]; simp)
    have hB3 : n3.toInt = ((B.length : Nat) : Int) := by rw [hn3]; exact own_n_int (by omega)
    have hn30 : ¬ n3 < (0 : Int32) := by rw [Int32.lt_iff_toInt_lt, hB3]; omega
    have hn3l : n3 < (own_n l_1) := by rw [Int32.lt_iff_toInt_lt, hB3, hn']; omega
    refine Home.run XB hx hby sg5_42_2 (pc' := 45) (L' := #[sr o0, si zs, sr b13, si n3, si i4, s5, s6]) (S' := [(.ref o0), (.int i4)]) rfl ?_
    refine Home.st (own_pure (own_virtual XB hx hZ hown (own_w32 hw) (own_w33 hw) (notFace_of_selects (args := #[]) (mvT hZ (own_w35 hw))) (own_w35 hw) (own_w34 hw) (own_w8 hw) (own_w36 hw) (by decide) (rm6_1 l Z a0 hw [] o0 p2 k_p2 l_1 sv_COMPACT_STRINGS hB n0 OB (F_value_o0.keep KB nin0) (V_p2.keep KB nin0) (E_o0.keep KB) S_COMPACT_STRINGS (F_coder_o0.keep KB nin0) hCS (Nat.le_trans (own_len_le sh_l_1).2 (by decide))) eB (E_o0.keep KB) rfl (by rw [hml]; rfl) (argsL := []) (rest := [(.int i4)]) (lenOf own_pd4 rfl) rfl rfl (W := 1) (by exact hW0) (by decide) (by decide) (hb hby d5_45) (by decide) (by decide))) fun T16 X16 e16 => ?_
    refine Home.go (fun _ => XS.icmpNo X16.here hx rfl (hb hby d5_48) rfl (tlt hx1).2.1) ?_
    refine Home.go (ldcAgain X16 hx hZ hown (own_w92 hw) Li3 (g := (mkF m 51 #[.val (.ref o0), .val (.int zs), .val (.ref b13), .val (.int n3), .val (.int i4), s5, s6] [])) rfl (hb hby d5_51)) ?_
    refine Home.run X16 hx hby sg5_53_2 (pc' := 56) (L' := #[sr o0, si zs, sr b13, si n3, si i4, s5, s6]) (S' := [(.int i4), (.ref o0), (.ref ad3)]) rfl ?_
    refine Home.st (own_pure (own_virtual X16 hx hZ hown (own_w91 hw) (own_w60 hw) (notFace_of_selects (args := #[]) (mvT hZ (own_w62 hw))) (own_w62 hw) (own_w61 hw) (own_w8 hw) (own_w63 hw) (by decide) (rm13_2 l Z a0 hw [] o0 i4 sv_COMPACT_STRINGS p2 k_p2 l_1 sv_SIOOBE_FORMATTER hB n0 OB hx0 hx1 (Nat.le_trans (own_len_le sh_l_1).2 (by decide)) (E_o0.keep KB) S_COMPACT_STRINGS (F_coder_o0.keep KB nin0) hCS (F_value_o0.keep KB nin0) (V_p2.keep KB nin0) S_SIOOBE_FORMATTER isr_sv_SIOOBE_FORMATTER) e16 (E_o0.keep KB) rfl (by rw [hml]; rfl) (argsL := [(.int i4)]) (rest := [(.ref ad3)]) (lenOf own_pd14 rfl) rfl rfl (W := 1) (by exact hW0) (by decide) (by decide) (hb hby d5_56) (by decide) (by decide))) fun T17 X17 e17 => ?_
    have q18 := ((Ea3.ext E13).keep KqB)
    have ne19 : ad3 ≠ b13 := (Nat.ne_of_lt (Nat.lt_of_lt_of_le Ea3.lt (Nat.le_trans (Nat.le_refl _) (Nat.le_of_eq g13.symm))))
    have q20 := ((Fc3.ext E13).keep KqB (ninS ne19 nin0))
    have q21 := ((Fv3.ext E13).keep KqB (ninS ne19 nin0))
    have ne22 : b3 ≠ b13 := (Nat.ne_of_lt (Nat.lt_of_lt_of_le V3.lt (Nat.le_trans (Nat.le_refl _) (Nat.le_of_eq g13.symm))))
    have q23 := ((V3.ext E13).keep KqB (ninS ne22 nin0))
    refine Home.st (own_pure (own_virtual X17 hx hZ hown (own_w93 hw) (own_w94 hw) (notFace_of_selects (args := #[]) (mvT hZ (own_w96 hw))) (own_w96 hw) (own_w95 hw) (own_w8 hw) (own_w97 hw) (by decide) (rm21_0 l Z a0 hw [] ad3 ((own_at l_1 i4) &&& (255 : Int32)) sv_COMPACT_STRINGS b3 k3 hB n0 OB (bnd_and (own_at l_1 i4) (255 : Int32) (by decide)) q18 S_COMPACT_STRINGS q20 q21 q23 hCS) e17 q18 rfl (by rw [hml]; rfl) (argsL := [(.int ((own_at l_1 i4) &&& (255 : Int32)))]) (rest := []) (lenOf own_pd21 rfl) rfl rfl (W := 0) (by exact hW0) (by decide) (by decide) (hb hby d5_59) (by decide) (by decide))) fun T24 X24 e24 => ?_
    refine Home.go (fun _ => XS.istore X24.here hx rfl (hb hby d5_62) rfl (l' := #[.val (.ref o0), .val (.int zs), .val (.ref b13), .val (.int n3), .val (.int i4), .val (.int (f_rm27_0 ((own_at l_1 i4) &&& (255 : Int32)))), s6]) (XS.store1 rfl hs5 rfl)) ?_
    show Home T24 (mkF m 64 #[sr o0, si zs, sr b13, si n3, si i4, .val (.int (f_rm27_0 ((own_at l_1 i4) &&& (255 : Int32)))), s6] [])
    refine Home.run X24 hx hby sg5_64_1 (pc' := 66) (L' := #[sr o0, si zs, sr b13, si n3, si i4, .val (.int (f_rm27_0 ((own_at l_1 i4) &&& (255 : Int32)))), s6]) (S' := [(.int (f_rm27_0 ((own_at l_1 i4) &&& (255 : Int32))))]) rfl ?_
    refine Home.go (fun _ => XS.ifYes X24.here hx rfl (pc0 := 66) (pc' := 88) rfl (hb hby d5_66) rfl ((if0 _ _).trans (flt hcb.1).2.1) (by decide) (by decide)) ?_
    refine Home.run X24 hx hby sg5_88_1 (pc' := 89) (L' := #[sr o0, si zs, sr b13, si n3, si i4, .val (.int (f_rm27_0 ((own_at l_1 i4) &&& (255 : Int32)))), s6]) (S' := [(.int 0)]) rfl ?_
    refine Home.go (fun _ => XS.istore X24.here hx rfl (hb hby d5_89) rfl (l' := #[.val (.ref o0), .val (.int zs), .val (.ref b13), .val (.int n3), .val (.int i4), .val (.int (f_rm27_0 ((own_at l_1 i4) &&& (255 : Int32)))), .val (.int 0)]) (XS.store1 rfl hs6 rfl)) ?_
    obtain ⟨c0, hc0⟩ : ∃ z, z = (f_rm27_0 ((own_at l_1 i4) &&& (255 : Int32))) := ⟨_, rfl⟩
    rw [← hc0]
    have hb0 : ¬ c0 < (0 : Int32) ∧ ¬ (57 : Int32) < c0 := by rw [hc0]; exact hcb
    refine Home.cut (C := fun E => ∀ {T : State} {lc : List Loc} {hJ : Heap} (X : Stand p l e ({ frames := 4, cells := 4, slots := 254, locals := 59 } : Room) (s.setVm T3.vm) m #[(.ref o0)] below meth c T lc 3 242) (N : Fr n0 lc) (eT : T.heap = hJ) (Kq : Keep h13 hJ ([b13] : List Addr)) (Q : List Int32) (hQ : Q = (own_in B c0).1) (vB : Arv Z hJ b13 k13 .byte (own_n l_1) (List.map Value.int Q) (.int 0)) (c2 : Int32) (hc2 : c2 = (own_in B c0).2) (s6 : Slot) (hs6 : s6 = .unset ∨ ∃ w, s6 = .val w ∧ w.category = 1), @Home p e below E T (mkF m 133 #[sr o0, si zs, sr b13, si n3, si i4, si c2, s6] [])) (fun _ JC => ?_) ?_
    ·
     refine Home.cut (C := fun E => ∀ (r2 pre2 : List Int32) (cq : Int32), pre2 ++ (own_in r2 cq).1 = (own_in B c0).1 → (own_in r2 cq).2 = (own_in B c0).2 → pre2.length + r2.length = B.length → ∀ {T : State} {lc : List Loc} {hJ : Heap} (X : Stand p l e ({ frames := 4, cells := 4, slots := 254, locals := 59 } : Room) (s.setVm T3.vm) m #[(.ref o0)] below meth c T lc 3 242) (N : Fr n0 lc) (eT : T.heap = hJ) (Kq : Keep h13 hJ ([b13] : List Addr)) (vB : Arv Z hJ b13 k13 .byte (own_n l_1) (List.map Value.int (pre2 ++ r2)) (.int 0)) (j : Int32) (hj : j = Int32.ofNat pre2.length), @Home p e below E T (mkF m 91 #[sr o0, si zs, sr b13, si n3, si i4, si cq, si j] [])) (fun _ LC => ?_) ?_
     · exact LC B [] c0 rfl rfl (Nat.zero_add _) X24 NB e24 KqB vB 0 rfl
     intro r2
     induction r2 with
     | nil =>
       intro pre2 cq hq1 hq2 hl2 TC lcC hC XC NC eC KqC vC j hj
       have hl3 : pre2.length = B.length := hl2
       have hj' : j.toInt = ((pre2.length : Nat) : Int) := by rw [hj]; exact Int32.toInt_ofNat_small (by omega)
       have hj1 : ¬ j < n3 := by rw [Int32.lt_iff_toInt_lt, hj', hB3]; omega
       refine Home.run XC hx hby sg5_91_2 (pc' := 94) (L' := #[sr o0, si zs, sr b13, si n3, si i4, si cq, si j]) (S' := [(.int n3), (.int j)]) rfl ?_
       refine Home.go (fun _ => XS.icmpYes XC.here hx rfl (pc0 := 94) (pc' := 133) rfl (hb hby d5_94) rfl (flt hj1).2.1 (by decide) (by decide)) ?_
       exact JC XC NC eC KqC pre2 (by rw [← hq1]; exact (List.append_nil _).symm) (by rw [List.append_nil] at vC; exact vC) cq hq2 _ (Or.inr ⟨_, rfl, rfl⟩)
     | cons a2 r2 ih2 =>
       intro pre2 cq hq1 hq2 hl2 TC lcC hC XC NC eC KqC vC j hj
       have hl3 : pre2.length + (r2.length + 1) = B.length := hl2
       have hj' : j.toInt = ((pre2.length : Nat) : Int) := by rw [hj]; exact Int32.toInt_ofNat_small (by omega)
       have hj0 : ¬ j < (0 : Int32) := by rw [Int32.lt_iff_toInt_lt, hj']; omega
       have hj1 : j < n3 := by rw [Int32.lt_iff_toInt_lt, hj', hB3]; omega
       have hj2 : j < (own_n l_1) := by rw [Int32.lt_iff_toInt_lt, hj', hn']; omega
       have hm : j = Int32.ofNat pre2.length ∧ pre2.length < 2147483648 := ⟨hj, by omega⟩
       have hat2 : own_at (pre2 ++ a2 :: r2) j = a2 := own_at_pre hm.2 hj
       refine Home.run XC hx hby sg5_91_2 (pc' := 94) (L' := #[sr o0, si zs, sr b13, si n3, si i4, si cq, si j]) (S' := [(.int n3), (.int j)]) rfl ?_
       refine Home.go (fun _ => XS.icmpNo XC.here hx rfl (hb hby d5_94) rfl (tlt hj1).2.1) ?_
       refine Home.run XC hx hby sg5_97_3 (pc' := 102) (L' := #[sr o0, si zs, sr b13, si n3, si i4, si cq, si j]) (S' := [(.int j), (.ref b13), (.int cq)]) rfl ?_
       obtain ⟨cl25, Ar25, q25, S25, M25, H25, G25⟩ := id vC
       have ib25 : ¬ (j < 0 ∨ cl25.slots.size ≤ (j).toNatClampNeg) := inb_of S25 ⟨hj0, hj2⟩
       refine Home.go (XC.baloadBytes hx (j := j) (v := .int (own_at (pre2 ++ a2 :: r2) j)) (by rw [eC]; exact Ar25.1) (State.isArrayOf_alike hZ.alike Ar25.2.1) Ar25.2.2 ib25 (Has.at H25 ib25 (own_getD (pre2 ++ a2 :: r2) _)) rfl rfl (hb hby d5_102)) ?_
       rw [hat2]
       show Home TC (mkF m 103 #[sr o0, si zs, sr b13, si n3, si i4, si cq, si j] [(.int a2), (.int cq)])
       refine Home.run XC hx hby sg5_103_10 (pc' := 119) (L' := #[sr o0, si zs, sr b13, si n3, si i4, .val (.int (cq + ((a2 &&& (255 : Int32)) * (58 : Int32)))), si j]) (S' := [(.int ((cq + ((a2 &&& (255 : Int32)) * (58 : Int32))).toInt8.toInt32)), (.int j), (.ref b13)]) rfl ?_
       obtain ⟨cl26, Ar26, q26, S26, M26, H26, G26⟩ := id vC
       refine Home.wr (stB XC hx hZ eC Ar26 (j := j) (inb_of S26 ⟨hj0, hj2⟩) rfl rfl (hb hby d5_119)) fun T26 h26 X26 e26 W26 => ?_
       have W26' := Wr.to W26 (congrArg Value.int (nar_byte_id (bnd_i2b (cq + ((a2 &&& (255 : Int32)) * (58 : Int32)))) (by decide +kernel) (by decide +kernel)))
       have V26 : Arv Z h26 b13 k13 .byte (own_n l_1) (List.map Value.int (pre2 ++ ((cq + ((a2 &&& (255 : Int32)) * (58 : Int32))).toInt8.toInt32) :: r2)) (.int 0) := own_setS (vs := (pre2 ++ a2 :: r2)) (ws := (pre2 ++ ((cq + ((a2 &&& (255 : Int32)) * (58 : Int32))).toInt8.toInt32) :: r2)) Ar26 q26 S26 M26 H26 G26 (fits_byte_b (bnd_i2b (cq + ((a2 &&& (255 : Int32)) * (58 : Int32)))) (by decide +kernel) (by decide +kernel)) W26' (own_len_mid hm) (own_set_mid hm)
       have k26 : Keep h13 h26 ([b13] : List Addr) := Keep.wr KqC W26 (Or.inl (List.mem_of_getElem? (i := 0) rfl))
       have N26 := Fr.snoc X26 NC g_b13
       refine Home.run X26 hx hby sg5_120_6 (pc' := 91) (L' := #[sr o0, si zs, sr b13, si n3, si i4, .val (.int (((cq + ((a2 &&& (255 : Int32)) * (58 : Int32))).toUInt32 >>> ((8 : Int32) &&& 31).toUInt32).toInt32)), .val (.int (j + (1 : Int32)))]) (S' := []) rfl ?_
       exact ih2 (pre2 ++ [((cq + ((a2 &&& (255 : Int32)) * (58 : Int32))).toInt8.toInt32)]) (((cq + ((a2 &&& (255 : Int32)) * (58 : Int32))).toUInt32 >>> ((8 : Int32) &&& 31).toUInt32).toInt32) (by rw [List.append_assoc]; exact hq1) hq2 (by rw [List.length_append]; show pre2.length + 1 + r2.length = B.length; omega) X26 N26 e26 k26 (by rw [List.append_assoc]; exact V26) (j + (1 : Int32)) (by rw [hj, List.length_append]; exact own_succ _)
    intro TD lcD hD XD ND eD KqD Q hQ vQ c2 hc2 s7 hs7
    have hQl : Q.length = B.length := by rw [hQ]; exact own_in_len B c0
    have hb2 : ¬ c2 < (0 : Int32) ∧ ¬ (57 : Int32) < c2 := by rw [hc2]; exact own_in_b B hb0
    have hm : n3 = Int32.ofNat Q.length ∧ Q.length < 2147483648 := ⟨by rw [hn3, hQl]; rfl, by omega⟩
    have hsh : ¬ (0 : Int32) < ((c2.toUInt32 >>> ((8 : Int32) &&& 31).toUInt32).toInt32) := own_sh0 hb2
    show Home TD (mkF m 133 #[sr o0, si zs, sr b13, si n3, si i4, si c2, s7] [])
    refine Home.run XD hx hby sg5_133_1 (pc' := 135) (L' := #[sr o0, si zs, sr b13, si n3, si i4, si c2, s7]) (S' := [(.int c2)]) rfl ?_
    by_cases c27 : (0 : Int32) < c2
    ·
     refine Home.go (fun _ => XS.ifNo XD.here hx rfl (hb hby d5_135) rfl ((if0 _ _).trans (tlt c27).2.2.2)) ?_
     have bd28 : ¬ c2 < (1 : Int32) ∧ ¬ (2147483647 : Int32) < c2 := ⟨(bnd_up c27 (by decide +kernel)), (bnd_all c2).2⟩
     refine Home.run XD hx hby sg5_138_5 (pc' := 146) (L' := #[sr o0, si zs, sr b13, .val (.int (n3 + (1 : Int32))), si i4, si c2, s7]) (S' := [(.int (c2.toInt8.toInt32)), (.int n3), (.ref b13)]) rfl ?_
     obtain ⟨cl30, Ar30, q30, S30, M30, H30, G30⟩ := id (own_pad1 vQ)
     refine Home.wr (stB XD hx hZ eD Ar30 (j := n3) (inb_of S30 ⟨hn30, hn3l⟩) rfl rfl (hb hby d5_146)) fun T30 h30 X30 e30 W30 => ?_
     have W30' := Wr.to W30 (congrArg Value.int (nar_byte_id (bnd_i2b c2) (by decide +kernel) (by decide +kernel)))
     have V30 : Arv Z h30 b13 k13 .byte (own_n l_1) (List.map Value.int (Q ++ [(c2.toInt8.toInt32)])) (.int 0) := own_setS (vs := (Q ++ [0])) (ws := (Q ++ [(c2.toInt8.toInt32)])) Ar30 q30 S30 M30 H30 G30 (fits_byte_b (bnd_i2b c2) (by decide +kernel) (by decide +kernel)) W30' (own_len_mid hm) (own_set_mid hm)
     have k30 : Keep h13 h30 ([b13] : List Addr) := Keep.wr KqD W30 (Or.inl (List.mem_of_getElem? (i := 0) rfl))
     have N30 := Fr.snoc X30 ND g_b13
     refine Home.run X30 hx hby sg5_147_6 (pc' := 135) (L' := #[sr o0, si zs, sr b13, .val (.int (n3 + (1 : Int32))), si i4, .val (.int ((c2.toUInt32 >>> ((8 : Int32) &&& 31).toUInt32).toInt32)), s7]) (S' := [(.int ((c2.toUInt32 >>> ((8 : Int32) &&& 31).toUInt32).toInt32))]) rfl ?_
     refine Home.go (fun _ => XS.ifYes X30.here hx rfl (pc0 := 135) (pc' := 157) rfl (hb hby d5_135) rfl ((if0 _ _).trans (flt hsh).2.2.2) (by decide) (by decide)) ?_
     refine Home.run X30 hx hby sg5_157_2 (pc' := 42) (L' := #[sr o0, si zs, sr b13, .val (.int (n3 + (1 : Int32))), .val (.int (i4 + (1 : Int32))), .val (.int ((c2.toUInt32 >>> ((8 : Int32) &&& 31).toUInt32).toInt32)), s7]) (S' := []) rfl ?_
     have hst : own_st B c0 = Q ++ [(c2.toInt8.toInt32)] := by subst hQ; subst hc2; exact if_pos c27
     exact ih (pre ++ [a]) (own_st B c0) (by rw [hL]; simp) (by rw [hc0, hat]; exact hrun) (by rw [List.length_append]; have := own_st_len B c0; simp only [List.length_cons, List.length_nil]; omega) X30 N30 e30 k30 (n3 + (1 : Int32)) (by rw [hst, hm.1]; exact own_n_snoc _ _) (by rw [hst]; exact V30) (i4 + (1 : Int32)) (by rw [hi4, List.length_append]; exact own_succ _) _ (Or.inr ⟨_, rfl, rfl⟩) s7 hs7
    ·
     refine Home.go (fun _ => XS.ifYes XD.here hx rfl (pc0 := 135) (pc' := 157) rfl (hb hby d5_135) rfl ((if0 _ _).trans (flt c27).2.2.2) (by decide) (by decide)) ?_
     have bd29 : ¬ c2 < (-2147483648 : Int32) ∧ ¬ (0 : Int32) < c2 := ⟨(bnd_all c2).1, c27⟩
     refine Home.run XD hx hby sg5_157_2 (pc' := 42) (L' := #[sr o0, si zs, sr b13, si n3, .val (.int (i4 + (1 : Int32))), si c2, s7]) (S' := []) rfl ?_
     have hst : own_st B c0 = Q := by subst hQ; subst hc2; exact if_neg c27
     exact ih (pre ++ [a]) (own_st B c0) (by rw [hL]; simp) (by rw [hc0, hat]; exact hrun) (by rw [List.length_append]; have := own_st_len B c0; simp only [List.length_cons, List.length_nil]; omega) XD ND eD KqD n3 (by rw [hst]; exact hm.1) (by rw [hst]; exact vQ) (i4 + (1 : Int32)) (by rw [hi4, List.length_append]; exact own_succ _) _ (Or.inr ⟨_, rfl, rfl⟩) s7 hs7
 intro TJ14 lcJ14 hJ14 XJ14 NJ14 eJ14 KqJ14 n3 hn3 vB i4 s5 hs5 s6 hs6
 have OJ14 := Old.keep O13 KqJ14 (allS g_b13 all0)
 have KJ14 : Keep h0 hJ14 ([] : List Addr) := Keep.trans K13 KqJ14 (allS (Or.inr (Nat.le_trans E3.1 (Nat.le_of_eq g13.symm))) all0)
 have CdJ14 := Cold.keep Cd13 KqJ14 (allS (Cold.safe Cd13 (List.mem_of_getElem? (i := 0) rfl)) all0)
 have hBl : (own_B l_1).length ≤ l_1.length := own_B_len _
 have hn3b : ¬ n3 < (0 : Int32) ∧ ¬ (6 : Int32) < n3 := by rw [hn3]; exact own_ofNat_b (by omega)
 show Home TJ14 (mkF m 163 #[sr o0, si zs, sr b13, si n3, si i4, s5, s6] [])
 refine Home.run XJ14 hx hby sg5_163_3 (pc' := 166) (L' := #[sr o0, si zs, sr b13, si n3, si i4, s5, s6]) (S' := [(.int (zs + n3))]) rfl ?_
 refine Home.na (own_newP (aty := .byte) XJ14 hx hZ (own_w21 hw) eJ14 (g := (mkF m 166 #[.val (.ref o0), .val (.int zs), .val (.ref b13), .val (.int n3), .val (.int i4), s5, s6] [(.int (zs + n3))])) rfl (hb hby d5_166) rfl (bnd_nlt (bnd_add hzb hn3b (lo := (0 : Int32)) (hi := (12 : Int32)) (by decide +kernel) (by decide +kernel) (by decide +kernel) (by decide +kernel)) (bnd_lit (0 : Int32)) (by decide +kernel)) (cap := 12) (own_capb (bnd_add hzb hn3b (lo := (0 : Int32)) (hi := (12 : Int32)) (by decide +kernel) (by decide +kernel) (by decide +kernel) (by decide +kernel)) (by decide)) (by decide) (by decide) (by decide)) fun T31 h31 k31 b31 g31 X31 e31 E31 A31 => ?_
 have g_b31 : n0 ≤ b31 := Nat.le_trans (Old.le OJ14) (Nat.le_of_eq g31.symm)
 have V31 : Arv Z h31 b31 k31 .byte (zs + n3) (List.map Value.int []) (.int 0) := Arv.new A31 (bnd_nlt (bnd_add hzb hn3b (lo := (0 : Int32)) (hi := (12 : Int32)) (by decide +kernel) (by decide +kernel) (by decide +kernel) (by decide +kernel)) (bnd_lit (0 : Int32)) (by decide +kernel))
 have O31 := OJ14.ext E31
 have K31 : Keep h0 h31 ([] : List Addr) := Keep.ext KJ14 E31
 have Cd31 := Cold.add CdJ14 E31 (Nat.le_of_eq g31.symm) V31.lt
 refine Home.run X31 hx hby sg5_168_2 (pc' := 171) (L' := #[sr o0, si zs, sr b13, si n3, sr b31, s5, s6]) (S' := [(.int 0)]) rfl ?_
 refine Home.go (fun _ => XS.istore X31.here hx rfl (hb hby d5_171) rfl (l' := #[.val (.ref o0), .val (.int zs), .val (.ref b13), .val (.int n3), .val (.ref b31), .val (.int 0), s6]) (XS.store1 rfl hs5 rfl)) ?_
 have q33 := (vB.ext E31)
 have le34 : h0.size ≤ h13.size := Nat.le_trans E3.1 E13.1
 have le35 : h0.size ≤ hJ14.size := Nat.le_trans le34 KqJ14.1
 refine Home.cut (C := fun E => ∀ {T : State} {lc : List Loc} {hJ : Heap} (X : Stand p l e ({ frames := 4, cells := 4, slots := 254, locals := 59 } : Room) (s.setVm T3.vm) m #[(.ref o0)] below meth c T lc 4 254) (N : Fr n0 lc) (eT : T.heap = hJ) (Kq : Keep h31 hJ ([b31] : List Addr)) (vD : Arv Z hJ b31 k31 .byte (zs + n3) (List.map Value.int (own_dec l_1)) (.int 0)) (j : Int32), @Home p e below E T (mkF m 200 #[sr o0, si zs, sr b13, si n3, sr b31, si j, s6] [])) (fun _ J32 => ?_) ?_
 ·
  refine Home.cut (C := fun E => ∀ (t dn : List Int32), (own_B l_1).reverse = dn ++ t → ∀ {T : State} {lc : List Loc} {hJ : Heap} (X : Stand p l e ({ frames := 4, cells := 4, slots := 254, locals := 59 } : Room) (s.setVm T3.vm) m #[(.ref o0)] below meth c T lc 4 254) (N : Fr n0 lc) (eT : T.heap = hJ) (Kq : Keep h31 hJ ([b31] : List Addr)) (vD : Arv Z hJ b31 k31 .byte (zs + n3) (List.map Value.int (List.replicate (own_zs l_1) (0 : Int32) ++ dn)) (.int 0)) (j : Int32) (hj : j = Int32.ofNat dn.length), @Home p e below E T (mkF m 173 #[sr o0, si zs, sr b13, si n3, sr b31, si j, s6] [])) (fun _ LP => ?_) ?_
  · exact LP (own_B l_1).reverse [] rfl X31 NJ14 e31 (Keep.refl _ _) (own_padn V31 _) 0 rfl
  intro t
  induction t with
  | nil =>
    intro dn hR TB lcB hB XB NB eB KqB vD j hj
    have OB := Old.keep O31 KqB (allS g_b31 all0)
    have KB : Keep h0 hB ([] : List Addr) := Keep.trans K31 KqB (allS (Or.inr (Nat.le_trans le35 (Nat.le_of_eq g31.symm))) all0)
    have CdB := Cold.keep Cd31 KqB (allS (Cold.safe Cd31 (List.mem_of_getElem? (i := 0) rfl)) all0)
    have hln : dn.length + 0 = (own_B l_1).length := by have q := congrArg List.length hR; rw [List.length_reverse, List.length_append] at q; exact q.symm
    have hj' : j.toInt = ((dn.length : Nat) : Int) := by rw [hj]; exact Int32.toInt_ofNat_small (by omega)
    have hB3 : n3.toInt = (((own_B l_1).length : Nat) : Int) := by rw [hn3]; exact own_n_int (by omega)
    have hx1 : ¬ j < n3 := by rw [Int32.lt_iff_toInt_lt, hj', hB3]; omega
    refine Home.run XB hx hby sg5_173_2 (pc' := 176) (L' := #[sr o0, si zs, sr b13, si n3, sr b31, si j, s6]) (S' := [(.int n3), (.int j)]) rfl ?_
    refine Home.go (fun _ => XS.icmpYes XB.here hx rfl (pc0 := 176) (pc' := 200) rfl (hb hby d5_176) rfl (flt hx1).2.1 (by decide) (by decide)) ?_
    exact J32 XB NB eB KqB (by rw [List.append_nil] at hR; rw [← hR] at vD; exact vD) j
  | cons a t ih =>
    intro dn hR TB lcB hB XB NB eB KqB vD j hj
    have OB := Old.keep O31 KqB (allS g_b31 all0)
    have KB : Keep h0 hB ([] : List Addr) := Keep.trans K31 KqB (allS (Or.inr (Nat.le_trans le35 (Nat.le_of_eq g31.symm))) all0)
    have CdB := Cold.keep Cd31 KqB (allS (Cold.safe Cd31 (List.mem_of_getElem? (i := 0) rfl)) all0)
    have hln : dn.length + (t.length + 1) = (own_B l_1).length := by have q := congrArg List.length hR; rw [List.length_reverse, List.length_append] at q; exact q.symm
    have hj' : j.toInt = ((dn.length : Nat) : Int) := by rw [hj]; exact Int32.toInt_ofNat_small (by omega)
    have hB3 : n3.toInt = (((own_B l_1).length : Nat) : Int) := by rw [hn3]; exact own_n_int (by omega)
    have hx1 : j < n3 := by rw [Int32.lt_iff_toInt_lt, hj', hB3]; omega
    have hix : ((n3 - (1 : Int32)) - j) = Int32.ofNat t.length := own_back hn3 hj hln (by omega)
    have hk : ¬ ((n3 - (1 : Int32)) - j) < (0 : Int32) ∧ ((n3 - (1 : Int32)) - j) < (own_n l_1) := by rw [hix]; exact own_ofNat_in (by omega) (by omega)
    have hat3 : own_at (own_B l_1) ((n3 - (1 : Int32)) - j) = a := by rw [own_turn hR]; exact own_at_pre (by rw [List.length_reverse]; omega) (by rw [hix, List.length_reverse])
    have hab : ¬ a < (-128 : Int32) ∧ ¬ (127 : Int32) < a := own_B_b l_1 a (List.mem_reverse.mp (by rw [hR]; simp))
    have hm : (zs + j) = Int32.ofNat (List.replicate (own_zs l_1) (0 : Int32) ++ dn).length ∧ (List.replicate (own_zs l_1) (0 : Int32) ++ dn).length < 2147483648 := by rw [List.length_append, List.length_replicate]; exact ⟨by rw [hzs, hj, Int32.ofNat_add], by omega⟩
    have hkz : ¬ (zs + j) < (0 : Int32) ∧ (zs + j) < (zs + n3) := own_in_sum hzs hj hn3 (by omega) (by omega)
    refine Home.run XB hx hby sg5_173_2 (pc' := 176) (L' := #[sr o0, si zs, sr b13, si n3, sr b31, si j, s6]) (S' := [(.int n3), (.int j)]) rfl ?_
    refine Home.go (fun _ => XS.icmpNo XB.here hx rfl (hb hby d5_176) rfl (tlt hx1).2.1) ?_
    refine Home.run XB hx hby sg5_179_10 (pc' := 192) (L' := #[sr o0, si zs, sr b13, si n3, sr b31, si j, s6]) (S' := [(.int ((n3 - (1 : Int32)) - j)), (.ref b13), (.int (zs + j)), (.ref b31)]) rfl ?_
    have ne36 : b13 ≠ b31 := (Nat.ne_of_lt (Nat.lt_of_lt_of_le V13.lt (Nat.le_trans KqJ14.1 (Nat.le_of_eq g31.symm))))
    have q37 := (q33.keep KqB (ninS ne36 nin0))
    obtain ⟨cl38, Ar38, q38, S38, M38, H38, G38⟩ := id q37
    have ib38 : ¬ (((n3 - (1 : Int32)) - j) < 0 ∨ cl38.slots.size ≤ (((n3 - (1 : Int32)) - j)).toNatClampNeg) := inb_of S38 ⟨hk.1, hk.2⟩
    refine Home.go (XB.baloadBytes hx (j := ((n3 - (1 : Int32)) - j)) (v := .int (own_at (own_B l_1) ((n3 - (1 : Int32)) - j))) (by rw [eB]; exact Ar38.1) (State.isArrayOf_alike hZ.alike Ar38.2.1) Ar38.2.2 ib38 (Has.at H38 ib38 (own_getD (own_B l_1) _)) rfl rfl (hb hby d5_192)) ?_
    rw [hat3]
    show Home TB (mkF m 193 #[sr o0, si zs, sr b13, si n3, sr b31, si j, s6] [(.int a), (.int (zs + j)), (.ref b31)])
    obtain ⟨cl39, Ar39, q39, S39, M39, H39, G39⟩ := id (own_pad1 vD)
    refine Home.wr (stB XB hx hZ eB Ar39 (j := (zs + j)) (inb_of S39 hkz) rfl rfl (hb hby d5_193)) fun T39 h39 X39 e39 W39 => ?_
    have W39' := Wr.to W39 (congrArg Value.int (nar_byte_id hab (by decide +kernel) (by decide +kernel)))
    have V39 : Arv Z h39 b31 k31 .byte (zs + n3) (List.map Value.int ((List.replicate (own_zs l_1) (0 : Int32) ++ dn) ++ [a])) (.int 0) := own_setS (vs := ((List.replicate (own_zs l_1) (0 : Int32) ++ dn) ++ [0])) (ws := ((List.replicate (own_zs l_1) (0 : Int32) ++ dn) ++ [a])) Ar39 q39 S39 M39 H39 G39 (fits_byte_b hab (by decide +kernel) (by decide +kernel)) W39' (own_len_mid hm) (own_set_mid hm)
    have k39 : Keep h31 h39 ([b31] : List Addr) := Keep.wr KqB W39 (Or.inl (List.mem_of_getElem? (i := 0) rfl))
    have N39 := Fr.snoc X39 NB g_b31
    refine Home.run X39 hx hby sg5_194_2 (pc' := 173) (L' := #[sr o0, si zs, sr b13, si n3, sr b31, .val (.int (j + (1 : Int32))), s6]) (S' := []) rfl ?_
    exact ih (dn ++ [a]) (by rw [hR]; simp) X39 N39 e39 k39 (by rw [← List.append_assoc]; exact V39) (j + (1 : Int32)) (by rw [hj, List.length_append]; exact own_succ _)
 intro TJ32 lcJ32 hJ32 XJ32 NJ32 eJ32 KqJ32 vD j5
 have OJ32 := Old.keep O31 KqJ32 (allS g_b31 all0)
 have KJ32 : Keep h0 hJ32 ([] : List Addr) := Keep.trans K31 KqJ32 (allS (Or.inr (Nat.le_trans le35 (Nat.le_of_eq g31.symm))) all0)
 have CdJ32 := Cold.keep Cd31 KqJ32 (allS (Cold.safe Cd31 (List.mem_of_getElem? (i := 0) rfl)) all0)
 have hgl : (zs + n3) = own_n (own_dec l_1) := own_dec_n hzs hn3
 rw [hgl] at vD
 show Home TJ32 (mkF m 200 #[sr o0, si zs, sr b13, si n3, sr b31, si j5, s6] [])
 refine Home.run XJ32 hx hby sg5_200_1 (pc' := 202) (L' := #[sr o0, si zs, sr b13, si n3, sr b31, si j5, s6]) (S' := [(.ref b31)]) rfl ?_
 exact HomeW.retR XJ32 hx hlk hZ (own_hEL hw) eJ32 CdJ32 (fun _ _ q => by cases q; exact (List.mem_of_getElem? (i := 0) rfl)) hret rfl rfl (hb hby d5_202) (by rw [show TJ32.heap = hJ32 from eJ32]; exact ⟨b31, k31, rfl, NJ32, (Nat.le_trans le35 (Nat.le_of_eq g31.symm)), KJ32, vD⟩) (by decide) (by decide)
theorem rm8_1 (l : Launch) (Z : State) (a0 : Array Value) (hw : HW a0 Z) (ws : List Jvm.Cond) (i1 i2 i3 i4 i5 i6 : Int32) (h0 : Heap) (n0 : Nat) (O0 : Old Z n0 h0) (bnd_i1 : ¬ i1 < (0 : Int32) ∧ ¬ (57 : Int32) < i1) (bnd_i2 : ¬ i2 < (0 : Int32) ∧ ¬ (57 : Int32) < i2) (bnd_i3 : ¬ i3 < (0 : Int32) ∧ ¬ (57 : Int32) < i3) (bnd_i4 : ¬ i4 < (0 : Int32) ∧ ¬ (57 : Int32) < i4) (bnd_i5 : ¬ i5 < (0 : Int32) ∧ ¬ (57 : Int32) < i5) (bnd_i6 : ¬ i6 < (0 : Int32) ∧ ¬ (57 : Int32) < i6) :
    Con l Z (⟨"com/example/tryst/tryst/encoding/Base58DecodePinLaw", "leadingZeros", "(IIIIIII)I"⟩ : MethodName) method_5_code 7 (some .int) ws ({ frames := 0, cells := 0, slots := 0, locals := 0 } : Room) #[(.int 1), (.int i1), (.int i2), (.int i3), (.int i4), (.int i5), (.int i6)] h0 (Pur (some (.int (f_rm8_1 i1))) h0) := by
 refine own_body (plainFor_of_name own_pn1) (fun m => ef_rm8_1 m (1 : Int32) i1 i2 i3 i4 i5 i6) ?_
 intro p e s m below meth c s₁ hx hby hlk hml hret hZ hown hnm X0 e0
 have N0 := Fr.nil n0
 refine Home.run X0 hx hby sg8_0_2 (pc' := 2) (L' := #[si 1, si i1, si i2, si i3, si i4, si i5, si i6]) (S' := [(.int 1), (.int 1)]) rfl ?_
 refine Home.go (fun _ => XS.icmpNo X0.here hx rfl (hb hby d8_2) rfl (flt (by decide)).1) ?_
 refine Home.run X0 hx hby sg8_5_1 (pc' := 6) (L' := #[si 1, si i1, si i2, si i3, si i4, si i5, si i6]) (S' := [(.int i1)]) rfl ?_
 by_cases c1 : i1 = (0 : Int32)
 ·
  refine Home.go (fun _ => XS.ifYes X0.here hx rfl (pc0 := 6) (pc' := 11) rfl (hb hby d8_6) rfl ((if0 _ _).trans (teq c1).1) (by decide) (by decide)) ?_
  have bd2 : ¬ i1 < (0 : Int32) ∧ ¬ (0 : Int32) < i1 := ⟨(bnd_eql c1), (bnd_eqr c1)⟩
  refine Home.run X0 hx hby sg8_11_2 (pc' := 13) (L' := #[si 1, si i1, si i2, si i3, si i4, si i5, si i6]) (S' := [(.int 2), (.int 1)]) rfl ?_
  refine Home.go (fun _ => XS.icmpYes X0.here hx rfl (pc0 := 13) (pc' := 20) rfl (hb hby d8_13) rfl (tlt (by decide)).1 (by decide) (by decide)) ?_
  refine Home.run X0 hx hby sg8_20_1 (pc' := 21) (L' := #[si 1, si i1, si i2, si i3, si i4, si i5, si i6]) (S' := [(.int 1)]) rfl ?_
  exact Home.retI X0 hx hlk hret (hb hby d8_21) ⟨congrArg some (congrArg Value.int (by first | rfl | (simp only [f_rm8_1, if_pos c1, nar_i2c, nar_i2b] <;> rfl) | (simp [f_rm8_1, if_pos c1]; done))), rfl, e0⟩ (by decide) (by decide)
 ·
  refine Home.go (fun _ => XS.ifNo X0.here hx rfl (hb hby d8_6) rfl ((if0 _ _).trans (feq c1).1)) ?_
  have bd3 : ¬ i1 < (1 : Int32) ∧ ¬ (57 : Int32) < i1 := ⟨(bnd_nel bnd_i1.1 c1 (by decide +kernel)), bnd_i1.2⟩
  refine Home.run X0 hx hby sg8_9_1 (pc' := 10) (L' := #[si 1, si i1, si i2, si i3, si i4, si i5, si i6]) (S' := [(.int 0)]) rfl ?_
  exact Home.retI X0 hx hlk hret (hb hby d8_10) ⟨congrArg some (congrArg Value.int (by first | rfl | (simp only [f_rm8_1, if_neg c1, nar_i2c, nar_i2b] <;> rfl) | (simp [f_rm8_1, if_neg c1]; done))), rfl, e0⟩ (by decide) (by decide)
theorem f_rm8_1_bnd (i1 : Int32) (i2 : Int32) (i3 : Int32) (i4 : Int32) (i5 : Int32) (i6 : Int32) (bnd_i1 : ¬ i1 < (0 : Int32) ∧ ¬ (57 : Int32) < i1) (bnd_i2 : ¬ i2 < (0 : Int32) ∧ ¬ (57 : Int32) < i2) (bnd_i3 : ¬ i3 < (0 : Int32) ∧ ¬ (57 : Int32) < i3) (bnd_i4 : ¬ i4 < (0 : Int32) ∧ ¬ (57 : Int32) < i4) (bnd_i5 : ¬ i5 < (0 : Int32) ∧ ¬ (57 : Int32) < i5) (bnd_i6 : ¬ i6 < (0 : Int32) ∧ ¬ (57 : Int32) < i6) : ¬ (f_rm8_1 i1) < (0 : Int32) ∧ ¬ (1 : Int32) < (f_rm8_1 i1) := by unfold f_rm8_1; (repeat' split) <;> first | exact bnd_mono (bnd_lit (1 : Int32)) (by decide +kernel) (by decide +kernel) | exact bnd_mono (bnd_lit (0 : Int32)) (by decide +kernel) (by decide +kernel)
theorem rm9_1 (l : Launch) (Z : State) (a0 : Array Value) (hw : HW a0 Z) (ws : List Jvm.Cond) (i1 i2 i3 i4 i5 i6 : Int32) (h0 : Heap) (n0 : Nat) (O0 : Old Z n0 h0) (bnd_i1 : ¬ i1 < (0 : Int32) ∧ ¬ (57 : Int32) < i1) (bnd_i2 : ¬ i2 < (0 : Int32) ∧ ¬ (57 : Int32) < i2) (bnd_i3 : ¬ i3 < (0 : Int32) ∧ ¬ (57 : Int32) < i3) (bnd_i4 : ¬ i4 < (0 : Int32) ∧ ¬ (57 : Int32) < i4) (bnd_i5 : ¬ i5 < (0 : Int32) ∧ ¬ (57 : Int32) < i5) (bnd_i6 : ¬ i6 < (0 : Int32) ∧ ¬ (57 : Int32) < i6) :
    Con l Z (⟨"com/example/tryst/tryst/encoding/Base58DecodePinLaw", "value", "(IIIIIII)J"⟩ : MethodName) method_6_code 9 (some .long) ws ({ frames := 0, cells := 0, slots := 0, locals := 0 } : Room) #[(.int 1), (.int i1), (.int i2), (.int i3), (.int i4), (.int i5), (.int i6)] h0 (Pur (some (.long (i1.toInt64))) h0) := by
 refine own_body (plainFor_of_name own_pn1) (fun m => ef_rm9_1 m (1 : Int32) i1 i2 i3 i4 i5 i6) ?_
 intro p e s m below meth c s₁ hx hby hlk hml hret hZ hown hnm X0 e0
 have N0 := Fr.nil n0
 refine Home.run X0 hx hby sg9_0_3 (pc' := 4) (L' := #[si 1, si i1, si i2, si i3, si i4, si i5, si i6, .val (.long (0 : Int64)), .second]) (S' := [(.int 1)]) rfl ?_
 refine Home.go (fun _ => XS.ifNo X0.here hx rfl (hb hby d9_4) rfl ((if0 _ _).trans (tlt (by decide)).2.2.2)) ?_
 refine Home.run X0 hx hby sg9_7_5 (pc' := 13) (L' := #[si 1, si i1, si i2, si i3, si i4, si i5, si i6, .val (.long (i1.toInt64)), .second]) (S' := [(.int 1), (.int 1)]) rfl ?_
 refine Home.go (fun _ => XS.icmpYes X0.here hx rfl (pc0 := 13) (pc' := 27) rfl (hb hby d9_13) rfl (flt (by decide)).2.2.2 (by decide) (by decide)) ?_
 refine Home.run X0 hx hby sg9_27_2 (pc' := 29) (L' := #[si 1, si i1, si i2, si i3, si i4, si i5, si i6, .val (.long (i1.toInt64)), .second]) (S' := [(.int 2), (.int 1)]) rfl ?_
 refine Home.go (fun _ => XS.icmpYes X0.here hx rfl (pc0 := 29) (pc' := 43) rfl (hb hby d9_29) rfl (flt (by decide)).2.2.2 (by decide) (by decide)) ?_
 refine Home.run X0 hx hby sg9_43_2 (pc' := 45) (L' := #[si 1, si i1, si i2, si i3, si i4, si i5, si i6, .val (.long (i1.toInt64)), .second]) (S' := [(.int 3), (.int 1)]) rfl ?_
 refine Home.go (fun _ => XS.icmpYes X0.here hx rfl (pc0 := 45) (pc' := 60) rfl (hb hby d9_45) rfl (flt (by decide)).2.2.2 (by decide) (by decide)) ?_
 refine Home.run X0 hx hby sg9_60_2 (pc' := 62) (L' := #[si 1, si i1, si i2, si i3, si i4, si i5, si i6, .val (.long (i1.toInt64)), .second]) (S' := [(.int 4), (.int 1)]) rfl ?_
 refine Home.go (fun _ => XS.icmpYes X0.here hx rfl (pc0 := 62) (pc' := 77) rfl (hb hby d9_62) rfl (flt (by decide)).2.2.2 (by decide) (by decide)) ?_
 refine Home.run X0 hx hby sg9_77_2 (pc' := 79) (L' := #[si 1, si i1, si i2, si i3, si i4, si i5, si i6, .val (.long (i1.toInt64)), .second]) (S' := [(.int 5), (.int 1)]) rfl ?_
 refine Home.go (fun _ => XS.icmpYes X0.here hx rfl (pc0 := 79) (pc' := 94) rfl (hb hby d9_79) rfl (flt (by decide)).2.2.2 (by decide) (by decide)) ?_
 refine Home.run X0 hx hby sg9_94_1 (pc' := 96) (L' := #[si 1, si i1, si i2, si i3, si i4, si i5, si i6, .val (.long (i1.toInt64)), .second]) (S' := [(.long (i1.toInt64))]) rfl ?_
 exact Home.retJ X0 hx hlk hret (hb hby d9_96) ⟨rfl, rfl, e0⟩ (by decide) (by decide)
theorem rm10_1 (l : Launch) (Z : State) (a0 : Array Value) (hw : HW a0 Z) (ws : List Jvm.Cond) (j0 : Int64) (h0 : Heap) (n0 : Nat) (O0 : Old Z n0 h0) :
    Con l Z (⟨"com/example/tryst/tryst/encoding/Base58DecodePinLaw", "byteCount", "(J)I"⟩ : MethodName) method_7_code 2 (some .int) ws ({ frames := 0, cells := 0, slots := 0, locals := 0 } : Room) #[(.long j0)] h0 (Pur (some (.int (f_rm10_1 j0))) h0) := by
 refine own_body (plainFor_of_name own_pn1) (fun m => ef_rm10_1 m j0) ?_
 intro p e s m below meth c s₁ hx hby hlk hml hret hZ hown hnm X0 e0
 have N0 := Fr.nil n0
 refine Home.run X0 hx hby sg10_0_3 (pc' := 3) (L' := #[.val (.long j0), .second]) (S' := [(.int (lcmpW j0 (0 : Int64)))]) rfl ?_
 by_cases c1 : j0 = (0 : Int64)
 ·
  refine Home.go (fun _ => XS.ifNo X0.here hx rfl (hb hby d10_3) rfl ((if0 _ _).trans (teq ((lw_eq _ _).mpr c1)).2)) ?_
  refine Home.run X0 hx hby sg10_6_1 (pc' := 7) (L' := #[.val (.long j0), .second]) (S' := [(.int 0)]) rfl ?_
  exact Home.retI X0 hx hlk hret (hb hby d10_7) ⟨congrArg some (congrArg Value.int (by first | rfl | (simp only [f_rm10_1, if_pos c1, nar_i2c, nar_i2b] <;> rfl) | (simp [f_rm10_1, if_pos c1]; done))), rfl, e0⟩ (by decide) (by decide)
 ·
  refine Home.go (fun _ => XS.ifYes X0.here hx rfl (pc0 := 3) (pc' := 8) rfl (hb hby d10_3) rfl ((if0 _ _).trans (feq (mt (lw_eq _ _).mp c1)).2) (by decide) (by decide)) ?_
  refine Home.run X0 hx hby sg10_8_1 (pc' := 9) (L' := #[.val (.long j0), .second]) (S' := [(.long j0)]) rfl ?_
  refine Home.go (X0.ldc2Long hx hown (mvT hZ (own_w121 hw)) rfl (hb hby d10_9)) ?_
  refine Home.run X0 hx hby sg10_12_1 (pc' := 13) (L' := #[.val (.long j0), .second]) (S' := [(.int (lcmpW j0 (256 : Int64)))]) rfl ?_
  by_cases c2 : j0 < (256 : Int64)
  ·
   refine Home.go (fun _ => XS.ifNo X0.here hx rfl (hb hby d10_13) rfl ((if0 _ _).trans (tlt ((lw_lt _ _).mpr c2)).2.1)) ?_
   refine Home.run X0 hx hby sg10_16_1 (pc' := 17) (L' := #[.val (.long j0), .second]) (S' := [(.int 1)]) rfl ?_
   exact Home.retI X0 hx hlk hret (hb hby d10_17) ⟨congrArg some (congrArg Value.int (by first | rfl | (simp only [f_rm10_1, if_neg c1, if_pos c2, nar_i2c, nar_i2b] <;> rfl) | (simp [f_rm10_1, if_neg c1, if_pos c2]; done))), rfl, e0⟩ (by decide) (by decide)
  ·
   refine Home.go (fun _ => XS.ifYes X0.here hx rfl (pc0 := 13) (pc' := 18) rfl (hb hby d10_13) rfl ((if0 _ _).trans (flt (mt (lw_lt _ _).mp c2)).2.1) (by decide) (by decide)) ?_
   refine Home.run X0 hx hby sg10_18_1 (pc' := 19) (L' := #[.val (.long j0), .second]) (S' := [(.long j0)]) rfl ?_
   refine Home.go (X0.ldc2Long hx hown (mvT hZ (own_w122 hw)) rfl (hb hby d10_19)) ?_
   refine Home.run X0 hx hby sg10_22_1 (pc' := 23) (L' := #[.val (.long j0), .second]) (S' := [(.int (lcmpW j0 (65536 : Int64)))]) rfl ?_
   by_cases c3 : j0 < (65536 : Int64)
   ·
    refine Home.go (fun _ => XS.ifNo X0.here hx rfl (hb hby d10_23) rfl ((if0 _ _).trans (tlt ((lw_lt _ _).mpr c3)).2.1)) ?_
    refine Home.run X0 hx hby sg10_26_1 (pc' := 27) (L' := #[.val (.long j0), .second]) (S' := [(.int 2)]) rfl ?_
    exact Home.retI X0 hx hlk hret (hb hby d10_27) ⟨congrArg some (congrArg Value.int (by first | rfl | (simp only [f_rm10_1, if_neg c1, if_neg c2, if_pos c3, nar_i2c, nar_i2b] <;> rfl) | (simp [f_rm10_1, if_neg c1, if_neg c2, if_pos c3]; done))), rfl, e0⟩ (by decide) (by decide)
   ·
    refine Home.go (fun _ => XS.ifYes X0.here hx rfl (pc0 := 23) (pc' := 28) rfl (hb hby d10_23) rfl ((if0 _ _).trans (flt (mt (lw_lt _ _).mp c3)).2.1) (by decide) (by decide)) ?_
    refine Home.run X0 hx hby sg10_28_1 (pc' := 29) (L' := #[.val (.long j0), .second]) (S' := [(.long j0)]) rfl ?_
    refine Home.go (X0.ldc2Long hx hown (mvT hZ (own_w123 hw)) rfl (hb hby d10_29)) ?_
    refine Home.run X0 hx hby sg10_32_1 (pc' := 33) (L' := #[.val (.long j0), .second]) (S' := [(.int (lcmpW j0 (16777216 : Int64)))]) rfl ?_
    by_cases c4 : j0 < (16777216 : Int64)
    ·
     refine Home.go (fun _ => XS.ifNo X0.here hx rfl (hb hby d10_33) rfl ((if0 _ _).trans (tlt ((lw_lt _ _).mpr c4)).2.1)) ?_
     refine Home.run X0 hx hby sg10_36_1 (pc' := 37) (L' := #[.val (.long j0), .second]) (S' := [(.int 3)]) rfl ?_
     exact Home.retI X0 hx hlk hret (hb hby d10_37) ⟨congrArg some (congrArg Value.int (by first | rfl | (simp only [f_rm10_1, if_neg c1, if_neg c2, if_neg c3, if_pos c4, nar_i2c, nar_i2b] <;> rfl) | (simp [f_rm10_1, if_neg c1, if_neg c2, if_neg c3, if_pos c4]; done))), rfl, e0⟩ (by decide) (by decide)
    ·
     refine Home.go (fun _ => XS.ifYes X0.here hx rfl (pc0 := 33) (pc' := 38) rfl (hb hby d10_33) rfl ((if0 _ _).trans (flt (mt (lw_lt _ _).mp c4)).2.1) (by decide) (by decide)) ?_
     refine Home.run X0 hx hby sg10_38_1 (pc' := 39) (L' := #[.val (.long j0), .second]) (S' := [(.long j0)]) rfl ?_
     refine Home.go (X0.ldc2Long hx hown (mvT hZ (own_w124 hw)) rfl (hb hby d10_39)) ?_
     refine Home.run X0 hx hby sg10_42_1 (pc' := 43) (L' := #[.val (.long j0), .second]) (S' := [(.int (lcmpW j0 (4294967296 : Int64)))]) rfl ?_
     by_cases c5 : j0 < (4294967296 : Int64)
     ·
      refine Home.go (fun _ => XS.ifNo X0.here hx rfl (hb hby d10_43) rfl ((if0 _ _).trans (tlt ((lw_lt _ _).mpr c5)).2.1)) ?_
      refine Home.run X0 hx hby sg10_46_1 (pc' := 47) (L' := #[.val (.long j0), .second]) (S' := [(.int 4)]) rfl ?_
      exact Home.retI X0 hx hlk hret (hb hby d10_47) ⟨congrArg some (congrArg Value.int (by first | rfl | (simp only [f_rm10_1, if_neg c1, if_neg c2, if_neg c3, if_neg c4, if_pos c5, nar_i2c, nar_i2b] <;> rfl) | (simp [f_rm10_1, if_neg c1, if_neg c2, if_neg c3, if_neg c4, if_pos c5]; done))), rfl, e0⟩ (by decide) (by decide)
     ·
      refine Home.go (fun _ => XS.ifYes X0.here hx rfl (pc0 := 43) (pc' := 48) rfl (hb hby d10_43) rfl ((if0 _ _).trans (flt (mt (lw_lt _ _).mp c5)).2.1) (by decide) (by decide)) ?_
      refine Home.run X0 hx hby sg10_48_1 (pc' := 49) (L' := #[.val (.long j0), .second]) (S' := [(.int 5)]) rfl ?_
      exact Home.retI X0 hx hlk hret (hb hby d10_49) ⟨congrArg some (congrArg Value.int (by first | rfl | (simp only [f_rm10_1, if_neg c1, if_neg c2, if_neg c3, if_neg c4, if_neg c5, nar_i2c, nar_i2b] <;> rfl) | (simp [f_rm10_1, if_neg c1, if_neg c2, if_neg c3, if_neg c4, if_neg c5]; done))), rfl, e0⟩ (by decide) (by decide)
theorem f_rm10_1_bnd (j0 : Int64) : ¬ (f_rm10_1 j0) < (0 : Int32) ∧ ¬ (5 : Int32) < (f_rm10_1 j0) := by unfold f_rm10_1; (repeat' split) <;> first | exact bnd_mono (bnd_lit (0 : Int32)) (by decide +kernel) (by decide +kernel) | exact bnd_mono (bnd_lit (1 : Int32)) (by decide +kernel) (by decide +kernel) | exact bnd_mono (bnd_lit (2 : Int32)) (by decide +kernel) (by decide +kernel) | exact bnd_mono (bnd_lit (3 : Int32)) (by decide +kernel) (by decide +kernel) | exact bnd_mono (bnd_lit (4 : Int32)) (by decide +kernel) (by decide +kernel) | exact bnd_mono (bnd_lit (5 : Int32)) (by decide +kernel) (by decide +kernel)
theorem rm28_0 (l : Launch) (Z : State) (a0 : Array Value) (hw : HW a0 Z) (ws : List Jvm.Cond) (i0 i1 i2 : Int32) (j3 : Int64) (h0 : Heap) (n0 : Nat) (O0 : Old Z n0 h0) (bnd_i0 : ¬ i0 < (0 : Int32) ∧ ¬ (5 : Int32) < i0) (bnd_i1 : ¬ i1 < (0 : Int32) ∧ ¬ (6 : Int32) < i1) (bnd_i2 : ¬ i2 < (0 : Int32) ∧ ¬ (5 : Int32) < i2) :
    Con l Z (⟨"com/example/tryst/tryst/encoding/Base58DecodePinLaw", "expected", "(IIIJ)B"⟩ : MethodName) method_8_code 6 (some .byte) ws ({ frames := 0, cells := 0, slots := 0, locals := 0 } : Room) #[(.int i0), (.int i1), (.int i2), (.long j3)] h0 (Pur (some (.int (f_rm28_0 i0 i1 i2 j3))) h0) := by
 refine own_body (plainFor_of_name own_pn1) (fun m => ef_rm28_0 m i0 i1 i2 j3) ?_
 intro p e s m below meth c s₁ hx hby hlk hml hret hZ hown hnm X0 e0
 have N0 := Fr.nil n0
 refine Home.run X0 hx hby sg28_0_2 (pc' := 2) (L' := #[si i0, si i1, si i2, .val (.long j3), .second, un]) (S' := [(.int i1), (.int i0)]) rfl ?_
 by_cases c1 : i0 < i1
 ·
  refine Home.go (fun _ => XS.icmpNo X0.here hx rfl (hb hby d28_2) rfl (tlt c1).2.1) ?_
  refine Home.run X0 hx hby sg28_5_1 (pc' := 6) (L' := #[si i0, si i1, si i2, .val (.long j3), .second, un]) (S' := [(.int 0)]) rfl ?_
  exact Home.retN X0 hx hlk (t := .byte) hret (by simp) (hb hby d28_6) ⟨congrArg some (congrArg Value.int (by first | rfl | (simp only [f_rm28_0, if_pos c1, nar_i2c, nar_i2b] <;> rfl) | (simp [f_rm28_0, if_pos c1]; done))), rfl, e0⟩ (by decide) (by decide)
 ·
  refine Home.go (fun _ => XS.icmpYes X0.here hx rfl (pc0 := 2) (pc' := 7) rfl (hb hby d28_2) rfl (flt c1).2.1 (by decide) (by decide)) ?_
  refine Home.run X0 hx hby sg28_7_15 (pc' := 25) (L' := #[si i0, si i1, si i2, .val (.long j3), .second, .val (.int ((8 : Int32) * (((i1 + i2) - (1 : Int32)) - i0)))]) (S' := [(.int ((((j3.toUInt64 >>> (((8 : Int32) * (((i1 + i2) - (1 : Int32)) - i0)) &&& 0x3f).toInt64.toUInt64).toInt64).toInt32).toInt8.toInt32))]) rfl ?_
  exact Home.retN X0 hx hlk (t := .byte) hret (by simp) (hb hby d28_25) ⟨congrArg some (congrArg Value.int (by first | rfl | (simp only [f_rm28_0, if_neg c1, nar_byte_id (bnd_i2b (((j3.toUInt64 >>> (((8 : Int32) * (((i1 + i2) - (1 : Int32)) - i0)) &&& 0x3f).toInt64.toUInt64).toInt64).toInt32)) (by decide +kernel) (by decide +kernel), nar_i2c, nar_i2b] <;> rfl) | (simp [f_rm28_0, if_neg c1, nar_byte_id (bnd_i2b (((j3.toUInt64 >>> (((8 : Int32) * (((i1 + i2) - (1 : Int32)) - i0)) &&& 0x3f).toInt64.toUInt64).toInt64).toInt32)) (by decide +kernel) (by decide +kernel)]; done))), rfl, e0⟩ (by decide) (by decide)
theorem f_rm28_0_bnd (i0 : Int32) (i1 : Int32) (i2 : Int32) (j3 : Int64) (bnd_i0 : ¬ i0 < (0 : Int32) ∧ ¬ (5 : Int32) < i0) (bnd_i1 : ¬ i1 < (0 : Int32) ∧ ¬ (6 : Int32) < i1) (bnd_i2 : ¬ i2 < (0 : Int32) ∧ ¬ (5 : Int32) < i2) : ¬ (f_rm28_0 i0 i1 i2 j3) < (-128 : Int32) ∧ ¬ (127 : Int32) < (f_rm28_0 i0 i1 i2 j3) := by unfold f_rm28_0; (repeat' split) <;> first | exact bnd_mono (bnd_lit (0 : Int32)) (by decide +kernel) (by decide +kernel) | exact bnd_mono (bnd_i2b (((j3.toUInt64 >>> (((8 : Int32) * (((i1 + i2) - (1 : Int32)) - i0)) &&& 0x3f).toInt64.toUInt64).toInt64).toInt32)) (by decide +kernel) (by decide +kernel)
theorem rm11_1 (l : Launch) (Z : State) (a0 : Array Value) (hw : HW a0 Z) (ws : List Jvm.Cond) (o0 : Addr) (i1 i2 i3 : Int32) (j4 : Int64) (k_o0 : ClassId) (l_1 : List Int32) (h0 : Heap) (n0 : Nat) (O0 : Old Z n0 h0) (bnd_i1 : ¬ i1 < (0 : Int32) ∧ ¬ (5 : Int32) < i1) (bnd_i2 : ¬ i2 < (0 : Int32) ∧ ¬ (6 : Int32) < i2) (bnd_i3 : ¬ i3 < (0 : Int32) ∧ ¬ (5 : Int32) < i3) (V_o0 : Arv Z h0 o0 k_o0 .byte (own_n l_1) (List.map Value.int l_1) (.int 0)) :
    Con l Z (⟨"com/example/tryst/tryst/encoding/Base58DecodePinLaw", "check", "([BIIIJ)Z"⟩ : MethodName) method_9_code 6 (some .boolean) ws ({ frames := 1, cells := 0, slots := 0, locals := 18 } : Room) #[(.ref o0), (.int i1), (.int i2), (.int i3), (.long j4)] h0 (Pur (some (.int (f_rm11_1 i1 i2 i3 j4 l_1))) h0) := by
 refine own_body (plainFor_of_name own_pn1) (fun m => ef_rm11_1 m o0 i1 i2 i3 j4) ?_
 intro p e s m below meth c s₁ hx hby hlk hml hret hZ hown hnm X0 e0
 have N0 := Fr.nil n0
 refine Home.run X0 hx hby sg11_0_2 (pc' := 2) (L' := #[sr o0, si i1, si i2, si i3, .val (.long j4), .second]) (S' := [(.ref o0), (.int i1)]) rfl ?_
 obtain ⟨cl1, Ar1, q1, S1, M1, H1, G1⟩ := id V_o0
 refine Home.go (own_alen X0 hx hZ e0 Ar1 S1 M1 rfl rfl (hb hby d11_2)) ?_
 by_cases c2 : i1 < (own_n l_1)
 ·
  refine Home.go (fun _ => XS.icmpYes X0.here hx rfl (pc0 := 3) (pc' := 8) rfl (hb hby d11_3) rfl (tlt c2).1 (by decide) (by decide)) ?_
  refine Home.run X0 hx hby sg11_8_2 (pc' := 10) (L' := #[sr o0, si i1, si i2, si i3, .val (.long j4), .second]) (S' := [(.int i1), (.ref o0)]) rfl ?_
  obtain ⟨cl3, Ar3, q3, S3, M3, H3, G3⟩ := id V_o0
  have ib3 : ¬ (i1 < 0 ∨ cl3.slots.size ≤ (i1).toNatClampNeg) := inb_of S3 ⟨(bnd_nlt bnd_i1 (bnd_lit (0 : Int32)) (by decide +kernel)), c2⟩
  refine Home.go (X0.baloadBytes hx (j := i1) (v := .int (own_at l_1 i1)) (by rw [e0]; exact Ar3.1) (State.isArrayOf_alike hZ.alike Ar3.2.1) Ar3.2.2 ib3 (Has.at H3 ib3 (own_getD l_1 _)) rfl rfl (hb hby d11_10)) ?_
  refine Home.run X0 hx hby sg11_11_4 (pc' := 16) (L' := #[sr o0, si i1, si i2, si i3, .val (.long j4), .second]) (S' := [(.long j4), (.int i3), (.int i2), (.int i1), (.int (own_at l_1 i1))]) rfl ?_
  refine Home.st (own_pure (own_static X0 hx hZ hown (own_w125 hw) (own_w126 hw) (own_w4 hw) (own_w127 hw) (by decide) (rm28_0 l Z a0 hw [] i1 i2 i3 j4 h0 n0 O0 bnd_i1 bnd_i2 bnd_i3) e0 rfl (by rw [hml]; rfl) (argsL := [(.int i1), (.int i2), (.int i3), (.long j4)]) (rest := [(.int (own_at l_1 i1))]) (lenOf own_pd22 rfl) rfl rfl (W := 1) (by exact hW0) (by decide) (by decide) (hb hby d11_16) (by decide) (by decide))) fun T4 X4 e4 => ?_
  show Home T4 (mkF m 19 #[sr o0, si i1, si i2, si i3, .val (.long j4), .second] [(.int (f_rm28_0 i1 i2 i3 j4)), (.int (own_at l_1 i1))])
  obtain ⟨r5, hr5⟩ : ∃ z, z = (f_rm28_0 i1 i2 i3 j4) := ⟨_, rfl⟩
  rw [← hr5]
  have br5 : ¬ r5 < (-128 : Int32) ∧ ¬ (127 : Int32) < r5 := by rw [hr5]; exact f_rm28_0_bnd i1 i2 i3 j4 bnd_i1 bnd_i2 bnd_i3
  suffices J7 : ∀ {T : State} (X : Stand p l e ({ frames := 1, cells := 0, slots := 0, locals := 18 } : Room) s m #[(.ref o0), (.int i1), (.int i2), (.int i3), (.long j4)] below meth c T [] 0 0) (eT : T.heap = h0) (v8 : Int32) (hv8 : v8 = (if (own_at l_1 i1) = r5 then (1 : Int32) else (0 : Int32))), @Home p e below _ T (mkF m 27 #[sr o0, si i1, si i2, si i3, .val (.long j4), .second] [(.int v8)]) by
   by_cases c6 : (own_at l_1 i1) = r5
   ·
    refine Home.go (fun _ => XS.icmpNo X4.here hx rfl (hb hby d11_19) rfl (teq c6).2) ?_
    refine Home.run X4 hx hby sg11_22_2 (pc' := 27) (L' := #[sr o0, si i1, si i2, si i3, .val (.long j4), .second]) (S' := [(.int 1)]) rfl ?_
    exact J7 X4 e4 _ (by simp only [if_pos c6])
   ·
    refine Home.go (fun _ => XS.icmpYes X4.here hx rfl (pc0 := 19) (pc' := 26) rfl (hb hby d11_19) rfl (feq c6).2 (by decide) (by decide)) ?_
    refine Home.run X4 hx hby sg11_26_1 (pc' := 27) (L' := #[sr o0, si i1, si i2, si i3, .val (.long j4), .second]) (S' := [(.int 0)]) rfl ?_
    exact J7 X4 e4 _ (by simp only [if_neg c6])
  intro TJ7 XJ7 eJ7 v8 hv8
  have bv8 : ¬ v8 < (0 : Int32) ∧ ¬ (1 : Int32) < v8 := by rw [hv8]; exact (bnd_ite (bnd_mono (bnd_lit (1 : Int32)) (by decide +kernel) (by decide +kernel)) (bnd_mono (bnd_lit (0 : Int32)) (by decide +kernel) (by decide +kernel)))
  show Home TJ7 (mkF m 27 #[sr o0, si i1, si i2, si i3, .val (.long j4), .second] [(.int v8)])
  exact Home.retN XJ7 hx hlk (t := .boolean) hret (by simp) (hb hby d11_27) ⟨congrArg some (congrArg Value.int (by subst hv8; subst hr5; first | rfl | (simp only [f_rm11_1, if_pos c2, nar_bool_id bv8 (by decide +kernel) (by decide +kernel), nar_i2c, nar_i2b] <;> rfl) | (simp [f_rm11_1, if_pos c2, nar_bool_id bv8 (by decide +kernel) (by decide +kernel)]; done))), rfl, eJ7⟩ (by decide) (by decide)
 ·
  refine Home.go (fun _ => XS.icmpNo X0.here hx rfl (hb hby d11_3) rfl (flt c2).1) ?_
  refine Home.run X0 hx hby sg11_6_1 (pc' := 7) (L' := #[sr o0, si i1, si i2, si i3, .val (.long j4), .second]) (S' := [(.int 1)]) rfl ?_
  exact Home.retN X0 hx hlk (t := .boolean) hret (by simp) (hb hby d11_7) ⟨congrArg some (congrArg Value.int (by first | rfl | (simp only [f_rm11_1, if_neg c2, nar_i2c, nar_i2b] <;> rfl) | (simp [f_rm11_1, if_neg c2]; done))), rfl, e0⟩ (by decide) (by decide)
theorem f_rm11_1_bnd (i1 : Int32) (i2 : Int32) (i3 : Int32) (j4 : Int64) (l_1 : List Int32) (bnd_i1 : ¬ i1 < (0 : Int32) ∧ ¬ (5 : Int32) < i1) (bnd_i2 : ¬ i2 < (0 : Int32) ∧ ¬ (6 : Int32) < i2) (bnd_i3 : ¬ i3 < (0 : Int32) ∧ ¬ (5 : Int32) < i3) : ¬ (f_rm11_1 i1 i2 i3 j4 l_1) < (0 : Int32) ∧ ¬ (1 : Int32) < (f_rm11_1 i1 i2 i3 j4 l_1) := by unfold f_rm11_1; (repeat' split) <;> first | exact bnd_mono (bnd_lit (1 : Int32)) (by decide +kernel) (by decide +kernel) | exact bnd_mono (bnd_lit (0 : Int32)) (by decide +kernel) (by decide +kernel)
theorem rm19_1 (l : Launch) (Z : State) (a0 : Array Value) (hw : HW a0 Z) (ws : List Jvm.Cond) (o0 o2 : Addr) (k_o0 : ClassId) (u1 u2 : Int32) (k_o2 : ClassId) (h0 : Heap) (n0 : Nat) (O0 : Old Z n0 h0) (V_o0 : Arv Z h0 o0 k_o0 .char (2 : Int32) [(.int u1), (.int u2)] (.int 0)) (bnd_u1 : ¬ u1 < (0 : Int32) ∧ ¬ (255 : Int32) < u1) (V_o2 : Arv Z h0 o2 k_o2 .byte (2 : Int32) [(.int 0), (.int 0)] (.int 0)) (g_o2 : n0 ≤ o2) (ne_o0_o2 : o0 ≠ o2) (bnd_u2 : ¬ u2 < (0 : Int32) ∧ ¬ (255 : Int32) < u2) :
    Con l Z (⟨"java/lang/StringUTF16", "compress", "([CI[BII)I"⟩ : MethodName) jdk_52_method_21_code 7 (some .int) ws ({ frames := 0, cells := 0, slots := 0, locals := 0 } : Room) #[(.ref o0), (.int 0), (.ref o2), (.int 0), (.int 2)] h0 (fun v h L => v = some (.int 2) ∧ Fr n0 L ∧ Keep h0 h [o2] ∧ Arv Z h o2 k_o2 .byte (2 : Int32) [(.int (u1.toInt8.toInt32)), (.int (u2.toInt8.toInt32))] (.int 0)) := by
 refine own_body (plainFor_of_name own_pn5) (fun m => ef_rm19_1 m o0 (0 : Int32) o2 (2 : Int32)) ?_
 intro p e s m below meth c s₁ hx hby hlk hml hret hZ hown hnm X0 e0
 have N0 := Fr.nil n0
 refine Home.run X0 hx hby sg19_0_4 (pc' := 7) (L' := #[sr o0, si 0, sr o2, si 0, si 2, si 0, un]) (S' := [(.int 2), (.int 0)]) rfl ?_
 refine Home.go (fun _ => XS.icmpNo X0.here hx rfl (hb hby d19_7) rfl (tlt (by decide)).2.1) ?_
 refine Home.run X0 hx hby sg19_10_2 (pc' := 12) (L' := #[sr o0, si 0, sr o2, si 0, si 2, si 0, un]) (S' := [(.int 0), (.ref o0)]) rfl ?_
 obtain ⟨cl1, Ar1, q1, S1, M1, H1, G1⟩ := id V_o0
 have ib1 : ¬ ((0 : Int32) < 0 ∨ cl1.slots.size ≤ ((0 : Int32)).toNatClampNeg) := inb_of S1 ⟨by decide, by decide⟩
 refine Home.go (X0.caload hx (j := (0 : Int32)) (v := (.int u1)) (by rw [e0]; exact Ar1.1) (State.isArrayOf_alike hZ.alike Ar1.2.1) Ar1.2.2 ib1 (Has.at H1 ib1 rfl) rfl rfl (hb hby d19_12)) ?_
 refine Home.run X0 hx hby sg19_13_3 (pc' := 20) (L' := #[sr o0, si 0, sr o2, si 0, si 2, si 0, si u1]) (S' := [(.int 255), (.int u1)]) rfl ?_
 refine Home.go (fun _ => XS.icmpYes X0.here hx rfl (pc0 := 20) (pc' := 26) rfl (hb hby d19_20) rfl (flt (bnd_nlt (bnd_lit (255 : Int32)) bnd_u1 (by decide +kernel))).2.2.2 (by decide) (by decide)) ?_
 refine Home.run X0 hx hby sg19_26_4 (pc' := 31) (L' := #[sr o0, si 0, sr o2, si 0, si 2, si 0, si u1]) (S' := [(.int (u1.toInt8.toInt32)), (.int 0), (.ref o2)]) rfl ?_
 obtain ⟨cl2, Ar2, q2, S2, M2, H2, G2⟩ := id V_o2
 refine Home.wr (stB X0 hx hZ e0 Ar2 (j := (0 : Int32)) (inb_of S2 ⟨by decide, by decide⟩) rfl rfl (hb hby d19_31)) fun T2 h2 X2 e2 W2 => ?_
 have W2' := Wr.to W2 (congrArg Value.int (nar_byte_id (bnd_i2b u1) (by decide +kernel) (by decide +kernel)))
 have V2 : Arv Z h2 o2 k_o2 .byte (2 : Int32) [(.int (u1.toInt8.toInt32)), (.int 0)] (.int 0) := Arv.set Ar2 q2 S2 M2 H2 G2 (fits_byte_b (bnd_i2b u1) (by decide +kernel) (by decide +kernel)) W2' 0 rfl (Nat.le_of_ble_eq_true rfl)
 have O2 := O0.wr W2 g_o2
 have K2 : Keep h0 h2 ([o2] : List Addr) := Keep.wr (Keep.refl h0 ([o2] : List Addr)) W2 (Or.inl (List.mem_of_getElem? (i := 0) rfl))
 have N2 := Fr.snoc X2 N0 g_o2
 show Home T2 (mkF m 32 #[sr o0, si 0, sr o2, si 0, si 2, si 0, si u1] [])
 refine Home.run X2 hx hby sg19_32_6 (pc' := 7) (L' := #[sr o0, si 1, sr o2, si 1, si 2, si 1, si u1]) (S' := [(.int 2), (.int 1)]) rfl ?_
 refine Home.go (fun _ => XS.icmpNo X2.here hx rfl (hb hby d19_7) rfl (tlt (by decide)).2.1) ?_
 refine Home.run X2 hx hby sg19_10_2 (pc' := 12) (L' := #[sr o0, si 1, sr o2, si 1, si 2, si 1, si u1]) (S' := [(.int 1), (.ref o0)]) rfl ?_
 have q3 := (V_o0.other W2 ne_o0_o2)
 obtain ⟨cl4, Ar4, q4, S4, M4, H4, G4⟩ := id q3
 have ib4 : ¬ ((1 : Int32) < 0 ∨ cl4.slots.size ≤ ((1 : Int32)).toNatClampNeg) := inb_of S4 ⟨by decide, by decide⟩
 refine Home.go (X2.caload hx (j := (1 : Int32)) (v := (.int u2)) (by rw [e2]; exact Ar4.1) (State.isArrayOf_alike hZ.alike Ar4.2.1) Ar4.2.2 ib4 (Has.at H4 ib4 rfl) rfl rfl (hb hby d19_12)) ?_
 refine Home.run X2 hx hby sg19_13_3 (pc' := 20) (L' := #[sr o0, si 1, sr o2, si 1, si 2, si 1, si u2]) (S' := [(.int 255), (.int u2)]) rfl ?_
 refine Home.go (fun _ => XS.icmpYes X2.here hx rfl (pc0 := 20) (pc' := 26) rfl (hb hby d19_20) rfl (flt (bnd_nlt (bnd_lit (255 : Int32)) bnd_u2 (by decide +kernel))).2.2.2 (by decide) (by decide)) ?_
 refine Home.run X2 hx hby sg19_26_4 (pc' := 31) (L' := #[sr o0, si 1, sr o2, si 1, si 2, si 1, si u2]) (S' := [(.int (u2.toInt8.toInt32)), (.int 1), (.ref o2)]) rfl ?_
 obtain ⟨cl5, Ar5, q5, S5, M5, H5, G5⟩ := id V2
 refine Home.wr (stB X2 hx hZ e2 Ar5 (j := (1 : Int32)) (inb_of S5 ⟨by decide, by decide⟩) rfl rfl (hb hby d19_31)) fun T5 h5 X5 e5 W5 => ?_
 have W5' := Wr.to W5 (congrArg Value.int (nar_byte_id (bnd_i2b u2) (by decide +kernel) (by decide +kernel)))
 have V5 : Arv Z h5 o2 k_o2 .byte (2 : Int32) [(.int (u1.toInt8.toInt32)), (.int (u2.toInt8.toInt32))] (.int 0) := Arv.set Ar5 q5 S5 M5 H5 G5 (fits_byte_b (bnd_i2b u2) (by decide +kernel) (by decide +kernel)) W5' 1 rfl (Nat.le_of_ble_eq_true rfl)
 have O5 := O2.wr W5 g_o2
 have K5 : Keep h0 h5 ([o2] : List Addr) := Keep.wr K2 W5 (Or.inl (List.mem_of_getElem? (i := 0) rfl))
 have N5 := Fr.snoc X5 N2 g_o2
 show Home T5 (mkF m 32 #[sr o0, si 1, sr o2, si 1, si 2, si 1, si u2] [])
 refine Home.run X5 hx hby sg19_32_6 (pc' := 7) (L' := #[sr o0, si 2, sr o2, si 2, si 2, si 2, si u2]) (S' := [(.int 2), (.int 2)]) rfl ?_
 refine Home.go (fun _ => XS.icmpYes X5.here hx rfl (pc0 := 7) (pc' := 44) rfl (hb hby d19_7) rfl (flt (by decide)).2.1 (by decide) (by decide)) ?_
 refine Home.run X5 hx hby sg19_44_1 (pc' := 46) (L' := #[sr o0, si 2, sr o2, si 2, si 2, si 2, si u2]) (S' := [(.int 2)]) rfl ?_
 exact Home.retI X5 hx hlk hret (hb hby d19_46) (by rw [show T5.heap = h5 from e5]; exact ⟨rfl, N5, K5, V5⟩) (by decide) (by decide)
theorem rm18_1 (l : Launch) (Z : State) (a0 : Array Value) (hw : HW a0 Z) (ws : List Jvm.Cond) (o0 : Addr) (k_o0 : ClassId) (u1 u2 : Int32) (h0 : Heap) (n0 : Nat) (O0 : Old Z n0 h0) (V_o0 : Arv Z h0 o0 k_o0 .char (2 : Int32) [(.int u1), (.int u2)] (.int 0)) (bnd_u1 : ¬ u1 < (0 : Int32) ∧ ¬ (255 : Int32) < u1) (bnd_u2 : ¬ u2 < (0 : Int32) ∧ ¬ (255 : Int32) < u2) :
    Con l Z (⟨"java/lang/StringUTF16", "compress", "([CII)[B"⟩ : MethodName) jdk_52_method_16_code 6 (some (.array .byte)) ws ({ frames := 1, cells := 1, slots := 2, locals := 18 } : Room) #[(.ref o0), (.int 0), (.int 2)] h0 (fun v h L => ∃ (b1 : Addr), ∃ (k1 : ClassId), v = some (.ref b1) ∧ Fr n0 L ∧ h0.size ≤ b1 ∧ Keep h0 h [] ∧ Arv Z h b1 k1 .byte (2 : Int32) [(.int (u1.toInt8.toInt32)), (.int (u2.toInt8.toInt32))] (.int 0)) := by
 refine own_body (plainFor_of_name own_pn5) (fun m => ef_rm18_1 m o0 (0 : Int32) (2 : Int32)) ?_
 intro p e s m below meth c s₁ hx hby hlk hml hret hZ hown hnm X0 e0
 have N0 := Fr.nil n0
 refine Home.run X0 hx hby sg18_0_1 (pc' := 1) (L' := #[sr o0, si 0, si 2, un, un, un]) (S' := [(.int 2)]) rfl ?_
 refine Home.na (own_newP (aty := .byte) X0 hx hZ (own_w21 hw) e0 (g := (mkF m 1 #[.val (.ref o0), .val (.int 0), .val (.int 2), .unset, .unset, .unset] [(.int 2)])) rfl (hb hby d18_1) rfl (by decide) (cap := 2) (by decide) (by decide) (by decide) (by decide)) fun T1 h1 k1 b1 g1 X1 e1 E1 A1 => ?_
 have g_b1 : n0 ≤ b1 := Nat.le_trans (Old.le O0) (Nat.le_of_eq g1.symm)
 have V1 : Arv Z h1 b1 k1 .byte (2 : Int32) [(.int 0), (.int 0)] (.int 0) := (Arv.new A1 (by decide)).pad (pad_rep [] (.int 0) 2)
 have O1 := O0.ext E1
 have K1 : Keep h0 h1 ([] : List Addr) := Keep.ext (Keep.refl h0 ([] : List Addr)) E1
 refine Home.run X1 hx hby sg18_3_6 (pc' := 9) (L' := #[sr o0, si 0, si 2, sr b1, un, un]) (S' := [(.int 2), (.int 0), (.ref b1), (.int 0), (.ref o0)]) rfl ?_
 have ne2 : o0 ≠ b1 := (Nat.ne_of_lt (Nat.lt_of_lt_of_le V_o0.lt (Nat.le_trans (Nat.le_refl _) (Nat.le_of_eq g1.symm))))
 refine Home.call (own_static X1 hx hZ hown (own_w85 hw) (own_w86 hw) (own_w83 hw) (own_w87 hw) (by decide) (rm19_1 l Z a0 hw [] o0 b1 k_o0 u1 u2 k1 h1 n0 O1 (V_o0.keep K1 nin0) bnd_u1 V1 g_b1 ne2 bnd_u2) e1 rfl (by rw [hml]; rfl) (argsL := [(.ref o0), (.int 0), (.ref b1), (.int 0), (.int 2)]) (rest := []) (lenOf own_pd15 rfl) rfl rfl (W := 0) (by exact hW0) (by decide) (by decide) (hb hby d18_9) (by decide) (by decide)) ?_
 rintro _ T3 L3 X3 ⟨rfl, N3q, K3q, P3_0⟩
 have O3 := Old.keep O1 K3q (allS g_b1 all0)
 have K3 : Keep h0 T3.heap ([] : List Addr) := Keep.trans K1 K3q (allS (Or.inr (Nat.le_trans (Nat.le_refl _) (Nat.le_of_eq g1.symm))) all0)
 have N3 := Fr.app N0 N3q
 refine Home.run X3 hx hby sg18_12_3 (pc' := 17) (L' := #[sr o0, si 0, si 2, sr b1, si 2, un]) (S' := [(.int 2), (.int 2)]) rfl ?_
 refine Home.go (fun _ => XS.icmpYes X3.here hx rfl (pc0 := 17) (pc' := 57) rfl (hb hby d18_17) rfl (teq (by decide)).1 (by decide) (by decide)) ?_
 refine Home.run X3 hx hby sg18_57_1 (pc' := 58) (L' := #[sr o0, si 0, si 2, sr b1, si 2, un]) (S' := [(.ref b1)]) rfl ?_
 exact Home.retR X3 hx hlk hret rfl rfl (hb hby d18_58) ⟨b1, k1, rfl, N3, (Nat.le_trans (Nat.le_refl _) (Nat.le_of_eq g1.symm)), K3, P3_0⟩ (by decide) (by decide)
theorem rm20_1 (l : Launch) (Z : State) (a0 : Array Value) (hw : HW a0 Z) (ws : List Jvm.Cond) (o0 : Addr) (k_o0 : ClassId) (u1 u2 : Int32) (h0 : Heap) (n0 : Nat) (O0 : Old Z n0 h0) (V_o0 : Arv Z h0 o0 k_o0 .byte (2 : Int32) [(.int u1), (.int u2)] (.int 0)) :
    Con l Z (⟨"java/lang/StringUTF16", "coderFromArrayLen", "([BI)B"⟩ : MethodName) jdk_52_method_15_code 2 (some .byte) ws ({ frames := 0, cells := 0, slots := 0, locals := 0 } : Room) #[(.ref o0), (.int 2)] h0 (Pur (some (.int 0)) h0) := by
 refine own_body (plainFor_of_name own_pn5) (fun m => ef_rm20_1 m o0 (2 : Int32)) ?_
 intro p e s m below meth c s₁ hx hby hlk hml hret hZ hown hnm X0 e0
 have N0 := Fr.nil n0
 refine Home.run X0 hx hby sg20_0_2 (pc' := 2) (L' := #[sr o0, si 2]) (S' := [(.ref o0), (.int 2)]) rfl ?_
 obtain ⟨cl1, Ar1, q1, S1, M1, H1, G1⟩ := id V_o0
 refine Home.go (own_alen X0 hx hZ e0 Ar1 S1 M1 rfl rfl (hb hby d20_2)) ?_
 refine Home.run X0 hx hby sg20_3_4 (pc' := 8) (L' := #[sr o0, si 2]) (S' := [(.int 0)]) rfl ?_
 exact Home.retN X0 hx hlk (t := .byte) hret (by simp) (hb hby d20_8) ⟨congrArg some (congrArg Value.int (by first | rfl | exact nar_i2c _ | exact nar_i2b _)), rfl, e0⟩ (by decide) (by decide)
theorem rm3_2 (l : Launch) (Z : State) (a0 : Array Value) (hw : HW a0 Z) (ws : List Jvm.Cond) (o0 o1 : Addr) (sv_COMPACT_STRINGS : Int32) (k_o1 : ClassId) (u1 u2 : Int32) (h0 : Heap) (n0 : Nat) (O0 : Old Z n0 h0) (S_COMPACT_STRINGS : Sta Z Z.heap "java/lang/String" "COMPACT_STRINGS" "Z" (.int sv_COMPACT_STRINGS)) (hCS : ¬ (sv_COMPACT_STRINGS = (0 : Int32))) (V_o1 : Arv Z h0 o1 k_o1 .char (2 : Int32) [(.int u1), (.int u2)] (.int 0)) (bnd_u1 : ¬ u1 < (0 : Int32) ∧ ¬ (255 : Int32) < u1) (bnd_u2 : ¬ u2 < (0 : Int32) ∧ ¬ (255 : Int32) < u2) (E_o0 : Exa Z h0 o0 "java/lang/String") (F_coder_o0 : Fld Z h0 o0 "java/lang/String" "coder" "B" (.int 0)) (g_o0 : n0 ≤ o0) (F_value_o0 : Fld Z h0 o0 "java/lang/String" "value" "[B" .null) :
    Con l Z (⟨"java/lang/String", "<init>", "([CIILjava/lang/Void;)V"⟩ : MethodName) jdk_42_method_149_code 6 none ws ({ frames := 2, cells := 1, slots := 2, locals := 35 } : Room) #[(.ref o0), (.ref o1), (.int 0), (.int 2), .null] h0 (fun v h L => ∃ (b1_3 : Addr), ∃ (k1_3 : ClassId), v = none ∧ Fr n0 L ∧ h0.size ≤ b1_3 ∧ Keep h0 h [o0] ∧ Exa Z h o0 "java/lang/String" ∧ Fld Z h o0 "java/lang/String" "coder" "B" (.int 0) ∧ Fld Z h o0 "java/lang/String" "value" "[B" (.ref b1_3) ∧ Arv Z h b1_3 k1_3 .byte (2 : Int32) [(.int (u1.toInt8.toInt32)), (.int (u2.toInt8.toInt32))] (.int 0)) := by
 refine own_body (plainFor_of_name own_pn0) (fun m => ef_rm3_2 m o0 o1 (0 : Int32) (2 : Int32)) ?_
 intro p e s m below meth c s₁ hx hby hlk hml hret hZ hown hnm X0 e0
 have N0 := Fr.nil n0
 refine Home.run X0 hx hby sg3_0_1 (pc' := 1) (L' := #[sr o0, sr o1, si 0, si 2, .val .null, un]) (S' := [(.ref o0)]) rfl ?_
 refine Home.st (initO X0 hx hZ hown (own_w17 hw) (own_w18 hw) (own_w19 hw) e0 rfl (by rw [hml]; rfl) rfl (hb hby d3_1) (by decide) (W := 0) (by exact hW0) (by decide)) fun T1 X1 e1 => ?_
 refine Home.run X1 hx hby sg3_4_1 (pc' := 5) (L' := #[sr o0, sr o1, si 0, si 2, .val .null, un]) (S' := [(.int 2)]) rfl ?_
 refine Home.go (fun _ => XS.ifYes X1.here hx rfl (pc0 := 5) (pc' := 27) rfl (hb hby d3_5) rfl ((if0 _ _).trans (feq (by decide)).2) (by decide) (by decide)) ?_
 refine Home.st (getS2 X1 hx hZ hown (host := "") (Or.inl (own_w42 hw)) Via.refl e1 (S_COMPACT_STRINGS.ext O0.2) rfl (hb hby d3_27)) fun T2 X2 e2 => ?_
 refine Home.go (fun _ => XS.ifNo X2.here hx rfl (hb hby d3_30) rfl ((if0 _ _).trans (feq hCS).1)) ?_
 refine Home.run X2 hx hby sg3_33_3 (pc' := 36) (L' := #[sr o0, sr o1, si 0, si 2, .val .null, un]) (S' := [(.int 2), (.int 0), (.ref o1)]) rfl ?_
 refine Home.call (own_static X2 hx hZ hown (own_w81 hw) (own_w82 hw) (own_w83 hw) (own_w84 hw) (by decide) (rm18_1 l Z a0 hw [] o1 k_o1 u1 u2 h0 n0 O0 V_o1 bnd_u1 bnd_u2) e2 rfl (by rw [hml]; rfl) (argsL := [(.ref o1), (.int 0), (.int 2)]) (rest := []) (lenOf own_pd16 rfl) rfl rfl (W := 0) (by exact hW0) (by decide) (by decide) (hb hby d3_36) (by decide) (by decide)) ?_
 rintro _ T3 L3 X3 ⟨b1_3, k1_3, rfl, N3q, sz_b1_3, K3q, P3_0⟩
 have g_b1_3 : n0 ≤ b1_3 := Nat.le_trans (Old.le O0) sz_b1_3
 have O3 := Old.keep O0 K3q all0
 have K3 : Keep h0 T3.heap ([o0] : List Addr) := Keep.trans (Keep.refl h0 ([o0] : List Addr)) K3q all0
 have N3 := Fr.app N0 N3q
 refine Home.run X3 hx hby sg3_39_4 (pc' := 45) (L' := #[sr o0, sr o1, si 0, si 2, .val .null, sr b1_3]) (S' := [(.int 2), (.ref b1_3), (.ref o0)]) rfl ?_
 refine Home.st (own_pure (own_static X3 hx hZ hown (own_w88 hw) (own_w89 hw) (own_w83 hw) (own_w90 hw) (by decide) (rm20_1 l Z a0 hw [] b1_3 k1_3 (u1.toInt8.toInt32) (u2.toInt8.toInt32) T3.heap n0 O3 P3_0) rfl rfl (by rw [hml]; rfl) (argsL := [(.ref b1_3), (.int 2)]) (rest := [(.ref o0)]) (lenOf own_pd17 rfl) rfl rfl (W := 1) (by exact hW0) (by decide) (by decide) (hb hby d3_45) (by decide) (by decide))) fun T4 X4 e4 => ?_
 show Home T4 (mkF m 48 #[sr o0, sr o1, si 0, si 2, .val .null, sr b1_3] [(.int 0), (.ref o0)])
 have q5 := (F_coder_o0.keep K3q nin0)
 refine Home.wr (putFN X4 hx hZ hown (own_w27 hw) Via.refl e4 q5 (E_o0.keep K3) (Or.inr ⟨(own_w23 hw), rfl, hnm⟩) (own_w7 hw) (ty := .byte) (v := (.int 0)) (v' := (.int 0)) (by decide) rfl rfl rfl rfl (hb hby d3_48)) fun T6 h6 X6 e6 W6 => ?_
 have Fw6 := q5.same W6
 have O6 := O3.wr W6 g_o0
 have K6 : Keep h0 h6 ([o0] : List Addr) := Keep.wr K3 W6 (Or.inl (List.mem_of_getElem? (i := 0) rfl))
 have N6 := Fr.snoc X6 N3 g_o0
 refine Home.run X6 hx hby sg3_51_2 (pc' := 54) (L' := #[sr o0, sr o1, si 0, si 2, .val .null, sr b1_3]) (S' := [(.ref b1_3), (.ref o0)]) rfl ?_
 have q7 := ((F_value_o0.keep K3q nin0).other W6 (Or.inr (slot_ne (Or.inr (own_w22 hw)) (Or.inr (own_w23 hw)) (by decide) (t := (.array .byte)) (t' := .byte) (by decide) (by decide))))
 refine Home.wr (putF X6 hx hZ hown (host := "") (Or.inl (own_w26 hw)) Via.refl e6 q7 (E_o0.keep K6) (Or.inr ⟨(own_w22 hw), rfl, hnm⟩) (own_w7 hw) (ty := (.array .byte)) (by decide) rfl rfl rfl rfl (hb hby d3_54)) fun T8 h8 X8 e8 W8 => ?_
 have Fw8 := q7.same W8
 have O8 := O6.wr W8 g_o0
 have K8 : Keep h0 h8 ([o0] : List Addr) := Keep.wr K6 W8 (Or.inl (List.mem_of_getElem? (i := 0) rfl))
 have N8 := Fr.snoc X8 N6 g_o0
 have q9 := (Fw6.other W8 (Or.inr (slot_ne (Or.inr (own_w23 hw)) (Or.inr (own_w22 hw)) (by decide) (t := .byte) (t' := (.array .byte)) (by decide) (by decide))))
 have ne10 : b1_3 ≠ o0 := (Ne.symm (Nat.ne_of_lt (Nat.lt_of_lt_of_le E_o0.lt (Nat.le_trans (Nat.le_refl _) sz_b1_3))))
 have q11 := ((P3_0.other W6 ne10).other W8 ne10)
 exact Home.ret0 X8 hx hlk hret (hb hby d3_57) (by rw [show T8.heap = h8 from e8]; exact ⟨b1_3, k1_3, rfl, N8, (Nat.le_trans (Nat.le_refl _) sz_b1_3), K8, (E_o0.keep K8), q9, Fw8, q11⟩) (by decide) (by decide)
theorem rm2_2 (l : Launch) (Z : State) (a0 : Array Value) (hw : HW a0 Z) (ws : List Jvm.Cond) (o0 o1 : Addr) (k_o1 : ClassId) (u1 u2 sv_COMPACT_STRINGS : Int32) (h0 : Heap) (n0 : Nat) (O0 : Old Z n0 h0) (V_o1 : Arv Z h0 o1 k_o1 .char (2 : Int32) [(.int u1), (.int u2)] (.int 0)) (S_COMPACT_STRINGS : Sta Z Z.heap "java/lang/String" "COMPACT_STRINGS" "Z" (.int sv_COMPACT_STRINGS)) (E_o0 : Exa Z h0 o0 "java/lang/String") (F_coder_o0 : Fld Z h0 o0 "java/lang/String" "coder" "B" (.int 0)) (F_value_o0 : Fld Z h0 o0 "java/lang/String" "value" "[B" .null) (bnd_u1 : ¬ u1 < (0 : Int32) ∧ ¬ (255 : Int32) < u1) (bnd_u2 : ¬ u2 < (0 : Int32) ∧ ¬ (255 : Int32) < u2) (g_o0 : n0 ≤ o0) (hCS : ¬ (sv_COMPACT_STRINGS = (0 : Int32))) :
    Con l Z (⟨"java/lang/String", "<init>", "([C)V"⟩ : MethodName) jdk_42_method_3_code 2 none ws ({ frames := 3, cells := 1, slots := 2, locals := 52 } : Room) #[(.ref o0), (.ref o1)] h0 (fun v h L => ∃ (b1_3_2 : Addr), ∃ (k1_3_2 : ClassId), v = none ∧ Fr n0 L ∧ h0.size ≤ b1_3_2 ∧ Keep h0 h [o0] ∧ Exa Z h o0 "java/lang/String" ∧ Fld Z h o0 "java/lang/String" "coder" "B" (.int 0) ∧ Fld Z h o0 "java/lang/String" "value" "[B" (.ref b1_3_2) ∧ Arv Z h b1_3_2 k1_3_2 .byte (2 : Int32) [(.int (u1.toInt8.toInt32)), (.int (u2.toInt8.toInt32))] (.int 0)) := by
 refine own_body (plainFor_of_name own_pn0) (fun m => ef_rm2_2 m o0 o1) ?_
 intro p e s m below meth c s₁ hx hby hlk hml hret hZ hown hnm X0 e0
 have N0 := Fr.nil n0
 refine Home.run X0 hx hby sg2_0_4 (pc' := 4) (L' := #[sr o0, sr o1]) (S' := [(.ref o1), (.int 0), (.ref o1), (.ref o0)]) rfl ?_
 obtain ⟨cl1, Ar1, q1, S1, M1, H1, G1⟩ := id V_o1
 refine Home.go (own_alen X0 hx hZ e0 Ar1 S1 M1 rfl rfl (hb hby d2_4)) ?_
 refine Home.run X0 hx hby sg2_5_1 (pc' := 6) (L' := #[sr o0, sr o1]) (S' := [.null, (.int 2), (.int 0), (.ref o1), (.ref o0)]) rfl ?_
 refine Home.call (own_special X0 hx hZ hown rfl (own_w13 hw) (own_w14 hw) (own_w8 hw) (own_w16 hw) (by decide) (rm3_2 l Z a0 hw [] o0 o1 sv_COMPACT_STRINGS k_o1 u1 u2 h0 n0 O0 S_COMPACT_STRINGS hCS V_o1 bnd_u1 bnd_u2 E_o0 F_coder_o0 g_o0 F_value_o0) e0 rfl (by rw [hml]; rfl) (a := o0) (argsL := [(.ref o1), (.int 0), (.int 2), .null]) (rest := []) (lenOf own_pd0 rfl) rfl rfl (W := 0) (by exact hW0) (by decide) (by decide) (hb hby d2_6) (by decide) (by decide)) ?_
 rintro _ T2 L2 X2 ⟨b1_3_2, k1_3_2, rfl, N2q, sz_b1_3_2, K2q, P2_0, P2_1, P2_2, P2_3⟩
 have g_b1_3_2 : n0 ≤ b1_3_2 := Nat.le_trans (Old.le O0) sz_b1_3_2
 have O2 := Old.keep O0 K2q (allS g_o0 all0)
 have K2 : Keep h0 T2.heap ([o0] : List Addr) := Keep.trans (Keep.refl h0 ([o0] : List Addr)) K2q (allS (Or.inl (List.mem_of_getElem? (i := 0) rfl)) all0)
 have N2 := Fr.app N0 N2q
 exact Home.ret0 X2 hx hlk hret (hb hby d2_9) ⟨b1_3_2, k1_3_2, rfl, N2, (Nat.le_trans (Nat.le_refl _) sz_b1_3_2), K2, P2_0, P2_1, P2_2, P2_3⟩ (by decide) (by decide)
theorem rm1_2 (l : Launch) (Z : State) (a0 : Array Value) (hw : HW a0 Z) (ws : List Jvm.Cond) (i1 i2 i3 i4 i5 i6 sv_COMPACT_STRINGS : Int32) (sv_SIOOBE_FORMATTER : Value) (h0 : Heap) (n0 : Nat) (O0 : Old Z n0 h0) (bnd_i1 : ¬ i1 < (0 : Int32) ∧ ¬ (57 : Int32) < i1) (bnd_i2 : ¬ i2 < (0 : Int32) ∧ ¬ (57 : Int32) < i2) (bnd_i3 : ¬ i3 < (0 : Int32) ∧ ¬ (57 : Int32) < i3) (bnd_i4 : ¬ i4 < (0 : Int32) ∧ ¬ (57 : Int32) < i4) (bnd_i5 : ¬ i5 < (0 : Int32) ∧ ¬ (57 : Int32) < i5) (bnd_i6 : ¬ i6 < (0 : Int32) ∧ ¬ (57 : Int32) < i6) (S_COMPACT_STRINGS : Sta Z Z.heap "java/lang/String" "COMPACT_STRINGS" "Z" (.int sv_COMPACT_STRINGS)) (S_SIOOBE_FORMATTER : Sta Z Z.heap "jdk/internal/util/Preconditions" "SIOOBE_FORMATTER" "Ljava/util/function/BiFunction;" sv_SIOOBE_FORMATTER) (hCS : ¬ (sv_COMPACT_STRINGS = (0 : Int32))) (isr_sv_SIOOBE_FORMATTER : sv_SIOOBE_FORMATTER.isRef = true) :
    ConW l Z own_EL ([] : List Addr) true (⟨"com/example/tryst/tryst/encoding/Base58DecodePinLaw", "build", "(IIIIIII)Ljava/lang/String;"⟩ : MethodName) method_4_code 7 (some (.object "java/lang/String")) ws ({ frames := 5, cells := 7, slots := 480, locals := 70 } : Room) #[(.int 2), (.int i1), (.int i2), (.int i3), (.int i4), (.int i5), (.int i6)] h0 (fun v h L => ∃ (b1 : Addr), ∃ (b1_3_2_15 : Addr), ∃ (k1_3_2_15 : ClassId), v = some (.ref b1) ∧ Fr n0 L ∧ h0.size ≤ b1 ∧ h0.size ≤ b1_3_2_15 ∧ Keep h0 h [] ∧ Exa Z h b1 "java/lang/String" ∧ Fld Z h b1 "java/lang/String" "value" "[B" (.ref b1_3_2_15) ∧ Fld Z h b1 "java/lang/String" "coder" "B" (.int 0) ∧ Arv Z h b1_3_2_15 k1_3_2_15 .byte (2 : Int32) [(.int ((nar .char ((own_at own_TI0 i1) &&& (255 : Int32))).toInt8.toInt32)), (.int ((nar .char ((own_at own_TI0 i2) &&& (255 : Int32))).toInt8.toInt32))] (.int 0)) := by
 refine own_bodyW (plainFor_of_name own_pn1) (fun m => ef_rm1_2 m (2 : Int32) i1 i2 i3 i4 i5 i6) ?_
 intro p e s m below meth c s₁ hx hby hlk hml hret hZ hown hnm X0 e0 Cd0
 have N0 := Fr.nil n0
 refine Home.run X0 hx hby sg1_0_1 (pc' := 1) (L' := #[si 2, si i1, si i2, si i3, si i4, si i5, si i6]) (S' := [(.int 2)]) rfl ?_
 refine Home.go (fun _ => XS.ifYes X0.here hx rfl (pc0 := 1) (pc' := 15) rfl (hb hby d1_1) rfl ((if0 _ _).trans (feq (by decide)).2) (by decide) (by decide)) ?_
 refine Home.run X0 hx hby sg1_15_2 (pc' := 17) (L' := #[si 2, si i1, si i2, si i3, si i4, si i5, si i6]) (S' := [(.int 1), (.int 2)]) rfl ?_
 refine Home.go (fun _ => XS.icmpYes X0.here hx rfl (pc0 := 17) (pc' := 38) rfl (hb hby d1_17) rfl (feq (by decide)).2 (by decide) (by decide)) ?_
 refine Home.run X0 hx hby sg1_38_2 (pc' := 40) (L' := #[si 2, si i1, si i2, si i3, si i4, si i5, si i6]) (S' := [(.int 2), (.int 2)]) rfl ?_
 refine Home.go (fun _ => XS.icmpNo X0.here hx rfl (hb hby d1_40) rfl (teq (by decide)).2) ?_
 refine Home.nw (own_newO X0 hx hZ hown (own_w6 hw) (own_w7 hw) (own_w8 hw) e0 rfl (hb hby d1_43) (by decide) (by decide)) fun T1 h1 b1 g1 X1 e1 E1 A1 D1 => ?_
 have g_b1 : n0 ≤ b1 := Nat.le_trans (Old.le O0) (Nat.le_of_eq g1.symm)
 have F_value_b1 : Fld Z h1 b1 "java/lang/String" "value" "[B" .null := D1 (Or.inr (own_w22 hw)) (ty := (.array .byte)) (by decide)
 have F_coder_b1 : Fld Z h1 b1 "java/lang/String" "coder" "B" (.int 0) := D1 (Or.inr (own_w23 hw)) (ty := .byte) (by decide)
 have O1 := O0.ext E1
 have K1 : Keep h0 h1 ([] : List Addr) := Keep.ext (Keep.refl h0 ([] : List Addr)) E1
 have Cd1 := Cold.add Cd0 E1 (Nat.le_of_eq g1.symm) A1.lt
 refine Home.run X1 hx hby sg1_46_2 (pc' := 48) (L' := #[si 2, si i1, si i2, si i3, si i4, si i5, si i6]) (S' := [(.int 2), (.ref b1), (.ref b1)]) rfl ?_
 refine Home.na (own_newP (aty := .char) X1 hx hZ (own_w9 hw) e1 (g := (mkF m 48 #[.val (.int 2), .val (.int i1), .val (.int i2), .val (.int i3), .val (.int i4), .val (.int i5), .val (.int i6)] [(.int 2), (.ref b1), (.ref b1)])) rfl (hb hby d1_48) rfl (by decide) (cap := 2) (by decide) (by decide) (by decide) (by decide)) fun T2 h2 k2 b2 g2 X2 e2 E2 A2 => ?_
 have g_b2 : n0 ≤ b2 := Nat.le_trans (Old.le O1) (Nat.le_of_eq g2.symm)
 have V2 : Arv Z h2 b2 k2 .char (2 : Int32) [(.int 0), (.int 0)] (.int 0) := (Arv.new A2 (by decide)).pad (pad_rep [] (.int 0) 2)
 have O2 := O1.ext E2
 have K2 : Keep h0 h2 ([] : List Addr) := Keep.ext K1 E2
 have Cd2 := Cold.ext Cd1 E2
 show Home T2 (mkF m 50 #[si 2, si i1, si i2, si i3, si i4, si i5, si i6] [(.ref b2), (.ref b1), (.ref b1)])
 refine Home.run X2 hx hby sg1_50_3 (pc' := 53) (L' := #[si 2, si i1, si i2, si i3, si i4, si i5, si i6]) (S' := [(.int i1), (.int 0), (.ref b2), (.ref b2), (.ref b1), (.ref b1)]) rfl ?_
 refine Home.call (own_staticW X2 hx hZ hown (own_hEL hw) Cd2 all0 (own_w55 hw) (own_w56 hw) (own_w4 hw) (own_w57 hw) (by decide) (rm12_0 l Z a0 hw [] i1 sv_COMPACT_STRINGS sv_SIOOBE_FORMATTER h2 n0 O2 bnd_i1 S_COMPACT_STRINGS S_SIOOBE_FORMATTER hCS isr_sv_SIOOBE_FORMATTER) e2 rfl (by rw [hml]; rfl) (argsL := [(.int i1)]) (rest := [(.int 0), (.ref b2), (.ref b2), (.ref b1), (.ref b1)]) (lenOf own_pd14 rfl) rfl rfl (W := 5) (by exact hW0) (by decide) (by decide) (hb hby d1_53) (by decide) (by decide)) ?_
 rintro _ T3 L3 X3 ⟨⟨rfl, N3q, K3q⟩, hZ, hown, Cd3, sR3⟩
 have O3 := Old.keep O2 K3q all0
 have K3 : Keep h0 T3.heap ([] : List Addr) := Keep.trans K2 K3q all0
 have N3 := Fr.app N0 N3q
 show Home T3 (mkF m 56 #[si 2, si i1, si i2, si i3, si i4, si i5, si i6] [(.int (nar .char ((own_at own_TI0 i1) &&& (255 : Int32)))), (.int 0), (.ref b2), (.ref b2), (.ref b1), (.ref b1)])
 obtain ⟨r4, hr4⟩ : ∃ z, z = (nar .char ((own_at own_TI0 i1) &&& (255 : Int32))) := ⟨_, rfl⟩
 rw [← hr4]
 have br4 : ¬ r4 < (0 : Int32) ∧ ¬ (255 : Int32) < r4 := by rw [hr4]; rw [nar_char_id (bnd_and (own_at own_TI0 i1) (255 : Int32) (by decide)) (by decide +kernel) (by decide +kernel)]; exact (bnd_and (own_at own_TI0 i1) (255 : Int32) (by decide))
 have q5 := (V2.keep K3q nin0)
 obtain ⟨cl6, Ar6, q6, S6, M6, H6, G6⟩ := id q5
 refine Home.wr (stC X3 hx hZ rfl Ar6 (j := (0 : Int32)) (inb_of S6 ⟨by decide, by decide⟩) rfl rfl (hb hby d1_56)) fun T6 h6 X6 e6 W6 => ?_
 have W6' := Wr.to W6 (congrArg Value.int (nar_char_id br4 (by decide +kernel) (by decide +kernel)))
 have V6 : Arv Z h6 b2 k2 .char (2 : Int32) [(.int r4), (.int 0)] (.int 0) := Arv.set Ar6 q6 S6 M6 H6 G6 (fits_char_b br4 (by decide +kernel) (by decide +kernel)) W6' 0 rfl (Nat.le_of_ble_eq_true rfl)
 have O6 := O3.wr W6 g_b2
 have K6 : Keep h0 h6 ([] : List Addr) := Keep.wr K3 W6 (Or.inr (Nat.le_trans E1.1 (Nat.le_of_eq g2.symm)))
 have Cd6 := Cold.wr Cd3 W6 (Safe.arv hZ.alike q5 (by simp))
 have N6 := Fr.snoc X6 N3 g_b2
 refine Home.run X6 hx hby sg1_57_3 (pc' := 60) (L' := #[si 2, si i1, si i2, si i3, si i4, si i5, si i6]) (S' := [(.int i2), (.int 1), (.ref b2), (.ref b2), (.ref b1), (.ref b1)]) rfl ?_
 refine Home.call (own_staticW X6 hx hZ hown (own_hEL hw) Cd6 all0 (own_w55 hw) (own_w56 hw) (own_w4 hw) (own_w57 hw) (by decide) (rm12_0 l Z a0 hw [] i2 sv_COMPACT_STRINGS sv_SIOOBE_FORMATTER h6 n0 O6 bnd_i2 S_COMPACT_STRINGS S_SIOOBE_FORMATTER hCS isr_sv_SIOOBE_FORMATTER) e6 rfl (by rw [hml]; rfl) (argsL := [(.int i2)]) (rest := [(.int 1), (.ref b2), (.ref b2), (.ref b1), (.ref b1)]) (lenOf own_pd14 rfl) rfl rfl (W := 5) (by exact hW0) (by decide) (by decide) (hb hby d1_60) (by decide) (by decide)) ?_
 rintro _ T7 L7 X7 ⟨⟨rfl, N7q, K7q⟩, hZ, hown, Cd7, sR7⟩
 have O7 := Old.keep O6 K7q all0
 have K7 : Keep h0 T7.heap ([] : List Addr) := Keep.trans K6 K7q all0
 have N7 := Fr.app N6 N7q
 show Home T7 (mkF m 63 #[si 2, si i1, si i2, si i3, si i4, si i5, si i6] [(.int (nar .char ((own_at own_TI0 i2) &&& (255 : Int32)))), (.int 1), (.ref b2), (.ref b2), (.ref b1), (.ref b1)])
 obtain ⟨r8, hr8⟩ : ∃ z, z = (nar .char ((own_at own_TI0 i2) &&& (255 : Int32))) := ⟨_, rfl⟩
 rw [← hr8]
 have br8 : ¬ r8 < (0 : Int32) ∧ ¬ (255 : Int32) < r8 := by rw [hr8]; rw [nar_char_id (bnd_and (own_at own_TI0 i2) (255 : Int32) (by decide)) (by decide +kernel) (by decide +kernel)]; exact (bnd_and (own_at own_TI0 i2) (255 : Int32) (by decide))
 have q9 := (V6.keep K7q nin0)
 obtain ⟨cl10, Ar10, q10, S10, M10, H10, G10⟩ := id q9
 refine Home.wr (stC X7 hx hZ rfl Ar10 (j := (1 : Int32)) (inb_of S10 ⟨by decide, by decide⟩) rfl rfl (hb hby d1_63)) fun T10 h10 X10 e10 W10 => ?_
 have W10' := Wr.to W10 (congrArg Value.int (nar_char_id br8 (by decide +kernel) (by decide +kernel)))
 have V10 : Arv Z h10 b2 k2 .char (2 : Int32) [(.int r4), (.int r8)] (.int 0) := Arv.set Ar10 q10 S10 M10 H10 G10 (fits_char_b br8 (by decide +kernel) (by decide +kernel)) W10' 1 rfl (Nat.le_of_ble_eq_true rfl)
 have O10 := O7.wr W10 g_b2
 have K10 : Keep h0 h10 ([] : List Addr) := Keep.wr K7 W10 (Or.inr (Nat.le_trans E1.1 (Nat.le_of_eq g2.symm)))
 have Cd10 := Cold.wr Cd7 W10 (Safe.arv hZ.alike q9 (by simp))
 have N10 := Fr.snoc X10 N7 g_b2
 have q11 := (((((A1.ext E2).keep K3q).wr W6).keep K7q).wr W10)
 have ne12 : b1 ≠ b2 := (Nat.ne_of_lt (Nat.lt_of_lt_of_le A1.lt (Nat.le_trans (Nat.le_refl _) (Nat.le_of_eq g2.symm))))
 have q13 := (((((F_coder_b1.ext E2).keep K3q nin0).other W6 (Or.inl ne12)).keep K7q nin0).other W10 (Or.inl ne12))
 have q14 := (((((F_value_b1.ext E2).keep K3q nin0).other W6 (Or.inl ne12)).keep K7q nin0).other W10 (Or.inl ne12))
 refine Home.call (own_special X10 hx hZ hown rfl (own_w10 hw) (own_w11 hw) (own_w8 hw) (own_w12 hw) (by decide) (rm2_2 l Z a0 hw [] b1 b2 k2 r4 r8 sv_COMPACT_STRINGS h10 n0 O10 V10 S_COMPACT_STRINGS q11 q13 q14 br4 br8 g_b1 hCS) e10 rfl (by rw [hml]; rfl) (a := b1) (argsL := [(.ref b2)]) (rest := [(.ref b1)]) (lenOf own_pd1 rfl) rfl rfl (W := 1) (by exact hW0) (by decide) (by decide) (hb hby d1_64) (by decide) (by decide)) ?_
 rintro _ T15 L15 X15 ⟨b1_3_2_15, k1_3_2_15, rfl, N15q, sz_b1_3_2_15, K15q, P15_0, P15_1, P15_2, P15_3⟩
 have Cd15 := Cold.keep Cd10 K15q (allS (Cold.safe Cd10 (List.mem_of_getElem? (i := 0) rfl)) all0)
 have Cd15b1_3_2_15 := Cold.put Cd15 ⟨Safe.keep K15q (allS (Cold.safe Cd10 (List.mem_of_getElem? (i := 0) rfl)) all0) Cd10.2.1.1 (Safe.new sz_b1_3_2_15), P15_3.lt⟩
 have g_b1_3_2_15 : n0 ≤ b1_3_2_15 := Nat.le_trans (Old.le O10) sz_b1_3_2_15
 have O15 := Old.keep O10 K15q (allS g_b1 all0)
 have K15 : Keep h0 T15.heap ([] : List Addr) := Keep.trans K10 K15q (allS (Or.inr (Nat.le_trans (Nat.le_refl _) (Nat.le_of_eq g1.symm))) all0)
 have N15 := Fr.app N10 N15q
 show Home T15 (mkF m 67 #[si 2, si i1, si i2, si i3, si i4, si i5, si i6] [(.ref b1)])
 have le16 : h0.size ≤ h2.size := Nat.le_trans E1.1 E2.1
 have le17 : h0.size ≤ T3.heap.size := Nat.le_trans le16 K3q.1
 have le18 : h0.size ≤ h6.size := Nat.le_trans le17 (Nat.le_of_eq W6.size.symm)
 have le19 : h0.size ≤ T7.heap.size := Nat.le_trans le18 K7q.1
 have le20 : h0.size ≤ h10.size := Nat.le_trans le19 (Nat.le_of_eq W10.size.symm)
 subst hr8
 subst hr4
 exact HomeW.retR X15 hx hlk hZ (own_hEL hw) rfl Cd15b1_3_2_15 (fun _ _ q => by cases q; exact (List.mem_of_getElem? (i := 1) rfl)) hret rfl rfl (hb hby d1_67) ⟨b1, b1_3_2_15, k1_3_2_15, rfl, N15, (Nat.le_trans (Nat.le_refl _) (Nat.le_of_eq g1.symm)), (Nat.le_trans le20 sz_b1_3_2_15), K15, P15_0, P15_2, P15_1, P15_3⟩ (by decide) (by decide)
theorem rm8_2 (l : Launch) (Z : State) (a0 : Array Value) (hw : HW a0 Z) (ws : List Jvm.Cond) (i1 i2 i3 i4 i5 i6 : Int32) (h0 : Heap) (n0 : Nat) (O0 : Old Z n0 h0) (bnd_i1 : ¬ i1 < (0 : Int32) ∧ ¬ (57 : Int32) < i1) (bnd_i2 : ¬ i2 < (0 : Int32) ∧ ¬ (57 : Int32) < i2) (bnd_i3 : ¬ i3 < (0 : Int32) ∧ ¬ (57 : Int32) < i3) (bnd_i4 : ¬ i4 < (0 : Int32) ∧ ¬ (57 : Int32) < i4) (bnd_i5 : ¬ i5 < (0 : Int32) ∧ ¬ (57 : Int32) < i5) (bnd_i6 : ¬ i6 < (0 : Int32) ∧ ¬ (57 : Int32) < i6) :
    Con l Z (⟨"com/example/tryst/tryst/encoding/Base58DecodePinLaw", "leadingZeros", "(IIIIIII)I"⟩ : MethodName) method_5_code 7 (some .int) ws ({ frames := 0, cells := 0, slots := 0, locals := 0 } : Room) #[(.int 2), (.int i1), (.int i2), (.int i3), (.int i4), (.int i5), (.int i6)] h0 (Pur (some (.int (f_rm8_2 i1 i2))) h0) := by
 refine own_body (plainFor_of_name own_pn1) (fun m => ef_rm8_2 m (2 : Int32) i1 i2 i3 i4 i5 i6) ?_
 intro p e s m below meth c s₁ hx hby hlk hml hret hZ hown hnm X0 e0
 have N0 := Fr.nil n0
 refine Home.run X0 hx hby sg8_0_2 (pc' := 2) (L' := #[si 2, si i1, si i2, si i3, si i4, si i5, si i6]) (S' := [(.int 1), (.int 2)]) rfl ?_
 refine Home.go (fun _ => XS.icmpNo X0.here hx rfl (hb hby d8_2) rfl (flt (by decide)).1) ?_
 refine Home.run X0 hx hby sg8_5_1 (pc' := 6) (L' := #[si 2, si i1, si i2, si i3, si i4, si i5, si i6]) (S' := [(.int i1)]) rfl ?_
 by_cases c1 : i1 = (0 : Int32)
 ·
  refine Home.go (fun _ => XS.ifYes X0.here hx rfl (pc0 := 6) (pc' := 11) rfl (hb hby d8_6) rfl ((if0 _ _).trans (teq c1).1) (by decide) (by decide)) ?_
  have bd2 : ¬ i1 < (0 : Int32) ∧ ¬ (0 : Int32) < i1 := ⟨(bnd_eql c1), (bnd_eqr c1)⟩
  refine Home.run X0 hx hby sg8_11_2 (pc' := 13) (L' := #[si 2, si i1, si i2, si i3, si i4, si i5, si i6]) (S' := [(.int 2), (.int 2)]) rfl ?_
  refine Home.go (fun _ => XS.icmpNo X0.here hx rfl (hb hby d8_13) rfl (flt (by decide)).1) ?_
  refine Home.run X0 hx hby sg8_16_1 (pc' := 17) (L' := #[si 2, si i1, si i2, si i3, si i4, si i5, si i6]) (S' := [(.int i2)]) rfl ?_
  by_cases c4 : i2 = (0 : Int32)
  ·
   refine Home.go (fun _ => XS.ifYes X0.here hx rfl (pc0 := 17) (pc' := 22) rfl (hb hby d8_17) rfl ((if0 _ _).trans (teq c4).1) (by decide) (by decide)) ?_
   have bd5 : ¬ i2 < (0 : Int32) ∧ ¬ (0 : Int32) < i2 := ⟨(bnd_eql c4), (bnd_eqr c4)⟩
   refine Home.run X0 hx hby sg8_22_2 (pc' := 24) (L' := #[si 2, si i1, si i2, si i3, si i4, si i5, si i6]) (S' := [(.int 3), (.int 2)]) rfl ?_
   refine Home.go (fun _ => XS.icmpYes X0.here hx rfl (pc0 := 24) (pc' := 31) rfl (hb hby d8_24) rfl (tlt (by decide)).1 (by decide) (by decide)) ?_
   refine Home.run X0 hx hby sg8_31_1 (pc' := 32) (L' := #[si 2, si i1, si i2, si i3, si i4, si i5, si i6]) (S' := [(.int 2)]) rfl ?_
   exact Home.retI X0 hx hlk hret (hb hby d8_32) ⟨congrArg some (congrArg Value.int (by first | rfl | (simp only [f_rm8_2, if_pos c1, if_pos c4, nar_i2c, nar_i2b] <;> rfl) | (simp [f_rm8_2, if_pos c1, if_pos c4]; done))), rfl, e0⟩ (by decide) (by decide)
  ·
   refine Home.go (fun _ => XS.ifNo X0.here hx rfl (hb hby d8_17) rfl ((if0 _ _).trans (feq c4).1)) ?_
   have bd6 : ¬ i2 < (1 : Int32) ∧ ¬ (57 : Int32) < i2 := ⟨(bnd_nel bnd_i2.1 c4 (by decide +kernel)), bnd_i2.2⟩
   refine Home.run X0 hx hby sg8_20_1 (pc' := 21) (L' := #[si 2, si i1, si i2, si i3, si i4, si i5, si i6]) (S' := [(.int 1)]) rfl ?_
   exact Home.retI X0 hx hlk hret (hb hby d8_21) ⟨congrArg some (congrArg Value.int (by first | rfl | (simp only [f_rm8_2, if_pos c1, if_neg c4, nar_i2c, nar_i2b] <;> rfl) | (simp [f_rm8_2, if_pos c1, if_neg c4]; done))), rfl, e0⟩ (by decide) (by decide)
 ·
  refine Home.go (fun _ => XS.ifNo X0.here hx rfl (hb hby d8_6) rfl ((if0 _ _).trans (feq c1).1)) ?_
  have bd3 : ¬ i1 < (1 : Int32) ∧ ¬ (57 : Int32) < i1 := ⟨(bnd_nel bnd_i1.1 c1 (by decide +kernel)), bnd_i1.2⟩
  refine Home.run X0 hx hby sg8_9_1 (pc' := 10) (L' := #[si 2, si i1, si i2, si i3, si i4, si i5, si i6]) (S' := [(.int 0)]) rfl ?_
  exact Home.retI X0 hx hlk hret (hb hby d8_10) ⟨congrArg some (congrArg Value.int (by first | rfl | (simp only [f_rm8_2, if_neg c1, nar_i2c, nar_i2b] <;> rfl) | (simp [f_rm8_2, if_neg c1]; done))), rfl, e0⟩ (by decide) (by decide)
theorem f_rm8_2_bnd (i1 : Int32) (i2 : Int32) (i3 : Int32) (i4 : Int32) (i5 : Int32) (i6 : Int32) (bnd_i1 : ¬ i1 < (0 : Int32) ∧ ¬ (57 : Int32) < i1) (bnd_i2 : ¬ i2 < (0 : Int32) ∧ ¬ (57 : Int32) < i2) (bnd_i3 : ¬ i3 < (0 : Int32) ∧ ¬ (57 : Int32) < i3) (bnd_i4 : ¬ i4 < (0 : Int32) ∧ ¬ (57 : Int32) < i4) (bnd_i5 : ¬ i5 < (0 : Int32) ∧ ¬ (57 : Int32) < i5) (bnd_i6 : ¬ i6 < (0 : Int32) ∧ ¬ (57 : Int32) < i6) : ¬ (f_rm8_2 i1 i2) < (0 : Int32) ∧ ¬ (2 : Int32) < (f_rm8_2 i1 i2) := by unfold f_rm8_2; (repeat' split) <;> first | exact bnd_mono (bnd_lit (2 : Int32)) (by decide +kernel) (by decide +kernel) | exact bnd_mono (bnd_lit (1 : Int32)) (by decide +kernel) (by decide +kernel) | exact bnd_mono (bnd_lit (0 : Int32)) (by decide +kernel) (by decide +kernel)
theorem rm9_2 (l : Launch) (Z : State) (a0 : Array Value) (hw : HW a0 Z) (ws : List Jvm.Cond) (i1 i2 i3 i4 i5 i6 : Int32) (h0 : Heap) (n0 : Nat) (O0 : Old Z n0 h0) (bnd_i1 : ¬ i1 < (0 : Int32) ∧ ¬ (57 : Int32) < i1) (bnd_i2 : ¬ i2 < (0 : Int32) ∧ ¬ (57 : Int32) < i2) (bnd_i3 : ¬ i3 < (0 : Int32) ∧ ¬ (57 : Int32) < i3) (bnd_i4 : ¬ i4 < (0 : Int32) ∧ ¬ (57 : Int32) < i4) (bnd_i5 : ¬ i5 < (0 : Int32) ∧ ¬ (57 : Int32) < i5) (bnd_i6 : ¬ i6 < (0 : Int32) ∧ ¬ (57 : Int32) < i6) :
    Con l Z (⟨"com/example/tryst/tryst/encoding/Base58DecodePinLaw", "value", "(IIIIIII)J"⟩ : MethodName) method_6_code 9 (some .long) ws ({ frames := 0, cells := 0, slots := 0, locals := 0 } : Room) #[(.int 2), (.int i1), (.int i2), (.int i3), (.int i4), (.int i5), (.int i6)] h0 (Pur (some (.long (((i1.toInt64) * (58 : Int64)) + (i2.toInt64)))) h0) := by
 refine own_body (plainFor_of_name own_pn1) (fun m => ef_rm9_2 m (2 : Int32) i1 i2 i3 i4 i5 i6) ?_
 intro p e s m below meth c s₁ hx hby hlk hml hret hZ hown hnm X0 e0
 have N0 := Fr.nil n0
 refine Home.run X0 hx hby sg9_0_3 (pc' := 4) (L' := #[si 2, si i1, si i2, si i3, si i4, si i5, si i6, .val (.long (0 : Int64)), .second]) (S' := [(.int 2)]) rfl ?_
 refine Home.go (fun _ => XS.ifNo X0.here hx rfl (hb hby d9_4) rfl ((if0 _ _).trans (tlt (by decide)).2.2.2)) ?_
 refine Home.run X0 hx hby sg9_7_5 (pc' := 13) (L' := #[si 2, si i1, si i2, si i3, si i4, si i5, si i6, .val (.long (i1.toInt64)), .second]) (S' := [(.int 1), (.int 2)]) rfl ?_
 refine Home.go (fun _ => XS.icmpNo X0.here hx rfl (hb hby d9_13) rfl (tlt (by decide)).2.2.2) ?_
 refine Home.run X0 hx hby sg9_16_1 (pc' := 18) (L' := #[si 2, si i1, si i2, si i3, si i4, si i5, si i6, .val (.long (i1.toInt64)), .second]) (S' := [(.long (i1.toInt64))]) rfl ?_
 refine Home.go (X0.ldc2Long hx hown (mvT hZ (own_w120 hw)) rfl (hb hby d9_18)) ?_
 refine Home.run X0 hx hby sg9_21_7 (pc' := 29) (L' := #[si 2, si i1, si i2, si i3, si i4, si i5, si i6, .val (.long (((i1.toInt64) * (58 : Int64)) + (i2.toInt64))), .second]) (S' := [(.int 2), (.int 2)]) rfl ?_
 refine Home.go (fun _ => XS.icmpYes X0.here hx rfl (pc0 := 29) (pc' := 43) rfl (hb hby d9_29) rfl (flt (by decide)).2.2.2 (by decide) (by decide)) ?_
 refine Home.run X0 hx hby sg9_43_2 (pc' := 45) (L' := #[si 2, si i1, si i2, si i3, si i4, si i5, si i6, .val (.long (((i1.toInt64) * (58 : Int64)) + (i2.toInt64))), .second]) (S' := [(.int 3), (.int 2)]) rfl ?_
 refine Home.go (fun _ => XS.icmpYes X0.here hx rfl (pc0 := 45) (pc' := 60) rfl (hb hby d9_45) rfl (flt (by decide)).2.2.2 (by decide) (by decide)) ?_
 refine Home.run X0 hx hby sg9_60_2 (pc' := 62) (L' := #[si 2, si i1, si i2, si i3, si i4, si i5, si i6, .val (.long (((i1.toInt64) * (58 : Int64)) + (i2.toInt64))), .second]) (S' := [(.int 4), (.int 2)]) rfl ?_
 refine Home.go (fun _ => XS.icmpYes X0.here hx rfl (pc0 := 62) (pc' := 77) rfl (hb hby d9_62) rfl (flt (by decide)).2.2.2 (by decide) (by decide)) ?_
 refine Home.run X0 hx hby sg9_77_2 (pc' := 79) (L' := #[si 2, si i1, si i2, si i3, si i4, si i5, si i6, .val (.long (((i1.toInt64) * (58 : Int64)) + (i2.toInt64))), .second]) (S' := [(.int 5), (.int 2)]) rfl ?_
 refine Home.go (fun _ => XS.icmpYes X0.here hx rfl (pc0 := 79) (pc' := 94) rfl (hb hby d9_79) rfl (flt (by decide)).2.2.2 (by decide) (by decide)) ?_
 refine Home.run X0 hx hby sg9_94_1 (pc' := 96) (L' := #[si 2, si i1, si i2, si i3, si i4, si i5, si i6, .val (.long (((i1.toInt64) * (58 : Int64)) + (i2.toInt64))), .second]) (S' := [(.long (((i1.toInt64) * (58 : Int64)) + (i2.toInt64)))]) rfl ?_
 exact Home.retJ X0 hx hlk hret (hb hby d9_96) ⟨rfl, rfl, e0⟩ (by decide) (by decide)
theorem rm19_2 (l : Launch) (Z : State) (a0 : Array Value) (hw : HW a0 Z) (ws : List Jvm.Cond) (o0 o2 : Addr) (k_o0 : ClassId) (u1 u2 u3 : Int32) (k_o2 : ClassId) (h0 : Heap) (n0 : Nat) (O0 : Old Z n0 h0) (V_o0 : Arv Z h0 o0 k_o0 .char (3 : Int32) [(.int u1), (.int u2), (.int u3)] (.int 0)) (bnd_u1 : ¬ u1 < (0 : Int32) ∧ ¬ (255 : Int32) < u1) (V_o2 : Arv Z h0 o2 k_o2 .byte (3 : Int32) [(.int 0), (.int 0), (.int 0)] (.int 0)) (g_o2 : n0 ≤ o2) (ne_o0_o2 : o0 ≠ o2) (bnd_u2 : ¬ u2 < (0 : Int32) ∧ ¬ (255 : Int32) < u2) (bnd_u3 : ¬ u3 < (0 : Int32) ∧ ¬ (255 : Int32) < u3) :
    Con l Z (⟨"java/lang/StringUTF16", "compress", "([CI[BII)I"⟩ : MethodName) jdk_52_method_21_code 7 (some .int) ws ({ frames := 0, cells := 0, slots := 0, locals := 0 } : Room) #[(.ref o0), (.int 0), (.ref o2), (.int 0), (.int 3)] h0 (fun v h L => v = some (.int 3) ∧ Fr n0 L ∧ Keep h0 h [o2] ∧ Arv Z h o2 k_o2 .byte (3 : Int32) [(.int (u1.toInt8.toInt32)), (.int (u2.toInt8.toInt32)), (.int (u3.toInt8.toInt32))] (.int 0)) := by
 refine own_body (plainFor_of_name own_pn5) (fun m => ef_rm19_2 m o0 (0 : Int32) o2 (3 : Int32)) ?_
 intro p e s m below meth c s₁ hx hby hlk hml hret hZ hown hnm X0 e0
 have N0 := Fr.nil n0
 refine Home.run X0 hx hby sg19_0_4 (pc' := 7) (L' := #[sr o0, si 0, sr o2, si 0, si 3, si 0, un]) (S' := [(.int 3), (.int 0)]) rfl ?_
 refine Home.go (fun _ => XS.icmpNo X0.here hx rfl (hb hby d19_7) rfl (tlt (by decide)).2.1) ?_
 refine Home.run X0 hx hby sg19_10_2 (pc' := 12) (L' := #[sr o0, si 0, sr o2, si 0, si 3, si 0, un]) (S' := [(.int 0), (.ref o0)]) rfl ?_
 obtain ⟨cl1, Ar1, q1, S1, M1, H1, G1⟩ := id V_o0
 have ib1 : ¬ ((0 : Int32) < 0 ∨ cl1.slots.size ≤ ((0 : Int32)).toNatClampNeg) := inb_of S1 ⟨by decide, by decide⟩
 refine Home.go (X0.caload hx (j := (0 : Int32)) (v := (.int u1)) (by rw [e0]; exact Ar1.1) (State.isArrayOf_alike hZ.alike Ar1.2.1) Ar1.2.2 ib1 (Has.at H1 ib1 rfl) rfl rfl (hb hby d19_12)) ?_
 refine Home.run X0 hx hby sg19_13_3 (pc' := 20) (L' := #[sr o0, si 0, sr o2, si 0, si 3, si 0, si u1]) (S' := [(.int 255), (.int u1)]) rfl ?_
 refine Home.go (fun _ => XS.icmpYes X0.here hx rfl (pc0 := 20) (pc' := 26) rfl (hb hby d19_20) rfl (flt (bnd_nlt (bnd_lit (255 : Int32)) bnd_u1 (by decide +kernel))).2.2.2 (by decide) (by decide)) ?_
 refine Home.run X0 hx hby sg19_26_4 (pc' := 31) (L' := #[sr o0, si 0, sr o2, si 0, si 3, si 0, si u1]) (S' := [(.int (u1.toInt8.toInt32)), (.int 0), (.ref o2)]) rfl ?_
 obtain ⟨cl2, Ar2, q2, S2, M2, H2, G2⟩ := id V_o2
 refine Home.wr (stB X0 hx hZ e0 Ar2 (j := (0 : Int32)) (inb_of S2 ⟨by decide, by decide⟩) rfl rfl (hb hby d19_31)) fun T2 h2 X2 e2 W2 => ?_
 have W2' := Wr.to W2 (congrArg Value.int (nar_byte_id (bnd_i2b u1) (by decide +kernel) (by decide +kernel)))
 have V2 : Arv Z h2 o2 k_o2 .byte (3 : Int32) [(.int (u1.toInt8.toInt32)), (.int 0), (.int 0)] (.int 0) := Arv.set Ar2 q2 S2 M2 H2 G2 (fits_byte_b (bnd_i2b u1) (by decide +kernel) (by decide +kernel)) W2' 0 rfl (Nat.le_of_ble_eq_true rfl)
 have O2 := O0.wr W2 g_o2
 have K2 : Keep h0 h2 ([o2] : List Addr) := Keep.wr (Keep.refl h0 ([o2] : List Addr)) W2 (Or.inl (List.mem_of_getElem? (i := 0) rfl))
 have N2 := Fr.snoc X2 N0 g_o2
 show Home T2 (mkF m 32 #[sr o0, si 0, sr o2, si 0, si 3, si 0, si u1] [])
 refine Home.run X2 hx hby sg19_32_6 (pc' := 7) (L' := #[sr o0, si 1, sr o2, si 1, si 3, si 1, si u1]) (S' := [(.int 3), (.int 1)]) rfl ?_
 refine Home.go (fun _ => XS.icmpNo X2.here hx rfl (hb hby d19_7) rfl (tlt (by decide)).2.1) ?_
 refine Home.run X2 hx hby sg19_10_2 (pc' := 12) (L' := #[sr o0, si 1, sr o2, si 1, si 3, si 1, si u1]) (S' := [(.int 1), (.ref o0)]) rfl ?_
 have q3 := (V_o0.other W2 ne_o0_o2)
 obtain ⟨cl4, Ar4, q4, S4, M4, H4, G4⟩ := id q3
 have ib4 : ¬ ((1 : Int32) < 0 ∨ cl4.slots.size ≤ ((1 : Int32)).toNatClampNeg) := inb_of S4 ⟨by decide, by decide⟩
 refine Home.go (X2.caload hx (j := (1 : Int32)) (v := (.int u2)) (by rw [e2]; exact Ar4.1) (State.isArrayOf_alike hZ.alike Ar4.2.1) Ar4.2.2 ib4 (Has.at H4 ib4 rfl) rfl rfl (hb hby d19_12)) ?_
 refine Home.run X2 hx hby sg19_13_3 (pc' := 20) (L' := #[sr o0, si 1, sr o2, si 1, si 3, si 1, si u2]) (S' := [(.int 255), (.int u2)]) rfl ?_
 refine Home.go (fun _ => XS.icmpYes X2.here hx rfl (pc0 := 20) (pc' := 26) rfl (hb hby d19_20) rfl (flt (bnd_nlt (bnd_lit (255 : Int32)) bnd_u2 (by decide +kernel))).2.2.2 (by decide) (by decide)) ?_
 refine Home.run X2 hx hby sg19_26_4 (pc' := 31) (L' := #[sr o0, si 1, sr o2, si 1, si 3, si 1, si u2]) (S' := [(.int (u2.toInt8.toInt32)), (.int 1), (.ref o2)]) rfl ?_
 obtain ⟨cl5, Ar5, q5, S5, M5, H5, G5⟩ := id V2
 refine Home.wr (stB X2 hx hZ e2 Ar5 (j := (1 : Int32)) (inb_of S5 ⟨by decide, by decide⟩) rfl rfl (hb hby d19_31)) fun T5 h5 X5 e5 W5 => ?_
 have W5' := Wr.to W5 (congrArg Value.int (nar_byte_id (bnd_i2b u2) (by decide +kernel) (by decide +kernel)))
 have V5 : Arv Z h5 o2 k_o2 .byte (3 : Int32) [(.int (u1.toInt8.toInt32)), (.int (u2.toInt8.toInt32)), (.int 0)] (.int 0) := Arv.set Ar5 q5 S5 M5 H5 G5 (fits_byte_b (bnd_i2b u2) (by decide +kernel) (by decide +kernel)) W5' 1 rfl (Nat.le_of_ble_eq_true rfl)
 have O5 := O2.wr W5 g_o2
 have K5 : Keep h0 h5 ([o2] : List Addr) := Keep.wr K2 W5 (Or.inl (List.mem_of_getElem? (i := 0) rfl))
 have N5 := Fr.snoc X5 N2 g_o2
 show Home T5 (mkF m 32 #[sr o0, si 1, sr o2, si 1, si 3, si 1, si u2] [])
 refine Home.run X5 hx hby sg19_32_6 (pc' := 7) (L' := #[sr o0, si 2, sr o2, si 2, si 3, si 2, si u2]) (S' := [(.int 3), (.int 2)]) rfl ?_
 refine Home.go (fun _ => XS.icmpNo X5.here hx rfl (hb hby d19_7) rfl (tlt (by decide)).2.1) ?_
 refine Home.run X5 hx hby sg19_10_2 (pc' := 12) (L' := #[sr o0, si 2, sr o2, si 2, si 3, si 2, si u2]) (S' := [(.int 2), (.ref o0)]) rfl ?_
 have q6 := (q3.other W5 ne_o0_o2)
 obtain ⟨cl7, Ar7, q7, S7, M7, H7, G7⟩ := id q6
 have ib7 : ¬ ((2 : Int32) < 0 ∨ cl7.slots.size ≤ ((2 : Int32)).toNatClampNeg) := inb_of S7 ⟨by decide, by decide⟩
 refine Home.go (X5.caload hx (j := (2 : Int32)) (v := (.int u3)) (by rw [e5]; exact Ar7.1) (State.isArrayOf_alike hZ.alike Ar7.2.1) Ar7.2.2 ib7 (Has.at H7 ib7 rfl) rfl rfl (hb hby d19_12)) ?_
 refine Home.run X5 hx hby sg19_13_3 (pc' := 20) (L' := #[sr o0, si 2, sr o2, si 2, si 3, si 2, si u3]) (S' := [(.int 255), (.int u3)]) rfl ?_
 refine Home.go (fun _ => XS.icmpYes X5.here hx rfl (pc0 := 20) (pc' := 26) rfl (hb hby d19_20) rfl (flt (bnd_nlt (bnd_lit (255 : Int32)) bnd_u3 (by decide +kernel))).2.2.2 (by decide) (by decide)) ?_
 refine Home.run X5 hx hby sg19_26_4 (pc' := 31) (L' := #[sr o0, si 2, sr o2, si 2, si 3, si 2, si u3]) (S' := [(.int (u3.toInt8.toInt32)), (.int 2), (.ref o2)]) rfl ?_
 obtain ⟨cl8, Ar8, q8, S8, M8, H8, G8⟩ := id V5
 refine Home.wr (stB X5 hx hZ e5 Ar8 (j := (2 : Int32)) (inb_of S8 ⟨by decide, by decide⟩) rfl rfl (hb hby d19_31)) fun T8 h8 X8 e8 W8 => ?_
 have W8' := Wr.to W8 (congrArg Value.int (nar_byte_id (bnd_i2b u3) (by decide +kernel) (by decide +kernel)))
 have V8 : Arv Z h8 o2 k_o2 .byte (3 : Int32) [(.int (u1.toInt8.toInt32)), (.int (u2.toInt8.toInt32)), (.int (u3.toInt8.toInt32))] (.int 0) := Arv.set Ar8 q8 S8 M8 H8 G8 (fits_byte_b (bnd_i2b u3) (by decide +kernel) (by decide +kernel)) W8' 2 rfl (Nat.le_of_ble_eq_true rfl)
 have O8 := O5.wr W8 g_o2
 have K8 : Keep h0 h8 ([o2] : List Addr) := Keep.wr K5 W8 (Or.inl (List.mem_of_getElem? (i := 0) rfl))
 have N8 := Fr.snoc X8 N5 g_o2
 show Home T8 (mkF m 32 #[sr o0, si 2, sr o2, si 2, si 3, si 2, si u3] [])
 refine Home.run X8 hx hby sg19_32_6 (pc' := 7) (L' := #[sr o0, si 3, sr o2, si 3, si 3, si 3, si u3]) (S' := [(.int 3), (.int 3)]) rfl ?_
 refine Home.go (fun _ => XS.icmpYes X8.here hx rfl (pc0 := 7) (pc' := 44) rfl (hb hby d19_7) rfl (flt (by decide)).2.1 (by decide) (by decide)) ?_
 refine Home.run X8 hx hby sg19_44_1 (pc' := 46) (L' := #[sr o0, si 3, sr o2, si 3, si 3, si 3, si u3]) (S' := [(.int 3)]) rfl ?_
 exact Home.retI X8 hx hlk hret (hb hby d19_46) (by rw [show T8.heap = h8 from e8]; exact ⟨rfl, N8, K8, V8⟩) (by decide) (by decide)
theorem rm18_2 (l : Launch) (Z : State) (a0 : Array Value) (hw : HW a0 Z) (ws : List Jvm.Cond) (o0 : Addr) (k_o0 : ClassId) (u1 u2 u3 : Int32) (h0 : Heap) (n0 : Nat) (O0 : Old Z n0 h0) (V_o0 : Arv Z h0 o0 k_o0 .char (3 : Int32) [(.int u1), (.int u2), (.int u3)] (.int 0)) (bnd_u1 : ¬ u1 < (0 : Int32) ∧ ¬ (255 : Int32) < u1) (bnd_u2 : ¬ u2 < (0 : Int32) ∧ ¬ (255 : Int32) < u2) (bnd_u3 : ¬ u3 < (0 : Int32) ∧ ¬ (255 : Int32) < u3) :
    Con l Z (⟨"java/lang/StringUTF16", "compress", "([CII)[B"⟩ : MethodName) jdk_52_method_16_code 6 (some (.array .byte)) ws ({ frames := 1, cells := 1, slots := 3, locals := 18 } : Room) #[(.ref o0), (.int 0), (.int 3)] h0 (fun v h L => ∃ (b1 : Addr), ∃ (k1 : ClassId), v = some (.ref b1) ∧ Fr n0 L ∧ h0.size ≤ b1 ∧ Keep h0 h [] ∧ Arv Z h b1 k1 .byte (3 : Int32) [(.int (u1.toInt8.toInt32)), (.int (u2.toInt8.toInt32)), (.int (u3.toInt8.toInt32))] (.int 0)) := by
 refine own_body (plainFor_of_name own_pn5) (fun m => ef_rm18_2 m o0 (0 : Int32) (3 : Int32)) ?_
 intro p e s m below meth c s₁ hx hby hlk hml hret hZ hown hnm X0 e0
 have N0 := Fr.nil n0
 refine Home.run X0 hx hby sg18_0_1 (pc' := 1) (L' := #[sr o0, si 0, si 3, un, un, un]) (S' := [(.int 3)]) rfl ?_
 refine Home.na (own_newP (aty := .byte) X0 hx hZ (own_w21 hw) e0 (g := (mkF m 1 #[.val (.ref o0), .val (.int 0), .val (.int 3), .unset, .unset, .unset] [(.int 3)])) rfl (hb hby d18_1) rfl (by decide) (cap := 3) (by decide) (by decide) (by decide) (by decide)) fun T1 h1 k1 b1 g1 X1 e1 E1 A1 => ?_
 have g_b1 : n0 ≤ b1 := Nat.le_trans (Old.le O0) (Nat.le_of_eq g1.symm)
 have V1 : Arv Z h1 b1 k1 .byte (3 : Int32) [(.int 0), (.int 0), (.int 0)] (.int 0) := (Arv.new A1 (by decide)).pad (pad_rep [] (.int 0) 3)
 have O1 := O0.ext E1
 have K1 : Keep h0 h1 ([] : List Addr) := Keep.ext (Keep.refl h0 ([] : List Addr)) E1
 refine Home.run X1 hx hby sg18_3_6 (pc' := 9) (L' := #[sr o0, si 0, si 3, sr b1, un, un]) (S' := [(.int 3), (.int 0), (.ref b1), (.int 0), (.ref o0)]) rfl ?_
 have ne2 : o0 ≠ b1 := (Nat.ne_of_lt (Nat.lt_of_lt_of_le V_o0.lt (Nat.le_trans (Nat.le_refl _) (Nat.le_of_eq g1.symm))))
 refine Home.call (own_static X1 hx hZ hown (own_w85 hw) (own_w86 hw) (own_w83 hw) (own_w87 hw) (by decide) (rm19_2 l Z a0 hw [] o0 b1 k_o0 u1 u2 u3 k1 h1 n0 O1 (V_o0.keep K1 nin0) bnd_u1 V1 g_b1 ne2 bnd_u2 bnd_u3) e1 rfl (by rw [hml]; rfl) (argsL := [(.ref o0), (.int 0), (.ref b1), (.int 0), (.int 3)]) (rest := []) (lenOf own_pd15 rfl) rfl rfl (W := 0) (by exact hW0) (by decide) (by decide) (hb hby d18_9) (by decide) (by decide)) ?_
 rintro _ T3 L3 X3 ⟨rfl, N3q, K3q, P3_0⟩
 have O3 := Old.keep O1 K3q (allS g_b1 all0)
 have K3 : Keep h0 T3.heap ([] : List Addr) := Keep.trans K1 K3q (allS (Or.inr (Nat.le_trans (Nat.le_refl _) (Nat.le_of_eq g1.symm))) all0)
 have N3 := Fr.app N0 N3q
 refine Home.run X3 hx hby sg18_12_3 (pc' := 17) (L' := #[sr o0, si 0, si 3, sr b1, si 3, un]) (S' := [(.int 3), (.int 3)]) rfl ?_
 refine Home.go (fun _ => XS.icmpYes X3.here hx rfl (pc0 := 17) (pc' := 57) rfl (hb hby d18_17) rfl (teq (by decide)).1 (by decide) (by decide)) ?_
 refine Home.run X3 hx hby sg18_57_1 (pc' := 58) (L' := #[sr o0, si 0, si 3, sr b1, si 3, un]) (S' := [(.ref b1)]) rfl ?_
 exact Home.retR X3 hx hlk hret rfl rfl (hb hby d18_58) ⟨b1, k1, rfl, N3, (Nat.le_trans (Nat.le_refl _) (Nat.le_of_eq g1.symm)), K3, P3_0⟩ (by decide) (by decide)
theorem rm20_2 (l : Launch) (Z : State) (a0 : Array Value) (hw : HW a0 Z) (ws : List Jvm.Cond) (o0 : Addr) (k_o0 : ClassId) (u1 u2 u3 : Int32) (h0 : Heap) (n0 : Nat) (O0 : Old Z n0 h0) (V_o0 : Arv Z h0 o0 k_o0 .byte (3 : Int32) [(.int u1), (.int u2), (.int u3)] (.int 0)) :
    Con l Z (⟨"java/lang/StringUTF16", "coderFromArrayLen", "([BI)B"⟩ : MethodName) jdk_52_method_15_code 2 (some .byte) ws ({ frames := 0, cells := 0, slots := 0, locals := 0 } : Room) #[(.ref o0), (.int 3)] h0 (Pur (some (.int 0)) h0) := by
 refine own_body (plainFor_of_name own_pn5) (fun m => ef_rm20_2 m o0 (3 : Int32)) ?_
 intro p e s m below meth c s₁ hx hby hlk hml hret hZ hown hnm X0 e0
 have N0 := Fr.nil n0
 refine Home.run X0 hx hby sg20_0_2 (pc' := 2) (L' := #[sr o0, si 3]) (S' := [(.ref o0), (.int 3)]) rfl ?_
 obtain ⟨cl1, Ar1, q1, S1, M1, H1, G1⟩ := id V_o0
 refine Home.go (own_alen X0 hx hZ e0 Ar1 S1 M1 rfl rfl (hb hby d20_2)) ?_
 refine Home.run X0 hx hby sg20_3_4 (pc' := 8) (L' := #[sr o0, si 3]) (S' := [(.int 0)]) rfl ?_
 exact Home.retN X0 hx hlk (t := .byte) hret (by simp) (hb hby d20_8) ⟨congrArg some (congrArg Value.int (by first | rfl | exact nar_i2c _ | exact nar_i2b _)), rfl, e0⟩ (by decide) (by decide)
theorem rm3_3 (l : Launch) (Z : State) (a0 : Array Value) (hw : HW a0 Z) (ws : List Jvm.Cond) (o0 o1 : Addr) (sv_COMPACT_STRINGS : Int32) (k_o1 : ClassId) (u1 u2 u3 : Int32) (h0 : Heap) (n0 : Nat) (O0 : Old Z n0 h0) (S_COMPACT_STRINGS : Sta Z Z.heap "java/lang/String" "COMPACT_STRINGS" "Z" (.int sv_COMPACT_STRINGS)) (hCS : ¬ (sv_COMPACT_STRINGS = (0 : Int32))) (V_o1 : Arv Z h0 o1 k_o1 .char (3 : Int32) [(.int u1), (.int u2), (.int u3)] (.int 0)) (bnd_u1 : ¬ u1 < (0 : Int32) ∧ ¬ (255 : Int32) < u1) (bnd_u2 : ¬ u2 < (0 : Int32) ∧ ¬ (255 : Int32) < u2) (bnd_u3 : ¬ u3 < (0 : Int32) ∧ ¬ (255 : Int32) < u3) (E_o0 : Exa Z h0 o0 "java/lang/String") (F_coder_o0 : Fld Z h0 o0 "java/lang/String" "coder" "B" (.int 0)) (g_o0 : n0 ≤ o0) (F_value_o0 : Fld Z h0 o0 "java/lang/String" "value" "[B" .null) :
    Con l Z (⟨"java/lang/String", "<init>", "([CIILjava/lang/Void;)V"⟩ : MethodName) jdk_42_method_149_code 6 none ws ({ frames := 2, cells := 1, slots := 3, locals := 35 } : Room) #[(.ref o0), (.ref o1), (.int 0), (.int 3), .null] h0 (fun v h L => ∃ (b1_3 : Addr), ∃ (k1_3 : ClassId), v = none ∧ Fr n0 L ∧ h0.size ≤ b1_3 ∧ Keep h0 h [o0] ∧ Exa Z h o0 "java/lang/String" ∧ Fld Z h o0 "java/lang/String" "coder" "B" (.int 0) ∧ Fld Z h o0 "java/lang/String" "value" "[B" (.ref b1_3) ∧ Arv Z h b1_3 k1_3 .byte (3 : Int32) [(.int (u1.toInt8.toInt32)), (.int (u2.toInt8.toInt32)), (.int (u3.toInt8.toInt32))] (.int 0)) := by
 refine own_body (plainFor_of_name own_pn0) (fun m => ef_rm3_3 m o0 o1 (0 : Int32) (3 : Int32)) ?_
 intro p e s m below meth c s₁ hx hby hlk hml hret hZ hown hnm X0 e0
 have N0 := Fr.nil n0
 refine Home.run X0 hx hby sg3_0_1 (pc' := 1) (L' := #[sr o0, sr o1, si 0, si 3, .val .null, un]) (S' := [(.ref o0)]) rfl ?_
 refine Home.st (initO X0 hx hZ hown (own_w17 hw) (own_w18 hw) (own_w19 hw) e0 rfl (by rw [hml]; rfl) rfl (hb hby d3_1) (by decide) (W := 0) (by exact hW0) (by decide)) fun T1 X1 e1 => ?_
 refine Home.run X1 hx hby sg3_4_1 (pc' := 5) (L' := #[sr o0, sr o1, si 0, si 3, .val .null, un]) (S' := [(.int 3)]) rfl ?_
 refine Home.go (fun _ => XS.ifYes X1.here hx rfl (pc0 := 5) (pc' := 27) rfl (hb hby d3_5) rfl ((if0 _ _).trans (feq (by decide)).2) (by decide) (by decide)) ?_
 refine Home.st (getS2 X1 hx hZ hown (host := "") (Or.inl (own_w42 hw)) Via.refl e1 (S_COMPACT_STRINGS.ext O0.2) rfl (hb hby d3_27)) fun T2 X2 e2 => ?_
 refine Home.go (fun _ => XS.ifNo X2.here hx rfl (hb hby d3_30) rfl ((if0 _ _).trans (feq hCS).1)) ?_
 refine Home.run X2 hx hby sg3_33_3 (pc' := 36) (L' := #[sr o0, sr o1, si 0, si 3, .val .null, un]) (S' := [(.int 3), (.int 0), (.ref o1)]) rfl ?_
 refine Home.call (own_static X2 hx hZ hown (own_w81 hw) (own_w82 hw) (own_w83 hw) (own_w84 hw) (by decide) (rm18_2 l Z a0 hw [] o1 k_o1 u1 u2 u3 h0 n0 O0 V_o1 bnd_u1 bnd_u2 bnd_u3) e2 rfl (by rw [hml]; rfl) (argsL := [(.ref o1), (.int 0), (.int 3)]) (rest := []) (lenOf own_pd16 rfl) rfl rfl (W := 0) (by exact hW0) (by decide) (by decide) (hb hby d3_36) (by decide) (by decide)) ?_
 rintro _ T3 L3 X3 ⟨b1_3, k1_3, rfl, N3q, sz_b1_3, K3q, P3_0⟩
 have g_b1_3 : n0 ≤ b1_3 := Nat.le_trans (Old.le O0) sz_b1_3
 have O3 := Old.keep O0 K3q all0
 have K3 : Keep h0 T3.heap ([o0] : List Addr) := Keep.trans (Keep.refl h0 ([o0] : List Addr)) K3q all0
 have N3 := Fr.app N0 N3q
 refine Home.run X3 hx hby sg3_39_4 (pc' := 45) (L' := #[sr o0, sr o1, si 0, si 3, .val .null, sr b1_3]) (S' := [(.int 3), (.ref b1_3), (.ref o0)]) rfl ?_
 refine Home.st (own_pure (own_static X3 hx hZ hown (own_w88 hw) (own_w89 hw) (own_w83 hw) (own_w90 hw) (by decide) (rm20_2 l Z a0 hw [] b1_3 k1_3 (u1.toInt8.toInt32) (u2.toInt8.toInt32) (u3.toInt8.toInt32) T3.heap n0 O3 P3_0) rfl rfl (by rw [hml]; rfl) (argsL := [(.ref b1_3), (.int 3)]) (rest := [(.ref o0)]) (lenOf own_pd17 rfl) rfl rfl (W := 1) (by exact hW0) (by decide) (by decide) (hb hby d3_45) (by decide) (by decide))) fun T4 X4 e4 => ?_
 show Home T4 (mkF m 48 #[sr o0, sr o1, si 0, si 3, .val .null, sr b1_3] [(.int 0), (.ref o0)])
 have q5 := (F_coder_o0.keep K3q nin0)
 refine Home.wr (putFN X4 hx hZ hown (own_w27 hw) Via.refl e4 q5 (E_o0.keep K3) (Or.inr ⟨(own_w23 hw), rfl, hnm⟩) (own_w7 hw) (ty := .byte) (v := (.int 0)) (v' := (.int 0)) (by decide) rfl rfl rfl rfl (hb hby d3_48)) fun T6 h6 X6 e6 W6 => ?_
 have Fw6 := q5.same W6
 have O6 := O3.wr W6 g_o0
 have K6 : Keep h0 h6 ([o0] : List Addr) := Keep.wr K3 W6 (Or.inl (List.mem_of_getElem? (i := 0) rfl))
 have N6 := Fr.snoc X6 N3 g_o0
 refine Home.run X6 hx hby sg3_51_2 (pc' := 54) (L' := #[sr o0, sr o1, si 0, si 3, .val .null, sr b1_3]) (S' := [(.ref b1_3), (.ref o0)]) rfl ?_
 have q7 := ((F_value_o0.keep K3q nin0).other W6 (Or.inr (slot_ne (Or.inr (own_w22 hw)) (Or.inr (own_w23 hw)) (by decide) (t := (.array .byte)) (t' := .byte) (by decide) (by decide))))
 refine Home.wr (putF X6 hx hZ hown (host := "") (Or.inl (own_w26 hw)) Via.refl e6 q7 (E_o0.keep K6) (Or.inr ⟨(own_w22 hw), rfl, hnm⟩) (own_w7 hw) (ty := (.array .byte)) (by decide) rfl rfl rfl rfl (hb hby d3_54)) fun T8 h8 X8 e8 W8 => ?_
 have Fw8 := q7.same W8
 have O8 := O6.wr W8 g_o0
 have K8 : Keep h0 h8 ([o0] : List Addr) := Keep.wr K6 W8 (Or.inl (List.mem_of_getElem? (i := 0) rfl))
 have N8 := Fr.snoc X8 N6 g_o0
 have q9 := (Fw6.other W8 (Or.inr (slot_ne (Or.inr (own_w23 hw)) (Or.inr (own_w22 hw)) (by decide) (t := .byte) (t' := (.array .byte)) (by decide) (by decide))))
 have ne10 : b1_3 ≠ o0 := (Ne.symm (Nat.ne_of_lt (Nat.lt_of_lt_of_le E_o0.lt (Nat.le_trans (Nat.le_refl _) sz_b1_3))))
 have q11 := ((P3_0.other W6 ne10).other W8 ne10)
 exact Home.ret0 X8 hx hlk hret (hb hby d3_57) (by rw [show T8.heap = h8 from e8]; exact ⟨b1_3, k1_3, rfl, N8, (Nat.le_trans (Nat.le_refl _) sz_b1_3), K8, (E_o0.keep K8), q9, Fw8, q11⟩) (by decide) (by decide)
theorem rm2_3 (l : Launch) (Z : State) (a0 : Array Value) (hw : HW a0 Z) (ws : List Jvm.Cond) (o0 o1 : Addr) (k_o1 : ClassId) (u1 u2 u3 sv_COMPACT_STRINGS : Int32) (h0 : Heap) (n0 : Nat) (O0 : Old Z n0 h0) (V_o1 : Arv Z h0 o1 k_o1 .char (3 : Int32) [(.int u1), (.int u2), (.int u3)] (.int 0)) (S_COMPACT_STRINGS : Sta Z Z.heap "java/lang/String" "COMPACT_STRINGS" "Z" (.int sv_COMPACT_STRINGS)) (E_o0 : Exa Z h0 o0 "java/lang/String") (F_coder_o0 : Fld Z h0 o0 "java/lang/String" "coder" "B" (.int 0)) (F_value_o0 : Fld Z h0 o0 "java/lang/String" "value" "[B" .null) (bnd_u1 : ¬ u1 < (0 : Int32) ∧ ¬ (255 : Int32) < u1) (bnd_u2 : ¬ u2 < (0 : Int32) ∧ ¬ (255 : Int32) < u2) (bnd_u3 : ¬ u3 < (0 : Int32) ∧ ¬ (255 : Int32) < u3) (g_o0 : n0 ≤ o0) (hCS : ¬ (sv_COMPACT_STRINGS = (0 : Int32))) :
    Con l Z (⟨"java/lang/String", "<init>", "([C)V"⟩ : MethodName) jdk_42_method_3_code 2 none ws ({ frames := 3, cells := 1, slots := 3, locals := 52 } : Room) #[(.ref o0), (.ref o1)] h0 (fun v h L => ∃ (b1_3_2 : Addr), ∃ (k1_3_2 : ClassId), v = none ∧ Fr n0 L ∧ h0.size ≤ b1_3_2 ∧ Keep h0 h [o0] ∧ Exa Z h o0 "java/lang/String" ∧ Fld Z h o0 "java/lang/String" "coder" "B" (.int 0) ∧ Fld Z h o0 "java/lang/String" "value" "[B" (.ref b1_3_2) ∧ Arv Z h b1_3_2 k1_3_2 .byte (3 : Int32) [(.int (u1.toInt8.toInt32)), (.int (u2.toInt8.toInt32)), (.int (u3.toInt8.toInt32))] (.int 0)) := by
 refine own_body (plainFor_of_name own_pn0) (fun m => ef_rm2_3 m o0 o1) ?_
 intro p e s m below meth c s₁ hx hby hlk hml hret hZ hown hnm X0 e0
 have N0 := Fr.nil n0
 refine Home.run X0 hx hby sg2_0_4 (pc' := 4) (L' := #[sr o0, sr o1]) (S' := [(.ref o1), (.int 0), (.ref o1), (.ref o0)]) rfl ?_
 obtain ⟨cl1, Ar1, q1, S1, M1, H1, G1⟩ := id V_o1
 refine Home.go (own_alen X0 hx hZ e0 Ar1 S1 M1 rfl rfl (hb hby d2_4)) ?_
 refine Home.run X0 hx hby sg2_5_1 (pc' := 6) (L' := #[sr o0, sr o1]) (S' := [.null, (.int 3), (.int 0), (.ref o1), (.ref o0)]) rfl ?_
 refine Home.call (own_special X0 hx hZ hown rfl (own_w13 hw) (own_w14 hw) (own_w8 hw) (own_w16 hw) (by decide) (rm3_3 l Z a0 hw [] o0 o1 sv_COMPACT_STRINGS k_o1 u1 u2 u3 h0 n0 O0 S_COMPACT_STRINGS hCS V_o1 bnd_u1 bnd_u2 bnd_u3 E_o0 F_coder_o0 g_o0 F_value_o0) e0 rfl (by rw [hml]; rfl) (a := o0) (argsL := [(.ref o1), (.int 0), (.int 3), .null]) (rest := []) (lenOf own_pd0 rfl) rfl rfl (W := 0) (by exact hW0) (by decide) (by decide) (hb hby d2_6) (by decide) (by decide)) ?_
 rintro _ T2 L2 X2 ⟨b1_3_2, k1_3_2, rfl, N2q, sz_b1_3_2, K2q, P2_0, P2_1, P2_2, P2_3⟩
 have g_b1_3_2 : n0 ≤ b1_3_2 := Nat.le_trans (Old.le O0) sz_b1_3_2
 have O2 := Old.keep O0 K2q (allS g_o0 all0)
 have K2 : Keep h0 T2.heap ([o0] : List Addr) := Keep.trans (Keep.refl h0 ([o0] : List Addr)) K2q (allS (Or.inl (List.mem_of_getElem? (i := 0) rfl)) all0)
 have N2 := Fr.app N0 N2q
 exact Home.ret0 X2 hx hlk hret (hb hby d2_9) ⟨b1_3_2, k1_3_2, rfl, N2, (Nat.le_trans (Nat.le_refl _) sz_b1_3_2), K2, P2_0, P2_1, P2_2, P2_3⟩ (by decide) (by decide)
theorem rm1_3 (l : Launch) (Z : State) (a0 : Array Value) (hw : HW a0 Z) (ws : List Jvm.Cond) (i1 i2 i3 i4 i5 i6 sv_COMPACT_STRINGS : Int32) (sv_SIOOBE_FORMATTER : Value) (h0 : Heap) (n0 : Nat) (O0 : Old Z n0 h0) (bnd_i1 : ¬ i1 < (0 : Int32) ∧ ¬ (57 : Int32) < i1) (bnd_i2 : ¬ i2 < (0 : Int32) ∧ ¬ (57 : Int32) < i2) (bnd_i3 : ¬ i3 < (0 : Int32) ∧ ¬ (57 : Int32) < i3) (bnd_i4 : ¬ i4 < (0 : Int32) ∧ ¬ (57 : Int32) < i4) (bnd_i5 : ¬ i5 < (0 : Int32) ∧ ¬ (57 : Int32) < i5) (bnd_i6 : ¬ i6 < (0 : Int32) ∧ ¬ (57 : Int32) < i6) (S_COMPACT_STRINGS : Sta Z Z.heap "java/lang/String" "COMPACT_STRINGS" "Z" (.int sv_COMPACT_STRINGS)) (S_SIOOBE_FORMATTER : Sta Z Z.heap "jdk/internal/util/Preconditions" "SIOOBE_FORMATTER" "Ljava/util/function/BiFunction;" sv_SIOOBE_FORMATTER) (hCS : ¬ (sv_COMPACT_STRINGS = (0 : Int32))) (isr_sv_SIOOBE_FORMATTER : sv_SIOOBE_FORMATTER.isRef = true) :
    ConW l Z own_EL ([] : List Addr) true (⟨"com/example/tryst/tryst/encoding/Base58DecodePinLaw", "build", "(IIIIIII)Ljava/lang/String;"⟩ : MethodName) method_4_code 7 (some (.object "java/lang/String")) ws ({ frames := 5, cells := 9, slots := 718, locals := 70 } : Room) #[(.int 3), (.int i1), (.int i2), (.int i3), (.int i4), (.int i5), (.int i6)] h0 (fun v h L => ∃ (b1 : Addr), ∃ (b1_3_2_19 : Addr), ∃ (k1_3_2_19 : ClassId), v = some (.ref b1) ∧ Fr n0 L ∧ h0.size ≤ b1 ∧ h0.size ≤ b1_3_2_19 ∧ Keep h0 h [] ∧ Exa Z h b1 "java/lang/String" ∧ Fld Z h b1 "java/lang/String" "value" "[B" (.ref b1_3_2_19) ∧ Fld Z h b1 "java/lang/String" "coder" "B" (.int 0) ∧ Arv Z h b1_3_2_19 k1_3_2_19 .byte (3 : Int32) [(.int ((nar .char ((own_at own_TI0 i1) &&& (255 : Int32))).toInt8.toInt32)), (.int ((nar .char ((own_at own_TI0 i2) &&& (255 : Int32))).toInt8.toInt32)), (.int ((nar .char ((own_at own_TI0 i3) &&& (255 : Int32))).toInt8.toInt32))] (.int 0)) := by
 refine own_bodyW (plainFor_of_name own_pn1) (fun m => ef_rm1_3 m (3 : Int32) i1 i2 i3 i4 i5 i6) ?_
 intro p e s m below meth c s₁ hx hby hlk hml hret hZ hown hnm X0 e0 Cd0
 have N0 := Fr.nil n0
 refine Home.run X0 hx hby sg1_0_1 (pc' := 1) (L' := #[si 3, si i1, si i2, si i3, si i4, si i5, si i6]) (S' := [(.int 3)]) rfl ?_
 refine Home.go (fun _ => XS.ifYes X0.here hx rfl (pc0 := 1) (pc' := 15) rfl (hb hby d1_1) rfl ((if0 _ _).trans (feq (by decide)).2) (by decide) (by decide)) ?_
 refine Home.run X0 hx hby sg1_15_2 (pc' := 17) (L' := #[si 3, si i1, si i2, si i3, si i4, si i5, si i6]) (S' := [(.int 1), (.int 3)]) rfl ?_
 refine Home.go (fun _ => XS.icmpYes X0.here hx rfl (pc0 := 17) (pc' := 38) rfl (hb hby d1_17) rfl (feq (by decide)).2 (by decide) (by decide)) ?_
 refine Home.run X0 hx hby sg1_38_2 (pc' := 40) (L' := #[si 3, si i1, si i2, si i3, si i4, si i5, si i6]) (S' := [(.int 2), (.int 3)]) rfl ?_
 refine Home.go (fun _ => XS.icmpYes X0.here hx rfl (pc0 := 40) (pc' := 68) rfl (hb hby d1_40) rfl (feq (by decide)).2 (by decide) (by decide)) ?_
 refine Home.run X0 hx hby sg1_68_2 (pc' := 70) (L' := #[si 3, si i1, si i2, si i3, si i4, si i5, si i6]) (S' := [(.int 3), (.int 3)]) rfl ?_
 refine Home.go (fun _ => XS.icmpNo X0.here hx rfl (hb hby d1_70) rfl (teq (by decide)).2) ?_
 refine Home.nw (own_newO X0 hx hZ hown (own_w6 hw) (own_w7 hw) (own_w8 hw) e0 rfl (hb hby d1_73) (by decide) (by decide)) fun T1 h1 b1 g1 X1 e1 E1 A1 D1 => ?_
 have g_b1 : n0 ≤ b1 := Nat.le_trans (Old.le O0) (Nat.le_of_eq g1.symm)
 have F_value_b1 : Fld Z h1 b1 "java/lang/String" "value" "[B" .null := D1 (Or.inr (own_w22 hw)) (ty := (.array .byte)) (by decide)
 have F_coder_b1 : Fld Z h1 b1 "java/lang/String" "coder" "B" (.int 0) := D1 (Or.inr (own_w23 hw)) (ty := .byte) (by decide)
 have O1 := O0.ext E1
 have K1 : Keep h0 h1 ([] : List Addr) := Keep.ext (Keep.refl h0 ([] : List Addr)) E1
 have Cd1 := Cold.add Cd0 E1 (Nat.le_of_eq g1.symm) A1.lt
 show Home T1 (mkF m 76 #[si 3, si i1, si i2, si i3, si i4, si i5, si i6] [(.ref b1)])
 refine Home.run X1 hx hby sg1_76_2 (pc' := 78) (L' := #[si 3, si i1, si i2, si i3, si i4, si i5, si i6]) (S' := [(.int 3), (.ref b1), (.ref b1)]) rfl ?_
 refine Home.na (own_newP (aty := .char) X1 hx hZ (own_w9 hw) e1 (g := (mkF m 78 #[.val (.int 3), .val (.int i1), .val (.int i2), .val (.int i3), .val (.int i4), .val (.int i5), .val (.int i6)] [(.int 3), (.ref b1), (.ref b1)])) rfl (hb hby d1_78) rfl (by decide) (cap := 3) (by decide) (by decide) (by decide) (by decide)) fun T2 h2 k2 b2 g2 X2 e2 E2 A2 => ?_
 have g_b2 : n0 ≤ b2 := Nat.le_trans (Old.le O1) (Nat.le_of_eq g2.symm)
 have V2 : Arv Z h2 b2 k2 .char (3 : Int32) [(.int 0), (.int 0), (.int 0)] (.int 0) := (Arv.new A2 (by decide)).pad (pad_rep [] (.int 0) 3)
 have O2 := O1.ext E2
 have K2 : Keep h0 h2 ([] : List Addr) := Keep.ext K1 E2
 have Cd2 := Cold.ext Cd1 E2
 refine Home.run X2 hx hby sg1_80_3 (pc' := 83) (L' := #[si 3, si i1, si i2, si i3, si i4, si i5, si i6]) (S' := [(.int i1), (.int 0), (.ref b2), (.ref b2), (.ref b1), (.ref b1)]) rfl ?_
 refine Home.call (own_staticW X2 hx hZ hown (own_hEL hw) Cd2 all0 (own_w55 hw) (own_w56 hw) (own_w4 hw) (own_w57 hw) (by decide) (rm12_0 l Z a0 hw [] i1 sv_COMPACT_STRINGS sv_SIOOBE_FORMATTER h2 n0 O2 bnd_i1 S_COMPACT_STRINGS S_SIOOBE_FORMATTER hCS isr_sv_SIOOBE_FORMATTER) e2 rfl (by rw [hml]; rfl) (argsL := [(.int i1)]) (rest := [(.int 0), (.ref b2), (.ref b2), (.ref b1), (.ref b1)]) (lenOf own_pd14 rfl) rfl rfl (W := 5) (by exact hW0) (by decide) (by decide) (hb hby d1_83) (by decide) (by decide)) ?_
 rintro _ T3 L3 X3 ⟨⟨rfl, N3q, K3q⟩, hZ, hown, Cd3, sR3⟩
 have O3 := Old.keep O2 K3q all0
 have K3 : Keep h0 T3.heap ([] : List Addr) := Keep.trans K2 K3q all0
 have N3 := Fr.app N0 N3q
 show Home T3 (mkF m 86 #[si 3, si i1, si i2, si i3, si i4, si i5, si i6] [(.int (nar .char ((own_at own_TI0 i1) &&& (255 : Int32)))), (.int 0), (.ref b2), (.ref b2), (.ref b1), (.ref b1)])
 obtain ⟨r4, hr4⟩ : ∃ z, z = (nar .char ((own_at own_TI0 i1) &&& (255 : Int32))) := ⟨_, rfl⟩
 rw [← hr4]
 have br4 : ¬ r4 < (0 : Int32) ∧ ¬ (255 : Int32) < r4 := by rw [hr4]; rw [nar_char_id (bnd_and (own_at own_TI0 i1) (255 : Int32) (by decide)) (by decide +kernel) (by decide +kernel)]; exact (bnd_and (own_at own_TI0 i1) (255 : Int32) (by decide))
 have q5 := (V2.keep K3q nin0)
 obtain ⟨cl6, Ar6, q6, S6, M6, H6, G6⟩ := id q5
 refine Home.wr (stC X3 hx hZ rfl Ar6 (j := (0 : Int32)) (inb_of S6 ⟨by decide, by decide⟩) rfl rfl (hb hby d1_86)) fun T6 h6 X6 e6 W6 => ?_
 have W6' := Wr.to W6 (congrArg Value.int (nar_char_id br4 (by decide +kernel) (by decide +kernel)))
 have V6 : Arv Z h6 b2 k2 .char (3 : Int32) [(.int r4), (.int 0), (.int 0)] (.int 0) := Arv.set Ar6 q6 S6 M6 H6 G6 (fits_char_b br4 (by decide +kernel) (by decide +kernel)) W6' 0 rfl (Nat.le_of_ble_eq_true rfl)
 have O6 := O3.wr W6 g_b2
 have K6 : Keep h0 h6 ([] : List Addr) := Keep.wr K3 W6 (Or.inr (Nat.le_trans E1.1 (Nat.le_of_eq g2.symm)))
 have Cd6 := Cold.wr Cd3 W6 (Safe.arv hZ.alike q5 (by simp))
 have N6 := Fr.snoc X6 N3 g_b2
 refine Home.run X6 hx hby sg1_87_3 (pc' := 90) (L' := #[si 3, si i1, si i2, si i3, si i4, si i5, si i6]) (S' := [(.int i2), (.int 1), (.ref b2), (.ref b2), (.ref b1), (.ref b1)]) rfl ?_
 refine Home.call (own_staticW X6 hx hZ hown (own_hEL hw) Cd6 all0 (own_w55 hw) (own_w56 hw) (own_w4 hw) (own_w57 hw) (by decide) (rm12_0 l Z a0 hw [] i2 sv_COMPACT_STRINGS sv_SIOOBE_FORMATTER h6 n0 O6 bnd_i2 S_COMPACT_STRINGS S_SIOOBE_FORMATTER hCS isr_sv_SIOOBE_FORMATTER) e6 rfl (by rw [hml]; rfl) (argsL := [(.int i2)]) (rest := [(.int 1), (.ref b2), (.ref b2), (.ref b1), (.ref b1)]) (lenOf own_pd14 rfl) rfl rfl (W := 5) (by exact hW0) (by decide) (by decide) (hb hby d1_90) (by decide) (by decide)) ?_
 rintro _ T7 L7 X7 ⟨⟨rfl, N7q, K7q⟩, hZ, hown, Cd7, sR7⟩
 have O7 := Old.keep O6 K7q all0
 have K7 : Keep h0 T7.heap ([] : List Addr) := Keep.trans K6 K7q all0
 have N7 := Fr.app N6 N7q
 show Home T7 (mkF m 93 #[si 3, si i1, si i2, si i3, si i4, si i5, si i6] [(.int (nar .char ((own_at own_TI0 i2) &&& (255 : Int32)))), (.int 1), (.ref b2), (.ref b2), (.ref b1), (.ref b1)])
 obtain ⟨r8, hr8⟩ : ∃ z, z = (nar .char ((own_at own_TI0 i2) &&& (255 : Int32))) := ⟨_, rfl⟩
 rw [← hr8]
 have br8 : ¬ r8 < (0 : Int32) ∧ ¬ (255 : Int32) < r8 := by rw [hr8]; rw [nar_char_id (bnd_and (own_at own_TI0 i2) (255 : Int32) (by decide)) (by decide +kernel) (by decide +kernel)]; exact (bnd_and (own_at own_TI0 i2) (255 : Int32) (by decide))
 have q9 := (V6.keep K7q nin0)
 obtain ⟨cl10, Ar10, q10, S10, M10, H10, G10⟩ := id q9
 refine Home.wr (stC X7 hx hZ rfl Ar10 (j := (1 : Int32)) (inb_of S10 ⟨by decide, by decide⟩) rfl rfl (hb hby d1_93)) fun T10 h10 X10 e10 W10 => ?_
 have W10' := Wr.to W10 (congrArg Value.int (nar_char_id br8 (by decide +kernel) (by decide +kernel)))
 have V10 : Arv Z h10 b2 k2 .char (3 : Int32) [(.int r4), (.int r8), (.int 0)] (.int 0) := Arv.set Ar10 q10 S10 M10 H10 G10 (fits_char_b br8 (by decide +kernel) (by decide +kernel)) W10' 1 rfl (Nat.le_of_ble_eq_true rfl)
 have O10 := O7.wr W10 g_b2
 have K10 : Keep h0 h10 ([] : List Addr) := Keep.wr K7 W10 (Or.inr (Nat.le_trans E1.1 (Nat.le_of_eq g2.symm)))
 have Cd10 := Cold.wr Cd7 W10 (Safe.arv hZ.alike q9 (by simp))
 have N10 := Fr.snoc X10 N7 g_b2
 refine Home.run X10 hx hby sg1_94_3 (pc' := 97) (L' := #[si 3, si i1, si i2, si i3, si i4, si i5, si i6]) (S' := [(.int i3), (.int 2), (.ref b2), (.ref b2), (.ref b1), (.ref b1)]) rfl ?_
 refine Home.call (own_staticW X10 hx hZ hown (own_hEL hw) Cd10 all0 (own_w55 hw) (own_w56 hw) (own_w4 hw) (own_w57 hw) (by decide) (rm12_0 l Z a0 hw [] i3 sv_COMPACT_STRINGS sv_SIOOBE_FORMATTER h10 n0 O10 bnd_i3 S_COMPACT_STRINGS S_SIOOBE_FORMATTER hCS isr_sv_SIOOBE_FORMATTER) e10 rfl (by rw [hml]; rfl) (argsL := [(.int i3)]) (rest := [(.int 2), (.ref b2), (.ref b2), (.ref b1), (.ref b1)]) (lenOf own_pd14 rfl) rfl rfl (W := 5) (by exact hW0) (by decide) (by decide) (hb hby d1_97) (by decide) (by decide)) ?_
 rintro _ T11 L11 X11 ⟨⟨rfl, N11q, K11q⟩, hZ, hown, Cd11, sR11⟩
 have O11 := Old.keep O10 K11q all0
 have K11 : Keep h0 T11.heap ([] : List Addr) := Keep.trans K10 K11q all0
 have N11 := Fr.app N10 N11q
 show Home T11 (mkF m 100 #[si 3, si i1, si i2, si i3, si i4, si i5, si i6] [(.int (nar .char ((own_at own_TI0 i3) &&& (255 : Int32)))), (.int 2), (.ref b2), (.ref b2), (.ref b1), (.ref b1)])
 obtain ⟨r12, hr12⟩ : ∃ z, z = (nar .char ((own_at own_TI0 i3) &&& (255 : Int32))) := ⟨_, rfl⟩
 rw [← hr12]
 have br12 : ¬ r12 < (0 : Int32) ∧ ¬ (255 : Int32) < r12 := by rw [hr12]; rw [nar_char_id (bnd_and (own_at own_TI0 i3) (255 : Int32) (by decide)) (by decide +kernel) (by decide +kernel)]; exact (bnd_and (own_at own_TI0 i3) (255 : Int32) (by decide))
 have q13 := (V10.keep K11q nin0)
 obtain ⟨cl14, Ar14, q14, S14, M14, H14, G14⟩ := id q13
 refine Home.wr (stC X11 hx hZ rfl Ar14 (j := (2 : Int32)) (inb_of S14 ⟨by decide, by decide⟩) rfl rfl (hb hby d1_100)) fun T14 h14 X14 e14 W14 => ?_
 have W14' := Wr.to W14 (congrArg Value.int (nar_char_id br12 (by decide +kernel) (by decide +kernel)))
 have V14 : Arv Z h14 b2 k2 .char (3 : Int32) [(.int r4), (.int r8), (.int r12)] (.int 0) := Arv.set Ar14 q14 S14 M14 H14 G14 (fits_char_b br12 (by decide +kernel) (by decide +kernel)) W14' 2 rfl (Nat.le_of_ble_eq_true rfl)
 have O14 := O11.wr W14 g_b2
 have K14 : Keep h0 h14 ([] : List Addr) := Keep.wr K11 W14 (Or.inr (Nat.le_trans E1.1 (Nat.le_of_eq g2.symm)))
 have Cd14 := Cold.wr Cd11 W14 (Safe.arv hZ.alike q13 (by simp))
 have N14 := Fr.snoc X14 N11 g_b2
 have q15 := (((((((A1.ext E2).keep K3q).wr W6).keep K7q).wr W10).keep K11q).wr W14)
 have ne16 : b1 ≠ b2 := (Nat.ne_of_lt (Nat.lt_of_lt_of_le A1.lt (Nat.le_trans (Nat.le_refl _) (Nat.le_of_eq g2.symm))))
 have q17 := (((((((F_coder_b1.ext E2).keep K3q nin0).other W6 (Or.inl ne16)).keep K7q nin0).other W10 (Or.inl ne16)).keep K11q nin0).other W14 (Or.inl ne16))
 have q18 := (((((((F_value_b1.ext E2).keep K3q nin0).other W6 (Or.inl ne16)).keep K7q nin0).other W10 (Or.inl ne16)).keep K11q nin0).other W14 (Or.inl ne16))
 refine Home.call (own_special X14 hx hZ hown rfl (own_w10 hw) (own_w11 hw) (own_w8 hw) (own_w12 hw) (by decide) (rm2_3 l Z a0 hw [] b1 b2 k2 r4 r8 r12 sv_COMPACT_STRINGS h14 n0 O14 V14 S_COMPACT_STRINGS q15 q17 q18 br4 br8 br12 g_b1 hCS) e14 rfl (by rw [hml]; rfl) (a := b1) (argsL := [(.ref b2)]) (rest := [(.ref b1)]) (lenOf own_pd1 rfl) rfl rfl (W := 1) (by exact hW0) (by decide) (by decide) (hb hby d1_101) (by decide) (by decide)) ?_
 rintro _ T19 L19 X19 ⟨b1_3_2_19, k1_3_2_19, rfl, N19q, sz_b1_3_2_19, K19q, P19_0, P19_1, P19_2, P19_3⟩
 have Cd19 := Cold.keep Cd14 K19q (allS (Cold.safe Cd14 (List.mem_of_getElem? (i := 0) rfl)) all0)
 have Cd19b1_3_2_19 := Cold.put Cd19 ⟨Safe.keep K19q (allS (Cold.safe Cd14 (List.mem_of_getElem? (i := 0) rfl)) all0) Cd14.2.1.1 (Safe.new sz_b1_3_2_19), P19_3.lt⟩
 have g_b1_3_2_19 : n0 ≤ b1_3_2_19 := Nat.le_trans (Old.le O14) sz_b1_3_2_19
 have O19 := Old.keep O14 K19q (allS g_b1 all0)
 have K19 : Keep h0 T19.heap ([] : List Addr) := Keep.trans K14 K19q (allS (Or.inr (Nat.le_trans (Nat.le_refl _) (Nat.le_of_eq g1.symm))) all0)
 have N19 := Fr.app N14 N19q
 show Home T19 (mkF m 104 #[si 3, si i1, si i2, si i3, si i4, si i5, si i6] [(.ref b1)])
 have le20 : h0.size ≤ h2.size := Nat.le_trans E1.1 E2.1
 have le21 : h0.size ≤ T3.heap.size := Nat.le_trans le20 K3q.1
 have le22 : h0.size ≤ h6.size := Nat.le_trans le21 (Nat.le_of_eq W6.size.symm)
 have le23 : h0.size ≤ T7.heap.size := Nat.le_trans le22 K7q.1
 have le24 : h0.size ≤ h10.size := Nat.le_trans le23 (Nat.le_of_eq W10.size.symm)
 have le25 : h0.size ≤ T11.heap.size := Nat.le_trans le24 K11q.1
 have le26 : h0.size ≤ h14.size := Nat.le_trans le25 (Nat.le_of_eq W14.size.symm)
 subst hr12
 subst hr8
 subst hr4
 exact HomeW.retR X19 hx hlk hZ (own_hEL hw) rfl Cd19b1_3_2_19 (fun _ _ q => by cases q; exact (List.mem_of_getElem? (i := 1) rfl)) hret rfl rfl (hb hby d1_104) ⟨b1, b1_3_2_19, k1_3_2_19, rfl, N19, (Nat.le_trans (Nat.le_refl _) (Nat.le_of_eq g1.symm)), (Nat.le_trans le26 sz_b1_3_2_19), K19, P19_0, P19_2, P19_1, P19_3⟩ (by decide) (by decide)
theorem rm8_3 (l : Launch) (Z : State) (a0 : Array Value) (hw : HW a0 Z) (ws : List Jvm.Cond) (i1 i2 i3 i4 i5 i6 : Int32) (h0 : Heap) (n0 : Nat) (O0 : Old Z n0 h0) (bnd_i1 : ¬ i1 < (0 : Int32) ∧ ¬ (57 : Int32) < i1) (bnd_i2 : ¬ i2 < (0 : Int32) ∧ ¬ (57 : Int32) < i2) (bnd_i3 : ¬ i3 < (0 : Int32) ∧ ¬ (57 : Int32) < i3) (bnd_i4 : ¬ i4 < (0 : Int32) ∧ ¬ (57 : Int32) < i4) (bnd_i5 : ¬ i5 < (0 : Int32) ∧ ¬ (57 : Int32) < i5) (bnd_i6 : ¬ i6 < (0 : Int32) ∧ ¬ (57 : Int32) < i6) :
    Con l Z (⟨"com/example/tryst/tryst/encoding/Base58DecodePinLaw", "leadingZeros", "(IIIIIII)I"⟩ : MethodName) method_5_code 7 (some .int) ws ({ frames := 0, cells := 0, slots := 0, locals := 0 } : Room) #[(.int 3), (.int i1), (.int i2), (.int i3), (.int i4), (.int i5), (.int i6)] h0 (Pur (some (.int (f_rm8_3 i1 i2 i3))) h0) := by
 refine own_body (plainFor_of_name own_pn1) (fun m => ef_rm8_3 m (3 : Int32) i1 i2 i3 i4 i5 i6) ?_
 intro p e s m below meth c s₁ hx hby hlk hml hret hZ hown hnm X0 e0
 have N0 := Fr.nil n0
 refine Home.run X0 hx hby sg8_0_2 (pc' := 2) (L' := #[si 3, si i1, si i2, si i3, si i4, si i5, si i6]) (S' := [(.int 1), (.int 3)]) rfl ?_
 refine Home.go (fun _ => XS.icmpNo X0.here hx rfl (hb hby d8_2) rfl (flt (by decide)).1) ?_
 refine Home.run X0 hx hby sg8_5_1 (pc' := 6) (L' := #[si 3, si i1, si i2, si i3, si i4, si i5, si i6]) (S' := [(.int i1)]) rfl ?_
 by_cases c1 : i1 = (0 : Int32)
 ·
  refine Home.go (fun _ => XS.ifYes X0.here hx rfl (pc0 := 6) (pc' := 11) rfl (hb hby d8_6) rfl ((if0 _ _).trans (teq c1).1) (by decide) (by decide)) ?_
  have bd2 : ¬ i1 < (0 : Int32) ∧ ¬ (0 : Int32) < i1 := ⟨(bnd_eql c1), (bnd_eqr c1)⟩
  refine Home.run X0 hx hby sg8_11_2 (pc' := 13) (L' := #[si 3, si i1, si i2, si i3, si i4, si i5, si i6]) (S' := [(.int 2), (.int 3)]) rfl ?_
  refine Home.go (fun _ => XS.icmpNo X0.here hx rfl (hb hby d8_13) rfl (flt (by decide)).1) ?_
  refine Home.run X0 hx hby sg8_16_1 (pc' := 17) (L' := #[si 3, si i1, si i2, si i3, si i4, si i5, si i6]) (S' := [(.int i2)]) rfl ?_
  by_cases c4 : i2 = (0 : Int32)
  ·
   refine Home.go (fun _ => XS.ifYes X0.here hx rfl (pc0 := 17) (pc' := 22) rfl (hb hby d8_17) rfl ((if0 _ _).trans (teq c4).1) (by decide) (by decide)) ?_
   have bd5 : ¬ i2 < (0 : Int32) ∧ ¬ (0 : Int32) < i2 := ⟨(bnd_eql c4), (bnd_eqr c4)⟩
   refine Home.run X0 hx hby sg8_22_2 (pc' := 24) (L' := #[si 3, si i1, si i2, si i3, si i4, si i5, si i6]) (S' := [(.int 3), (.int 3)]) rfl ?_
   refine Home.go (fun _ => XS.icmpNo X0.here hx rfl (hb hby d8_24) rfl (flt (by decide)).1) ?_
   refine Home.run X0 hx hby sg8_27_1 (pc' := 28) (L' := #[si 3, si i1, si i2, si i3, si i4, si i5, si i6]) (S' := [(.int i3)]) rfl ?_
   by_cases c7 : i3 = (0 : Int32)
   ·
    refine Home.go (fun _ => XS.ifYes X0.here hx rfl (pc0 := 28) (pc' := 33) rfl (hb hby d8_28) rfl ((if0 _ _).trans (teq c7).1) (by decide) (by decide)) ?_
    have bd8 : ¬ i3 < (0 : Int32) ∧ ¬ (0 : Int32) < i3 := ⟨(bnd_eql c7), (bnd_eqr c7)⟩
    refine Home.run X0 hx hby sg8_33_2 (pc' := 35) (L' := #[si 3, si i1, si i2, si i3, si i4, si i5, si i6]) (S' := [(.int 4), (.int 3)]) rfl ?_
    refine Home.go (fun _ => XS.icmpYes X0.here hx rfl (pc0 := 35) (pc' := 43) rfl (hb hby d8_35) rfl (tlt (by decide)).1 (by decide) (by decide)) ?_
    refine Home.run X0 hx hby sg8_43_1 (pc' := 44) (L' := #[si 3, si i1, si i2, si i3, si i4, si i5, si i6]) (S' := [(.int 3)]) rfl ?_
    exact Home.retI X0 hx hlk hret (hb hby d8_44) ⟨congrArg some (congrArg Value.int (by first | rfl | (simp only [f_rm8_3, if_pos c1, if_pos c4, if_pos c7, nar_i2c, nar_i2b] <;> rfl) | (simp [f_rm8_3, if_pos c1, if_pos c4, if_pos c7]; done))), rfl, e0⟩ (by decide) (by decide)
   ·
    refine Home.go (fun _ => XS.ifNo X0.here hx rfl (hb hby d8_28) rfl ((if0 _ _).trans (feq c7).1)) ?_
    have bd9 : ¬ i3 < (1 : Int32) ∧ ¬ (57 : Int32) < i3 := ⟨(bnd_nel bnd_i3.1 c7 (by decide +kernel)), bnd_i3.2⟩
    refine Home.run X0 hx hby sg8_31_1 (pc' := 32) (L' := #[si 3, si i1, si i2, si i3, si i4, si i5, si i6]) (S' := [(.int 2)]) rfl ?_
    exact Home.retI X0 hx hlk hret (hb hby d8_32) ⟨congrArg some (congrArg Value.int (by first | rfl | (simp only [f_rm8_3, if_pos c1, if_pos c4, if_neg c7, nar_i2c, nar_i2b] <;> rfl) | (simp [f_rm8_3, if_pos c1, if_pos c4, if_neg c7]; done))), rfl, e0⟩ (by decide) (by decide)
  ·
   refine Home.go (fun _ => XS.ifNo X0.here hx rfl (hb hby d8_17) rfl ((if0 _ _).trans (feq c4).1)) ?_
   have bd6 : ¬ i2 < (1 : Int32) ∧ ¬ (57 : Int32) < i2 := ⟨(bnd_nel bnd_i2.1 c4 (by decide +kernel)), bnd_i2.2⟩
   refine Home.run X0 hx hby sg8_20_1 (pc' := 21) (L' := #[si 3, si i1, si i2, si i3, si i4, si i5, si i6]) (S' := [(.int 1)]) rfl ?_
   exact Home.retI X0 hx hlk hret (hb hby d8_21) ⟨congrArg some (congrArg Value.int (by first | rfl | (simp only [f_rm8_3, if_pos c1, if_neg c4, nar_i2c, nar_i2b] <;> rfl) | (simp [f_rm8_3, if_pos c1, if_neg c4]; done))), rfl, e0⟩ (by decide) (by decide)
 ·
  refine Home.go (fun _ => XS.ifNo X0.here hx rfl (hb hby d8_6) rfl ((if0 _ _).trans (feq c1).1)) ?_
  have bd3 : ¬ i1 < (1 : Int32) ∧ ¬ (57 : Int32) < i1 := ⟨(bnd_nel bnd_i1.1 c1 (by decide +kernel)), bnd_i1.2⟩
  refine Home.run X0 hx hby sg8_9_1 (pc' := 10) (L' := #[si 3, si i1, si i2, si i3, si i4, si i5, si i6]) (S' := [(.int 0)]) rfl ?_
  exact Home.retI X0 hx hlk hret (hb hby d8_10) ⟨congrArg some (congrArg Value.int (by first | rfl | (simp only [f_rm8_3, if_neg c1, nar_i2c, nar_i2b] <;> rfl) | (simp [f_rm8_3, if_neg c1]; done))), rfl, e0⟩ (by decide) (by decide)
theorem f_rm8_3_bnd (i1 : Int32) (i2 : Int32) (i3 : Int32) (i4 : Int32) (i5 : Int32) (i6 : Int32) (bnd_i1 : ¬ i1 < (0 : Int32) ∧ ¬ (57 : Int32) < i1) (bnd_i2 : ¬ i2 < (0 : Int32) ∧ ¬ (57 : Int32) < i2) (bnd_i3 : ¬ i3 < (0 : Int32) ∧ ¬ (57 : Int32) < i3) (bnd_i4 : ¬ i4 < (0 : Int32) ∧ ¬ (57 : Int32) < i4) (bnd_i5 : ¬ i5 < (0 : Int32) ∧ ¬ (57 : Int32) < i5) (bnd_i6 : ¬ i6 < (0 : Int32) ∧ ¬ (57 : Int32) < i6) : ¬ (f_rm8_3 i1 i2 i3) < (0 : Int32) ∧ ¬ (3 : Int32) < (f_rm8_3 i1 i2 i3) := by unfold f_rm8_3; (repeat' split) <;> first | exact bnd_mono (bnd_lit (3 : Int32)) (by decide +kernel) (by decide +kernel) | exact bnd_mono (bnd_lit (2 : Int32)) (by decide +kernel) (by decide +kernel) | exact bnd_mono (bnd_lit (1 : Int32)) (by decide +kernel) (by decide +kernel) | exact bnd_mono (bnd_lit (0 : Int32)) (by decide +kernel) (by decide +kernel)
theorem rm9_3 (l : Launch) (Z : State) (a0 : Array Value) (hw : HW a0 Z) (ws : List Jvm.Cond) (i1 i2 i3 i4 i5 i6 : Int32) (h0 : Heap) (n0 : Nat) (O0 : Old Z n0 h0) (bnd_i1 : ¬ i1 < (0 : Int32) ∧ ¬ (57 : Int32) < i1) (bnd_i2 : ¬ i2 < (0 : Int32) ∧ ¬ (57 : Int32) < i2) (bnd_i3 : ¬ i3 < (0 : Int32) ∧ ¬ (57 : Int32) < i3) (bnd_i4 : ¬ i4 < (0 : Int32) ∧ ¬ (57 : Int32) < i4) (bnd_i5 : ¬ i5 < (0 : Int32) ∧ ¬ (57 : Int32) < i5) (bnd_i6 : ¬ i6 < (0 : Int32) ∧ ¬ (57 : Int32) < i6) :
    Con l Z (⟨"com/example/tryst/tryst/encoding/Base58DecodePinLaw", "value", "(IIIIIII)J"⟩ : MethodName) method_6_code 9 (some .long) ws ({ frames := 0, cells := 0, slots := 0, locals := 0 } : Room) #[(.int 3), (.int i1), (.int i2), (.int i3), (.int i4), (.int i5), (.int i6)] h0 (Pur (some (.long (((((i1.toInt64) * (58 : Int64)) + (i2.toInt64)) * (58 : Int64)) + (i3.toInt64)))) h0) := by
 refine own_body (plainFor_of_name own_pn1) (fun m => ef_rm9_3 m (3 : Int32) i1 i2 i3 i4 i5 i6) ?_
 intro p e s m below meth c s₁ hx hby hlk hml hret hZ hown hnm X0 e0
 have N0 := Fr.nil n0
 refine Home.run X0 hx hby sg9_0_3 (pc' := 4) (L' := #[si 3, si i1, si i2, si i3, si i4, si i5, si i6, .val (.long (0 : Int64)), .second]) (S' := [(.int 3)]) rfl ?_
 refine Home.go (fun _ => XS.ifNo X0.here hx rfl (hb hby d9_4) rfl ((if0 _ _).trans (tlt (by decide)).2.2.2)) ?_
 refine Home.run X0 hx hby sg9_7_5 (pc' := 13) (L' := #[si 3, si i1, si i2, si i3, si i4, si i5, si i6, .val (.long (i1.toInt64)), .second]) (S' := [(.int 1), (.int 3)]) rfl ?_
 refine Home.go (fun _ => XS.icmpNo X0.here hx rfl (hb hby d9_13) rfl (tlt (by decide)).2.2.2) ?_
 refine Home.run X0 hx hby sg9_16_1 (pc' := 18) (L' := #[si 3, si i1, si i2, si i3, si i4, si i5, si i6, .val (.long (i1.toInt64)), .second]) (S' := [(.long (i1.toInt64))]) rfl ?_
 refine Home.go (X0.ldc2Long hx hown (mvT hZ (own_w120 hw)) rfl (hb hby d9_18)) ?_
 refine Home.run X0 hx hby sg9_21_7 (pc' := 29) (L' := #[si 3, si i1, si i2, si i3, si i4, si i5, si i6, .val (.long (((i1.toInt64) * (58 : Int64)) + (i2.toInt64))), .second]) (S' := [(.int 2), (.int 3)]) rfl ?_
 refine Home.go (fun _ => XS.icmpNo X0.here hx rfl (hb hby d9_29) rfl (tlt (by decide)).2.2.2) ?_
 refine Home.run X0 hx hby sg9_32_1 (pc' := 34) (L' := #[si 3, si i1, si i2, si i3, si i4, si i5, si i6, .val (.long (((i1.toInt64) * (58 : Int64)) + (i2.toInt64))), .second]) (S' := [(.long (((i1.toInt64) * (58 : Int64)) + (i2.toInt64)))]) rfl ?_
 refine Home.go (X0.ldc2Long hx hown (mvT hZ (own_w120 hw)) rfl (hb hby d9_34)) ?_
 refine Home.run X0 hx hby sg9_37_7 (pc' := 45) (L' := #[si 3, si i1, si i2, si i3, si i4, si i5, si i6, .val (.long (((((i1.toInt64) * (58 : Int64)) + (i2.toInt64)) * (58 : Int64)) + (i3.toInt64))), .second]) (S' := [(.int 3), (.int 3)]) rfl ?_
 refine Home.go (fun _ => XS.icmpYes X0.here hx rfl (pc0 := 45) (pc' := 60) rfl (hb hby d9_45) rfl (flt (by decide)).2.2.2 (by decide) (by decide)) ?_
 refine Home.run X0 hx hby sg9_60_2 (pc' := 62) (L' := #[si 3, si i1, si i2, si i3, si i4, si i5, si i6, .val (.long (((((i1.toInt64) * (58 : Int64)) + (i2.toInt64)) * (58 : Int64)) + (i3.toInt64))), .second]) (S' := [(.int 4), (.int 3)]) rfl ?_
 refine Home.go (fun _ => XS.icmpYes X0.here hx rfl (pc0 := 62) (pc' := 77) rfl (hb hby d9_62) rfl (flt (by decide)).2.2.2 (by decide) (by decide)) ?_
 refine Home.run X0 hx hby sg9_77_2 (pc' := 79) (L' := #[si 3, si i1, si i2, si i3, si i4, si i5, si i6, .val (.long (((((i1.toInt64) * (58 : Int64)) + (i2.toInt64)) * (58 : Int64)) + (i3.toInt64))), .second]) (S' := [(.int 5), (.int 3)]) rfl ?_
 refine Home.go (fun _ => XS.icmpYes X0.here hx rfl (pc0 := 79) (pc' := 94) rfl (hb hby d9_79) rfl (flt (by decide)).2.2.2 (by decide) (by decide)) ?_
 refine Home.run X0 hx hby sg9_94_1 (pc' := 96) (L' := #[si 3, si i1, si i2, si i3, si i4, si i5, si i6, .val (.long (((((i1.toInt64) * (58 : Int64)) + (i2.toInt64)) * (58 : Int64)) + (i3.toInt64))), .second]) (S' := [(.long (((((i1.toInt64) * (58 : Int64)) + (i2.toInt64)) * (58 : Int64)) + (i3.toInt64)))]) rfl ?_
 exact Home.retJ X0 hx hlk hret (hb hby d9_96) ⟨rfl, rfl, e0⟩ (by decide) (by decide)
theorem rm19_3 (l : Launch) (Z : State) (a0 : Array Value) (hw : HW a0 Z) (ws : List Jvm.Cond) (o0 o2 : Addr) (k_o0 : ClassId) (u1 u2 u3 u4 : Int32) (k_o2 : ClassId) (h0 : Heap) (n0 : Nat) (O0 : Old Z n0 h0) (V_o0 : Arv Z h0 o0 k_o0 .char (4 : Int32) [(.int u1), (.int u2), (.int u3), (.int u4)] (.int 0)) (bnd_u1 : ¬ u1 < (0 : Int32) ∧ ¬ (255 : Int32) < u1) (V_o2 : Arv Z h0 o2 k_o2 .byte (4 : Int32) [(.int 0), (.int 0), (.int 0), (.int 0)] (.int 0)) (g_o2 : n0 ≤ o2) (ne_o0_o2 : o0 ≠ o2) (bnd_u2 : ¬ u2 < (0 : Int32) ∧ ¬ (255 : Int32) < u2) (bnd_u3 : ¬ u3 < (0 : Int32) ∧ ¬ (255 : Int32) < u3) (bnd_u4 : ¬ u4 < (0 : Int32) ∧ ¬ (255 : Int32) < u4) :
    Con l Z (⟨"java/lang/StringUTF16", "compress", "([CI[BII)I"⟩ : MethodName) jdk_52_method_21_code 7 (some .int) ws ({ frames := 0, cells := 0, slots := 0, locals := 0 } : Room) #[(.ref o0), (.int 0), (.ref o2), (.int 0), (.int 4)] h0 (fun v h L => v = some (.int 4) ∧ Fr n0 L ∧ Keep h0 h [o2] ∧ Arv Z h o2 k_o2 .byte (4 : Int32) [(.int (u1.toInt8.toInt32)), (.int (u2.toInt8.toInt32)), (.int (u3.toInt8.toInt32)), (.int (u4.toInt8.toInt32))] (.int 0)) := by
 refine own_body (plainFor_of_name own_pn5) (fun m => ef_rm19_3 m o0 (0 : Int32) o2 (4 : Int32)) ?_
 intro p e s m below meth c s₁ hx hby hlk hml hret hZ hown hnm X0 e0
 have N0 := Fr.nil n0
 refine Home.run X0 hx hby sg19_0_4 (pc' := 7) (L' := #[sr o0, si 0, sr o2, si 0, si 4, si 0, un]) (S' := [(.int 4), (.int 0)]) rfl ?_
 refine Home.go (fun _ => XS.icmpNo X0.here hx rfl (hb hby d19_7) rfl (tlt (by decide)).2.1) ?_
 refine Home.run X0 hx hby sg19_10_2 (pc' := 12) (L' := #[sr o0, si 0, sr o2, si 0, si 4, si 0, un]) (S' := [(.int 0), (.ref o0)]) rfl ?_
 obtain ⟨cl1, Ar1, q1, S1, M1, H1, G1⟩ := id V_o0
 have ib1 : ¬ ((0 : Int32) < 0 ∨ cl1.slots.size ≤ ((0 : Int32)).toNatClampNeg) := inb_of S1 ⟨by decide, by decide⟩
 refine Home.go (X0.caload hx (j := (0 : Int32)) (v := (.int u1)) (by rw [e0]; exact Ar1.1) (State.isArrayOf_alike hZ.alike Ar1.2.1) Ar1.2.2 ib1 (Has.at H1 ib1 rfl) rfl rfl (hb hby d19_12)) ?_
 refine Home.run X0 hx hby sg19_13_3 (pc' := 20) (L' := #[sr o0, si 0, sr o2, si 0, si 4, si 0, si u1]) (S' := [(.int 255), (.int u1)]) rfl ?_
 refine Home.go (fun _ => XS.icmpYes X0.here hx rfl (pc0 := 20) (pc' := 26) rfl (hb hby d19_20) rfl (flt (bnd_nlt (bnd_lit (255 : Int32)) bnd_u1 (by decide +kernel))).2.2.2 (by decide) (by decide)) ?_
 refine Home.run X0 hx hby sg19_26_4 (pc' := 31) (L' := #[sr o0, si 0, sr o2, si 0, si 4, si 0, si u1]) (S' := [(.int (u1.toInt8.toInt32)), (.int 0), (.ref o2)]) rfl ?_
 obtain ⟨cl2, Ar2, q2, S2, M2, H2, G2⟩ := id V_o2
 refine Home.wr (stB X0 hx hZ e0 Ar2 (j := (0 : Int32)) (inb_of S2 ⟨by decide, by decide⟩) rfl rfl (hb hby d19_31)) fun T2 h2 X2 e2 W2 => ?_
 have W2' := Wr.to W2 (congrArg Value.int (nar_byte_id (bnd_i2b u1) (by decide +kernel) (by decide +kernel)))
 have V2 : Arv Z h2 o2 k_o2 .byte (4 : Int32) [(.int (u1.toInt8.toInt32)), (.int 0), (.int 0), (.int 0)] (.int 0) := Arv.set Ar2 q2 S2 M2 H2 G2 (fits_byte_b (bnd_i2b u1) (by decide +kernel) (by decide +kernel)) W2' 0 rfl (Nat.le_of_ble_eq_true rfl)
 have O2 := O0.wr W2 g_o2
 have K2 : Keep h0 h2 ([o2] : List Addr) := Keep.wr (Keep.refl h0 ([o2] : List Addr)) W2 (Or.inl (List.mem_of_getElem? (i := 0) rfl))
 have N2 := Fr.snoc X2 N0 g_o2
 show Home T2 (mkF m 32 #[sr o0, si 0, sr o2, si 0, si 4, si 0, si u1] [])
 refine Home.run X2 hx hby sg19_32_6 (pc' := 7) (L' := #[sr o0, si 1, sr o2, si 1, si 4, si 1, si u1]) (S' := [(.int 4), (.int 1)]) rfl ?_
 refine Home.go (fun _ => XS.icmpNo X2.here hx rfl (hb hby d19_7) rfl (tlt (by decide)).2.1) ?_
 refine Home.run X2 hx hby sg19_10_2 (pc' := 12) (L' := #[sr o0, si 1, sr o2, si 1, si 4, si 1, si u1]) (S' := [(.int 1), (.ref o0)]) rfl ?_
 have q3 := (V_o0.other W2 ne_o0_o2)
 obtain ⟨cl4, Ar4, q4, S4, M4, H4, G4⟩ := id q3
 have ib4 : ¬ ((1 : Int32) < 0 ∨ cl4.slots.size ≤ ((1 : Int32)).toNatClampNeg) := inb_of S4 ⟨by decide, by decide⟩
 refine Home.go (X2.caload hx (j := (1 : Int32)) (v := (.int u2)) (by rw [e2]; exact Ar4.1) (State.isArrayOf_alike hZ.alike Ar4.2.1) Ar4.2.2 ib4 (Has.at H4 ib4 rfl) rfl rfl (hb hby d19_12)) ?_
 refine Home.run X2 hx hby sg19_13_3 (pc' := 20) (L' := #[sr o0, si 1, sr o2, si 1, si 4, si 1, si u2]) (S' := [(.int 255), (.int u2)]) rfl ?_
 refine Home.go (fun _ => XS.icmpYes X2.here hx rfl (pc0 := 20) (pc' := 26) rfl (hb hby d19_20) rfl (flt (bnd_nlt (bnd_lit (255 : Int32)) bnd_u2 (by decide +kernel))).2.2.2 (by decide) (by decide)) ?_
 refine Home.run X2 hx hby sg19_26_4 (pc' := 31) (L' := #[sr o0, si 1, sr o2, si 1, si 4, si 1, si u2]) (S' := [(.int (u2.toInt8.toInt32)), (.int 1), (.ref o2)]) rfl ?_
 obtain ⟨cl5, Ar5, q5, S5, M5, H5, G5⟩ := id V2
 refine Home.wr (stB X2 hx hZ e2 Ar5 (j := (1 : Int32)) (inb_of S5 ⟨by decide, by decide⟩) rfl rfl (hb hby d19_31)) fun T5 h5 X5 e5 W5 => ?_
 have W5' := Wr.to W5 (congrArg Value.int (nar_byte_id (bnd_i2b u2) (by decide +kernel) (by decide +kernel)))
 have V5 : Arv Z h5 o2 k_o2 .byte (4 : Int32) [(.int (u1.toInt8.toInt32)), (.int (u2.toInt8.toInt32)), (.int 0), (.int 0)] (.int 0) := Arv.set Ar5 q5 S5 M5 H5 G5 (fits_byte_b (bnd_i2b u2) (by decide +kernel) (by decide +kernel)) W5' 1 rfl (Nat.le_of_ble_eq_true rfl)
 have O5 := O2.wr W5 g_o2
 have K5 : Keep h0 h5 ([o2] : List Addr) := Keep.wr K2 W5 (Or.inl (List.mem_of_getElem? (i := 0) rfl))
 have N5 := Fr.snoc X5 N2 g_o2
 show Home T5 (mkF m 32 #[sr o0, si 1, sr o2, si 1, si 4, si 1, si u2] [])
 refine Home.run X5 hx hby sg19_32_6 (pc' := 7) (L' := #[sr o0, si 2, sr o2, si 2, si 4, si 2, si u2]) (S' := [(.int 4), (.int 2)]) rfl ?_
 refine Home.go (fun _ => XS.icmpNo X5.here hx rfl (hb hby d19_7) rfl (tlt (by decide)).2.1) ?_
 refine Home.run X5 hx hby sg19_10_2 (pc' := 12) (L' := #[sr o0, si 2, sr o2, si 2, si 4, si 2, si u2]) (S' := [(.int 2), (.ref o0)]) rfl ?_
 have q6 := (q3.other W5 ne_o0_o2)
 obtain ⟨cl7, Ar7, q7, S7, M7, H7, G7⟩ := id q6
 have ib7 : ¬ ((2 : Int32) < 0 ∨ cl7.slots.size ≤ ((2 : Int32)).toNatClampNeg) := inb_of S7 ⟨by decide, by decide⟩
 refine Home.go (X5.caload hx (j := (2 : Int32)) (v := (.int u3)) (by rw [e5]; exact Ar7.1) (State.isArrayOf_alike hZ.alike Ar7.2.1) Ar7.2.2 ib7 (Has.at H7 ib7 rfl) rfl rfl (hb hby d19_12)) ?_
 refine Home.run X5 hx hby sg19_13_3 (pc' := 20) (L' := #[sr o0, si 2, sr o2, si 2, si 4, si 2, si u3]) (S' := [(.int 255), (.int u3)]) rfl ?_
 refine Home.go (fun _ => XS.icmpYes X5.here hx rfl (pc0 := 20) (pc' := 26) rfl (hb hby d19_20) rfl (flt (bnd_nlt (bnd_lit (255 : Int32)) bnd_u3 (by decide +kernel))).2.2.2 (by decide) (by decide)) ?_
 refine Home.run X5 hx hby sg19_26_4 (pc' := 31) (L' := #[sr o0, si 2, sr o2, si 2, si 4, si 2, si u3]) (S' := [(.int (u3.toInt8.toInt32)), (.int 2), (.ref o2)]) rfl ?_
 obtain ⟨cl8, Ar8, q8, S8, M8, H8, G8⟩ := id V5
 refine Home.wr (stB X5 hx hZ e5 Ar8 (j := (2 : Int32)) (inb_of S8 ⟨by decide, by decide⟩) rfl rfl (hb hby d19_31)) fun T8 h8 X8 e8 W8 => ?_
 have W8' := Wr.to W8 (congrArg Value.int (nar_byte_id (bnd_i2b u3) (by decide +kernel) (by decide +kernel)))
 have V8 : Arv Z h8 o2 k_o2 .byte (4 : Int32) [(.int (u1.toInt8.toInt32)), (.int (u2.toInt8.toInt32)), (.int (u3.toInt8.toInt32)), (.int 0)] (.int 0) := Arv.set Ar8 q8 S8 M8 H8 G8 (fits_byte_b (bnd_i2b u3) (by decide +kernel) (by decide +kernel)) W8' 2 rfl (Nat.le_of_ble_eq_true rfl)
 have O8 := O5.wr W8 g_o2
 have K8 : Keep h0 h8 ([o2] : List Addr) := Keep.wr K5 W8 (Or.inl (List.mem_of_getElem? (i := 0) rfl))
 have N8 := Fr.snoc X8 N5 g_o2
 show Home T8 (mkF m 32 #[sr o0, si 2, sr o2, si 2, si 4, si 2, si u3] [])
 refine Home.run X8 hx hby sg19_32_6 (pc' := 7) (L' := #[sr o0, si 3, sr o2, si 3, si 4, si 3, si u3]) (S' := [(.int 4), (.int 3)]) rfl ?_
 refine Home.go (fun _ => XS.icmpNo X8.here hx rfl (hb hby d19_7) rfl (tlt (by decide)).2.1) ?_
 refine Home.run X8 hx hby sg19_10_2 (pc' := 12) (L' := #[sr o0, si 3, sr o2, si 3, si 4, si 3, si u3]) (S' := [(.int 3), (.ref o0)]) rfl ?_
 have q9 := (q6.other W8 ne_o0_o2)
 obtain ⟨cl10, Ar10, q10, S10, M10, H10, G10⟩ := id q9
 have ib10 : ¬ ((3 : Int32) < 0 ∨ cl10.slots.size ≤ ((3 : Int32)).toNatClampNeg) := inb_of S10 ⟨by decide, by decide⟩
 refine Home.go (X8.caload hx (j := (3 : Int32)) (v := (.int u4)) (by rw [e8]; exact Ar10.1) (State.isArrayOf_alike hZ.alike Ar10.2.1) Ar10.2.2 ib10 (Has.at H10 ib10 rfl) rfl rfl (hb hby d19_12)) ?_
 refine Home.run X8 hx hby sg19_13_3 (pc' := 20) (L' := #[sr o0, si 3, sr o2, si 3, si 4, si 3, si u4]) (S' := [(.int 255), (.int u4)]) rfl ?_
 refine Home.go (fun _ => XS.icmpYes X8.here hx rfl (pc0 := 20) (pc' := 26) rfl (hb hby d19_20) rfl (flt (bnd_nlt (bnd_lit (255 : Int32)) bnd_u4 (by decide +kernel))).2.2.2 (by decide) (by decide)) ?_
 refine Home.run X8 hx hby sg19_26_4 (pc' := 31) (L' := #[sr o0, si 3, sr o2, si 3, si 4, si 3, si u4]) (S' := [(.int (u4.toInt8.toInt32)), (.int 3), (.ref o2)]) rfl ?_
 obtain ⟨cl11, Ar11, q11, S11, M11, H11, G11⟩ := id V8
 refine Home.wr (stB X8 hx hZ e8 Ar11 (j := (3 : Int32)) (inb_of S11 ⟨by decide, by decide⟩) rfl rfl (hb hby d19_31)) fun T11 h11 X11 e11 W11 => ?_
 have W11' := Wr.to W11 (congrArg Value.int (nar_byte_id (bnd_i2b u4) (by decide +kernel) (by decide +kernel)))
 have V11 : Arv Z h11 o2 k_o2 .byte (4 : Int32) [(.int (u1.toInt8.toInt32)), (.int (u2.toInt8.toInt32)), (.int (u3.toInt8.toInt32)), (.int (u4.toInt8.toInt32))] (.int 0) := Arv.set Ar11 q11 S11 M11 H11 G11 (fits_byte_b (bnd_i2b u4) (by decide +kernel) (by decide +kernel)) W11' 3 rfl (Nat.le_of_ble_eq_true rfl)
 have O11 := O8.wr W11 g_o2
 have K11 : Keep h0 h11 ([o2] : List Addr) := Keep.wr K8 W11 (Or.inl (List.mem_of_getElem? (i := 0) rfl))
 have N11 := Fr.snoc X11 N8 g_o2
 show Home T11 (mkF m 32 #[sr o0, si 3, sr o2, si 3, si 4, si 3, si u4] [])
 refine Home.run X11 hx hby sg19_32_6 (pc' := 7) (L' := #[sr o0, si 4, sr o2, si 4, si 4, si 4, si u4]) (S' := [(.int 4), (.int 4)]) rfl ?_
 refine Home.go (fun _ => XS.icmpYes X11.here hx rfl (pc0 := 7) (pc' := 44) rfl (hb hby d19_7) rfl (flt (by decide)).2.1 (by decide) (by decide)) ?_
 refine Home.run X11 hx hby sg19_44_1 (pc' := 46) (L' := #[sr o0, si 4, sr o2, si 4, si 4, si 4, si u4]) (S' := [(.int 4)]) rfl ?_
 exact Home.retI X11 hx hlk hret (hb hby d19_46) (by rw [show T11.heap = h11 from e11]; exact ⟨rfl, N11, K11, V11⟩) (by decide) (by decide)
theorem rm18_3 (l : Launch) (Z : State) (a0 : Array Value) (hw : HW a0 Z) (ws : List Jvm.Cond) (o0 : Addr) (k_o0 : ClassId) (u1 u2 u3 u4 : Int32) (h0 : Heap) (n0 : Nat) (O0 : Old Z n0 h0) (V_o0 : Arv Z h0 o0 k_o0 .char (4 : Int32) [(.int u1), (.int u2), (.int u3), (.int u4)] (.int 0)) (bnd_u1 : ¬ u1 < (0 : Int32) ∧ ¬ (255 : Int32) < u1) (bnd_u2 : ¬ u2 < (0 : Int32) ∧ ¬ (255 : Int32) < u2) (bnd_u3 : ¬ u3 < (0 : Int32) ∧ ¬ (255 : Int32) < u3) (bnd_u4 : ¬ u4 < (0 : Int32) ∧ ¬ (255 : Int32) < u4) :
    Con l Z (⟨"java/lang/StringUTF16", "compress", "([CII)[B"⟩ : MethodName) jdk_52_method_16_code 6 (some (.array .byte)) ws ({ frames := 1, cells := 1, slots := 4, locals := 18 } : Room) #[(.ref o0), (.int 0), (.int 4)] h0 (fun v h L => ∃ (b1 : Addr), ∃ (k1 : ClassId), v = some (.ref b1) ∧ Fr n0 L ∧ h0.size ≤ b1 ∧ Keep h0 h [] ∧ Arv Z h b1 k1 .byte (4 : Int32) [(.int (u1.toInt8.toInt32)), (.int (u2.toInt8.toInt32)), (.int (u3.toInt8.toInt32)), (.int (u4.toInt8.toInt32))] (.int 0)) := by
 refine own_body (plainFor_of_name own_pn5) (fun m => ef_rm18_3 m o0 (0 : Int32) (4 : Int32)) ?_
 intro p e s m below meth c s₁ hx hby hlk hml hret hZ hown hnm X0 e0
 have N0 := Fr.nil n0
 refine Home.run X0 hx hby sg18_0_1 (pc' := 1) (L' := #[sr o0, si 0, si 4, un, un, un]) (S' := [(.int 4)]) rfl ?_
 refine Home.na (own_newP (aty := .byte) X0 hx hZ (own_w21 hw) e0 (g := (mkF m 1 #[.val (.ref o0), .val (.int 0), .val (.int 4), .unset, .unset, .unset] [(.int 4)])) rfl (hb hby d18_1) rfl (by decide) (cap := 4) (by decide) (by decide) (by decide) (by decide)) fun T1 h1 k1 b1 g1 X1 e1 E1 A1 => ?_
 have g_b1 : n0 ≤ b1 := Nat.le_trans (Old.le O0) (Nat.le_of_eq g1.symm)
 have V1 : Arv Z h1 b1 k1 .byte (4 : Int32) [(.int 0), (.int 0), (.int 0), (.int 0)] (.int 0) := (Arv.new A1 (by decide)).pad (pad_rep [] (.int 0) 4)
 have O1 := O0.ext E1
 have K1 : Keep h0 h1 ([] : List Addr) := Keep.ext (Keep.refl h0 ([] : List Addr)) E1
 refine Home.run X1 hx hby sg18_3_6 (pc' := 9) (L' := #[sr o0, si 0, si 4, sr b1, un, un]) (S' := [(.int 4), (.int 0), (.ref b1), (.int 0), (.ref o0)]) rfl ?_
 have ne2 : o0 ≠ b1 := (Nat.ne_of_lt (Nat.lt_of_lt_of_le V_o0.lt (Nat.le_trans (Nat.le_refl _) (Nat.le_of_eq g1.symm))))
 refine Home.call (own_static X1 hx hZ hown (own_w85 hw) (own_w86 hw) (own_w83 hw) (own_w87 hw) (by decide) (rm19_3 l Z a0 hw [] o0 b1 k_o0 u1 u2 u3 u4 k1 h1 n0 O1 (V_o0.keep K1 nin0) bnd_u1 V1 g_b1 ne2 bnd_u2 bnd_u3 bnd_u4) e1 rfl (by rw [hml]; rfl) (argsL := [(.ref o0), (.int 0), (.ref b1), (.int 0), (.int 4)]) (rest := []) (lenOf own_pd15 rfl) rfl rfl (W := 0) (by exact hW0) (by decide) (by decide) (hb hby d18_9) (by decide) (by decide)) ?_
 rintro _ T3 L3 X3 ⟨rfl, N3q, K3q, P3_0⟩
 have O3 := Old.keep O1 K3q (allS g_b1 all0)
 have K3 : Keep h0 T3.heap ([] : List Addr) := Keep.trans K1 K3q (allS (Or.inr (Nat.le_trans (Nat.le_refl _) (Nat.le_of_eq g1.symm))) all0)
 have N3 := Fr.app N0 N3q
 refine Home.run X3 hx hby sg18_12_3 (pc' := 17) (L' := #[sr o0, si 0, si 4, sr b1, si 4, un]) (S' := [(.int 4), (.int 4)]) rfl ?_
 refine Home.go (fun _ => XS.icmpYes X3.here hx rfl (pc0 := 17) (pc' := 57) rfl (hb hby d18_17) rfl (teq (by decide)).1 (by decide) (by decide)) ?_
 refine Home.run X3 hx hby sg18_57_1 (pc' := 58) (L' := #[sr o0, si 0, si 4, sr b1, si 4, un]) (S' := [(.ref b1)]) rfl ?_
 exact Home.retR X3 hx hlk hret rfl rfl (hb hby d18_58) ⟨b1, k1, rfl, N3, (Nat.le_trans (Nat.le_refl _) (Nat.le_of_eq g1.symm)), K3, P3_0⟩ (by decide) (by decide)
theorem rm20_3 (l : Launch) (Z : State) (a0 : Array Value) (hw : HW a0 Z) (ws : List Jvm.Cond) (o0 : Addr) (k_o0 : ClassId) (u1 u2 u3 u4 : Int32) (h0 : Heap) (n0 : Nat) (O0 : Old Z n0 h0) (V_o0 : Arv Z h0 o0 k_o0 .byte (4 : Int32) [(.int u1), (.int u2), (.int u3), (.int u4)] (.int 0)) :
    Con l Z (⟨"java/lang/StringUTF16", "coderFromArrayLen", "([BI)B"⟩ : MethodName) jdk_52_method_15_code 2 (some .byte) ws ({ frames := 0, cells := 0, slots := 0, locals := 0 } : Room) #[(.ref o0), (.int 4)] h0 (Pur (some (.int 0)) h0) := by
 refine own_body (plainFor_of_name own_pn5) (fun m => ef_rm20_3 m o0 (4 : Int32)) ?_
 intro p e s m below meth c s₁ hx hby hlk hml hret hZ hown hnm X0 e0
 have N0 := Fr.nil n0
 refine Home.run X0 hx hby sg20_0_2 (pc' := 2) (L' := #[sr o0, si 4]) (S' := [(.ref o0), (.int 4)]) rfl ?_
 obtain ⟨cl1, Ar1, q1, S1, M1, H1, G1⟩ := id V_o0
 refine Home.go (own_alen X0 hx hZ e0 Ar1 S1 M1 rfl rfl (hb hby d20_2)) ?_
 refine Home.run X0 hx hby sg20_3_4 (pc' := 8) (L' := #[sr o0, si 4]) (S' := [(.int 0)]) rfl ?_
 exact Home.retN X0 hx hlk (t := .byte) hret (by simp) (hb hby d20_8) ⟨congrArg some (congrArg Value.int (by first | rfl | exact nar_i2c _ | exact nar_i2b _)), rfl, e0⟩ (by decide) (by decide)
theorem rm3_4 (l : Launch) (Z : State) (a0 : Array Value) (hw : HW a0 Z) (ws : List Jvm.Cond) (o0 o1 : Addr) (sv_COMPACT_STRINGS : Int32) (k_o1 : ClassId) (u1 u2 u3 u4 : Int32) (h0 : Heap) (n0 : Nat) (O0 : Old Z n0 h0) (S_COMPACT_STRINGS : Sta Z Z.heap "java/lang/String" "COMPACT_STRINGS" "Z" (.int sv_COMPACT_STRINGS)) (hCS : ¬ (sv_COMPACT_STRINGS = (0 : Int32))) (V_o1 : Arv Z h0 o1 k_o1 .char (4 : Int32) [(.int u1), (.int u2), (.int u3), (.int u4)] (.int 0)) (bnd_u1 : ¬ u1 < (0 : Int32) ∧ ¬ (255 : Int32) < u1) (bnd_u2 : ¬ u2 < (0 : Int32) ∧ ¬ (255 : Int32) < u2) (bnd_u3 : ¬ u3 < (0 : Int32) ∧ ¬ (255 : Int32) < u3) (bnd_u4 : ¬ u4 < (0 : Int32) ∧ ¬ (255 : Int32) < u4) (E_o0 : Exa Z h0 o0 "java/lang/String") (F_coder_o0 : Fld Z h0 o0 "java/lang/String" "coder" "B" (.int 0)) (g_o0 : n0 ≤ o0) (F_value_o0 : Fld Z h0 o0 "java/lang/String" "value" "[B" .null) :
    Con l Z (⟨"java/lang/String", "<init>", "([CIILjava/lang/Void;)V"⟩ : MethodName) jdk_42_method_149_code 6 none ws ({ frames := 2, cells := 1, slots := 4, locals := 35 } : Room) #[(.ref o0), (.ref o1), (.int 0), (.int 4), .null] h0 (fun v h L => ∃ (b1_3 : Addr), ∃ (k1_3 : ClassId), v = none ∧ Fr n0 L ∧ h0.size ≤ b1_3 ∧ Keep h0 h [o0] ∧ Exa Z h o0 "java/lang/String" ∧ Fld Z h o0 "java/lang/String" "coder" "B" (.int 0) ∧ Fld Z h o0 "java/lang/String" "value" "[B" (.ref b1_3) ∧ Arv Z h b1_3 k1_3 .byte (4 : Int32) [(.int (u1.toInt8.toInt32)), (.int (u2.toInt8.toInt32)), (.int (u3.toInt8.toInt32)), (.int (u4.toInt8.toInt32))] (.int 0)) := by
 refine own_body (plainFor_of_name own_pn0) (fun m => ef_rm3_4 m o0 o1 (0 : Int32) (4 : Int32)) ?_
 intro p e s m below meth c s₁ hx hby hlk hml hret hZ hown hnm X0 e0
 have N0 := Fr.nil n0
 refine Home.run X0 hx hby sg3_0_1 (pc' := 1) (L' := #[sr o0, sr o1, si 0, si 4, .val .null, un]) (S' := [(.ref o0)]) rfl ?_
 refine Home.st (initO X0 hx hZ hown (own_w17 hw) (own_w18 hw) (own_w19 hw) e0 rfl (by rw [hml]; rfl) rfl (hb hby d3_1) (by decide) (W := 0) (by exact hW0) (by decide)) fun T1 X1 e1 => ?_
 refine Home.run X1 hx hby sg3_4_1 (pc' := 5) (L' := #[sr o0, sr o1, si 0, si 4, .val .null, un]) (S' := [(.int 4)]) rfl ?_
 refine Home.go (fun _ => XS.ifYes X1.here hx rfl (pc0 := 5) (pc' := 27) rfl (hb hby d3_5) rfl ((if0 _ _).trans (feq (by decide)).2) (by decide) (by decide)) ?_
 refine Home.st (getS2 X1 hx hZ hown (host := "") (Or.inl (own_w42 hw)) Via.refl e1 (S_COMPACT_STRINGS.ext O0.2) rfl (hb hby d3_27)) fun T2 X2 e2 => ?_
 refine Home.go (fun _ => XS.ifNo X2.here hx rfl (hb hby d3_30) rfl ((if0 _ _).trans (feq hCS).1)) ?_
 refine Home.run X2 hx hby sg3_33_3 (pc' := 36) (L' := #[sr o0, sr o1, si 0, si 4, .val .null, un]) (S' := [(.int 4), (.int 0), (.ref o1)]) rfl ?_
 refine Home.call (own_static X2 hx hZ hown (own_w81 hw) (own_w82 hw) (own_w83 hw) (own_w84 hw) (by decide) (rm18_3 l Z a0 hw [] o1 k_o1 u1 u2 u3 u4 h0 n0 O0 V_o1 bnd_u1 bnd_u2 bnd_u3 bnd_u4) e2 rfl (by rw [hml]; rfl) (argsL := [(.ref o1), (.int 0), (.int 4)]) (rest := []) (lenOf own_pd16 rfl) rfl rfl (W := 0) (by exact hW0) (by decide) (by decide) (hb hby d3_36) (by decide) (by decide)) ?_
 rintro _ T3 L3 X3 ⟨b1_3, k1_3, rfl, N3q, sz_b1_3, K3q, P3_0⟩
 have g_b1_3 : n0 ≤ b1_3 := Nat.le_trans (Old.le O0) sz_b1_3
 have O3 := Old.keep O0 K3q all0
 have K3 : Keep h0 T3.heap ([o0] : List Addr) := Keep.trans (Keep.refl h0 ([o0] : List Addr)) K3q all0
 have N3 := Fr.app N0 N3q
 refine Home.run X3 hx hby sg3_39_4 (pc' := 45) (L' := #[sr o0, sr o1, si 0, si 4, .val .null, sr b1_3]) (S' := [(.int 4), (.ref b1_3), (.ref o0)]) rfl ?_
 refine Home.st (own_pure (own_static X3 hx hZ hown (own_w88 hw) (own_w89 hw) (own_w83 hw) (own_w90 hw) (by decide) (rm20_3 l Z a0 hw [] b1_3 k1_3 (u1.toInt8.toInt32) (u2.toInt8.toInt32) (u3.toInt8.toInt32) (u4.toInt8.toInt32) T3.heap n0 O3 P3_0) rfl rfl (by rw [hml]; rfl) (argsL := [(.ref b1_3), (.int 4)]) (rest := [(.ref o0)]) (lenOf own_pd17 rfl) rfl rfl (W := 1) (by exact hW0) (by decide) (by decide) (hb hby d3_45) (by decide) (by decide))) fun T4 X4 e4 => ?_
 show Home T4 (mkF m 48 #[sr o0, sr o1, si 0, si 4, .val .null, sr b1_3] [(.int 0), (.ref o0)])
 have q5 := (F_coder_o0.keep K3q nin0)
 refine Home.wr (putFN X4 hx hZ hown (own_w27 hw) Via.refl e4 q5 (E_o0.keep K3) (Or.inr ⟨(own_w23 hw), rfl, hnm⟩) (own_w7 hw) (ty := .byte) (v := (.int 0)) (v' := (.int 0)) (by decide) rfl rfl rfl rfl (hb hby d3_48)) fun T6 h6 X6 e6 W6 => ?_
 have Fw6 := q5.same W6
 have O6 := O3.wr W6 g_o0
 have K6 : Keep h0 h6 ([o0] : List Addr) := Keep.wr K3 W6 (Or.inl (List.mem_of_getElem? (i := 0) rfl))
 have N6 := Fr.snoc X6 N3 g_o0
 refine Home.run X6 hx hby sg3_51_2 (pc' := 54) (L' := #[sr o0, sr o1, si 0, si 4, .val .null, sr b1_3]) (S' := [(.ref b1_3), (.ref o0)]) rfl ?_
 have q7 := ((F_value_o0.keep K3q nin0).other W6 (Or.inr (slot_ne (Or.inr (own_w22 hw)) (Or.inr (own_w23 hw)) (by decide) (t := (.array .byte)) (t' := .byte) (by decide) (by decide))))
 refine Home.wr (putF X6 hx hZ hown (host := "") (Or.inl (own_w26 hw)) Via.refl e6 q7 (E_o0.keep K6) (Or.inr ⟨(own_w22 hw), rfl, hnm⟩) (own_w7 hw) (ty := (.array .byte)) (by decide) rfl rfl rfl rfl (hb hby d3_54)) fun T8 h8 X8 e8 W8 => ?_
 have Fw8 := q7.same W8
 have O8 := O6.wr W8 g_o0
 have K8 : Keep h0 h8 ([o0] : List Addr) := Keep.wr K6 W8 (Or.inl (List.mem_of_getElem? (i := 0) rfl))
 have N8 := Fr.snoc X8 N6 g_o0
 have q9 := (Fw6.other W8 (Or.inr (slot_ne (Or.inr (own_w23 hw)) (Or.inr (own_w22 hw)) (by decide) (t := .byte) (t' := (.array .byte)) (by decide) (by decide))))
 have ne10 : b1_3 ≠ o0 := (Ne.symm (Nat.ne_of_lt (Nat.lt_of_lt_of_le E_o0.lt (Nat.le_trans (Nat.le_refl _) sz_b1_3))))
 have q11 := ((P3_0.other W6 ne10).other W8 ne10)
 exact Home.ret0 X8 hx hlk hret (hb hby d3_57) (by rw [show T8.heap = h8 from e8]; exact ⟨b1_3, k1_3, rfl, N8, (Nat.le_trans (Nat.le_refl _) sz_b1_3), K8, (E_o0.keep K8), q9, Fw8, q11⟩) (by decide) (by decide)
theorem rm2_4 (l : Launch) (Z : State) (a0 : Array Value) (hw : HW a0 Z) (ws : List Jvm.Cond) (o0 o1 : Addr) (k_o1 : ClassId) (u1 u2 u3 u4 sv_COMPACT_STRINGS : Int32) (h0 : Heap) (n0 : Nat) (O0 : Old Z n0 h0) (V_o1 : Arv Z h0 o1 k_o1 .char (4 : Int32) [(.int u1), (.int u2), (.int u3), (.int u4)] (.int 0)) (S_COMPACT_STRINGS : Sta Z Z.heap "java/lang/String" "COMPACT_STRINGS" "Z" (.int sv_COMPACT_STRINGS)) (E_o0 : Exa Z h0 o0 "java/lang/String") (F_coder_o0 : Fld Z h0 o0 "java/lang/String" "coder" "B" (.int 0)) (F_value_o0 : Fld Z h0 o0 "java/lang/String" "value" "[B" .null) (bnd_u1 : ¬ u1 < (0 : Int32) ∧ ¬ (255 : Int32) < u1) (bnd_u2 : ¬ u2 < (0 : Int32) ∧ ¬ (255 : Int32) < u2) (bnd_u3 : ¬ u3 < (0 : Int32) ∧ ¬ (255 : Int32) < u3) (bnd_u4 : ¬ u4 < (0 : Int32) ∧ ¬ (255 : Int32) < u4) (g_o0 : n0 ≤ o0) (hCS : ¬ (sv_COMPACT_STRINGS = (0 : Int32))) :
    Con l Z (⟨"java/lang/String", "<init>", "([C)V"⟩ : MethodName) jdk_42_method_3_code 2 none ws ({ frames := 3, cells := 1, slots := 4, locals := 52 } : Room) #[(.ref o0), (.ref o1)] h0 (fun v h L => ∃ (b1_3_2 : Addr), ∃ (k1_3_2 : ClassId), v = none ∧ Fr n0 L ∧ h0.size ≤ b1_3_2 ∧ Keep h0 h [o0] ∧ Exa Z h o0 "java/lang/String" ∧ Fld Z h o0 "java/lang/String" "coder" "B" (.int 0) ∧ Fld Z h o0 "java/lang/String" "value" "[B" (.ref b1_3_2) ∧ Arv Z h b1_3_2 k1_3_2 .byte (4 : Int32) [(.int (u1.toInt8.toInt32)), (.int (u2.toInt8.toInt32)), (.int (u3.toInt8.toInt32)), (.int (u4.toInt8.toInt32))] (.int 0)) := by
 refine own_body (plainFor_of_name own_pn0) (fun m => ef_rm2_4 m o0 o1) ?_
 intro p e s m below meth c s₁ hx hby hlk hml hret hZ hown hnm X0 e0
 have N0 := Fr.nil n0
 refine Home.run X0 hx hby sg2_0_4 (pc' := 4) (L' := #[sr o0, sr o1]) (S' := [(.ref o1), (.int 0), (.ref o1), (.ref o0)]) rfl ?_
 obtain ⟨cl1, Ar1, q1, S1, M1, H1, G1⟩ := id V_o1
 refine Home.go (own_alen X0 hx hZ e0 Ar1 S1 M1 rfl rfl (hb hby d2_4)) ?_
 refine Home.run X0 hx hby sg2_5_1 (pc' := 6) (L' := #[sr o0, sr o1]) (S' := [.null, (.int 4), (.int 0), (.ref o1), (.ref o0)]) rfl ?_
 refine Home.call (own_special X0 hx hZ hown rfl (own_w13 hw) (own_w14 hw) (own_w8 hw) (own_w16 hw) (by decide) (rm3_4 l Z a0 hw [] o0 o1 sv_COMPACT_STRINGS k_o1 u1 u2 u3 u4 h0 n0 O0 S_COMPACT_STRINGS hCS V_o1 bnd_u1 bnd_u2 bnd_u3 bnd_u4 E_o0 F_coder_o0 g_o0 F_value_o0) e0 rfl (by rw [hml]; rfl) (a := o0) (argsL := [(.ref o1), (.int 0), (.int 4), .null]) (rest := []) (lenOf own_pd0 rfl) rfl rfl (W := 0) (by exact hW0) (by decide) (by decide) (hb hby d2_6) (by decide) (by decide)) ?_
 rintro _ T2 L2 X2 ⟨b1_3_2, k1_3_2, rfl, N2q, sz_b1_3_2, K2q, P2_0, P2_1, P2_2, P2_3⟩
 have g_b1_3_2 : n0 ≤ b1_3_2 := Nat.le_trans (Old.le O0) sz_b1_3_2
 have O2 := Old.keep O0 K2q (allS g_o0 all0)
 have K2 : Keep h0 T2.heap ([o0] : List Addr) := Keep.trans (Keep.refl h0 ([o0] : List Addr)) K2q (allS (Or.inl (List.mem_of_getElem? (i := 0) rfl)) all0)
 have N2 := Fr.app N0 N2q
 exact Home.ret0 X2 hx hlk hret (hb hby d2_9) ⟨b1_3_2, k1_3_2, rfl, N2, (Nat.le_trans (Nat.le_refl _) sz_b1_3_2), K2, P2_0, P2_1, P2_2, P2_3⟩ (by decide) (by decide)
theorem rm1_4 (l : Launch) (Z : State) (a0 : Array Value) (hw : HW a0 Z) (ws : List Jvm.Cond) (i1 i2 i3 i4 i5 i6 sv_COMPACT_STRINGS : Int32) (sv_SIOOBE_FORMATTER : Value) (h0 : Heap) (n0 : Nat) (O0 : Old Z n0 h0) (bnd_i1 : ¬ i1 < (0 : Int32) ∧ ¬ (57 : Int32) < i1) (bnd_i2 : ¬ i2 < (0 : Int32) ∧ ¬ (57 : Int32) < i2) (bnd_i3 : ¬ i3 < (0 : Int32) ∧ ¬ (57 : Int32) < i3) (bnd_i4 : ¬ i4 < (0 : Int32) ∧ ¬ (57 : Int32) < i4) (bnd_i5 : ¬ i5 < (0 : Int32) ∧ ¬ (57 : Int32) < i5) (bnd_i6 : ¬ i6 < (0 : Int32) ∧ ¬ (57 : Int32) < i6) (S_COMPACT_STRINGS : Sta Z Z.heap "java/lang/String" "COMPACT_STRINGS" "Z" (.int sv_COMPACT_STRINGS)) (S_SIOOBE_FORMATTER : Sta Z Z.heap "jdk/internal/util/Preconditions" "SIOOBE_FORMATTER" "Ljava/util/function/BiFunction;" sv_SIOOBE_FORMATTER) (hCS : ¬ (sv_COMPACT_STRINGS = (0 : Int32))) (isr_sv_SIOOBE_FORMATTER : sv_SIOOBE_FORMATTER.isRef = true) :
    ConW l Z own_EL ([] : List Addr) true (⟨"com/example/tryst/tryst/encoding/Base58DecodePinLaw", "build", "(IIIIIII)Ljava/lang/String;"⟩ : MethodName) method_4_code 7 (some (.object "java/lang/String")) ws ({ frames := 5, cells := 11, slots := 956, locals := 70 } : Room) #[(.int 4), (.int i1), (.int i2), (.int i3), (.int i4), (.int i5), (.int i6)] h0 (fun v h L => ∃ (b1 : Addr), ∃ (b1_3_2_23 : Addr), ∃ (k1_3_2_23 : ClassId), v = some (.ref b1) ∧ Fr n0 L ∧ h0.size ≤ b1 ∧ h0.size ≤ b1_3_2_23 ∧ Keep h0 h [] ∧ Exa Z h b1 "java/lang/String" ∧ Fld Z h b1 "java/lang/String" "value" "[B" (.ref b1_3_2_23) ∧ Fld Z h b1 "java/lang/String" "coder" "B" (.int 0) ∧ Arv Z h b1_3_2_23 k1_3_2_23 .byte (4 : Int32) [(.int ((nar .char ((own_at own_TI0 i1) &&& (255 : Int32))).toInt8.toInt32)), (.int ((nar .char ((own_at own_TI0 i2) &&& (255 : Int32))).toInt8.toInt32)), (.int ((nar .char ((own_at own_TI0 i3) &&& (255 : Int32))).toInt8.toInt32)), (.int ((nar .char ((own_at own_TI0 i4) &&& (255 : Int32))).toInt8.toInt32))] (.int 0)) := by
 refine own_bodyW (plainFor_of_name own_pn1) (fun m => ef_rm1_4 m (4 : Int32) i1 i2 i3 i4 i5 i6) ?_
 intro p e s m below meth c s₁ hx hby hlk hml hret hZ hown hnm X0 e0 Cd0
 have N0 := Fr.nil n0
 refine Home.run X0 hx hby sg1_0_1 (pc' := 1) (L' := #[si 4, si i1, si i2, si i3, si i4, si i5, si i6]) (S' := [(.int 4)]) rfl ?_
 refine Home.go (fun _ => XS.ifYes X0.here hx rfl (pc0 := 1) (pc' := 15) rfl (hb hby d1_1) rfl ((if0 _ _).trans (feq (by decide)).2) (by decide) (by decide)) ?_
 refine Home.run X0 hx hby sg1_15_2 (pc' := 17) (L' := #[si 4, si i1, si i2, si i3, si i4, si i5, si i6]) (S' := [(.int 1), (.int 4)]) rfl ?_
 refine Home.go (fun _ => XS.icmpYes X0.here hx rfl (pc0 := 17) (pc' := 38) rfl (hb hby d1_17) rfl (feq (by decide)).2 (by decide) (by decide)) ?_
 refine Home.run X0 hx hby sg1_38_2 (pc' := 40) (L' := #[si 4, si i1, si i2, si i3, si i4, si i5, si i6]) (S' := [(.int 2), (.int 4)]) rfl ?_
 refine Home.go (fun _ => XS.icmpYes X0.here hx rfl (pc0 := 40) (pc' := 68) rfl (hb hby d1_40) rfl (feq (by decide)).2 (by decide) (by decide)) ?_
 refine Home.run X0 hx hby sg1_68_2 (pc' := 70) (L' := #[si 4, si i1, si i2, si i3, si i4, si i5, si i6]) (S' := [(.int 3), (.int 4)]) rfl ?_
 refine Home.go (fun _ => XS.icmpYes X0.here hx rfl (pc0 := 70) (pc' := 105) rfl (hb hby d1_70) rfl (feq (by decide)).2 (by decide) (by decide)) ?_
 refine Home.run X0 hx hby sg1_105_2 (pc' := 107) (L' := #[si 4, si i1, si i2, si i3, si i4, si i5, si i6]) (S' := [(.int 4), (.int 4)]) rfl ?_
 refine Home.go (fun _ => XS.icmpNo X0.here hx rfl (hb hby d1_107) rfl (teq (by decide)).2) ?_
 refine Home.nw (own_newO X0 hx hZ hown (own_w6 hw) (own_w7 hw) (own_w8 hw) e0 rfl (hb hby d1_110) (by decide) (by decide)) fun T1 h1 b1 g1 X1 e1 E1 A1 D1 => ?_
 have g_b1 : n0 ≤ b1 := Nat.le_trans (Old.le O0) (Nat.le_of_eq g1.symm)
 have F_value_b1 : Fld Z h1 b1 "java/lang/String" "value" "[B" .null := D1 (Or.inr (own_w22 hw)) (ty := (.array .byte)) (by decide)
 have F_coder_b1 : Fld Z h1 b1 "java/lang/String" "coder" "B" (.int 0) := D1 (Or.inr (own_w23 hw)) (ty := .byte) (by decide)
 have O1 := O0.ext E1
 have K1 : Keep h0 h1 ([] : List Addr) := Keep.ext (Keep.refl h0 ([] : List Addr)) E1
 have Cd1 := Cold.add Cd0 E1 (Nat.le_of_eq g1.symm) A1.lt
 show Home T1 (mkF m 113 #[si 4, si i1, si i2, si i3, si i4, si i5, si i6] [(.ref b1)])
 refine Home.run X1 hx hby sg1_113_2 (pc' := 115) (L' := #[si 4, si i1, si i2, si i3, si i4, si i5, si i6]) (S' := [(.int 4), (.ref b1), (.ref b1)]) rfl ?_
 refine Home.na (own_newP (aty := .char) X1 hx hZ (own_w9 hw) e1 (g := (mkF m 115 #[.val (.int 4), .val (.int i1), .val (.int i2), .val (.int i3), .val (.int i4), .val (.int i5), .val (.int i6)] [(.int 4), (.ref b1), (.ref b1)])) rfl (hb hby d1_115) rfl (by decide) (cap := 4) (by decide) (by decide) (by decide) (by decide)) fun T2 h2 k2 b2 g2 X2 e2 E2 A2 => ?_
 have g_b2 : n0 ≤ b2 := Nat.le_trans (Old.le O1) (Nat.le_of_eq g2.symm)
 have V2 : Arv Z h2 b2 k2 .char (4 : Int32) [(.int 0), (.int 0), (.int 0), (.int 0)] (.int 0) := (Arv.new A2 (by decide)).pad (pad_rep [] (.int 0) 4)
 have O2 := O1.ext E2
 have K2 : Keep h0 h2 ([] : List Addr) := Keep.ext K1 E2
 have Cd2 := Cold.ext Cd1 E2
 refine Home.run X2 hx hby sg1_117_3 (pc' := 120) (L' := #[si 4, si i1, si i2, si i3, si i4, si i5, si i6]) (S' := [(.int i1), (.int 0), (.ref b2), (.ref b2), (.ref b1), (.ref b1)]) rfl ?_
 refine Home.call (own_staticW X2 hx hZ hown (own_hEL hw) Cd2 all0 (own_w55 hw) (own_w56 hw) (own_w4 hw) (own_w57 hw) (by decide) (rm12_0 l Z a0 hw [] i1 sv_COMPACT_STRINGS sv_SIOOBE_FORMATTER h2 n0 O2 bnd_i1 S_COMPACT_STRINGS S_SIOOBE_FORMATTER hCS isr_sv_SIOOBE_FORMATTER) e2 rfl (by rw [hml]; rfl) (argsL := [(.int i1)]) (rest := [(.int 0), (.ref b2), (.ref b2), (.ref b1), (.ref b1)]) (lenOf own_pd14 rfl) rfl rfl (W := 5) (by exact hW0) (by decide) (by decide) (hb hby d1_120) (by decide) (by decide)) ?_
 rintro _ T3 L3 X3 ⟨⟨rfl, N3q, K3q⟩, hZ, hown, Cd3, sR3⟩
 have O3 := Old.keep O2 K3q all0
 have K3 : Keep h0 T3.heap ([] : List Addr) := Keep.trans K2 K3q all0
 have N3 := Fr.app N0 N3q
 show Home T3 (mkF m 123 #[si 4, si i1, si i2, si i3, si i4, si i5, si i6] [(.int (nar .char ((own_at own_TI0 i1) &&& (255 : Int32)))), (.int 0), (.ref b2), (.ref b2), (.ref b1), (.ref b1)])
 obtain ⟨r4, hr4⟩ : ∃ z, z = (nar .char ((own_at own_TI0 i1) &&& (255 : Int32))) := ⟨_, rfl⟩
 rw [← hr4]
 have br4 : ¬ r4 < (0 : Int32) ∧ ¬ (255 : Int32) < r4 := by rw [hr4]; rw [nar_char_id (bnd_and (own_at own_TI0 i1) (255 : Int32) (by decide)) (by decide +kernel) (by decide +kernel)]; exact (bnd_and (own_at own_TI0 i1) (255 : Int32) (by decide))
 have q5 := (V2.keep K3q nin0)
 obtain ⟨cl6, Ar6, q6, S6, M6, H6, G6⟩ := id q5
 refine Home.wr (stC X3 hx hZ rfl Ar6 (j := (0 : Int32)) (inb_of S6 ⟨by decide, by decide⟩) rfl rfl (hb hby d1_123)) fun T6 h6 X6 e6 W6 => ?_
 have W6' := Wr.to W6 (congrArg Value.int (nar_char_id br4 (by decide +kernel) (by decide +kernel)))
 have V6 : Arv Z h6 b2 k2 .char (4 : Int32) [(.int r4), (.int 0), (.int 0), (.int 0)] (.int 0) := Arv.set Ar6 q6 S6 M6 H6 G6 (fits_char_b br4 (by decide +kernel) (by decide +kernel)) W6' 0 rfl (Nat.le_of_ble_eq_true rfl)
 have O6 := O3.wr W6 g_b2
 have K6 : Keep h0 h6 ([] : List Addr) := Keep.wr K3 W6 (Or.inr (Nat.le_trans E1.1 (Nat.le_of_eq g2.symm)))
 have Cd6 := Cold.wr Cd3 W6 (Safe.arv hZ.alike q5 (by simp))
 have N6 := Fr.snoc X6 N3 g_b2
 refine Home.run X6 hx hby sg1_124_3 (pc' := 127) (L' := #[si 4, si i1, si i2, si i3, si i4, si i5, si i6]) (S' := [(.int i2), (.int 1), (.ref b2), (.ref b2), (.ref b1), (.ref b1)]) rfl ?_
 refine Home.call (own_staticW X6 hx hZ hown (own_hEL hw) Cd6 all0 (own_w55 hw) (own_w56 hw) (own_w4 hw) (own_w57 hw) (by decide) (rm12_0 l Z a0 hw [] i2 sv_COMPACT_STRINGS sv_SIOOBE_FORMATTER h6 n0 O6 bnd_i2 S_COMPACT_STRINGS S_SIOOBE_FORMATTER hCS isr_sv_SIOOBE_FORMATTER) e6 rfl (by rw [hml]; rfl) (argsL := [(.int i2)]) (rest := [(.int 1), (.ref b2), (.ref b2), (.ref b1), (.ref b1)]) (lenOf own_pd14 rfl) rfl rfl (W := 5) (by exact hW0) (by decide) (by decide) (hb hby d1_127) (by decide) (by decide)) ?_
 rintro _ T7 L7 X7 ⟨⟨rfl, N7q, K7q⟩, hZ, hown, Cd7, sR7⟩
 have O7 := Old.keep O6 K7q all0
 have K7 : Keep h0 T7.heap ([] : List Addr) := Keep.trans K6 K7q all0
 have N7 := Fr.app N6 N7q
 show Home T7 (mkF m 130 #[si 4, si i1, si i2, si i3, si i4, si i5, si i6] [(.int (nar .char ((own_at own_TI0 i2) &&& (255 : Int32)))), (.int 1), (.ref b2), (.ref b2), (.ref b1), (.ref b1)])
 obtain ⟨r8, hr8⟩ : ∃ z, z = (nar .char ((own_at own_TI0 i2) &&& (255 : Int32))) := ⟨_, rfl⟩
 rw [← hr8]
 have br8 : ¬ r8 < (0 : Int32) ∧ ¬ (255 : Int32) < r8 := by rw [hr8]; rw [nar_char_id (bnd_and (own_at own_TI0 i2) (255 : Int32) (by decide)) (by decide +kernel) (by decide +kernel)]; exact (bnd_and (own_at own_TI0 i2) (255 : Int32) (by decide))
 have q9 := (V6.keep K7q nin0)
 obtain ⟨cl10, Ar10, q10, S10, M10, H10, G10⟩ := id q9
 refine Home.wr (stC X7 hx hZ rfl Ar10 (j := (1 : Int32)) (inb_of S10 ⟨by decide, by decide⟩) rfl rfl (hb hby d1_130)) fun T10 h10 X10 e10 W10 => ?_
 have W10' := Wr.to W10 (congrArg Value.int (nar_char_id br8 (by decide +kernel) (by decide +kernel)))
 have V10 : Arv Z h10 b2 k2 .char (4 : Int32) [(.int r4), (.int r8), (.int 0), (.int 0)] (.int 0) := Arv.set Ar10 q10 S10 M10 H10 G10 (fits_char_b br8 (by decide +kernel) (by decide +kernel)) W10' 1 rfl (Nat.le_of_ble_eq_true rfl)
 have O10 := O7.wr W10 g_b2
 have K10 : Keep h0 h10 ([] : List Addr) := Keep.wr K7 W10 (Or.inr (Nat.le_trans E1.1 (Nat.le_of_eq g2.symm)))
 have Cd10 := Cold.wr Cd7 W10 (Safe.arv hZ.alike q9 (by simp))
 have N10 := Fr.snoc X10 N7 g_b2
 refine Home.run X10 hx hby sg1_131_3 (pc' := 134) (L' := #[si 4, si i1, si i2, si i3, si i4, si i5, si i6]) (S' := [(.int i3), (.int 2), (.ref b2), (.ref b2), (.ref b1), (.ref b1)]) rfl ?_
 refine Home.call (own_staticW X10 hx hZ hown (own_hEL hw) Cd10 all0 (own_w55 hw) (own_w56 hw) (own_w4 hw) (own_w57 hw) (by decide) (rm12_0 l Z a0 hw [] i3 sv_COMPACT_STRINGS sv_SIOOBE_FORMATTER h10 n0 O10 bnd_i3 S_COMPACT_STRINGS S_SIOOBE_FORMATTER hCS isr_sv_SIOOBE_FORMATTER) e10 rfl (by rw [hml]; rfl) (argsL := [(.int i3)]) (rest := [(.int 2), (.ref b2), (.ref b2), (.ref b1), (.ref b1)]) (lenOf own_pd14 rfl) rfl rfl (W := 5) (by exact hW0) (by decide) (by decide) (hb hby d1_134) (by decide) (by decide)) ?_
 rintro _ T11 L11 X11 ⟨⟨rfl, N11q, K11q⟩, hZ, hown, Cd11, sR11⟩
 have O11 := Old.keep O10 K11q all0
 have K11 : Keep h0 T11.heap ([] : List Addr) := Keep.trans K10 K11q all0
 have N11 := Fr.app N10 N11q
 show Home T11 (mkF m 137 #[si 4, si i1, si i2, si i3, si i4, si i5, si i6] [(.int (nar .char ((own_at own_TI0 i3) &&& (255 : Int32)))), (.int 2), (.ref b2), (.ref b2), (.ref b1), (.ref b1)])
 obtain ⟨r12, hr12⟩ : ∃ z, z = (nar .char ((own_at own_TI0 i3) &&& (255 : Int32))) := ⟨_, rfl⟩
 rw [← hr12]
 have br12 : ¬ r12 < (0 : Int32) ∧ ¬ (255 : Int32) < r12 := by rw [hr12]; rw [nar_char_id (bnd_and (own_at own_TI0 i3) (255 : Int32) (by decide)) (by decide +kernel) (by decide +kernel)]; exact (bnd_and (own_at own_TI0 i3) (255 : Int32) (by decide))
 have q13 := (V10.keep K11q nin0)
 obtain ⟨cl14, Ar14, q14, S14, M14, H14, G14⟩ := id q13
 refine Home.wr (stC X11 hx hZ rfl Ar14 (j := (2 : Int32)) (inb_of S14 ⟨by decide, by decide⟩) rfl rfl (hb hby d1_137)) fun T14 h14 X14 e14 W14 => ?_
 have W14' := Wr.to W14 (congrArg Value.int (nar_char_id br12 (by decide +kernel) (by decide +kernel)))
 have V14 : Arv Z h14 b2 k2 .char (4 : Int32) [(.int r4), (.int r8), (.int r12), (.int 0)] (.int 0) := Arv.set Ar14 q14 S14 M14 H14 G14 (fits_char_b br12 (by decide +kernel) (by decide +kernel)) W14' 2 rfl (Nat.le_of_ble_eq_true rfl)
 have O14 := O11.wr W14 g_b2
 have K14 : Keep h0 h14 ([] : List Addr) := Keep.wr K11 W14 (Or.inr (Nat.le_trans E1.1 (Nat.le_of_eq g2.symm)))
 have Cd14 := Cold.wr Cd11 W14 (Safe.arv hZ.alike q13 (by simp))
 have N14 := Fr.snoc X14 N11 g_b2
 refine Home.run X14 hx hby sg1_138_3 (pc' := 142) (L' := #[si 4, si i1, si i2, si i3, si i4, si i5, si i6]) (S' := [(.int i4), (.int 3), (.ref b2), (.ref b2), (.ref b1), (.ref b1)]) rfl ?_
 refine Home.call (own_staticW X14 hx hZ hown (own_hEL hw) Cd14 all0 (own_w55 hw) (own_w56 hw) (own_w4 hw) (own_w57 hw) (by decide) (rm12_0 l Z a0 hw [] i4 sv_COMPACT_STRINGS sv_SIOOBE_FORMATTER h14 n0 O14 bnd_i4 S_COMPACT_STRINGS S_SIOOBE_FORMATTER hCS isr_sv_SIOOBE_FORMATTER) e14 rfl (by rw [hml]; rfl) (argsL := [(.int i4)]) (rest := [(.int 3), (.ref b2), (.ref b2), (.ref b1), (.ref b1)]) (lenOf own_pd14 rfl) rfl rfl (W := 5) (by exact hW0) (by decide) (by decide) (hb hby d1_142) (by decide) (by decide)) ?_
 rintro _ T15 L15 X15 ⟨⟨rfl, N15q, K15q⟩, hZ, hown, Cd15, sR15⟩
 have O15 := Old.keep O14 K15q all0
 have K15 : Keep h0 T15.heap ([] : List Addr) := Keep.trans K14 K15q all0
 have N15 := Fr.app N14 N15q
 show Home T15 (mkF m 145 #[si 4, si i1, si i2, si i3, si i4, si i5, si i6] [(.int (nar .char ((own_at own_TI0 i4) &&& (255 : Int32)))), (.int 3), (.ref b2), (.ref b2), (.ref b1), (.ref b1)])
 obtain ⟨r16, hr16⟩ : ∃ z, z = (nar .char ((own_at own_TI0 i4) &&& (255 : Int32))) := ⟨_, rfl⟩
 rw [← hr16]
 have br16 : ¬ r16 < (0 : Int32) ∧ ¬ (255 : Int32) < r16 := by rw [hr16]; rw [nar_char_id (bnd_and (own_at own_TI0 i4) (255 : Int32) (by decide)) (by decide +kernel) (by decide +kernel)]; exact (bnd_and (own_at own_TI0 i4) (255 : Int32) (by decide))
 have q17 := (V14.keep K15q nin0)
 obtain ⟨cl18, Ar18, q18, S18, M18, H18, G18⟩ := id q17
 refine Home.wr (stC X15 hx hZ rfl Ar18 (j := (3 : Int32)) (inb_of S18 ⟨by decide, by decide⟩) rfl rfl (hb hby d1_145)) fun T18 h18 X18 e18 W18 => ?_
 have W18' := Wr.to W18 (congrArg Value.int (nar_char_id br16 (by decide +kernel) (by decide +kernel)))
 have V18 : Arv Z h18 b2 k2 .char (4 : Int32) [(.int r4), (.int r8), (.int r12), (.int r16)] (.int 0) := Arv.set Ar18 q18 S18 M18 H18 G18 (fits_char_b br16 (by decide +kernel) (by decide +kernel)) W18' 3 rfl (Nat.le_of_ble_eq_true rfl)
 have O18 := O15.wr W18 g_b2
 have K18 : Keep h0 h18 ([] : List Addr) := Keep.wr K15 W18 (Or.inr (Nat.le_trans E1.1 (Nat.le_of_eq g2.symm)))
 have Cd18 := Cold.wr Cd15 W18 (Safe.arv hZ.alike q17 (by simp))
 have N18 := Fr.snoc X18 N15 g_b2
 have q19 := (((((((((A1.ext E2).keep K3q).wr W6).keep K7q).wr W10).keep K11q).wr W14).keep K15q).wr W18)
 have ne20 : b1 ≠ b2 := (Nat.ne_of_lt (Nat.lt_of_lt_of_le A1.lt (Nat.le_trans (Nat.le_refl _) (Nat.le_of_eq g2.symm))))
 have q21 := (((((((((F_coder_b1.ext E2).keep K3q nin0).other W6 (Or.inl ne20)).keep K7q nin0).other W10 (Or.inl ne20)).keep K11q nin0).other W14 (Or.inl ne20)).keep K15q nin0).other W18 (Or.inl ne20))
 have q22 := (((((((((F_value_b1.ext E2).keep K3q nin0).other W6 (Or.inl ne20)).keep K7q nin0).other W10 (Or.inl ne20)).keep K11q nin0).other W14 (Or.inl ne20)).keep K15q nin0).other W18 (Or.inl ne20))
 refine Home.call (own_special X18 hx hZ hown rfl (own_w10 hw) (own_w11 hw) (own_w8 hw) (own_w12 hw) (by decide) (rm2_4 l Z a0 hw [] b1 b2 k2 r4 r8 r12 r16 sv_COMPACT_STRINGS h18 n0 O18 V18 S_COMPACT_STRINGS q19 q21 q22 br4 br8 br12 br16 g_b1 hCS) e18 rfl (by rw [hml]; rfl) (a := b1) (argsL := [(.ref b2)]) (rest := [(.ref b1)]) (lenOf own_pd1 rfl) rfl rfl (W := 1) (by exact hW0) (by decide) (by decide) (hb hby d1_146) (by decide) (by decide)) ?_
 rintro _ T23 L23 X23 ⟨b1_3_2_23, k1_3_2_23, rfl, N23q, sz_b1_3_2_23, K23q, P23_0, P23_1, P23_2, P23_3⟩
 have Cd23 := Cold.keep Cd18 K23q (allS (Cold.safe Cd18 (List.mem_of_getElem? (i := 0) rfl)) all0)
 have Cd23b1_3_2_23 := Cold.put Cd23 ⟨Safe.keep K23q (allS (Cold.safe Cd18 (List.mem_of_getElem? (i := 0) rfl)) all0) Cd18.2.1.1 (Safe.new sz_b1_3_2_23), P23_3.lt⟩
 have g_b1_3_2_23 : n0 ≤ b1_3_2_23 := Nat.le_trans (Old.le O18) sz_b1_3_2_23
 have O23 := Old.keep O18 K23q (allS g_b1 all0)
 have K23 : Keep h0 T23.heap ([] : List Addr) := Keep.trans K18 K23q (allS (Or.inr (Nat.le_trans (Nat.le_refl _) (Nat.le_of_eq g1.symm))) all0)
 have N23 := Fr.app N18 N23q
 show Home T23 (mkF m 149 #[si 4, si i1, si i2, si i3, si i4, si i5, si i6] [(.ref b1)])
 have le24 : h0.size ≤ h2.size := Nat.le_trans E1.1 E2.1
 have le25 : h0.size ≤ T3.heap.size := Nat.le_trans le24 K3q.1
 have le26 : h0.size ≤ h6.size := Nat.le_trans le25 (Nat.le_of_eq W6.size.symm)
 have le27 : h0.size ≤ T7.heap.size := Nat.le_trans le26 K7q.1
 have le28 : h0.size ≤ h10.size := Nat.le_trans le27 (Nat.le_of_eq W10.size.symm)
 have le29 : h0.size ≤ T11.heap.size := Nat.le_trans le28 K11q.1
 have le30 : h0.size ≤ h14.size := Nat.le_trans le29 (Nat.le_of_eq W14.size.symm)
 have le31 : h0.size ≤ T15.heap.size := Nat.le_trans le30 K15q.1
 have le32 : h0.size ≤ h18.size := Nat.le_trans le31 (Nat.le_of_eq W18.size.symm)
 subst hr16
 subst hr12
 subst hr8
 subst hr4
 exact HomeW.retR X23 hx hlk hZ (own_hEL hw) rfl Cd23b1_3_2_23 (fun _ _ q => by cases q; exact (List.mem_of_getElem? (i := 1) rfl)) hret rfl rfl (hb hby d1_149) ⟨b1, b1_3_2_23, k1_3_2_23, rfl, N23, (Nat.le_trans (Nat.le_refl _) (Nat.le_of_eq g1.symm)), (Nat.le_trans le32 sz_b1_3_2_23), K23, P23_0, P23_2, P23_1, P23_3⟩ (by decide) (by decide)
theorem rm8_4 (l : Launch) (Z : State) (a0 : Array Value) (hw : HW a0 Z) (ws : List Jvm.Cond) (i1 i2 i3 i4 i5 i6 : Int32) (h0 : Heap) (n0 : Nat) (O0 : Old Z n0 h0) (bnd_i1 : ¬ i1 < (0 : Int32) ∧ ¬ (57 : Int32) < i1) (bnd_i2 : ¬ i2 < (0 : Int32) ∧ ¬ (57 : Int32) < i2) (bnd_i3 : ¬ i3 < (0 : Int32) ∧ ¬ (57 : Int32) < i3) (bnd_i4 : ¬ i4 < (0 : Int32) ∧ ¬ (57 : Int32) < i4) (bnd_i5 : ¬ i5 < (0 : Int32) ∧ ¬ (57 : Int32) < i5) (bnd_i6 : ¬ i6 < (0 : Int32) ∧ ¬ (57 : Int32) < i6) :
    Con l Z (⟨"com/example/tryst/tryst/encoding/Base58DecodePinLaw", "leadingZeros", "(IIIIIII)I"⟩ : MethodName) method_5_code 7 (some .int) ws ({ frames := 0, cells := 0, slots := 0, locals := 0 } : Room) #[(.int 4), (.int i1), (.int i2), (.int i3), (.int i4), (.int i5), (.int i6)] h0 (Pur (some (.int (f_rm8_4 i1 i2 i3 i4))) h0) := by
 refine own_body (plainFor_of_name own_pn1) (fun m => ef_rm8_4 m (4 : Int32) i1 i2 i3 i4 i5 i6) ?_
 intro p e s m below meth c s₁ hx hby hlk hml hret hZ hown hnm X0 e0
 have N0 := Fr.nil n0
 refine Home.run X0 hx hby sg8_0_2 (pc' := 2) (L' := #[si 4, si i1, si i2, si i3, si i4, si i5, si i6]) (S' := [(.int 1), (.int 4)]) rfl ?_
 refine Home.go (fun _ => XS.icmpNo X0.here hx rfl (hb hby d8_2) rfl (flt (by decide)).1) ?_
 refine Home.run X0 hx hby sg8_5_1 (pc' := 6) (L' := #[si 4, si i1, si i2, si i3, si i4, si i5, si i6]) (S' := [(.int i1)]) rfl ?_
 by_cases c1 : i1 = (0 : Int32)
 ·
  refine Home.go (fun _ => XS.ifYes X0.here hx rfl (pc0 := 6) (pc' := 11) rfl (hb hby d8_6) rfl ((if0 _ _).trans (teq c1).1) (by decide) (by decide)) ?_
  have bd2 : ¬ i1 < (0 : Int32) ∧ ¬ (0 : Int32) < i1 := ⟨(bnd_eql c1), (bnd_eqr c1)⟩
  refine Home.run X0 hx hby sg8_11_2 (pc' := 13) (L' := #[si 4, si i1, si i2, si i3, si i4, si i5, si i6]) (S' := [(.int 2), (.int 4)]) rfl ?_
  refine Home.go (fun _ => XS.icmpNo X0.here hx rfl (hb hby d8_13) rfl (flt (by decide)).1) ?_
  refine Home.run X0 hx hby sg8_16_1 (pc' := 17) (L' := #[si 4, si i1, si i2, si i3, si i4, si i5, si i6]) (S' := [(.int i2)]) rfl ?_
  by_cases c4 : i2 = (0 : Int32)
  ·
   refine Home.go (fun _ => XS.ifYes X0.here hx rfl (pc0 := 17) (pc' := 22) rfl (hb hby d8_17) rfl ((if0 _ _).trans (teq c4).1) (by decide) (by decide)) ?_
   have bd5 : ¬ i2 < (0 : Int32) ∧ ¬ (0 : Int32) < i2 := ⟨(bnd_eql c4), (bnd_eqr c4)⟩
   refine Home.run X0 hx hby sg8_22_2 (pc' := 24) (L' := #[si 4, si i1, si i2, si i3, si i4, si i5, si i6]) (S' := [(.int 3), (.int 4)]) rfl ?_
   refine Home.go (fun _ => XS.icmpNo X0.here hx rfl (hb hby d8_24) rfl (flt (by decide)).1) ?_
   refine Home.run X0 hx hby sg8_27_1 (pc' := 28) (L' := #[si 4, si i1, si i2, si i3, si i4, si i5, si i6]) (S' := [(.int i3)]) rfl ?_
   by_cases c7 : i3 = (0 : Int32)
   ·
    refine Home.go (fun _ => XS.ifYes X0.here hx rfl (pc0 := 28) (pc' := 33) rfl (hb hby d8_28) rfl ((if0 _ _).trans (teq c7).1) (by decide) (by decide)) ?_
    have bd8 : ¬ i3 < (0 : Int32) ∧ ¬ (0 : Int32) < i3 := ⟨(bnd_eql c7), (bnd_eqr c7)⟩
    refine Home.run X0 hx hby sg8_33_2 (pc' := 35) (L' := #[si 4, si i1, si i2, si i3, si i4, si i5, si i6]) (S' := [(.int 4), (.int 4)]) rfl ?_
    refine Home.go (fun _ => XS.icmpNo X0.here hx rfl (hb hby d8_35) rfl (flt (by decide)).1) ?_
    refine Home.run X0 hx hby sg8_38_1 (pc' := 40) (L' := #[si 4, si i1, si i2, si i3, si i4, si i5, si i6]) (S' := [(.int i4)]) rfl ?_
    by_cases c10 : i4 = (0 : Int32)
    ·
     refine Home.go (fun _ => XS.ifYes X0.here hx rfl (pc0 := 40) (pc' := 45) rfl (hb hby d8_40) rfl ((if0 _ _).trans (teq c10).1) (by decide) (by decide)) ?_
     have bd11 : ¬ i4 < (0 : Int32) ∧ ¬ (0 : Int32) < i4 := ⟨(bnd_eql c10), (bnd_eqr c10)⟩
     refine Home.run X0 hx hby sg8_45_2 (pc' := 47) (L' := #[si 4, si i1, si i2, si i3, si i4, si i5, si i6]) (S' := [(.int 5), (.int 4)]) rfl ?_
     refine Home.go (fun _ => XS.icmpYes X0.here hx rfl (pc0 := 47) (pc' := 55) rfl (hb hby d8_47) rfl (tlt (by decide)).1 (by decide) (by decide)) ?_
     refine Home.run X0 hx hby sg8_55_1 (pc' := 56) (L' := #[si 4, si i1, si i2, si i3, si i4, si i5, si i6]) (S' := [(.int 4)]) rfl ?_
     exact Home.retI X0 hx hlk hret (hb hby d8_56) ⟨congrArg some (congrArg Value.int (by first | rfl | (simp only [f_rm8_4, if_pos c1, if_pos c4, if_pos c7, if_pos c10, nar_i2c, nar_i2b] <;> rfl) | (simp [f_rm8_4, if_pos c1, if_pos c4, if_pos c7, if_pos c10]; done))), rfl, e0⟩ (by decide) (by decide)
    ·
     refine Home.go (fun _ => XS.ifNo X0.here hx rfl (hb hby d8_40) rfl ((if0 _ _).trans (feq c10).1)) ?_
     have bd12 : ¬ i4 < (1 : Int32) ∧ ¬ (57 : Int32) < i4 := ⟨(bnd_nel bnd_i4.1 c10 (by decide +kernel)), bnd_i4.2⟩
     refine Home.run X0 hx hby sg8_43_1 (pc' := 44) (L' := #[si 4, si i1, si i2, si i3, si i4, si i5, si i6]) (S' := [(.int 3)]) rfl ?_
     exact Home.retI X0 hx hlk hret (hb hby d8_44) ⟨congrArg some (congrArg Value.int (by first | rfl | (simp only [f_rm8_4, if_pos c1, if_pos c4, if_pos c7, if_neg c10, nar_i2c, nar_i2b] <;> rfl) | (simp [f_rm8_4, if_pos c1, if_pos c4, if_pos c7, if_neg c10]; done))), rfl, e0⟩ (by decide) (by decide)
   ·
    refine Home.go (fun _ => XS.ifNo X0.here hx rfl (hb hby d8_28) rfl ((if0 _ _).trans (feq c7).1)) ?_
    have bd9 : ¬ i3 < (1 : Int32) ∧ ¬ (57 : Int32) < i3 := ⟨(bnd_nel bnd_i3.1 c7 (by decide +kernel)), bnd_i3.2⟩
    refine Home.run X0 hx hby sg8_31_1 (pc' := 32) (L' := #[si 4, si i1, si i2, si i3, si i4, si i5, si i6]) (S' := [(.int 2)]) rfl ?_
    exact Home.retI X0 hx hlk hret (hb hby d8_32) ⟨congrArg some (congrArg Value.int (by first | rfl | (simp only [f_rm8_4, if_pos c1, if_pos c4, if_neg c7, nar_i2c, nar_i2b] <;> rfl) | (simp [f_rm8_4, if_pos c1, if_pos c4, if_neg c7]; done))), rfl, e0⟩ (by decide) (by decide)
  ·
   refine Home.go (fun _ => XS.ifNo X0.here hx rfl (hb hby d8_17) rfl ((if0 _ _).trans (feq c4).1)) ?_
   have bd6 : ¬ i2 < (1 : Int32) ∧ ¬ (57 : Int32) < i2 := ⟨(bnd_nel bnd_i2.1 c4 (by decide +kernel)), bnd_i2.2⟩
   refine Home.run X0 hx hby sg8_20_1 (pc' := 21) (L' := #[si 4, si i1, si i2, si i3, si i4, si i5, si i6]) (S' := [(.int 1)]) rfl ?_
   exact Home.retI X0 hx hlk hret (hb hby d8_21) ⟨congrArg some (congrArg Value.int (by first | rfl | (simp only [f_rm8_4, if_pos c1, if_neg c4, nar_i2c, nar_i2b] <;> rfl) | (simp [f_rm8_4, if_pos c1, if_neg c4]; done))), rfl, e0⟩ (by decide) (by decide)
 ·
  refine Home.go (fun _ => XS.ifNo X0.here hx rfl (hb hby d8_6) rfl ((if0 _ _).trans (feq c1).1)) ?_
  have bd3 : ¬ i1 < (1 : Int32) ∧ ¬ (57 : Int32) < i1 := ⟨(bnd_nel bnd_i1.1 c1 (by decide +kernel)), bnd_i1.2⟩
  refine Home.run X0 hx hby sg8_9_1 (pc' := 10) (L' := #[si 4, si i1, si i2, si i3, si i4, si i5, si i6]) (S' := [(.int 0)]) rfl ?_
  exact Home.retI X0 hx hlk hret (hb hby d8_10) ⟨congrArg some (congrArg Value.int (by first | rfl | (simp only [f_rm8_4, if_neg c1, nar_i2c, nar_i2b] <;> rfl) | (simp [f_rm8_4, if_neg c1]; done))), rfl, e0⟩ (by decide) (by decide)
theorem f_rm8_4_bnd (i1 : Int32) (i2 : Int32) (i3 : Int32) (i4 : Int32) (i5 : Int32) (i6 : Int32) (bnd_i1 : ¬ i1 < (0 : Int32) ∧ ¬ (57 : Int32) < i1) (bnd_i2 : ¬ i2 < (0 : Int32) ∧ ¬ (57 : Int32) < i2) (bnd_i3 : ¬ i3 < (0 : Int32) ∧ ¬ (57 : Int32) < i3) (bnd_i4 : ¬ i4 < (0 : Int32) ∧ ¬ (57 : Int32) < i4) (bnd_i5 : ¬ i5 < (0 : Int32) ∧ ¬ (57 : Int32) < i5) (bnd_i6 : ¬ i6 < (0 : Int32) ∧ ¬ (57 : Int32) < i6) : ¬ (f_rm8_4 i1 i2 i3 i4) < (0 : Int32) ∧ ¬ (4 : Int32) < (f_rm8_4 i1 i2 i3 i4) := by unfold f_rm8_4; (repeat' split) <;> first | exact bnd_mono (bnd_lit (4 : Int32)) (by decide +kernel) (by decide +kernel) | exact bnd_mono (bnd_lit (3 : Int32)) (by decide +kernel) (by decide +kernel) | exact bnd_mono (bnd_lit (2 : Int32)) (by decide +kernel) (by decide +kernel) | exact bnd_mono (bnd_lit (1 : Int32)) (by decide +kernel) (by decide +kernel) | exact bnd_mono (bnd_lit (0 : Int32)) (by decide +kernel) (by decide +kernel)
theorem rm9_4 (l : Launch) (Z : State) (a0 : Array Value) (hw : HW a0 Z) (ws : List Jvm.Cond) (i1 i2 i3 i4 i5 i6 : Int32) (h0 : Heap) (n0 : Nat) (O0 : Old Z n0 h0) (bnd_i1 : ¬ i1 < (0 : Int32) ∧ ¬ (57 : Int32) < i1) (bnd_i2 : ¬ i2 < (0 : Int32) ∧ ¬ (57 : Int32) < i2) (bnd_i3 : ¬ i3 < (0 : Int32) ∧ ¬ (57 : Int32) < i3) (bnd_i4 : ¬ i4 < (0 : Int32) ∧ ¬ (57 : Int32) < i4) (bnd_i5 : ¬ i5 < (0 : Int32) ∧ ¬ (57 : Int32) < i5) (bnd_i6 : ¬ i6 < (0 : Int32) ∧ ¬ (57 : Int32) < i6) :
    Con l Z (⟨"com/example/tryst/tryst/encoding/Base58DecodePinLaw", "value", "(IIIIIII)J"⟩ : MethodName) method_6_code 9 (some .long) ws ({ frames := 0, cells := 0, slots := 0, locals := 0 } : Room) #[(.int 4), (.int i1), (.int i2), (.int i3), (.int i4), (.int i5), (.int i6)] h0 (Pur (some (.long (((((((i1.toInt64) * (58 : Int64)) + (i2.toInt64)) * (58 : Int64)) + (i3.toInt64)) * (58 : Int64)) + (i4.toInt64)))) h0) := by
 refine own_body (plainFor_of_name own_pn1) (fun m => ef_rm9_4 m (4 : Int32) i1 i2 i3 i4 i5 i6) ?_
 intro p e s m below meth c s₁ hx hby hlk hml hret hZ hown hnm X0 e0
 have N0 := Fr.nil n0
 refine Home.run X0 hx hby sg9_0_3 (pc' := 4) (L' := #[si 4, si i1, si i2, si i3, si i4, si i5, si i6, .val (.long (0 : Int64)), .second]) (S' := [(.int 4)]) rfl ?_
 refine Home.go (fun _ => XS.ifNo X0.here hx rfl (hb hby d9_4) rfl ((if0 _ _).trans (tlt (by decide)).2.2.2)) ?_
 refine Home.run X0 hx hby sg9_7_5 (pc' := 13) (L' := #[si 4, si i1, si i2, si i3, si i4, si i5, si i6, .val (.long (i1.toInt64)), .second]) (S' := [(.int 1), (.int 4)]) rfl ?_
 refine Home.go (fun _ => XS.icmpNo X0.here hx rfl (hb hby d9_13) rfl (tlt (by decide)).2.2.2) ?_
 refine Home.run X0 hx hby sg9_16_1 (pc' := 18) (L' := #[si 4, si i1, si i2, si i3, si i4, si i5, si i6, .val (.long (i1.toInt64)), .second]) (S' := [(.long (i1.toInt64))]) rfl ?_
 refine Home.go (X0.ldc2Long hx hown (mvT hZ (own_w120 hw)) rfl (hb hby d9_18)) ?_
 refine Home.run X0 hx hby sg9_21_7 (pc' := 29) (L' := #[si 4, si i1, si i2, si i3, si i4, si i5, si i6, .val (.long (((i1.toInt64) * (58 : Int64)) + (i2.toInt64))), .second]) (S' := [(.int 2), (.int 4)]) rfl ?_
 refine Home.go (fun _ => XS.icmpNo X0.here hx rfl (hb hby d9_29) rfl (tlt (by decide)).2.2.2) ?_
 refine Home.run X0 hx hby sg9_32_1 (pc' := 34) (L' := #[si 4, si i1, si i2, si i3, si i4, si i5, si i6, .val (.long (((i1.toInt64) * (58 : Int64)) + (i2.toInt64))), .second]) (S' := [(.long (((i1.toInt64) * (58 : Int64)) + (i2.toInt64)))]) rfl ?_
 refine Home.go (X0.ldc2Long hx hown (mvT hZ (own_w120 hw)) rfl (hb hby d9_34)) ?_
 refine Home.run X0 hx hby sg9_37_7 (pc' := 45) (L' := #[si 4, si i1, si i2, si i3, si i4, si i5, si i6, .val (.long (((((i1.toInt64) * (58 : Int64)) + (i2.toInt64)) * (58 : Int64)) + (i3.toInt64))), .second]) (S' := [(.int 3), (.int 4)]) rfl ?_
 refine Home.go (fun _ => XS.icmpNo X0.here hx rfl (hb hby d9_45) rfl (tlt (by decide)).2.2.2) ?_
 refine Home.run X0 hx hby sg9_48_1 (pc' := 50) (L' := #[si 4, si i1, si i2, si i3, si i4, si i5, si i6, .val (.long (((((i1.toInt64) * (58 : Int64)) + (i2.toInt64)) * (58 : Int64)) + (i3.toInt64))), .second]) (S' := [(.long (((((i1.toInt64) * (58 : Int64)) + (i2.toInt64)) * (58 : Int64)) + (i3.toInt64)))]) rfl ?_
 refine Home.go (X0.ldc2Long hx hown (mvT hZ (own_w120 hw)) rfl (hb hby d9_50)) ?_
 show Home s₁ (mkF m 53 #[si 4, si i1, si i2, si i3, si i4, si i5, si i6, .val (.long (((((i1.toInt64) * (58 : Int64)) + (i2.toInt64)) * (58 : Int64)) + (i3.toInt64))), .second] [(.long (58 : Int64)), (.long (((((i1.toInt64) * (58 : Int64)) + (i2.toInt64)) * (58 : Int64)) + (i3.toInt64)))])
 refine Home.run X0 hx hby sg9_53_7 (pc' := 62) (L' := #[si 4, si i1, si i2, si i3, si i4, si i5, si i6, .val (.long (((((((i1.toInt64) * (58 : Int64)) + (i2.toInt64)) * (58 : Int64)) + (i3.toInt64)) * (58 : Int64)) + (i4.toInt64))), .second]) (S' := [(.int 4), (.int 4)]) rfl ?_
 refine Home.go (fun _ => XS.icmpYes X0.here hx rfl (pc0 := 62) (pc' := 77) rfl (hb hby d9_62) rfl (flt (by decide)).2.2.2 (by decide) (by decide)) ?_
 refine Home.run X0 hx hby sg9_77_2 (pc' := 79) (L' := #[si 4, si i1, si i2, si i3, si i4, si i5, si i6, .val (.long (((((((i1.toInt64) * (58 : Int64)) + (i2.toInt64)) * (58 : Int64)) + (i3.toInt64)) * (58 : Int64)) + (i4.toInt64))), .second]) (S' := [(.int 5), (.int 4)]) rfl ?_
 refine Home.go (fun _ => XS.icmpYes X0.here hx rfl (pc0 := 79) (pc' := 94) rfl (hb hby d9_79) rfl (flt (by decide)).2.2.2 (by decide) (by decide)) ?_
 refine Home.run X0 hx hby sg9_94_1 (pc' := 96) (L' := #[si 4, si i1, si i2, si i3, si i4, si i5, si i6, .val (.long (((((((i1.toInt64) * (58 : Int64)) + (i2.toInt64)) * (58 : Int64)) + (i3.toInt64)) * (58 : Int64)) + (i4.toInt64))), .second]) (S' := [(.long (((((((i1.toInt64) * (58 : Int64)) + (i2.toInt64)) * (58 : Int64)) + (i3.toInt64)) * (58 : Int64)) + (i4.toInt64)))]) rfl ?_
 exact Home.retJ X0 hx hlk hret (hb hby d9_96) ⟨rfl, rfl, e0⟩ (by decide) (by decide)
theorem rm19_4 (l : Launch) (Z : State) (a0 : Array Value) (hw : HW a0 Z) (ws : List Jvm.Cond) (o0 o2 : Addr) (k_o0 : ClassId) (u1 u2 u3 u4 u5 : Int32) (k_o2 : ClassId) (h0 : Heap) (n0 : Nat) (O0 : Old Z n0 h0) (V_o0 : Arv Z h0 o0 k_o0 .char (5 : Int32) [(.int u1), (.int u2), (.int u3), (.int u4), (.int u5)] (.int 0)) (bnd_u1 : ¬ u1 < (0 : Int32) ∧ ¬ (255 : Int32) < u1) (V_o2 : Arv Z h0 o2 k_o2 .byte (5 : Int32) [(.int 0), (.int 0), (.int 0), (.int 0), (.int 0)] (.int 0)) (g_o2 : n0 ≤ o2) (ne_o0_o2 : o0 ≠ o2) (bnd_u2 : ¬ u2 < (0 : Int32) ∧ ¬ (255 : Int32) < u2) (bnd_u3 : ¬ u3 < (0 : Int32) ∧ ¬ (255 : Int32) < u3) (bnd_u4 : ¬ u4 < (0 : Int32) ∧ ¬ (255 : Int32) < u4) (bnd_u5 : ¬ u5 < (0 : Int32) ∧ ¬ (255 : Int32) < u5) :
    Con l Z (⟨"java/lang/StringUTF16", "compress", "([CI[BII)I"⟩ : MethodName) jdk_52_method_21_code 7 (some .int) ws ({ frames := 0, cells := 0, slots := 0, locals := 0 } : Room) #[(.ref o0), (.int 0), (.ref o2), (.int 0), (.int 5)] h0 (fun v h L => v = some (.int 5) ∧ Fr n0 L ∧ Keep h0 h [o2] ∧ Arv Z h o2 k_o2 .byte (5 : Int32) [(.int (u1.toInt8.toInt32)), (.int (u2.toInt8.toInt32)), (.int (u3.toInt8.toInt32)), (.int (u4.toInt8.toInt32)), (.int (u5.toInt8.toInt32))] (.int 0)) := by
 refine own_body (plainFor_of_name own_pn5) (fun m => ef_rm19_4 m o0 (0 : Int32) o2 (5 : Int32)) ?_
 intro p e s m below meth c s₁ hx hby hlk hml hret hZ hown hnm X0 e0
 have N0 := Fr.nil n0
 refine Home.run X0 hx hby sg19_0_4 (pc' := 7) (L' := #[sr o0, si 0, sr o2, si 0, si 5, si 0, un]) (S' := [(.int 5), (.int 0)]) rfl ?_
 refine Home.go (fun _ => XS.icmpNo X0.here hx rfl (hb hby d19_7) rfl (tlt (by decide)).2.1) ?_
 refine Home.run X0 hx hby sg19_10_2 (pc' := 12) (L' := #[sr o0, si 0, sr o2, si 0, si 5, si 0, un]) (S' := [(.int 0), (.ref o0)]) rfl ?_
 obtain ⟨cl1, Ar1, q1, S1, M1, H1, G1⟩ := id V_o0
 have ib1 : ¬ ((0 : Int32) < 0 ∨ cl1.slots.size ≤ ((0 : Int32)).toNatClampNeg) := inb_of S1 ⟨by decide, by decide⟩
 refine Home.go (X0.caload hx (j := (0 : Int32)) (v := (.int u1)) (by rw [e0]; exact Ar1.1) (State.isArrayOf_alike hZ.alike Ar1.2.1) Ar1.2.2 ib1 (Has.at H1 ib1 rfl) rfl rfl (hb hby d19_12)) ?_
 refine Home.run X0 hx hby sg19_13_3 (pc' := 20) (L' := #[sr o0, si 0, sr o2, si 0, si 5, si 0, si u1]) (S' := [(.int 255), (.int u1)]) rfl ?_
 refine Home.go (fun _ => XS.icmpYes X0.here hx rfl (pc0 := 20) (pc' := 26) rfl (hb hby d19_20) rfl (flt (bnd_nlt (bnd_lit (255 : Int32)) bnd_u1 (by decide +kernel))).2.2.2 (by decide) (by decide)) ?_
 refine Home.run X0 hx hby sg19_26_4 (pc' := 31) (L' := #[sr o0, si 0, sr o2, si 0, si 5, si 0, si u1]) (S' := [(.int (u1.toInt8.toInt32)), (.int 0), (.ref o2)]) rfl ?_
 obtain ⟨cl2, Ar2, q2, S2, M2, H2, G2⟩ := id V_o2
 refine Home.wr (stB X0 hx hZ e0 Ar2 (j := (0 : Int32)) (inb_of S2 ⟨by decide, by decide⟩) rfl rfl (hb hby d19_31)) fun T2 h2 X2 e2 W2 => ?_
 have W2' := Wr.to W2 (congrArg Value.int (nar_byte_id (bnd_i2b u1) (by decide +kernel) (by decide +kernel)))
 have V2 : Arv Z h2 o2 k_o2 .byte (5 : Int32) [(.int (u1.toInt8.toInt32)), (.int 0), (.int 0), (.int 0), (.int 0)] (.int 0) := Arv.set Ar2 q2 S2 M2 H2 G2 (fits_byte_b (bnd_i2b u1) (by decide +kernel) (by decide +kernel)) W2' 0 rfl (Nat.le_of_ble_eq_true rfl)
 have O2 := O0.wr W2 g_o2
 have K2 : Keep h0 h2 ([o2] : List Addr) := Keep.wr (Keep.refl h0 ([o2] : List Addr)) W2 (Or.inl (List.mem_of_getElem? (i := 0) rfl))
 have N2 := Fr.snoc X2 N0 g_o2
 show Home T2 (mkF m 32 #[sr o0, si 0, sr o2, si 0, si 5, si 0, si u1] [])
 refine Home.run X2 hx hby sg19_32_6 (pc' := 7) (L' := #[sr o0, si 1, sr o2, si 1, si 5, si 1, si u1]) (S' := [(.int 5), (.int 1)]) rfl ?_
 refine Home.go (fun _ => XS.icmpNo X2.here hx rfl (hb hby d19_7) rfl (tlt (by decide)).2.1) ?_
 refine Home.run X2 hx hby sg19_10_2 (pc' := 12) (L' := #[sr o0, si 1, sr o2, si 1, si 5, si 1, si u1]) (S' := [(.int 1), (.ref o0)]) rfl ?_
 have q3 := (V_o0.other W2 ne_o0_o2)
 obtain ⟨cl4, Ar4, q4, S4, M4, H4, G4⟩ := id q3
 have ib4 : ¬ ((1 : Int32) < 0 ∨ cl4.slots.size ≤ ((1 : Int32)).toNatClampNeg) := inb_of S4 ⟨by decide, by decide⟩
 refine Home.go (X2.caload hx (j := (1 : Int32)) (v := (.int u2)) (by rw [e2]; exact Ar4.1) (State.isArrayOf_alike hZ.alike Ar4.2.1) Ar4.2.2 ib4 (Has.at H4 ib4 rfl) rfl rfl (hb hby d19_12)) ?_
 refine Home.run X2 hx hby sg19_13_3 (pc' := 20) (L' := #[sr o0, si 1, sr o2, si 1, si 5, si 1, si u2]) (S' := [(.int 255), (.int u2)]) rfl ?_
 refine Home.go (fun _ => XS.icmpYes X2.here hx rfl (pc0 := 20) (pc' := 26) rfl (hb hby d19_20) rfl (flt (bnd_nlt (bnd_lit (255 : Int32)) bnd_u2 (by decide +kernel))).2.2.2 (by decide) (by decide)) ?_
 refine Home.run X2 hx hby sg19_26_4 (pc' := 31) (L' := #[sr o0, si 1, sr o2, si 1, si 5, si 1, si u2]) (S' := [(.int (u2.toInt8.toInt32)), (.int 1), (.ref o2)]) rfl ?_
 obtain ⟨cl5, Ar5, q5, S5, M5, H5, G5⟩ := id V2
 refine Home.wr (stB X2 hx hZ e2 Ar5 (j := (1 : Int32)) (inb_of S5 ⟨by decide, by decide⟩) rfl rfl (hb hby d19_31)) fun T5 h5 X5 e5 W5 => ?_
 have W5' := Wr.to W5 (congrArg Value.int (nar_byte_id (bnd_i2b u2) (by decide +kernel) (by decide +kernel)))
 have V5 : Arv Z h5 o2 k_o2 .byte (5 : Int32) [(.int (u1.toInt8.toInt32)), (.int (u2.toInt8.toInt32)), (.int 0), (.int 0), (.int 0)] (.int 0) := Arv.set Ar5 q5 S5 M5 H5 G5 (fits_byte_b (bnd_i2b u2) (by decide +kernel) (by decide +kernel)) W5' 1 rfl (Nat.le_of_ble_eq_true rfl)
 have O5 := O2.wr W5 g_o2
 have K5 : Keep h0 h5 ([o2] : List Addr) := Keep.wr K2 W5 (Or.inl (List.mem_of_getElem? (i := 0) rfl))
 have N5 := Fr.snoc X5 N2 g_o2
 show Home T5 (mkF m 32 #[sr o0, si 1, sr o2, si 1, si 5, si 1, si u2] [])
 refine Home.run X5 hx hby sg19_32_6 (pc' := 7) (L' := #[sr o0, si 2, sr o2, si 2, si 5, si 2, si u2]) (S' := [(.int 5), (.int 2)]) rfl ?_
 refine Home.go (fun _ => XS.icmpNo X5.here hx rfl (hb hby d19_7) rfl (tlt (by decide)).2.1) ?_
 refine Home.run X5 hx hby sg19_10_2 (pc' := 12) (L' := #[sr o0, si 2, sr o2, si 2, si 5, si 2, si u2]) (S' := [(.int 2), (.ref o0)]) rfl ?_
 have q6 := (q3.other W5 ne_o0_o2)
 obtain ⟨cl7, Ar7, q7, S7, M7, H7, G7⟩ := id q6
 have ib7 : ¬ ((2 : Int32) < 0 ∨ cl7.slots.size ≤ ((2 : Int32)).toNatClampNeg) := inb_of S7 ⟨by decide, by decide⟩
 refine Home.go (X5.caload hx (j := (2 : Int32)) (v := (.int u3)) (by rw [e5]; exact Ar7.1) (State.isArrayOf_alike hZ.alike Ar7.2.1) Ar7.2.2 ib7 (Has.at H7 ib7 rfl) rfl rfl (hb hby d19_12)) ?_
 refine Home.run X5 hx hby sg19_13_3 (pc' := 20) (L' := #[sr o0, si 2, sr o2, si 2, si 5, si 2, si u3]) (S' := [(.int 255), (.int u3)]) rfl ?_
 refine Home.go (fun _ => XS.icmpYes X5.here hx rfl (pc0 := 20) (pc' := 26) rfl (hb hby d19_20) rfl (flt (bnd_nlt (bnd_lit (255 : Int32)) bnd_u3 (by decide +kernel))).2.2.2 (by decide) (by decide)) ?_
 refine Home.run X5 hx hby sg19_26_4 (pc' := 31) (L' := #[sr o0, si 2, sr o2, si 2, si 5, si 2, si u3]) (S' := [(.int (u3.toInt8.toInt32)), (.int 2), (.ref o2)]) rfl ?_
 obtain ⟨cl8, Ar8, q8, S8, M8, H8, G8⟩ := id V5
 refine Home.wr (stB X5 hx hZ e5 Ar8 (j := (2 : Int32)) (inb_of S8 ⟨by decide, by decide⟩) rfl rfl (hb hby d19_31)) fun T8 h8 X8 e8 W8 => ?_
 have W8' := Wr.to W8 (congrArg Value.int (nar_byte_id (bnd_i2b u3) (by decide +kernel) (by decide +kernel)))
 have V8 : Arv Z h8 o2 k_o2 .byte (5 : Int32) [(.int (u1.toInt8.toInt32)), (.int (u2.toInt8.toInt32)), (.int (u3.toInt8.toInt32)), (.int 0), (.int 0)] (.int 0) := Arv.set Ar8 q8 S8 M8 H8 G8 (fits_byte_b (bnd_i2b u3) (by decide +kernel) (by decide +kernel)) W8' 2 rfl (Nat.le_of_ble_eq_true rfl)
 have O8 := O5.wr W8 g_o2
 have K8 : Keep h0 h8 ([o2] : List Addr) := Keep.wr K5 W8 (Or.inl (List.mem_of_getElem? (i := 0) rfl))
 have N8 := Fr.snoc X8 N5 g_o2
 show Home T8 (mkF m 32 #[sr o0, si 2, sr o2, si 2, si 5, si 2, si u3] [])
 refine Home.run X8 hx hby sg19_32_6 (pc' := 7) (L' := #[sr o0, si 3, sr o2, si 3, si 5, si 3, si u3]) (S' := [(.int 5), (.int 3)]) rfl ?_
 refine Home.go (fun _ => XS.icmpNo X8.here hx rfl (hb hby d19_7) rfl (tlt (by decide)).2.1) ?_
 refine Home.run X8 hx hby sg19_10_2 (pc' := 12) (L' := #[sr o0, si 3, sr o2, si 3, si 5, si 3, si u3]) (S' := [(.int 3), (.ref o0)]) rfl ?_
 have q9 := (q6.other W8 ne_o0_o2)
 obtain ⟨cl10, Ar10, q10, S10, M10, H10, G10⟩ := id q9
 have ib10 : ¬ ((3 : Int32) < 0 ∨ cl10.slots.size ≤ ((3 : Int32)).toNatClampNeg) := inb_of S10 ⟨by decide, by decide⟩
 refine Home.go (X8.caload hx (j := (3 : Int32)) (v := (.int u4)) (by rw [e8]; exact Ar10.1) (State.isArrayOf_alike hZ.alike Ar10.2.1) Ar10.2.2 ib10 (Has.at H10 ib10 rfl) rfl rfl (hb hby d19_12)) ?_
 refine Home.run X8 hx hby sg19_13_3 (pc' := 20) (L' := #[sr o0, si 3, sr o2, si 3, si 5, si 3, si u4]) (S' := [(.int 255), (.int u4)]) rfl ?_
 refine Home.go (fun _ => XS.icmpYes X8.here hx rfl (pc0 := 20) (pc' := 26) rfl (hb hby d19_20) rfl (flt (bnd_nlt (bnd_lit (255 : Int32)) bnd_u4 (by decide +kernel))).2.2.2 (by decide) (by decide)) ?_
 refine Home.run X8 hx hby sg19_26_4 (pc' := 31) (L' := #[sr o0, si 3, sr o2, si 3, si 5, si 3, si u4]) (S' := [(.int (u4.toInt8.toInt32)), (.int 3), (.ref o2)]) rfl ?_
 obtain ⟨cl11, Ar11, q11, S11, M11, H11, G11⟩ := id V8
 refine Home.wr (stB X8 hx hZ e8 Ar11 (j := (3 : Int32)) (inb_of S11 ⟨by decide, by decide⟩) rfl rfl (hb hby d19_31)) fun T11 h11 X11 e11 W11 => ?_
 have W11' := Wr.to W11 (congrArg Value.int (nar_byte_id (bnd_i2b u4) (by decide +kernel) (by decide +kernel)))
 have V11 : Arv Z h11 o2 k_o2 .byte (5 : Int32) [(.int (u1.toInt8.toInt32)), (.int (u2.toInt8.toInt32)), (.int (u3.toInt8.toInt32)), (.int (u4.toInt8.toInt32)), (.int 0)] (.int 0) := Arv.set Ar11 q11 S11 M11 H11 G11 (fits_byte_b (bnd_i2b u4) (by decide +kernel) (by decide +kernel)) W11' 3 rfl (Nat.le_of_ble_eq_true rfl)
 have O11 := O8.wr W11 g_o2
 have K11 : Keep h0 h11 ([o2] : List Addr) := Keep.wr K8 W11 (Or.inl (List.mem_of_getElem? (i := 0) rfl))
 have N11 := Fr.snoc X11 N8 g_o2
 show Home T11 (mkF m 32 #[sr o0, si 3, sr o2, si 3, si 5, si 3, si u4] [])
 refine Home.run X11 hx hby sg19_32_6 (pc' := 7) (L' := #[sr o0, si 4, sr o2, si 4, si 5, si 4, si u4]) (S' := [(.int 5), (.int 4)]) rfl ?_
 refine Home.go (fun _ => XS.icmpNo X11.here hx rfl (hb hby d19_7) rfl (tlt (by decide)).2.1) ?_
 refine Home.run X11 hx hby sg19_10_2 (pc' := 12) (L' := #[sr o0, si 4, sr o2, si 4, si 5, si 4, si u4]) (S' := [(.int 4), (.ref o0)]) rfl ?_
 have q12 := (q9.other W11 ne_o0_o2)
 obtain ⟨cl13, Ar13, q13, S13, M13, H13, G13⟩ := id q12
 have ib13 : ¬ ((4 : Int32) < 0 ∨ cl13.slots.size ≤ ((4 : Int32)).toNatClampNeg) := inb_of S13 ⟨by decide, by decide⟩
 refine Home.go (X11.caload hx (j := (4 : Int32)) (v := (.int u5)) (by rw [e11]; exact Ar13.1) (State.isArrayOf_alike hZ.alike Ar13.2.1) Ar13.2.2 ib13 (Has.at H13 ib13 rfl) rfl rfl (hb hby d19_12)) ?_
 refine Home.run X11 hx hby sg19_13_3 (pc' := 20) (L' := #[sr o0, si 4, sr o2, si 4, si 5, si 4, si u5]) (S' := [(.int 255), (.int u5)]) rfl ?_
 refine Home.go (fun _ => XS.icmpYes X11.here hx rfl (pc0 := 20) (pc' := 26) rfl (hb hby d19_20) rfl (flt (bnd_nlt (bnd_lit (255 : Int32)) bnd_u5 (by decide +kernel))).2.2.2 (by decide) (by decide)) ?_
 refine Home.run X11 hx hby sg19_26_4 (pc' := 31) (L' := #[sr o0, si 4, sr o2, si 4, si 5, si 4, si u5]) (S' := [(.int (u5.toInt8.toInt32)), (.int 4), (.ref o2)]) rfl ?_
 obtain ⟨cl14, Ar14, q14, S14, M14, H14, G14⟩ := id V11
 refine Home.wr (stB X11 hx hZ e11 Ar14 (j := (4 : Int32)) (inb_of S14 ⟨by decide, by decide⟩) rfl rfl (hb hby d19_31)) fun T14 h14 X14 e14 W14 => ?_
 have W14' := Wr.to W14 (congrArg Value.int (nar_byte_id (bnd_i2b u5) (by decide +kernel) (by decide +kernel)))
 have V14 : Arv Z h14 o2 k_o2 .byte (5 : Int32) [(.int (u1.toInt8.toInt32)), (.int (u2.toInt8.toInt32)), (.int (u3.toInt8.toInt32)), (.int (u4.toInt8.toInt32)), (.int (u5.toInt8.toInt32))] (.int 0) := Arv.set Ar14 q14 S14 M14 H14 G14 (fits_byte_b (bnd_i2b u5) (by decide +kernel) (by decide +kernel)) W14' 4 rfl (Nat.le_of_ble_eq_true rfl)
 have O14 := O11.wr W14 g_o2
 have K14 : Keep h0 h14 ([o2] : List Addr) := Keep.wr K11 W14 (Or.inl (List.mem_of_getElem? (i := 0) rfl))
 have N14 := Fr.snoc X14 N11 g_o2
 show Home T14 (mkF m 32 #[sr o0, si 4, sr o2, si 4, si 5, si 4, si u5] [])
 refine Home.run X14 hx hby sg19_32_6 (pc' := 7) (L' := #[sr o0, si 5, sr o2, si 5, si 5, si 5, si u5]) (S' := [(.int 5), (.int 5)]) rfl ?_
 refine Home.go (fun _ => XS.icmpYes X14.here hx rfl (pc0 := 7) (pc' := 44) rfl (hb hby d19_7) rfl (flt (by decide)).2.1 (by decide) (by decide)) ?_
 refine Home.run X14 hx hby sg19_44_1 (pc' := 46) (L' := #[sr o0, si 5, sr o2, si 5, si 5, si 5, si u5]) (S' := [(.int 5)]) rfl ?_
 exact Home.retI X14 hx hlk hret (hb hby d19_46) (by rw [show T14.heap = h14 from e14]; exact ⟨rfl, N14, K14, V14⟩) (by decide) (by decide)
theorem rm18_4 (l : Launch) (Z : State) (a0 : Array Value) (hw : HW a0 Z) (ws : List Jvm.Cond) (o0 : Addr) (k_o0 : ClassId) (u1 u2 u3 u4 u5 : Int32) (h0 : Heap) (n0 : Nat) (O0 : Old Z n0 h0) (V_o0 : Arv Z h0 o0 k_o0 .char (5 : Int32) [(.int u1), (.int u2), (.int u3), (.int u4), (.int u5)] (.int 0)) (bnd_u1 : ¬ u1 < (0 : Int32) ∧ ¬ (255 : Int32) < u1) (bnd_u2 : ¬ u2 < (0 : Int32) ∧ ¬ (255 : Int32) < u2) (bnd_u3 : ¬ u3 < (0 : Int32) ∧ ¬ (255 : Int32) < u3) (bnd_u4 : ¬ u4 < (0 : Int32) ∧ ¬ (255 : Int32) < u4) (bnd_u5 : ¬ u5 < (0 : Int32) ∧ ¬ (255 : Int32) < u5) :
    Con l Z (⟨"java/lang/StringUTF16", "compress", "([CII)[B"⟩ : MethodName) jdk_52_method_16_code 6 (some (.array .byte)) ws ({ frames := 1, cells := 1, slots := 5, locals := 18 } : Room) #[(.ref o0), (.int 0), (.int 5)] h0 (fun v h L => ∃ (b1 : Addr), ∃ (k1 : ClassId), v = some (.ref b1) ∧ Fr n0 L ∧ h0.size ≤ b1 ∧ Keep h0 h [] ∧ Arv Z h b1 k1 .byte (5 : Int32) [(.int (u1.toInt8.toInt32)), (.int (u2.toInt8.toInt32)), (.int (u3.toInt8.toInt32)), (.int (u4.toInt8.toInt32)), (.int (u5.toInt8.toInt32))] (.int 0)) := by
 refine own_body (plainFor_of_name own_pn5) (fun m => ef_rm18_4 m o0 (0 : Int32) (5 : Int32)) ?_
 intro p e s m below meth c s₁ hx hby hlk hml hret hZ hown hnm X0 e0
 have N0 := Fr.nil n0
 refine Home.run X0 hx hby sg18_0_1 (pc' := 1) (L' := #[sr o0, si 0, si 5, un, un, un]) (S' := [(.int 5)]) rfl ?_
 refine Home.na (own_newP (aty := .byte) X0 hx hZ (own_w21 hw) e0 (g := (mkF m 1 #[.val (.ref o0), .val (.int 0), .val (.int 5), .unset, .unset, .unset] [(.int 5)])) rfl (hb hby d18_1) rfl (by decide) (cap := 5) (by decide) (by decide) (by decide) (by decide)) fun T1 h1 k1 b1 g1 X1 e1 E1 A1 => ?_
 have g_b1 : n0 ≤ b1 := Nat.le_trans (Old.le O0) (Nat.le_of_eq g1.symm)
 have V1 : Arv Z h1 b1 k1 .byte (5 : Int32) [(.int 0), (.int 0), (.int 0), (.int 0), (.int 0)] (.int 0) := (Arv.new A1 (by decide)).pad (pad_rep [] (.int 0) 5)
 have O1 := O0.ext E1
 have K1 : Keep h0 h1 ([] : List Addr) := Keep.ext (Keep.refl h0 ([] : List Addr)) E1
 refine Home.run X1 hx hby sg18_3_6 (pc' := 9) (L' := #[sr o0, si 0, si 5, sr b1, un, un]) (S' := [(.int 5), (.int 0), (.ref b1), (.int 0), (.ref o0)]) rfl ?_
 have ne2 : o0 ≠ b1 := (Nat.ne_of_lt (Nat.lt_of_lt_of_le V_o0.lt (Nat.le_trans (Nat.le_refl _) (Nat.le_of_eq g1.symm))))
 refine Home.call (own_static X1 hx hZ hown (own_w85 hw) (own_w86 hw) (own_w83 hw) (own_w87 hw) (by decide) (rm19_4 l Z a0 hw [] o0 b1 k_o0 u1 u2 u3 u4 u5 k1 h1 n0 O1 (V_o0.keep K1 nin0) bnd_u1 V1 g_b1 ne2 bnd_u2 bnd_u3 bnd_u4 bnd_u5) e1 rfl (by rw [hml]; rfl) (argsL := [(.ref o0), (.int 0), (.ref b1), (.int 0), (.int 5)]) (rest := []) (lenOf own_pd15 rfl) rfl rfl (W := 0) (by exact hW0) (by decide) (by decide) (hb hby d18_9) (by decide) (by decide)) ?_
 rintro _ T3 L3 X3 ⟨rfl, N3q, K3q, P3_0⟩
 have O3 := Old.keep O1 K3q (allS g_b1 all0)
 have K3 : Keep h0 T3.heap ([] : List Addr) := Keep.trans K1 K3q (allS (Or.inr (Nat.le_trans (Nat.le_refl _) (Nat.le_of_eq g1.symm))) all0)
 have N3 := Fr.app N0 N3q
 refine Home.run X3 hx hby sg18_12_3 (pc' := 17) (L' := #[sr o0, si 0, si 5, sr b1, si 5, un]) (S' := [(.int 5), (.int 5)]) rfl ?_
 refine Home.go (fun _ => XS.icmpYes X3.here hx rfl (pc0 := 17) (pc' := 57) rfl (hb hby d18_17) rfl (teq (by decide)).1 (by decide) (by decide)) ?_
 refine Home.run X3 hx hby sg18_57_1 (pc' := 58) (L' := #[sr o0, si 0, si 5, sr b1, si 5, un]) (S' := [(.ref b1)]) rfl ?_
 exact Home.retR X3 hx hlk hret rfl rfl (hb hby d18_58) ⟨b1, k1, rfl, N3, (Nat.le_trans (Nat.le_refl _) (Nat.le_of_eq g1.symm)), K3, P3_0⟩ (by decide) (by decide)
theorem rm20_4 (l : Launch) (Z : State) (a0 : Array Value) (hw : HW a0 Z) (ws : List Jvm.Cond) (o0 : Addr) (k_o0 : ClassId) (u1 u2 u3 u4 u5 : Int32) (h0 : Heap) (n0 : Nat) (O0 : Old Z n0 h0) (V_o0 : Arv Z h0 o0 k_o0 .byte (5 : Int32) [(.int u1), (.int u2), (.int u3), (.int u4), (.int u5)] (.int 0)) :
    Con l Z (⟨"java/lang/StringUTF16", "coderFromArrayLen", "([BI)B"⟩ : MethodName) jdk_52_method_15_code 2 (some .byte) ws ({ frames := 0, cells := 0, slots := 0, locals := 0 } : Room) #[(.ref o0), (.int 5)] h0 (Pur (some (.int 0)) h0) := by
 refine own_body (plainFor_of_name own_pn5) (fun m => ef_rm20_4 m o0 (5 : Int32)) ?_
 intro p e s m below meth c s₁ hx hby hlk hml hret hZ hown hnm X0 e0
 have N0 := Fr.nil n0
 refine Home.run X0 hx hby sg20_0_2 (pc' := 2) (L' := #[sr o0, si 5]) (S' := [(.ref o0), (.int 5)]) rfl ?_
 obtain ⟨cl1, Ar1, q1, S1, M1, H1, G1⟩ := id V_o0
 refine Home.go (own_alen X0 hx hZ e0 Ar1 S1 M1 rfl rfl (hb hby d20_2)) ?_
 refine Home.run X0 hx hby sg20_3_4 (pc' := 8) (L' := #[sr o0, si 5]) (S' := [(.int 0)]) rfl ?_
 exact Home.retN X0 hx hlk (t := .byte) hret (by simp) (hb hby d20_8) ⟨congrArg some (congrArg Value.int (by first | rfl | exact nar_i2c _ | exact nar_i2b _)), rfl, e0⟩ (by decide) (by decide)
theorem rm3_5 (l : Launch) (Z : State) (a0 : Array Value) (hw : HW a0 Z) (ws : List Jvm.Cond) (o0 o1 : Addr) (sv_COMPACT_STRINGS : Int32) (k_o1 : ClassId) (u1 u2 u3 u4 u5 : Int32) (h0 : Heap) (n0 : Nat) (O0 : Old Z n0 h0) (S_COMPACT_STRINGS : Sta Z Z.heap "java/lang/String" "COMPACT_STRINGS" "Z" (.int sv_COMPACT_STRINGS)) (hCS : ¬ (sv_COMPACT_STRINGS = (0 : Int32))) (V_o1 : Arv Z h0 o1 k_o1 .char (5 : Int32) [(.int u1), (.int u2), (.int u3), (.int u4), (.int u5)] (.int 0)) (bnd_u1 : ¬ u1 < (0 : Int32) ∧ ¬ (255 : Int32) < u1) (bnd_u2 : ¬ u2 < (0 : Int32) ∧ ¬ (255 : Int32) < u2) (bnd_u3 : ¬ u3 < (0 : Int32) ∧ ¬ (255 : Int32) < u3) (bnd_u4 : ¬ u4 < (0 : Int32) ∧ ¬ (255 : Int32) < u4) (bnd_u5 : ¬ u5 < (0 : Int32) ∧ ¬ (255 : Int32) < u5) (E_o0 : Exa Z h0 o0 "java/lang/String") (F_coder_o0 : Fld Z h0 o0 "java/lang/String" "coder" "B" (.int 0)) (g_o0 : n0 ≤ o0) (F_value_o0 : Fld Z h0 o0 "java/lang/String" "value" "[B" .null) :
    Con l Z (⟨"java/lang/String", "<init>", "([CIILjava/lang/Void;)V"⟩ : MethodName) jdk_42_method_149_code 6 none ws ({ frames := 2, cells := 1, slots := 5, locals := 35 } : Room) #[(.ref o0), (.ref o1), (.int 0), (.int 5), .null] h0 (fun v h L => ∃ (b1_3 : Addr), ∃ (k1_3 : ClassId), v = none ∧ Fr n0 L ∧ h0.size ≤ b1_3 ∧ Keep h0 h [o0] ∧ Exa Z h o0 "java/lang/String" ∧ Fld Z h o0 "java/lang/String" "coder" "B" (.int 0) ∧ Fld Z h o0 "java/lang/String" "value" "[B" (.ref b1_3) ∧ Arv Z h b1_3 k1_3 .byte (5 : Int32) [(.int (u1.toInt8.toInt32)), (.int (u2.toInt8.toInt32)), (.int (u3.toInt8.toInt32)), (.int (u4.toInt8.toInt32)), (.int (u5.toInt8.toInt32))] (.int 0)) := by
 refine own_body (plainFor_of_name own_pn0) (fun m => ef_rm3_5 m o0 o1 (0 : Int32) (5 : Int32)) ?_
 intro p e s m below meth c s₁ hx hby hlk hml hret hZ hown hnm X0 e0
 have N0 := Fr.nil n0
 refine Home.run X0 hx hby sg3_0_1 (pc' := 1) (L' := #[sr o0, sr o1, si 0, si 5, .val .null, un]) (S' := [(.ref o0)]) rfl ?_
 refine Home.st (initO X0 hx hZ hown (own_w17 hw) (own_w18 hw) (own_w19 hw) e0 rfl (by rw [hml]; rfl) rfl (hb hby d3_1) (by decide) (W := 0) (by exact hW0) (by decide)) fun T1 X1 e1 => ?_
 refine Home.run X1 hx hby sg3_4_1 (pc' := 5) (L' := #[sr o0, sr o1, si 0, si 5, .val .null, un]) (S' := [(.int 5)]) rfl ?_
 refine Home.go (fun _ => XS.ifYes X1.here hx rfl (pc0 := 5) (pc' := 27) rfl (hb hby d3_5) rfl ((if0 _ _).trans (feq (by decide)).2) (by decide) (by decide)) ?_
 refine Home.st (getS2 X1 hx hZ hown (host := "") (Or.inl (own_w42 hw)) Via.refl e1 (S_COMPACT_STRINGS.ext O0.2) rfl (hb hby d3_27)) fun T2 X2 e2 => ?_
 refine Home.go (fun _ => XS.ifNo X2.here hx rfl (hb hby d3_30) rfl ((if0 _ _).trans (feq hCS).1)) ?_
 refine Home.run X2 hx hby sg3_33_3 (pc' := 36) (L' := #[sr o0, sr o1, si 0, si 5, .val .null, un]) (S' := [(.int 5), (.int 0), (.ref o1)]) rfl ?_
 refine Home.call (own_static X2 hx hZ hown (own_w81 hw) (own_w82 hw) (own_w83 hw) (own_w84 hw) (by decide) (rm18_4 l Z a0 hw [] o1 k_o1 u1 u2 u3 u4 u5 h0 n0 O0 V_o1 bnd_u1 bnd_u2 bnd_u3 bnd_u4 bnd_u5) e2 rfl (by rw [hml]; rfl) (argsL := [(.ref o1), (.int 0), (.int 5)]) (rest := []) (lenOf own_pd16 rfl) rfl rfl (W := 0) (by exact hW0) (by decide) (by decide) (hb hby d3_36) (by decide) (by decide)) ?_
 rintro _ T3 L3 X3 ⟨b1_3, k1_3, rfl, N3q, sz_b1_3, K3q, P3_0⟩
 have g_b1_3 : n0 ≤ b1_3 := Nat.le_trans (Old.le O0) sz_b1_3
 have O3 := Old.keep O0 K3q all0
 have K3 : Keep h0 T3.heap ([o0] : List Addr) := Keep.trans (Keep.refl h0 ([o0] : List Addr)) K3q all0
 have N3 := Fr.app N0 N3q
 refine Home.run X3 hx hby sg3_39_4 (pc' := 45) (L' := #[sr o0, sr o1, si 0, si 5, .val .null, sr b1_3]) (S' := [(.int 5), (.ref b1_3), (.ref o0)]) rfl ?_
 refine Home.st (own_pure (own_static X3 hx hZ hown (own_w88 hw) (own_w89 hw) (own_w83 hw) (own_w90 hw) (by decide) (rm20_4 l Z a0 hw [] b1_3 k1_3 (u1.toInt8.toInt32) (u2.toInt8.toInt32) (u3.toInt8.toInt32) (u4.toInt8.toInt32) (u5.toInt8.toInt32) T3.heap n0 O3 P3_0) rfl rfl (by rw [hml]; rfl) (argsL := [(.ref b1_3), (.int 5)]) (rest := [(.ref o0)]) (lenOf own_pd17 rfl) rfl rfl (W := 1) (by exact hW0) (by decide) (by decide) (hb hby d3_45) (by decide) (by decide))) fun T4 X4 e4 => ?_
 show Home T4 (mkF m 48 #[sr o0, sr o1, si 0, si 5, .val .null, sr b1_3] [(.int 0), (.ref o0)])
 have q5 := (F_coder_o0.keep K3q nin0)
 refine Home.wr (putFN X4 hx hZ hown (own_w27 hw) Via.refl e4 q5 (E_o0.keep K3) (Or.inr ⟨(own_w23 hw), rfl, hnm⟩) (own_w7 hw) (ty := .byte) (v := (.int 0)) (v' := (.int 0)) (by decide) rfl rfl rfl rfl (hb hby d3_48)) fun T6 h6 X6 e6 W6 => ?_
 have Fw6 := q5.same W6
 have O6 := O3.wr W6 g_o0
 have K6 : Keep h0 h6 ([o0] : List Addr) := Keep.wr K3 W6 (Or.inl (List.mem_of_getElem? (i := 0) rfl))
 have N6 := Fr.snoc X6 N3 g_o0
 refine Home.run X6 hx hby sg3_51_2 (pc' := 54) (L' := #[sr o0, sr o1, si 0, si 5, .val .null, sr b1_3]) (S' := [(.ref b1_3), (.ref o0)]) rfl ?_
 have q7 := ((F_value_o0.keep K3q nin0).other W6 (Or.inr (slot_ne (Or.inr (own_w22 hw)) (Or.inr (own_w23 hw)) (by decide) (t := (.array .byte)) (t' := .byte) (by decide) (by decide))))
 refine Home.wr (putF X6 hx hZ hown (host := "") (Or.inl (own_w26 hw)) Via.refl e6 q7 (E_o0.keep K6) (Or.inr ⟨(own_w22 hw), rfl, hnm⟩) (own_w7 hw) (ty := (.array .byte)) (by decide) rfl rfl rfl rfl (hb hby d3_54)) fun T8 h8 X8 e8 W8 => ?_
 have Fw8 := q7.same W8
 have O8 := O6.wr W8 g_o0
 have K8 : Keep h0 h8 ([o0] : List Addr) := Keep.wr K6 W8 (Or.inl (List.mem_of_getElem? (i := 0) rfl))
 have N8 := Fr.snoc X8 N6 g_o0
 have q9 := (Fw6.other W8 (Or.inr (slot_ne (Or.inr (own_w23 hw)) (Or.inr (own_w22 hw)) (by decide) (t := .byte) (t' := (.array .byte)) (by decide) (by decide))))
 have ne10 : b1_3 ≠ o0 := (Ne.symm (Nat.ne_of_lt (Nat.lt_of_lt_of_le E_o0.lt (Nat.le_trans (Nat.le_refl _) sz_b1_3))))
 have q11 := ((P3_0.other W6 ne10).other W8 ne10)
 exact Home.ret0 X8 hx hlk hret (hb hby d3_57) (by rw [show T8.heap = h8 from e8]; exact ⟨b1_3, k1_3, rfl, N8, (Nat.le_trans (Nat.le_refl _) sz_b1_3), K8, (E_o0.keep K8), q9, Fw8, q11⟩) (by decide) (by decide)
theorem rm2_5 (l : Launch) (Z : State) (a0 : Array Value) (hw : HW a0 Z) (ws : List Jvm.Cond) (o0 o1 : Addr) (k_o1 : ClassId) (u1 u2 u3 u4 u5 sv_COMPACT_STRINGS : Int32) (h0 : Heap) (n0 : Nat) (O0 : Old Z n0 h0) (V_o1 : Arv Z h0 o1 k_o1 .char (5 : Int32) [(.int u1), (.int u2), (.int u3), (.int u4), (.int u5)] (.int 0)) (S_COMPACT_STRINGS : Sta Z Z.heap "java/lang/String" "COMPACT_STRINGS" "Z" (.int sv_COMPACT_STRINGS)) (E_o0 : Exa Z h0 o0 "java/lang/String") (F_coder_o0 : Fld Z h0 o0 "java/lang/String" "coder" "B" (.int 0)) (F_value_o0 : Fld Z h0 o0 "java/lang/String" "value" "[B" .null) (bnd_u1 : ¬ u1 < (0 : Int32) ∧ ¬ (255 : Int32) < u1) (bnd_u2 : ¬ u2 < (0 : Int32) ∧ ¬ (255 : Int32) < u2) (bnd_u3 : ¬ u3 < (0 : Int32) ∧ ¬ (255 : Int32) < u3) (bnd_u4 : ¬ u4 < (0 : Int32) ∧ ¬ (255 : Int32) < u4) (bnd_u5 : ¬ u5 < (0 : Int32) ∧ ¬ (255 : Int32) < u5) (g_o0 : n0 ≤ o0) (hCS : ¬ (sv_COMPACT_STRINGS = (0 : Int32))) :
    Con l Z (⟨"java/lang/String", "<init>", "([C)V"⟩ : MethodName) jdk_42_method_3_code 2 none ws ({ frames := 3, cells := 1, slots := 5, locals := 52 } : Room) #[(.ref o0), (.ref o1)] h0 (fun v h L => ∃ (b1_3_2 : Addr), ∃ (k1_3_2 : ClassId), v = none ∧ Fr n0 L ∧ h0.size ≤ b1_3_2 ∧ Keep h0 h [o0] ∧ Exa Z h o0 "java/lang/String" ∧ Fld Z h o0 "java/lang/String" "coder" "B" (.int 0) ∧ Fld Z h o0 "java/lang/String" "value" "[B" (.ref b1_3_2) ∧ Arv Z h b1_3_2 k1_3_2 .byte (5 : Int32) [(.int (u1.toInt8.toInt32)), (.int (u2.toInt8.toInt32)), (.int (u3.toInt8.toInt32)), (.int (u4.toInt8.toInt32)), (.int (u5.toInt8.toInt32))] (.int 0)) := by
 refine own_body (plainFor_of_name own_pn0) (fun m => ef_rm2_5 m o0 o1) ?_
 intro p e s m below meth c s₁ hx hby hlk hml hret hZ hown hnm X0 e0
 have N0 := Fr.nil n0
 refine Home.run X0 hx hby sg2_0_4 (pc' := 4) (L' := #[sr o0, sr o1]) (S' := [(.ref o1), (.int 0), (.ref o1), (.ref o0)]) rfl ?_
 obtain ⟨cl1, Ar1, q1, S1, M1, H1, G1⟩ := id V_o1
 refine Home.go (own_alen X0 hx hZ e0 Ar1 S1 M1 rfl rfl (hb hby d2_4)) ?_
 refine Home.run X0 hx hby sg2_5_1 (pc' := 6) (L' := #[sr o0, sr o1]) (S' := [.null, (.int 5), (.int 0), (.ref o1), (.ref o0)]) rfl ?_
 refine Home.call (own_special X0 hx hZ hown rfl (own_w13 hw) (own_w14 hw) (own_w8 hw) (own_w16 hw) (by decide) (rm3_5 l Z a0 hw [] o0 o1 sv_COMPACT_STRINGS k_o1 u1 u2 u3 u4 u5 h0 n0 O0 S_COMPACT_STRINGS hCS V_o1 bnd_u1 bnd_u2 bnd_u3 bnd_u4 bnd_u5 E_o0 F_coder_o0 g_o0 F_value_o0) e0 rfl (by rw [hml]; rfl) (a := o0) (argsL := [(.ref o1), (.int 0), (.int 5), .null]) (rest := []) (lenOf own_pd0 rfl) rfl rfl (W := 0) (by exact hW0) (by decide) (by decide) (hb hby d2_6) (by decide) (by decide)) ?_
 rintro _ T2 L2 X2 ⟨b1_3_2, k1_3_2, rfl, N2q, sz_b1_3_2, K2q, P2_0, P2_1, P2_2, P2_3⟩
 have g_b1_3_2 : n0 ≤ b1_3_2 := Nat.le_trans (Old.le O0) sz_b1_3_2
 have O2 := Old.keep O0 K2q (allS g_o0 all0)
 have K2 : Keep h0 T2.heap ([o0] : List Addr) := Keep.trans (Keep.refl h0 ([o0] : List Addr)) K2q (allS (Or.inl (List.mem_of_getElem? (i := 0) rfl)) all0)
 have N2 := Fr.app N0 N2q
 exact Home.ret0 X2 hx hlk hret (hb hby d2_9) ⟨b1_3_2, k1_3_2, rfl, N2, (Nat.le_trans (Nat.le_refl _) sz_b1_3_2), K2, P2_0, P2_1, P2_2, P2_3⟩ (by decide) (by decide)
theorem rm1_5 (l : Launch) (Z : State) (a0 : Array Value) (hw : HW a0 Z) (ws : List Jvm.Cond) (i1 i2 i3 i4 i5 i6 sv_COMPACT_STRINGS : Int32) (sv_SIOOBE_FORMATTER : Value) (h0 : Heap) (n0 : Nat) (O0 : Old Z n0 h0) (bnd_i1 : ¬ i1 < (0 : Int32) ∧ ¬ (57 : Int32) < i1) (bnd_i2 : ¬ i2 < (0 : Int32) ∧ ¬ (57 : Int32) < i2) (bnd_i3 : ¬ i3 < (0 : Int32) ∧ ¬ (57 : Int32) < i3) (bnd_i4 : ¬ i4 < (0 : Int32) ∧ ¬ (57 : Int32) < i4) (bnd_i5 : ¬ i5 < (0 : Int32) ∧ ¬ (57 : Int32) < i5) (bnd_i6 : ¬ i6 < (0 : Int32) ∧ ¬ (57 : Int32) < i6) (S_COMPACT_STRINGS : Sta Z Z.heap "java/lang/String" "COMPACT_STRINGS" "Z" (.int sv_COMPACT_STRINGS)) (S_SIOOBE_FORMATTER : Sta Z Z.heap "jdk/internal/util/Preconditions" "SIOOBE_FORMATTER" "Ljava/util/function/BiFunction;" sv_SIOOBE_FORMATTER) (hCS : ¬ (sv_COMPACT_STRINGS = (0 : Int32))) (isr_sv_SIOOBE_FORMATTER : sv_SIOOBE_FORMATTER.isRef = true) :
    ConW l Z own_EL ([] : List Addr) true (⟨"com/example/tryst/tryst/encoding/Base58DecodePinLaw", "build", "(IIIIIII)Ljava/lang/String;"⟩ : MethodName) method_4_code 7 (some (.object "java/lang/String")) ws ({ frames := 5, cells := 13, slots := 1194, locals := 70 } : Room) #[(.int 5), (.int i1), (.int i2), (.int i3), (.int i4), (.int i5), (.int i6)] h0 (fun v h L => ∃ (b1 : Addr), ∃ (b1_3_2_27 : Addr), ∃ (k1_3_2_27 : ClassId), v = some (.ref b1) ∧ Fr n0 L ∧ h0.size ≤ b1 ∧ h0.size ≤ b1_3_2_27 ∧ Keep h0 h [] ∧ Exa Z h b1 "java/lang/String" ∧ Fld Z h b1 "java/lang/String" "value" "[B" (.ref b1_3_2_27) ∧ Fld Z h b1 "java/lang/String" "coder" "B" (.int 0) ∧ Arv Z h b1_3_2_27 k1_3_2_27 .byte (5 : Int32) [(.int ((nar .char ((own_at own_TI0 i1) &&& (255 : Int32))).toInt8.toInt32)), (.int ((nar .char ((own_at own_TI0 i2) &&& (255 : Int32))).toInt8.toInt32)), (.int ((nar .char ((own_at own_TI0 i3) &&& (255 : Int32))).toInt8.toInt32)), (.int ((nar .char ((own_at own_TI0 i4) &&& (255 : Int32))).toInt8.toInt32)), (.int ((nar .char ((own_at own_TI0 i5) &&& (255 : Int32))).toInt8.toInt32))] (.int 0)) := by
 refine own_bodyW (plainFor_of_name own_pn1) (fun m => ef_rm1_5 m (5 : Int32) i1 i2 i3 i4 i5 i6) ?_
 intro p e s m below meth c s₁ hx hby hlk hml hret hZ hown hnm X0 e0 Cd0
 have N0 := Fr.nil n0
 refine Home.run X0 hx hby sg1_0_1 (pc' := 1) (L' := #[si 5, si i1, si i2, si i3, si i4, si i5, si i6]) (S' := [(.int 5)]) rfl ?_
 refine Home.go (fun _ => XS.ifYes X0.here hx rfl (pc0 := 1) (pc' := 15) rfl (hb hby d1_1) rfl ((if0 _ _).trans (feq (by decide)).2) (by decide) (by decide)) ?_
 refine Home.run X0 hx hby sg1_15_2 (pc' := 17) (L' := #[si 5, si i1, si i2, si i3, si i4, si i5, si i6]) (S' := [(.int 1), (.int 5)]) rfl ?_
 refine Home.go (fun _ => XS.icmpYes X0.here hx rfl (pc0 := 17) (pc' := 38) rfl (hb hby d1_17) rfl (feq (by decide)).2 (by decide) (by decide)) ?_
 refine Home.run X0 hx hby sg1_38_2 (pc' := 40) (L' := #[si 5, si i1, si i2, si i3, si i4, si i5, si i6]) (S' := [(.int 2), (.int 5)]) rfl ?_
 refine Home.go (fun _ => XS.icmpYes X0.here hx rfl (pc0 := 40) (pc' := 68) rfl (hb hby d1_40) rfl (feq (by decide)).2 (by decide) (by decide)) ?_
 refine Home.run X0 hx hby sg1_68_2 (pc' := 70) (L' := #[si 5, si i1, si i2, si i3, si i4, si i5, si i6]) (S' := [(.int 3), (.int 5)]) rfl ?_
 refine Home.go (fun _ => XS.icmpYes X0.here hx rfl (pc0 := 70) (pc' := 105) rfl (hb hby d1_70) rfl (feq (by decide)).2 (by decide) (by decide)) ?_
 refine Home.run X0 hx hby sg1_105_2 (pc' := 107) (L' := #[si 5, si i1, si i2, si i3, si i4, si i5, si i6]) (S' := [(.int 4), (.int 5)]) rfl ?_
 refine Home.go (fun _ => XS.icmpYes X0.here hx rfl (pc0 := 107) (pc' := 150) rfl (hb hby d1_107) rfl (feq (by decide)).2 (by decide) (by decide)) ?_
 refine Home.run X0 hx hby sg1_150_2 (pc' := 152) (L' := #[si 5, si i1, si i2, si i3, si i4, si i5, si i6]) (S' := [(.int 5), (.int 5)]) rfl ?_
 refine Home.go (fun _ => XS.icmpNo X0.here hx rfl (hb hby d1_152) rfl (teq (by decide)).2) ?_
 refine Home.nw (own_newO X0 hx hZ hown (own_w6 hw) (own_w7 hw) (own_w8 hw) e0 rfl (hb hby d1_155) (by decide) (by decide)) fun T1 h1 b1 g1 X1 e1 E1 A1 D1 => ?_
 have g_b1 : n0 ≤ b1 := Nat.le_trans (Old.le O0) (Nat.le_of_eq g1.symm)
 have F_value_b1 : Fld Z h1 b1 "java/lang/String" "value" "[B" .null := D1 (Or.inr (own_w22 hw)) (ty := (.array .byte)) (by decide)
 have F_coder_b1 : Fld Z h1 b1 "java/lang/String" "coder" "B" (.int 0) := D1 (Or.inr (own_w23 hw)) (ty := .byte) (by decide)
 have O1 := O0.ext E1
 have K1 : Keep h0 h1 ([] : List Addr) := Keep.ext (Keep.refl h0 ([] : List Addr)) E1
 have Cd1 := Cold.add Cd0 E1 (Nat.le_of_eq g1.symm) A1.lt
 show Home T1 (mkF m 158 #[si 5, si i1, si i2, si i3, si i4, si i5, si i6] [(.ref b1)])
 refine Home.run X1 hx hby sg1_158_2 (pc' := 160) (L' := #[si 5, si i1, si i2, si i3, si i4, si i5, si i6]) (S' := [(.int 5), (.ref b1), (.ref b1)]) rfl ?_
 refine Home.na (own_newP (aty := .char) X1 hx hZ (own_w9 hw) e1 (g := (mkF m 160 #[.val (.int 5), .val (.int i1), .val (.int i2), .val (.int i3), .val (.int i4), .val (.int i5), .val (.int i6)] [(.int 5), (.ref b1), (.ref b1)])) rfl (hb hby d1_160) rfl (by decide) (cap := 5) (by decide) (by decide) (by decide) (by decide)) fun T2 h2 k2 b2 g2 X2 e2 E2 A2 => ?_
 have g_b2 : n0 ≤ b2 := Nat.le_trans (Old.le O1) (Nat.le_of_eq g2.symm)
 have V2 : Arv Z h2 b2 k2 .char (5 : Int32) [(.int 0), (.int 0), (.int 0), (.int 0), (.int 0)] (.int 0) := (Arv.new A2 (by decide)).pad (pad_rep [] (.int 0) 5)
 have O2 := O1.ext E2
 have K2 : Keep h0 h2 ([] : List Addr) := Keep.ext K1 E2
 have Cd2 := Cold.ext Cd1 E2
 refine Home.run X2 hx hby sg1_162_3 (pc' := 165) (L' := #[si 5, si i1, si i2, si i3, si i4, si i5, si i6]) (S' := [(.int i1), (.int 0), (.ref b2), (.ref b2), (.ref b1), (.ref b1)]) rfl ?_
 refine Home.call (own_staticW X2 hx hZ hown (own_hEL hw) Cd2 all0 (own_w55 hw) (own_w56 hw) (own_w4 hw) (own_w57 hw) (by decide) (rm12_0 l Z a0 hw [] i1 sv_COMPACT_STRINGS sv_SIOOBE_FORMATTER h2 n0 O2 bnd_i1 S_COMPACT_STRINGS S_SIOOBE_FORMATTER hCS isr_sv_SIOOBE_FORMATTER) e2 rfl (by rw [hml]; rfl) (argsL := [(.int i1)]) (rest := [(.int 0), (.ref b2), (.ref b2), (.ref b1), (.ref b1)]) (lenOf own_pd14 rfl) rfl rfl (W := 5) (by exact hW0) (by decide) (by decide) (hb hby d1_165) (by decide) (by decide)) ?_
 rintro _ T3 L3 X3 ⟨⟨rfl, N3q, K3q⟩, hZ, hown, Cd3, sR3⟩
 have O3 := Old.keep O2 K3q all0
 have K3 : Keep h0 T3.heap ([] : List Addr) := Keep.trans K2 K3q all0
 have N3 := Fr.app N0 N3q
 show Home T3 (mkF m 168 #[si 5, si i1, si i2, si i3, si i4, si i5, si i6] [(.int (nar .char ((own_at own_TI0 i1) &&& (255 : Int32)))), (.int 0), (.ref b2), (.ref b2), (.ref b1), (.ref b1)])
 obtain ⟨r4, hr4⟩ : ∃ z, z = (nar .char ((own_at own_TI0 i1) &&& (255 : Int32))) := ⟨_, rfl⟩
 rw [← hr4]
 have br4 : ¬ r4 < (0 : Int32) ∧ ¬ (255 : Int32) < r4 := by rw [hr4]; rw [nar_char_id (bnd_and (own_at own_TI0 i1) (255 : Int32) (by decide)) (by decide +kernel) (by decide +kernel)]; exact (bnd_and (own_at own_TI0 i1) (255 : Int32) (by decide))
 have q5 := (V2.keep K3q nin0)
 obtain ⟨cl6, Ar6, q6, S6, M6, H6, G6⟩ := id q5
 refine Home.wr (stC X3 hx hZ rfl Ar6 (j := (0 : Int32)) (inb_of S6 ⟨by decide, by decide⟩) rfl rfl (hb hby d1_168)) fun T6 h6 X6 e6 W6 => ?_
 have W6' := Wr.to W6 (congrArg Value.int (nar_char_id br4 (by decide +kernel) (by decide +kernel)))
 have V6 : Arv Z h6 b2 k2 .char (5 : Int32) [(.int r4), (.int 0), (.int 0), (.int 0), (.int 0)] (.int 0) := Arv.set Ar6 q6 S6 M6 H6 G6 (fits_char_b br4 (by decide +kernel) (by decide +kernel)) W6' 0 rfl (Nat.le_of_ble_eq_true rfl)
 have O6 := O3.wr W6 g_b2
 have K6 : Keep h0 h6 ([] : List Addr) := Keep.wr K3 W6 (Or.inr (Nat.le_trans E1.1 (Nat.le_of_eq g2.symm)))
 have Cd6 := Cold.wr Cd3 W6 (Safe.arv hZ.alike q5 (by simp))
 have N6 := Fr.snoc X6 N3 g_b2
 refine Home.run X6 hx hby sg1_169_3 (pc' := 172) (L' := #[si 5, si i1, si i2, si i3, si i4, si i5, si i6]) (S' := [(.int i2), (.int 1), (.ref b2), (.ref b2), (.ref b1), (.ref b1)]) rfl ?_
 refine Home.call (own_staticW X6 hx hZ hown (own_hEL hw) Cd6 all0 (own_w55 hw) (own_w56 hw) (own_w4 hw) (own_w57 hw) (by decide) (rm12_0 l Z a0 hw [] i2 sv_COMPACT_STRINGS sv_SIOOBE_FORMATTER h6 n0 O6 bnd_i2 S_COMPACT_STRINGS S_SIOOBE_FORMATTER hCS isr_sv_SIOOBE_FORMATTER) e6 rfl (by rw [hml]; rfl) (argsL := [(.int i2)]) (rest := [(.int 1), (.ref b2), (.ref b2), (.ref b1), (.ref b1)]) (lenOf own_pd14 rfl) rfl rfl (W := 5) (by exact hW0) (by decide) (by decide) (hb hby d1_172) (by decide) (by decide)) ?_
 rintro _ T7 L7 X7 ⟨⟨rfl, N7q, K7q⟩, hZ, hown, Cd7, sR7⟩
 have O7 := Old.keep O6 K7q all0
 have K7 : Keep h0 T7.heap ([] : List Addr) := Keep.trans K6 K7q all0
 have N7 := Fr.app N6 N7q
 show Home T7 (mkF m 175 #[si 5, si i1, si i2, si i3, si i4, si i5, si i6] [(.int (nar .char ((own_at own_TI0 i2) &&& (255 : Int32)))), (.int 1), (.ref b2), (.ref b2), (.ref b1), (.ref b1)])
 obtain ⟨r8, hr8⟩ : ∃ z, z = (nar .char ((own_at own_TI0 i2) &&& (255 : Int32))) := ⟨_, rfl⟩
 rw [← hr8]
 have br8 : ¬ r8 < (0 : Int32) ∧ ¬ (255 : Int32) < r8 := by rw [hr8]; rw [nar_char_id (bnd_and (own_at own_TI0 i2) (255 : Int32) (by decide)) (by decide +kernel) (by decide +kernel)]; exact (bnd_and (own_at own_TI0 i2) (255 : Int32) (by decide))
 have q9 := (V6.keep K7q nin0)
 obtain ⟨cl10, Ar10, q10, S10, M10, H10, G10⟩ := id q9
 refine Home.wr (stC X7 hx hZ rfl Ar10 (j := (1 : Int32)) (inb_of S10 ⟨by decide, by decide⟩) rfl rfl (hb hby d1_175)) fun T10 h10 X10 e10 W10 => ?_
 have W10' := Wr.to W10 (congrArg Value.int (nar_char_id br8 (by decide +kernel) (by decide +kernel)))
 have V10 : Arv Z h10 b2 k2 .char (5 : Int32) [(.int r4), (.int r8), (.int 0), (.int 0), (.int 0)] (.int 0) := Arv.set Ar10 q10 S10 M10 H10 G10 (fits_char_b br8 (by decide +kernel) (by decide +kernel)) W10' 1 rfl (Nat.le_of_ble_eq_true rfl)
 have O10 := O7.wr W10 g_b2
 have K10 : Keep h0 h10 ([] : List Addr) := Keep.wr K7 W10 (Or.inr (Nat.le_trans E1.1 (Nat.le_of_eq g2.symm)))
 have Cd10 := Cold.wr Cd7 W10 (Safe.arv hZ.alike q9 (by simp))
 have N10 := Fr.snoc X10 N7 g_b2
 refine Home.run X10 hx hby sg1_176_3 (pc' := 179) (L' := #[si 5, si i1, si i2, si i3, si i4, si i5, si i6]) (S' := [(.int i3), (.int 2), (.ref b2), (.ref b2), (.ref b1), (.ref b1)]) rfl ?_
 refine Home.call (own_staticW X10 hx hZ hown (own_hEL hw) Cd10 all0 (own_w55 hw) (own_w56 hw) (own_w4 hw) (own_w57 hw) (by decide) (rm12_0 l Z a0 hw [] i3 sv_COMPACT_STRINGS sv_SIOOBE_FORMATTER h10 n0 O10 bnd_i3 S_COMPACT_STRINGS S_SIOOBE_FORMATTER hCS isr_sv_SIOOBE_FORMATTER) e10 rfl (by rw [hml]; rfl) (argsL := [(.int i3)]) (rest := [(.int 2), (.ref b2), (.ref b2), (.ref b1), (.ref b1)]) (lenOf own_pd14 rfl) rfl rfl (W := 5) (by exact hW0) (by decide) (by decide) (hb hby d1_179) (by decide) (by decide)) ?_
 rintro _ T11 L11 X11 ⟨⟨rfl, N11q, K11q⟩, hZ, hown, Cd11, sR11⟩
 have O11 := Old.keep O10 K11q all0
 have K11 : Keep h0 T11.heap ([] : List Addr) := Keep.trans K10 K11q all0
 have N11 := Fr.app N10 N11q
 show Home T11 (mkF m 182 #[si 5, si i1, si i2, si i3, si i4, si i5, si i6] [(.int (nar .char ((own_at own_TI0 i3) &&& (255 : Int32)))), (.int 2), (.ref b2), (.ref b2), (.ref b1), (.ref b1)])
 obtain ⟨r12, hr12⟩ : ∃ z, z = (nar .char ((own_at own_TI0 i3) &&& (255 : Int32))) := ⟨_, rfl⟩
 rw [← hr12]
 have br12 : ¬ r12 < (0 : Int32) ∧ ¬ (255 : Int32) < r12 := by rw [hr12]; rw [nar_char_id (bnd_and (own_at own_TI0 i3) (255 : Int32) (by decide)) (by decide +kernel) (by decide +kernel)]; exact (bnd_and (own_at own_TI0 i3) (255 : Int32) (by decide))
 have q13 := (V10.keep K11q nin0)
 obtain ⟨cl14, Ar14, q14, S14, M14, H14, G14⟩ := id q13
 refine Home.wr (stC X11 hx hZ rfl Ar14 (j := (2 : Int32)) (inb_of S14 ⟨by decide, by decide⟩) rfl rfl (hb hby d1_182)) fun T14 h14 X14 e14 W14 => ?_
 have W14' := Wr.to W14 (congrArg Value.int (nar_char_id br12 (by decide +kernel) (by decide +kernel)))
 have V14 : Arv Z h14 b2 k2 .char (5 : Int32) [(.int r4), (.int r8), (.int r12), (.int 0), (.int 0)] (.int 0) := Arv.set Ar14 q14 S14 M14 H14 G14 (fits_char_b br12 (by decide +kernel) (by decide +kernel)) W14' 2 rfl (Nat.le_of_ble_eq_true rfl)
 have O14 := O11.wr W14 g_b2
 have K14 : Keep h0 h14 ([] : List Addr) := Keep.wr K11 W14 (Or.inr (Nat.le_trans E1.1 (Nat.le_of_eq g2.symm)))
 have Cd14 := Cold.wr Cd11 W14 (Safe.arv hZ.alike q13 (by simp))
 have N14 := Fr.snoc X14 N11 g_b2
 refine Home.run X14 hx hby sg1_183_3 (pc' := 187) (L' := #[si 5, si i1, si i2, si i3, si i4, si i5, si i6]) (S' := [(.int i4), (.int 3), (.ref b2), (.ref b2), (.ref b1), (.ref b1)]) rfl ?_
 refine Home.call (own_staticW X14 hx hZ hown (own_hEL hw) Cd14 all0 (own_w55 hw) (own_w56 hw) (own_w4 hw) (own_w57 hw) (by decide) (rm12_0 l Z a0 hw [] i4 sv_COMPACT_STRINGS sv_SIOOBE_FORMATTER h14 n0 O14 bnd_i4 S_COMPACT_STRINGS S_SIOOBE_FORMATTER hCS isr_sv_SIOOBE_FORMATTER) e14 rfl (by rw [hml]; rfl) (argsL := [(.int i4)]) (rest := [(.int 3), (.ref b2), (.ref b2), (.ref b1), (.ref b1)]) (lenOf own_pd14 rfl) rfl rfl (W := 5) (by exact hW0) (by decide) (by decide) (hb hby d1_187) (by decide) (by decide)) ?_
 rintro _ T15 L15 X15 ⟨⟨rfl, N15q, K15q⟩, hZ, hown, Cd15, sR15⟩
 have O15 := Old.keep O14 K15q all0
 have K15 : Keep h0 T15.heap ([] : List Addr) := Keep.trans K14 K15q all0
 have N15 := Fr.app N14 N15q
 show Home T15 (mkF m 190 #[si 5, si i1, si i2, si i3, si i4, si i5, si i6] [(.int (nar .char ((own_at own_TI0 i4) &&& (255 : Int32)))), (.int 3), (.ref b2), (.ref b2), (.ref b1), (.ref b1)])
 obtain ⟨r16, hr16⟩ : ∃ z, z = (nar .char ((own_at own_TI0 i4) &&& (255 : Int32))) := ⟨_, rfl⟩
 rw [← hr16]
 have br16 : ¬ r16 < (0 : Int32) ∧ ¬ (255 : Int32) < r16 := by rw [hr16]; rw [nar_char_id (bnd_and (own_at own_TI0 i4) (255 : Int32) (by decide)) (by decide +kernel) (by decide +kernel)]; exact (bnd_and (own_at own_TI0 i4) (255 : Int32) (by decide))
 have q17 := (V14.keep K15q nin0)
 obtain ⟨cl18, Ar18, q18, S18, M18, H18, G18⟩ := id q17
 refine Home.wr (stC X15 hx hZ rfl Ar18 (j := (3 : Int32)) (inb_of S18 ⟨by decide, by decide⟩) rfl rfl (hb hby d1_190)) fun T18 h18 X18 e18 W18 => ?_
 have W18' := Wr.to W18 (congrArg Value.int (nar_char_id br16 (by decide +kernel) (by decide +kernel)))
 have V18 : Arv Z h18 b2 k2 .char (5 : Int32) [(.int r4), (.int r8), (.int r12), (.int r16), (.int 0)] (.int 0) := Arv.set Ar18 q18 S18 M18 H18 G18 (fits_char_b br16 (by decide +kernel) (by decide +kernel)) W18' 3 rfl (Nat.le_of_ble_eq_true rfl)
 have O18 := O15.wr W18 g_b2
 have K18 : Keep h0 h18 ([] : List Addr) := Keep.wr K15 W18 (Or.inr (Nat.le_trans E1.1 (Nat.le_of_eq g2.symm)))
 have Cd18 := Cold.wr Cd15 W18 (Safe.arv hZ.alike q17 (by simp))
 have N18 := Fr.snoc X18 N15 g_b2
 refine Home.run X18 hx hby sg1_191_3 (pc' := 195) (L' := #[si 5, si i1, si i2, si i3, si i4, si i5, si i6]) (S' := [(.int i5), (.int 4), (.ref b2), (.ref b2), (.ref b1), (.ref b1)]) rfl ?_
 refine Home.call (own_staticW X18 hx hZ hown (own_hEL hw) Cd18 all0 (own_w55 hw) (own_w56 hw) (own_w4 hw) (own_w57 hw) (by decide) (rm12_0 l Z a0 hw [] i5 sv_COMPACT_STRINGS sv_SIOOBE_FORMATTER h18 n0 O18 bnd_i5 S_COMPACT_STRINGS S_SIOOBE_FORMATTER hCS isr_sv_SIOOBE_FORMATTER) e18 rfl (by rw [hml]; rfl) (argsL := [(.int i5)]) (rest := [(.int 4), (.ref b2), (.ref b2), (.ref b1), (.ref b1)]) (lenOf own_pd14 rfl) rfl rfl (W := 5) (by exact hW0) (by decide) (by decide) (hb hby d1_195) (by decide) (by decide)) ?_
 rintro _ T19 L19 X19 ⟨⟨rfl, N19q, K19q⟩, hZ, hown, Cd19, sR19⟩
 have O19 := Old.keep O18 K19q all0
 have K19 : Keep h0 T19.heap ([] : List Addr) := Keep.trans K18 K19q all0
 have N19 := Fr.app N18 N19q
 show Home T19 (mkF m 198 #[si 5, si i1, si i2, si i3, si i4, si i5, si i6] [(.int (nar .char ((own_at own_TI0 i5) &&& (255 : Int32)))), (.int 4), (.ref b2), (.ref b2), (.ref b1), (.ref b1)])
 obtain ⟨r20, hr20⟩ : ∃ z, z = (nar .char ((own_at own_TI0 i5) &&& (255 : Int32))) := ⟨_, rfl⟩
 rw [← hr20]
 have br20 : ¬ r20 < (0 : Int32) ∧ ¬ (255 : Int32) < r20 := by rw [hr20]; rw [nar_char_id (bnd_and (own_at own_TI0 i5) (255 : Int32) (by decide)) (by decide +kernel) (by decide +kernel)]; exact (bnd_and (own_at own_TI0 i5) (255 : Int32) (by decide))
 have q21 := (V18.keep K19q nin0)
 obtain ⟨cl22, Ar22, q22, S22, M22, H22, G22⟩ := id q21
 refine Home.wr (stC X19 hx hZ rfl Ar22 (j := (4 : Int32)) (inb_of S22 ⟨by decide, by decide⟩) rfl rfl (hb hby d1_198)) fun T22 h22 X22 e22 W22 => ?_
 have W22' := Wr.to W22 (congrArg Value.int (nar_char_id br20 (by decide +kernel) (by decide +kernel)))
 have V22 : Arv Z h22 b2 k2 .char (5 : Int32) [(.int r4), (.int r8), (.int r12), (.int r16), (.int r20)] (.int 0) := Arv.set Ar22 q22 S22 M22 H22 G22 (fits_char_b br20 (by decide +kernel) (by decide +kernel)) W22' 4 rfl (Nat.le_of_ble_eq_true rfl)
 have O22 := O19.wr W22 g_b2
 have K22 : Keep h0 h22 ([] : List Addr) := Keep.wr K19 W22 (Or.inr (Nat.le_trans E1.1 (Nat.le_of_eq g2.symm)))
 have Cd22 := Cold.wr Cd19 W22 (Safe.arv hZ.alike q21 (by simp))
 have N22 := Fr.snoc X22 N19 g_b2
 have q23 := (((((((((((A1.ext E2).keep K3q).wr W6).keep K7q).wr W10).keep K11q).wr W14).keep K15q).wr W18).keep K19q).wr W22)
 have ne24 : b1 ≠ b2 := (Nat.ne_of_lt (Nat.lt_of_lt_of_le A1.lt (Nat.le_trans (Nat.le_refl _) (Nat.le_of_eq g2.symm))))
 have q25 := (((((((((((F_coder_b1.ext E2).keep K3q nin0).other W6 (Or.inl ne24)).keep K7q nin0).other W10 (Or.inl ne24)).keep K11q nin0).other W14 (Or.inl ne24)).keep K15q nin0).other W18 (Or.inl ne24)).keep K19q nin0).other W22 (Or.inl ne24))
 have q26 := (((((((((((F_value_b1.ext E2).keep K3q nin0).other W6 (Or.inl ne24)).keep K7q nin0).other W10 (Or.inl ne24)).keep K11q nin0).other W14 (Or.inl ne24)).keep K15q nin0).other W18 (Or.inl ne24)).keep K19q nin0).other W22 (Or.inl ne24))
 refine Home.call (own_special X22 hx hZ hown rfl (own_w10 hw) (own_w11 hw) (own_w8 hw) (own_w12 hw) (by decide) (rm2_5 l Z a0 hw [] b1 b2 k2 r4 r8 r12 r16 r20 sv_COMPACT_STRINGS h22 n0 O22 V22 S_COMPACT_STRINGS q23 q25 q26 br4 br8 br12 br16 br20 g_b1 hCS) e22 rfl (by rw [hml]; rfl) (a := b1) (argsL := [(.ref b2)]) (rest := [(.ref b1)]) (lenOf own_pd1 rfl) rfl rfl (W := 1) (by exact hW0) (by decide) (by decide) (hb hby d1_199) (by decide) (by decide)) ?_
 rintro _ T27 L27 X27 ⟨b1_3_2_27, k1_3_2_27, rfl, N27q, sz_b1_3_2_27, K27q, P27_0, P27_1, P27_2, P27_3⟩
 have Cd27 := Cold.keep Cd22 K27q (allS (Cold.safe Cd22 (List.mem_of_getElem? (i := 0) rfl)) all0)
 have Cd27b1_3_2_27 := Cold.put Cd27 ⟨Safe.keep K27q (allS (Cold.safe Cd22 (List.mem_of_getElem? (i := 0) rfl)) all0) Cd22.2.1.1 (Safe.new sz_b1_3_2_27), P27_3.lt⟩
 have g_b1_3_2_27 : n0 ≤ b1_3_2_27 := Nat.le_trans (Old.le O22) sz_b1_3_2_27
 have O27 := Old.keep O22 K27q (allS g_b1 all0)
 have K27 : Keep h0 T27.heap ([] : List Addr) := Keep.trans K22 K27q (allS (Or.inr (Nat.le_trans (Nat.le_refl _) (Nat.le_of_eq g1.symm))) all0)
 have N27 := Fr.app N22 N27q
 show Home T27 (mkF m 202 #[si 5, si i1, si i2, si i3, si i4, si i5, si i6] [(.ref b1)])
 have le28 : h0.size ≤ h2.size := Nat.le_trans E1.1 E2.1
 have le29 : h0.size ≤ T3.heap.size := Nat.le_trans le28 K3q.1
 have le30 : h0.size ≤ h6.size := Nat.le_trans le29 (Nat.le_of_eq W6.size.symm)
 have le31 : h0.size ≤ T7.heap.size := Nat.le_trans le30 K7q.1
 have le32 : h0.size ≤ h10.size := Nat.le_trans le31 (Nat.le_of_eq W10.size.symm)
 have le33 : h0.size ≤ T11.heap.size := Nat.le_trans le32 K11q.1
 have le34 : h0.size ≤ h14.size := Nat.le_trans le33 (Nat.le_of_eq W14.size.symm)
 have le35 : h0.size ≤ T15.heap.size := Nat.le_trans le34 K15q.1
 have le36 : h0.size ≤ h18.size := Nat.le_trans le35 (Nat.le_of_eq W18.size.symm)
 have le37 : h0.size ≤ T19.heap.size := Nat.le_trans le36 K19q.1
 have le38 : h0.size ≤ h22.size := Nat.le_trans le37 (Nat.le_of_eq W22.size.symm)
 subst hr20
 subst hr16
 subst hr12
 subst hr8
 subst hr4
 exact HomeW.retR X27 hx hlk hZ (own_hEL hw) rfl Cd27b1_3_2_27 (fun _ _ q => by cases q; exact (List.mem_of_getElem? (i := 1) rfl)) hret rfl rfl (hb hby d1_202) ⟨b1, b1_3_2_27, k1_3_2_27, rfl, N27, (Nat.le_trans (Nat.le_refl _) (Nat.le_of_eq g1.symm)), (Nat.le_trans le38 sz_b1_3_2_27), K27, P27_0, P27_2, P27_1, P27_3⟩ (by decide) (by decide)
theorem rm8_5 (l : Launch) (Z : State) (a0 : Array Value) (hw : HW a0 Z) (ws : List Jvm.Cond) (i1 i2 i3 i4 i5 i6 : Int32) (h0 : Heap) (n0 : Nat) (O0 : Old Z n0 h0) (bnd_i1 : ¬ i1 < (0 : Int32) ∧ ¬ (57 : Int32) < i1) (bnd_i2 : ¬ i2 < (0 : Int32) ∧ ¬ (57 : Int32) < i2) (bnd_i3 : ¬ i3 < (0 : Int32) ∧ ¬ (57 : Int32) < i3) (bnd_i4 : ¬ i4 < (0 : Int32) ∧ ¬ (57 : Int32) < i4) (bnd_i5 : ¬ i5 < (0 : Int32) ∧ ¬ (57 : Int32) < i5) (bnd_i6 : ¬ i6 < (0 : Int32) ∧ ¬ (57 : Int32) < i6) :
    Con l Z (⟨"com/example/tryst/tryst/encoding/Base58DecodePinLaw", "leadingZeros", "(IIIIIII)I"⟩ : MethodName) method_5_code 7 (some .int) ws ({ frames := 0, cells := 0, slots := 0, locals := 0 } : Room) #[(.int 5), (.int i1), (.int i2), (.int i3), (.int i4), (.int i5), (.int i6)] h0 (Pur (some (.int (f_rm8_5 i1 i2 i3 i4 i5))) h0) := by
 refine own_body (plainFor_of_name own_pn1) (fun m => ef_rm8_5 m (5 : Int32) i1 i2 i3 i4 i5 i6) ?_
 intro p e s m below meth c s₁ hx hby hlk hml hret hZ hown hnm X0 e0
 have N0 := Fr.nil n0
 refine Home.run X0 hx hby sg8_0_2 (pc' := 2) (L' := #[si 5, si i1, si i2, si i3, si i4, si i5, si i6]) (S' := [(.int 1), (.int 5)]) rfl ?_
 refine Home.go (fun _ => XS.icmpNo X0.here hx rfl (hb hby d8_2) rfl (flt (by decide)).1) ?_
 refine Home.run X0 hx hby sg8_5_1 (pc' := 6) (L' := #[si 5, si i1, si i2, si i3, si i4, si i5, si i6]) (S' := [(.int i1)]) rfl ?_
 by_cases c1 : i1 = (0 : Int32)
 ·
  refine Home.go (fun _ => XS.ifYes X0.here hx rfl (pc0 := 6) (pc' := 11) rfl (hb hby d8_6) rfl ((if0 _ _).trans (teq c1).1) (by decide) (by decide)) ?_
  have bd2 : ¬ i1 < (0 : Int32) ∧ ¬ (0 : Int32) < i1 := ⟨(bnd_eql c1), (bnd_eqr c1)⟩
  refine Home.run X0 hx hby sg8_11_2 (pc' := 13) (L' := #[si 5, si i1, si i2, si i3, si i4, si i5, si i6]) (S' := [(.int 2), (.int 5)]) rfl ?_
  refine Home.go (fun _ => XS.icmpNo X0.here hx rfl (hb hby d8_13) rfl (flt (by decide)).1) ?_
  refine Home.run X0 hx hby sg8_16_1 (pc' := 17) (L' := #[si 5, si i1, si i2, si i3, si i4, si i5, si i6]) (S' := [(.int i2)]) rfl ?_
  by_cases c4 : i2 = (0 : Int32)
  ·
   refine Home.go (fun _ => XS.ifYes X0.here hx rfl (pc0 := 17) (pc' := 22) rfl (hb hby d8_17) rfl ((if0 _ _).trans (teq c4).1) (by decide) (by decide)) ?_
   have bd5 : ¬ i2 < (0 : Int32) ∧ ¬ (0 : Int32) < i2 := ⟨(bnd_eql c4), (bnd_eqr c4)⟩
   refine Home.run X0 hx hby sg8_22_2 (pc' := 24) (L' := #[si 5, si i1, si i2, si i3, si i4, si i5, si i6]) (S' := [(.int 3), (.int 5)]) rfl ?_
   refine Home.go (fun _ => XS.icmpNo X0.here hx rfl (hb hby d8_24) rfl (flt (by decide)).1) ?_
   refine Home.run X0 hx hby sg8_27_1 (pc' := 28) (L' := #[si 5, si i1, si i2, si i3, si i4, si i5, si i6]) (S' := [(.int i3)]) rfl ?_
   by_cases c7 : i3 = (0 : Int32)
   ·
    refine Home.go (fun _ => XS.ifYes X0.here hx rfl (pc0 := 28) (pc' := 33) rfl (hb hby d8_28) rfl ((if0 _ _).trans (teq c7).1) (by decide) (by decide)) ?_
    have bd8 : ¬ i3 < (0 : Int32) ∧ ¬ (0 : Int32) < i3 := ⟨(bnd_eql c7), (bnd_eqr c7)⟩
    refine Home.run X0 hx hby sg8_33_2 (pc' := 35) (L' := #[si 5, si i1, si i2, si i3, si i4, si i5, si i6]) (S' := [(.int 4), (.int 5)]) rfl ?_
    refine Home.go (fun _ => XS.icmpNo X0.here hx rfl (hb hby d8_35) rfl (flt (by decide)).1) ?_
    refine Home.run X0 hx hby sg8_38_1 (pc' := 40) (L' := #[si 5, si i1, si i2, si i3, si i4, si i5, si i6]) (S' := [(.int i4)]) rfl ?_
    by_cases c10 : i4 = (0 : Int32)
    ·
     refine Home.go (fun _ => XS.ifYes X0.here hx rfl (pc0 := 40) (pc' := 45) rfl (hb hby d8_40) rfl ((if0 _ _).trans (teq c10).1) (by decide) (by decide)) ?_
     have bd11 : ¬ i4 < (0 : Int32) ∧ ¬ (0 : Int32) < i4 := ⟨(bnd_eql c10), (bnd_eqr c10)⟩
     refine Home.run X0 hx hby sg8_45_2 (pc' := 47) (L' := #[si 5, si i1, si i2, si i3, si i4, si i5, si i6]) (S' := [(.int 5), (.int 5)]) rfl ?_
     refine Home.go (fun _ => XS.icmpNo X0.here hx rfl (hb hby d8_47) rfl (flt (by decide)).1) ?_
     refine Home.run X0 hx hby sg8_50_1 (pc' := 52) (L' := #[si 5, si i1, si i2, si i3, si i4, si i5, si i6]) (S' := [(.int i5)]) rfl ?_
     by_cases c13 : i5 = (0 : Int32)
     ·
      refine Home.go (fun _ => XS.ifYes X0.here hx rfl (pc0 := 52) (pc' := 57) rfl (hb hby d8_52) rfl ((if0 _ _).trans (teq c13).1) (by decide) (by decide)) ?_
      have bd14 : ¬ i5 < (0 : Int32) ∧ ¬ (0 : Int32) < i5 := ⟨(bnd_eql c13), (bnd_eqr c13)⟩
      refine Home.run X0 hx hby sg8_57_2 (pc' := 60) (L' := #[si 5, si i1, si i2, si i3, si i4, si i5, si i6]) (S' := [(.int 6), (.int 5)]) rfl ?_
      refine Home.go (fun _ => XS.icmpYes X0.here hx rfl (pc0 := 60) (pc' := 68) rfl (hb hby d8_60) rfl (tlt (by decide)).1 (by decide) (by decide)) ?_
      refine Home.run X0 hx hby sg8_68_1 (pc' := 69) (L' := #[si 5, si i1, si i2, si i3, si i4, si i5, si i6]) (S' := [(.int 5)]) rfl ?_
      exact Home.retI X0 hx hlk hret (hb hby d8_69) ⟨congrArg some (congrArg Value.int (by first | rfl | (simp only [f_rm8_5, if_pos c1, if_pos c4, if_pos c7, if_pos c10, if_pos c13, nar_i2c, nar_i2b] <;> rfl) | (simp [f_rm8_5, if_pos c1, if_pos c4, if_pos c7, if_pos c10, if_pos c13]; done))), rfl, e0⟩ (by decide) (by decide)
     ·
      refine Home.go (fun _ => XS.ifNo X0.here hx rfl (hb hby d8_52) rfl ((if0 _ _).trans (feq c13).1)) ?_
      have bd15 : ¬ i5 < (1 : Int32) ∧ ¬ (57 : Int32) < i5 := ⟨(bnd_nel bnd_i5.1 c13 (by decide +kernel)), bnd_i5.2⟩
      refine Home.run X0 hx hby sg8_55_1 (pc' := 56) (L' := #[si 5, si i1, si i2, si i3, si i4, si i5, si i6]) (S' := [(.int 4)]) rfl ?_
      exact Home.retI X0 hx hlk hret (hb hby d8_56) ⟨congrArg some (congrArg Value.int (by first | rfl | (simp only [f_rm8_5, if_pos c1, if_pos c4, if_pos c7, if_pos c10, if_neg c13, nar_i2c, nar_i2b] <;> rfl) | (simp [f_rm8_5, if_pos c1, if_pos c4, if_pos c7, if_pos c10, if_neg c13]; done))), rfl, e0⟩ (by decide) (by decide)
    ·
     refine Home.go (fun _ => XS.ifNo X0.here hx rfl (hb hby d8_40) rfl ((if0 _ _).trans (feq c10).1)) ?_
     have bd12 : ¬ i4 < (1 : Int32) ∧ ¬ (57 : Int32) < i4 := ⟨(bnd_nel bnd_i4.1 c10 (by decide +kernel)), bnd_i4.2⟩
     refine Home.run X0 hx hby sg8_43_1 (pc' := 44) (L' := #[si 5, si i1, si i2, si i3, si i4, si i5, si i6]) (S' := [(.int 3)]) rfl ?_
     exact Home.retI X0 hx hlk hret (hb hby d8_44) ⟨congrArg some (congrArg Value.int (by first | rfl | (simp only [f_rm8_5, if_pos c1, if_pos c4, if_pos c7, if_neg c10, nar_i2c, nar_i2b] <;> rfl) | (simp [f_rm8_5, if_pos c1, if_pos c4, if_pos c7, if_neg c10]; done))), rfl, e0⟩ (by decide) (by decide)
   ·
    refine Home.go (fun _ => XS.ifNo X0.here hx rfl (hb hby d8_28) rfl ((if0 _ _).trans (feq c7).1)) ?_
    have bd9 : ¬ i3 < (1 : Int32) ∧ ¬ (57 : Int32) < i3 := ⟨(bnd_nel bnd_i3.1 c7 (by decide +kernel)), bnd_i3.2⟩
    refine Home.run X0 hx hby sg8_31_1 (pc' := 32) (L' := #[si 5, si i1, si i2, si i3, si i4, si i5, si i6]) (S' := [(.int 2)]) rfl ?_
    exact Home.retI X0 hx hlk hret (hb hby d8_32) ⟨congrArg some (congrArg Value.int (by first | rfl | (simp only [f_rm8_5, if_pos c1, if_pos c4, if_neg c7, nar_i2c, nar_i2b] <;> rfl) | (simp [f_rm8_5, if_pos c1, if_pos c4, if_neg c7]; done))), rfl, e0⟩ (by decide) (by decide)
  ·
   refine Home.go (fun _ => XS.ifNo X0.here hx rfl (hb hby d8_17) rfl ((if0 _ _).trans (feq c4).1)) ?_
   have bd6 : ¬ i2 < (1 : Int32) ∧ ¬ (57 : Int32) < i2 := ⟨(bnd_nel bnd_i2.1 c4 (by decide +kernel)), bnd_i2.2⟩
   refine Home.run X0 hx hby sg8_20_1 (pc' := 21) (L' := #[si 5, si i1, si i2, si i3, si i4, si i5, si i6]) (S' := [(.int 1)]) rfl ?_
   exact Home.retI X0 hx hlk hret (hb hby d8_21) ⟨congrArg some (congrArg Value.int (by first | rfl | (simp only [f_rm8_5, if_pos c1, if_neg c4, nar_i2c, nar_i2b] <;> rfl) | (simp [f_rm8_5, if_pos c1, if_neg c4]; done))), rfl, e0⟩ (by decide) (by decide)
 ·
  refine Home.go (fun _ => XS.ifNo X0.here hx rfl (hb hby d8_6) rfl ((if0 _ _).trans (feq c1).1)) ?_
  have bd3 : ¬ i1 < (1 : Int32) ∧ ¬ (57 : Int32) < i1 := ⟨(bnd_nel bnd_i1.1 c1 (by decide +kernel)), bnd_i1.2⟩
  refine Home.run X0 hx hby sg8_9_1 (pc' := 10) (L' := #[si 5, si i1, si i2, si i3, si i4, si i5, si i6]) (S' := [(.int 0)]) rfl ?_
  exact Home.retI X0 hx hlk hret (hb hby d8_10) ⟨congrArg some (congrArg Value.int (by first | rfl | (simp only [f_rm8_5, if_neg c1, nar_i2c, nar_i2b] <;> rfl) | (simp [f_rm8_5, if_neg c1]; done))), rfl, e0⟩ (by decide) (by decide)
theorem f_rm8_5_bnd (i1 : Int32) (i2 : Int32) (i3 : Int32) (i4 : Int32) (i5 : Int32) (i6 : Int32) (bnd_i1 : ¬ i1 < (0 : Int32) ∧ ¬ (57 : Int32) < i1) (bnd_i2 : ¬ i2 < (0 : Int32) ∧ ¬ (57 : Int32) < i2) (bnd_i3 : ¬ i3 < (0 : Int32) ∧ ¬ (57 : Int32) < i3) (bnd_i4 : ¬ i4 < (0 : Int32) ∧ ¬ (57 : Int32) < i4) (bnd_i5 : ¬ i5 < (0 : Int32) ∧ ¬ (57 : Int32) < i5) (bnd_i6 : ¬ i6 < (0 : Int32) ∧ ¬ (57 : Int32) < i6) : ¬ (f_rm8_5 i1 i2 i3 i4 i5) < (0 : Int32) ∧ ¬ (5 : Int32) < (f_rm8_5 i1 i2 i3 i4 i5) := by unfold f_rm8_5; (repeat' split) <;> first | exact bnd_mono (bnd_lit (5 : Int32)) (by decide +kernel) (by decide +kernel) | exact bnd_mono (bnd_lit (4 : Int32)) (by decide +kernel) (by decide +kernel) | exact bnd_mono (bnd_lit (3 : Int32)) (by decide +kernel) (by decide +kernel) | exact bnd_mono (bnd_lit (2 : Int32)) (by decide +kernel) (by decide +kernel) | exact bnd_mono (bnd_lit (1 : Int32)) (by decide +kernel) (by decide +kernel) | exact bnd_mono (bnd_lit (0 : Int32)) (by decide +kernel) (by decide +kernel)
theorem rm9_5 (l : Launch) (Z : State) (a0 : Array Value) (hw : HW a0 Z) (ws : List Jvm.Cond) (i1 i2 i3 i4 i5 i6 : Int32) (h0 : Heap) (n0 : Nat) (O0 : Old Z n0 h0) (bnd_i1 : ¬ i1 < (0 : Int32) ∧ ¬ (57 : Int32) < i1) (bnd_i2 : ¬ i2 < (0 : Int32) ∧ ¬ (57 : Int32) < i2) (bnd_i3 : ¬ i3 < (0 : Int32) ∧ ¬ (57 : Int32) < i3) (bnd_i4 : ¬ i4 < (0 : Int32) ∧ ¬ (57 : Int32) < i4) (bnd_i5 : ¬ i5 < (0 : Int32) ∧ ¬ (57 : Int32) < i5) (bnd_i6 : ¬ i6 < (0 : Int32) ∧ ¬ (57 : Int32) < i6) :
    Con l Z (⟨"com/example/tryst/tryst/encoding/Base58DecodePinLaw", "value", "(IIIIIII)J"⟩ : MethodName) method_6_code 9 (some .long) ws ({ frames := 0, cells := 0, slots := 0, locals := 0 } : Room) #[(.int 5), (.int i1), (.int i2), (.int i3), (.int i4), (.int i5), (.int i6)] h0 (Pur (some (.long (((((((((i1.toInt64) * (58 : Int64)) + (i2.toInt64)) * (58 : Int64)) + (i3.toInt64)) * (58 : Int64)) + (i4.toInt64)) * (58 : Int64)) + (i5.toInt64)))) h0) := by
 refine own_body (plainFor_of_name own_pn1) (fun m => ef_rm9_5 m (5 : Int32) i1 i2 i3 i4 i5 i6) ?_
 intro p e s m below meth c s₁ hx hby hlk hml hret hZ hown hnm X0 e0
 have N0 := Fr.nil n0
 refine Home.run X0 hx hby sg9_0_3 (pc' := 4) (L' := #[si 5, si i1, si i2, si i3, si i4, si i5, si i6, .val (.long (0 : Int64)), .second]) (S' := [(.int 5)]) rfl ?_
 refine Home.go (fun _ => XS.ifNo X0.here hx rfl (hb hby d9_4) rfl ((if0 _ _).trans (tlt (by decide)).2.2.2)) ?_
 refine Home.run X0 hx hby sg9_7_5 (pc' := 13) (L' := #[si 5, si i1, si i2, si i3, si i4, si i5, si i6, .val (.long (i1.toInt64)), .second]) (S' := [(.int 1), (.int 5)]) rfl ?_
 refine Home.go (fun _ => XS.icmpNo X0.here hx rfl (hb hby d9_13) rfl (tlt (by decide)).2.2.2) ?_
 refine Home.run X0 hx hby sg9_16_1 (pc' := 18) (L' := #[si 5, si i1, si i2, si i3, si i4, si i5, si i6, .val (.long (i1.toInt64)), .second]) (S' := [(.long (i1.toInt64))]) rfl ?_
 refine Home.go (X0.ldc2Long hx hown (mvT hZ (own_w120 hw)) rfl (hb hby d9_18)) ?_
 refine Home.run X0 hx hby sg9_21_7 (pc' := 29) (L' := #[si 5, si i1, si i2, si i3, si i4, si i5, si i6, .val (.long (((i1.toInt64) * (58 : Int64)) + (i2.toInt64))), .second]) (S' := [(.int 2), (.int 5)]) rfl ?_
 refine Home.go (fun _ => XS.icmpNo X0.here hx rfl (hb hby d9_29) rfl (tlt (by decide)).2.2.2) ?_
 refine Home.run X0 hx hby sg9_32_1 (pc' := 34) (L' := #[si 5, si i1, si i2, si i3, si i4, si i5, si i6, .val (.long (((i1.toInt64) * (58 : Int64)) + (i2.toInt64))), .second]) (S' := [(.long (((i1.toInt64) * (58 : Int64)) + (i2.toInt64)))]) rfl ?_
 refine Home.go (X0.ldc2Long hx hown (mvT hZ (own_w120 hw)) rfl (hb hby d9_34)) ?_
 refine Home.run X0 hx hby sg9_37_7 (pc' := 45) (L' := #[si 5, si i1, si i2, si i3, si i4, si i5, si i6, .val (.long (((((i1.toInt64) * (58 : Int64)) + (i2.toInt64)) * (58 : Int64)) + (i3.toInt64))), .second]) (S' := [(.int 3), (.int 5)]) rfl ?_
 refine Home.go (fun _ => XS.icmpNo X0.here hx rfl (hb hby d9_45) rfl (tlt (by decide)).2.2.2) ?_
 refine Home.run X0 hx hby sg9_48_1 (pc' := 50) (L' := #[si 5, si i1, si i2, si i3, si i4, si i5, si i6, .val (.long (((((i1.toInt64) * (58 : Int64)) + (i2.toInt64)) * (58 : Int64)) + (i3.toInt64))), .second]) (S' := [(.long (((((i1.toInt64) * (58 : Int64)) + (i2.toInt64)) * (58 : Int64)) + (i3.toInt64)))]) rfl ?_
 refine Home.go (X0.ldc2Long hx hown (mvT hZ (own_w120 hw)) rfl (hb hby d9_50)) ?_
 show Home s₁ (mkF m 53 #[si 5, si i1, si i2, si i3, si i4, si i5, si i6, .val (.long (((((i1.toInt64) * (58 : Int64)) + (i2.toInt64)) * (58 : Int64)) + (i3.toInt64))), .second] [(.long (58 : Int64)), (.long (((((i1.toInt64) * (58 : Int64)) + (i2.toInt64)) * (58 : Int64)) + (i3.toInt64)))])
 refine Home.run X0 hx hby sg9_53_7 (pc' := 62) (L' := #[si 5, si i1, si i2, si i3, si i4, si i5, si i6, .val (.long (((((((i1.toInt64) * (58 : Int64)) + (i2.toInt64)) * (58 : Int64)) + (i3.toInt64)) * (58 : Int64)) + (i4.toInt64))), .second]) (S' := [(.int 4), (.int 5)]) rfl ?_
 refine Home.go (fun _ => XS.icmpNo X0.here hx rfl (hb hby d9_62) rfl (tlt (by decide)).2.2.2) ?_
 refine Home.run X0 hx hby sg9_65_1 (pc' := 67) (L' := #[si 5, si i1, si i2, si i3, si i4, si i5, si i6, .val (.long (((((((i1.toInt64) * (58 : Int64)) + (i2.toInt64)) * (58 : Int64)) + (i3.toInt64)) * (58 : Int64)) + (i4.toInt64))), .second]) (S' := [(.long (((((((i1.toInt64) * (58 : Int64)) + (i2.toInt64)) * (58 : Int64)) + (i3.toInt64)) * (58 : Int64)) + (i4.toInt64)))]) rfl ?_
 refine Home.go (X0.ldc2Long hx hown (mvT hZ (own_w120 hw)) rfl (hb hby d9_67)) ?_
 refine Home.run X0 hx hby sg9_70_7 (pc' := 79) (L' := #[si 5, si i1, si i2, si i3, si i4, si i5, si i6, .val (.long (((((((((i1.toInt64) * (58 : Int64)) + (i2.toInt64)) * (58 : Int64)) + (i3.toInt64)) * (58 : Int64)) + (i4.toInt64)) * (58 : Int64)) + (i5.toInt64))), .second]) (S' := [(.int 5), (.int 5)]) rfl ?_
 refine Home.go (fun _ => XS.icmpYes X0.here hx rfl (pc0 := 79) (pc' := 94) rfl (hb hby d9_79) rfl (flt (by decide)).2.2.2 (by decide) (by decide)) ?_
 refine Home.run X0 hx hby sg9_94_1 (pc' := 96) (L' := #[si 5, si i1, si i2, si i3, si i4, si i5, si i6, .val (.long (((((((((i1.toInt64) * (58 : Int64)) + (i2.toInt64)) * (58 : Int64)) + (i3.toInt64)) * (58 : Int64)) + (i4.toInt64)) * (58 : Int64)) + (i5.toInt64))), .second]) (S' := [(.long (((((((((i1.toInt64) * (58 : Int64)) + (i2.toInt64)) * (58 : Int64)) + (i3.toInt64)) * (58 : Int64)) + (i4.toInt64)) * (58 : Int64)) + (i5.toInt64)))]) rfl ?_
 exact Home.retJ X0 hx hlk hret (hb hby d9_96) ⟨rfl, rfl, e0⟩ (by decide) (by decide)
theorem rm19_5 (l : Launch) (Z : State) (a0 : Array Value) (hw : HW a0 Z) (ws : List Jvm.Cond) (o0 o2 : Addr) (k_o0 : ClassId) (u1 u2 u3 u4 u5 u6 : Int32) (k_o2 : ClassId) (h0 : Heap) (n0 : Nat) (O0 : Old Z n0 h0) (V_o0 : Arv Z h0 o0 k_o0 .char (6 : Int32) [(.int u1), (.int u2), (.int u3), (.int u4), (.int u5), (.int u6)] (.int 0)) (bnd_u1 : ¬ u1 < (0 : Int32) ∧ ¬ (255 : Int32) < u1) (V_o2 : Arv Z h0 o2 k_o2 .byte (6 : Int32) [(.int 0), (.int 0), (.int 0), (.int 0), (.int 0), (.int 0)] (.int 0)) (g_o2 : n0 ≤ o2) (ne_o0_o2 : o0 ≠ o2) (bnd_u2 : ¬ u2 < (0 : Int32) ∧ ¬ (255 : Int32) < u2) (bnd_u3 : ¬ u3 < (0 : Int32) ∧ ¬ (255 : Int32) < u3) (bnd_u4 : ¬ u4 < (0 : Int32) ∧ ¬ (255 : Int32) < u4) (bnd_u5 : ¬ u5 < (0 : Int32) ∧ ¬ (255 : Int32) < u5) (bnd_u6 : ¬ u6 < (0 : Int32) ∧ ¬ (255 : Int32) < u6) :
    Con l Z (⟨"java/lang/StringUTF16", "compress", "([CI[BII)I"⟩ : MethodName) jdk_52_method_21_code 7 (some .int) ws ({ frames := 0, cells := 0, slots := 0, locals := 0 } : Room) #[(.ref o0), (.int 0), (.ref o2), (.int 0), (.int 6)] h0 (fun v h L => v = some (.int 6) ∧ Fr n0 L ∧ Keep h0 h [o2] ∧ Arv Z h o2 k_o2 .byte (6 : Int32) [(.int (u1.toInt8.toInt32)), (.int (u2.toInt8.toInt32)), (.int (u3.toInt8.toInt32)), (.int (u4.toInt8.toInt32)), (.int (u5.toInt8.toInt32)), (.int (u6.toInt8.toInt32))] (.int 0)) := by
 refine own_body (plainFor_of_name own_pn5) (fun m => ef_rm19_5 m o0 (0 : Int32) o2 (6 : Int32)) ?_
 intro p e s m below meth c s₁ hx hby hlk hml hret hZ hown hnm X0 e0
 have N0 := Fr.nil n0
 refine Home.run X0 hx hby sg19_0_4 (pc' := 7) (L' := #[sr o0, si 0, sr o2, si 0, si 6, si 0, un]) (S' := [(.int 6), (.int 0)]) rfl ?_
 refine Home.go (fun _ => XS.icmpNo X0.here hx rfl (hb hby d19_7) rfl (tlt (by decide)).2.1) ?_
 refine Home.run X0 hx hby sg19_10_2 (pc' := 12) (L' := #[sr o0, si 0, sr o2, si 0, si 6, si 0, un]) (S' := [(.int 0), (.ref o0)]) rfl ?_
 obtain ⟨cl1, Ar1, q1, S1, M1, H1, G1⟩ := id V_o0
 have ib1 : ¬ ((0 : Int32) < 0 ∨ cl1.slots.size ≤ ((0 : Int32)).toNatClampNeg) := inb_of S1 ⟨by decide, by decide⟩
 refine Home.go (X0.caload hx (j := (0 : Int32)) (v := (.int u1)) (by rw [e0]; exact Ar1.1) (State.isArrayOf_alike hZ.alike Ar1.2.1) Ar1.2.2 ib1 (Has.at H1 ib1 rfl) rfl rfl (hb hby d19_12)) ?_
 refine Home.run X0 hx hby sg19_13_3 (pc' := 20) (L' := #[sr o0, si 0, sr o2, si 0, si 6, si 0, si u1]) (S' := [(.int 255), (.int u1)]) rfl ?_
 refine Home.go (fun _ => XS.icmpYes X0.here hx rfl (pc0 := 20) (pc' := 26) rfl (hb hby d19_20) rfl (flt (bnd_nlt (bnd_lit (255 : Int32)) bnd_u1 (by decide +kernel))).2.2.2 (by decide) (by decide)) ?_
 refine Home.run X0 hx hby sg19_26_4 (pc' := 31) (L' := #[sr o0, si 0, sr o2, si 0, si 6, si 0, si u1]) (S' := [(.int (u1.toInt8.toInt32)), (.int 0), (.ref o2)]) rfl ?_
 obtain ⟨cl2, Ar2, q2, S2, M2, H2, G2⟩ := id V_o2
 refine Home.wr (stB X0 hx hZ e0 Ar2 (j := (0 : Int32)) (inb_of S2 ⟨by decide, by decide⟩) rfl rfl (hb hby d19_31)) fun T2 h2 X2 e2 W2 => ?_
 have W2' := Wr.to W2 (congrArg Value.int (nar_byte_id (bnd_i2b u1) (by decide +kernel) (by decide +kernel)))
 have V2 : Arv Z h2 o2 k_o2 .byte (6 : Int32) [(.int (u1.toInt8.toInt32)), (.int 0), (.int 0), (.int 0), (.int 0), (.int 0)] (.int 0) := Arv.set Ar2 q2 S2 M2 H2 G2 (fits_byte_b (bnd_i2b u1) (by decide +kernel) (by decide +kernel)) W2' 0 rfl (Nat.le_of_ble_eq_true rfl)
 have O2 := O0.wr W2 g_o2
 have K2 : Keep h0 h2 ([o2] : List Addr) := Keep.wr (Keep.refl h0 ([o2] : List Addr)) W2 (Or.inl (List.mem_of_getElem? (i := 0) rfl))
 have N2 := Fr.snoc X2 N0 g_o2
 show Home T2 (mkF m 32 #[sr o0, si 0, sr o2, si 0, si 6, si 0, si u1] [])
 refine Home.run X2 hx hby sg19_32_6 (pc' := 7) (L' := #[sr o0, si 1, sr o2, si 1, si 6, si 1, si u1]) (S' := [(.int 6), (.int 1)]) rfl ?_
 refine Home.go (fun _ => XS.icmpNo X2.here hx rfl (hb hby d19_7) rfl (tlt (by decide)).2.1) ?_
 refine Home.run X2 hx hby sg19_10_2 (pc' := 12) (L' := #[sr o0, si 1, sr o2, si 1, si 6, si 1, si u1]) (S' := [(.int 1), (.ref o0)]) rfl ?_
 have q3 := (V_o0.other W2 ne_o0_o2)
 obtain ⟨cl4, Ar4, q4, S4, M4, H4, G4⟩ := id q3
 have ib4 : ¬ ((1 : Int32) < 0 ∨ cl4.slots.size ≤ ((1 : Int32)).toNatClampNeg) := inb_of S4 ⟨by decide, by decide⟩
 refine Home.go (X2.caload hx (j := (1 : Int32)) (v := (.int u2)) (by rw [e2]; exact Ar4.1) (State.isArrayOf_alike hZ.alike Ar4.2.1) Ar4.2.2 ib4 (Has.at H4 ib4 rfl) rfl rfl (hb hby d19_12)) ?_
 refine Home.run X2 hx hby sg19_13_3 (pc' := 20) (L' := #[sr o0, si 1, sr o2, si 1, si 6, si 1, si u2]) (S' := [(.int 255), (.int u2)]) rfl ?_
 refine Home.go (fun _ => XS.icmpYes X2.here hx rfl (pc0 := 20) (pc' := 26) rfl (hb hby d19_20) rfl (flt (bnd_nlt (bnd_lit (255 : Int32)) bnd_u2 (by decide +kernel))).2.2.2 (by decide) (by decide)) ?_
 refine Home.run X2 hx hby sg19_26_4 (pc' := 31) (L' := #[sr o0, si 1, sr o2, si 1, si 6, si 1, si u2]) (S' := [(.int (u2.toInt8.toInt32)), (.int 1), (.ref o2)]) rfl ?_
 obtain ⟨cl5, Ar5, q5, S5, M5, H5, G5⟩ := id V2
 refine Home.wr (stB X2 hx hZ e2 Ar5 (j := (1 : Int32)) (inb_of S5 ⟨by decide, by decide⟩) rfl rfl (hb hby d19_31)) fun T5 h5 X5 e5 W5 => ?_
 have W5' := Wr.to W5 (congrArg Value.int (nar_byte_id (bnd_i2b u2) (by decide +kernel) (by decide +kernel)))
 have V5 : Arv Z h5 o2 k_o2 .byte (6 : Int32) [(.int (u1.toInt8.toInt32)), (.int (u2.toInt8.toInt32)), (.int 0), (.int 0), (.int 0), (.int 0)] (.int 0) := Arv.set Ar5 q5 S5 M5 H5 G5 (fits_byte_b (bnd_i2b u2) (by decide +kernel) (by decide +kernel)) W5' 1 rfl (Nat.le_of_ble_eq_true rfl)
 have O5 := O2.wr W5 g_o2
 have K5 : Keep h0 h5 ([o2] : List Addr) := Keep.wr K2 W5 (Or.inl (List.mem_of_getElem? (i := 0) rfl))
 have N5 := Fr.snoc X5 N2 g_o2
 show Home T5 (mkF m 32 #[sr o0, si 1, sr o2, si 1, si 6, si 1, si u2] [])
 refine Home.run X5 hx hby sg19_32_6 (pc' := 7) (L' := #[sr o0, si 2, sr o2, si 2, si 6, si 2, si u2]) (S' := [(.int 6), (.int 2)]) rfl ?_
 refine Home.go (fun _ => XS.icmpNo X5.here hx rfl (hb hby d19_7) rfl (tlt (by decide)).2.1) ?_
 refine Home.run X5 hx hby sg19_10_2 (pc' := 12) (L' := #[sr o0, si 2, sr o2, si 2, si 6, si 2, si u2]) (S' := [(.int 2), (.ref o0)]) rfl ?_
 have q6 := (q3.other W5 ne_o0_o2)
 obtain ⟨cl7, Ar7, q7, S7, M7, H7, G7⟩ := id q6
 have ib7 : ¬ ((2 : Int32) < 0 ∨ cl7.slots.size ≤ ((2 : Int32)).toNatClampNeg) := inb_of S7 ⟨by decide, by decide⟩
 refine Home.go (X5.caload hx (j := (2 : Int32)) (v := (.int u3)) (by rw [e5]; exact Ar7.1) (State.isArrayOf_alike hZ.alike Ar7.2.1) Ar7.2.2 ib7 (Has.at H7 ib7 rfl) rfl rfl (hb hby d19_12)) ?_
 refine Home.run X5 hx hby sg19_13_3 (pc' := 20) (L' := #[sr o0, si 2, sr o2, si 2, si 6, si 2, si u3]) (S' := [(.int 255), (.int u3)]) rfl ?_
 refine Home.go (fun _ => XS.icmpYes X5.here hx rfl (pc0 := 20) (pc' := 26) rfl (hb hby d19_20) rfl (flt (bnd_nlt (bnd_lit (255 : Int32)) bnd_u3 (by decide +kernel))).2.2.2 (by decide) (by decide)) ?_
 refine Home.run X5 hx hby sg19_26_4 (pc' := 31) (L' := #[sr o0, si 2, sr o2, si 2, si 6, si 2, si u3]) (S' := [(.int (u3.toInt8.toInt32)), (.int 2), (.ref o2)]) rfl ?_
 obtain ⟨cl8, Ar8, q8, S8, M8, H8, G8⟩ := id V5
 refine Home.wr (stB X5 hx hZ e5 Ar8 (j := (2 : Int32)) (inb_of S8 ⟨by decide, by decide⟩) rfl rfl (hb hby d19_31)) fun T8 h8 X8 e8 W8 => ?_
 have W8' := Wr.to W8 (congrArg Value.int (nar_byte_id (bnd_i2b u3) (by decide +kernel) (by decide +kernel)))
 have V8 : Arv Z h8 o2 k_o2 .byte (6 : Int32) [(.int (u1.toInt8.toInt32)), (.int (u2.toInt8.toInt32)), (.int (u3.toInt8.toInt32)), (.int 0), (.int 0), (.int 0)] (.int 0) := Arv.set Ar8 q8 S8 M8 H8 G8 (fits_byte_b (bnd_i2b u3) (by decide +kernel) (by decide +kernel)) W8' 2 rfl (Nat.le_of_ble_eq_true rfl)
 have O8 := O5.wr W8 g_o2
 have K8 : Keep h0 h8 ([o2] : List Addr) := Keep.wr K5 W8 (Or.inl (List.mem_of_getElem? (i := 0) rfl))
 have N8 := Fr.snoc X8 N5 g_o2
 show Home T8 (mkF m 32 #[sr o0, si 2, sr o2, si 2, si 6, si 2, si u3] [])
 refine Home.run X8 hx hby sg19_32_6 (pc' := 7) (L' := #[sr o0, si 3, sr o2, si 3, si 6, si 3, si u3]) (S' := [(.int 6), (.int 3)]) rfl ?_
 refine Home.go (fun _ => XS.icmpNo X8.here hx rfl (hb hby d19_7) rfl (tlt (by decide)).2.1) ?_
 refine Home.run X8 hx hby sg19_10_2 (pc' := 12) (L' := #[sr o0, si 3, sr o2, si 3, si 6, si 3, si u3]) (S' := [(.int 3), (.ref o0)]) rfl ?_
 have q9 := (q6.other W8 ne_o0_o2)
 obtain ⟨cl10, Ar10, q10, S10, M10, H10, G10⟩ := id q9
 have ib10 : ¬ ((3 : Int32) < 0 ∨ cl10.slots.size ≤ ((3 : Int32)).toNatClampNeg) := inb_of S10 ⟨by decide, by decide⟩
 refine Home.go (X8.caload hx (j := (3 : Int32)) (v := (.int u4)) (by rw [e8]; exact Ar10.1) (State.isArrayOf_alike hZ.alike Ar10.2.1) Ar10.2.2 ib10 (Has.at H10 ib10 rfl) rfl rfl (hb hby d19_12)) ?_
 refine Home.run X8 hx hby sg19_13_3 (pc' := 20) (L' := #[sr o0, si 3, sr o2, si 3, si 6, si 3, si u4]) (S' := [(.int 255), (.int u4)]) rfl ?_
 refine Home.go (fun _ => XS.icmpYes X8.here hx rfl (pc0 := 20) (pc' := 26) rfl (hb hby d19_20) rfl (flt (bnd_nlt (bnd_lit (255 : Int32)) bnd_u4 (by decide +kernel))).2.2.2 (by decide) (by decide)) ?_
 refine Home.run X8 hx hby sg19_26_4 (pc' := 31) (L' := #[sr o0, si 3, sr o2, si 3, si 6, si 3, si u4]) (S' := [(.int (u4.toInt8.toInt32)), (.int 3), (.ref o2)]) rfl ?_
 obtain ⟨cl11, Ar11, q11, S11, M11, H11, G11⟩ := id V8
 refine Home.wr (stB X8 hx hZ e8 Ar11 (j := (3 : Int32)) (inb_of S11 ⟨by decide, by decide⟩) rfl rfl (hb hby d19_31)) fun T11 h11 X11 e11 W11 => ?_
 have W11' := Wr.to W11 (congrArg Value.int (nar_byte_id (bnd_i2b u4) (by decide +kernel) (by decide +kernel)))
 have V11 : Arv Z h11 o2 k_o2 .byte (6 : Int32) [(.int (u1.toInt8.toInt32)), (.int (u2.toInt8.toInt32)), (.int (u3.toInt8.toInt32)), (.int (u4.toInt8.toInt32)), (.int 0), (.int 0)] (.int 0) := Arv.set Ar11 q11 S11 M11 H11 G11 (fits_byte_b (bnd_i2b u4) (by decide +kernel) (by decide +kernel)) W11' 3 rfl (Nat.le_of_ble_eq_true rfl)
 have O11 := O8.wr W11 g_o2
 have K11 : Keep h0 h11 ([o2] : List Addr) := Keep.wr K8 W11 (Or.inl (List.mem_of_getElem? (i := 0) rfl))
 have N11 := Fr.snoc X11 N8 g_o2
 show Home T11 (mkF m 32 #[sr o0, si 3, sr o2, si 3, si 6, si 3, si u4] [])
 refine Home.run X11 hx hby sg19_32_6 (pc' := 7) (L' := #[sr o0, si 4, sr o2, si 4, si 6, si 4, si u4]) (S' := [(.int 6), (.int 4)]) rfl ?_
 refine Home.go (fun _ => XS.icmpNo X11.here hx rfl (hb hby d19_7) rfl (tlt (by decide)).2.1) ?_
 refine Home.run X11 hx hby sg19_10_2 (pc' := 12) (L' := #[sr o0, si 4, sr o2, si 4, si 6, si 4, si u4]) (S' := [(.int 4), (.ref o0)]) rfl ?_
 have q12 := (q9.other W11 ne_o0_o2)
 obtain ⟨cl13, Ar13, q13, S13, M13, H13, G13⟩ := id q12
 have ib13 : ¬ ((4 : Int32) < 0 ∨ cl13.slots.size ≤ ((4 : Int32)).toNatClampNeg) := inb_of S13 ⟨by decide, by decide⟩
 refine Home.go (X11.caload hx (j := (4 : Int32)) (v := (.int u5)) (by rw [e11]; exact Ar13.1) (State.isArrayOf_alike hZ.alike Ar13.2.1) Ar13.2.2 ib13 (Has.at H13 ib13 rfl) rfl rfl (hb hby d19_12)) ?_
 refine Home.run X11 hx hby sg19_13_3 (pc' := 20) (L' := #[sr o0, si 4, sr o2, si 4, si 6, si 4, si u5]) (S' := [(.int 255), (.int u5)]) rfl ?_
 refine Home.go (fun _ => XS.icmpYes X11.here hx rfl (pc0 := 20) (pc' := 26) rfl (hb hby d19_20) rfl (flt (bnd_nlt (bnd_lit (255 : Int32)) bnd_u5 (by decide +kernel))).2.2.2 (by decide) (by decide)) ?_
 refine Home.run X11 hx hby sg19_26_4 (pc' := 31) (L' := #[sr o0, si 4, sr o2, si 4, si 6, si 4, si u5]) (S' := [(.int (u5.toInt8.toInt32)), (.int 4), (.ref o2)]) rfl ?_
 obtain ⟨cl14, Ar14, q14, S14, M14, H14, G14⟩ := id V11
 refine Home.wr (stB X11 hx hZ e11 Ar14 (j := (4 : Int32)) (inb_of S14 ⟨by decide, by decide⟩) rfl rfl (hb hby d19_31)) fun T14 h14 X14 e14 W14 => ?_
 have W14' := Wr.to W14 (congrArg Value.int (nar_byte_id (bnd_i2b u5) (by decide +kernel) (by decide +kernel)))
 have V14 : Arv Z h14 o2 k_o2 .byte (6 : Int32) [(.int (u1.toInt8.toInt32)), (.int (u2.toInt8.toInt32)), (.int (u3.toInt8.toInt32)), (.int (u4.toInt8.toInt32)), (.int (u5.toInt8.toInt32)), (.int 0)] (.int 0) := Arv.set Ar14 q14 S14 M14 H14 G14 (fits_byte_b (bnd_i2b u5) (by decide +kernel) (by decide +kernel)) W14' 4 rfl (Nat.le_of_ble_eq_true rfl)
 have O14 := O11.wr W14 g_o2
 have K14 : Keep h0 h14 ([o2] : List Addr) := Keep.wr K11 W14 (Or.inl (List.mem_of_getElem? (i := 0) rfl))
 have N14 := Fr.snoc X14 N11 g_o2
 show Home T14 (mkF m 32 #[sr o0, si 4, sr o2, si 4, si 6, si 4, si u5] [])
 refine Home.run X14 hx hby sg19_32_6 (pc' := 7) (L' := #[sr o0, si 5, sr o2, si 5, si 6, si 5, si u5]) (S' := [(.int 6), (.int 5)]) rfl ?_
 refine Home.go (fun _ => XS.icmpNo X14.here hx rfl (hb hby d19_7) rfl (tlt (by decide)).2.1) ?_
 refine Home.run X14 hx hby sg19_10_2 (pc' := 12) (L' := #[sr o0, si 5, sr o2, si 5, si 6, si 5, si u5]) (S' := [(.int 5), (.ref o0)]) rfl ?_
 have q15 := (q12.other W14 ne_o0_o2)
 obtain ⟨cl16, Ar16, q16, S16, M16, H16, G16⟩ := id q15
 have ib16 : ¬ ((5 : Int32) < 0 ∨ cl16.slots.size ≤ ((5 : Int32)).toNatClampNeg) := inb_of S16 ⟨by decide, by decide⟩
 refine Home.go (X14.caload hx (j := (5 : Int32)) (v := (.int u6)) (by rw [e14]; exact Ar16.1) (State.isArrayOf_alike hZ.alike Ar16.2.1) Ar16.2.2 ib16 (Has.at H16 ib16 rfl) rfl rfl (hb hby d19_12)) ?_
 refine Home.run X14 hx hby sg19_13_3 (pc' := 20) (L' := #[sr o0, si 5, sr o2, si 5, si 6, si 5, si u6]) (S' := [(.int 255), (.int u6)]) rfl ?_
 refine Home.go (fun _ => XS.icmpYes X14.here hx rfl (pc0 := 20) (pc' := 26) rfl (hb hby d19_20) rfl (flt (bnd_nlt (bnd_lit (255 : Int32)) bnd_u6 (by decide +kernel))).2.2.2 (by decide) (by decide)) ?_
 refine Home.run X14 hx hby sg19_26_4 (pc' := 31) (L' := #[sr o0, si 5, sr o2, si 5, si 6, si 5, si u6]) (S' := [(.int (u6.toInt8.toInt32)), (.int 5), (.ref o2)]) rfl ?_
 obtain ⟨cl17, Ar17, q17, S17, M17, H17, G17⟩ := id V14
 refine Home.wr (stB X14 hx hZ e14 Ar17 (j := (5 : Int32)) (inb_of S17 ⟨by decide, by decide⟩) rfl rfl (hb hby d19_31)) fun T17 h17 X17 e17 W17 => ?_
 have W17' := Wr.to W17 (congrArg Value.int (nar_byte_id (bnd_i2b u6) (by decide +kernel) (by decide +kernel)))
 have V17 : Arv Z h17 o2 k_o2 .byte (6 : Int32) [(.int (u1.toInt8.toInt32)), (.int (u2.toInt8.toInt32)), (.int (u3.toInt8.toInt32)), (.int (u4.toInt8.toInt32)), (.int (u5.toInt8.toInt32)), (.int (u6.toInt8.toInt32))] (.int 0) := Arv.set Ar17 q17 S17 M17 H17 G17 (fits_byte_b (bnd_i2b u6) (by decide +kernel) (by decide +kernel)) W17' 5 rfl (Nat.le_of_ble_eq_true rfl)
 have O17 := O14.wr W17 g_o2
 have K17 : Keep h0 h17 ([o2] : List Addr) := Keep.wr K14 W17 (Or.inl (List.mem_of_getElem? (i := 0) rfl))
 have N17 := Fr.snoc X17 N14 g_o2
 show Home T17 (mkF m 32 #[sr o0, si 5, sr o2, si 5, si 6, si 5, si u6] [])
 refine Home.run X17 hx hby sg19_32_6 (pc' := 7) (L' := #[sr o0, si 6, sr o2, si 6, si 6, si 6, si u6]) (S' := [(.int 6), (.int 6)]) rfl ?_
 refine Home.go (fun _ => XS.icmpYes X17.here hx rfl (pc0 := 7) (pc' := 44) rfl (hb hby d19_7) rfl (flt (by decide)).2.1 (by decide) (by decide)) ?_
 refine Home.run X17 hx hby sg19_44_1 (pc' := 46) (L' := #[sr o0, si 6, sr o2, si 6, si 6, si 6, si u6]) (S' := [(.int 6)]) rfl ?_
 exact Home.retI X17 hx hlk hret (hb hby d19_46) (by rw [show T17.heap = h17 from e17]; exact ⟨rfl, N17, K17, V17⟩) (by decide) (by decide)
theorem rm18_5 (l : Launch) (Z : State) (a0 : Array Value) (hw : HW a0 Z) (ws : List Jvm.Cond) (o0 : Addr) (k_o0 : ClassId) (u1 u2 u3 u4 u5 u6 : Int32) (h0 : Heap) (n0 : Nat) (O0 : Old Z n0 h0) (V_o0 : Arv Z h0 o0 k_o0 .char (6 : Int32) [(.int u1), (.int u2), (.int u3), (.int u4), (.int u5), (.int u6)] (.int 0)) (bnd_u1 : ¬ u1 < (0 : Int32) ∧ ¬ (255 : Int32) < u1) (bnd_u2 : ¬ u2 < (0 : Int32) ∧ ¬ (255 : Int32) < u2) (bnd_u3 : ¬ u3 < (0 : Int32) ∧ ¬ (255 : Int32) < u3) (bnd_u4 : ¬ u4 < (0 : Int32) ∧ ¬ (255 : Int32) < u4) (bnd_u5 : ¬ u5 < (0 : Int32) ∧ ¬ (255 : Int32) < u5) (bnd_u6 : ¬ u6 < (0 : Int32) ∧ ¬ (255 : Int32) < u6) :
    Con l Z (⟨"java/lang/StringUTF16", "compress", "([CII)[B"⟩ : MethodName) jdk_52_method_16_code 6 (some (.array .byte)) ws ({ frames := 1, cells := 1, slots := 6, locals := 18 } : Room) #[(.ref o0), (.int 0), (.int 6)] h0 (fun v h L => ∃ (b1 : Addr), ∃ (k1 : ClassId), v = some (.ref b1) ∧ Fr n0 L ∧ h0.size ≤ b1 ∧ Keep h0 h [] ∧ Arv Z h b1 k1 .byte (6 : Int32) [(.int (u1.toInt8.toInt32)), (.int (u2.toInt8.toInt32)), (.int (u3.toInt8.toInt32)), (.int (u4.toInt8.toInt32)), (.int (u5.toInt8.toInt32)), (.int (u6.toInt8.toInt32))] (.int 0)) := by
 refine own_body (plainFor_of_name own_pn5) (fun m => ef_rm18_5 m o0 (0 : Int32) (6 : Int32)) ?_
 intro p e s m below meth c s₁ hx hby hlk hml hret hZ hown hnm X0 e0
 have N0 := Fr.nil n0
 refine Home.run X0 hx hby sg18_0_1 (pc' := 1) (L' := #[sr o0, si 0, si 6, un, un, un]) (S' := [(.int 6)]) rfl ?_
 refine Home.na (own_newP (aty := .byte) X0 hx hZ (own_w21 hw) e0 (g := (mkF m 1 #[.val (.ref o0), .val (.int 0), .val (.int 6), .unset, .unset, .unset] [(.int 6)])) rfl (hb hby d18_1) rfl (by decide) (cap := 6) (by decide) (by decide) (by decide) (by decide)) fun T1 h1 k1 b1 g1 X1 e1 E1 A1 => ?_
 have g_b1 : n0 ≤ b1 := Nat.le_trans (Old.le O0) (Nat.le_of_eq g1.symm)
 have V1 : Arv Z h1 b1 k1 .byte (6 : Int32) [(.int 0), (.int 0), (.int 0), (.int 0), (.int 0), (.int 0)] (.int 0) := (Arv.new A1 (by decide)).pad (pad_rep [] (.int 0) 6)
 have O1 := O0.ext E1
 have K1 : Keep h0 h1 ([] : List Addr) := Keep.ext (Keep.refl h0 ([] : List Addr)) E1
 refine Home.run X1 hx hby sg18_3_6 (pc' := 9) (L' := #[sr o0, si 0, si 6, sr b1, un, un]) (S' := [(.int 6), (.int 0), (.ref b1), (.int 0), (.ref o0)]) rfl ?_
 have ne2 : o0 ≠ b1 := (Nat.ne_of_lt (Nat.lt_of_lt_of_le V_o0.lt (Nat.le_trans (Nat.le_refl _) (Nat.le_of_eq g1.symm))))
 refine Home.call (own_static X1 hx hZ hown (own_w85 hw) (own_w86 hw) (own_w83 hw) (own_w87 hw) (by decide) (rm19_5 l Z a0 hw [] o0 b1 k_o0 u1 u2 u3 u4 u5 u6 k1 h1 n0 O1 (V_o0.keep K1 nin0) bnd_u1 V1 g_b1 ne2 bnd_u2 bnd_u3 bnd_u4 bnd_u5 bnd_u6) e1 rfl (by rw [hml]; rfl) (argsL := [(.ref o0), (.int 0), (.ref b1), (.int 0), (.int 6)]) (rest := []) (lenOf own_pd15 rfl) rfl rfl (W := 0) (by exact hW0) (by decide) (by decide) (hb hby d18_9) (by decide) (by decide)) ?_
 rintro _ T3 L3 X3 ⟨rfl, N3q, K3q, P3_0⟩
 have O3 := Old.keep O1 K3q (allS g_b1 all0)
 have K3 : Keep h0 T3.heap ([] : List Addr) := Keep.trans K1 K3q (allS (Or.inr (Nat.le_trans (Nat.le_refl _) (Nat.le_of_eq g1.symm))) all0)
 have N3 := Fr.app N0 N3q
 refine Home.run X3 hx hby sg18_12_3 (pc' := 17) (L' := #[sr o0, si 0, si 6, sr b1, si 6, un]) (S' := [(.int 6), (.int 6)]) rfl ?_
 refine Home.go (fun _ => XS.icmpYes X3.here hx rfl (pc0 := 17) (pc' := 57) rfl (hb hby d18_17) rfl (teq (by decide)).1 (by decide) (by decide)) ?_
 refine Home.run X3 hx hby sg18_57_1 (pc' := 58) (L' := #[sr o0, si 0, si 6, sr b1, si 6, un]) (S' := [(.ref b1)]) rfl ?_
 exact Home.retR X3 hx hlk hret rfl rfl (hb hby d18_58) ⟨b1, k1, rfl, N3, (Nat.le_trans (Nat.le_refl _) (Nat.le_of_eq g1.symm)), K3, P3_0⟩ (by decide) (by decide)
theorem rm20_5 (l : Launch) (Z : State) (a0 : Array Value) (hw : HW a0 Z) (ws : List Jvm.Cond) (o0 : Addr) (k_o0 : ClassId) (u1 u2 u3 u4 u5 u6 : Int32) (h0 : Heap) (n0 : Nat) (O0 : Old Z n0 h0) (V_o0 : Arv Z h0 o0 k_o0 .byte (6 : Int32) [(.int u1), (.int u2), (.int u3), (.int u4), (.int u5), (.int u6)] (.int 0)) :
    Con l Z (⟨"java/lang/StringUTF16", "coderFromArrayLen", "([BI)B"⟩ : MethodName) jdk_52_method_15_code 2 (some .byte) ws ({ frames := 0, cells := 0, slots := 0, locals := 0 } : Room) #[(.ref o0), (.int 6)] h0 (Pur (some (.int 0)) h0) := by
 refine own_body (plainFor_of_name own_pn5) (fun m => ef_rm20_5 m o0 (6 : Int32)) ?_
 intro p e s m below meth c s₁ hx hby hlk hml hret hZ hown hnm X0 e0
 have N0 := Fr.nil n0
 refine Home.run X0 hx hby sg20_0_2 (pc' := 2) (L' := #[sr o0, si 6]) (S' := [(.ref o0), (.int 6)]) rfl ?_
 obtain ⟨cl1, Ar1, q1, S1, M1, H1, G1⟩ := id V_o0
 refine Home.go (own_alen X0 hx hZ e0 Ar1 S1 M1 rfl rfl (hb hby d20_2)) ?_
 refine Home.run X0 hx hby sg20_3_4 (pc' := 8) (L' := #[sr o0, si 6]) (S' := [(.int 0)]) rfl ?_
 exact Home.retN X0 hx hlk (t := .byte) hret (by simp) (hb hby d20_8) ⟨congrArg some (congrArg Value.int (by first | rfl | exact nar_i2c _ | exact nar_i2b _)), rfl, e0⟩ (by decide) (by decide)
theorem rm3_6 (l : Launch) (Z : State) (a0 : Array Value) (hw : HW a0 Z) (ws : List Jvm.Cond) (o0 o1 : Addr) (sv_COMPACT_STRINGS : Int32) (k_o1 : ClassId) (u1 u2 u3 u4 u5 u6 : Int32) (h0 : Heap) (n0 : Nat) (O0 : Old Z n0 h0) (S_COMPACT_STRINGS : Sta Z Z.heap "java/lang/String" "COMPACT_STRINGS" "Z" (.int sv_COMPACT_STRINGS)) (hCS : ¬ (sv_COMPACT_STRINGS = (0 : Int32))) (V_o1 : Arv Z h0 o1 k_o1 .char (6 : Int32) [(.int u1), (.int u2), (.int u3), (.int u4), (.int u5), (.int u6)] (.int 0)) (bnd_u1 : ¬ u1 < (0 : Int32) ∧ ¬ (255 : Int32) < u1) (bnd_u2 : ¬ u2 < (0 : Int32) ∧ ¬ (255 : Int32) < u2) (bnd_u3 : ¬ u3 < (0 : Int32) ∧ ¬ (255 : Int32) < u3) (bnd_u4 : ¬ u4 < (0 : Int32) ∧ ¬ (255 : Int32) < u4) (bnd_u5 : ¬ u5 < (0 : Int32) ∧ ¬ (255 : Int32) < u5) (bnd_u6 : ¬ u6 < (0 : Int32) ∧ ¬ (255 : Int32) < u6) (E_o0 : Exa Z h0 o0 "java/lang/String") (F_coder_o0 : Fld Z h0 o0 "java/lang/String" "coder" "B" (.int 0)) (g_o0 : n0 ≤ o0) (F_value_o0 : Fld Z h0 o0 "java/lang/String" "value" "[B" .null) :
    Con l Z (⟨"java/lang/String", "<init>", "([CIILjava/lang/Void;)V"⟩ : MethodName) jdk_42_method_149_code 6 none ws ({ frames := 2, cells := 1, slots := 6, locals := 35 } : Room) #[(.ref o0), (.ref o1), (.int 0), (.int 6), .null] h0 (fun v h L => ∃ (b1_3 : Addr), ∃ (k1_3 : ClassId), v = none ∧ Fr n0 L ∧ h0.size ≤ b1_3 ∧ Keep h0 h [o0] ∧ Exa Z h o0 "java/lang/String" ∧ Fld Z h o0 "java/lang/String" "coder" "B" (.int 0) ∧ Fld Z h o0 "java/lang/String" "value" "[B" (.ref b1_3) ∧ Arv Z h b1_3 k1_3 .byte (6 : Int32) [(.int (u1.toInt8.toInt32)), (.int (u2.toInt8.toInt32)), (.int (u3.toInt8.toInt32)), (.int (u4.toInt8.toInt32)), (.int (u5.toInt8.toInt32)), (.int (u6.toInt8.toInt32))] (.int 0)) := by
 refine own_body (plainFor_of_name own_pn0) (fun m => ef_rm3_6 m o0 o1 (0 : Int32) (6 : Int32)) ?_
 intro p e s m below meth c s₁ hx hby hlk hml hret hZ hown hnm X0 e0
 have N0 := Fr.nil n0
 refine Home.run X0 hx hby sg3_0_1 (pc' := 1) (L' := #[sr o0, sr o1, si 0, si 6, .val .null, un]) (S' := [(.ref o0)]) rfl ?_
 refine Home.st (initO X0 hx hZ hown (own_w17 hw) (own_w18 hw) (own_w19 hw) e0 rfl (by rw [hml]; rfl) rfl (hb hby d3_1) (by decide) (W := 0) (by exact hW0) (by decide)) fun T1 X1 e1 => ?_
 refine Home.run X1 hx hby sg3_4_1 (pc' := 5) (L' := #[sr o0, sr o1, si 0, si 6, .val .null, un]) (S' := [(.int 6)]) rfl ?_
 refine Home.go (fun _ => XS.ifYes X1.here hx rfl (pc0 := 5) (pc' := 27) rfl (hb hby d3_5) rfl ((if0 _ _).trans (feq (by decide)).2) (by decide) (by decide)) ?_
 refine Home.st (getS2 X1 hx hZ hown (host := "") (Or.inl (own_w42 hw)) Via.refl e1 (S_COMPACT_STRINGS.ext O0.2) rfl (hb hby d3_27)) fun T2 X2 e2 => ?_
 refine Home.go (fun _ => XS.ifNo X2.here hx rfl (hb hby d3_30) rfl ((if0 _ _).trans (feq hCS).1)) ?_
 refine Home.run X2 hx hby sg3_33_3 (pc' := 36) (L' := #[sr o0, sr o1, si 0, si 6, .val .null, un]) (S' := [(.int 6), (.int 0), (.ref o1)]) rfl ?_
 refine Home.call (own_static X2 hx hZ hown (own_w81 hw) (own_w82 hw) (own_w83 hw) (own_w84 hw) (by decide) (rm18_5 l Z a0 hw [] o1 k_o1 u1 u2 u3 u4 u5 u6 h0 n0 O0 V_o1 bnd_u1 bnd_u2 bnd_u3 bnd_u4 bnd_u5 bnd_u6) e2 rfl (by rw [hml]; rfl) (argsL := [(.ref o1), (.int 0), (.int 6)]) (rest := []) (lenOf own_pd16 rfl) rfl rfl (W := 0) (by exact hW0) (by decide) (by decide) (hb hby d3_36) (by decide) (by decide)) ?_
 rintro _ T3 L3 X3 ⟨b1_3, k1_3, rfl, N3q, sz_b1_3, K3q, P3_0⟩
 have g_b1_3 : n0 ≤ b1_3 := Nat.le_trans (Old.le O0) sz_b1_3
 have O3 := Old.keep O0 K3q all0
 have K3 : Keep h0 T3.heap ([o0] : List Addr) := Keep.trans (Keep.refl h0 ([o0] : List Addr)) K3q all0
 have N3 := Fr.app N0 N3q
 refine Home.run X3 hx hby sg3_39_4 (pc' := 45) (L' := #[sr o0, sr o1, si 0, si 6, .val .null, sr b1_3]) (S' := [(.int 6), (.ref b1_3), (.ref o0)]) rfl ?_
 refine Home.st (own_pure (own_static X3 hx hZ hown (own_w88 hw) (own_w89 hw) (own_w83 hw) (own_w90 hw) (by decide) (rm20_5 l Z a0 hw [] b1_3 k1_3 (u1.toInt8.toInt32) (u2.toInt8.toInt32) (u3.toInt8.toInt32) (u4.toInt8.toInt32) (u5.toInt8.toInt32) (u6.toInt8.toInt32) T3.heap n0 O3 P3_0) rfl rfl (by rw [hml]; rfl) (argsL := [(.ref b1_3), (.int 6)]) (rest := [(.ref o0)]) (lenOf own_pd17 rfl) rfl rfl (W := 1) (by exact hW0) (by decide) (by decide) (hb hby d3_45) (by decide) (by decide))) fun T4 X4 e4 => ?_
 show Home T4 (mkF m 48 #[sr o0, sr o1, si 0, si 6, .val .null, sr b1_3] [(.int 0), (.ref o0)])
 have q5 := (F_coder_o0.keep K3q nin0)
 refine Home.wr (putFN X4 hx hZ hown (own_w27 hw) Via.refl e4 q5 (E_o0.keep K3) (Or.inr ⟨(own_w23 hw), rfl, hnm⟩) (own_w7 hw) (ty := .byte) (v := (.int 0)) (v' := (.int 0)) (by decide) rfl rfl rfl rfl (hb hby d3_48)) fun T6 h6 X6 e6 W6 => ?_
 have Fw6 := q5.same W6
 have O6 := O3.wr W6 g_o0
 have K6 : Keep h0 h6 ([o0] : List Addr) := Keep.wr K3 W6 (Or.inl (List.mem_of_getElem? (i := 0) rfl))
 have N6 := Fr.snoc X6 N3 g_o0
 refine Home.run X6 hx hby sg3_51_2 (pc' := 54) (L' := #[sr o0, sr o1, si 0, si 6, .val .null, sr b1_3]) (S' := [(.ref b1_3), (.ref o0)]) rfl ?_
 have q7 := ((F_value_o0.keep K3q nin0).other W6 (Or.inr (slot_ne (Or.inr (own_w22 hw)) (Or.inr (own_w23 hw)) (by decide) (t := (.array .byte)) (t' := .byte) (by decide) (by decide))))
 refine Home.wr (putF X6 hx hZ hown (host := "") (Or.inl (own_w26 hw)) Via.refl e6 q7 (E_o0.keep K6) (Or.inr ⟨(own_w22 hw), rfl, hnm⟩) (own_w7 hw) (ty := (.array .byte)) (by decide) rfl rfl rfl rfl (hb hby d3_54)) fun T8 h8 X8 e8 W8 => ?_
 have Fw8 := q7.same W8
 have O8 := O6.wr W8 g_o0
 have K8 : Keep h0 h8 ([o0] : List Addr) := Keep.wr K6 W8 (Or.inl (List.mem_of_getElem? (i := 0) rfl))
 have N8 := Fr.snoc X8 N6 g_o0
 have q9 := (Fw6.other W8 (Or.inr (slot_ne (Or.inr (own_w23 hw)) (Or.inr (own_w22 hw)) (by decide) (t := .byte) (t' := (.array .byte)) (by decide) (by decide))))
 have ne10 : b1_3 ≠ o0 := (Ne.symm (Nat.ne_of_lt (Nat.lt_of_lt_of_le E_o0.lt (Nat.le_trans (Nat.le_refl _) sz_b1_3))))
 have q11 := ((P3_0.other W6 ne10).other W8 ne10)
 exact Home.ret0 X8 hx hlk hret (hb hby d3_57) (by rw [show T8.heap = h8 from e8]; exact ⟨b1_3, k1_3, rfl, N8, (Nat.le_trans (Nat.le_refl _) sz_b1_3), K8, (E_o0.keep K8), q9, Fw8, q11⟩) (by decide) (by decide)
theorem rm2_6 (l : Launch) (Z : State) (a0 : Array Value) (hw : HW a0 Z) (ws : List Jvm.Cond) (o0 o1 : Addr) (k_o1 : ClassId) (u1 u2 u3 u4 u5 u6 sv_COMPACT_STRINGS : Int32) (h0 : Heap) (n0 : Nat) (O0 : Old Z n0 h0) (V_o1 : Arv Z h0 o1 k_o1 .char (6 : Int32) [(.int u1), (.int u2), (.int u3), (.int u4), (.int u5), (.int u6)] (.int 0)) (S_COMPACT_STRINGS : Sta Z Z.heap "java/lang/String" "COMPACT_STRINGS" "Z" (.int sv_COMPACT_STRINGS)) (E_o0 : Exa Z h0 o0 "java/lang/String") (F_coder_o0 : Fld Z h0 o0 "java/lang/String" "coder" "B" (.int 0)) (F_value_o0 : Fld Z h0 o0 "java/lang/String" "value" "[B" .null) (bnd_u1 : ¬ u1 < (0 : Int32) ∧ ¬ (255 : Int32) < u1) (bnd_u2 : ¬ u2 < (0 : Int32) ∧ ¬ (255 : Int32) < u2) (bnd_u3 : ¬ u3 < (0 : Int32) ∧ ¬ (255 : Int32) < u3) (bnd_u4 : ¬ u4 < (0 : Int32) ∧ ¬ (255 : Int32) < u4) (bnd_u5 : ¬ u5 < (0 : Int32) ∧ ¬ (255 : Int32) < u5) (bnd_u6 : ¬ u6 < (0 : Int32) ∧ ¬ (255 : Int32) < u6) (g_o0 : n0 ≤ o0) (hCS : ¬ (sv_COMPACT_STRINGS = (0 : Int32))) :
    Con l Z (⟨"java/lang/String", "<init>", "([C)V"⟩ : MethodName) jdk_42_method_3_code 2 none ws ({ frames := 3, cells := 1, slots := 6, locals := 52 } : Room) #[(.ref o0), (.ref o1)] h0 (fun v h L => ∃ (b1_3_2 : Addr), ∃ (k1_3_2 : ClassId), v = none ∧ Fr n0 L ∧ h0.size ≤ b1_3_2 ∧ Keep h0 h [o0] ∧ Exa Z h o0 "java/lang/String" ∧ Fld Z h o0 "java/lang/String" "coder" "B" (.int 0) ∧ Fld Z h o0 "java/lang/String" "value" "[B" (.ref b1_3_2) ∧ Arv Z h b1_3_2 k1_3_2 .byte (6 : Int32) [(.int (u1.toInt8.toInt32)), (.int (u2.toInt8.toInt32)), (.int (u3.toInt8.toInt32)), (.int (u4.toInt8.toInt32)), (.int (u5.toInt8.toInt32)), (.int (u6.toInt8.toInt32))] (.int 0)) := by
 refine own_body (plainFor_of_name own_pn0) (fun m => ef_rm2_6 m o0 o1) ?_
 intro p e s m below meth c s₁ hx hby hlk hml hret hZ hown hnm X0 e0
 have N0 := Fr.nil n0
 refine Home.run X0 hx hby sg2_0_4 (pc' := 4) (L' := #[sr o0, sr o1]) (S' := [(.ref o1), (.int 0), (.ref o1), (.ref o0)]) rfl ?_
 obtain ⟨cl1, Ar1, q1, S1, M1, H1, G1⟩ := id V_o1
 refine Home.go (own_alen X0 hx hZ e0 Ar1 S1 M1 rfl rfl (hb hby d2_4)) ?_
 refine Home.run X0 hx hby sg2_5_1 (pc' := 6) (L' := #[sr o0, sr o1]) (S' := [.null, (.int 6), (.int 0), (.ref o1), (.ref o0)]) rfl ?_
 refine Home.call (own_special X0 hx hZ hown rfl (own_w13 hw) (own_w14 hw) (own_w8 hw) (own_w16 hw) (by decide) (rm3_6 l Z a0 hw [] o0 o1 sv_COMPACT_STRINGS k_o1 u1 u2 u3 u4 u5 u6 h0 n0 O0 S_COMPACT_STRINGS hCS V_o1 bnd_u1 bnd_u2 bnd_u3 bnd_u4 bnd_u5 bnd_u6 E_o0 F_coder_o0 g_o0 F_value_o0) e0 rfl (by rw [hml]; rfl) (a := o0) (argsL := [(.ref o1), (.int 0), (.int 6), .null]) (rest := []) (lenOf own_pd0 rfl) rfl rfl (W := 0) (by exact hW0) (by decide) (by decide) (hb hby d2_6) (by decide) (by decide)) ?_
 rintro _ T2 L2 X2 ⟨b1_3_2, k1_3_2, rfl, N2q, sz_b1_3_2, K2q, P2_0, P2_1, P2_2, P2_3⟩
 have g_b1_3_2 : n0 ≤ b1_3_2 := Nat.le_trans (Old.le O0) sz_b1_3_2
 have O2 := Old.keep O0 K2q (allS g_o0 all0)
 have K2 : Keep h0 T2.heap ([o0] : List Addr) := Keep.trans (Keep.refl h0 ([o0] : List Addr)) K2q (allS (Or.inl (List.mem_of_getElem? (i := 0) rfl)) all0)
 have N2 := Fr.app N0 N2q
 exact Home.ret0 X2 hx hlk hret (hb hby d2_9) ⟨b1_3_2, k1_3_2, rfl, N2, (Nat.le_trans (Nat.le_refl _) sz_b1_3_2), K2, P2_0, P2_1, P2_2, P2_3⟩ (by decide) (by decide)
theorem rm1_6 (l : Launch) (Z : State) (a0 : Array Value) (hw : HW a0 Z) (ws : List Jvm.Cond) (i1 i2 i3 i4 i5 i6 sv_COMPACT_STRINGS : Int32) (sv_SIOOBE_FORMATTER : Value) (h0 : Heap) (n0 : Nat) (O0 : Old Z n0 h0) (bnd_i1 : ¬ i1 < (0 : Int32) ∧ ¬ (57 : Int32) < i1) (bnd_i2 : ¬ i2 < (0 : Int32) ∧ ¬ (57 : Int32) < i2) (bnd_i3 : ¬ i3 < (0 : Int32) ∧ ¬ (57 : Int32) < i3) (bnd_i4 : ¬ i4 < (0 : Int32) ∧ ¬ (57 : Int32) < i4) (bnd_i5 : ¬ i5 < (0 : Int32) ∧ ¬ (57 : Int32) < i5) (bnd_i6 : ¬ i6 < (0 : Int32) ∧ ¬ (57 : Int32) < i6) (S_COMPACT_STRINGS : Sta Z Z.heap "java/lang/String" "COMPACT_STRINGS" "Z" (.int sv_COMPACT_STRINGS)) (S_SIOOBE_FORMATTER : Sta Z Z.heap "jdk/internal/util/Preconditions" "SIOOBE_FORMATTER" "Ljava/util/function/BiFunction;" sv_SIOOBE_FORMATTER) (hCS : ¬ (sv_COMPACT_STRINGS = (0 : Int32))) (isr_sv_SIOOBE_FORMATTER : sv_SIOOBE_FORMATTER.isRef = true) :
    ConW l Z own_EL ([] : List Addr) true (⟨"com/example/tryst/tryst/encoding/Base58DecodePinLaw", "build", "(IIIIIII)Ljava/lang/String;"⟩ : MethodName) method_4_code 7 (some (.object "java/lang/String")) ws ({ frames := 5, cells := 15, slots := 1432, locals := 70 } : Room) #[(.int 6), (.int i1), (.int i2), (.int i3), (.int i4), (.int i5), (.int i6)] h0 (fun v h L => ∃ (b1 : Addr), ∃ (b1_3_2_31 : Addr), ∃ (k1_3_2_31 : ClassId), v = some (.ref b1) ∧ Fr n0 L ∧ h0.size ≤ b1 ∧ h0.size ≤ b1_3_2_31 ∧ Keep h0 h [] ∧ Exa Z h b1 "java/lang/String" ∧ Fld Z h b1 "java/lang/String" "value" "[B" (.ref b1_3_2_31) ∧ Fld Z h b1 "java/lang/String" "coder" "B" (.int 0) ∧ Arv Z h b1_3_2_31 k1_3_2_31 .byte (6 : Int32) [(.int ((nar .char ((own_at own_TI0 i1) &&& (255 : Int32))).toInt8.toInt32)), (.int ((nar .char ((own_at own_TI0 i2) &&& (255 : Int32))).toInt8.toInt32)), (.int ((nar .char ((own_at own_TI0 i3) &&& (255 : Int32))).toInt8.toInt32)), (.int ((nar .char ((own_at own_TI0 i4) &&& (255 : Int32))).toInt8.toInt32)), (.int ((nar .char ((own_at own_TI0 i5) &&& (255 : Int32))).toInt8.toInt32)), (.int ((nar .char ((own_at own_TI0 i6) &&& (255 : Int32))).toInt8.toInt32))] (.int 0)) := by
 refine own_bodyW (plainFor_of_name own_pn1) (fun m => ef_rm1_6 m (6 : Int32) i1 i2 i3 i4 i5 i6) ?_
 intro p e s m below meth c s₁ hx hby hlk hml hret hZ hown hnm X0 e0 Cd0
 have N0 := Fr.nil n0
 refine Home.run X0 hx hby sg1_0_1 (pc' := 1) (L' := #[si 6, si i1, si i2, si i3, si i4, si i5, si i6]) (S' := [(.int 6)]) rfl ?_
 refine Home.go (fun _ => XS.ifYes X0.here hx rfl (pc0 := 1) (pc' := 15) rfl (hb hby d1_1) rfl ((if0 _ _).trans (feq (by decide)).2) (by decide) (by decide)) ?_
 refine Home.run X0 hx hby sg1_15_2 (pc' := 17) (L' := #[si 6, si i1, si i2, si i3, si i4, si i5, si i6]) (S' := [(.int 1), (.int 6)]) rfl ?_
 refine Home.go (fun _ => XS.icmpYes X0.here hx rfl (pc0 := 17) (pc' := 38) rfl (hb hby d1_17) rfl (feq (by decide)).2 (by decide) (by decide)) ?_
 refine Home.run X0 hx hby sg1_38_2 (pc' := 40) (L' := #[si 6, si i1, si i2, si i3, si i4, si i5, si i6]) (S' := [(.int 2), (.int 6)]) rfl ?_
 refine Home.go (fun _ => XS.icmpYes X0.here hx rfl (pc0 := 40) (pc' := 68) rfl (hb hby d1_40) rfl (feq (by decide)).2 (by decide) (by decide)) ?_
 refine Home.run X0 hx hby sg1_68_2 (pc' := 70) (L' := #[si 6, si i1, si i2, si i3, si i4, si i5, si i6]) (S' := [(.int 3), (.int 6)]) rfl ?_
 refine Home.go (fun _ => XS.icmpYes X0.here hx rfl (pc0 := 70) (pc' := 105) rfl (hb hby d1_70) rfl (feq (by decide)).2 (by decide) (by decide)) ?_
 refine Home.run X0 hx hby sg1_105_2 (pc' := 107) (L' := #[si 6, si i1, si i2, si i3, si i4, si i5, si i6]) (S' := [(.int 4), (.int 6)]) rfl ?_
 refine Home.go (fun _ => XS.icmpYes X0.here hx rfl (pc0 := 107) (pc' := 150) rfl (hb hby d1_107) rfl (feq (by decide)).2 (by decide) (by decide)) ?_
 refine Home.run X0 hx hby sg1_150_2 (pc' := 152) (L' := #[si 6, si i1, si i2, si i3, si i4, si i5, si i6]) (S' := [(.int 5), (.int 6)]) rfl ?_
 refine Home.go (fun _ => XS.icmpYes X0.here hx rfl (pc0 := 152) (pc' := 203) rfl (hb hby d1_152) rfl (feq (by decide)).2 (by decide) (by decide)) ?_
 refine Home.nw (own_newO X0 hx hZ hown (own_w6 hw) (own_w7 hw) (own_w8 hw) e0 rfl (hb hby d1_203) (by decide) (by decide)) fun T1 h1 b1 g1 X1 e1 E1 A1 D1 => ?_
 have g_b1 : n0 ≤ b1 := Nat.le_trans (Old.le O0) (Nat.le_of_eq g1.symm)
 have F_value_b1 : Fld Z h1 b1 "java/lang/String" "value" "[B" .null := D1 (Or.inr (own_w22 hw)) (ty := (.array .byte)) (by decide)
 have F_coder_b1 : Fld Z h1 b1 "java/lang/String" "coder" "B" (.int 0) := D1 (Or.inr (own_w23 hw)) (ty := .byte) (by decide)
 have O1 := O0.ext E1
 have K1 : Keep h0 h1 ([] : List Addr) := Keep.ext (Keep.refl h0 ([] : List Addr)) E1
 have Cd1 := Cold.add Cd0 E1 (Nat.le_of_eq g1.symm) A1.lt
 show Home T1 (mkF m 206 #[si 6, si i1, si i2, si i3, si i4, si i5, si i6] [(.ref b1)])
 refine Home.run X1 hx hby sg1_206_2 (pc' := 209) (L' := #[si 6, si i1, si i2, si i3, si i4, si i5, si i6]) (S' := [(.int 6), (.ref b1), (.ref b1)]) rfl ?_
 refine Home.na (own_newP (aty := .char) X1 hx hZ (own_w9 hw) e1 (g := (mkF m 209 #[.val (.int 6), .val (.int i1), .val (.int i2), .val (.int i3), .val (.int i4), .val (.int i5), .val (.int i6)] [(.int 6), (.ref b1), (.ref b1)])) rfl (hb hby d1_209) rfl (by decide) (cap := 6) (by decide) (by decide) (by decide) (by decide)) fun T2 h2 k2 b2 g2 X2 e2 E2 A2 => ?_
 have g_b2 : n0 ≤ b2 := Nat.le_trans (Old.le O1) (Nat.le_of_eq g2.symm)
 have V2 : Arv Z h2 b2 k2 .char (6 : Int32) [(.int 0), (.int 0), (.int 0), (.int 0), (.int 0), (.int 0)] (.int 0) := (Arv.new A2 (by decide)).pad (pad_rep [] (.int 0) 6)
 have O2 := O1.ext E2
 have K2 : Keep h0 h2 ([] : List Addr) := Keep.ext K1 E2
 have Cd2 := Cold.ext Cd1 E2
 refine Home.run X2 hx hby sg1_211_3 (pc' := 214) (L' := #[si 6, si i1, si i2, si i3, si i4, si i5, si i6]) (S' := [(.int i1), (.int 0), (.ref b2), (.ref b2), (.ref b1), (.ref b1)]) rfl ?_
 refine Home.call (own_staticW X2 hx hZ hown (own_hEL hw) Cd2 all0 (own_w55 hw) (own_w56 hw) (own_w4 hw) (own_w57 hw) (by decide) (rm12_0 l Z a0 hw [] i1 sv_COMPACT_STRINGS sv_SIOOBE_FORMATTER h2 n0 O2 bnd_i1 S_COMPACT_STRINGS S_SIOOBE_FORMATTER hCS isr_sv_SIOOBE_FORMATTER) e2 rfl (by rw [hml]; rfl) (argsL := [(.int i1)]) (rest := [(.int 0), (.ref b2), (.ref b2), (.ref b1), (.ref b1)]) (lenOf own_pd14 rfl) rfl rfl (W := 5) (by exact hW0) (by decide) (by decide) (hb hby d1_214) (by decide) (by decide)) ?_
 rintro _ T3 L3 X3 ⟨⟨rfl, N3q, K3q⟩, hZ, hown, Cd3, sR3⟩
 have O3 := Old.keep O2 K3q all0
 have K3 : Keep h0 T3.heap ([] : List Addr) := Keep.trans K2 K3q all0
 have N3 := Fr.app N0 N3q
 show Home T3 (mkF m 217 #[si 6, si i1, si i2, si i3, si i4, si i5, si i6] [(.int (nar .char ((own_at own_TI0 i1) &&& (255 : Int32)))), (.int 0), (.ref b2), (.ref b2), (.ref b1), (.ref b1)])
 obtain ⟨r4, hr4⟩ : ∃ z, z = (nar .char ((own_at own_TI0 i1) &&& (255 : Int32))) := ⟨_, rfl⟩
 rw [← hr4]
 have br4 : ¬ r4 < (0 : Int32) ∧ ¬ (255 : Int32) < r4 := by rw [hr4]; rw [nar_char_id (bnd_and (own_at own_TI0 i1) (255 : Int32) (by decide)) (by decide +kernel) (by decide +kernel)]; exact (bnd_and (own_at own_TI0 i1) (255 : Int32) (by decide))
 have q5 := (V2.keep K3q nin0)
 obtain ⟨cl6, Ar6, q6, S6, M6, H6, G6⟩ := id q5
 refine Home.wr (stC X3 hx hZ rfl Ar6 (j := (0 : Int32)) (inb_of S6 ⟨by decide, by decide⟩) rfl rfl (hb hby d1_217)) fun T6 h6 X6 e6 W6 => ?_
 have W6' := Wr.to W6 (congrArg Value.int (nar_char_id br4 (by decide +kernel) (by decide +kernel)))
 have V6 : Arv Z h6 b2 k2 .char (6 : Int32) [(.int r4), (.int 0), (.int 0), (.int 0), (.int 0), (.int 0)] (.int 0) := Arv.set Ar6 q6 S6 M6 H6 G6 (fits_char_b br4 (by decide +kernel) (by decide +kernel)) W6' 0 rfl (Nat.le_of_ble_eq_true rfl)
 have O6 := O3.wr W6 g_b2
 have K6 : Keep h0 h6 ([] : List Addr) := Keep.wr K3 W6 (Or.inr (Nat.le_trans E1.1 (Nat.le_of_eq g2.symm)))
 have Cd6 := Cold.wr Cd3 W6 (Safe.arv hZ.alike q5 (by simp))
 have N6 := Fr.snoc X6 N3 g_b2
 refine Home.run X6 hx hby sg1_218_3 (pc' := 221) (L' := #[si 6, si i1, si i2, si i3, si i4, si i5, si i6]) (S' := [(.int i2), (.int 1), (.ref b2), (.ref b2), (.ref b1), (.ref b1)]) rfl ?_
 refine Home.call (own_staticW X6 hx hZ hown (own_hEL hw) Cd6 all0 (own_w55 hw) (own_w56 hw) (own_w4 hw) (own_w57 hw) (by decide) (rm12_0 l Z a0 hw [] i2 sv_COMPACT_STRINGS sv_SIOOBE_FORMATTER h6 n0 O6 bnd_i2 S_COMPACT_STRINGS S_SIOOBE_FORMATTER hCS isr_sv_SIOOBE_FORMATTER) e6 rfl (by rw [hml]; rfl) (argsL := [(.int i2)]) (rest := [(.int 1), (.ref b2), (.ref b2), (.ref b1), (.ref b1)]) (lenOf own_pd14 rfl) rfl rfl (W := 5) (by exact hW0) (by decide) (by decide) (hb hby d1_221) (by decide) (by decide)) ?_
 rintro _ T7 L7 X7 ⟨⟨rfl, N7q, K7q⟩, hZ, hown, Cd7, sR7⟩
 have O7 := Old.keep O6 K7q all0
 have K7 : Keep h0 T7.heap ([] : List Addr) := Keep.trans K6 K7q all0
 have N7 := Fr.app N6 N7q
 show Home T7 (mkF m 224 #[si 6, si i1, si i2, si i3, si i4, si i5, si i6] [(.int (nar .char ((own_at own_TI0 i2) &&& (255 : Int32)))), (.int 1), (.ref b2), (.ref b2), (.ref b1), (.ref b1)])
 obtain ⟨r8, hr8⟩ : ∃ z, z = (nar .char ((own_at own_TI0 i2) &&& (255 : Int32))) := ⟨_, rfl⟩
 rw [← hr8]
 have br8 : ¬ r8 < (0 : Int32) ∧ ¬ (255 : Int32) < r8 := by rw [hr8]; rw [nar_char_id (bnd_and (own_at own_TI0 i2) (255 : Int32) (by decide)) (by decide +kernel) (by decide +kernel)]; exact (bnd_and (own_at own_TI0 i2) (255 : Int32) (by decide))
 have q9 := (V6.keep K7q nin0)
 obtain ⟨cl10, Ar10, q10, S10, M10, H10, G10⟩ := id q9
 refine Home.wr (stC X7 hx hZ rfl Ar10 (j := (1 : Int32)) (inb_of S10 ⟨by decide, by decide⟩) rfl rfl (hb hby d1_224)) fun T10 h10 X10 e10 W10 => ?_
 have W10' := Wr.to W10 (congrArg Value.int (nar_char_id br8 (by decide +kernel) (by decide +kernel)))
 have V10 : Arv Z h10 b2 k2 .char (6 : Int32) [(.int r4), (.int r8), (.int 0), (.int 0), (.int 0), (.int 0)] (.int 0) := Arv.set Ar10 q10 S10 M10 H10 G10 (fits_char_b br8 (by decide +kernel) (by decide +kernel)) W10' 1 rfl (Nat.le_of_ble_eq_true rfl)
 have O10 := O7.wr W10 g_b2
 have K10 : Keep h0 h10 ([] : List Addr) := Keep.wr K7 W10 (Or.inr (Nat.le_trans E1.1 (Nat.le_of_eq g2.symm)))
 have Cd10 := Cold.wr Cd7 W10 (Safe.arv hZ.alike q9 (by simp))
 have N10 := Fr.snoc X10 N7 g_b2
 refine Home.run X10 hx hby sg1_225_3 (pc' := 228) (L' := #[si 6, si i1, si i2, si i3, si i4, si i5, si i6]) (S' := [(.int i3), (.int 2), (.ref b2), (.ref b2), (.ref b1), (.ref b1)]) rfl ?_
 refine Home.call (own_staticW X10 hx hZ hown (own_hEL hw) Cd10 all0 (own_w55 hw) (own_w56 hw) (own_w4 hw) (own_w57 hw) (by decide) (rm12_0 l Z a0 hw [] i3 sv_COMPACT_STRINGS sv_SIOOBE_FORMATTER h10 n0 O10 bnd_i3 S_COMPACT_STRINGS S_SIOOBE_FORMATTER hCS isr_sv_SIOOBE_FORMATTER) e10 rfl (by rw [hml]; rfl) (argsL := [(.int i3)]) (rest := [(.int 2), (.ref b2), (.ref b2), (.ref b1), (.ref b1)]) (lenOf own_pd14 rfl) rfl rfl (W := 5) (by exact hW0) (by decide) (by decide) (hb hby d1_228) (by decide) (by decide)) ?_
 rintro _ T11 L11 X11 ⟨⟨rfl, N11q, K11q⟩, hZ, hown, Cd11, sR11⟩
 have O11 := Old.keep O10 K11q all0
 have K11 : Keep h0 T11.heap ([] : List Addr) := Keep.trans K10 K11q all0
 have N11 := Fr.app N10 N11q
 show Home T11 (mkF m 231 #[si 6, si i1, si i2, si i3, si i4, si i5, si i6] [(.int (nar .char ((own_at own_TI0 i3) &&& (255 : Int32)))), (.int 2), (.ref b2), (.ref b2), (.ref b1), (.ref b1)])
 obtain ⟨r12, hr12⟩ : ∃ z, z = (nar .char ((own_at own_TI0 i3) &&& (255 : Int32))) := ⟨_, rfl⟩
 rw [← hr12]
 have br12 : ¬ r12 < (0 : Int32) ∧ ¬ (255 : Int32) < r12 := by rw [hr12]; rw [nar_char_id (bnd_and (own_at own_TI0 i3) (255 : Int32) (by decide)) (by decide +kernel) (by decide +kernel)]; exact (bnd_and (own_at own_TI0 i3) (255 : Int32) (by decide))
 have q13 := (V10.keep K11q nin0)
 obtain ⟨cl14, Ar14, q14, S14, M14, H14, G14⟩ := id q13
 refine Home.wr (stC X11 hx hZ rfl Ar14 (j := (2 : Int32)) (inb_of S14 ⟨by decide, by decide⟩) rfl rfl (hb hby d1_231)) fun T14 h14 X14 e14 W14 => ?_
 have W14' := Wr.to W14 (congrArg Value.int (nar_char_id br12 (by decide +kernel) (by decide +kernel)))
 have V14 : Arv Z h14 b2 k2 .char (6 : Int32) [(.int r4), (.int r8), (.int r12), (.int 0), (.int 0), (.int 0)] (.int 0) := Arv.set Ar14 q14 S14 M14 H14 G14 (fits_char_b br12 (by decide +kernel) (by decide +kernel)) W14' 2 rfl (Nat.le_of_ble_eq_true rfl)
 have O14 := O11.wr W14 g_b2
 have K14 : Keep h0 h14 ([] : List Addr) := Keep.wr K11 W14 (Or.inr (Nat.le_trans E1.1 (Nat.le_of_eq g2.symm)))
 have Cd14 := Cold.wr Cd11 W14 (Safe.arv hZ.alike q13 (by simp))
 have N14 := Fr.snoc X14 N11 g_b2
 refine Home.run X14 hx hby sg1_232_3 (pc' := 236) (L' := #[si 6, si i1, si i2, si i3, si i4, si i5, si i6]) (S' := [(.int i4), (.int 3), (.ref b2), (.ref b2), (.ref b1), (.ref b1)]) rfl ?_
 refine Home.call (own_staticW X14 hx hZ hown (own_hEL hw) Cd14 all0 (own_w55 hw) (own_w56 hw) (own_w4 hw) (own_w57 hw) (by decide) (rm12_0 l Z a0 hw [] i4 sv_COMPACT_STRINGS sv_SIOOBE_FORMATTER h14 n0 O14 bnd_i4 S_COMPACT_STRINGS S_SIOOBE_FORMATTER hCS isr_sv_SIOOBE_FORMATTER) e14 rfl (by rw [hml]; rfl) (argsL := [(.int i4)]) (rest := [(.int 3), (.ref b2), (.ref b2), (.ref b1), (.ref b1)]) (lenOf own_pd14 rfl) rfl rfl (W := 5) (by exact hW0) (by decide) (by decide) (hb hby d1_236) (by decide) (by decide)) ?_
 rintro _ T15 L15 X15 ⟨⟨rfl, N15q, K15q⟩, hZ, hown, Cd15, sR15⟩
 have O15 := Old.keep O14 K15q all0
 have K15 : Keep h0 T15.heap ([] : List Addr) := Keep.trans K14 K15q all0
 have N15 := Fr.app N14 N15q
 show Home T15 (mkF m 239 #[si 6, si i1, si i2, si i3, si i4, si i5, si i6] [(.int (nar .char ((own_at own_TI0 i4) &&& (255 : Int32)))), (.int 3), (.ref b2), (.ref b2), (.ref b1), (.ref b1)])
 obtain ⟨r16, hr16⟩ : ∃ z, z = (nar .char ((own_at own_TI0 i4) &&& (255 : Int32))) := ⟨_, rfl⟩
 rw [← hr16]
 have br16 : ¬ r16 < (0 : Int32) ∧ ¬ (255 : Int32) < r16 := by rw [hr16]; rw [nar_char_id (bnd_and (own_at own_TI0 i4) (255 : Int32) (by decide)) (by decide +kernel) (by decide +kernel)]; exact (bnd_and (own_at own_TI0 i4) (255 : Int32) (by decide))
 have q17 := (V14.keep K15q nin0)
 obtain ⟨cl18, Ar18, q18, S18, M18, H18, G18⟩ := id q17
 refine Home.wr (stC X15 hx hZ rfl Ar18 (j := (3 : Int32)) (inb_of S18 ⟨by decide, by decide⟩) rfl rfl (hb hby d1_239)) fun T18 h18 X18 e18 W18 => ?_
 have W18' := Wr.to W18 (congrArg Value.int (nar_char_id br16 (by decide +kernel) (by decide +kernel)))
 have V18 : Arv Z h18 b2 k2 .char (6 : Int32) [(.int r4), (.int r8), (.int r12), (.int r16), (.int 0), (.int 0)] (.int 0) := Arv.set Ar18 q18 S18 M18 H18 G18 (fits_char_b br16 (by decide +kernel) (by decide +kernel)) W18' 3 rfl (Nat.le_of_ble_eq_true rfl)
 have O18 := O15.wr W18 g_b2
 have K18 : Keep h0 h18 ([] : List Addr) := Keep.wr K15 W18 (Or.inr (Nat.le_trans E1.1 (Nat.le_of_eq g2.symm)))
 have Cd18 := Cold.wr Cd15 W18 (Safe.arv hZ.alike q17 (by simp))
 have N18 := Fr.snoc X18 N15 g_b2
 refine Home.run X18 hx hby sg1_240_3 (pc' := 244) (L' := #[si 6, si i1, si i2, si i3, si i4, si i5, si i6]) (S' := [(.int i5), (.int 4), (.ref b2), (.ref b2), (.ref b1), (.ref b1)]) rfl ?_
 refine Home.call (own_staticW X18 hx hZ hown (own_hEL hw) Cd18 all0 (own_w55 hw) (own_w56 hw) (own_w4 hw) (own_w57 hw) (by decide) (rm12_0 l Z a0 hw [] i5 sv_COMPACT_STRINGS sv_SIOOBE_FORMATTER h18 n0 O18 bnd_i5 S_COMPACT_STRINGS S_SIOOBE_FORMATTER hCS isr_sv_SIOOBE_FORMATTER) e18 rfl (by rw [hml]; rfl) (argsL := [(.int i5)]) (rest := [(.int 4), (.ref b2), (.ref b2), (.ref b1), (.ref b1)]) (lenOf own_pd14 rfl) rfl rfl (W := 5) (by exact hW0) (by decide) (by decide) (hb hby d1_244) (by decide) (by decide)) ?_
 rintro _ T19 L19 X19 ⟨⟨rfl, N19q, K19q⟩, hZ, hown, Cd19, sR19⟩
 have O19 := Old.keep O18 K19q all0
 have K19 : Keep h0 T19.heap ([] : List Addr) := Keep.trans K18 K19q all0
 have N19 := Fr.app N18 N19q
 show Home T19 (mkF m 247 #[si 6, si i1, si i2, si i3, si i4, si i5, si i6] [(.int (nar .char ((own_at own_TI0 i5) &&& (255 : Int32)))), (.int 4), (.ref b2), (.ref b2), (.ref b1), (.ref b1)])
 obtain ⟨r20, hr20⟩ : ∃ z, z = (nar .char ((own_at own_TI0 i5) &&& (255 : Int32))) := ⟨_, rfl⟩
 rw [← hr20]
 have br20 : ¬ r20 < (0 : Int32) ∧ ¬ (255 : Int32) < r20 := by rw [hr20]; rw [nar_char_id (bnd_and (own_at own_TI0 i5) (255 : Int32) (by decide)) (by decide +kernel) (by decide +kernel)]; exact (bnd_and (own_at own_TI0 i5) (255 : Int32) (by decide))
 have q21 := (V18.keep K19q nin0)
 obtain ⟨cl22, Ar22, q22, S22, M22, H22, G22⟩ := id q21
 refine Home.wr (stC X19 hx hZ rfl Ar22 (j := (4 : Int32)) (inb_of S22 ⟨by decide, by decide⟩) rfl rfl (hb hby d1_247)) fun T22 h22 X22 e22 W22 => ?_
 have W22' := Wr.to W22 (congrArg Value.int (nar_char_id br20 (by decide +kernel) (by decide +kernel)))
 have V22 : Arv Z h22 b2 k2 .char (6 : Int32) [(.int r4), (.int r8), (.int r12), (.int r16), (.int r20), (.int 0)] (.int 0) := Arv.set Ar22 q22 S22 M22 H22 G22 (fits_char_b br20 (by decide +kernel) (by decide +kernel)) W22' 4 rfl (Nat.le_of_ble_eq_true rfl)
 have O22 := O19.wr W22 g_b2
 have K22 : Keep h0 h22 ([] : List Addr) := Keep.wr K19 W22 (Or.inr (Nat.le_trans E1.1 (Nat.le_of_eq g2.symm)))
 have Cd22 := Cold.wr Cd19 W22 (Safe.arv hZ.alike q21 (by simp))
 have N22 := Fr.snoc X22 N19 g_b2
 refine Home.run X22 hx hby sg1_248_3 (pc' := 252) (L' := #[si 6, si i1, si i2, si i3, si i4, si i5, si i6]) (S' := [(.int i6), (.int 5), (.ref b2), (.ref b2), (.ref b1), (.ref b1)]) rfl ?_
 refine Home.call (own_staticW X22 hx hZ hown (own_hEL hw) Cd22 all0 (own_w55 hw) (own_w56 hw) (own_w4 hw) (own_w57 hw) (by decide) (rm12_0 l Z a0 hw [] i6 sv_COMPACT_STRINGS sv_SIOOBE_FORMATTER h22 n0 O22 bnd_i6 S_COMPACT_STRINGS S_SIOOBE_FORMATTER hCS isr_sv_SIOOBE_FORMATTER) e22 rfl (by rw [hml]; rfl) (argsL := [(.int i6)]) (rest := [(.int 5), (.ref b2), (.ref b2), (.ref b1), (.ref b1)]) (lenOf own_pd14 rfl) rfl rfl (W := 5) (by exact hW0) (by decide) (by decide) (hb hby d1_252) (by decide) (by decide)) ?_
 rintro _ T23 L23 X23 ⟨⟨rfl, N23q, K23q⟩, hZ, hown, Cd23, sR23⟩
 have O23 := Old.keep O22 K23q all0
 have K23 : Keep h0 T23.heap ([] : List Addr) := Keep.trans K22 K23q all0
 have N23 := Fr.app N22 N23q
 show Home T23 (mkF m 255 #[si 6, si i1, si i2, si i3, si i4, si i5, si i6] [(.int (nar .char ((own_at own_TI0 i6) &&& (255 : Int32)))), (.int 5), (.ref b2), (.ref b2), (.ref b1), (.ref b1)])
 obtain ⟨r24, hr24⟩ : ∃ z, z = (nar .char ((own_at own_TI0 i6) &&& (255 : Int32))) := ⟨_, rfl⟩
 rw [← hr24]
 have br24 : ¬ r24 < (0 : Int32) ∧ ¬ (255 : Int32) < r24 := by rw [hr24]; rw [nar_char_id (bnd_and (own_at own_TI0 i6) (255 : Int32) (by decide)) (by decide +kernel) (by decide +kernel)]; exact (bnd_and (own_at own_TI0 i6) (255 : Int32) (by decide))
 have q25 := (V22.keep K23q nin0)
 obtain ⟨cl26, Ar26, q26, S26, M26, H26, G26⟩ := id q25
 refine Home.wr (stC X23 hx hZ rfl Ar26 (j := (5 : Int32)) (inb_of S26 ⟨by decide, by decide⟩) rfl rfl (hb hby d1_255)) fun T26 h26 X26 e26 W26 => ?_
 have W26' := Wr.to W26 (congrArg Value.int (nar_char_id br24 (by decide +kernel) (by decide +kernel)))
 have V26 : Arv Z h26 b2 k2 .char (6 : Int32) [(.int r4), (.int r8), (.int r12), (.int r16), (.int r20), (.int r24)] (.int 0) := Arv.set Ar26 q26 S26 M26 H26 G26 (fits_char_b br24 (by decide +kernel) (by decide +kernel)) W26' 5 rfl (Nat.le_of_ble_eq_true rfl)
 have O26 := O23.wr W26 g_b2
 have K26 : Keep h0 h26 ([] : List Addr) := Keep.wr K23 W26 (Or.inr (Nat.le_trans E1.1 (Nat.le_of_eq g2.symm)))
 have Cd26 := Cold.wr Cd23 W26 (Safe.arv hZ.alike q25 (by simp))
 have N26 := Fr.snoc X26 N23 g_b2
 have q27 := (((((((((((((A1.ext E2).keep K3q).wr W6).keep K7q).wr W10).keep K11q).wr W14).keep K15q).wr W18).keep K19q).wr W22).keep K23q).wr W26)
 have ne28 : b1 ≠ b2 := (Nat.ne_of_lt (Nat.lt_of_lt_of_le A1.lt (Nat.le_trans (Nat.le_refl _) (Nat.le_of_eq g2.symm))))
 have q29 := (((((((((((((F_coder_b1.ext E2).keep K3q nin0).other W6 (Or.inl ne28)).keep K7q nin0).other W10 (Or.inl ne28)).keep K11q nin0).other W14 (Or.inl ne28)).keep K15q nin0).other W18 (Or.inl ne28)).keep K19q nin0).other W22 (Or.inl ne28)).keep K23q nin0).other W26 (Or.inl ne28))
 have q30 := (((((((((((((F_value_b1.ext E2).keep K3q nin0).other W6 (Or.inl ne28)).keep K7q nin0).other W10 (Or.inl ne28)).keep K11q nin0).other W14 (Or.inl ne28)).keep K15q nin0).other W18 (Or.inl ne28)).keep K19q nin0).other W22 (Or.inl ne28)).keep K23q nin0).other W26 (Or.inl ne28))
 refine Home.call (own_special X26 hx hZ hown rfl (own_w10 hw) (own_w11 hw) (own_w8 hw) (own_w12 hw) (by decide) (rm2_6 l Z a0 hw [] b1 b2 k2 r4 r8 r12 r16 r20 r24 sv_COMPACT_STRINGS h26 n0 O26 V26 S_COMPACT_STRINGS q27 q29 q30 br4 br8 br12 br16 br20 br24 g_b1 hCS) e26 rfl (by rw [hml]; rfl) (a := b1) (argsL := [(.ref b2)]) (rest := [(.ref b1)]) (lenOf own_pd1 rfl) rfl rfl (W := 1) (by exact hW0) (by decide) (by decide) (hb hby d1_256) (by decide) (by decide)) ?_
 rintro _ T31 L31 X31 ⟨b1_3_2_31, k1_3_2_31, rfl, N31q, sz_b1_3_2_31, K31q, P31_0, P31_1, P31_2, P31_3⟩
 have Cd31 := Cold.keep Cd26 K31q (allS (Cold.safe Cd26 (List.mem_of_getElem? (i := 0) rfl)) all0)
 have Cd31b1_3_2_31 := Cold.put Cd31 ⟨Safe.keep K31q (allS (Cold.safe Cd26 (List.mem_of_getElem? (i := 0) rfl)) all0) Cd26.2.1.1 (Safe.new sz_b1_3_2_31), P31_3.lt⟩
 have g_b1_3_2_31 : n0 ≤ b1_3_2_31 := Nat.le_trans (Old.le O26) sz_b1_3_2_31
 have O31 := Old.keep O26 K31q (allS g_b1 all0)
 have K31 : Keep h0 T31.heap ([] : List Addr) := Keep.trans K26 K31q (allS (Or.inr (Nat.le_trans (Nat.le_refl _) (Nat.le_of_eq g1.symm))) all0)
 have N31 := Fr.app N26 N31q
 show Home T31 (mkF m 259 #[si 6, si i1, si i2, si i3, si i4, si i5, si i6] [(.ref b1)])
 have le32 : h0.size ≤ h2.size := Nat.le_trans E1.1 E2.1
 have le33 : h0.size ≤ T3.heap.size := Nat.le_trans le32 K3q.1
 have le34 : h0.size ≤ h6.size := Nat.le_trans le33 (Nat.le_of_eq W6.size.symm)
 have le35 : h0.size ≤ T7.heap.size := Nat.le_trans le34 K7q.1
 have le36 : h0.size ≤ h10.size := Nat.le_trans le35 (Nat.le_of_eq W10.size.symm)
 have le37 : h0.size ≤ T11.heap.size := Nat.le_trans le36 K11q.1
 have le38 : h0.size ≤ h14.size := Nat.le_trans le37 (Nat.le_of_eq W14.size.symm)
 have le39 : h0.size ≤ T15.heap.size := Nat.le_trans le38 K15q.1
 have le40 : h0.size ≤ h18.size := Nat.le_trans le39 (Nat.le_of_eq W18.size.symm)
 have le41 : h0.size ≤ T19.heap.size := Nat.le_trans le40 K19q.1
 have le42 : h0.size ≤ h22.size := Nat.le_trans le41 (Nat.le_of_eq W22.size.symm)
 have le43 : h0.size ≤ T23.heap.size := Nat.le_trans le42 K23q.1
 have le44 : h0.size ≤ h26.size := Nat.le_trans le43 (Nat.le_of_eq W26.size.symm)
 subst hr24
 subst hr20
 subst hr16
 subst hr12
 subst hr8
 subst hr4
 exact HomeW.retR X31 hx hlk hZ (own_hEL hw) rfl Cd31b1_3_2_31 (fun _ _ q => by cases q; exact (List.mem_of_getElem? (i := 1) rfl)) hret rfl rfl (hb hby d1_259) ⟨b1, b1_3_2_31, k1_3_2_31, rfl, N31, (Nat.le_trans (Nat.le_refl _) (Nat.le_of_eq g1.symm)), (Nat.le_trans le44 sz_b1_3_2_31), K31, P31_0, P31_2, P31_1, P31_3⟩ (by decide) (by decide)
theorem rm8_6 (l : Launch) (Z : State) (a0 : Array Value) (hw : HW a0 Z) (ws : List Jvm.Cond) (i1 i2 i3 i4 i5 i6 : Int32) (h0 : Heap) (n0 : Nat) (O0 : Old Z n0 h0) (bnd_i1 : ¬ i1 < (0 : Int32) ∧ ¬ (57 : Int32) < i1) (bnd_i2 : ¬ i2 < (0 : Int32) ∧ ¬ (57 : Int32) < i2) (bnd_i3 : ¬ i3 < (0 : Int32) ∧ ¬ (57 : Int32) < i3) (bnd_i4 : ¬ i4 < (0 : Int32) ∧ ¬ (57 : Int32) < i4) (bnd_i5 : ¬ i5 < (0 : Int32) ∧ ¬ (57 : Int32) < i5) (bnd_i6 : ¬ i6 < (0 : Int32) ∧ ¬ (57 : Int32) < i6) :
    Con l Z (⟨"com/example/tryst/tryst/encoding/Base58DecodePinLaw", "leadingZeros", "(IIIIIII)I"⟩ : MethodName) method_5_code 7 (some .int) ws ({ frames := 0, cells := 0, slots := 0, locals := 0 } : Room) #[(.int 6), (.int i1), (.int i2), (.int i3), (.int i4), (.int i5), (.int i6)] h0 (Pur (some (.int (f_rm8_6 i1 i2 i3 i4 i5 i6))) h0) := by
 refine own_body (plainFor_of_name own_pn1) (fun m => ef_rm8_6 m (6 : Int32) i1 i2 i3 i4 i5 i6) ?_
 intro p e s m below meth c s₁ hx hby hlk hml hret hZ hown hnm X0 e0
 have N0 := Fr.nil n0
 refine Home.run X0 hx hby sg8_0_2 (pc' := 2) (L' := #[si 6, si i1, si i2, si i3, si i4, si i5, si i6]) (S' := [(.int 1), (.int 6)]) rfl ?_
 refine Home.go (fun _ => XS.icmpNo X0.here hx rfl (hb hby d8_2) rfl (flt (by decide)).1) ?_
 refine Home.run X0 hx hby sg8_5_1 (pc' := 6) (L' := #[si 6, si i1, si i2, si i3, si i4, si i5, si i6]) (S' := [(.int i1)]) rfl ?_
 by_cases c1 : i1 = (0 : Int32)
 ·
  refine Home.go (fun _ => XS.ifYes X0.here hx rfl (pc0 := 6) (pc' := 11) rfl (hb hby d8_6) rfl ((if0 _ _).trans (teq c1).1) (by decide) (by decide)) ?_
  have bd2 : ¬ i1 < (0 : Int32) ∧ ¬ (0 : Int32) < i1 := ⟨(bnd_eql c1), (bnd_eqr c1)⟩
  refine Home.run X0 hx hby sg8_11_2 (pc' := 13) (L' := #[si 6, si i1, si i2, si i3, si i4, si i5, si i6]) (S' := [(.int 2), (.int 6)]) rfl ?_
  refine Home.go (fun _ => XS.icmpNo X0.here hx rfl (hb hby d8_13) rfl (flt (by decide)).1) ?_
  refine Home.run X0 hx hby sg8_16_1 (pc' := 17) (L' := #[si 6, si i1, si i2, si i3, si i4, si i5, si i6]) (S' := [(.int i2)]) rfl ?_
  by_cases c4 : i2 = (0 : Int32)
  ·
   refine Home.go (fun _ => XS.ifYes X0.here hx rfl (pc0 := 17) (pc' := 22) rfl (hb hby d8_17) rfl ((if0 _ _).trans (teq c4).1) (by decide) (by decide)) ?_
   have bd5 : ¬ i2 < (0 : Int32) ∧ ¬ (0 : Int32) < i2 := ⟨(bnd_eql c4), (bnd_eqr c4)⟩
   refine Home.run X0 hx hby sg8_22_2 (pc' := 24) (L' := #[si 6, si i1, si i2, si i3, si i4, si i5, si i6]) (S' := [(.int 3), (.int 6)]) rfl ?_
   refine Home.go (fun _ => XS.icmpNo X0.here hx rfl (hb hby d8_24) rfl (flt (by decide)).1) ?_
   refine Home.run X0 hx hby sg8_27_1 (pc' := 28) (L' := #[si 6, si i1, si i2, si i3, si i4, si i5, si i6]) (S' := [(.int i3)]) rfl ?_
   by_cases c7 : i3 = (0 : Int32)
   ·
    refine Home.go (fun _ => XS.ifYes X0.here hx rfl (pc0 := 28) (pc' := 33) rfl (hb hby d8_28) rfl ((if0 _ _).trans (teq c7).1) (by decide) (by decide)) ?_
    have bd8 : ¬ i3 < (0 : Int32) ∧ ¬ (0 : Int32) < i3 := ⟨(bnd_eql c7), (bnd_eqr c7)⟩
    refine Home.run X0 hx hby sg8_33_2 (pc' := 35) (L' := #[si 6, si i1, si i2, si i3, si i4, si i5, si i6]) (S' := [(.int 4), (.int 6)]) rfl ?_
    refine Home.go (fun _ => XS.icmpNo X0.here hx rfl (hb hby d8_35) rfl (flt (by decide)).1) ?_
    refine Home.run X0 hx hby sg8_38_1 (pc' := 40) (L' := #[si 6, si i1, si i2, si i3, si i4, si i5, si i6]) (S' := [(.int i4)]) rfl ?_
    by_cases c10 : i4 = (0 : Int32)
    ·
     refine Home.go (fun _ => XS.ifYes X0.here hx rfl (pc0 := 40) (pc' := 45) rfl (hb hby d8_40) rfl ((if0 _ _).trans (teq c10).1) (by decide) (by decide)) ?_
     have bd11 : ¬ i4 < (0 : Int32) ∧ ¬ (0 : Int32) < i4 := ⟨(bnd_eql c10), (bnd_eqr c10)⟩
     refine Home.run X0 hx hby sg8_45_2 (pc' := 47) (L' := #[si 6, si i1, si i2, si i3, si i4, si i5, si i6]) (S' := [(.int 5), (.int 6)]) rfl ?_
     refine Home.go (fun _ => XS.icmpNo X0.here hx rfl (hb hby d8_47) rfl (flt (by decide)).1) ?_
     refine Home.run X0 hx hby sg8_50_1 (pc' := 52) (L' := #[si 6, si i1, si i2, si i3, si i4, si i5, si i6]) (S' := [(.int i5)]) rfl ?_
     by_cases c13 : i5 = (0 : Int32)
     ·
      refine Home.go (fun _ => XS.ifYes X0.here hx rfl (pc0 := 52) (pc' := 57) rfl (hb hby d8_52) rfl ((if0 _ _).trans (teq c13).1) (by decide) (by decide)) ?_
      have bd14 : ¬ i5 < (0 : Int32) ∧ ¬ (0 : Int32) < i5 := ⟨(bnd_eql c13), (bnd_eqr c13)⟩
      refine Home.run X0 hx hby sg8_57_2 (pc' := 60) (L' := #[si 6, si i1, si i2, si i3, si i4, si i5, si i6]) (S' := [(.int 6), (.int 6)]) rfl ?_
      refine Home.go (fun _ => XS.icmpNo X0.here hx rfl (hb hby d8_60) rfl (flt (by decide)).1) ?_
      refine Home.run X0 hx hby sg8_63_1 (pc' := 65) (L' := #[si 6, si i1, si i2, si i3, si i4, si i5, si i6]) (S' := [(.int i6)]) rfl ?_
      by_cases c16 : i6 = (0 : Int32)
      ·
       refine Home.go (fun _ => XS.ifYes X0.here hx rfl (pc0 := 65) (pc' := 70) rfl (hb hby d8_65) rfl ((if0 _ _).trans (teq c16).1) (by decide) (by decide)) ?_
       have bd17 : ¬ i6 < (0 : Int32) ∧ ¬ (0 : Int32) < i6 := ⟨(bnd_eql c16), (bnd_eqr c16)⟩
       refine Home.run X0 hx hby sg8_70_1 (pc' := 72) (L' := #[si 6, si i1, si i2, si i3, si i4, si i5, si i6]) (S' := [(.int 6)]) rfl ?_
       exact Home.retI X0 hx hlk hret (hb hby d8_72) ⟨congrArg some (congrArg Value.int (by first | rfl | (simp only [f_rm8_6, if_pos c1, if_pos c4, if_pos c7, if_pos c10, if_pos c13, if_pos c16, nar_i2c, nar_i2b] <;> rfl) | (simp [f_rm8_6, if_pos c1, if_pos c4, if_pos c7, if_pos c10, if_pos c13, if_pos c16]; done))), rfl, e0⟩ (by decide) (by decide)
      ·
       refine Home.go (fun _ => XS.ifNo X0.here hx rfl (hb hby d8_65) rfl ((if0 _ _).trans (feq c16).1)) ?_
       have bd18 : ¬ i6 < (1 : Int32) ∧ ¬ (57 : Int32) < i6 := ⟨(bnd_nel bnd_i6.1 c16 (by decide +kernel)), bnd_i6.2⟩
       refine Home.run X0 hx hby sg8_68_1 (pc' := 69) (L' := #[si 6, si i1, si i2, si i3, si i4, si i5, si i6]) (S' := [(.int 5)]) rfl ?_
       exact Home.retI X0 hx hlk hret (hb hby d8_69) ⟨congrArg some (congrArg Value.int (by first | rfl | (simp only [f_rm8_6, if_pos c1, if_pos c4, if_pos c7, if_pos c10, if_pos c13, if_neg c16, nar_i2c, nar_i2b] <;> rfl) | (simp [f_rm8_6, if_pos c1, if_pos c4, if_pos c7, if_pos c10, if_pos c13, if_neg c16]; done))), rfl, e0⟩ (by decide) (by decide)
     ·
      refine Home.go (fun _ => XS.ifNo X0.here hx rfl (hb hby d8_52) rfl ((if0 _ _).trans (feq c13).1)) ?_
      have bd15 : ¬ i5 < (1 : Int32) ∧ ¬ (57 : Int32) < i5 := ⟨(bnd_nel bnd_i5.1 c13 (by decide +kernel)), bnd_i5.2⟩
      refine Home.run X0 hx hby sg8_55_1 (pc' := 56) (L' := #[si 6, si i1, si i2, si i3, si i4, si i5, si i6]) (S' := [(.int 4)]) rfl ?_
      exact Home.retI X0 hx hlk hret (hb hby d8_56) ⟨congrArg some (congrArg Value.int (by first | rfl | (simp only [f_rm8_6, if_pos c1, if_pos c4, if_pos c7, if_pos c10, if_neg c13, nar_i2c, nar_i2b] <;> rfl) | (simp [f_rm8_6, if_pos c1, if_pos c4, if_pos c7, if_pos c10, if_neg c13]; done))), rfl, e0⟩ (by decide) (by decide)
    ·
     refine Home.go (fun _ => XS.ifNo X0.here hx rfl (hb hby d8_40) rfl ((if0 _ _).trans (feq c10).1)) ?_
     have bd12 : ¬ i4 < (1 : Int32) ∧ ¬ (57 : Int32) < i4 := ⟨(bnd_nel bnd_i4.1 c10 (by decide +kernel)), bnd_i4.2⟩
     refine Home.run X0 hx hby sg8_43_1 (pc' := 44) (L' := #[si 6, si i1, si i2, si i3, si i4, si i5, si i6]) (S' := [(.int 3)]) rfl ?_
     exact Home.retI X0 hx hlk hret (hb hby d8_44) ⟨congrArg some (congrArg Value.int (by first | rfl | (simp only [f_rm8_6, if_pos c1, if_pos c4, if_pos c7, if_neg c10, nar_i2c, nar_i2b] <;> rfl) | (simp [f_rm8_6, if_pos c1, if_pos c4, if_pos c7, if_neg c10]; done))), rfl, e0⟩ (by decide) (by decide)
   ·
    refine Home.go (fun _ => XS.ifNo X0.here hx rfl (hb hby d8_28) rfl ((if0 _ _).trans (feq c7).1)) ?_
    have bd9 : ¬ i3 < (1 : Int32) ∧ ¬ (57 : Int32) < i3 := ⟨(bnd_nel bnd_i3.1 c7 (by decide +kernel)), bnd_i3.2⟩
    refine Home.run X0 hx hby sg8_31_1 (pc' := 32) (L' := #[si 6, si i1, si i2, si i3, si i4, si i5, si i6]) (S' := [(.int 2)]) rfl ?_
    exact Home.retI X0 hx hlk hret (hb hby d8_32) ⟨congrArg some (congrArg Value.int (by first | rfl | (simp only [f_rm8_6, if_pos c1, if_pos c4, if_neg c7, nar_i2c, nar_i2b] <;> rfl) | (simp [f_rm8_6, if_pos c1, if_pos c4, if_neg c7]; done))), rfl, e0⟩ (by decide) (by decide)
  ·
   refine Home.go (fun _ => XS.ifNo X0.here hx rfl (hb hby d8_17) rfl ((if0 _ _).trans (feq c4).1)) ?_
   have bd6 : ¬ i2 < (1 : Int32) ∧ ¬ (57 : Int32) < i2 := ⟨(bnd_nel bnd_i2.1 c4 (by decide +kernel)), bnd_i2.2⟩
   refine Home.run X0 hx hby sg8_20_1 (pc' := 21) (L' := #[si 6, si i1, si i2, si i3, si i4, si i5, si i6]) (S' := [(.int 1)]) rfl ?_
   exact Home.retI X0 hx hlk hret (hb hby d8_21) ⟨congrArg some (congrArg Value.int (by first | rfl | (simp only [f_rm8_6, if_pos c1, if_neg c4, nar_i2c, nar_i2b] <;> rfl) | (simp [f_rm8_6, if_pos c1, if_neg c4]; done))), rfl, e0⟩ (by decide) (by decide)
 ·
  refine Home.go (fun _ => XS.ifNo X0.here hx rfl (hb hby d8_6) rfl ((if0 _ _).trans (feq c1).1)) ?_
  have bd3 : ¬ i1 < (1 : Int32) ∧ ¬ (57 : Int32) < i1 := ⟨(bnd_nel bnd_i1.1 c1 (by decide +kernel)), bnd_i1.2⟩
  refine Home.run X0 hx hby sg8_9_1 (pc' := 10) (L' := #[si 6, si i1, si i2, si i3, si i4, si i5, si i6]) (S' := [(.int 0)]) rfl ?_
  exact Home.retI X0 hx hlk hret (hb hby d8_10) ⟨congrArg some (congrArg Value.int (by first | rfl | (simp only [f_rm8_6, if_neg c1, nar_i2c, nar_i2b] <;> rfl) | (simp [f_rm8_6, if_neg c1]; done))), rfl, e0⟩ (by decide) (by decide)
theorem f_rm8_6_bnd (i1 : Int32) (i2 : Int32) (i3 : Int32) (i4 : Int32) (i5 : Int32) (i6 : Int32) (bnd_i1 : ¬ i1 < (0 : Int32) ∧ ¬ (57 : Int32) < i1) (bnd_i2 : ¬ i2 < (0 : Int32) ∧ ¬ (57 : Int32) < i2) (bnd_i3 : ¬ i3 < (0 : Int32) ∧ ¬ (57 : Int32) < i3) (bnd_i4 : ¬ i4 < (0 : Int32) ∧ ¬ (57 : Int32) < i4) (bnd_i5 : ¬ i5 < (0 : Int32) ∧ ¬ (57 : Int32) < i5) (bnd_i6 : ¬ i6 < (0 : Int32) ∧ ¬ (57 : Int32) < i6) : ¬ (f_rm8_6 i1 i2 i3 i4 i5 i6) < (0 : Int32) ∧ ¬ (6 : Int32) < (f_rm8_6 i1 i2 i3 i4 i5 i6) := by unfold f_rm8_6; (repeat' split) <;> first | exact bnd_mono (bnd_lit (6 : Int32)) (by decide +kernel) (by decide +kernel) | exact bnd_mono (bnd_lit (5 : Int32)) (by decide +kernel) (by decide +kernel) | exact bnd_mono (bnd_lit (4 : Int32)) (by decide +kernel) (by decide +kernel) | exact bnd_mono (bnd_lit (3 : Int32)) (by decide +kernel) (by decide +kernel) | exact bnd_mono (bnd_lit (2 : Int32)) (by decide +kernel) (by decide +kernel) | exact bnd_mono (bnd_lit (1 : Int32)) (by decide +kernel) (by decide +kernel) | exact bnd_mono (bnd_lit (0 : Int32)) (by decide +kernel) (by decide +kernel)
theorem rm9_6 (l : Launch) (Z : State) (a0 : Array Value) (hw : HW a0 Z) (ws : List Jvm.Cond) (i1 i2 i3 i4 i5 i6 : Int32) (h0 : Heap) (n0 : Nat) (O0 : Old Z n0 h0) (bnd_i1 : ¬ i1 < (0 : Int32) ∧ ¬ (57 : Int32) < i1) (bnd_i2 : ¬ i2 < (0 : Int32) ∧ ¬ (57 : Int32) < i2) (bnd_i3 : ¬ i3 < (0 : Int32) ∧ ¬ (57 : Int32) < i3) (bnd_i4 : ¬ i4 < (0 : Int32) ∧ ¬ (57 : Int32) < i4) (bnd_i5 : ¬ i5 < (0 : Int32) ∧ ¬ (57 : Int32) < i5) (bnd_i6 : ¬ i6 < (0 : Int32) ∧ ¬ (57 : Int32) < i6) :
    Con l Z (⟨"com/example/tryst/tryst/encoding/Base58DecodePinLaw", "value", "(IIIIIII)J"⟩ : MethodName) method_6_code 9 (some .long) ws ({ frames := 0, cells := 0, slots := 0, locals := 0 } : Room) #[(.int 6), (.int i1), (.int i2), (.int i3), (.int i4), (.int i5), (.int i6)] h0 (Pur (some (.long (((((((((((i1.toInt64) * (58 : Int64)) + (i2.toInt64)) * (58 : Int64)) + (i3.toInt64)) * (58 : Int64)) + (i4.toInt64)) * (58 : Int64)) + (i5.toInt64)) * (58 : Int64)) + (i6.toInt64)))) h0) := by
 refine own_body (plainFor_of_name own_pn1) (fun m => ef_rm9_6 m (6 : Int32) i1 i2 i3 i4 i5 i6) ?_
 intro p e s m below meth c s₁ hx hby hlk hml hret hZ hown hnm X0 e0
 have N0 := Fr.nil n0
 refine Home.run X0 hx hby sg9_0_3 (pc' := 4) (L' := #[si 6, si i1, si i2, si i3, si i4, si i5, si i6, .val (.long (0 : Int64)), .second]) (S' := [(.int 6)]) rfl ?_
 refine Home.go (fun _ => XS.ifNo X0.here hx rfl (hb hby d9_4) rfl ((if0 _ _).trans (tlt (by decide)).2.2.2)) ?_
 refine Home.run X0 hx hby sg9_7_5 (pc' := 13) (L' := #[si 6, si i1, si i2, si i3, si i4, si i5, si i6, .val (.long (i1.toInt64)), .second]) (S' := [(.int 1), (.int 6)]) rfl ?_
 refine Home.go (fun _ => XS.icmpNo X0.here hx rfl (hb hby d9_13) rfl (tlt (by decide)).2.2.2) ?_
 refine Home.run X0 hx hby sg9_16_1 (pc' := 18) (L' := #[si 6, si i1, si i2, si i3, si i4, si i5, si i6, .val (.long (i1.toInt64)), .second]) (S' := [(.long (i1.toInt64))]) rfl ?_
 refine Home.go (X0.ldc2Long hx hown (mvT hZ (own_w120 hw)) rfl (hb hby d9_18)) ?_
 refine Home.run X0 hx hby sg9_21_7 (pc' := 29) (L' := #[si 6, si i1, si i2, si i3, si i4, si i5, si i6, .val (.long (((i1.toInt64) * (58 : Int64)) + (i2.toInt64))), .second]) (S' := [(.int 2), (.int 6)]) rfl ?_
 refine Home.go (fun _ => XS.icmpNo X0.here hx rfl (hb hby d9_29) rfl (tlt (by decide)).2.2.2) ?_
 refine Home.run X0 hx hby sg9_32_1 (pc' := 34) (L' := #[si 6, si i1, si i2, si i3, si i4, si i5, si i6, .val (.long (((i1.toInt64) * (58 : Int64)) + (i2.toInt64))), .second]) (S' := [(.long (((i1.toInt64) * (58 : Int64)) + (i2.toInt64)))]) rfl ?_
 refine Home.go (X0.ldc2Long hx hown (mvT hZ (own_w120 hw)) rfl (hb hby d9_34)) ?_
 refine Home.run X0 hx hby sg9_37_7 (pc' := 45) (L' := #[si 6, si i1, si i2, si i3, si i4, si i5, si i6, .val (.long (((((i1.toInt64) * (58 : Int64)) + (i2.toInt64)) * (58 : Int64)) + (i3.toInt64))), .second]) (S' := [(.int 3), (.int 6)]) rfl ?_
 refine Home.go (fun _ => XS.icmpNo X0.here hx rfl (hb hby d9_45) rfl (tlt (by decide)).2.2.2) ?_
 refine Home.run X0 hx hby sg9_48_1 (pc' := 50) (L' := #[si 6, si i1, si i2, si i3, si i4, si i5, si i6, .val (.long (((((i1.toInt64) * (58 : Int64)) + (i2.toInt64)) * (58 : Int64)) + (i3.toInt64))), .second]) (S' := [(.long (((((i1.toInt64) * (58 : Int64)) + (i2.toInt64)) * (58 : Int64)) + (i3.toInt64)))]) rfl ?_
 refine Home.go (X0.ldc2Long hx hown (mvT hZ (own_w120 hw)) rfl (hb hby d9_50)) ?_
 show Home s₁ (mkF m 53 #[si 6, si i1, si i2, si i3, si i4, si i5, si i6, .val (.long (((((i1.toInt64) * (58 : Int64)) + (i2.toInt64)) * (58 : Int64)) + (i3.toInt64))), .second] [(.long (58 : Int64)), (.long (((((i1.toInt64) * (58 : Int64)) + (i2.toInt64)) * (58 : Int64)) + (i3.toInt64)))])
 refine Home.run X0 hx hby sg9_53_7 (pc' := 62) (L' := #[si 6, si i1, si i2, si i3, si i4, si i5, si i6, .val (.long (((((((i1.toInt64) * (58 : Int64)) + (i2.toInt64)) * (58 : Int64)) + (i3.toInt64)) * (58 : Int64)) + (i4.toInt64))), .second]) (S' := [(.int 4), (.int 6)]) rfl ?_
 refine Home.go (fun _ => XS.icmpNo X0.here hx rfl (hb hby d9_62) rfl (tlt (by decide)).2.2.2) ?_
 refine Home.run X0 hx hby sg9_65_1 (pc' := 67) (L' := #[si 6, si i1, si i2, si i3, si i4, si i5, si i6, .val (.long (((((((i1.toInt64) * (58 : Int64)) + (i2.toInt64)) * (58 : Int64)) + (i3.toInt64)) * (58 : Int64)) + (i4.toInt64))), .second]) (S' := [(.long (((((((i1.toInt64) * (58 : Int64)) + (i2.toInt64)) * (58 : Int64)) + (i3.toInt64)) * (58 : Int64)) + (i4.toInt64)))]) rfl ?_
 refine Home.go (X0.ldc2Long hx hown (mvT hZ (own_w120 hw)) rfl (hb hby d9_67)) ?_
 refine Home.run X0 hx hby sg9_70_7 (pc' := 79) (L' := #[si 6, si i1, si i2, si i3, si i4, si i5, si i6, .val (.long (((((((((i1.toInt64) * (58 : Int64)) + (i2.toInt64)) * (58 : Int64)) + (i3.toInt64)) * (58 : Int64)) + (i4.toInt64)) * (58 : Int64)) + (i5.toInt64))), .second]) (S' := [(.int 5), (.int 6)]) rfl ?_
 refine Home.go (fun _ => XS.icmpNo X0.here hx rfl (hb hby d9_79) rfl (tlt (by decide)).2.2.2) ?_
 refine Home.run X0 hx hby sg9_82_1 (pc' := 84) (L' := #[si 6, si i1, si i2, si i3, si i4, si i5, si i6, .val (.long (((((((((i1.toInt64) * (58 : Int64)) + (i2.toInt64)) * (58 : Int64)) + (i3.toInt64)) * (58 : Int64)) + (i4.toInt64)) * (58 : Int64)) + (i5.toInt64))), .second]) (S' := [(.long (((((((((i1.toInt64) * (58 : Int64)) + (i2.toInt64)) * (58 : Int64)) + (i3.toInt64)) * (58 : Int64)) + (i4.toInt64)) * (58 : Int64)) + (i5.toInt64)))]) rfl ?_
 refine Home.go (X0.ldc2Long hx hown (mvT hZ (own_w120 hw)) rfl (hb hby d9_84)) ?_
 refine Home.run X0 hx hby sg9_87_6 (pc' := 96) (L' := #[si 6, si i1, si i2, si i3, si i4, si i5, si i6, .val (.long (((((((((((i1.toInt64) * (58 : Int64)) + (i2.toInt64)) * (58 : Int64)) + (i3.toInt64)) * (58 : Int64)) + (i4.toInt64)) * (58 : Int64)) + (i5.toInt64)) * (58 : Int64)) + (i6.toInt64))), .second]) (S' := [(.long (((((((((((i1.toInt64) * (58 : Int64)) + (i2.toInt64)) * (58 : Int64)) + (i3.toInt64)) * (58 : Int64)) + (i4.toInt64)) * (58 : Int64)) + (i5.toInt64)) * (58 : Int64)) + (i6.toInt64)))]) rfl ?_
 exact Home.retJ X0 hx hlk hret (hb hby d9_96) ⟨rfl, rfl, e0⟩ (by decide) (by decide)
/-- the sign of a digit -/
def own_ch (k : Nat) : Int32 := ((nar .char ((own_at own_TI0 (Int32.ofNat k)) &&& (255 : Int32))).toInt8.toInt32)
theorem own_dgN : ∀ k < 58, f_rm27_0 (own_ch k &&& (255 : Int32)) = Int32.ofNat k := by decide +kernel
theorem own_zcN : ∀ k < 58, ((own_ch k &&& (255 : Int32)) = (49 : Int32) ↔ k = 0) := by decide +kernel
theorem own_i64 : ∀ k < 58, (Int32.ofNat k).toInt64 = Int64.ofNat k := by decide +kernel
theorem own_e0 : ∀ k < 58, (Int32.ofNat k = (0 : Int32) ↔ k = 0) := by decide +kernel
def own_lz : List Nat → Nat
  | [] => 0
  | d :: r => if d = 0 then own_lz r + 1 else 0
def own_fold : List Nat → Nat → Nat
  | [], v => v
  | d :: r, v => own_fold r (v * 58 + d)
def own_can (B : List Int32) : Prop := B.length = 0 ∨ 256 ^ (B.length - 1) ≤ own_val B
theorem own_zs_lz : ∀ ds : List Nat, (∀ d ∈ ds, d < 58) → own_zs (ds.map own_ch) = own_lz ds
  | [], _ => rfl
  | d :: r, h => by
    have q := own_zcN d (h d (by simp))
    have ih := own_zs_lz r (fun x hx => h x (List.mem_cons_of_mem _ hx))
    rw [List.map_cons]
    by_cases z : d = 0
    · rw [own_zs_go (q.mpr z), ih]; exact (if_pos z).symm
    · rw [own_zs_no (fun t => z (q.mp t))]; exact (if_neg z).symm
theorem own_val_snoc (x : Int32) : ∀ l : List Int32, own_val (l ++ [x]) = own_val l + 256 ^ l.length * own_bt x
  | [] => by show own_bt x + 256 * 0 = 0 + 256 ^ 0 * own_bt x; omega
  | a :: r => by
    have ih := own_val_snoc x r
    have hp : 256 ^ (r.length + 1) * own_bt x = 256 * (256 ^ r.length * own_bt x) := by rw [Nat.pow_succ, Nat.mul_comm (256 ^ r.length) 256, Nat.mul_assoc]
    show own_bt a + 256 * own_val (r ++ [x]) = own_bt a + 256 * own_val r + 256 ^ (r.length + 1) * own_bt x
    rw [ih, hp]; omega
theorem own_val_lt : ∀ l : List Int32, own_val l < 256 ^ l.length
  | [] => by show 0 < 256 ^ 0; decide
  | a :: r => by
    have ih := own_val_lt r
    have hm := (own_bt_is a).1
    have hp : 256 ^ (r.length + 1) = 256 * 256 ^ r.length := by rw [Nat.pow_succ, Nat.mul_comm]
    show own_bt a + 256 * own_val r < 256 ^ (r.length + 1)
    rw [hp]
    generalize 256 ^ r.length = P at ih ⊢
    omega
theorem own_st_val {B : List Int32} {c : Int32} {n : Nat} (hc : c = Int32.ofNat n) (hn : n ≤ 57) : own_val (own_st B c) = own_val B * 58 + n ∧ (own_can B → own_can (own_st B c)) := by
  obtain ⟨n', h1, h2, h3⟩ := own_in_val B hc hn
  have hl := own_in_len B c
  have h0 : (Int32.ofNat n').toInt = n' := Int32.toInt_ofNat_small (by omega)
  have e0 : (0 : Int32).toInt = 0 := rfl
  by_cases q : n' = 0
  · have q2 : ¬ (0 : Int32) < (own_in B c).2 := by rw [h2, Int32.lt_iff_toInt_lt, h0, e0]; omega
    have e : own_st B c = (own_in B c).1 := if_neg q2
    rw [q, Nat.mul_zero, Nat.add_zero] at h3
    rw [e]
    refine ⟨by omega, fun H => ?_⟩
    unfold own_can at H ⊢
    rw [hl]
    rcases H with H | H
    · exact Or.inl H
    · exact Or.inr (by omega)
  · have q2 : (0 : Int32) < (own_in B c).2 := by rw [h2, Int32.lt_iff_toInt_lt, h0, e0]; omega
    have e : own_st B c = (own_in B c).1 ++ [((own_in B c).2.toInt8.toInt32)] := if_pos q2
    have hv : own_val (own_st B c) = own_val (own_in B c).1 + 256 ^ B.length * n' := by
      rw [e, own_val_snoc, h2, own_bt_i8, hl, Nat.mod_eq_of_lt (by omega)]
    have hk : 256 ^ B.length ≤ 256 ^ B.length * n' := Nat.le_mul_of_pos_right _ (by omega)
    refine ⟨by omega, fun _ => Or.inr ?_⟩
    have hn : (own_st B c).length - 1 = B.length := by rw [e, List.length_append, hl]; rfl
    rw [hn, hv]; omega
theorem own_run_val : ∀ (ds : List Nat), (∀ d ∈ ds, d < 58) → ∀ B : List Int32, own_val (own_run (ds.map own_ch) B) = own_fold ds (own_val B) ∧ (own_can B → own_can (own_run (ds.map own_ch) B))
  | [], _, _ => ⟨rfl, id⟩
  | d :: r, h, B => by
    have q := own_dgN d (h d (by simp))
    have hd := h d (by simp)
    obtain ⟨s1, s2⟩ := own_st_val (B := B) q (by omega)
    obtain ⟨i1, i2⟩ := own_run_val r (fun x hx => h x (List.mem_cons_of_mem _ hx)) (own_st B (f_rm27_0 (own_ch d &&& (255 : Int32))))
    rw [s1] at i1
    exact ⟨i1, fun H => i2 (s2 H)⟩
theorem own_fold_drop : ∀ ds : List Nat, own_fold (ds.drop (own_lz ds)) 0 = own_fold ds 0
  | [] => rfl
  | d :: r => by
    by_cases z : d = 0
    · have e : own_lz (d :: r) = own_lz r + 1 := if_pos z
      rw [e, List.drop_succ_cons, own_fold_drop r, z]; rfl
    · have e : own_lz (d :: r) = 0 := if_neg z
      rw [e]; rfl
theorem own_B_val (ds : List Nat) (h : ∀ d ∈ ds, d < 58) : own_val (own_B (ds.map own_ch)) = own_fold ds 0 ∧ own_can (own_B (ds.map own_ch)) := by
  have e : own_B (ds.map own_ch) = own_run ((ds.drop (own_lz ds)).map own_ch) [] := by
    unfold own_B; rw [own_zs_lz ds h, List.map_drop]
  obtain ⟨a, b⟩ := own_run_val (ds.drop (own_lz ds)) (fun d hd => h d (List.mem_of_mem_drop hd)) []
  rw [e, a]
  exact ⟨own_fold_drop ds, b (Or.inl rfl)⟩
theorem own_get : ∀ (l : List Int32) (i : Nat), i < l.length → own_bt (l.getD i 0) = own_val l / 256 ^ i % 256
  | [], i, h => absurd h (Nat.not_lt_zero _)
  | a :: r, 0, _ => by
    have hm := (own_bt_is a).1
    show own_bt a = (own_bt a + 256 * own_val r) / 256 ^ 0 % 256
    omega
  | a :: r, i + 1, h => by
    have hm := (own_bt_is a).1
    have ih := own_get r i (by simpa using h)
    have e : (own_bt a + 256 * own_val r) / 256 ^ (i + 1) = own_val r / 256 ^ i := by
      rw [Nat.pow_succ, Nat.mul_comm (256 ^ i) 256, ← Nat.div_div_eq_div_mul, show (own_bt a + 256 * own_val r) / 256 = own_val r from by omega]
    show own_bt (r.getD i 0) = (own_bt a + 256 * own_val r) / 256 ^ (i + 1) % 256
    rw [e]; exact ih
theorem own_sx {x : Int32} (h : ¬ x < (-128 : Int32) ∧ ¬ (127 : Int32) < x) : x = (Int32.ofNat (own_bt x)).toInt8.toInt32 := by
  have e := (own_bt_is x).2
  rw [← e]
  have q : (x &&& (255 : Int32)).toInt8 = x.toInt8 := by
    apply Int8.toBitVec_inj.mp
    apply BitVec.eq_of_toNat_eq
    simp
    generalize BitVec.signExtend 8 x.toBitVec = y
    have q := Nat.and_two_pow_sub_one_eq_mod y.toNat 8
    have l := y.isLt
    simp at q
    rw [q]; omega
  rw [q, i2b_id h (by decide) (by decide)]
theorem own_exs {V : Int64} {sh : UInt64} {k : Nat} (hk : sh = UInt64.ofNat k) (h : k < 64) : (((V.toUInt64 >>> sh).toInt64).toInt32) = Int32.ofNat (V.toBitVec.toNat / 2 ^ k) := by
  rw [hk]
  apply Int32.toBitVec_inj.mp
  apply BitVec.eq_of_toNat_eq
  simp [Nat.shiftRight_eq_div_pow, Nat.mod_eq_of_lt h, Nat.mod_eq_of_lt (show k < 18446744073709551616 by omega)]
  rw [BitVec.signExtend_eq_setWidth_of_le _ (by decide)]
  simp [Nat.shiftRight_eq_div_pow]
theorem own_shN : ∀ z < 7, ∀ k < 7, ∀ j < 6, z ≤ j → j < z + k → (((8 : Int32) * (((Int32.ofNat z + Int32.ofNat k) - (1 : Int32)) - Int32.ofNat j)) &&& 0x3f).toInt64.toUInt64 = UInt64.ofNat (8 * (z + k - 1 - j)) := by decide +kernel
theorem own_atG {z : Nat} {B : List Int32} {j : Nat} (h1 : z ≤ j) (h2 : j < z + B.length) : (List.replicate z (0 : Int32) ++ B.reverse).getD j 0 = B.getD (z + B.length - 1 - j) 0 := by
  rw [List.getD_eq_getElem?_getD, List.getD_eq_getElem?_getD, List.getElem?_append_right (by rw [List.length_replicate]; exact h1), List.length_replicate, List.getElem?_reverse (by omega), show B.length - 1 - (j - z) = z + B.length - 1 - j from by omega]
theorem own_atZ {z : Nat} {B : List Int32} {j : Nat} (h1 : j < z) : (List.replicate z (0 : Int32) ++ B.reverse).getD j 0 = 0 := by
  rw [List.getD_eq_getElem?_getD, List.getElem?_append_left (by rw [List.length_replicate]; exact h1)]
  simp [List.getElem?_replicate, h1]
theorem own_bc {V : Int64} {v : Nat} {B : List Int32} (hV : V = Int64.ofNat v) (hv : own_val B = v) (hc : own_can B) (hl : v < 1099511627776) : f_rm10_1 V = Int32.ofNat B.length := by
  have hlt := own_val_lt B
  rw [hv] at hlt
  unfold own_can at hc
  rw [hv] at hc
  have e : ∀ m : Nat, m < 1099511627777 → (V < Int64.ofNat m ↔ v < m) := fun m hm => by
    rw [hV, Int64.lt_iff_toInt_lt, Int64.toInt_ofNat_of_lt (by omega), Int64.toInt_ofNat_of_lt (by omega)]; omega
  have z : V = (0 : Int64) ↔ v = 0 := by
    rw [hV, ← Int64.toInt_inj, Int64.toInt_ofNat_of_lt (by omega), show (0 : Int64).toInt = 0 from rfl]; omega
  have hB : B.length ≤ 5 := by
    rcases hc with q | q
    · omega
    · apply Decidable.byContradiction
      intro k
      have : 256 ^ 5 ≤ 256 ^ (B.length - 1) := Nat.pow_le_pow_right (by decide) (by omega)
      omega
  have e1 : V < (256 : Int64) ↔ v < 256 := e 256 (by decide)
  have e2 : V < (65536 : Int64) ↔ v < 65536 := e 65536 (by decide)
  have e3 : V < (16777216 : Int64) ↔ v < 16777216 := e 16777216 (by decide)
  have e4 : V < (4294967296 : Int64) ↔ v < 4294967296 := e 4294967296 (by decide)
  unfold f_rm10_1
  simp only [z, e1, e2, e3, e4]
  generalize B.length = k at hlt hc hB
  obtain rfl | rfl | rfl | rfl | rfl | rfl : k = 0 ∨ k = 1 ∨ k = 2 ∨ k = 3 ∨ k = 4 ∨ k = 5 := by omega
  · rw [if_pos (by omega)]; rfl
  · rw [if_neg (by omega), if_pos (by omega)]; rfl
  · rw [if_neg (by omega), if_neg (by omega), if_pos (by omega)]; rfl
  · rw [if_neg (by omega), if_neg (by omega), if_neg (by omega), if_pos (by omega)]; rfl
  · rw [if_neg (by omega), if_neg (by omega), if_neg (by omega), if_neg (by omega), if_pos (by omega)]; rfl
  · rw [if_neg (by omega), if_neg (by omega), if_neg (by omega), if_neg (by omega), if_neg (by omega)]; rfl
theorem own_chk {V : Int64} {v : Nat} {l : List Int32} (hV : V = Int64.ofNat v) (hv : own_val (own_B l) = v) (hl : v < 1099511627776) (hk : (own_B l).length ≤ 6) (hz : own_zs l ≤ 6) {j : Nat} (hj : j < 6) : f_rm11_1 (Int32.ofNat j) (Int32.ofNat (own_zs l)) (Int32.ofNat (own_B l).length) V (own_dec l) = 1 := by
  unfold f_rm11_1
  have hG : (own_dec l).length = own_zs l + (own_B l).length := by unfold own_dec; rw [List.length_append, List.length_replicate, List.length_reverse]
  have hn : (own_n (own_dec l)).toInt = ((own_zs l + (own_B l).length : Nat) : Int) := by rw [own_n_int (by omega), hG]
  have hj' : (Int32.ofNat j).toInt = (j : Int) := Int32.toInt_ofNat_small (by omega)
  have hz' : (Int32.ofNat (own_zs l)).toInt = (own_zs l : Int) := Int32.toInt_ofNat_small (by omega)
  by_cases q : Int32.ofNat j < own_n (own_dec l)
  · rw [if_pos q]
    rw [Int32.lt_iff_toInt_lt, hn, hj'] at q
    have ha : own_at (own_dec l) (Int32.ofNat j) = (List.replicate (own_zs l) (0 : Int32) ++ (own_B l).reverse).getD j 0 := by
      unfold own_at; rw [own_clamp (by omega)]; rfl
    rw [ha]
    apply if_pos
    unfold f_rm28_0
    by_cases c : Int32.ofNat j < Int32.ofNat (own_zs l)
    · rw [if_pos c]
      rw [Int32.lt_iff_toInt_lt, hj', hz'] at c
      exact own_atZ (by omega)
    · rw [if_neg c]
      rw [Int32.lt_iff_toInt_lt, hj', hz'] at c
      have hi : own_zs l + (own_B l).length - 1 - j < (own_B l).length := by omega
      rw [own_atG (by omega) (by omega)]
      have hx : (own_B l).getD (own_zs l + (own_B l).length - 1 - j) 0 ∈ own_B l := by
        rw [List.getD_eq_getElem?_getD, List.getElem?_eq_getElem hi]; exact List.getElem_mem hi
      have hg := own_get (own_B l) _ hi
      rw [hv] at hg
      rw [own_exs (own_shN (own_zs l) (by omega) (own_B l).length (by omega) j (by omega) (by omega) (by omega)) (by omega)]
      rw [own_sx (own_B_b l _ hx)]
      have hw : V.toBitVec.toNat = v := by
        rw [hV]; simp; omega
      rw [hw]
      apply own_i8
      rw [hg, Nat.pow_mul, show 2 ^ 8 = 256 from rfl, Nat.mod_mod]
  · rw [if_neg q]
theorem own_fold_lt : ∀ (ds : List Nat) (v : Nat), (∀ d ∈ ds, d < 58) → own_fold ds v < (v + 1) * 58 ^ ds.length
  | [], v, _ => by show v < (v + 1) * 58 ^ 0; omega
  | d :: r, v, h => by
    have hd := h d (by simp)
    have ih := own_fold_lt r (v * 58 + d) (fun x hx => h x (List.mem_cons_of_mem _ hx))
    show own_fold r (v * 58 + d) < (v + 1) * 58 ^ (r.length + 1)
    refine Nat.lt_of_lt_of_le ih ?_
    rw [Nat.pow_succ, Nat.mul_comm (58 ^ r.length) 58, ← Nat.mul_assoc]
    exact Nat.mul_le_mul_right _ (by omega)
theorem own_fold40 (ds : List Nat) (h : ∀ d ∈ ds, d < 58) (hl : ds.length ≤ 6) : own_fold ds 0 < 1099511627776 := by
  refine Nat.lt_of_lt_of_le (own_fold_lt ds 0 h) ?_
  have : 58 ^ ds.length ≤ 58 ^ 6 := Nat.pow_le_pow_right (by decide) hl
  omega
/-- all of it: what the law asks of a text of digits -/
theorem own_all (ds : List Nat) (h : ∀ d ∈ ds, d < 58) (hl : ds.length ≤ 6) {l : List Int32} (el : l = ds.map own_ch) {V : Int64} (hV : V = Int64.ofNat (own_fold ds 0)) {z : Int32} (hz : z = Int32.ofNat (own_lz ds)) :
    own_n (own_dec l) = (z + f_rm10_1 V) ∧ ∀ j < 6, f_rm11_1 (Int32.ofNat j) z (f_rm10_1 V) V (own_dec l) = 1 := by
  subst el
  obtain ⟨hv, hc⟩ := own_B_val ds h
  have h40 := own_fold40 ds h hl
  have ek := own_bc hV hv hc h40
  have ez := own_zs_lz ds h
  have hml : (ds.map own_ch).length ≤ 6 := by rw [List.length_map]; exact hl
  have h1 := own_zs_le (ds.map own_ch)
  have h2 := own_B_len (ds.map own_ch)
  rw [← ez] at hz
  rw [ek]
  refine ⟨(own_dec_n hz rfl).symm, fun j hj => ?_⟩
  rw [hz]
  exact own_chk hV hv h40 (by omega) (by omega) hj
theorem own_rem58 {x : Int32} (h : ¬ x < (0 : Int32) ∧ ¬ (57 : Int32) < x) : ∃ d, d < 58 ∧ x = Int32.ofNat d := by
  obtain ⟨n, hn, e⟩ := own_nt (k := 57) rfl (by decide) h
  exact ⟨n, by omega, e⟩
theorem own_hv {v r : Int32} (hv : ¬ v < (0 : Int32) ∧ ¬ (57 : Int32) < v) (hr : r = ((nar .char ((own_at own_TI0 v) &&& (255 : Int32))).toInt8.toInt32)) : ¬ (f_rm27_0 (r &&& (255 : Int32))) < (0 : Int32) ∧ ¬ (57 : Int32) < (f_rm27_0 (r &&& (255 : Int32))) := by
  obtain ⟨d, hd, e⟩ := own_rem58 hv
  have q : f_rm27_0 (((nar .char ((own_at own_TI0 (Int32.ofNat d)) &&& (255 : Int32))).toInt8.toInt32) &&& (255 : Int32)) = Int32.ofNat d := own_dgN d hd
  rw [hr, e, q]; exact own_b57 (by omega)
theorem own_zf1 {d0 : Nat} (h0 : d0 < 58) : f_rm8_1 (Int32.ofNat d0) = Int32.ofNat (own_lz [d0]) := by
  unfold f_rm8_1
  by_cases q0 : d0 = 0
  ·
    simp [own_e0 d0 h0, own_lz, q0] <;> decide
  ·
    simp [own_e0 d0 h0, own_lz, q0] <;> decide
theorem own_zf2 {d0 d1 : Nat} (h0 : d0 < 58) (h1 : d1 < 58) : f_rm8_2 (Int32.ofNat d0) (Int32.ofNat d1) = Int32.ofNat (own_lz [d0, d1]) := by
  unfold f_rm8_2
  by_cases q0 : d0 = 0
  ·
    by_cases q1 : d1 = 0
    ·
      simp [own_e0 d0 h0, own_e0 d1 h1, own_lz, q0, q1] <;> decide
    ·
      simp [own_e0 d0 h0, own_e0 d1 h1, own_lz, q0, q1] <;> decide
  ·
    simp [own_e0 d0 h0, own_e0 d1 h1, own_lz, q0] <;> decide
theorem own_zf3 {d0 d1 d2 : Nat} (h0 : d0 < 58) (h1 : d1 < 58) (h2 : d2 < 58) : f_rm8_3 (Int32.ofNat d0) (Int32.ofNat d1) (Int32.ofNat d2) = Int32.ofNat (own_lz [d0, d1, d2]) := by
  unfold f_rm8_3
  by_cases q0 : d0 = 0
  ·
    by_cases q1 : d1 = 0
    ·
      by_cases q2 : d2 = 0
      ·
        simp [own_e0 d0 h0, own_e0 d1 h1, own_e0 d2 h2, own_lz, q0, q1, q2] <;> decide
      ·
        simp [own_e0 d0 h0, own_e0 d1 h1, own_e0 d2 h2, own_lz, q0, q1, q2] <;> decide
    ·
      simp [own_e0 d0 h0, own_e0 d1 h1, own_e0 d2 h2, own_lz, q0, q1] <;> decide
  ·
    simp [own_e0 d0 h0, own_e0 d1 h1, own_e0 d2 h2, own_lz, q0] <;> decide
theorem own_zf4 {d0 d1 d2 d3 : Nat} (h0 : d0 < 58) (h1 : d1 < 58) (h2 : d2 < 58) (h3 : d3 < 58) : f_rm8_4 (Int32.ofNat d0) (Int32.ofNat d1) (Int32.ofNat d2) (Int32.ofNat d3) = Int32.ofNat (own_lz [d0, d1, d2, d3]) := by
  unfold f_rm8_4
  by_cases q0 : d0 = 0
  ·
    by_cases q1 : d1 = 0
    ·
      by_cases q2 : d2 = 0
      ·
        by_cases q3 : d3 = 0
        ·
          simp [own_e0 d0 h0, own_e0 d1 h1, own_e0 d2 h2, own_e0 d3 h3, own_lz, q0, q1, q2, q3] <;> decide
        ·
          simp [own_e0 d0 h0, own_e0 d1 h1, own_e0 d2 h2, own_e0 d3 h3, own_lz, q0, q1, q2, q3] <;> decide
      ·
        simp [own_e0 d0 h0, own_e0 d1 h1, own_e0 d2 h2, own_e0 d3 h3, own_lz, q0, q1, q2] <;> decide
    ·
      simp [own_e0 d0 h0, own_e0 d1 h1, own_e0 d2 h2, own_e0 d3 h3, own_lz, q0, q1] <;> decide
  ·
    simp [own_e0 d0 h0, own_e0 d1 h1, own_e0 d2 h2, own_e0 d3 h3, own_lz, q0] <;> decide
theorem own_zf5 {d0 d1 d2 d3 d4 : Nat} (h0 : d0 < 58) (h1 : d1 < 58) (h2 : d2 < 58) (h3 : d3 < 58) (h4 : d4 < 58) : f_rm8_5 (Int32.ofNat d0) (Int32.ofNat d1) (Int32.ofNat d2) (Int32.ofNat d3) (Int32.ofNat d4) = Int32.ofNat (own_lz [d0, d1, d2, d3, d4]) := by
  unfold f_rm8_5
  by_cases q0 : d0 = 0
  ·
    by_cases q1 : d1 = 0
    ·
      by_cases q2 : d2 = 0
      ·
        by_cases q3 : d3 = 0
        ·
          by_cases q4 : d4 = 0
          ·
            simp [own_e0 d0 h0, own_e0 d1 h1, own_e0 d2 h2, own_e0 d3 h3, own_e0 d4 h4, own_lz, q0, q1, q2, q3, q4] <;> decide
          ·
            simp [own_e0 d0 h0, own_e0 d1 h1, own_e0 d2 h2, own_e0 d3 h3, own_e0 d4 h4, own_lz, q0, q1, q2, q3, q4] <;> decide
        ·
          simp [own_e0 d0 h0, own_e0 d1 h1, own_e0 d2 h2, own_e0 d3 h3, own_e0 d4 h4, own_lz, q0, q1, q2, q3] <;> decide
      ·
        simp [own_e0 d0 h0, own_e0 d1 h1, own_e0 d2 h2, own_e0 d3 h3, own_e0 d4 h4, own_lz, q0, q1, q2] <;> decide
    ·
      simp [own_e0 d0 h0, own_e0 d1 h1, own_e0 d2 h2, own_e0 d3 h3, own_e0 d4 h4, own_lz, q0, q1] <;> decide
  ·
    simp [own_e0 d0 h0, own_e0 d1 h1, own_e0 d2 h2, own_e0 d3 h3, own_e0 d4 h4, own_lz, q0] <;> decide
theorem own_zf6 {d0 d1 d2 d3 d4 d5 : Nat} (h0 : d0 < 58) (h1 : d1 < 58) (h2 : d2 < 58) (h3 : d3 < 58) (h4 : d4 < 58) (h5 : d5 < 58) : f_rm8_6 (Int32.ofNat d0) (Int32.ofNat d1) (Int32.ofNat d2) (Int32.ofNat d3) (Int32.ofNat d4) (Int32.ofNat d5) = Int32.ofNat (own_lz [d0, d1, d2, d3, d4, d5]) := by
  unfold f_rm8_6
  by_cases q0 : d0 = 0
  ·
    by_cases q1 : d1 = 0
    ·
      by_cases q2 : d2 = 0
      ·
        by_cases q3 : d3 = 0
        ·
          by_cases q4 : d4 = 0
          ·
            by_cases q5 : d5 = 0
            ·
              simp [own_e0 d0 h0, own_e0 d1 h1, own_e0 d2 h2, own_e0 d3 h3, own_e0 d4 h4, own_e0 d5 h5, own_lz, q0, q1, q2, q3, q4, q5] <;> decide
            ·
              simp [own_e0 d0 h0, own_e0 d1 h1, own_e0 d2 h2, own_e0 d3 h3, own_e0 d4 h4, own_e0 d5 h5, own_lz, q0, q1, q2, q3, q4, q5] <;> decide
          ·
            simp [own_e0 d0 h0, own_e0 d1 h1, own_e0 d2 h2, own_e0 d3 h3, own_e0 d4 h4, own_e0 d5 h5, own_lz, q0, q1, q2, q3, q4] <;> decide
        ·
          simp [own_e0 d0 h0, own_e0 d1 h1, own_e0 d2 h2, own_e0 d3 h3, own_e0 d4 h4, own_e0 d5 h5, own_lz, q0, q1, q2, q3] <;> decide
      ·
        simp [own_e0 d0 h0, own_e0 d1 h1, own_e0 d2 h2, own_e0 d3 h3, own_e0 d4 h4, own_e0 d5 h5, own_lz, q0, q1, q2] <;> decide
    ·
      simp [own_e0 d0 h0, own_e0 d1 h1, own_e0 d2 h2, own_e0 d3 h3, own_e0 d4 h4, own_e0 d5 h5, own_lz, q0, q1] <;> decide
  ·
    simp [own_e0 d0 h0, own_e0 d1 h1, own_e0 d2 h2, own_e0 d3 h3, own_e0 d4 h4, own_e0 d5 h5, own_lz, q0] <;> decide
theorem own_ln38 (i1 : Int32) (v2 : Int32) (hv2 : v2 = ((i1 &&& (65535 : Int32)) % (58 : Int32))) (r1 : Int32) (hr1 : r1 = ((nar .char ((own_at own_TI0 v2) &&& (255 : Int32))).toInt8.toInt32)) (r2 : List Int32) (hr2 : r2 = (own_dec [r1])) (r3 : Int32) (hr3 : r3 = (f_rm8_1 v2)) (r4 : Int32) (hr4 : r4 = (f_rm10_1 (v2.toInt64))) : (own_n r2) = (r3 + r4) := by
  obtain ⟨d0, h0, e0⟩ := own_rem58 (show ¬ v2 < (0 : Int32) ∧ ¬ (57 : Int32) < v2 by rw [hv2]; exact (bnd_rem (bnd_and i1 (65535 : Int32) (by decide)) (by decide +kernel) (by decide +kernel)))
  have hV : (v2.toInt64) = Int64.ofNat (own_fold [d0] 0) := by rw [e0, own_i64 d0 h0]; simp only [own_fold, Nat.zero_mul, Nat.zero_add, Int64.ofNat_add, Int64.ofNat_mul] <;> rfl
  have hz : r3 = Int32.ofNat (own_lz [d0]) := by rw [hr3, e0]; exact own_zf1 h0
  have q := own_all [d0] (by simp [h0]) (by simp) (l := [r1]) (by rw [hr1, e0]; rfl) hV hz
  rw [hr2, hr4]
  exact q.1
theorem own_ln82 (i1 : Int32) (v2 : Int32) (hv2 : v2 = ((i1 &&& (65535 : Int32)) % (58 : Int32))) (v3 : Int32) (hv3 : v3 = (((i1.toUInt32 >>> ((16 : Int32) &&& 31).toUInt32).toInt32) % (58 : Int32))) (r1 : Int32) (hr1 : r1 = ((nar .char ((own_at own_TI0 v2) &&& (255 : Int32))).toInt8.toInt32)) (r2 : Int32) (hr2 : r2 = ((nar .char ((own_at own_TI0 v3) &&& (255 : Int32))).toInt8.toInt32)) (r3 : List Int32) (hr3 : r3 = (own_dec [r1, r2])) (r4 : Int32) (hr4 : r4 = (f_rm8_2 v2 v3)) (v78 : Int64) (hv78 : v78 = (((v2.toInt64) * (58 : Int64)) + (v3.toInt64))) (r5 : Int32) (hr5 : r5 = (f_rm10_1 v78)) : (own_n r3) = (r4 + r5) := by
  obtain ⟨d0, h0, e0⟩ := own_rem58 (show ¬ v2 < (0 : Int32) ∧ ¬ (57 : Int32) < v2 by rw [hv2]; exact (bnd_rem (bnd_and i1 (65535 : Int32) (by decide)) (by decide +kernel) (by decide +kernel)))
  obtain ⟨d1, h1, e1⟩ := own_rem58 (show ¬ v3 < (0 : Int32) ∧ ¬ (57 : Int32) < v3 by rw [hv3]; exact (bnd_rem (bnd_ushr i1 (k := 16) (hi := (65535 : Int32)) (by decide +kernel) (by decide +kernel)) (by decide +kernel) (by decide +kernel)))
  have hV : v78 = Int64.ofNat (own_fold [d0, d1] 0) := by rw [hv78, e0, e1, own_i64 d0 h0, own_i64 d1 h1]; simp only [own_fold, Nat.zero_mul, Nat.zero_add, Int64.ofNat_add, Int64.ofNat_mul] <;> rfl
  have hz : r4 = Int32.ofNat (own_lz [d0, d1]) := by rw [hr4, e0, e1]; exact own_zf2 h0 h1
  have q := own_all [d0, d1] (by simp [h0, h1]) (by simp) (l := [r1, r2]) (by rw [hr1, hr2, e0, e1]; rfl) hV hz
  rw [hr3, hr5]
  exact q.1
theorem own_ln127 (i1 : Int32) (i2 : Int32) (v2 : Int32) (hv2 : v2 = ((i1 &&& (65535 : Int32)) % (58 : Int32))) (v3 : Int32) (hv3 : v3 = (((i1.toUInt32 >>> ((16 : Int32) &&& 31).toUInt32).toInt32) % (58 : Int32))) (v4 : Int32) (hv4 : v4 = ((i2 &&& (65535 : Int32)) % (58 : Int32))) (r1 : Int32) (hr1 : r1 = ((nar .char ((own_at own_TI0 v2) &&& (255 : Int32))).toInt8.toInt32)) (r2 : Int32) (hr2 : r2 = ((nar .char ((own_at own_TI0 v3) &&& (255 : Int32))).toInt8.toInt32)) (r3 : Int32) (hr3 : r3 = ((nar .char ((own_at own_TI0 v4) &&& (255 : Int32))).toInt8.toInt32)) (r4 : List Int32) (hr4 : r4 = (own_dec [r1, r2, r3])) (r5 : Int32) (hr5 : r5 = (f_rm8_3 v2 v3 v4)) (v123 : Int64) (hv123 : v123 = (((((v2.toInt64) * (58 : Int64)) + (v3.toInt64)) * (58 : Int64)) + (v4.toInt64))) (r6 : Int32) (hr6 : r6 = (f_rm10_1 v123)) : (own_n r4) = (r5 + r6) := by
  obtain ⟨d0, h0, e0⟩ := own_rem58 (show ¬ v2 < (0 : Int32) ∧ ¬ (57 : Int32) < v2 by rw [hv2]; exact (bnd_rem (bnd_and i1 (65535 : Int32) (by decide)) (by decide +kernel) (by decide +kernel)))
  obtain ⟨d1, h1, e1⟩ := own_rem58 (show ¬ v3 < (0 : Int32) ∧ ¬ (57 : Int32) < v3 by rw [hv3]; exact (bnd_rem (bnd_ushr i1 (k := 16) (hi := (65535 : Int32)) (by decide +kernel) (by decide +kernel)) (by decide +kernel) (by decide +kernel)))
  obtain ⟨d2, h2, e2⟩ := own_rem58 (show ¬ v4 < (0 : Int32) ∧ ¬ (57 : Int32) < v4 by rw [hv4]; exact (bnd_rem (bnd_and i2 (65535 : Int32) (by decide)) (by decide +kernel) (by decide +kernel)))
  have hV : v123 = Int64.ofNat (own_fold [d0, d1, d2] 0) := by rw [hv123, e0, e1, e2, own_i64 d0 h0, own_i64 d1 h1, own_i64 d2 h2]; simp only [own_fold, Nat.zero_mul, Nat.zero_add, Int64.ofNat_add, Int64.ofNat_mul] <;> rfl
  have hz : r5 = Int32.ofNat (own_lz [d0, d1, d2]) := by rw [hr5, e0, e1, e2]; exact own_zf3 h0 h1 h2
  have q := own_all [d0, d1, d2] (by simp [h0, h1, h2]) (by simp) (l := [r1, r2, r3]) (by rw [hr1, hr2, hr3, e0, e1, e2]; rfl) hV hz
  rw [hr4, hr6]
  exact q.1
theorem own_ln173 (i1 : Int32) (i2 : Int32) (v2 : Int32) (hv2 : v2 = ((i1 &&& (65535 : Int32)) % (58 : Int32))) (v3 : Int32) (hv3 : v3 = (((i1.toUInt32 >>> ((16 : Int32) &&& 31).toUInt32).toInt32) % (58 : Int32))) (v4 : Int32) (hv4 : v4 = ((i2 &&& (65535 : Int32)) % (58 : Int32))) (v5 : Int32) (hv5 : v5 = (((i2.toUInt32 >>> ((16 : Int32) &&& 31).toUInt32).toInt32) % (58 : Int32))) (r1 : Int32) (hr1 : r1 = ((nar .char ((own_at own_TI0 v2) &&& (255 : Int32))).toInt8.toInt32)) (r2 : Int32) (hr2 : r2 = ((nar .char ((own_at own_TI0 v3) &&& (255 : Int32))).toInt8.toInt32)) (r3 : Int32) (hr3 : r3 = ((nar .char ((own_at own_TI0 v4) &&& (255 : Int32))).toInt8.toInt32)) (r4 : Int32) (hr4 : r4 = ((nar .char ((own_at own_TI0 v5) &&& (255 : Int32))).toInt8.toInt32)) (r5 : List Int32) (hr5 : r5 = (own_dec [r1, r2, r3, r4])) (r6 : Int32) (hr6 : r6 = (f_rm8_4 v2 v3 v4 v5)) (v169 : Int64) (hv169 : v169 = (((((((v2.toInt64) * (58 : Int64)) + (v3.toInt64)) * (58 : Int64)) + (v4.toInt64)) * (58 : Int64)) + (v5.toInt64))) (r7 : Int32) (hr7 : r7 = (f_rm10_1 v169)) : (own_n r5) = (r6 + r7) := by
  obtain ⟨d0, h0, e0⟩ := own_rem58 (show ¬ v2 < (0 : Int32) ∧ ¬ (57 : Int32) < v2 by rw [hv2]; exact (bnd_rem (bnd_and i1 (65535 : Int32) (by decide)) (by decide +kernel) (by decide +kernel)))
  obtain ⟨d1, h1, e1⟩ := own_rem58 (show ¬ v3 < (0 : Int32) ∧ ¬ (57 : Int32) < v3 by rw [hv3]; exact (bnd_rem (bnd_ushr i1 (k := 16) (hi := (65535 : Int32)) (by decide +kernel) (by decide +kernel)) (by decide +kernel) (by decide +kernel)))
  obtain ⟨d2, h2, e2⟩ := own_rem58 (show ¬ v4 < (0 : Int32) ∧ ¬ (57 : Int32) < v4 by rw [hv4]; exact (bnd_rem (bnd_and i2 (65535 : Int32) (by decide)) (by decide +kernel) (by decide +kernel)))
  obtain ⟨d3, h3, e3⟩ := own_rem58 (show ¬ v5 < (0 : Int32) ∧ ¬ (57 : Int32) < v5 by rw [hv5]; exact (bnd_rem (bnd_ushr i2 (k := 16) (hi := (65535 : Int32)) (by decide +kernel) (by decide +kernel)) (by decide +kernel) (by decide +kernel)))
  have hV : v169 = Int64.ofNat (own_fold [d0, d1, d2, d3] 0) := by rw [hv169, e0, e1, e2, e3, own_i64 d0 h0, own_i64 d1 h1, own_i64 d2 h2, own_i64 d3 h3]; simp only [own_fold, Nat.zero_mul, Nat.zero_add, Int64.ofNat_add, Int64.ofNat_mul] <;> rfl
  have hz : r6 = Int32.ofNat (own_lz [d0, d1, d2, d3]) := by rw [hr6, e0, e1, e2, e3]; exact own_zf4 h0 h1 h2 h3
  have q := own_all [d0, d1, d2, d3] (by simp [h0, h1, h2, h3]) (by simp) (l := [r1, r2, r3, r4]) (by rw [hr1, hr2, hr3, hr4, e0, e1, e2, e3]; rfl) hV hz
  rw [hr5, hr7]
  exact q.1
theorem own_ln221 (i1 : Int32) (i2 : Int32) (i3 : Int32) (v2 : Int32) (hv2 : v2 = ((i1 &&& (65535 : Int32)) % (58 : Int32))) (v3 : Int32) (hv3 : v3 = (((i1.toUInt32 >>> ((16 : Int32) &&& 31).toUInt32).toInt32) % (58 : Int32))) (v4 : Int32) (hv4 : v4 = ((i2 &&& (65535 : Int32)) % (58 : Int32))) (v5 : Int32) (hv5 : v5 = (((i2.toUInt32 >>> ((16 : Int32) &&& 31).toUInt32).toInt32) % (58 : Int32))) (v6 : Int32) (hv6 : v6 = ((i3 &&& (65535 : Int32)) % (58 : Int32))) (r1 : Int32) (hr1 : r1 = ((nar .char ((own_at own_TI0 v2) &&& (255 : Int32))).toInt8.toInt32)) (r2 : Int32) (hr2 : r2 = ((nar .char ((own_at own_TI0 v3) &&& (255 : Int32))).toInt8.toInt32)) (r3 : Int32) (hr3 : r3 = ((nar .char ((own_at own_TI0 v4) &&& (255 : Int32))).toInt8.toInt32)) (r4 : Int32) (hr4 : r4 = ((nar .char ((own_at own_TI0 v5) &&& (255 : Int32))).toInt8.toInt32)) (r5 : Int32) (hr5 : r5 = ((nar .char ((own_at own_TI0 v6) &&& (255 : Int32))).toInt8.toInt32)) (r6 : List Int32) (hr6 : r6 = (own_dec [r1, r2, r3, r4, r5])) (r7 : Int32) (hr7 : r7 = (f_rm8_5 v2 v3 v4 v5 v6)) (v217 : Int64) (hv217 : v217 = (((((((((v2.toInt64) * (58 : Int64)) + (v3.toInt64)) * (58 : Int64)) + (v4.toInt64)) * (58 : Int64)) + (v5.toInt64)) * (58 : Int64)) + (v6.toInt64))) (r8 : Int32) (hr8 : r8 = (f_rm10_1 v217)) : (own_n r6) = (r7 + r8) := by
  obtain ⟨d0, h0, e0⟩ := own_rem58 (show ¬ v2 < (0 : Int32) ∧ ¬ (57 : Int32) < v2 by rw [hv2]; exact (bnd_rem (bnd_and i1 (65535 : Int32) (by decide)) (by decide +kernel) (by decide +kernel)))
  obtain ⟨d1, h1, e1⟩ := own_rem58 (show ¬ v3 < (0 : Int32) ∧ ¬ (57 : Int32) < v3 by rw [hv3]; exact (bnd_rem (bnd_ushr i1 (k := 16) (hi := (65535 : Int32)) (by decide +kernel) (by decide +kernel)) (by decide +kernel) (by decide +kernel)))
  obtain ⟨d2, h2, e2⟩ := own_rem58 (show ¬ v4 < (0 : Int32) ∧ ¬ (57 : Int32) < v4 by rw [hv4]; exact (bnd_rem (bnd_and i2 (65535 : Int32) (by decide)) (by decide +kernel) (by decide +kernel)))
  obtain ⟨d3, h3, e3⟩ := own_rem58 (show ¬ v5 < (0 : Int32) ∧ ¬ (57 : Int32) < v5 by rw [hv5]; exact (bnd_rem (bnd_ushr i2 (k := 16) (hi := (65535 : Int32)) (by decide +kernel) (by decide +kernel)) (by decide +kernel) (by decide +kernel)))
  obtain ⟨d4, h4, e4⟩ := own_rem58 (show ¬ v6 < (0 : Int32) ∧ ¬ (57 : Int32) < v6 by rw [hv6]; exact (bnd_rem (bnd_and i3 (65535 : Int32) (by decide)) (by decide +kernel) (by decide +kernel)))
  have hV : v217 = Int64.ofNat (own_fold [d0, d1, d2, d3, d4] 0) := by rw [hv217, e0, e1, e2, e3, e4, own_i64 d0 h0, own_i64 d1 h1, own_i64 d2 h2, own_i64 d3 h3, own_i64 d4 h4]; simp only [own_fold, Nat.zero_mul, Nat.zero_add, Int64.ofNat_add, Int64.ofNat_mul] <;> rfl
  have hz : r7 = Int32.ofNat (own_lz [d0, d1, d2, d3, d4]) := by rw [hr7, e0, e1, e2, e3, e4]; exact own_zf5 h0 h1 h2 h3 h4
  have q := own_all [d0, d1, d2, d3, d4] (by simp [h0, h1, h2, h3, h4]) (by simp) (l := [r1, r2, r3, r4, r5]) (by rw [hr1, hr2, hr3, hr4, hr5, e0, e1, e2, e3, e4]; rfl) hV hz
  rw [hr6, hr8]
  exact q.1
theorem own_ln265 (i1 : Int32) (i2 : Int32) (i3 : Int32) (v2 : Int32) (hv2 : v2 = ((i1 &&& (65535 : Int32)) % (58 : Int32))) (v3 : Int32) (hv3 : v3 = (((i1.toUInt32 >>> ((16 : Int32) &&& 31).toUInt32).toInt32) % (58 : Int32))) (v4 : Int32) (hv4 : v4 = ((i2 &&& (65535 : Int32)) % (58 : Int32))) (v5 : Int32) (hv5 : v5 = (((i2.toUInt32 >>> ((16 : Int32) &&& 31).toUInt32).toInt32) % (58 : Int32))) (v6 : Int32) (hv6 : v6 = ((i3 &&& (65535 : Int32)) % (58 : Int32))) (v7 : Int32) (hv7 : v7 = (((i3.toUInt32 >>> ((16 : Int32) &&& 31).toUInt32).toInt32) % (58 : Int32))) (r1 : Int32) (hr1 : r1 = ((nar .char ((own_at own_TI0 v2) &&& (255 : Int32))).toInt8.toInt32)) (r2 : Int32) (hr2 : r2 = ((nar .char ((own_at own_TI0 v3) &&& (255 : Int32))).toInt8.toInt32)) (r3 : Int32) (hr3 : r3 = ((nar .char ((own_at own_TI0 v4) &&& (255 : Int32))).toInt8.toInt32)) (r4 : Int32) (hr4 : r4 = ((nar .char ((own_at own_TI0 v5) &&& (255 : Int32))).toInt8.toInt32)) (r5 : Int32) (hr5 : r5 = ((nar .char ((own_at own_TI0 v6) &&& (255 : Int32))).toInt8.toInt32)) (r6 : Int32) (hr6 : r6 = ((nar .char ((own_at own_TI0 v7) &&& (255 : Int32))).toInt8.toInt32)) (r7 : List Int32) (hr7 : r7 = (own_dec [r1, r2, r3, r4, r5, r6])) (r8 : Int32) (hr8 : r8 = (f_rm8_6 v2 v3 v4 v5 v6 v7)) (v261 : Int64) (hv261 : v261 = (((((((((((v2.toInt64) * (58 : Int64)) + (v3.toInt64)) * (58 : Int64)) + (v4.toInt64)) * (58 : Int64)) + (v5.toInt64)) * (58 : Int64)) + (v6.toInt64)) * (58 : Int64)) + (v7.toInt64))) (r9 : Int32) (hr9 : r9 = (f_rm10_1 v261)) : (own_n r7) = (r8 + r9) := by
  obtain ⟨d0, h0, e0⟩ := own_rem58 (show ¬ v2 < (0 : Int32) ∧ ¬ (57 : Int32) < v2 by rw [hv2]; exact (bnd_rem (bnd_and i1 (65535 : Int32) (by decide)) (by decide +kernel) (by decide +kernel)))
  obtain ⟨d1, h1, e1⟩ := own_rem58 (show ¬ v3 < (0 : Int32) ∧ ¬ (57 : Int32) < v3 by rw [hv3]; exact (bnd_rem (bnd_ushr i1 (k := 16) (hi := (65535 : Int32)) (by decide +kernel) (by decide +kernel)) (by decide +kernel) (by decide +kernel)))
  obtain ⟨d2, h2, e2⟩ := own_rem58 (show ¬ v4 < (0 : Int32) ∧ ¬ (57 : Int32) < v4 by rw [hv4]; exact (bnd_rem (bnd_and i2 (65535 : Int32) (by decide)) (by decide +kernel) (by decide +kernel)))
  obtain ⟨d3, h3, e3⟩ := own_rem58 (show ¬ v5 < (0 : Int32) ∧ ¬ (57 : Int32) < v5 by rw [hv5]; exact (bnd_rem (bnd_ushr i2 (k := 16) (hi := (65535 : Int32)) (by decide +kernel) (by decide +kernel)) (by decide +kernel) (by decide +kernel)))
  obtain ⟨d4, h4, e4⟩ := own_rem58 (show ¬ v6 < (0 : Int32) ∧ ¬ (57 : Int32) < v6 by rw [hv6]; exact (bnd_rem (bnd_and i3 (65535 : Int32) (by decide)) (by decide +kernel) (by decide +kernel)))
  obtain ⟨d5, h5, e5⟩ := own_rem58 (show ¬ v7 < (0 : Int32) ∧ ¬ (57 : Int32) < v7 by rw [hv7]; exact (bnd_rem (bnd_ushr i3 (k := 16) (hi := (65535 : Int32)) (by decide +kernel) (by decide +kernel)) (by decide +kernel) (by decide +kernel)))
  have hV : v261 = Int64.ofNat (own_fold [d0, d1, d2, d3, d4, d5] 0) := by rw [hv261, e0, e1, e2, e3, e4, e5, own_i64 d0 h0, own_i64 d1 h1, own_i64 d2 h2, own_i64 d3 h3, own_i64 d4 h4, own_i64 d5 h5]; simp only [own_fold, Nat.zero_mul, Nat.zero_add, Int64.ofNat_add, Int64.ofNat_mul] <;> rfl
  have hz : r8 = Int32.ofNat (own_lz [d0, d1, d2, d3, d4, d5]) := by rw [hr8, e0, e1, e2, e3, e4, e5]; exact own_zf6 h0 h1 h2 h3 h4 h5
  have q := own_all [d0, d1, d2, d3, d4, d5] (by simp [h0, h1, h2, h3, h4, h5]) (by simp) (l := [r1, r2, r3, r4, r5, r6]) (by rw [hr1, hr2, hr3, hr4, hr5, hr6, e0, e1, e2, e3, e4, e5]; rfl) hV hz
  rw [hr7, hr9]
  exact q.1
theorem own_end6 (i1 : Int32) (v2 : Int32) (hv2 : v2 = ((i1 &&& (65535 : Int32)) % (58 : Int32))) (r1 : Int32) (hr1 : r1 = ((nar .char ((own_at own_TI0 v2) &&& (255 : Int32))).toInt8.toInt32)) (r2 : List Int32) (hr2 : r2 = (own_dec [r1])) (r3 : Int32) (hr3 : r3 = (f_rm8_1 v2)) (r4 : Int32) (hr4 : r4 = (f_rm10_1 (v2.toInt64))) (r5 : Int32) (hr5 : r5 = (f_rm11_1 (0 : Int32) r3 r4 (v2.toInt64) r2)) (v65 : Int32) (hv65 : v65 = (if r5 = (0 : Int32) then (0 : Int32) else (if (f_rm11_1 (1 : Int32) r3 r4 (v2.toInt64) r2) = (0 : Int32) then (0 : Int32) else (if (f_rm11_1 (2 : Int32) r3 r4 (v2.toInt64) r2) = (0 : Int32) then (0 : Int32) else (if (f_rm11_1 (3 : Int32) r3 r4 (v2.toInt64) r2) = (0 : Int32) then (0 : Int32) else (if (f_rm11_1 (4 : Int32) r3 r4 (v2.toInt64) r2) = (0 : Int32) then (0 : Int32) else (if (f_rm11_1 (5 : Int32) r3 r4 (v2.toInt64) r2) = (0 : Int32) then (0 : Int32) else (1 : Int32)))))))) : nar .boolean v65 = (1 : Int32) := by
  obtain ⟨d0, h0, e0⟩ := own_rem58 (show ¬ v2 < (0 : Int32) ∧ ¬ (57 : Int32) < v2 by rw [hv2]; exact (bnd_rem (bnd_and i1 (65535 : Int32) (by decide)) (by decide +kernel) (by decide +kernel)))
  have hV : (v2.toInt64) = Int64.ofNat (own_fold [d0] 0) := by rw [e0, own_i64 d0 h0]; simp only [own_fold, Nat.zero_mul, Nat.zero_add, Int64.ofNat_add, Int64.ofNat_mul] <;> rfl
  have hz : r3 = Int32.ofNat (own_lz [d0]) := by rw [hr3, e0]; exact own_zf1 h0
  have q := own_all [d0] (by simp [h0]) (by simp) (l := [r1]) (by rw [hr1, e0]; rfl) hV hz
  have z0 : (f_rm11_1 (0 : Int32) r3 r4 (v2.toInt64) r2) = 1 := by rw [hr2, hr4]; exact q.2 0 (by decide)
  have z1 : (f_rm11_1 (1 : Int32) r3 r4 (v2.toInt64) r2) = 1 := by rw [hr2, hr4]; exact q.2 1 (by decide)
  have z2 : (f_rm11_1 (2 : Int32) r3 r4 (v2.toInt64) r2) = 1 := by rw [hr2, hr4]; exact q.2 2 (by decide)
  have z3 : (f_rm11_1 (3 : Int32) r3 r4 (v2.toInt64) r2) = 1 := by rw [hr2, hr4]; exact q.2 3 (by decide)
  have z4 : (f_rm11_1 (4 : Int32) r3 r4 (v2.toInt64) r2) = 1 := by rw [hr2, hr4]; exact q.2 4 (by decide)
  have z5 : (f_rm11_1 (5 : Int32) r3 r4 (v2.toInt64) r2) = 1 := by rw [hr2, hr4]; exact q.2 5 (by decide)
  rw [hv65, hr5]
  simp only [z0, z1, z2, z3, z4, z5]
  decide
theorem own_end7 (i1 : Int32) (v2 : Int32) (hv2 : v2 = ((i1 &&& (65535 : Int32)) % (58 : Int32))) (v3 : Int32) (hv3 : v3 = (((i1.toUInt32 >>> ((16 : Int32) &&& 31).toUInt32).toInt32) % (58 : Int32))) (r1 : Int32) (hr1 : r1 = ((nar .char ((own_at own_TI0 v2) &&& (255 : Int32))).toInt8.toInt32)) (r2 : Int32) (hr2 : r2 = ((nar .char ((own_at own_TI0 v3) &&& (255 : Int32))).toInt8.toInt32)) (r3 : List Int32) (hr3 : r3 = (own_dec [r1, r2])) (r4 : Int32) (hr4 : r4 = (f_rm8_2 v2 v3)) (v78 : Int64) (hv78 : v78 = (((v2.toInt64) * (58 : Int64)) + (v3.toInt64))) (r5 : Int32) (hr5 : r5 = (f_rm10_1 v78)) (r6 : Int32) (hr6 : r6 = (f_rm11_1 (0 : Int32) r4 r5 v78 r3)) (v109 : Int32) (hv109 : v109 = (if r6 = (0 : Int32) then (0 : Int32) else (if (f_rm11_1 (1 : Int32) r4 r5 v78 r3) = (0 : Int32) then (0 : Int32) else (if (f_rm11_1 (2 : Int32) r4 r5 v78 r3) = (0 : Int32) then (0 : Int32) else (if (f_rm11_1 (3 : Int32) r4 r5 v78 r3) = (0 : Int32) then (0 : Int32) else (if (f_rm11_1 (4 : Int32) r4 r5 v78 r3) = (0 : Int32) then (0 : Int32) else (if (f_rm11_1 (5 : Int32) r4 r5 v78 r3) = (0 : Int32) then (0 : Int32) else (1 : Int32)))))))) : nar .boolean v109 = (1 : Int32) := by
  obtain ⟨d0, h0, e0⟩ := own_rem58 (show ¬ v2 < (0 : Int32) ∧ ¬ (57 : Int32) < v2 by rw [hv2]; exact (bnd_rem (bnd_and i1 (65535 : Int32) (by decide)) (by decide +kernel) (by decide +kernel)))
  obtain ⟨d1, h1, e1⟩ := own_rem58 (show ¬ v3 < (0 : Int32) ∧ ¬ (57 : Int32) < v3 by rw [hv3]; exact (bnd_rem (bnd_ushr i1 (k := 16) (hi := (65535 : Int32)) (by decide +kernel) (by decide +kernel)) (by decide +kernel) (by decide +kernel)))
  have hV : v78 = Int64.ofNat (own_fold [d0, d1] 0) := by rw [hv78, e0, e1, own_i64 d0 h0, own_i64 d1 h1]; simp only [own_fold, Nat.zero_mul, Nat.zero_add, Int64.ofNat_add, Int64.ofNat_mul] <;> rfl
  have hz : r4 = Int32.ofNat (own_lz [d0, d1]) := by rw [hr4, e0, e1]; exact own_zf2 h0 h1
  have q := own_all [d0, d1] (by simp [h0, h1]) (by simp) (l := [r1, r2]) (by rw [hr1, hr2, e0, e1]; rfl) hV hz
  have z0 : (f_rm11_1 (0 : Int32) r4 r5 v78 r3) = 1 := by rw [hr3, hr5]; exact q.2 0 (by decide)
  have z1 : (f_rm11_1 (1 : Int32) r4 r5 v78 r3) = 1 := by rw [hr3, hr5]; exact q.2 1 (by decide)
  have z2 : (f_rm11_1 (2 : Int32) r4 r5 v78 r3) = 1 := by rw [hr3, hr5]; exact q.2 2 (by decide)
  have z3 : (f_rm11_1 (3 : Int32) r4 r5 v78 r3) = 1 := by rw [hr3, hr5]; exact q.2 3 (by decide)
  have z4 : (f_rm11_1 (4 : Int32) r4 r5 v78 r3) = 1 := by rw [hr3, hr5]; exact q.2 4 (by decide)
  have z5 : (f_rm11_1 (5 : Int32) r4 r5 v78 r3) = 1 := by rw [hr3, hr5]; exact q.2 5 (by decide)
  rw [hv109, hr6]
  simp only [z0, z1, z2, z3, z4, z5]
  decide
theorem own_end8 (i1 : Int32) (i2 : Int32) (v2 : Int32) (hv2 : v2 = ((i1 &&& (65535 : Int32)) % (58 : Int32))) (v3 : Int32) (hv3 : v3 = (((i1.toUInt32 >>> ((16 : Int32) &&& 31).toUInt32).toInt32) % (58 : Int32))) (v4 : Int32) (hv4 : v4 = ((i2 &&& (65535 : Int32)) % (58 : Int32))) (r1 : Int32) (hr1 : r1 = ((nar .char ((own_at own_TI0 v2) &&& (255 : Int32))).toInt8.toInt32)) (r2 : Int32) (hr2 : r2 = ((nar .char ((own_at own_TI0 v3) &&& (255 : Int32))).toInt8.toInt32)) (r3 : Int32) (hr3 : r3 = ((nar .char ((own_at own_TI0 v4) &&& (255 : Int32))).toInt8.toInt32)) (r4 : List Int32) (hr4 : r4 = (own_dec [r1, r2, r3])) (r5 : Int32) (hr5 : r5 = (f_rm8_3 v2 v3 v4)) (v123 : Int64) (hv123 : v123 = (((((v2.toInt64) * (58 : Int64)) + (v3.toInt64)) * (58 : Int64)) + (v4.toInt64))) (r6 : Int32) (hr6 : r6 = (f_rm10_1 v123)) (r7 : Int32) (hr7 : r7 = (f_rm11_1 (0 : Int32) r5 r6 v123 r4)) (v154 : Int32) (hv154 : v154 = (if r7 = (0 : Int32) then (0 : Int32) else (if (f_rm11_1 (1 : Int32) r5 r6 v123 r4) = (0 : Int32) then (0 : Int32) else (if (f_rm11_1 (2 : Int32) r5 r6 v123 r4) = (0 : Int32) then (0 : Int32) else (if (f_rm11_1 (3 : Int32) r5 r6 v123 r4) = (0 : Int32) then (0 : Int32) else (if (f_rm11_1 (4 : Int32) r5 r6 v123 r4) = (0 : Int32) then (0 : Int32) else (if (f_rm11_1 (5 : Int32) r5 r6 v123 r4) = (0 : Int32) then (0 : Int32) else (1 : Int32)))))))) : nar .boolean v154 = (1 : Int32) := by
  obtain ⟨d0, h0, e0⟩ := own_rem58 (show ¬ v2 < (0 : Int32) ∧ ¬ (57 : Int32) < v2 by rw [hv2]; exact (bnd_rem (bnd_and i1 (65535 : Int32) (by decide)) (by decide +kernel) (by decide +kernel)))
  obtain ⟨d1, h1, e1⟩ := own_rem58 (show ¬ v3 < (0 : Int32) ∧ ¬ (57 : Int32) < v3 by rw [hv3]; exact (bnd_rem (bnd_ushr i1 (k := 16) (hi := (65535 : Int32)) (by decide +kernel) (by decide +kernel)) (by decide +kernel) (by decide +kernel)))
  obtain ⟨d2, h2, e2⟩ := own_rem58 (show ¬ v4 < (0 : Int32) ∧ ¬ (57 : Int32) < v4 by rw [hv4]; exact (bnd_rem (bnd_and i2 (65535 : Int32) (by decide)) (by decide +kernel) (by decide +kernel)))
  have hV : v123 = Int64.ofNat (own_fold [d0, d1, d2] 0) := by rw [hv123, e0, e1, e2, own_i64 d0 h0, own_i64 d1 h1, own_i64 d2 h2]; simp only [own_fold, Nat.zero_mul, Nat.zero_add, Int64.ofNat_add, Int64.ofNat_mul] <;> rfl
  have hz : r5 = Int32.ofNat (own_lz [d0, d1, d2]) := by rw [hr5, e0, e1, e2]; exact own_zf3 h0 h1 h2
  have q := own_all [d0, d1, d2] (by simp [h0, h1, h2]) (by simp) (l := [r1, r2, r3]) (by rw [hr1, hr2, hr3, e0, e1, e2]; rfl) hV hz
  have z0 : (f_rm11_1 (0 : Int32) r5 r6 v123 r4) = 1 := by rw [hr4, hr6]; exact q.2 0 (by decide)
  have z1 : (f_rm11_1 (1 : Int32) r5 r6 v123 r4) = 1 := by rw [hr4, hr6]; exact q.2 1 (by decide)
  have z2 : (f_rm11_1 (2 : Int32) r5 r6 v123 r4) = 1 := by rw [hr4, hr6]; exact q.2 2 (by decide)
  have z3 : (f_rm11_1 (3 : Int32) r5 r6 v123 r4) = 1 := by rw [hr4, hr6]; exact q.2 3 (by decide)
  have z4 : (f_rm11_1 (4 : Int32) r5 r6 v123 r4) = 1 := by rw [hr4, hr6]; exact q.2 4 (by decide)
  have z5 : (f_rm11_1 (5 : Int32) r5 r6 v123 r4) = 1 := by rw [hr4, hr6]; exact q.2 5 (by decide)
  rw [hv154, hr7]
  simp only [z0, z1, z2, z3, z4, z5]
  decide
theorem own_end9 (i1 : Int32) (i2 : Int32) (v2 : Int32) (hv2 : v2 = ((i1 &&& (65535 : Int32)) % (58 : Int32))) (v3 : Int32) (hv3 : v3 = (((i1.toUInt32 >>> ((16 : Int32) &&& 31).toUInt32).toInt32) % (58 : Int32))) (v4 : Int32) (hv4 : v4 = ((i2 &&& (65535 : Int32)) % (58 : Int32))) (v5 : Int32) (hv5 : v5 = (((i2.toUInt32 >>> ((16 : Int32) &&& 31).toUInt32).toInt32) % (58 : Int32))) (r1 : Int32) (hr1 : r1 = ((nar .char ((own_at own_TI0 v2) &&& (255 : Int32))).toInt8.toInt32)) (r2 : Int32) (hr2 : r2 = ((nar .char ((own_at own_TI0 v3) &&& (255 : Int32))).toInt8.toInt32)) (r3 : Int32) (hr3 : r3 = ((nar .char ((own_at own_TI0 v4) &&& (255 : Int32))).toInt8.toInt32)) (r4 : Int32) (hr4 : r4 = ((nar .char ((own_at own_TI0 v5) &&& (255 : Int32))).toInt8.toInt32)) (r5 : List Int32) (hr5 : r5 = (own_dec [r1, r2, r3, r4])) (r6 : Int32) (hr6 : r6 = (f_rm8_4 v2 v3 v4 v5)) (v169 : Int64) (hv169 : v169 = (((((((v2.toInt64) * (58 : Int64)) + (v3.toInt64)) * (58 : Int64)) + (v4.toInt64)) * (58 : Int64)) + (v5.toInt64))) (r7 : Int32) (hr7 : r7 = (f_rm10_1 v169)) (r8 : Int32) (hr8 : r8 = (f_rm11_1 (0 : Int32) r6 r7 v169 r5)) (v200 : Int32) (hv200 : v200 = (if r8 = (0 : Int32) then (0 : Int32) else (if (f_rm11_1 (1 : Int32) r6 r7 v169 r5) = (0 : Int32) then (0 : Int32) else (if (f_rm11_1 (2 : Int32) r6 r7 v169 r5) = (0 : Int32) then (0 : Int32) else (if (f_rm11_1 (3 : Int32) r6 r7 v169 r5) = (0 : Int32) then (0 : Int32) else (if (f_rm11_1 (4 : Int32) r6 r7 v169 r5) = (0 : Int32) then (0 : Int32) else (if (f_rm11_1 (5 : Int32) r6 r7 v169 r5) = (0 : Int32) then (0 : Int32) else (1 : Int32)))))))) : nar .boolean v200 = (1 : Int32) := by
  obtain ⟨d0, h0, e0⟩ := own_rem58 (show ¬ v2 < (0 : Int32) ∧ ¬ (57 : Int32) < v2 by rw [hv2]; exact (bnd_rem (bnd_and i1 (65535 : Int32) (by decide)) (by decide +kernel) (by decide +kernel)))
  obtain ⟨d1, h1, e1⟩ := own_rem58 (show ¬ v3 < (0 : Int32) ∧ ¬ (57 : Int32) < v3 by rw [hv3]; exact (bnd_rem (bnd_ushr i1 (k := 16) (hi := (65535 : Int32)) (by decide +kernel) (by decide +kernel)) (by decide +kernel) (by decide +kernel)))
  obtain ⟨d2, h2, e2⟩ := own_rem58 (show ¬ v4 < (0 : Int32) ∧ ¬ (57 : Int32) < v4 by rw [hv4]; exact (bnd_rem (bnd_and i2 (65535 : Int32) (by decide)) (by decide +kernel) (by decide +kernel)))
  obtain ⟨d3, h3, e3⟩ := own_rem58 (show ¬ v5 < (0 : Int32) ∧ ¬ (57 : Int32) < v5 by rw [hv5]; exact (bnd_rem (bnd_ushr i2 (k := 16) (hi := (65535 : Int32)) (by decide +kernel) (by decide +kernel)) (by decide +kernel) (by decide +kernel)))
  have hV : v169 = Int64.ofNat (own_fold [d0, d1, d2, d3] 0) := by rw [hv169, e0, e1, e2, e3, own_i64 d0 h0, own_i64 d1 h1, own_i64 d2 h2, own_i64 d3 h3]; simp only [own_fold, Nat.zero_mul, Nat.zero_add, Int64.ofNat_add, Int64.ofNat_mul] <;> rfl
  have hz : r6 = Int32.ofNat (own_lz [d0, d1, d2, d3]) := by rw [hr6, e0, e1, e2, e3]; exact own_zf4 h0 h1 h2 h3
  have q := own_all [d0, d1, d2, d3] (by simp [h0, h1, h2, h3]) (by simp) (l := [r1, r2, r3, r4]) (by rw [hr1, hr2, hr3, hr4, e0, e1, e2, e3]; rfl) hV hz
  have z0 : (f_rm11_1 (0 : Int32) r6 r7 v169 r5) = 1 := by rw [hr5, hr7]; exact q.2 0 (by decide)
  have z1 : (f_rm11_1 (1 : Int32) r6 r7 v169 r5) = 1 := by rw [hr5, hr7]; exact q.2 1 (by decide)
  have z2 : (f_rm11_1 (2 : Int32) r6 r7 v169 r5) = 1 := by rw [hr5, hr7]; exact q.2 2 (by decide)
  have z3 : (f_rm11_1 (3 : Int32) r6 r7 v169 r5) = 1 := by rw [hr5, hr7]; exact q.2 3 (by decide)
  have z4 : (f_rm11_1 (4 : Int32) r6 r7 v169 r5) = 1 := by rw [hr5, hr7]; exact q.2 4 (by decide)
  have z5 : (f_rm11_1 (5 : Int32) r6 r7 v169 r5) = 1 := by rw [hr5, hr7]; exact q.2 5 (by decide)
  rw [hv200, hr8]
  simp only [z0, z1, z2, z3, z4, z5]
  decide
theorem own_end10 (i1 : Int32) (i2 : Int32) (i3 : Int32) (v2 : Int32) (hv2 : v2 = ((i1 &&& (65535 : Int32)) % (58 : Int32))) (v3 : Int32) (hv3 : v3 = (((i1.toUInt32 >>> ((16 : Int32) &&& 31).toUInt32).toInt32) % (58 : Int32))) (v4 : Int32) (hv4 : v4 = ((i2 &&& (65535 : Int32)) % (58 : Int32))) (v5 : Int32) (hv5 : v5 = (((i2.toUInt32 >>> ((16 : Int32) &&& 31).toUInt32).toInt32) % (58 : Int32))) (v6 : Int32) (hv6 : v6 = ((i3 &&& (65535 : Int32)) % (58 : Int32))) (r1 : Int32) (hr1 : r1 = ((nar .char ((own_at own_TI0 v2) &&& (255 : Int32))).toInt8.toInt32)) (r2 : Int32) (hr2 : r2 = ((nar .char ((own_at own_TI0 v3) &&& (255 : Int32))).toInt8.toInt32)) (r3 : Int32) (hr3 : r3 = ((nar .char ((own_at own_TI0 v4) &&& (255 : Int32))).toInt8.toInt32)) (r4 : Int32) (hr4 : r4 = ((nar .char ((own_at own_TI0 v5) &&& (255 : Int32))).toInt8.toInt32)) (r5 : Int32) (hr5 : r5 = ((nar .char ((own_at own_TI0 v6) &&& (255 : Int32))).toInt8.toInt32)) (r6 : List Int32) (hr6 : r6 = (own_dec [r1, r2, r3, r4, r5])) (r7 : Int32) (hr7 : r7 = (f_rm8_5 v2 v3 v4 v5 v6)) (v217 : Int64) (hv217 : v217 = (((((((((v2.toInt64) * (58 : Int64)) + (v3.toInt64)) * (58 : Int64)) + (v4.toInt64)) * (58 : Int64)) + (v5.toInt64)) * (58 : Int64)) + (v6.toInt64))) (r8 : Int32) (hr8 : r8 = (f_rm10_1 v217)) (r9 : Int32) (hr9 : r9 = (f_rm11_1 (0 : Int32) r7 r8 v217 r6)) (v248 : Int32) (hv248 : v248 = (if r9 = (0 : Int32) then (0 : Int32) else (if (f_rm11_1 (1 : Int32) r7 r8 v217 r6) = (0 : Int32) then (0 : Int32) else (if (f_rm11_1 (2 : Int32) r7 r8 v217 r6) = (0 : Int32) then (0 : Int32) else (if (f_rm11_1 (3 : Int32) r7 r8 v217 r6) = (0 : Int32) then (0 : Int32) else (if (f_rm11_1 (4 : Int32) r7 r8 v217 r6) = (0 : Int32) then (0 : Int32) else (if (f_rm11_1 (5 : Int32) r7 r8 v217 r6) = (0 : Int32) then (0 : Int32) else (1 : Int32)))))))) : nar .boolean v248 = (1 : Int32) := by
  obtain ⟨d0, h0, e0⟩ := own_rem58 (show ¬ v2 < (0 : Int32) ∧ ¬ (57 : Int32) < v2 by rw [hv2]; exact (bnd_rem (bnd_and i1 (65535 : Int32) (by decide)) (by decide +kernel) (by decide +kernel)))
  obtain ⟨d1, h1, e1⟩ := own_rem58 (show ¬ v3 < (0 : Int32) ∧ ¬ (57 : Int32) < v3 by rw [hv3]; exact (bnd_rem (bnd_ushr i1 (k := 16) (hi := (65535 : Int32)) (by decide +kernel) (by decide +kernel)) (by decide +kernel) (by decide +kernel)))
  obtain ⟨d2, h2, e2⟩ := own_rem58 (show ¬ v4 < (0 : Int32) ∧ ¬ (57 : Int32) < v4 by rw [hv4]; exact (bnd_rem (bnd_and i2 (65535 : Int32) (by decide)) (by decide +kernel) (by decide +kernel)))
  obtain ⟨d3, h3, e3⟩ := own_rem58 (show ¬ v5 < (0 : Int32) ∧ ¬ (57 : Int32) < v5 by rw [hv5]; exact (bnd_rem (bnd_ushr i2 (k := 16) (hi := (65535 : Int32)) (by decide +kernel) (by decide +kernel)) (by decide +kernel) (by decide +kernel)))
  obtain ⟨d4, h4, e4⟩ := own_rem58 (show ¬ v6 < (0 : Int32) ∧ ¬ (57 : Int32) < v6 by rw [hv6]; exact (bnd_rem (bnd_and i3 (65535 : Int32) (by decide)) (by decide +kernel) (by decide +kernel)))
  have hV : v217 = Int64.ofNat (own_fold [d0, d1, d2, d3, d4] 0) := by rw [hv217, e0, e1, e2, e3, e4, own_i64 d0 h0, own_i64 d1 h1, own_i64 d2 h2, own_i64 d3 h3, own_i64 d4 h4]; simp only [own_fold, Nat.zero_mul, Nat.zero_add, Int64.ofNat_add, Int64.ofNat_mul] <;> rfl
  have hz : r7 = Int32.ofNat (own_lz [d0, d1, d2, d3, d4]) := by rw [hr7, e0, e1, e2, e3, e4]; exact own_zf5 h0 h1 h2 h3 h4
  have q := own_all [d0, d1, d2, d3, d4] (by simp [h0, h1, h2, h3, h4]) (by simp) (l := [r1, r2, r3, r4, r5]) (by rw [hr1, hr2, hr3, hr4, hr5, e0, e1, e2, e3, e4]; rfl) hV hz
  have z0 : (f_rm11_1 (0 : Int32) r7 r8 v217 r6) = 1 := by rw [hr6, hr8]; exact q.2 0 (by decide)
  have z1 : (f_rm11_1 (1 : Int32) r7 r8 v217 r6) = 1 := by rw [hr6, hr8]; exact q.2 1 (by decide)
  have z2 : (f_rm11_1 (2 : Int32) r7 r8 v217 r6) = 1 := by rw [hr6, hr8]; exact q.2 2 (by decide)
  have z3 : (f_rm11_1 (3 : Int32) r7 r8 v217 r6) = 1 := by rw [hr6, hr8]; exact q.2 3 (by decide)
  have z4 : (f_rm11_1 (4 : Int32) r7 r8 v217 r6) = 1 := by rw [hr6, hr8]; exact q.2 4 (by decide)
  have z5 : (f_rm11_1 (5 : Int32) r7 r8 v217 r6) = 1 := by rw [hr6, hr8]; exact q.2 5 (by decide)
  rw [hv248, hr9]
  simp only [z0, z1, z2, z3, z4, z5]
  decide
theorem own_end11 (i1 : Int32) (i2 : Int32) (i3 : Int32) (v2 : Int32) (hv2 : v2 = ((i1 &&& (65535 : Int32)) % (58 : Int32))) (v3 : Int32) (hv3 : v3 = (((i1.toUInt32 >>> ((16 : Int32) &&& 31).toUInt32).toInt32) % (58 : Int32))) (v4 : Int32) (hv4 : v4 = ((i2 &&& (65535 : Int32)) % (58 : Int32))) (v5 : Int32) (hv5 : v5 = (((i2.toUInt32 >>> ((16 : Int32) &&& 31).toUInt32).toInt32) % (58 : Int32))) (v6 : Int32) (hv6 : v6 = ((i3 &&& (65535 : Int32)) % (58 : Int32))) (v7 : Int32) (hv7 : v7 = (((i3.toUInt32 >>> ((16 : Int32) &&& 31).toUInt32).toInt32) % (58 : Int32))) (r1 : Int32) (hr1 : r1 = ((nar .char ((own_at own_TI0 v2) &&& (255 : Int32))).toInt8.toInt32)) (r2 : Int32) (hr2 : r2 = ((nar .char ((own_at own_TI0 v3) &&& (255 : Int32))).toInt8.toInt32)) (r3 : Int32) (hr3 : r3 = ((nar .char ((own_at own_TI0 v4) &&& (255 : Int32))).toInt8.toInt32)) (r4 : Int32) (hr4 : r4 = ((nar .char ((own_at own_TI0 v5) &&& (255 : Int32))).toInt8.toInt32)) (r5 : Int32) (hr5 : r5 = ((nar .char ((own_at own_TI0 v6) &&& (255 : Int32))).toInt8.toInt32)) (r6 : Int32) (hr6 : r6 = ((nar .char ((own_at own_TI0 v7) &&& (255 : Int32))).toInt8.toInt32)) (r7 : List Int32) (hr7 : r7 = (own_dec [r1, r2, r3, r4, r5, r6])) (r8 : Int32) (hr8 : r8 = (f_rm8_6 v2 v3 v4 v5 v6 v7)) (v261 : Int64) (hv261 : v261 = (((((((((((v2.toInt64) * (58 : Int64)) + (v3.toInt64)) * (58 : Int64)) + (v4.toInt64)) * (58 : Int64)) + (v5.toInt64)) * (58 : Int64)) + (v6.toInt64)) * (58 : Int64)) + (v7.toInt64))) (r9 : Int32) (hr9 : r9 = (f_rm10_1 v261)) (r10 : Int32) (hr10 : r10 = (f_rm11_1 (0 : Int32) r8 r9 v261 r7)) (v292 : Int32) (hv292 : v292 = (if r10 = (0 : Int32) then (0 : Int32) else (if (f_rm11_1 (1 : Int32) r8 r9 v261 r7) = (0 : Int32) then (0 : Int32) else (if (f_rm11_1 (2 : Int32) r8 r9 v261 r7) = (0 : Int32) then (0 : Int32) else (if (f_rm11_1 (3 : Int32) r8 r9 v261 r7) = (0 : Int32) then (0 : Int32) else (if (f_rm11_1 (4 : Int32) r8 r9 v261 r7) = (0 : Int32) then (0 : Int32) else (if (f_rm11_1 (5 : Int32) r8 r9 v261 r7) = (0 : Int32) then (0 : Int32) else (1 : Int32)))))))) : nar .boolean v292 = (1 : Int32) := by
  obtain ⟨d0, h0, e0⟩ := own_rem58 (show ¬ v2 < (0 : Int32) ∧ ¬ (57 : Int32) < v2 by rw [hv2]; exact (bnd_rem (bnd_and i1 (65535 : Int32) (by decide)) (by decide +kernel) (by decide +kernel)))
  obtain ⟨d1, h1, e1⟩ := own_rem58 (show ¬ v3 < (0 : Int32) ∧ ¬ (57 : Int32) < v3 by rw [hv3]; exact (bnd_rem (bnd_ushr i1 (k := 16) (hi := (65535 : Int32)) (by decide +kernel) (by decide +kernel)) (by decide +kernel) (by decide +kernel)))
  obtain ⟨d2, h2, e2⟩ := own_rem58 (show ¬ v4 < (0 : Int32) ∧ ¬ (57 : Int32) < v4 by rw [hv4]; exact (bnd_rem (bnd_and i2 (65535 : Int32) (by decide)) (by decide +kernel) (by decide +kernel)))
  obtain ⟨d3, h3, e3⟩ := own_rem58 (show ¬ v5 < (0 : Int32) ∧ ¬ (57 : Int32) < v5 by rw [hv5]; exact (bnd_rem (bnd_ushr i2 (k := 16) (hi := (65535 : Int32)) (by decide +kernel) (by decide +kernel)) (by decide +kernel) (by decide +kernel)))
  obtain ⟨d4, h4, e4⟩ := own_rem58 (show ¬ v6 < (0 : Int32) ∧ ¬ (57 : Int32) < v6 by rw [hv6]; exact (bnd_rem (bnd_and i3 (65535 : Int32) (by decide)) (by decide +kernel) (by decide +kernel)))
  obtain ⟨d5, h5, e5⟩ := own_rem58 (show ¬ v7 < (0 : Int32) ∧ ¬ (57 : Int32) < v7 by rw [hv7]; exact (bnd_rem (bnd_ushr i3 (k := 16) (hi := (65535 : Int32)) (by decide +kernel) (by decide +kernel)) (by decide +kernel) (by decide +kernel)))
  have hV : v261 = Int64.ofNat (own_fold [d0, d1, d2, d3, d4, d5] 0) := by rw [hv261, e0, e1, e2, e3, e4, e5, own_i64 d0 h0, own_i64 d1 h1, own_i64 d2 h2, own_i64 d3 h3, own_i64 d4 h4, own_i64 d5 h5]; simp only [own_fold, Nat.zero_mul, Nat.zero_add, Int64.ofNat_add, Int64.ofNat_mul] <;> rfl
  have hz : r8 = Int32.ofNat (own_lz [d0, d1, d2, d3, d4, d5]) := by rw [hr8, e0, e1, e2, e3, e4, e5]; exact own_zf6 h0 h1 h2 h3 h4 h5
  have q := own_all [d0, d1, d2, d3, d4, d5] (by simp [h0, h1, h2, h3, h4, h5]) (by simp) (l := [r1, r2, r3, r4, r5, r6]) (by rw [hr1, hr2, hr3, hr4, hr5, hr6, e0, e1, e2, e3, e4, e5]; rfl) hV hz
  have z0 : (f_rm11_1 (0 : Int32) r8 r9 v261 r7) = 1 := by rw [hr7, hr9]; exact q.2 0 (by decide)
  have z1 : (f_rm11_1 (1 : Int32) r8 r9 v261 r7) = 1 := by rw [hr7, hr9]; exact q.2 1 (by decide)
  have z2 : (f_rm11_1 (2 : Int32) r8 r9 v261 r7) = 1 := by rw [hr7, hr9]; exact q.2 2 (by decide)
  have z3 : (f_rm11_1 (3 : Int32) r8 r9 v261 r7) = 1 := by rw [hr7, hr9]; exact q.2 3 (by decide)
  have z4 : (f_rm11_1 (4 : Int32) r8 r9 v261 r7) = 1 := by rw [hr7, hr9]; exact q.2 4 (by decide)
  have z5 : (f_rm11_1 (5 : Int32) r8 r9 v261 r7) = 1 := by rw [hr7, hr9]; exact q.2 5 (by decide)
  rw [hv292, hr10]
  simp only [z0, z1, z2, z3, z4, z5]
  decide
theorem rm0 (l : Launch) (Z : State) (a0 : Array Value) (hw : HW a0 Z) (ws : List Jvm.Cond) (i0 i1 i2 i3 sv_COMPACT_STRINGS : Int32) (sv_SIOOBE_FORMATTER : Value) (h0 : Heap) (n0 : Nat) (O0 : Old Z n0 h0) (S_COMPACT_STRINGS : Sta Z Z.heap "java/lang/String" "COMPACT_STRINGS" "Z" (.int sv_COMPACT_STRINGS)) (hCS : ¬ (sv_COMPACT_STRINGS = (0 : Int32))) (S_SIOOBE_FORMATTER : Sta Z Z.heap "jdk/internal/util/Preconditions" "SIOOBE_FORMATTER" "Ljava/util/function/BiFunction;" sv_SIOOBE_FORMATTER) (isr_sv_SIOOBE_FORMATTER : sv_SIOOBE_FORMATTER.isRef = true) :
    ConW l Z own_EL ([] : List Addr) false x code maxLocals ret ws room_1 #[(.int i0), (.int i1), (.int i2), (.int i3)] h0 (fun v h L => v = some (.int 1) ∧ Fr n0 L) := by
 refine own_bodyW (plainFor_of_name own_pn1) (fun m => ef_rm0 m i0 i1 i2 i3) ?_
 intro p e s m below meth c s₁ hx hby hlk hml hret hZ hown hnm X0 e0 Cd0
 have N0 := Fr.nil n0
 refine Home.run X0 hx hby sg0_0_1 (pc' := 1) (L' := #[si i0, si i1, si i2, si i3, un, un, un, un, un, un, un, un, un, un, un, un, un]) (S' := [(.int i0)]) rfl ?_
 refine Home.go (X0.ldcInt hx hown (mvT hZ (own_w0 hw)) rfl (hb hby at_1)) ?_
 refine Home.run X0 hx hby sg0_3_2 (pc' := 6) (L' := #[si i0, si i1, si i2, si i3, un, un, un, un, un, un, un, un, un, un, un, un, un]) (S' := [(.int 7), (.int (i0 &&& (2147483647 : Int32)))]) rfl ?_
 refine Home.go (fun _ => iremM X0 hx rfl (hb hby at_6) rfl (by decide)) ?_
 refine Home.run X0 hx hby sg0_7_1 (pc' := 9) (L' := #[si i0, si i1, si i2, si i3, .val (.int ((i0 &&& (2147483647 : Int32)) % (7 : Int32))), un, un, un, un, un, un, un, un, un, un, un, un]) (S' := []) rfl ?_
 obtain ⟨v1, hv1⟩ : ∃ z, z = ((i0 &&& (2147483647 : Int32)) % (7 : Int32)) := ⟨_, rfl⟩
 rw [← hv1]
 have bv1 : ¬ v1 < (0 : Int32) ∧ ¬ (6 : Int32) < v1 := by rw [hv1]; exact (bnd_rem (bnd_and i0 (2147483647 : Int32) (by decide)) (by decide +kernel) (by decide +kernel))
 refine Home.run X0 hx hby sg0_9_1 (pc' := 10) (L' := #[si i0, si i1, si i2, si i3, si v1, un, un, un, un, un, un, un, un, un, un, un, un]) (S' := [(.int i1)]) rfl ?_
 refine Home.go (X0.ldcInt hx hown (mvT hZ (own_w1 hw)) rfl (hb hby at_10)) ?_
 refine Home.run X0 hx hby sg0_12_2 (pc' := 15) (L' := #[si i0, si i1, si i2, si i3, si v1, un, un, un, un, un, un, un, un, un, un, un, un]) (S' := [(.int 58), (.int (i1 &&& (65535 : Int32)))]) rfl ?_
 refine Home.go (fun _ => iremM X0 hx rfl (hb hby at_15) rfl (by decide)) ?_
 refine Home.run X0 hx hby sg0_16_1 (pc' := 18) (L' := #[si i0, si i1, si i2, si i3, si v1, .val (.int ((i1 &&& (65535 : Int32)) % (58 : Int32))), un, un, un, un, un, un, un, un, un, un, un]) (S' := []) rfl ?_
 obtain ⟨v2, hv2⟩ : ∃ z, z = ((i1 &&& (65535 : Int32)) % (58 : Int32)) := ⟨_, rfl⟩
 rw [← hv2]
 have bv2 : ¬ v2 < (0 : Int32) ∧ ¬ (57 : Int32) < v2 := by rw [hv2]; exact (bnd_rem (bnd_and i1 (65535 : Int32) (by decide)) (by decide +kernel) (by decide +kernel))
 refine Home.run X0 hx hby sg0_18_4 (pc' := 24) (L' := #[si i0, si i1, si i2, si i3, si v1, si v2, un, un, un, un, un, un, un, un, un, un, un]) (S' := [(.int 58), (.int ((i1.toUInt32 >>> ((16 : Int32) &&& 31).toUInt32).toInt32))]) rfl ?_
 refine Home.go (fun _ => iremM X0 hx rfl (hb hby at_24) rfl (by decide)) ?_
 show Home s₁ (mkF m 25 #[si i0, si i1, si i2, si i3, si v1, si v2, un, un, un, un, un, un, un, un, un, un, un] [(.int (((i1.toUInt32 >>> ((16 : Int32) &&& 31).toUInt32).toInt32) % (58 : Int32)))])
 refine Home.run X0 hx hby sg0_25_1 (pc' := 27) (L' := #[si i0, si i1, si i2, si i3, si v1, si v2, .val (.int (((i1.toUInt32 >>> ((16 : Int32) &&& 31).toUInt32).toInt32) % (58 : Int32))), un, un, un, un, un, un, un, un, un, un]) (S' := []) rfl ?_
 obtain ⟨v3, hv3⟩ : ∃ z, z = (((i1.toUInt32 >>> ((16 : Int32) &&& 31).toUInt32).toInt32) % (58 : Int32)) := ⟨_, rfl⟩
 rw [← hv3]
 have bv3 : ¬ v3 < (0 : Int32) ∧ ¬ (57 : Int32) < v3 := by rw [hv3]; exact (bnd_rem (bnd_ushr i1 (k := 16) (hi := (65535 : Int32)) (by decide +kernel) (by decide +kernel)) (by decide +kernel) (by decide +kernel))
 refine Home.run X0 hx hby sg0_27_1 (pc' := 28) (L' := #[si i0, si i1, si i2, si i3, si v1, si v2, si v3, un, un, un, un, un, un, un, un, un, un]) (S' := [(.int i2)]) rfl ?_
 refine Home.go (X0.ldcInt hx hown (mvT hZ (own_w1 hw)) rfl (hb hby at_28)) ?_
 refine Home.run X0 hx hby sg0_30_2 (pc' := 33) (L' := #[si i0, si i1, si i2, si i3, si v1, si v2, si v3, un, un, un, un, un, un, un, un, un, un]) (S' := [(.int 58), (.int (i2 &&& (65535 : Int32)))]) rfl ?_
 refine Home.go (fun _ => iremM X0 hx rfl (hb hby at_33) rfl (by decide)) ?_
 refine Home.run X0 hx hby sg0_34_1 (pc' := 36) (L' := #[si i0, si i1, si i2, si i3, si v1, si v2, si v3, .val (.int ((i2 &&& (65535 : Int32)) % (58 : Int32))), un, un, un, un, un, un, un, un, un]) (S' := []) rfl ?_
 obtain ⟨v4, hv4⟩ : ∃ z, z = ((i2 &&& (65535 : Int32)) % (58 : Int32)) := ⟨_, rfl⟩
 rw [← hv4]
 have bv4 : ¬ v4 < (0 : Int32) ∧ ¬ (57 : Int32) < v4 := by rw [hv4]; exact (bnd_rem (bnd_and i2 (65535 : Int32) (by decide)) (by decide +kernel) (by decide +kernel))
 refine Home.run X0 hx hby sg0_36_4 (pc' := 42) (L' := #[si i0, si i1, si i2, si i3, si v1, si v2, si v3, si v4, un, un, un, un, un, un, un, un, un]) (S' := [(.int 58), (.int ((i2.toUInt32 >>> ((16 : Int32) &&& 31).toUInt32).toInt32))]) rfl ?_
 refine Home.go (fun _ => iremM X0 hx rfl (hb hby at_42) rfl (by decide)) ?_
 show Home s₁ (mkF m 43 #[si i0, si i1, si i2, si i3, si v1, si v2, si v3, si v4, un, un, un, un, un, un, un, un, un] [(.int (((i2.toUInt32 >>> ((16 : Int32) &&& 31).toUInt32).toInt32) % (58 : Int32)))])
 refine Home.run X0 hx hby sg0_43_1 (pc' := 45) (L' := #[si i0, si i1, si i2, si i3, si v1, si v2, si v3, si v4, .val (.int (((i2.toUInt32 >>> ((16 : Int32) &&& 31).toUInt32).toInt32) % (58 : Int32))), un, un, un, un, un, un, un, un]) (S' := []) rfl ?_
 obtain ⟨v5, hv5⟩ : ∃ z, z = (((i2.toUInt32 >>> ((16 : Int32) &&& 31).toUInt32).toInt32) % (58 : Int32)) := ⟨_, rfl⟩
 rw [← hv5]
 have bv5 : ¬ v5 < (0 : Int32) ∧ ¬ (57 : Int32) < v5 := by rw [hv5]; exact (bnd_rem (bnd_ushr i2 (k := 16) (hi := (65535 : Int32)) (by decide +kernel) (by decide +kernel)) (by decide +kernel) (by decide +kernel))
 refine Home.run X0 hx hby sg0_45_1 (pc' := 46) (L' := #[si i0, si i1, si i2, si i3, si v1, si v2, si v3, si v4, si v5, un, un, un, un, un, un, un, un]) (S' := [(.int i3)]) rfl ?_
 refine Home.go (X0.ldcInt hx hown (mvT hZ (own_w1 hw)) rfl (hb hby at_46)) ?_
 refine Home.run X0 hx hby sg0_48_2 (pc' := 51) (L' := #[si i0, si i1, si i2, si i3, si v1, si v2, si v3, si v4, si v5, un, un, un, un, un, un, un, un]) (S' := [(.int 58), (.int (i3 &&& (65535 : Int32)))]) rfl ?_
 refine Home.go (fun _ => iremM X0 hx rfl (hb hby at_51) rfl (by decide)) ?_
 refine Home.run X0 hx hby sg0_52_1 (pc' := 54) (L' := #[si i0, si i1, si i2, si i3, si v1, si v2, si v3, si v4, si v5, .val (.int ((i3 &&& (65535 : Int32)) % (58 : Int32))), un, un, un, un, un, un, un]) (S' := []) rfl ?_
 obtain ⟨v6, hv6⟩ : ∃ z, z = ((i3 &&& (65535 : Int32)) % (58 : Int32)) := ⟨_, rfl⟩
 rw [← hv6]
 have bv6 : ¬ v6 < (0 : Int32) ∧ ¬ (57 : Int32) < v6 := by rw [hv6]; exact (bnd_rem (bnd_and i3 (65535 : Int32) (by decide)) (by decide +kernel) (by decide +kernel))
 refine Home.run X0 hx hby sg0_54_4 (pc' := 60) (L' := #[si i0, si i1, si i2, si i3, si v1, si v2, si v3, si v4, si v5, si v6, un, un, un, un, un, un, un]) (S' := [(.int 58), (.int ((i3.toUInt32 >>> ((16 : Int32) &&& 31).toUInt32).toInt32))]) rfl ?_
 refine Home.go (fun _ => iremM X0 hx rfl (hb hby at_60) rfl (by decide)) ?_
 show Home s₁ (mkF m 61 #[si i0, si i1, si i2, si i3, si v1, si v2, si v3, si v4, si v5, si v6, un, un, un, un, un, un, un] [(.int (((i3.toUInt32 >>> ((16 : Int32) &&& 31).toUInt32).toInt32) % (58 : Int32)))])
 refine Home.run X0 hx hby sg0_61_1 (pc' := 63) (L' := #[si i0, si i1, si i2, si i3, si v1, si v2, si v3, si v4, si v5, si v6, .val (.int (((i3.toUInt32 >>> ((16 : Int32) &&& 31).toUInt32).toInt32) % (58 : Int32))), un, un, un, un, un, un]) (S' := []) rfl ?_
 obtain ⟨v7, hv7⟩ : ∃ z, z = (((i3.toUInt32 >>> ((16 : Int32) &&& 31).toUInt32).toInt32) % (58 : Int32)) := ⟨_, rfl⟩
 rw [← hv7]
 have bv7 : ¬ v7 < (0 : Int32) ∧ ¬ (57 : Int32) < v7 := by rw [hv7]; exact (bnd_rem (bnd_ushr i3 (k := 16) (hi := (65535 : Int32)) (by decide +kernel) (by decide +kernel)) (by decide +kernel) (by decide +kernel))
 by_cases c8 : v1 = (0 : Int32)
 ·
  have bd9 : ¬ v1 < (0 : Int32) ∧ ¬ (0 : Int32) < v1 := ⟨(bnd_eql c8), (bnd_eqr c8)⟩
  have fx10 : v1 = (0 : Int32) := bnd_fix bd9
  try rw [fx10]
  show Home s₁ (mkF m 63 #[si i0, si i1, si i2, si i3, si 0, si v2, si v3, si v4, si v5, si v6, si v7, un, un, un, un, un, un] [])
  refine Home.run X0 hx hby sg0_63_7 (pc' := 77) (L' := #[si i0, si i1, si i2, si i3, si 0, si v2, si v3, si v4, si v5, si v6, si v7, un, un, un, un, un, un]) (S' := [(.int v7), (.int v6), (.int v5), (.int v4), (.int v3), (.int v2), (.int 0)]) rfl ?_
  refine Home.call (own_staticW X0 hx hZ hown (own_hEL hw) Cd0 all0 (own_w2 hw) (own_w3 hw) (own_w4 hw) (own_w5 hw) (by decide) (rm1_0 l Z a0 hw [] v2 v3 v4 v5 v6 v7 h0 n0 O0 bv2 bv3 bv4 bv5 bv6 bv7) e0 rfl (by rw [hml]; rfl) (argsL := [(.int 0), (.int v2), (.int v3), (.int v4), (.int v5), (.int v6), (.int v7)]) (rest := []) (lenOf own_pd2 rfl) rfl rfl (W := 0) (by exact hW0) (by decide) (by decide) (hb hby at_77) (by decide) (by decide)) ?_
  rintro _ T12 L12 X12 ⟨⟨b1_12, b2_2_6_12, k2_2_6_12, rfl, N12q, sz_b1_12, K12q, P12_0, P12_1, P12_2, P12_3⟩, hZ, hown, Cd12, sR12⟩
  have Ce12 := Cold.put Cd12 (sR12 rfl _ rfl)
  have g_b1_12 : n0 ≤ b1_12 := Nat.le_trans (Old.le O0) sz_b1_12
  have O12 := Old.keep O0 K12q all0
  have K12 : Keep h0 T12.heap ([] : List Addr) := Keep.trans (Keep.refl h0 ([] : List Addr)) K12q all0
  have N12 := Fr.app N0 N12q
  show Home T12 (mkF m 80 #[si i0, si i1, si i2, si i3, si 0, si v2, si v3, si v4, si v5, si v6, si v7, un, un, un, un, un, un] [(.ref b1_12)])
  refine Home.run X12 hx hby sg0_80_2 (pc' := 84) (L' := #[si i0, si i1, si i2, si i3, si 0, si v2, si v3, si v4, si v5, si v6, si v7, sr b1_12, un, un, un, un, un]) (S' := [(.ref b1_12)]) rfl ?_
  refine Home.call (own_static X12 hx hZ hown (own_w28 hw) (own_w29 hw) (own_w30 hw) (own_w31 hw) (by decide) (rm5_0 l Z a0 hw [] b1_12 b2_2_6_12 k2_2_6_12 sv_COMPACT_STRINGS T12.heap n0 O12 P12_0 P12_1 P12_3 S_COMPACT_STRINGS P12_2 hCS) rfl rfl (by rw [hml]; rfl) (argsL := [(.ref b1_12)]) (rest := []) (lenOf own_pd5 rfl) rfl rfl (W := 0) (by exact hW0) (by decide) (by decide) (hb hby at_84) (by decide) (by decide)) ?_
  rintro _ T13 L13 X13 ⟨b5_13, k5_13, rfl, N13q, sz_b5_13, K13q, P13_0⟩
  have Cd13 := Cold.keep Ce12 K13q all0
  have Cd13b5_13 := Cold.put Cd13 ⟨Safe.keep K13q all0 Ce12.2.1.1 (Safe.new sz_b5_13), P13_0.lt⟩
  have g_b5_13 : n0 ≤ b5_13 := Nat.le_trans (Old.le O12) sz_b5_13
  have O13 := Old.keep O12 K13q all0
  have K13 : Keep h0 T13.heap ([] : List Addr) := Keep.trans K12 K13q all0
  have N13 := Fr.app N12 N13q
  show Home T13 (mkF m 87 #[si i0, si i1, si i2, si i3, si 0, si v2, si v3, si v4, si v5, si v6, si v7, sr b1_12, un, un, un, un, un] [(.ref b5_13)])
  refine Home.run X13 hx hby sg0_87_8 (pc' := 103) (L' := #[si i0, si i1, si i2, si i3, si 0, si v2, si v3, si v4, si v5, si v6, si v7, sr b1_12, sr b5_13, un, un, un, un]) (S' := [(.int v7), (.int v6), (.int v5), (.int v4), (.int v3), (.int v2), (.int 0)]) rfl ?_
  refine Home.st (own_pure (own_static X13 hx hZ hown (own_w43 hw) (own_w44 hw) (own_w4 hw) (own_w45 hw) (by decide) (rm8_0 l Z a0 hw [] v2 v3 v4 v5 v6 v7 T13.heap n0 O13 bv2 bv3 bv4 bv5 bv6 bv7) rfl rfl (by rw [hml]; rfl) (argsL := [(.int 0), (.int v2), (.int v3), (.int v4), (.int v5), (.int v6), (.int v7)]) (rest := []) (lenOf own_pd6 rfl) rfl rfl (W := 0) (by exact hW0) (by decide) (by decide) (hb hby at_103) (by decide) (by decide))) fun T14 X14 e14 => ?_
  refine Home.run X14 hx hby sg0_106_8 (pc' := 122) (L' := #[si i0, si i1, si i2, si i3, si 0, si v2, si v3, si v4, si v5, si v6, si v7, sr b1_12, sr b5_13, si 0, un, un, un]) (S' := [(.int v7), (.int v6), (.int v5), (.int v4), (.int v3), (.int v2), (.int 0)]) rfl ?_
  refine Home.st (own_pure (own_static X14 hx hZ hown (own_w46 hw) (own_w47 hw) (own_w4 hw) (own_w48 hw) (by decide) (rm9_0 l Z a0 hw [] v2 v3 v4 v5 v6 v7 T13.heap n0 O13 bv2 bv3 bv4 bv5 bv6 bv7) e14 rfl (by rw [hml]; rfl) (argsL := [(.int 0), (.int v2), (.int v3), (.int v4), (.int v5), (.int v6), (.int v7)]) (rest := []) (lenOf own_pd7 rfl) rfl rfl (W := 0) (by exact hW0) (by decide) (by decide) (hb hby at_122) (by decide) (by decide))) fun T15 X15 e15 => ?_
  refine Home.run X15 hx hby sg0_125_2 (pc' := 129) (L' := #[si i0, si i1, si i2, si i3, si 0, si v2, si v3, si v4, si v5, si v6, si v7, sr b1_12, sr b5_13, si 0, .val (.long (0 : Int64)), .second, un]) (S' := [(.long (0 : Int64))]) rfl ?_
  refine Home.st (own_pure (own_static X15 hx hZ hown (own_w49 hw) (own_w50 hw) (own_w4 hw) (own_w51 hw) (by decide) (rm10_0 l Z a0 hw []  T13.heap n0 O13) e15 rfl (by rw [hml]; rfl) (argsL := [(.long (0 : Int64))]) (rest := []) (lenOf own_pd8 rfl) rfl rfl (W := 0) (by exact hW0) (by decide) (by decide) (hb hby at_129) (by decide) (by decide))) fun T16 X16 e16 => ?_
  refine Home.run X16 hx hby sg0_132_2 (pc' := 136) (L' := #[si i0, si i1, si i2, si i3, si 0, si v2, si v3, si v4, si v5, si v6, si v7, sr b1_12, sr b5_13, si 0, .val (.long (0 : Int64)), .second, si 0]) (S' := [(.ref b5_13)]) rfl ?_
  obtain ⟨cl17, Ar17, q17, S17, M17, H17, G17⟩ := id P13_0
  refine Home.go (own_alen X16 hx hZ e16 Ar17 S17 M17 rfl rfl (hb hby at_136)) ?_
  refine Home.run X16 hx hby sg0_137_3 (pc' := 142) (L' := #[si i0, si i1, si i2, si i3, si 0, si v2, si v3, si v4, si v5, si v6, si v7, sr b1_12, sr b5_13, si 0, .val (.long (0 : Int64)), .second, si 0]) (S' := [(.int 0), (.int 0)]) rfl ?_
  refine Home.go (fun _ => XS.icmpYes X16.here hx rfl (pc0 := 142) (pc' := 147) rfl (hb hby at_142) rfl (teq (by decide)).1 (by decide) (by decide)) ?_
  refine Home.run X16 hx hby sg0_147_5 (pc' := 156) (L' := #[si i0, si i1, si i2, si i3, si 0, si v2, si v3, si v4, si v5, si v6, si v7, sr b1_12, sr b5_13, si 0, .val (.long (0 : Int64)), .second, si 0]) (S' := [(.long (0 : Int64)), (.int 0), (.int 0), (.int 0), (.ref b5_13)]) rfl ?_
  refine Home.st (own_pure (own_static X16 hx hZ hown (own_w52 hw) (own_w53 hw) (own_w4 hw) (own_w54 hw) (by decide) (rm11_0 l Z a0 hw [] b5_13 (0 : Int32) (0 : Int32) (0 : Int32) k5_13 T13.heap n0 O13 (bnd_mono (bnd_lit (0 : Int32)) (by decide +kernel) (by decide +kernel)) (bnd_mono (bnd_lit (0 : Int32)) (by decide +kernel) (by decide +kernel)) (bnd_mono (bnd_lit (0 : Int32)) (by decide +kernel) (by decide +kernel)) P13_0) e16 rfl (by rw [hml]; rfl) (argsL := [(.ref b5_13), (.int 0), (.int 0), (.int 0), (.long (0 : Int64))]) (rest := []) (lenOf own_pd9 rfl) rfl rfl (W := 0) (by exact hW0) (by decide) (by decide) (hb hby at_156) (by decide) (by decide))) fun T18 X18 e18 => ?_
  refine Home.go (fun _ => XS.ifNo X18.here hx rfl (hb hby at_159) rfl ((if0 _ _).trans (feq (by decide)).1)) ?_
  refine Home.run X18 hx hby sg0_162_5 (pc' := 171) (L' := #[si i0, si i1, si i2, si i3, si 0, si v2, si v3, si v4, si v5, si v6, si v7, sr b1_12, sr b5_13, si 0, .val (.long (0 : Int64)), .second, si 0]) (S' := [(.long (0 : Int64)), (.int 0), (.int 0), (.int 1), (.ref b5_13)]) rfl ?_
  refine Home.st (own_pure (own_static X18 hx hZ hown (own_w52 hw) (own_w53 hw) (own_w4 hw) (own_w54 hw) (by decide) (rm11_0 l Z a0 hw [] b5_13 (1 : Int32) (0 : Int32) (0 : Int32) k5_13 T13.heap n0 O13 (bnd_mono (bnd_lit (1 : Int32)) (by decide +kernel) (by decide +kernel)) (bnd_mono (bnd_lit (0 : Int32)) (by decide +kernel) (by decide +kernel)) (bnd_mono (bnd_lit (0 : Int32)) (by decide +kernel) (by decide +kernel)) P13_0) e18 rfl (by rw [hml]; rfl) (argsL := [(.ref b5_13), (.int 1), (.int 0), (.int 0), (.long (0 : Int64))]) (rest := []) (lenOf own_pd9 rfl) rfl rfl (W := 0) (by exact hW0) (by decide) (by decide) (hb hby at_171) (by decide) (by decide))) fun T19 X19 e19 => ?_
  show Home T19 (mkF m 174 #[si i0, si i1, si i2, si i3, si 0, si v2, si v3, si v4, si v5, si v6, si v7, sr b1_12, sr b5_13, si 0, .val (.long (0 : Int64)), .second, si 0] [(.int 1)])
  refine Home.go (fun _ => XS.ifNo X19.here hx rfl (hb hby at_174) rfl ((if0 _ _).trans (feq (by decide)).1)) ?_
  refine Home.run X19 hx hby sg0_177_5 (pc' := 186) (L' := #[si i0, si i1, si i2, si i3, si 0, si v2, si v3, si v4, si v5, si v6, si v7, sr b1_12, sr b5_13, si 0, .val (.long (0 : Int64)), .second, si 0]) (S' := [(.long (0 : Int64)), (.int 0), (.int 0), (.int 2), (.ref b5_13)]) rfl ?_
  refine Home.st (own_pure (own_static X19 hx hZ hown (own_w52 hw) (own_w53 hw) (own_w4 hw) (own_w54 hw) (by decide) (rm11_0 l Z a0 hw [] b5_13 (2 : Int32) (0 : Int32) (0 : Int32) k5_13 T13.heap n0 O13 (bnd_mono (bnd_lit (2 : Int32)) (by decide +kernel) (by decide +kernel)) (bnd_mono (bnd_lit (0 : Int32)) (by decide +kernel) (by decide +kernel)) (bnd_mono (bnd_lit (0 : Int32)) (by decide +kernel) (by decide +kernel)) P13_0) e19 rfl (by rw [hml]; rfl) (argsL := [(.ref b5_13), (.int 2), (.int 0), (.int 0), (.long (0 : Int64))]) (rest := []) (lenOf own_pd9 rfl) rfl rfl (W := 0) (by exact hW0) (by decide) (by decide) (hb hby at_186) (by decide) (by decide))) fun T20 X20 e20 => ?_
  refine Home.go (fun _ => XS.ifNo X20.here hx rfl (hb hby at_189) rfl ((if0 _ _).trans (feq (by decide)).1)) ?_
  refine Home.run X20 hx hby sg0_192_5 (pc' := 201) (L' := #[si i0, si i1, si i2, si i3, si 0, si v2, si v3, si v4, si v5, si v6, si v7, sr b1_12, sr b5_13, si 0, .val (.long (0 : Int64)), .second, si 0]) (S' := [(.long (0 : Int64)), (.int 0), (.int 0), (.int 3), (.ref b5_13)]) rfl ?_
  refine Home.st (own_pure (own_static X20 hx hZ hown (own_w52 hw) (own_w53 hw) (own_w4 hw) (own_w54 hw) (by decide) (rm11_0 l Z a0 hw [] b5_13 (3 : Int32) (0 : Int32) (0 : Int32) k5_13 T13.heap n0 O13 (bnd_mono (bnd_lit (3 : Int32)) (by decide +kernel) (by decide +kernel)) (bnd_mono (bnd_lit (0 : Int32)) (by decide +kernel) (by decide +kernel)) (bnd_mono (bnd_lit (0 : Int32)) (by decide +kernel) (by decide +kernel)) P13_0) e20 rfl (by rw [hml]; rfl) (argsL := [(.ref b5_13), (.int 3), (.int 0), (.int 0), (.long (0 : Int64))]) (rest := []) (lenOf own_pd9 rfl) rfl rfl (W := 0) (by exact hW0) (by decide) (by decide) (hb hby at_201) (by decide) (by decide))) fun T21 X21 e21 => ?_
  refine Home.go (fun _ => XS.ifNo X21.here hx rfl (hb hby at_204) rfl ((if0 _ _).trans (feq (by decide)).1)) ?_
  refine Home.run X21 hx hby sg0_207_5 (pc' := 216) (L' := #[si i0, si i1, si i2, si i3, si 0, si v2, si v3, si v4, si v5, si v6, si v7, sr b1_12, sr b5_13, si 0, .val (.long (0 : Int64)), .second, si 0]) (S' := [(.long (0 : Int64)), (.int 0), (.int 0), (.int 4), (.ref b5_13)]) rfl ?_
  refine Home.st (own_pure (own_static X21 hx hZ hown (own_w52 hw) (own_w53 hw) (own_w4 hw) (own_w54 hw) (by decide) (rm11_0 l Z a0 hw [] b5_13 (4 : Int32) (0 : Int32) (0 : Int32) k5_13 T13.heap n0 O13 (bnd_mono (bnd_lit (4 : Int32)) (by decide +kernel) (by decide +kernel)) (bnd_mono (bnd_lit (0 : Int32)) (by decide +kernel) (by decide +kernel)) (bnd_mono (bnd_lit (0 : Int32)) (by decide +kernel) (by decide +kernel)) P13_0) e21 rfl (by rw [hml]; rfl) (argsL := [(.ref b5_13), (.int 4), (.int 0), (.int 0), (.long (0 : Int64))]) (rest := []) (lenOf own_pd9 rfl) rfl rfl (W := 0) (by exact hW0) (by decide) (by decide) (hb hby at_216) (by decide) (by decide))) fun T22 X22 e22 => ?_
  refine Home.go (fun _ => XS.ifNo X22.here hx rfl (hb hby at_219) rfl ((if0 _ _).trans (feq (by decide)).1)) ?_
  refine Home.run X22 hx hby sg0_222_5 (pc' := 231) (L' := #[si i0, si i1, si i2, si i3, si 0, si v2, si v3, si v4, si v5, si v6, si v7, sr b1_12, sr b5_13, si 0, .val (.long (0 : Int64)), .second, si 0]) (S' := [(.long (0 : Int64)), (.int 0), (.int 0), (.int 5), (.ref b5_13)]) rfl ?_
  refine Home.st (own_pure (own_static X22 hx hZ hown (own_w52 hw) (own_w53 hw) (own_w4 hw) (own_w54 hw) (by decide) (rm11_0 l Z a0 hw [] b5_13 (5 : Int32) (0 : Int32) (0 : Int32) k5_13 T13.heap n0 O13 (bnd_mono (bnd_lit (5 : Int32)) (by decide +kernel) (by decide +kernel)) (bnd_mono (bnd_lit (0 : Int32)) (by decide +kernel) (by decide +kernel)) (bnd_mono (bnd_lit (0 : Int32)) (by decide +kernel) (by decide +kernel)) P13_0) e22 rfl (by rw [hml]; rfl) (argsL := [(.ref b5_13), (.int 5), (.int 0), (.int 0), (.long (0 : Int64))]) (rest := []) (lenOf own_pd9 rfl) rfl rfl (W := 0) (by exact hW0) (by decide) (by decide) (hb hby at_231) (by decide) (by decide))) fun T23 X23 e23 => ?_
  refine Home.go (fun _ => XS.ifNo X23.here hx rfl (hb hby at_234) rfl ((if0 _ _).trans (feq (by decide)).1)) ?_
  refine Home.run X23 hx hby sg0_237_2 (pc' := 242) (L' := #[si i0, si i1, si i2, si i3, si 0, si v2, si v3, si v4, si v5, si v6, si v7, sr b1_12, sr b5_13, si 0, .val (.long (0 : Int64)), .second, si 0]) (S' := [(.int 1)]) rfl ?_
  exact HomeW.retN X23 hx hlk hZ (own_hEL hw) e23 Cd13b5_13 (t := .boolean) hret (by simp) (hb hby at_242) ⟨rfl, N13⟩ (by decide) (by decide)
 ·
  have bd11 : ¬ v1 < (1 : Int32) ∧ ¬ (6 : Int32) < v1 := ⟨(bnd_nel bv1.1 c8 (by decide +kernel)), bv1.2⟩
  by_cases c24 : v1 = (1 : Int32)
  ·
   have bd25 : ¬ v1 < (1 : Int32) ∧ ¬ (1 : Int32) < v1 := ⟨(bnd_eql c24), (bnd_eqr c24)⟩
   have fx26 : v1 = (1 : Int32) := bnd_fix bd25
   try rw [fx26]
   show Home s₁ (mkF m 63 #[si i0, si i1, si i2, si i3, si 1, si v2, si v3, si v4, si v5, si v6, si v7, un, un, un, un, un, un] [])
   refine Home.run X0 hx hby sg0_63_7 (pc' := 77) (L' := #[si i0, si i1, si i2, si i3, si 1, si v2, si v3, si v4, si v5, si v6, si v7, un, un, un, un, un, un]) (S' := [(.int v7), (.int v6), (.int v5), (.int v4), (.int v3), (.int v2), (.int 1)]) rfl ?_
   refine Home.call (own_staticW X0 hx hZ hown (own_hEL hw) Cd0 all0 (own_w2 hw) (own_w3 hw) (own_w4 hw) (own_w5 hw) (by decide) (rm1_1 l Z a0 hw [] v2 v3 v4 v5 v6 v7 sv_COMPACT_STRINGS sv_SIOOBE_FORMATTER h0 n0 O0 bv2 bv3 bv4 bv5 bv6 bv7 S_COMPACT_STRINGS S_SIOOBE_FORMATTER hCS isr_sv_SIOOBE_FORMATTER) e0 rfl (by rw [hml]; rfl) (argsL := [(.int 1), (.int v2), (.int v3), (.int v4), (.int v5), (.int v6), (.int v7)]) (rest := []) (lenOf own_pd2 rfl) rfl rfl (W := 0) (by exact hW0) (by decide) (by decide) (hb hby at_77) (by decide) (by decide)) ?_
   rintro _ T28 L28 X28 ⟨⟨b1_28, b1_3_2_11_28, k1_3_2_11_28, rfl, N28q, sz_b1_28, sz_b1_3_2_11_28, K28q, P28_0, P28_1, P28_2, P28_3⟩, hZ, hown, Cd28, sR28⟩
   have Ce28 := Cold.put Cd28 (sR28 rfl _ rfl)
   have g_b1_28 : n0 ≤ b1_28 := Nat.le_trans (Old.le O0) sz_b1_28
   have g_b1_3_2_11_28 : n0 ≤ b1_3_2_11_28 := Nat.le_trans (Old.le O0) sz_b1_3_2_11_28
   have O28 := Old.keep O0 K28q all0
   have K28 : Keep h0 T28.heap ([] : List Addr) := Keep.trans (Keep.refl h0 ([] : List Addr)) K28q all0
   have N28 := Fr.app N0 N28q
   show Home T28 (mkF m 80 #[si i0, si i1, si i2, si i3, si 1, si v2, si v3, si v4, si v5, si v6, si v7, un, un, un, un, un, un] [(.ref b1_28)])
   obtain ⟨r29, hr29⟩ : ∃ z, z = ((nar .char ((own_at own_TI0 v2) &&& (255 : Int32))).toInt8.toInt32) := ⟨_, rfl⟩
   rw [← hr29] at P28_3
   refine Home.run X28 hx hby sg0_80_2 (pc' := 84) (L' := #[si i0, si i1, si i2, si i3, si 1, si v2, si v3, si v4, si v5, si v6, si v7, sr b1_28, un, un, un, un, un]) (S' := [(.ref b1_28)]) rfl ?_
   refine Home.call (own_staticW X28 hx hZ hown (own_hEL hw) Ce28 all0 (own_w28 hw) (own_w29 hw) (own_w30 hw) (own_w31 hw) (by decide) (rm5_1 l Z a0 hw [] b1_28 b1_3_2_11_28 k1_3_2_11_28 [r29] sv_COMPACT_STRINGS sv_SIOOBE_FORMATTER T28.heap n0 O28 (show (0 : Int32) < Int32.ofNat 1 by decide) P28_0 P28_1 P28_3 S_COMPACT_STRINGS P28_2 hCS (Nat.le_trans (own_len_lit (l := [r29]) (n := 1) rfl).2 (by decide)) S_SIOOBE_FORMATTER isr_sv_SIOOBE_FORMATTER (List.forall_mem_cons.mpr ⟨own_hv bv2 hr29, (fun _ q => nomatch q)⟩)) rfl rfl (by rw [hml]; rfl) (argsL := [(.ref b1_28)]) (rest := []) (lenOf own_pd5 rfl) rfl rfl (W := 0) (by exact hW0) (by decide) (by decide) (hb hby at_84) (by decide) (by decide)) ?_
   rintro _ T30 L30 X30 ⟨⟨b31_30, k31_30, rfl, N30q, sz_b31_30, K30q, P30_0⟩, hZ, hown, Cd30, sR30⟩
   have Ce30 := Cold.put Cd30 (sR30 rfl _ rfl)
   have g_b31_30 : n0 ≤ b31_30 := Nat.le_trans (Old.le O28) sz_b31_30
   have O30 := Old.keep O28 K30q all0
   have K30 : Keep h0 T30.heap ([] : List Addr) := Keep.trans K28 K30q all0
   have N30 := Fr.app N28 N30q
   show Home T30 (mkF m 87 #[si i0, si i1, si i2, si i3, si 1, si v2, si v3, si v4, si v5, si v6, si v7, sr b1_28, un, un, un, un, un] [(.ref b31_30)])
   obtain ⟨r31, hr31⟩ : ∃ z, z = (own_dec [r29]) := ⟨_, rfl⟩
   rw [← hr31] at P30_0
   refine Home.run X30 hx hby sg0_87_8 (pc' := 103) (L' := #[si i0, si i1, si i2, si i3, si 1, si v2, si v3, si v4, si v5, si v6, si v7, sr b1_28, sr b31_30, un, un, un, un]) (S' := [(.int v7), (.int v6), (.int v5), (.int v4), (.int v3), (.int v2), (.int 1)]) rfl ?_
   refine Home.st (own_pure (own_static X30 hx hZ hown (own_w43 hw) (own_w44 hw) (own_w4 hw) (own_w45 hw) (by decide) (rm8_1 l Z a0 hw [] v2 v3 v4 v5 v6 v7 T30.heap n0 O30 bv2 bv3 bv4 bv5 bv6 bv7) rfl rfl (by rw [hml]; rfl) (argsL := [(.int 1), (.int v2), (.int v3), (.int v4), (.int v5), (.int v6), (.int v7)]) (rest := []) (lenOf own_pd6 rfl) rfl rfl (W := 0) (by exact hW0) (by decide) (by decide) (hb hby at_103) (by decide) (by decide))) fun T32 X32 e32 => ?_
   show Home T32 (mkF m 106 #[si i0, si i1, si i2, si i3, si 1, si v2, si v3, si v4, si v5, si v6, si v7, sr b1_28, sr b31_30, un, un, un, un] [(.int (f_rm8_1 v2))])
   obtain ⟨r33, hr33⟩ : ∃ z, z = (f_rm8_1 v2) := ⟨_, rfl⟩
   rw [← hr33]
   have br33 : ¬ r33 < (0 : Int32) ∧ ¬ (1 : Int32) < r33 := by rw [hr33]; exact f_rm8_1_bnd v2 v3 v4 v5 v6 v7 bv2 bv3 bv4 bv5 bv6 bv7
   refine Home.run X32 hx hby sg0_106_8 (pc' := 122) (L' := #[si i0, si i1, si i2, si i3, si 1, si v2, si v3, si v4, si v5, si v6, si v7, sr b1_28, sr b31_30, si r33, un, un, un]) (S' := [(.int v7), (.int v6), (.int v5), (.int v4), (.int v3), (.int v2), (.int 1)]) rfl ?_
   refine Home.st (own_pure (own_static X32 hx hZ hown (own_w46 hw) (own_w47 hw) (own_w4 hw) (own_w48 hw) (by decide) (rm9_1 l Z a0 hw [] v2 v3 v4 v5 v6 v7 T30.heap n0 O30 bv2 bv3 bv4 bv5 bv6 bv7) e32 rfl (by rw [hml]; rfl) (argsL := [(.int 1), (.int v2), (.int v3), (.int v4), (.int v5), (.int v6), (.int v7)]) (rest := []) (lenOf own_pd7 rfl) rfl rfl (W := 0) (by exact hW0) (by decide) (by decide) (hb hby at_122) (by decide) (by decide))) fun T34 X34 e34 => ?_
   refine Home.run X34 hx hby sg0_125_2 (pc' := 129) (L' := #[si i0, si i1, si i2, si i3, si 1, si v2, si v3, si v4, si v5, si v6, si v7, sr b1_28, sr b31_30, si r33, .val (.long (v2.toInt64)), .second, un]) (S' := [(.long (v2.toInt64))]) rfl ?_
   refine Home.st (own_pure (own_static X34 hx hZ hown (own_w49 hw) (own_w50 hw) (own_w4 hw) (own_w51 hw) (by decide) (rm10_1 l Z a0 hw [] (v2.toInt64) T30.heap n0 O30) e34 rfl (by rw [hml]; rfl) (argsL := [(.long (v2.toInt64))]) (rest := []) (lenOf own_pd8 rfl) rfl rfl (W := 0) (by exact hW0) (by decide) (by decide) (hb hby at_129) (by decide) (by decide))) fun T35 X35 e35 => ?_
   show Home T35 (mkF m 132 #[si i0, si i1, si i2, si i3, si 1, si v2, si v3, si v4, si v5, si v6, si v7, sr b1_28, sr b31_30, si r33, .val (.long (v2.toInt64)), .second, un] [(.int (f_rm10_1 (v2.toInt64)))])
   obtain ⟨r36, hr36⟩ : ∃ z, z = (f_rm10_1 (v2.toInt64)) := ⟨_, rfl⟩
   rw [← hr36]
   have br36 : ¬ r36 < (0 : Int32) ∧ ¬ (5 : Int32) < r36 := by rw [hr36]; exact f_rm10_1_bnd (v2.toInt64)
   refine Home.run X35 hx hby sg0_132_2 (pc' := 136) (L' := #[si i0, si i1, si i2, si i3, si 1, si v2, si v3, si v4, si v5, si v6, si v7, sr b1_28, sr b31_30, si r33, .val (.long (v2.toInt64)), .second, si r36]) (S' := [(.ref b31_30)]) rfl ?_
   obtain ⟨cl37, Ar37, q37, S37, M37, H37, G37⟩ := id P30_0
   refine Home.go (own_alen X35 hx hZ e35 Ar37 S37 M37 rfl rfl (hb hby at_136)) ?_
   refine Home.run X35 hx hby sg0_137_3 (pc' := 142) (L' := #[si i0, si i1, si i2, si i3, si 1, si v2, si v3, si v4, si v5, si v6, si v7, sr b1_28, sr b31_30, si r33, .val (.long (v2.toInt64)), .second, si r36]) (S' := [(.int (r33 + r36)), (.int (own_n r31))]) rfl ?_
   have hl38 := (own_ln38 i1 v2 hv2 r29 hr29 r31 hr31 r33 hr33 r36 hr36)
   refine Home.go (fun _ => XS.icmpYes X35.here hx rfl (pc0 := 142) (pc' := 147) rfl (hb hby at_142) rfl (teq hl38).1 (by decide) (by decide)) ?_
   refine Home.run X35 hx hby sg0_147_5 (pc' := 156) (L' := #[si i0, si i1, si i2, si i3, si 1, si v2, si v3, si v4, si v5, si v6, si v7, sr b1_28, sr b31_30, si r33, .val (.long (v2.toInt64)), .second, si r36]) (S' := [(.long (v2.toInt64)), (.int r36), (.int r33), (.int 0), (.ref b31_30)]) rfl ?_
   refine Home.st (own_pure (own_static X35 hx hZ hown (own_w52 hw) (own_w53 hw) (own_w4 hw) (own_w54 hw) (by decide) (rm11_1 l Z a0 hw [] b31_30 (0 : Int32) r33 r36 (v2.toInt64) k31_30 r31 T30.heap n0 O30 (bnd_mono (bnd_lit (0 : Int32)) (by decide +kernel) (by decide +kernel)) (bnd_mono br33 (by decide +kernel) (by decide +kernel)) br36 P30_0) e35 rfl (by rw [hml]; rfl) (argsL := [(.ref b31_30), (.int 0), (.int r33), (.int r36), (.long (v2.toInt64))]) (rest := []) (lenOf own_pd9 rfl) rfl rfl (W := 0) (by exact hW0) (by decide) (by decide) (hb hby at_156) (by decide) (by decide))) fun T39 X39 e39 => ?_
   show Home T39 (mkF m 159 #[si i0, si i1, si i2, si i3, si 1, si v2, si v3, si v4, si v5, si v6, si v7, sr b1_28, sr b31_30, si r33, .val (.long (v2.toInt64)), .second, si r36] [(.int (f_rm11_1 (0 : Int32) r33 r36 (v2.toInt64) r31))])
   obtain ⟨r40, hr40⟩ : ∃ z, z = (f_rm11_1 (0 : Int32) r33 r36 (v2.toInt64) r31) := ⟨_, rfl⟩
   rw [← hr40]
   have br40 : ¬ r40 < (0 : Int32) ∧ ¬ (1 : Int32) < r40 := by rw [hr40]; exact f_rm11_1_bnd (0 : Int32) r33 r36 (v2.toInt64) r31 (bnd_mono (bnd_lit (0 : Int32)) (by decide +kernel) (by decide +kernel)) (bnd_mono br33 (by decide +kernel) (by decide +kernel)) br36
   suffices J64 : ∀ {T : State} {lc : List Loc} (X : Stand p l e room_1 (s.setVm T30.vm) m #[(.int i0), (.int i1), (.int i2), (.int i3)] below meth c T lc 9 496) (N : Fr n0 lc) (eT : T.heap = T30.heap) (v65 : Int32) (hv65 : v65 = (if r40 = (0 : Int32) then (0 : Int32) else (if (f_rm11_1 (1 : Int32) r33 r36 (v2.toInt64) r31) = (0 : Int32) then (0 : Int32) else (if (f_rm11_1 (2 : Int32) r33 r36 (v2.toInt64) r31) = (0 : Int32) then (0 : Int32) else (if (f_rm11_1 (3 : Int32) r33 r36 (v2.toInt64) r31) = (0 : Int32) then (0 : Int32) else (if (f_rm11_1 (4 : Int32) r33 r36 (v2.toInt64) r31) = (0 : Int32) then (0 : Int32) else (if (f_rm11_1 (5 : Int32) r33 r36 (v2.toInt64) r31) = (0 : Int32) then (0 : Int32) else (1 : Int32)))))))), @Home p e below _ T (mkF m 242 #[si i0, si i1, si i2, si i3, si 1, si v2, si v3, si v4, si v5, si v6, si v7, sr b1_28, sr b31_30, si r33, .val (.long (v2.toInt64)), .second, si r36] [(.int v65)]) by
    by_cases c41 : r40 = (0 : Int32)
    ·
     refine Home.go (fun _ => XS.ifYes X39.here hx rfl (pc0 := 159) (pc' := 241) rfl (hb hby at_159) rfl ((if0 _ _).trans (teq c41).1) (by decide) (by decide)) ?_
     have bd42 : ¬ r40 < (0 : Int32) ∧ ¬ (0 : Int32) < r40 := ⟨(bnd_eql c41), (bnd_eqr c41)⟩
     refine Home.run X39 hx hby sg0_241_1 (pc' := 242) (L' := #[si i0, si i1, si i2, si i3, si 1, si v2, si v3, si v4, si v5, si v6, si v7, sr b1_28, sr b31_30, si r33, .val (.long (v2.toInt64)), .second, si r36]) (S' := [(.int 0)]) rfl ?_
     exact J64 X39 N30 e39 _ (by simp only [if_pos c41])
    ·
     refine Home.go (fun _ => XS.ifNo X39.here hx rfl (hb hby at_159) rfl ((if0 _ _).trans (feq c41).1)) ?_
     have bd43 : ¬ r40 < (1 : Int32) ∧ ¬ (1 : Int32) < r40 := ⟨(bnd_nel br40.1 c41 (by decide +kernel)), br40.2⟩
     refine Home.run X39 hx hby sg0_162_5 (pc' := 171) (L' := #[si i0, si i1, si i2, si i3, si 1, si v2, si v3, si v4, si v5, si v6, si v7, sr b1_28, sr b31_30, si r33, .val (.long (v2.toInt64)), .second, si r36]) (S' := [(.long (v2.toInt64)), (.int r36), (.int r33), (.int 1), (.ref b31_30)]) rfl ?_
     refine Home.st (own_pure (own_static X39 hx hZ hown (own_w52 hw) (own_w53 hw) (own_w4 hw) (own_w54 hw) (by decide) (rm11_1 l Z a0 hw [] b31_30 (1 : Int32) r33 r36 (v2.toInt64) k31_30 r31 T30.heap n0 O30 (bnd_mono (bnd_lit (1 : Int32)) (by decide +kernel) (by decide +kernel)) (bnd_mono br33 (by decide +kernel) (by decide +kernel)) br36 P30_0) e39 rfl (by rw [hml]; rfl) (argsL := [(.ref b31_30), (.int 1), (.int r33), (.int r36), (.long (v2.toInt64))]) (rest := []) (lenOf own_pd9 rfl) rfl rfl (W := 0) (by exact hW0) (by decide) (by decide) (hb hby at_171) (by decide) (by decide))) fun T44 X44 e44 => ?_
     by_cases c45 : (f_rm11_1 (1 : Int32) r33 r36 (v2.toInt64) r31) = (0 : Int32)
     ·
      refine Home.go (fun _ => XS.ifYes X44.here hx rfl (pc0 := 174) (pc' := 241) rfl (hb hby at_174) rfl ((if0 _ _).trans (teq c45).1) (by decide) (by decide)) ?_
      have bd46 : ¬ (f_rm11_1 (1 : Int32) r33 r36 (v2.toInt64) r31) < (0 : Int32) ∧ ¬ (0 : Int32) < (f_rm11_1 (1 : Int32) r33 r36 (v2.toInt64) r31) := ⟨(bnd_eql c45), (bnd_eqr c45)⟩
      refine Home.run X44 hx hby sg0_241_1 (pc' := 242) (L' := #[si i0, si i1, si i2, si i3, si 1, si v2, si v3, si v4, si v5, si v6, si v7, sr b1_28, sr b31_30, si r33, .val (.long (v2.toInt64)), .second, si r36]) (S' := [(.int 0)]) rfl ?_
      exact J64 X44 N30 e44 _ (by simp only [if_neg c41, if_pos c45])
     ·
      refine Home.go (fun _ => XS.ifNo X44.here hx rfl (hb hby at_174) rfl ((if0 _ _).trans (feq c45).1)) ?_
      have bd47 : ¬ (f_rm11_1 (1 : Int32) r33 r36 (v2.toInt64) r31) < (1 : Int32) ∧ ¬ (1 : Int32) < (f_rm11_1 (1 : Int32) r33 r36 (v2.toInt64) r31) := ⟨(bnd_nel (f_rm11_1_bnd (1 : Int32) r33 r36 (v2.toInt64) r31 (bnd_mono (bnd_lit (1 : Int32)) (by decide +kernel) (by decide +kernel)) (bnd_mono br33 (by decide +kernel) (by decide +kernel)) br36).1 c45 (by decide +kernel)), (f_rm11_1_bnd (1 : Int32) r33 r36 (v2.toInt64) r31 (bnd_mono (bnd_lit (1 : Int32)) (by decide +kernel) (by decide +kernel)) (bnd_mono br33 (by decide +kernel) (by decide +kernel)) br36).2⟩
      refine Home.run X44 hx hby sg0_177_5 (pc' := 186) (L' := #[si i0, si i1, si i2, si i3, si 1, si v2, si v3, si v4, si v5, si v6, si v7, sr b1_28, sr b31_30, si r33, .val (.long (v2.toInt64)), .second, si r36]) (S' := [(.long (v2.toInt64)), (.int r36), (.int r33), (.int 2), (.ref b31_30)]) rfl ?_
      refine Home.st (own_pure (own_static X44 hx hZ hown (own_w52 hw) (own_w53 hw) (own_w4 hw) (own_w54 hw) (by decide) (rm11_1 l Z a0 hw [] b31_30 (2 : Int32) r33 r36 (v2.toInt64) k31_30 r31 T30.heap n0 O30 (bnd_mono (bnd_lit (2 : Int32)) (by decide +kernel) (by decide +kernel)) (bnd_mono br33 (by decide +kernel) (by decide +kernel)) br36 P30_0) e44 rfl (by rw [hml]; rfl) (argsL := [(.ref b31_30), (.int 2), (.int r33), (.int r36), (.long (v2.toInt64))]) (rest := []) (lenOf own_pd9 rfl) rfl rfl (W := 0) (by exact hW0) (by decide) (by decide) (hb hby at_186) (by decide) (by decide))) fun T48 X48 e48 => ?_
      by_cases c49 : (f_rm11_1 (2 : Int32) r33 r36 (v2.toInt64) r31) = (0 : Int32)
      ·
       refine Home.go (fun _ => XS.ifYes X48.here hx rfl (pc0 := 189) (pc' := 241) rfl (hb hby at_189) rfl ((if0 _ _).trans (teq c49).1) (by decide) (by decide)) ?_
       have bd50 : ¬ (f_rm11_1 (2 : Int32) r33 r36 (v2.toInt64) r31) < (0 : Int32) ∧ ¬ (0 : Int32) < (f_rm11_1 (2 : Int32) r33 r36 (v2.toInt64) r31) := ⟨(bnd_eql c49), (bnd_eqr c49)⟩
       refine Home.run X48 hx hby sg0_241_1 (pc' := 242) (L' := #[si i0, si i1, si i2, si i3, si 1, si v2, si v3, si v4, si v5, si v6, si v7, sr b1_28, sr b31_30, si r33, .val (.long (v2.toInt64)), .second, si r36]) (S' := [(.int 0)]) rfl ?_
       exact J64 X48 N30 e48 _ (by simp only [if_neg c41, if_neg c45, if_pos c49])
      ·
       refine Home.go (fun _ => XS.ifNo X48.here hx rfl (hb hby at_189) rfl ((if0 _ _).trans (feq c49).1)) ?_
       have bd51 : ¬ (f_rm11_1 (2 : Int32) r33 r36 (v2.toInt64) r31) < (1 : Int32) ∧ ¬ (1 : Int32) < (f_rm11_1 (2 : Int32) r33 r36 (v2.toInt64) r31) := ⟨(bnd_nel (f_rm11_1_bnd (2 : Int32) r33 r36 (v2.toInt64) r31 (bnd_mono (bnd_lit (2 : Int32)) (by decide +kernel) (by decide +kernel)) (bnd_mono br33 (by decide +kernel) (by decide +kernel)) br36).1 c49 (by decide +kernel)), (f_rm11_1_bnd (2 : Int32) r33 r36 (v2.toInt64) r31 (bnd_mono (bnd_lit (2 : Int32)) (by decide +kernel) (by decide +kernel)) (bnd_mono br33 (by decide +kernel) (by decide +kernel)) br36).2⟩
       refine Home.run X48 hx hby sg0_192_5 (pc' := 201) (L' := #[si i0, si i1, si i2, si i3, si 1, si v2, si v3, si v4, si v5, si v6, si v7, sr b1_28, sr b31_30, si r33, .val (.long (v2.toInt64)), .second, si r36]) (S' := [(.long (v2.toInt64)), (.int r36), (.int r33), (.int 3), (.ref b31_30)]) rfl ?_
       refine Home.st (own_pure (own_static X48 hx hZ hown (own_w52 hw) (own_w53 hw) (own_w4 hw) (own_w54 hw) (by decide) (rm11_1 l Z a0 hw [] b31_30 (3 : Int32) r33 r36 (v2.toInt64) k31_30 r31 T30.heap n0 O30 (bnd_mono (bnd_lit (3 : Int32)) (by decide +kernel) (by decide +kernel)) (bnd_mono br33 (by decide +kernel) (by decide +kernel)) br36 P30_0) e48 rfl (by rw [hml]; rfl) (argsL := [(.ref b31_30), (.int 3), (.int r33), (.int r36), (.long (v2.toInt64))]) (rest := []) (lenOf own_pd9 rfl) rfl rfl (W := 0) (by exact hW0) (by decide) (by decide) (hb hby at_201) (by decide) (by decide))) fun T52 X52 e52 => ?_
       by_cases c53 : (f_rm11_1 (3 : Int32) r33 r36 (v2.toInt64) r31) = (0 : Int32)
       ·
        refine Home.go (fun _ => XS.ifYes X52.here hx rfl (pc0 := 204) (pc' := 241) rfl (hb hby at_204) rfl ((if0 _ _).trans (teq c53).1) (by decide) (by decide)) ?_
        have bd54 : ¬ (f_rm11_1 (3 : Int32) r33 r36 (v2.toInt64) r31) < (0 : Int32) ∧ ¬ (0 : Int32) < (f_rm11_1 (3 : Int32) r33 r36 (v2.toInt64) r31) := ⟨(bnd_eql c53), (bnd_eqr c53)⟩
        refine Home.run X52 hx hby sg0_241_1 (pc' := 242) (L' := #[si i0, si i1, si i2, si i3, si 1, si v2, si v3, si v4, si v5, si v6, si v7, sr b1_28, sr b31_30, si r33, .val (.long (v2.toInt64)), .second, si r36]) (S' := [(.int 0)]) rfl ?_
        exact J64 X52 N30 e52 _ (by simp only [if_neg c41, if_neg c45, if_neg c49, if_pos c53])
       ·
        refine Home.go (fun _ => XS.ifNo X52.here hx rfl (hb hby at_204) rfl ((if0 _ _).trans (feq c53).1)) ?_
        have bd55 : ¬ (f_rm11_1 (3 : Int32) r33 r36 (v2.toInt64) r31) < (1 : Int32) ∧ ¬ (1 : Int32) < (f_rm11_1 (3 : Int32) r33 r36 (v2.toInt64) r31) := ⟨(bnd_nel (f_rm11_1_bnd (3 : Int32) r33 r36 (v2.toInt64) r31 (bnd_mono (bnd_lit (3 : Int32)) (by decide +kernel) (by decide +kernel)) (bnd_mono br33 (by decide +kernel) (by decide +kernel)) br36).1 c53 (by decide +kernel)), (f_rm11_1_bnd (3 : Int32) r33 r36 (v2.toInt64) r31 (bnd_mono (bnd_lit (3 : Int32)) (by decide +kernel) (by decide +kernel)) (bnd_mono br33 (by decide +kernel) (by decide +kernel)) br36).2⟩
        refine Home.run X52 hx hby sg0_207_5 (pc' := 216) (L' := #[si i0, si i1, si i2, si i3, si 1, si v2, si v3, si v4, si v5, si v6, si v7, sr b1_28, sr b31_30, si r33, .val (.long (v2.toInt64)), .second, si r36]) (S' := [(.long (v2.toInt64)), (.int r36), (.int r33), (.int 4), (.ref b31_30)]) rfl ?_
        refine Home.st (own_pure (own_static X52 hx hZ hown (own_w52 hw) (own_w53 hw) (own_w4 hw) (own_w54 hw) (by decide) (rm11_1 l Z a0 hw [] b31_30 (4 : Int32) r33 r36 (v2.toInt64) k31_30 r31 T30.heap n0 O30 (bnd_mono (bnd_lit (4 : Int32)) (by decide +kernel) (by decide +kernel)) (bnd_mono br33 (by decide +kernel) (by decide +kernel)) br36 P30_0) e52 rfl (by rw [hml]; rfl) (argsL := [(.ref b31_30), (.int 4), (.int r33), (.int r36), (.long (v2.toInt64))]) (rest := []) (lenOf own_pd9 rfl) rfl rfl (W := 0) (by exact hW0) (by decide) (by decide) (hb hby at_216) (by decide) (by decide))) fun T56 X56 e56 => ?_
        by_cases c57 : (f_rm11_1 (4 : Int32) r33 r36 (v2.toInt64) r31) = (0 : Int32)
        ·
         refine Home.go (fun _ => XS.ifYes X56.here hx rfl (pc0 := 219) (pc' := 241) rfl (hb hby at_219) rfl ((if0 _ _).trans (teq c57).1) (by decide) (by decide)) ?_
         have bd58 : ¬ (f_rm11_1 (4 : Int32) r33 r36 (v2.toInt64) r31) < (0 : Int32) ∧ ¬ (0 : Int32) < (f_rm11_1 (4 : Int32) r33 r36 (v2.toInt64) r31) := ⟨(bnd_eql c57), (bnd_eqr c57)⟩
         refine Home.run X56 hx hby sg0_241_1 (pc' := 242) (L' := #[si i0, si i1, si i2, si i3, si 1, si v2, si v3, si v4, si v5, si v6, si v7, sr b1_28, sr b31_30, si r33, .val (.long (v2.toInt64)), .second, si r36]) (S' := [(.int 0)]) rfl ?_
         exact J64 X56 N30 e56 _ (by simp only [if_neg c41, if_neg c45, if_neg c49, if_neg c53, if_pos c57])
        ·
         refine Home.go (fun _ => XS.ifNo X56.here hx rfl (hb hby at_219) rfl ((if0 _ _).trans (feq c57).1)) ?_
         have bd59 : ¬ (f_rm11_1 (4 : Int32) r33 r36 (v2.toInt64) r31) < (1 : Int32) ∧ ¬ (1 : Int32) < (f_rm11_1 (4 : Int32) r33 r36 (v2.toInt64) r31) := ⟨(bnd_nel (f_rm11_1_bnd (4 : Int32) r33 r36 (v2.toInt64) r31 (bnd_mono (bnd_lit (4 : Int32)) (by decide +kernel) (by decide +kernel)) (bnd_mono br33 (by decide +kernel) (by decide +kernel)) br36).1 c57 (by decide +kernel)), (f_rm11_1_bnd (4 : Int32) r33 r36 (v2.toInt64) r31 (bnd_mono (bnd_lit (4 : Int32)) (by decide +kernel) (by decide +kernel)) (bnd_mono br33 (by decide +kernel) (by decide +kernel)) br36).2⟩
         refine Home.run X56 hx hby sg0_222_5 (pc' := 231) (L' := #[si i0, si i1, si i2, si i3, si 1, si v2, si v3, si v4, si v5, si v6, si v7, sr b1_28, sr b31_30, si r33, .val (.long (v2.toInt64)), .second, si r36]) (S' := [(.long (v2.toInt64)), (.int r36), (.int r33), (.int 5), (.ref b31_30)]) rfl ?_
         refine Home.st (own_pure (own_static X56 hx hZ hown (own_w52 hw) (own_w53 hw) (own_w4 hw) (own_w54 hw) (by decide) (rm11_1 l Z a0 hw [] b31_30 (5 : Int32) r33 r36 (v2.toInt64) k31_30 r31 T30.heap n0 O30 (bnd_mono (bnd_lit (5 : Int32)) (by decide +kernel) (by decide +kernel)) (bnd_mono br33 (by decide +kernel) (by decide +kernel)) br36 P30_0) e56 rfl (by rw [hml]; rfl) (argsL := [(.ref b31_30), (.int 5), (.int r33), (.int r36), (.long (v2.toInt64))]) (rest := []) (lenOf own_pd9 rfl) rfl rfl (W := 0) (by exact hW0) (by decide) (by decide) (hb hby at_231) (by decide) (by decide))) fun T60 X60 e60 => ?_
         by_cases c61 : (f_rm11_1 (5 : Int32) r33 r36 (v2.toInt64) r31) = (0 : Int32)
         ·
          refine Home.go (fun _ => XS.ifYes X60.here hx rfl (pc0 := 234) (pc' := 241) rfl (hb hby at_234) rfl ((if0 _ _).trans (teq c61).1) (by decide) (by decide)) ?_
          have bd62 : ¬ (f_rm11_1 (5 : Int32) r33 r36 (v2.toInt64) r31) < (0 : Int32) ∧ ¬ (0 : Int32) < (f_rm11_1 (5 : Int32) r33 r36 (v2.toInt64) r31) := ⟨(bnd_eql c61), (bnd_eqr c61)⟩
          refine Home.run X60 hx hby sg0_241_1 (pc' := 242) (L' := #[si i0, si i1, si i2, si i3, si 1, si v2, si v3, si v4, si v5, si v6, si v7, sr b1_28, sr b31_30, si r33, .val (.long (v2.toInt64)), .second, si r36]) (S' := [(.int 0)]) rfl ?_
          exact J64 X60 N30 e60 _ (by simp only [if_neg c41, if_neg c45, if_neg c49, if_neg c53, if_neg c57, if_pos c61])
         ·
          refine Home.go (fun _ => XS.ifNo X60.here hx rfl (hb hby at_234) rfl ((if0 _ _).trans (feq c61).1)) ?_
          have bd63 : ¬ (f_rm11_1 (5 : Int32) r33 r36 (v2.toInt64) r31) < (1 : Int32) ∧ ¬ (1 : Int32) < (f_rm11_1 (5 : Int32) r33 r36 (v2.toInt64) r31) := ⟨(bnd_nel (f_rm11_1_bnd (5 : Int32) r33 r36 (v2.toInt64) r31 (bnd_mono (bnd_lit (5 : Int32)) (by decide +kernel) (by decide +kernel)) (bnd_mono br33 (by decide +kernel) (by decide +kernel)) br36).1 c61 (by decide +kernel)), (f_rm11_1_bnd (5 : Int32) r33 r36 (v2.toInt64) r31 (bnd_mono (bnd_lit (5 : Int32)) (by decide +kernel) (by decide +kernel)) (bnd_mono br33 (by decide +kernel) (by decide +kernel)) br36).2⟩
          refine Home.run X60 hx hby sg0_237_2 (pc' := 242) (L' := #[si i0, si i1, si i2, si i3, si 1, si v2, si v3, si v4, si v5, si v6, si v7, sr b1_28, sr b31_30, si r33, .val (.long (v2.toInt64)), .second, si r36]) (S' := [(.int 1)]) rfl ?_
          exact J64 X60 N30 e60 _ (by simp only [if_neg c41, if_neg c45, if_neg c49, if_neg c53, if_neg c57, if_neg c61])
   intro TJ64 lcJ64 XJ64 NJ64 eJ64 v65 hv65
   have bv65 : ¬ v65 < (0 : Int32) ∧ ¬ (1 : Int32) < v65 := by rw [hv65]; exact (bnd_ite (bnd_mono (bnd_lit (0 : Int32)) (by decide +kernel) (by decide +kernel)) (bnd_ite (bnd_mono (bnd_lit (0 : Int32)) (by decide +kernel) (by decide +kernel)) (bnd_ite (bnd_mono (bnd_lit (0 : Int32)) (by decide +kernel) (by decide +kernel)) (bnd_ite (bnd_mono (bnd_lit (0 : Int32)) (by decide +kernel) (by decide +kernel)) (bnd_ite (bnd_mono (bnd_lit (0 : Int32)) (by decide +kernel) (by decide +kernel)) (bnd_ite (bnd_mono (bnd_lit (0 : Int32)) (by decide +kernel) (by decide +kernel)) (bnd_mono (bnd_lit (1 : Int32)) (by decide +kernel) (by decide +kernel))))))))
   show Home TJ64 (mkF m 242 #[si i0, si i1, si i2, si i3, si 1, si v2, si v3, si v4, si v5, si v6, si v7, sr b1_28, sr b31_30, si r33, .val (.long (v2.toInt64)), .second, si r36] [(.int v65)])
   exact HomeW.retN XJ64 hx hlk hZ (own_hEL hw) eJ64 Ce30 (t := .boolean) hret (by simp) (hb hby at_242) ⟨congrArg some (congrArg Value.int (own_end6 i1 v2 hv2 r29 hr29 r31 hr31 r33 hr33 r36 hr36 r40 hr40 v65 hv65)), NJ64⟩ (by decide) (by decide)
  ·
   have bd27 : ¬ v1 < (2 : Int32) ∧ ¬ (6 : Int32) < v1 := ⟨(bnd_nel bd11.1 c24 (by decide +kernel)), bd11.2⟩
   by_cases c66 : v1 = (2 : Int32)
   ·
    have bd67 : ¬ v1 < (2 : Int32) ∧ ¬ (2 : Int32) < v1 := ⟨(bnd_eql c66), (bnd_eqr c66)⟩
    have fx68 : v1 = (2 : Int32) := bnd_fix bd67
    try rw [fx68]
    show Home s₁ (mkF m 63 #[si i0, si i1, si i2, si i3, si 2, si v2, si v3, si v4, si v5, si v6, si v7, un, un, un, un, un, un] [])
    refine Home.run X0 hx hby sg0_63_7 (pc' := 77) (L' := #[si i0, si i1, si i2, si i3, si 2, si v2, si v3, si v4, si v5, si v6, si v7, un, un, un, un, un, un]) (S' := [(.int v7), (.int v6), (.int v5), (.int v4), (.int v3), (.int v2), (.int 2)]) rfl ?_
    refine Home.call (own_staticW X0 hx hZ hown (own_hEL hw) Cd0 all0 (own_w2 hw) (own_w3 hw) (own_w4 hw) (own_w5 hw) (by decide) (rm1_2 l Z a0 hw [] v2 v3 v4 v5 v6 v7 sv_COMPACT_STRINGS sv_SIOOBE_FORMATTER h0 n0 O0 bv2 bv3 bv4 bv5 bv6 bv7 S_COMPACT_STRINGS S_SIOOBE_FORMATTER hCS isr_sv_SIOOBE_FORMATTER) e0 rfl (by rw [hml]; rfl) (argsL := [(.int 2), (.int v2), (.int v3), (.int v4), (.int v5), (.int v6), (.int v7)]) (rest := []) (lenOf own_pd2 rfl) rfl rfl (W := 0) (by exact hW0) (by decide) (by decide) (hb hby at_77) (by decide) (by decide)) ?_
    rintro _ T70 L70 X70 ⟨⟨b1_70, b1_3_2_15_70, k1_3_2_15_70, rfl, N70q, sz_b1_70, sz_b1_3_2_15_70, K70q, P70_0, P70_1, P70_2, P70_3⟩, hZ, hown, Cd70, sR70⟩
    have Ce70 := Cold.put Cd70 (sR70 rfl _ rfl)
    have g_b1_70 : n0 ≤ b1_70 := Nat.le_trans (Old.le O0) sz_b1_70
    have g_b1_3_2_15_70 : n0 ≤ b1_3_2_15_70 := Nat.le_trans (Old.le O0) sz_b1_3_2_15_70
    have O70 := Old.keep O0 K70q all0
    have K70 : Keep h0 T70.heap ([] : List Addr) := Keep.trans (Keep.refl h0 ([] : List Addr)) K70q all0
    have N70 := Fr.app N0 N70q
    show Home T70 (mkF m 80 #[si i0, si i1, si i2, si i3, si 2, si v2, si v3, si v4, si v5, si v6, si v7, un, un, un, un, un, un] [(.ref b1_70)])
    obtain ⟨r71, hr71⟩ : ∃ z, z = ((nar .char ((own_at own_TI0 v2) &&& (255 : Int32))).toInt8.toInt32) := ⟨_, rfl⟩
    rw [← hr71] at P70_3
    obtain ⟨r72, hr72⟩ : ∃ z, z = ((nar .char ((own_at own_TI0 v3) &&& (255 : Int32))).toInt8.toInt32) := ⟨_, rfl⟩
    rw [← hr72] at P70_3
    refine Home.run X70 hx hby sg0_80_2 (pc' := 84) (L' := #[si i0, si i1, si i2, si i3, si 2, si v2, si v3, si v4, si v5, si v6, si v7, sr b1_70, un, un, un, un, un]) (S' := [(.ref b1_70)]) rfl ?_
    refine Home.call (own_staticW X70 hx hZ hown (own_hEL hw) Ce70 all0 (own_w28 hw) (own_w29 hw) (own_w30 hw) (own_w31 hw) (by decide) (rm5_1 l Z a0 hw [] b1_70 b1_3_2_15_70 k1_3_2_15_70 [r71, r72] sv_COMPACT_STRINGS sv_SIOOBE_FORMATTER T70.heap n0 O70 (show (0 : Int32) < Int32.ofNat 2 by decide) P70_0 P70_1 P70_3 S_COMPACT_STRINGS P70_2 hCS (Nat.le_trans (own_len_lit (l := [r71, r72]) (n := 2) rfl).2 (by decide)) S_SIOOBE_FORMATTER isr_sv_SIOOBE_FORMATTER (List.forall_mem_cons.mpr ⟨own_hv bv2 hr71, (List.forall_mem_cons.mpr ⟨own_hv bv3 hr72, (fun _ q => nomatch q)⟩)⟩)) rfl rfl (by rw [hml]; rfl) (argsL := [(.ref b1_70)]) (rest := []) (lenOf own_pd5 rfl) rfl rfl (W := 0) (by exact hW0) (by decide) (by decide) (hb hby at_84) (by decide) (by decide)) ?_
    rintro _ T73 L73 X73 ⟨⟨b31_73, k31_73, rfl, N73q, sz_b31_73, K73q, P73_0⟩, hZ, hown, Cd73, sR73⟩
    have Ce73 := Cold.put Cd73 (sR73 rfl _ rfl)
    have g_b31_73 : n0 ≤ b31_73 := Nat.le_trans (Old.le O70) sz_b31_73
    have O73 := Old.keep O70 K73q all0
    have K73 : Keep h0 T73.heap ([] : List Addr) := Keep.trans K70 K73q all0
    have N73 := Fr.app N70 N73q
    show Home T73 (mkF m 87 #[si i0, si i1, si i2, si i3, si 2, si v2, si v3, si v4, si v5, si v6, si v7, sr b1_70, un, un, un, un, un] [(.ref b31_73)])
    obtain ⟨r74, hr74⟩ : ∃ z, z = (own_dec [r71, r72]) := ⟨_, rfl⟩
    rw [← hr74] at P73_0
    refine Home.run X73 hx hby sg0_87_8 (pc' := 103) (L' := #[si i0, si i1, si i2, si i3, si 2, si v2, si v3, si v4, si v5, si v6, si v7, sr b1_70, sr b31_73, un, un, un, un]) (S' := [(.int v7), (.int v6), (.int v5), (.int v4), (.int v3), (.int v2), (.int 2)]) rfl ?_
    refine Home.st (own_pure (own_static X73 hx hZ hown (own_w43 hw) (own_w44 hw) (own_w4 hw) (own_w45 hw) (by decide) (rm8_2 l Z a0 hw [] v2 v3 v4 v5 v6 v7 T73.heap n0 O73 bv2 bv3 bv4 bv5 bv6 bv7) rfl rfl (by rw [hml]; rfl) (argsL := [(.int 2), (.int v2), (.int v3), (.int v4), (.int v5), (.int v6), (.int v7)]) (rest := []) (lenOf own_pd6 rfl) rfl rfl (W := 0) (by exact hW0) (by decide) (by decide) (hb hby at_103) (by decide) (by decide))) fun T75 X75 e75 => ?_
    show Home T75 (mkF m 106 #[si i0, si i1, si i2, si i3, si 2, si v2, si v3, si v4, si v5, si v6, si v7, sr b1_70, sr b31_73, un, un, un, un] [(.int (f_rm8_2 v2 v3))])
    obtain ⟨r76, hr76⟩ : ∃ z, z = (f_rm8_2 v2 v3) := ⟨_, rfl⟩
    rw [← hr76]
    have br76 : ¬ r76 < (0 : Int32) ∧ ¬ (2 : Int32) < r76 := by rw [hr76]; exact f_rm8_2_bnd v2 v3 v4 v5 v6 v7 bv2 bv3 bv4 bv5 bv6 bv7
    refine Home.run X75 hx hby sg0_106_8 (pc' := 122) (L' := #[si i0, si i1, si i2, si i3, si 2, si v2, si v3, si v4, si v5, si v6, si v7, sr b1_70, sr b31_73, si r76, un, un, un]) (S' := [(.int v7), (.int v6), (.int v5), (.int v4), (.int v3), (.int v2), (.int 2)]) rfl ?_
    refine Home.st (own_pure (own_static X75 hx hZ hown (own_w46 hw) (own_w47 hw) (own_w4 hw) (own_w48 hw) (by decide) (rm9_2 l Z a0 hw [] v2 v3 v4 v5 v6 v7 T73.heap n0 O73 bv2 bv3 bv4 bv5 bv6 bv7) e75 rfl (by rw [hml]; rfl) (argsL := [(.int 2), (.int v2), (.int v3), (.int v4), (.int v5), (.int v6), (.int v7)]) (rest := []) (lenOf own_pd7 rfl) rfl rfl (W := 0) (by exact hW0) (by decide) (by decide) (hb hby at_122) (by decide) (by decide))) fun T77 X77 e77 => ?_
    refine Home.run X77 hx hby sg0_125_1 (pc' := 127) (L' := #[si i0, si i1, si i2, si i3, si 2, si v2, si v3, si v4, si v5, si v6, si v7, sr b1_70, sr b31_73, si r76, .val (.long (((v2.toInt64) * (58 : Int64)) + (v3.toInt64))), .second, un]) (S' := []) rfl ?_
    obtain ⟨v78, hv78⟩ : ∃ z, z = (((v2.toInt64) * (58 : Int64)) + (v3.toInt64)) := ⟨_, rfl⟩
    rw [← hv78]
    refine Home.run X77 hx hby sg0_127_1 (pc' := 129) (L' := #[si i0, si i1, si i2, si i3, si 2, si v2, si v3, si v4, si v5, si v6, si v7, sr b1_70, sr b31_73, si r76, .val (.long v78), .second, un]) (S' := [(.long v78)]) rfl ?_
    refine Home.st (own_pure (own_static X77 hx hZ hown (own_w49 hw) (own_w50 hw) (own_w4 hw) (own_w51 hw) (by decide) (rm10_1 l Z a0 hw [] v78 T73.heap n0 O73) e77 rfl (by rw [hml]; rfl) (argsL := [(.long v78)]) (rest := []) (lenOf own_pd8 rfl) rfl rfl (W := 0) (by exact hW0) (by decide) (by decide) (hb hby at_129) (by decide) (by decide))) fun T79 X79 e79 => ?_
    show Home T79 (mkF m 132 #[si i0, si i1, si i2, si i3, si 2, si v2, si v3, si v4, si v5, si v6, si v7, sr b1_70, sr b31_73, si r76, .val (.long v78), .second, un] [(.int (f_rm10_1 v78))])
    obtain ⟨r80, hr80⟩ : ∃ z, z = (f_rm10_1 v78) := ⟨_, rfl⟩
    rw [← hr80]
    have br80 : ¬ r80 < (0 : Int32) ∧ ¬ (5 : Int32) < r80 := by rw [hr80]; exact f_rm10_1_bnd v78
    refine Home.run X79 hx hby sg0_132_2 (pc' := 136) (L' := #[si i0, si i1, si i2, si i3, si 2, si v2, si v3, si v4, si v5, si v6, si v7, sr b1_70, sr b31_73, si r76, .val (.long v78), .second, si r80]) (S' := [(.ref b31_73)]) rfl ?_
    obtain ⟨cl81, Ar81, q81, S81, M81, H81, G81⟩ := id P73_0
    refine Home.go (own_alen X79 hx hZ e79 Ar81 S81 M81 rfl rfl (hb hby at_136)) ?_
    refine Home.run X79 hx hby sg0_137_3 (pc' := 142) (L' := #[si i0, si i1, si i2, si i3, si 2, si v2, si v3, si v4, si v5, si v6, si v7, sr b1_70, sr b31_73, si r76, .val (.long v78), .second, si r80]) (S' := [(.int (r76 + r80)), (.int (own_n r74))]) rfl ?_
    have hl82 := (own_ln82 i1 v2 hv2 v3 hv3 r71 hr71 r72 hr72 r74 hr74 r76 hr76 v78 hv78 r80 hr80)
    refine Home.go (fun _ => XS.icmpYes X79.here hx rfl (pc0 := 142) (pc' := 147) rfl (hb hby at_142) rfl (teq hl82).1 (by decide) (by decide)) ?_
    refine Home.run X79 hx hby sg0_147_5 (pc' := 156) (L' := #[si i0, si i1, si i2, si i3, si 2, si v2, si v3, si v4, si v5, si v6, si v7, sr b1_70, sr b31_73, si r76, .val (.long v78), .second, si r80]) (S' := [(.long v78), (.int r80), (.int r76), (.int 0), (.ref b31_73)]) rfl ?_
    refine Home.st (own_pure (own_static X79 hx hZ hown (own_w52 hw) (own_w53 hw) (own_w4 hw) (own_w54 hw) (by decide) (rm11_1 l Z a0 hw [] b31_73 (0 : Int32) r76 r80 v78 k31_73 r74 T73.heap n0 O73 (bnd_mono (bnd_lit (0 : Int32)) (by decide +kernel) (by decide +kernel)) (bnd_mono br76 (by decide +kernel) (by decide +kernel)) br80 P73_0) e79 rfl (by rw [hml]; rfl) (argsL := [(.ref b31_73), (.int 0), (.int r76), (.int r80), (.long v78)]) (rest := []) (lenOf own_pd9 rfl) rfl rfl (W := 0) (by exact hW0) (by decide) (by decide) (hb hby at_156) (by decide) (by decide))) fun T83 X83 e83 => ?_
    show Home T83 (mkF m 159 #[si i0, si i1, si i2, si i3, si 2, si v2, si v3, si v4, si v5, si v6, si v7, sr b1_70, sr b31_73, si r76, .val (.long v78), .second, si r80] [(.int (f_rm11_1 (0 : Int32) r76 r80 v78 r74))])
    obtain ⟨r84, hr84⟩ : ∃ z, z = (f_rm11_1 (0 : Int32) r76 r80 v78 r74) := ⟨_, rfl⟩
    rw [← hr84]
    have br84 : ¬ r84 < (0 : Int32) ∧ ¬ (1 : Int32) < r84 := by rw [hr84]; exact f_rm11_1_bnd (0 : Int32) r76 r80 v78 r74 (bnd_mono (bnd_lit (0 : Int32)) (by decide +kernel) (by decide +kernel)) (bnd_mono br76 (by decide +kernel) (by decide +kernel)) br80
    suffices J108 : ∀ {T : State} {lc : List Loc} (X : Stand p l e room_1 (s.setVm T73.vm) m #[(.int i0), (.int i1), (.int i2), (.int i3)] below meth c T lc 11 734) (N : Fr n0 lc) (eT : T.heap = T73.heap) (v109 : Int32) (hv109 : v109 = (if r84 = (0 : Int32) then (0 : Int32) else (if (f_rm11_1 (1 : Int32) r76 r80 v78 r74) = (0 : Int32) then (0 : Int32) else (if (f_rm11_1 (2 : Int32) r76 r80 v78 r74) = (0 : Int32) then (0 : Int32) else (if (f_rm11_1 (3 : Int32) r76 r80 v78 r74) = (0 : Int32) then (0 : Int32) else (if (f_rm11_1 (4 : Int32) r76 r80 v78 r74) = (0 : Int32) then (0 : Int32) else (if (f_rm11_1 (5 : Int32) r76 r80 v78 r74) = (0 : Int32) then (0 : Int32) else (1 : Int32)))))))), @Home p e below _ T (mkF m 242 #[si i0, si i1, si i2, si i3, si 2, si v2, si v3, si v4, si v5, si v6, si v7, sr b1_70, sr b31_73, si r76, .val (.long v78), .second, si r80] [(.int v109)]) by
     by_cases c85 : r84 = (0 : Int32)
     ·
      refine Home.go (fun _ => XS.ifYes X83.here hx rfl (pc0 := 159) (pc' := 241) rfl (hb hby at_159) rfl ((if0 _ _).trans (teq c85).1) (by decide) (by decide)) ?_
      have bd86 : ¬ r84 < (0 : Int32) ∧ ¬ (0 : Int32) < r84 := ⟨(bnd_eql c85), (bnd_eqr c85)⟩
      refine Home.run X83 hx hby sg0_241_1 (pc' := 242) (L' := #[si i0, si i1, si i2, si i3, si 2, si v2, si v3, si v4, si v5, si v6, si v7, sr b1_70, sr b31_73, si r76, .val (.long v78), .second, si r80]) (S' := [(.int 0)]) rfl ?_
      exact J108 X83 N73 e83 _ (by simp only [if_pos c85])
     ·
      refine Home.go (fun _ => XS.ifNo X83.here hx rfl (hb hby at_159) rfl ((if0 _ _).trans (feq c85).1)) ?_
      have bd87 : ¬ r84 < (1 : Int32) ∧ ¬ (1 : Int32) < r84 := ⟨(bnd_nel br84.1 c85 (by decide +kernel)), br84.2⟩
      refine Home.run X83 hx hby sg0_162_5 (pc' := 171) (L' := #[si i0, si i1, si i2, si i3, si 2, si v2, si v3, si v4, si v5, si v6, si v7, sr b1_70, sr b31_73, si r76, .val (.long v78), .second, si r80]) (S' := [(.long v78), (.int r80), (.int r76), (.int 1), (.ref b31_73)]) rfl ?_
      refine Home.st (own_pure (own_static X83 hx hZ hown (own_w52 hw) (own_w53 hw) (own_w4 hw) (own_w54 hw) (by decide) (rm11_1 l Z a0 hw [] b31_73 (1 : Int32) r76 r80 v78 k31_73 r74 T73.heap n0 O73 (bnd_mono (bnd_lit (1 : Int32)) (by decide +kernel) (by decide +kernel)) (bnd_mono br76 (by decide +kernel) (by decide +kernel)) br80 P73_0) e83 rfl (by rw [hml]; rfl) (argsL := [(.ref b31_73), (.int 1), (.int r76), (.int r80), (.long v78)]) (rest := []) (lenOf own_pd9 rfl) rfl rfl (W := 0) (by exact hW0) (by decide) (by decide) (hb hby at_171) (by decide) (by decide))) fun T88 X88 e88 => ?_
      by_cases c89 : (f_rm11_1 (1 : Int32) r76 r80 v78 r74) = (0 : Int32)
      ·
       refine Home.go (fun _ => XS.ifYes X88.here hx rfl (pc0 := 174) (pc' := 241) rfl (hb hby at_174) rfl ((if0 _ _).trans (teq c89).1) (by decide) (by decide)) ?_
       have bd90 : ¬ (f_rm11_1 (1 : Int32) r76 r80 v78 r74) < (0 : Int32) ∧ ¬ (0 : Int32) < (f_rm11_1 (1 : Int32) r76 r80 v78 r74) := ⟨(bnd_eql c89), (bnd_eqr c89)⟩
       refine Home.run X88 hx hby sg0_241_1 (pc' := 242) (L' := #[si i0, si i1, si i2, si i3, si 2, si v2, si v3, si v4, si v5, si v6, si v7, sr b1_70, sr b31_73, si r76, .val (.long v78), .second, si r80]) (S' := [(.int 0)]) rfl ?_
       exact J108 X88 N73 e88 _ (by simp only [if_neg c85, if_pos c89])
      ·
       refine Home.go (fun _ => XS.ifNo X88.here hx rfl (hb hby at_174) rfl ((if0 _ _).trans (feq c89).1)) ?_
       have bd91 : ¬ (f_rm11_1 (1 : Int32) r76 r80 v78 r74) < (1 : Int32) ∧ ¬ (1 : Int32) < (f_rm11_1 (1 : Int32) r76 r80 v78 r74) := ⟨(bnd_nel (f_rm11_1_bnd (1 : Int32) r76 r80 v78 r74 (bnd_mono (bnd_lit (1 : Int32)) (by decide +kernel) (by decide +kernel)) (bnd_mono br76 (by decide +kernel) (by decide +kernel)) br80).1 c89 (by decide +kernel)), (f_rm11_1_bnd (1 : Int32) r76 r80 v78 r74 (bnd_mono (bnd_lit (1 : Int32)) (by decide +kernel) (by decide +kernel)) (bnd_mono br76 (by decide +kernel) (by decide +kernel)) br80).2⟩
       refine Home.run X88 hx hby sg0_177_5 (pc' := 186) (L' := #[si i0, si i1, si i2, si i3, si 2, si v2, si v3, si v4, si v5, si v6, si v7, sr b1_70, sr b31_73, si r76, .val (.long v78), .second, si r80]) (S' := [(.long v78), (.int r80), (.int r76), (.int 2), (.ref b31_73)]) rfl ?_
       refine Home.st (own_pure (own_static X88 hx hZ hown (own_w52 hw) (own_w53 hw) (own_w4 hw) (own_w54 hw) (by decide) (rm11_1 l Z a0 hw [] b31_73 (2 : Int32) r76 r80 v78 k31_73 r74 T73.heap n0 O73 (bnd_mono (bnd_lit (2 : Int32)) (by decide +kernel) (by decide +kernel)) (bnd_mono br76 (by decide +kernel) (by decide +kernel)) br80 P73_0) e88 rfl (by rw [hml]; rfl) (argsL := [(.ref b31_73), (.int 2), (.int r76), (.int r80), (.long v78)]) (rest := []) (lenOf own_pd9 rfl) rfl rfl (W := 0) (by exact hW0) (by decide) (by decide) (hb hby at_186) (by decide) (by decide))) fun T92 X92 e92 => ?_
       by_cases c93 : (f_rm11_1 (2 : Int32) r76 r80 v78 r74) = (0 : Int32)
       ·
        refine Home.go (fun _ => XS.ifYes X92.here hx rfl (pc0 := 189) (pc' := 241) rfl (hb hby at_189) rfl ((if0 _ _).trans (teq c93).1) (by decide) (by decide)) ?_
        have bd94 : ¬ (f_rm11_1 (2 : Int32) r76 r80 v78 r74) < (0 : Int32) ∧ ¬ (0 : Int32) < (f_rm11_1 (2 : Int32) r76 r80 v78 r74) := ⟨(bnd_eql c93), (bnd_eqr c93)⟩
        refine Home.run X92 hx hby sg0_241_1 (pc' := 242) (L' := #[si i0, si i1, si i2, si i3, si 2, si v2, si v3, si v4, si v5, si v6, si v7, sr b1_70, sr b31_73, si r76, .val (.long v78), .second, si r80]) (S' := [(.int 0)]) rfl ?_
        exact J108 X92 N73 e92 _ (by simp only [if_neg c85, if_neg c89, if_pos c93])
       ·
        refine Home.go (fun _ => XS.ifNo X92.here hx rfl (hb hby at_189) rfl ((if0 _ _).trans (feq c93).1)) ?_
        have bd95 : ¬ (f_rm11_1 (2 : Int32) r76 r80 v78 r74) < (1 : Int32) ∧ ¬ (1 : Int32) < (f_rm11_1 (2 : Int32) r76 r80 v78 r74) := ⟨(bnd_nel (f_rm11_1_bnd (2 : Int32) r76 r80 v78 r74 (bnd_mono (bnd_lit (2 : Int32)) (by decide +kernel) (by decide +kernel)) (bnd_mono br76 (by decide +kernel) (by decide +kernel)) br80).1 c93 (by decide +kernel)), (f_rm11_1_bnd (2 : Int32) r76 r80 v78 r74 (bnd_mono (bnd_lit (2 : Int32)) (by decide +kernel) (by decide +kernel)) (bnd_mono br76 (by decide +kernel) (by decide +kernel)) br80).2⟩
        refine Home.run X92 hx hby sg0_192_5 (pc' := 201) (L' := #[si i0, si i1, si i2, si i3, si 2, si v2, si v3, si v4, si v5, si v6, si v7, sr b1_70, sr b31_73, si r76, .val (.long v78), .second, si r80]) (S' := [(.long v78), (.int r80), (.int r76), (.int 3), (.ref b31_73)]) rfl ?_
        refine Home.st (own_pure (own_static X92 hx hZ hown (own_w52 hw) (own_w53 hw) (own_w4 hw) (own_w54 hw) (by decide) (rm11_1 l Z a0 hw [] b31_73 (3 : Int32) r76 r80 v78 k31_73 r74 T73.heap n0 O73 (bnd_mono (bnd_lit (3 : Int32)) (by decide +kernel) (by decide +kernel)) (bnd_mono br76 (by decide +kernel) (by decide +kernel)) br80 P73_0) e92 rfl (by rw [hml]; rfl) (argsL := [(.ref b31_73), (.int 3), (.int r76), (.int r80), (.long v78)]) (rest := []) (lenOf own_pd9 rfl) rfl rfl (W := 0) (by exact hW0) (by decide) (by decide) (hb hby at_201) (by decide) (by decide))) fun T96 X96 e96 => ?_
        by_cases c97 : (f_rm11_1 (3 : Int32) r76 r80 v78 r74) = (0 : Int32)
        ·
         refine Home.go (fun _ => XS.ifYes X96.here hx rfl (pc0 := 204) (pc' := 241) rfl (hb hby at_204) rfl ((if0 _ _).trans (teq c97).1) (by decide) (by decide)) ?_
         have bd98 : ¬ (f_rm11_1 (3 : Int32) r76 r80 v78 r74) < (0 : Int32) ∧ ¬ (0 : Int32) < (f_rm11_1 (3 : Int32) r76 r80 v78 r74) := ⟨(bnd_eql c97), (bnd_eqr c97)⟩
         refine Home.run X96 hx hby sg0_241_1 (pc' := 242) (L' := #[si i0, si i1, si i2, si i3, si 2, si v2, si v3, si v4, si v5, si v6, si v7, sr b1_70, sr b31_73, si r76, .val (.long v78), .second, si r80]) (S' := [(.int 0)]) rfl ?_
         exact J108 X96 N73 e96 _ (by simp only [if_neg c85, if_neg c89, if_neg c93, if_pos c97])
        ·
         refine Home.go (fun _ => XS.ifNo X96.here hx rfl (hb hby at_204) rfl ((if0 _ _).trans (feq c97).1)) ?_
         have bd99 : ¬ (f_rm11_1 (3 : Int32) r76 r80 v78 r74) < (1 : Int32) ∧ ¬ (1 : Int32) < (f_rm11_1 (3 : Int32) r76 r80 v78 r74) := ⟨(bnd_nel (f_rm11_1_bnd (3 : Int32) r76 r80 v78 r74 (bnd_mono (bnd_lit (3 : Int32)) (by decide +kernel) (by decide +kernel)) (bnd_mono br76 (by decide +kernel) (by decide +kernel)) br80).1 c97 (by decide +kernel)), (f_rm11_1_bnd (3 : Int32) r76 r80 v78 r74 (bnd_mono (bnd_lit (3 : Int32)) (by decide +kernel) (by decide +kernel)) (bnd_mono br76 (by decide +kernel) (by decide +kernel)) br80).2⟩
         refine Home.run X96 hx hby sg0_207_5 (pc' := 216) (L' := #[si i0, si i1, si i2, si i3, si 2, si v2, si v3, si v4, si v5, si v6, si v7, sr b1_70, sr b31_73, si r76, .val (.long v78), .second, si r80]) (S' := [(.long v78), (.int r80), (.int r76), (.int 4), (.ref b31_73)]) rfl ?_
         refine Home.st (own_pure (own_static X96 hx hZ hown (own_w52 hw) (own_w53 hw) (own_w4 hw) (own_w54 hw) (by decide) (rm11_1 l Z a0 hw [] b31_73 (4 : Int32) r76 r80 v78 k31_73 r74 T73.heap n0 O73 (bnd_mono (bnd_lit (4 : Int32)) (by decide +kernel) (by decide +kernel)) (bnd_mono br76 (by decide +kernel) (by decide +kernel)) br80 P73_0) e96 rfl (by rw [hml]; rfl) (argsL := [(.ref b31_73), (.int 4), (.int r76), (.int r80), (.long v78)]) (rest := []) (lenOf own_pd9 rfl) rfl rfl (W := 0) (by exact hW0) (by decide) (by decide) (hb hby at_216) (by decide) (by decide))) fun T100 X100 e100 => ?_
         by_cases c101 : (f_rm11_1 (4 : Int32) r76 r80 v78 r74) = (0 : Int32)
         ·
          refine Home.go (fun _ => XS.ifYes X100.here hx rfl (pc0 := 219) (pc' := 241) rfl (hb hby at_219) rfl ((if0 _ _).trans (teq c101).1) (by decide) (by decide)) ?_
          have bd102 : ¬ (f_rm11_1 (4 : Int32) r76 r80 v78 r74) < (0 : Int32) ∧ ¬ (0 : Int32) < (f_rm11_1 (4 : Int32) r76 r80 v78 r74) := ⟨(bnd_eql c101), (bnd_eqr c101)⟩
          refine Home.run X100 hx hby sg0_241_1 (pc' := 242) (L' := #[si i0, si i1, si i2, si i3, si 2, si v2, si v3, si v4, si v5, si v6, si v7, sr b1_70, sr b31_73, si r76, .val (.long v78), .second, si r80]) (S' := [(.int 0)]) rfl ?_
          exact J108 X100 N73 e100 _ (by simp only [if_neg c85, if_neg c89, if_neg c93, if_neg c97, if_pos c101])
         ·
          refine Home.go (fun _ => XS.ifNo X100.here hx rfl (hb hby at_219) rfl ((if0 _ _).trans (feq c101).1)) ?_
          have bd103 : ¬ (f_rm11_1 (4 : Int32) r76 r80 v78 r74) < (1 : Int32) ∧ ¬ (1 : Int32) < (f_rm11_1 (4 : Int32) r76 r80 v78 r74) := ⟨(bnd_nel (f_rm11_1_bnd (4 : Int32) r76 r80 v78 r74 (bnd_mono (bnd_lit (4 : Int32)) (by decide +kernel) (by decide +kernel)) (bnd_mono br76 (by decide +kernel) (by decide +kernel)) br80).1 c101 (by decide +kernel)), (f_rm11_1_bnd (4 : Int32) r76 r80 v78 r74 (bnd_mono (bnd_lit (4 : Int32)) (by decide +kernel) (by decide +kernel)) (bnd_mono br76 (by decide +kernel) (by decide +kernel)) br80).2⟩
          refine Home.run X100 hx hby sg0_222_5 (pc' := 231) (L' := #[si i0, si i1, si i2, si i3, si 2, si v2, si v3, si v4, si v5, si v6, si v7, sr b1_70, sr b31_73, si r76, .val (.long v78), .second, si r80]) (S' := [(.long v78), (.int r80), (.int r76), (.int 5), (.ref b31_73)]) rfl ?_
          refine Home.st (own_pure (own_static X100 hx hZ hown (own_w52 hw) (own_w53 hw) (own_w4 hw) (own_w54 hw) (by decide) (rm11_1 l Z a0 hw [] b31_73 (5 : Int32) r76 r80 v78 k31_73 r74 T73.heap n0 O73 (bnd_mono (bnd_lit (5 : Int32)) (by decide +kernel) (by decide +kernel)) (bnd_mono br76 (by decide +kernel) (by decide +kernel)) br80 P73_0) e100 rfl (by rw [hml]; rfl) (argsL := [(.ref b31_73), (.int 5), (.int r76), (.int r80), (.long v78)]) (rest := []) (lenOf own_pd9 rfl) rfl rfl (W := 0) (by exact hW0) (by decide) (by decide) (hb hby at_231) (by decide) (by decide))) fun T104 X104 e104 => ?_
          by_cases c105 : (f_rm11_1 (5 : Int32) r76 r80 v78 r74) = (0 : Int32)
          ·
           refine Home.go (fun _ => XS.ifYes X104.here hx rfl (pc0 := 234) (pc' := 241) rfl (hb hby at_234) rfl ((if0 _ _).trans (teq c105).1) (by decide) (by decide)) ?_
           have bd106 : ¬ (f_rm11_1 (5 : Int32) r76 r80 v78 r74) < (0 : Int32) ∧ ¬ (0 : Int32) < (f_rm11_1 (5 : Int32) r76 r80 v78 r74) := ⟨(bnd_eql c105), (bnd_eqr c105)⟩
           refine Home.run X104 hx hby sg0_241_1 (pc' := 242) (L' := #[si i0, si i1, si i2, si i3, si 2, si v2, si v3, si v4, si v5, si v6, si v7, sr b1_70, sr b31_73, si r76, .val (.long v78), .second, si r80]) (S' := [(.int 0)]) rfl ?_
           exact J108 X104 N73 e104 _ (by simp only [if_neg c85, if_neg c89, if_neg c93, if_neg c97, if_neg c101, if_pos c105])
          ·
           refine Home.go (fun _ => XS.ifNo X104.here hx rfl (hb hby at_234) rfl ((if0 _ _).trans (feq c105).1)) ?_
           have bd107 : ¬ (f_rm11_1 (5 : Int32) r76 r80 v78 r74) < (1 : Int32) ∧ ¬ (1 : Int32) < (f_rm11_1 (5 : Int32) r76 r80 v78 r74) := ⟨(bnd_nel (f_rm11_1_bnd (5 : Int32) r76 r80 v78 r74 (bnd_mono (bnd_lit (5 : Int32)) (by decide +kernel) (by decide +kernel)) (bnd_mono br76 (by decide +kernel) (by decide +kernel)) br80).1 c105 (by decide +kernel)), (f_rm11_1_bnd (5 : Int32) r76 r80 v78 r74 (bnd_mono (bnd_lit (5 : Int32)) (by decide +kernel) (by decide +kernel)) (bnd_mono br76 (by decide +kernel) (by decide +kernel)) br80).2⟩
           refine Home.run X104 hx hby sg0_237_2 (pc' := 242) (L' := #[si i0, si i1, si i2, si i3, si 2, si v2, si v3, si v4, si v5, si v6, si v7, sr b1_70, sr b31_73, si r76, .val (.long v78), .second, si r80]) (S' := [(.int 1)]) rfl ?_
           exact J108 X104 N73 e104 _ (by simp only [if_neg c85, if_neg c89, if_neg c93, if_neg c97, if_neg c101, if_neg c105])
    intro TJ108 lcJ108 XJ108 NJ108 eJ108 v109 hv109
    have bv109 : ¬ v109 < (0 : Int32) ∧ ¬ (1 : Int32) < v109 := by rw [hv109]; exact (bnd_ite (bnd_mono (bnd_lit (0 : Int32)) (by decide +kernel) (by decide +kernel)) (bnd_ite (bnd_mono (bnd_lit (0 : Int32)) (by decide +kernel) (by decide +kernel)) (bnd_ite (bnd_mono (bnd_lit (0 : Int32)) (by decide +kernel) (by decide +kernel)) (bnd_ite (bnd_mono (bnd_lit (0 : Int32)) (by decide +kernel) (by decide +kernel)) (bnd_ite (bnd_mono (bnd_lit (0 : Int32)) (by decide +kernel) (by decide +kernel)) (bnd_ite (bnd_mono (bnd_lit (0 : Int32)) (by decide +kernel) (by decide +kernel)) (bnd_mono (bnd_lit (1 : Int32)) (by decide +kernel) (by decide +kernel))))))))
    show Home TJ108 (mkF m 242 #[si i0, si i1, si i2, si i3, si 2, si v2, si v3, si v4, si v5, si v6, si v7, sr b1_70, sr b31_73, si r76, .val (.long v78), .second, si r80] [(.int v109)])
    exact HomeW.retN XJ108 hx hlk hZ (own_hEL hw) eJ108 Ce73 (t := .boolean) hret (by simp) (hb hby at_242) ⟨congrArg some (congrArg Value.int (own_end7 i1 v2 hv2 v3 hv3 r71 hr71 r72 hr72 r74 hr74 r76 hr76 v78 hv78 r80 hr80 r84 hr84 v109 hv109)), NJ108⟩ (by decide) (by decide)
   ·
    have bd69 : ¬ v1 < (3 : Int32) ∧ ¬ (6 : Int32) < v1 := ⟨(bnd_nel bd27.1 c66 (by decide +kernel)), bd27.2⟩
    by_cases c110 : v1 = (3 : Int32)
    ·
     have bd111 : ¬ v1 < (3 : Int32) ∧ ¬ (3 : Int32) < v1 := ⟨(bnd_eql c110), (bnd_eqr c110)⟩
     have fx112 : v1 = (3 : Int32) := bnd_fix bd111
     try rw [fx112]
     show Home s₁ (mkF m 63 #[si i0, si i1, si i2, si i3, si 3, si v2, si v3, si v4, si v5, si v6, si v7, un, un, un, un, un, un] [])
     refine Home.run X0 hx hby sg0_63_7 (pc' := 77) (L' := #[si i0, si i1, si i2, si i3, si 3, si v2, si v3, si v4, si v5, si v6, si v7, un, un, un, un, un, un]) (S' := [(.int v7), (.int v6), (.int v5), (.int v4), (.int v3), (.int v2), (.int 3)]) rfl ?_
     refine Home.call (own_staticW X0 hx hZ hown (own_hEL hw) Cd0 all0 (own_w2 hw) (own_w3 hw) (own_w4 hw) (own_w5 hw) (by decide) (rm1_3 l Z a0 hw [] v2 v3 v4 v5 v6 v7 sv_COMPACT_STRINGS sv_SIOOBE_FORMATTER h0 n0 O0 bv2 bv3 bv4 bv5 bv6 bv7 S_COMPACT_STRINGS S_SIOOBE_FORMATTER hCS isr_sv_SIOOBE_FORMATTER) e0 rfl (by rw [hml]; rfl) (argsL := [(.int 3), (.int v2), (.int v3), (.int v4), (.int v5), (.int v6), (.int v7)]) (rest := []) (lenOf own_pd2 rfl) rfl rfl (W := 0) (by exact hW0) (by decide) (by decide) (hb hby at_77) (by decide) (by decide)) ?_
     rintro _ T114 L114 X114 ⟨⟨b1_114, b1_3_2_19_114, k1_3_2_19_114, rfl, N114q, sz_b1_114, sz_b1_3_2_19_114, K114q, P114_0, P114_1, P114_2, P114_3⟩, hZ, hown, Cd114, sR114⟩
     have Ce114 := Cold.put Cd114 (sR114 rfl _ rfl)
     have g_b1_114 : n0 ≤ b1_114 := Nat.le_trans (Old.le O0) sz_b1_114
     have g_b1_3_2_19_114 : n0 ≤ b1_3_2_19_114 := Nat.le_trans (Old.le O0) sz_b1_3_2_19_114
     have O114 := Old.keep O0 K114q all0
     have K114 : Keep h0 T114.heap ([] : List Addr) := Keep.trans (Keep.refl h0 ([] : List Addr)) K114q all0
     have N114 := Fr.app N0 N114q
     show Home T114 (mkF m 80 #[si i0, si i1, si i2, si i3, si 3, si v2, si v3, si v4, si v5, si v6, si v7, un, un, un, un, un, un] [(.ref b1_114)])
     obtain ⟨r115, hr115⟩ : ∃ z, z = ((nar .char ((own_at own_TI0 v2) &&& (255 : Int32))).toInt8.toInt32) := ⟨_, rfl⟩
     rw [← hr115] at P114_3
     obtain ⟨r116, hr116⟩ : ∃ z, z = ((nar .char ((own_at own_TI0 v3) &&& (255 : Int32))).toInt8.toInt32) := ⟨_, rfl⟩
     rw [← hr116] at P114_3
     obtain ⟨r117, hr117⟩ : ∃ z, z = ((nar .char ((own_at own_TI0 v4) &&& (255 : Int32))).toInt8.toInt32) := ⟨_, rfl⟩
     rw [← hr117] at P114_3
     refine Home.run X114 hx hby sg0_80_2 (pc' := 84) (L' := #[si i0, si i1, si i2, si i3, si 3, si v2, si v3, si v4, si v5, si v6, si v7, sr b1_114, un, un, un, un, un]) (S' := [(.ref b1_114)]) rfl ?_
     refine Home.call (own_staticW X114 hx hZ hown (own_hEL hw) Ce114 all0 (own_w28 hw) (own_w29 hw) (own_w30 hw) (own_w31 hw) (by decide) (rm5_1 l Z a0 hw [] b1_114 b1_3_2_19_114 k1_3_2_19_114 [r115, r116, r117] sv_COMPACT_STRINGS sv_SIOOBE_FORMATTER T114.heap n0 O114 (show (0 : Int32) < Int32.ofNat 3 by decide) P114_0 P114_1 P114_3 S_COMPACT_STRINGS P114_2 hCS (Nat.le_trans (own_len_lit (l := [r115, r116, r117]) (n := 3) rfl).2 (by decide)) S_SIOOBE_FORMATTER isr_sv_SIOOBE_FORMATTER (List.forall_mem_cons.mpr ⟨own_hv bv2 hr115, (List.forall_mem_cons.mpr ⟨own_hv bv3 hr116, (List.forall_mem_cons.mpr ⟨own_hv bv4 hr117, (fun _ q => nomatch q)⟩)⟩)⟩)) rfl rfl (by rw [hml]; rfl) (argsL := [(.ref b1_114)]) (rest := []) (lenOf own_pd5 rfl) rfl rfl (W := 0) (by exact hW0) (by decide) (by decide) (hb hby at_84) (by decide) (by decide)) ?_
     rintro _ T118 L118 X118 ⟨⟨b31_118, k31_118, rfl, N118q, sz_b31_118, K118q, P118_0⟩, hZ, hown, Cd118, sR118⟩
     have Ce118 := Cold.put Cd118 (sR118 rfl _ rfl)
     have g_b31_118 : n0 ≤ b31_118 := Nat.le_trans (Old.le O114) sz_b31_118
     have O118 := Old.keep O114 K118q all0
     have K118 : Keep h0 T118.heap ([] : List Addr) := Keep.trans K114 K118q all0
     have N118 := Fr.app N114 N118q
     show Home T118 (mkF m 87 #[si i0, si i1, si i2, si i3, si 3, si v2, si v3, si v4, si v5, si v6, si v7, sr b1_114, un, un, un, un, un] [(.ref b31_118)])
     obtain ⟨r119, hr119⟩ : ∃ z, z = (own_dec [r115, r116, r117]) := ⟨_, rfl⟩
     rw [← hr119] at P118_0
     refine Home.run X118 hx hby sg0_87_8 (pc' := 103) (L' := #[si i0, si i1, si i2, si i3, si 3, si v2, si v3, si v4, si v5, si v6, si v7, sr b1_114, sr b31_118, un, un, un, un]) (S' := [(.int v7), (.int v6), (.int v5), (.int v4), (.int v3), (.int v2), (.int 3)]) rfl ?_
     refine Home.st (own_pure (own_static X118 hx hZ hown (own_w43 hw) (own_w44 hw) (own_w4 hw) (own_w45 hw) (by decide) (rm8_3 l Z a0 hw [] v2 v3 v4 v5 v6 v7 T118.heap n0 O118 bv2 bv3 bv4 bv5 bv6 bv7) rfl rfl (by rw [hml]; rfl) (argsL := [(.int 3), (.int v2), (.int v3), (.int v4), (.int v5), (.int v6), (.int v7)]) (rest := []) (lenOf own_pd6 rfl) rfl rfl (W := 0) (by exact hW0) (by decide) (by decide) (hb hby at_103) (by decide) (by decide))) fun T120 X120 e120 => ?_
     show Home T120 (mkF m 106 #[si i0, si i1, si i2, si i3, si 3, si v2, si v3, si v4, si v5, si v6, si v7, sr b1_114, sr b31_118, un, un, un, un] [(.int (f_rm8_3 v2 v3 v4))])
     obtain ⟨r121, hr121⟩ : ∃ z, z = (f_rm8_3 v2 v3 v4) := ⟨_, rfl⟩
     rw [← hr121]
     have br121 : ¬ r121 < (0 : Int32) ∧ ¬ (3 : Int32) < r121 := by rw [hr121]; exact f_rm8_3_bnd v2 v3 v4 v5 v6 v7 bv2 bv3 bv4 bv5 bv6 bv7
     refine Home.run X120 hx hby sg0_106_8 (pc' := 122) (L' := #[si i0, si i1, si i2, si i3, si 3, si v2, si v3, si v4, si v5, si v6, si v7, sr b1_114, sr b31_118, si r121, un, un, un]) (S' := [(.int v7), (.int v6), (.int v5), (.int v4), (.int v3), (.int v2), (.int 3)]) rfl ?_
     refine Home.st (own_pure (own_static X120 hx hZ hown (own_w46 hw) (own_w47 hw) (own_w4 hw) (own_w48 hw) (by decide) (rm9_3 l Z a0 hw [] v2 v3 v4 v5 v6 v7 T118.heap n0 O118 bv2 bv3 bv4 bv5 bv6 bv7) e120 rfl (by rw [hml]; rfl) (argsL := [(.int 3), (.int v2), (.int v3), (.int v4), (.int v5), (.int v6), (.int v7)]) (rest := []) (lenOf own_pd7 rfl) rfl rfl (W := 0) (by exact hW0) (by decide) (by decide) (hb hby at_122) (by decide) (by decide))) fun T122 X122 e122 => ?_
     refine Home.run X122 hx hby sg0_125_1 (pc' := 127) (L' := #[si i0, si i1, si i2, si i3, si 3, si v2, si v3, si v4, si v5, si v6, si v7, sr b1_114, sr b31_118, si r121, .val (.long (((((v2.toInt64) * (58 : Int64)) + (v3.toInt64)) * (58 : Int64)) + (v4.toInt64))), .second, un]) (S' := []) rfl ?_
     obtain ⟨v123, hv123⟩ : ∃ z, z = (((((v2.toInt64) * (58 : Int64)) + (v3.toInt64)) * (58 : Int64)) + (v4.toInt64)) := ⟨_, rfl⟩
     rw [← hv123]
     refine Home.run X122 hx hby sg0_127_1 (pc' := 129) (L' := #[si i0, si i1, si i2, si i3, si 3, si v2, si v3, si v4, si v5, si v6, si v7, sr b1_114, sr b31_118, si r121, .val (.long v123), .second, un]) (S' := [(.long v123)]) rfl ?_
     refine Home.st (own_pure (own_static X122 hx hZ hown (own_w49 hw) (own_w50 hw) (own_w4 hw) (own_w51 hw) (by decide) (rm10_1 l Z a0 hw [] v123 T118.heap n0 O118) e122 rfl (by rw [hml]; rfl) (argsL := [(.long v123)]) (rest := []) (lenOf own_pd8 rfl) rfl rfl (W := 0) (by exact hW0) (by decide) (by decide) (hb hby at_129) (by decide) (by decide))) fun T124 X124 e124 => ?_
     show Home T124 (mkF m 132 #[si i0, si i1, si i2, si i3, si 3, si v2, si v3, si v4, si v5, si v6, si v7, sr b1_114, sr b31_118, si r121, .val (.long v123), .second, un] [(.int (f_rm10_1 v123))])
     obtain ⟨r125, hr125⟩ : ∃ z, z = (f_rm10_1 v123) := ⟨_, rfl⟩
     rw [← hr125]
     have br125 : ¬ r125 < (0 : Int32) ∧ ¬ (5 : Int32) < r125 := by rw [hr125]; exact f_rm10_1_bnd v123
     refine Home.run X124 hx hby sg0_132_2 (pc' := 136) (L' := #[si i0, si i1, si i2, si i3, si 3, si v2, si v3, si v4, si v5, si v6, si v7, sr b1_114, sr b31_118, si r121, .val (.long v123), .second, si r125]) (S' := [(.ref b31_118)]) rfl ?_
     obtain ⟨cl126, Ar126, q126, S126, M126, H126, G126⟩ := id P118_0
     refine Home.go (own_alen X124 hx hZ e124 Ar126 S126 M126 rfl rfl (hb hby at_136)) ?_
     refine Home.run X124 hx hby sg0_137_3 (pc' := 142) (L' := #[si i0, si i1, si i2, si i3, si 3, si v2, si v3, si v4, si v5, si v6, si v7, sr b1_114, sr b31_118, si r121, .val (.long v123), .second, si r125]) (S' := [(.int (r121 + r125)), (.int (own_n r119))]) rfl ?_
     have hl127 := (own_ln127 i1 i2 v2 hv2 v3 hv3 v4 hv4 r115 hr115 r116 hr116 r117 hr117 r119 hr119 r121 hr121 v123 hv123 r125 hr125)
     refine Home.go (fun _ => XS.icmpYes X124.here hx rfl (pc0 := 142) (pc' := 147) rfl (hb hby at_142) rfl (teq hl127).1 (by decide) (by decide)) ?_
     refine Home.run X124 hx hby sg0_147_5 (pc' := 156) (L' := #[si i0, si i1, si i2, si i3, si 3, si v2, si v3, si v4, si v5, si v6, si v7, sr b1_114, sr b31_118, si r121, .val (.long v123), .second, si r125]) (S' := [(.long v123), (.int r125), (.int r121), (.int 0), (.ref b31_118)]) rfl ?_
     refine Home.st (own_pure (own_static X124 hx hZ hown (own_w52 hw) (own_w53 hw) (own_w4 hw) (own_w54 hw) (by decide) (rm11_1 l Z a0 hw [] b31_118 (0 : Int32) r121 r125 v123 k31_118 r119 T118.heap n0 O118 (bnd_mono (bnd_lit (0 : Int32)) (by decide +kernel) (by decide +kernel)) (bnd_mono br121 (by decide +kernel) (by decide +kernel)) br125 P118_0) e124 rfl (by rw [hml]; rfl) (argsL := [(.ref b31_118), (.int 0), (.int r121), (.int r125), (.long v123)]) (rest := []) (lenOf own_pd9 rfl) rfl rfl (W := 0) (by exact hW0) (by decide) (by decide) (hb hby at_156) (by decide) (by decide))) fun T128 X128 e128 => ?_
     show Home T128 (mkF m 159 #[si i0, si i1, si i2, si i3, si 3, si v2, si v3, si v4, si v5, si v6, si v7, sr b1_114, sr b31_118, si r121, .val (.long v123), .second, si r125] [(.int (f_rm11_1 (0 : Int32) r121 r125 v123 r119))])
     obtain ⟨r129, hr129⟩ : ∃ z, z = (f_rm11_1 (0 : Int32) r121 r125 v123 r119) := ⟨_, rfl⟩
     rw [← hr129]
     have br129 : ¬ r129 < (0 : Int32) ∧ ¬ (1 : Int32) < r129 := by rw [hr129]; exact f_rm11_1_bnd (0 : Int32) r121 r125 v123 r119 (bnd_mono (bnd_lit (0 : Int32)) (by decide +kernel) (by decide +kernel)) (bnd_mono br121 (by decide +kernel) (by decide +kernel)) br125
     suffices J153 : ∀ {T : State} {lc : List Loc} (X : Stand p l e room_1 (s.setVm T118.vm) m #[(.int i0), (.int i1), (.int i2), (.int i3)] below meth c T lc 13 972) (N : Fr n0 lc) (eT : T.heap = T118.heap) (v154 : Int32) (hv154 : v154 = (if r129 = (0 : Int32) then (0 : Int32) else (if (f_rm11_1 (1 : Int32) r121 r125 v123 r119) = (0 : Int32) then (0 : Int32) else (if (f_rm11_1 (2 : Int32) r121 r125 v123 r119) = (0 : Int32) then (0 : Int32) else (if (f_rm11_1 (3 : Int32) r121 r125 v123 r119) = (0 : Int32) then (0 : Int32) else (if (f_rm11_1 (4 : Int32) r121 r125 v123 r119) = (0 : Int32) then (0 : Int32) else (if (f_rm11_1 (5 : Int32) r121 r125 v123 r119) = (0 : Int32) then (0 : Int32) else (1 : Int32)))))))), @Home p e below _ T (mkF m 242 #[si i0, si i1, si i2, si i3, si 3, si v2, si v3, si v4, si v5, si v6, si v7, sr b1_114, sr b31_118, si r121, .val (.long v123), .second, si r125] [(.int v154)]) by
      by_cases c130 : r129 = (0 : Int32)
      ·
       refine Home.go (fun _ => XS.ifYes X128.here hx rfl (pc0 := 159) (pc' := 241) rfl (hb hby at_159) rfl ((if0 _ _).trans (teq c130).1) (by decide) (by decide)) ?_
       have bd131 : ¬ r129 < (0 : Int32) ∧ ¬ (0 : Int32) < r129 := ⟨(bnd_eql c130), (bnd_eqr c130)⟩
       refine Home.run X128 hx hby sg0_241_1 (pc' := 242) (L' := #[si i0, si i1, si i2, si i3, si 3, si v2, si v3, si v4, si v5, si v6, si v7, sr b1_114, sr b31_118, si r121, .val (.long v123), .second, si r125]) (S' := [(.int 0)]) rfl ?_
       exact J153 X128 N118 e128 _ (by simp only [if_pos c130])
      ·
       refine Home.go (fun _ => XS.ifNo X128.here hx rfl (hb hby at_159) rfl ((if0 _ _).trans (feq c130).1)) ?_
       have bd132 : ¬ r129 < (1 : Int32) ∧ ¬ (1 : Int32) < r129 := ⟨(bnd_nel br129.1 c130 (by decide +kernel)), br129.2⟩
       refine Home.run X128 hx hby sg0_162_5 (pc' := 171) (L' := #[si i0, si i1, si i2, si i3, si 3, si v2, si v3, si v4, si v5, si v6, si v7, sr b1_114, sr b31_118, si r121, .val (.long v123), .second, si r125]) (S' := [(.long v123), (.int r125), (.int r121), (.int 1), (.ref b31_118)]) rfl ?_
       refine Home.st (own_pure (own_static X128 hx hZ hown (own_w52 hw) (own_w53 hw) (own_w4 hw) (own_w54 hw) (by decide) (rm11_1 l Z a0 hw [] b31_118 (1 : Int32) r121 r125 v123 k31_118 r119 T118.heap n0 O118 (bnd_mono (bnd_lit (1 : Int32)) (by decide +kernel) (by decide +kernel)) (bnd_mono br121 (by decide +kernel) (by decide +kernel)) br125 P118_0) e128 rfl (by rw [hml]; rfl) (argsL := [(.ref b31_118), (.int 1), (.int r121), (.int r125), (.long v123)]) (rest := []) (lenOf own_pd9 rfl) rfl rfl (W := 0) (by exact hW0) (by decide) (by decide) (hb hby at_171) (by decide) (by decide))) fun T133 X133 e133 => ?_
       by_cases c134 : (f_rm11_1 (1 : Int32) r121 r125 v123 r119) = (0 : Int32)
       ·
        refine Home.go (fun _ => XS.ifYes X133.here hx rfl (pc0 := 174) (pc' := 241) rfl (hb hby at_174) rfl ((if0 _ _).trans (teq c134).1) (by decide) (by decide)) ?_
        have bd135 : ¬ (f_rm11_1 (1 : Int32) r121 r125 v123 r119) < (0 : Int32) ∧ ¬ (0 : Int32) < (f_rm11_1 (1 : Int32) r121 r125 v123 r119) := ⟨(bnd_eql c134), (bnd_eqr c134)⟩
        refine Home.run X133 hx hby sg0_241_1 (pc' := 242) (L' := #[si i0, si i1, si i2, si i3, si 3, si v2, si v3, si v4, si v5, si v6, si v7, sr b1_114, sr b31_118, si r121, .val (.long v123), .second, si r125]) (S' := [(.int 0)]) rfl ?_
        exact J153 X133 N118 e133 _ (by simp only [if_neg c130, if_pos c134])
       ·
        refine Home.go (fun _ => XS.ifNo X133.here hx rfl (hb hby at_174) rfl ((if0 _ _).trans (feq c134).1)) ?_
        have bd136 : ¬ (f_rm11_1 (1 : Int32) r121 r125 v123 r119) < (1 : Int32) ∧ ¬ (1 : Int32) < (f_rm11_1 (1 : Int32) r121 r125 v123 r119) := ⟨(bnd_nel (f_rm11_1_bnd (1 : Int32) r121 r125 v123 r119 (bnd_mono (bnd_lit (1 : Int32)) (by decide +kernel) (by decide +kernel)) (bnd_mono br121 (by decide +kernel) (by decide +kernel)) br125).1 c134 (by decide +kernel)), (f_rm11_1_bnd (1 : Int32) r121 r125 v123 r119 (bnd_mono (bnd_lit (1 : Int32)) (by decide +kernel) (by decide +kernel)) (bnd_mono br121 (by decide +kernel) (by decide +kernel)) br125).2⟩
        refine Home.run X133 hx hby sg0_177_5 (pc' := 186) (L' := #[si i0, si i1, si i2, si i3, si 3, si v2, si v3, si v4, si v5, si v6, si v7, sr b1_114, sr b31_118, si r121, .val (.long v123), .second, si r125]) (S' := [(.long v123), (.int r125), (.int r121), (.int 2), (.ref b31_118)]) rfl ?_
        refine Home.st (own_pure (own_static X133 hx hZ hown (own_w52 hw) (own_w53 hw) (own_w4 hw) (own_w54 hw) (by decide) (rm11_1 l Z a0 hw [] b31_118 (2 : Int32) r121 r125 v123 k31_118 r119 T118.heap n0 O118 (bnd_mono (bnd_lit (2 : Int32)) (by decide +kernel) (by decide +kernel)) (bnd_mono br121 (by decide +kernel) (by decide +kernel)) br125 P118_0) e133 rfl (by rw [hml]; rfl) (argsL := [(.ref b31_118), (.int 2), (.int r121), (.int r125), (.long v123)]) (rest := []) (lenOf own_pd9 rfl) rfl rfl (W := 0) (by exact hW0) (by decide) (by decide) (hb hby at_186) (by decide) (by decide))) fun T137 X137 e137 => ?_
        by_cases c138 : (f_rm11_1 (2 : Int32) r121 r125 v123 r119) = (0 : Int32)
        ·
         refine Home.go (fun _ => XS.ifYes X137.here hx rfl (pc0 := 189) (pc' := 241) rfl (hb hby at_189) rfl ((if0 _ _).trans (teq c138).1) (by decide) (by decide)) ?_
         have bd139 : ¬ (f_rm11_1 (2 : Int32) r121 r125 v123 r119) < (0 : Int32) ∧ ¬ (0 : Int32) < (f_rm11_1 (2 : Int32) r121 r125 v123 r119) := ⟨(bnd_eql c138), (bnd_eqr c138)⟩
         refine Home.run X137 hx hby sg0_241_1 (pc' := 242) (L' := #[si i0, si i1, si i2, si i3, si 3, si v2, si v3, si v4, si v5, si v6, si v7, sr b1_114, sr b31_118, si r121, .val (.long v123), .second, si r125]) (S' := [(.int 0)]) rfl ?_
         exact J153 X137 N118 e137 _ (by simp only [if_neg c130, if_neg c134, if_pos c138])
        ·
         refine Home.go (fun _ => XS.ifNo X137.here hx rfl (hb hby at_189) rfl ((if0 _ _).trans (feq c138).1)) ?_
         have bd140 : ¬ (f_rm11_1 (2 : Int32) r121 r125 v123 r119) < (1 : Int32) ∧ ¬ (1 : Int32) < (f_rm11_1 (2 : Int32) r121 r125 v123 r119) := ⟨(bnd_nel (f_rm11_1_bnd (2 : Int32) r121 r125 v123 r119 (bnd_mono (bnd_lit (2 : Int32)) (by decide +kernel) (by decide +kernel)) (bnd_mono br121 (by decide +kernel) (by decide +kernel)) br125).1 c138 (by decide +kernel)), (f_rm11_1_bnd (2 : Int32) r121 r125 v123 r119 (bnd_mono (bnd_lit (2 : Int32)) (by decide +kernel) (by decide +kernel)) (bnd_mono br121 (by decide +kernel) (by decide +kernel)) br125).2⟩
         refine Home.run X137 hx hby sg0_192_5 (pc' := 201) (L' := #[si i0, si i1, si i2, si i3, si 3, si v2, si v3, si v4, si v5, si v6, si v7, sr b1_114, sr b31_118, si r121, .val (.long v123), .second, si r125]) (S' := [(.long v123), (.int r125), (.int r121), (.int 3), (.ref b31_118)]) rfl ?_
         refine Home.st (own_pure (own_static X137 hx hZ hown (own_w52 hw) (own_w53 hw) (own_w4 hw) (own_w54 hw) (by decide) (rm11_1 l Z a0 hw [] b31_118 (3 : Int32) r121 r125 v123 k31_118 r119 T118.heap n0 O118 (bnd_mono (bnd_lit (3 : Int32)) (by decide +kernel) (by decide +kernel)) (bnd_mono br121 (by decide +kernel) (by decide +kernel)) br125 P118_0) e137 rfl (by rw [hml]; rfl) (argsL := [(.ref b31_118), (.int 3), (.int r121), (.int r125), (.long v123)]) (rest := []) (lenOf own_pd9 rfl) rfl rfl (W := 0) (by exact hW0) (by decide) (by decide) (hb hby at_201) (by decide) (by decide))) fun T141 X141 e141 => ?_
         by_cases c142 : (f_rm11_1 (3 : Int32) r121 r125 v123 r119) = (0 : Int32)
         ·
          refine Home.go (fun _ => XS.ifYes X141.here hx rfl (pc0 := 204) (pc' := 241) rfl (hb hby at_204) rfl ((if0 _ _).trans (teq c142).1) (by decide) (by decide)) ?_
          have bd143 : ¬ (f_rm11_1 (3 : Int32) r121 r125 v123 r119) < (0 : Int32) ∧ ¬ (0 : Int32) < (f_rm11_1 (3 : Int32) r121 r125 v123 r119) := ⟨(bnd_eql c142), (bnd_eqr c142)⟩
          refine Home.run X141 hx hby sg0_241_1 (pc' := 242) (L' := #[si i0, si i1, si i2, si i3, si 3, si v2, si v3, si v4, si v5, si v6, si v7, sr b1_114, sr b31_118, si r121, .val (.long v123), .second, si r125]) (S' := [(.int 0)]) rfl ?_
          exact J153 X141 N118 e141 _ (by simp only [if_neg c130, if_neg c134, if_neg c138, if_pos c142])
         ·
          refine Home.go (fun _ => XS.ifNo X141.here hx rfl (hb hby at_204) rfl ((if0 _ _).trans (feq c142).1)) ?_
          have bd144 : ¬ (f_rm11_1 (3 : Int32) r121 r125 v123 r119) < (1 : Int32) ∧ ¬ (1 : Int32) < (f_rm11_1 (3 : Int32) r121 r125 v123 r119) := ⟨(bnd_nel (f_rm11_1_bnd (3 : Int32) r121 r125 v123 r119 (bnd_mono (bnd_lit (3 : Int32)) (by decide +kernel) (by decide +kernel)) (bnd_mono br121 (by decide +kernel) (by decide +kernel)) br125).1 c142 (by decide +kernel)), (f_rm11_1_bnd (3 : Int32) r121 r125 v123 r119 (bnd_mono (bnd_lit (3 : Int32)) (by decide +kernel) (by decide +kernel)) (bnd_mono br121 (by decide +kernel) (by decide +kernel)) br125).2⟩
          refine Home.run X141 hx hby sg0_207_5 (pc' := 216) (L' := #[si i0, si i1, si i2, si i3, si 3, si v2, si v3, si v4, si v5, si v6, si v7, sr b1_114, sr b31_118, si r121, .val (.long v123), .second, si r125]) (S' := [(.long v123), (.int r125), (.int r121), (.int 4), (.ref b31_118)]) rfl ?_
          refine Home.st (own_pure (own_static X141 hx hZ hown (own_w52 hw) (own_w53 hw) (own_w4 hw) (own_w54 hw) (by decide) (rm11_1 l Z a0 hw [] b31_118 (4 : Int32) r121 r125 v123 k31_118 r119 T118.heap n0 O118 (bnd_mono (bnd_lit (4 : Int32)) (by decide +kernel) (by decide +kernel)) (bnd_mono br121 (by decide +kernel) (by decide +kernel)) br125 P118_0) e141 rfl (by rw [hml]; rfl) (argsL := [(.ref b31_118), (.int 4), (.int r121), (.int r125), (.long v123)]) (rest := []) (lenOf own_pd9 rfl) rfl rfl (W := 0) (by exact hW0) (by decide) (by decide) (hb hby at_216) (by decide) (by decide))) fun T145 X145 e145 => ?_
          by_cases c146 : (f_rm11_1 (4 : Int32) r121 r125 v123 r119) = (0 : Int32)
          ·
           refine Home.go (fun _ => XS.ifYes X145.here hx rfl (pc0 := 219) (pc' := 241) rfl (hb hby at_219) rfl ((if0 _ _).trans (teq c146).1) (by decide) (by decide)) ?_
           have bd147 : ¬ (f_rm11_1 (4 : Int32) r121 r125 v123 r119) < (0 : Int32) ∧ ¬ (0 : Int32) < (f_rm11_1 (4 : Int32) r121 r125 v123 r119) := ⟨(bnd_eql c146), (bnd_eqr c146)⟩
           refine Home.run X145 hx hby sg0_241_1 (pc' := 242) (L' := #[si i0, si i1, si i2, si i3, si 3, si v2, si v3, si v4, si v5, si v6, si v7, sr b1_114, sr b31_118, si r121, .val (.long v123), .second, si r125]) (S' := [(.int 0)]) rfl ?_
           exact J153 X145 N118 e145 _ (by simp only [if_neg c130, if_neg c134, if_neg c138, if_neg c142, if_pos c146])
          ·
           refine Home.go (fun _ => XS.ifNo X145.here hx rfl (hb hby at_219) rfl ((if0 _ _).trans (feq c146).1)) ?_
           have bd148 : ¬ (f_rm11_1 (4 : Int32) r121 r125 v123 r119) < (1 : Int32) ∧ ¬ (1 : Int32) < (f_rm11_1 (4 : Int32) r121 r125 v123 r119) := ⟨(bnd_nel (f_rm11_1_bnd (4 : Int32) r121 r125 v123 r119 (bnd_mono (bnd_lit (4 : Int32)) (by decide +kernel) (by decide +kernel)) (bnd_mono br121 (by decide +kernel) (by decide +kernel)) br125).1 c146 (by decide +kernel)), (f_rm11_1_bnd (4 : Int32) r121 r125 v123 r119 (bnd_mono (bnd_lit (4 : Int32)) (by decide +kernel) (by decide +kernel)) (bnd_mono br121 (by decide +kernel) (by decide +kernel)) br125).2⟩
           refine Home.run X145 hx hby sg0_222_5 (pc' := 231) (L' := #[si i0, si i1, si i2, si i3, si 3, si v2, si v3, si v4, si v5, si v6, si v7, sr b1_114, sr b31_118, si r121, .val (.long v123), .second, si r125]) (S' := [(.long v123), (.int r125), (.int r121), (.int 5), (.ref b31_118)]) rfl ?_
           refine Home.st (own_pure (own_static X145 hx hZ hown (own_w52 hw) (own_w53 hw) (own_w4 hw) (own_w54 hw) (by decide) (rm11_1 l Z a0 hw [] b31_118 (5 : Int32) r121 r125 v123 k31_118 r119 T118.heap n0 O118 (bnd_mono (bnd_lit (5 : Int32)) (by decide +kernel) (by decide +kernel)) (bnd_mono br121 (by decide +kernel) (by decide +kernel)) br125 P118_0) e145 rfl (by rw [hml]; rfl) (argsL := [(.ref b31_118), (.int 5), (.int r121), (.int r125), (.long v123)]) (rest := []) (lenOf own_pd9 rfl) rfl rfl (W := 0) (by exact hW0) (by decide) (by decide) (hb hby at_231) (by decide) (by decide))) fun T149 X149 e149 => ?_
           by_cases c150 : (f_rm11_1 (5 : Int32) r121 r125 v123 r119) = (0 : Int32)
           ·
            refine Home.go (fun _ => XS.ifYes X149.here hx rfl (pc0 := 234) (pc' := 241) rfl (hb hby at_234) rfl ((if0 _ _).trans (teq c150).1) (by decide) (by decide)) ?_
            have bd151 : ¬ (f_rm11_1 (5 : Int32) r121 r125 v123 r119) < (0 : Int32) ∧ ¬ (0 : Int32) < (f_rm11_1 (5 : Int32) r121 r125 v123 r119) := ⟨(bnd_eql c150), (bnd_eqr c150)⟩
            refine Home.run X149 hx hby sg0_241_1 (pc' := 242) (L' := #[si i0, si i1, si i2, si i3, si 3, si v2, si v3, si v4, si v5, si v6, si v7, sr b1_114, sr b31_118, si r121, .val (.long v123), .second, si r125]) (S' := [(.int 0)]) rfl ?_
            exact J153 X149 N118 e149 _ (by simp only [if_neg c130, if_neg c134, if_neg c138, if_neg c142, if_neg c146, if_pos c150])
           ·
            refine Home.go (fun _ => XS.ifNo X149.here hx rfl (hb hby at_234) rfl ((if0 _ _).trans (feq c150).1)) ?_
            have bd152 : ¬ (f_rm11_1 (5 : Int32) r121 r125 v123 r119) < (1 : Int32) ∧ ¬ (1 : Int32) < (f_rm11_1 (5 : Int32) r121 r125 v123 r119) := ⟨(bnd_nel (f_rm11_1_bnd (5 : Int32) r121 r125 v123 r119 (bnd_mono (bnd_lit (5 : Int32)) (by decide +kernel) (by decide +kernel)) (bnd_mono br121 (by decide +kernel) (by decide +kernel)) br125).1 c150 (by decide +kernel)), (f_rm11_1_bnd (5 : Int32) r121 r125 v123 r119 (bnd_mono (bnd_lit (5 : Int32)) (by decide +kernel) (by decide +kernel)) (bnd_mono br121 (by decide +kernel) (by decide +kernel)) br125).2⟩
            refine Home.run X149 hx hby sg0_237_2 (pc' := 242) (L' := #[si i0, si i1, si i2, si i3, si 3, si v2, si v3, si v4, si v5, si v6, si v7, sr b1_114, sr b31_118, si r121, .val (.long v123), .second, si r125]) (S' := [(.int 1)]) rfl ?_
            exact J153 X149 N118 e149 _ (by simp only [if_neg c130, if_neg c134, if_neg c138, if_neg c142, if_neg c146, if_neg c150])
     intro TJ153 lcJ153 XJ153 NJ153 eJ153 v154 hv154
     have bv154 : ¬ v154 < (0 : Int32) ∧ ¬ (1 : Int32) < v154 := by rw [hv154]; exact (bnd_ite (bnd_mono (bnd_lit (0 : Int32)) (by decide +kernel) (by decide +kernel)) (bnd_ite (bnd_mono (bnd_lit (0 : Int32)) (by decide +kernel) (by decide +kernel)) (bnd_ite (bnd_mono (bnd_lit (0 : Int32)) (by decide +kernel) (by decide +kernel)) (bnd_ite (bnd_mono (bnd_lit (0 : Int32)) (by decide +kernel) (by decide +kernel)) (bnd_ite (bnd_mono (bnd_lit (0 : Int32)) (by decide +kernel) (by decide +kernel)) (bnd_ite (bnd_mono (bnd_lit (0 : Int32)) (by decide +kernel) (by decide +kernel)) (bnd_mono (bnd_lit (1 : Int32)) (by decide +kernel) (by decide +kernel))))))))
     show Home TJ153 (mkF m 242 #[si i0, si i1, si i2, si i3, si 3, si v2, si v3, si v4, si v5, si v6, si v7, sr b1_114, sr b31_118, si r121, .val (.long v123), .second, si r125] [(.int v154)])
     exact HomeW.retN XJ153 hx hlk hZ (own_hEL hw) eJ153 Ce118 (t := .boolean) hret (by simp) (hb hby at_242) ⟨congrArg some (congrArg Value.int (own_end8 i1 i2 v2 hv2 v3 hv3 v4 hv4 r115 hr115 r116 hr116 r117 hr117 r119 hr119 r121 hr121 v123 hv123 r125 hr125 r129 hr129 v154 hv154)), NJ153⟩ (by decide) (by decide)
    ·
     have bd113 : ¬ v1 < (4 : Int32) ∧ ¬ (6 : Int32) < v1 := ⟨(bnd_nel bd69.1 c110 (by decide +kernel)), bd69.2⟩
     by_cases c155 : v1 = (4 : Int32)
     ·
      have bd156 : ¬ v1 < (4 : Int32) ∧ ¬ (4 : Int32) < v1 := ⟨(bnd_eql c155), (bnd_eqr c155)⟩
      have fx157 : v1 = (4 : Int32) := bnd_fix bd156
      try rw [fx157]
      show Home s₁ (mkF m 63 #[si i0, si i1, si i2, si i3, si 4, si v2, si v3, si v4, si v5, si v6, si v7, un, un, un, un, un, un] [])
      refine Home.run X0 hx hby sg0_63_7 (pc' := 77) (L' := #[si i0, si i1, si i2, si i3, si 4, si v2, si v3, si v4, si v5, si v6, si v7, un, un, un, un, un, un]) (S' := [(.int v7), (.int v6), (.int v5), (.int v4), (.int v3), (.int v2), (.int 4)]) rfl ?_
      refine Home.call (own_staticW X0 hx hZ hown (own_hEL hw) Cd0 all0 (own_w2 hw) (own_w3 hw) (own_w4 hw) (own_w5 hw) (by decide) (rm1_4 l Z a0 hw [] v2 v3 v4 v5 v6 v7 sv_COMPACT_STRINGS sv_SIOOBE_FORMATTER h0 n0 O0 bv2 bv3 bv4 bv5 bv6 bv7 S_COMPACT_STRINGS S_SIOOBE_FORMATTER hCS isr_sv_SIOOBE_FORMATTER) e0 rfl (by rw [hml]; rfl) (argsL := [(.int 4), (.int v2), (.int v3), (.int v4), (.int v5), (.int v6), (.int v7)]) (rest := []) (lenOf own_pd2 rfl) rfl rfl (W := 0) (by exact hW0) (by decide) (by decide) (hb hby at_77) (by decide) (by decide)) ?_
      rintro _ T159 L159 X159 ⟨⟨b1_159, b1_3_2_23_159, k1_3_2_23_159, rfl, N159q, sz_b1_159, sz_b1_3_2_23_159, K159q, P159_0, P159_1, P159_2, P159_3⟩, hZ, hown, Cd159, sR159⟩
      have Ce159 := Cold.put Cd159 (sR159 rfl _ rfl)
      have g_b1_159 : n0 ≤ b1_159 := Nat.le_trans (Old.le O0) sz_b1_159
      have g_b1_3_2_23_159 : n0 ≤ b1_3_2_23_159 := Nat.le_trans (Old.le O0) sz_b1_3_2_23_159
      have O159 := Old.keep O0 K159q all0
      have K159 : Keep h0 T159.heap ([] : List Addr) := Keep.trans (Keep.refl h0 ([] : List Addr)) K159q all0
      have N159 := Fr.app N0 N159q
      show Home T159 (mkF m 80 #[si i0, si i1, si i2, si i3, si 4, si v2, si v3, si v4, si v5, si v6, si v7, un, un, un, un, un, un] [(.ref b1_159)])
      obtain ⟨r160, hr160⟩ : ∃ z, z = ((nar .char ((own_at own_TI0 v2) &&& (255 : Int32))).toInt8.toInt32) := ⟨_, rfl⟩
      rw [← hr160] at P159_3
      obtain ⟨r161, hr161⟩ : ∃ z, z = ((nar .char ((own_at own_TI0 v3) &&& (255 : Int32))).toInt8.toInt32) := ⟨_, rfl⟩
      rw [← hr161] at P159_3
      obtain ⟨r162, hr162⟩ : ∃ z, z = ((nar .char ((own_at own_TI0 v4) &&& (255 : Int32))).toInt8.toInt32) := ⟨_, rfl⟩
      rw [← hr162] at P159_3
      obtain ⟨r163, hr163⟩ : ∃ z, z = ((nar .char ((own_at own_TI0 v5) &&& (255 : Int32))).toInt8.toInt32) := ⟨_, rfl⟩
      rw [← hr163] at P159_3
      refine Home.run X159 hx hby sg0_80_2 (pc' := 84) (L' := #[si i0, si i1, si i2, si i3, si 4, si v2, si v3, si v4, si v5, si v6, si v7, sr b1_159, un, un, un, un, un]) (S' := [(.ref b1_159)]) rfl ?_
      refine Home.call (own_staticW X159 hx hZ hown (own_hEL hw) Ce159 all0 (own_w28 hw) (own_w29 hw) (own_w30 hw) (own_w31 hw) (by decide) (rm5_1 l Z a0 hw [] b1_159 b1_3_2_23_159 k1_3_2_23_159 [r160, r161, r162, r163] sv_COMPACT_STRINGS sv_SIOOBE_FORMATTER T159.heap n0 O159 (show (0 : Int32) < Int32.ofNat 4 by decide) P159_0 P159_1 P159_3 S_COMPACT_STRINGS P159_2 hCS (Nat.le_trans (own_len_lit (l := [r160, r161, r162, r163]) (n := 4) rfl).2 (by decide)) S_SIOOBE_FORMATTER isr_sv_SIOOBE_FORMATTER (List.forall_mem_cons.mpr ⟨own_hv bv2 hr160, (List.forall_mem_cons.mpr ⟨own_hv bv3 hr161, (List.forall_mem_cons.mpr ⟨own_hv bv4 hr162, (List.forall_mem_cons.mpr ⟨own_hv bv5 hr163, (fun _ q => nomatch q)⟩)⟩)⟩)⟩)) rfl rfl (by rw [hml]; rfl) (argsL := [(.ref b1_159)]) (rest := []) (lenOf own_pd5 rfl) rfl rfl (W := 0) (by exact hW0) (by decide) (by decide) (hb hby at_84) (by decide) (by decide)) ?_
      rintro _ T164 L164 X164 ⟨⟨b31_164, k31_164, rfl, N164q, sz_b31_164, K164q, P164_0⟩, hZ, hown, Cd164, sR164⟩
      have Ce164 := Cold.put Cd164 (sR164 rfl _ rfl)
      have g_b31_164 : n0 ≤ b31_164 := Nat.le_trans (Old.le O159) sz_b31_164
      have O164 := Old.keep O159 K164q all0
      have K164 : Keep h0 T164.heap ([] : List Addr) := Keep.trans K159 K164q all0
      have N164 := Fr.app N159 N164q
      show Home T164 (mkF m 87 #[si i0, si i1, si i2, si i3, si 4, si v2, si v3, si v4, si v5, si v6, si v7, sr b1_159, un, un, un, un, un] [(.ref b31_164)])
      obtain ⟨r165, hr165⟩ : ∃ z, z = (own_dec [r160, r161, r162, r163]) := ⟨_, rfl⟩
      rw [← hr165] at P164_0
      refine Home.run X164 hx hby sg0_87_8 (pc' := 103) (L' := #[si i0, si i1, si i2, si i3, si 4, si v2, si v3, si v4, si v5, si v6, si v7, sr b1_159, sr b31_164, un, un, un, un]) (S' := [(.int v7), (.int v6), (.int v5), (.int v4), (.int v3), (.int v2), (.int 4)]) rfl ?_
      refine Home.st (own_pure (own_static X164 hx hZ hown (own_w43 hw) (own_w44 hw) (own_w4 hw) (own_w45 hw) (by decide) (rm8_4 l Z a0 hw [] v2 v3 v4 v5 v6 v7 T164.heap n0 O164 bv2 bv3 bv4 bv5 bv6 bv7) rfl rfl (by rw [hml]; rfl) (argsL := [(.int 4), (.int v2), (.int v3), (.int v4), (.int v5), (.int v6), (.int v7)]) (rest := []) (lenOf own_pd6 rfl) rfl rfl (W := 0) (by exact hW0) (by decide) (by decide) (hb hby at_103) (by decide) (by decide))) fun T166 X166 e166 => ?_
      show Home T166 (mkF m 106 #[si i0, si i1, si i2, si i3, si 4, si v2, si v3, si v4, si v5, si v6, si v7, sr b1_159, sr b31_164, un, un, un, un] [(.int (f_rm8_4 v2 v3 v4 v5))])
      obtain ⟨r167, hr167⟩ : ∃ z, z = (f_rm8_4 v2 v3 v4 v5) := ⟨_, rfl⟩
      rw [← hr167]
      have br167 : ¬ r167 < (0 : Int32) ∧ ¬ (4 : Int32) < r167 := by rw [hr167]; exact f_rm8_4_bnd v2 v3 v4 v5 v6 v7 bv2 bv3 bv4 bv5 bv6 bv7
      refine Home.run X166 hx hby sg0_106_8 (pc' := 122) (L' := #[si i0, si i1, si i2, si i3, si 4, si v2, si v3, si v4, si v5, si v6, si v7, sr b1_159, sr b31_164, si r167, un, un, un]) (S' := [(.int v7), (.int v6), (.int v5), (.int v4), (.int v3), (.int v2), (.int 4)]) rfl ?_
      refine Home.st (own_pure (own_static X166 hx hZ hown (own_w46 hw) (own_w47 hw) (own_w4 hw) (own_w48 hw) (by decide) (rm9_4 l Z a0 hw [] v2 v3 v4 v5 v6 v7 T164.heap n0 O164 bv2 bv3 bv4 bv5 bv6 bv7) e166 rfl (by rw [hml]; rfl) (argsL := [(.int 4), (.int v2), (.int v3), (.int v4), (.int v5), (.int v6), (.int v7)]) (rest := []) (lenOf own_pd7 rfl) rfl rfl (W := 0) (by exact hW0) (by decide) (by decide) (hb hby at_122) (by decide) (by decide))) fun T168 X168 e168 => ?_
      refine Home.run X168 hx hby sg0_125_1 (pc' := 127) (L' := #[si i0, si i1, si i2, si i3, si 4, si v2, si v3, si v4, si v5, si v6, si v7, sr b1_159, sr b31_164, si r167, .val (.long (((((((v2.toInt64) * (58 : Int64)) + (v3.toInt64)) * (58 : Int64)) + (v4.toInt64)) * (58 : Int64)) + (v5.toInt64))), .second, un]) (S' := []) rfl ?_
      obtain ⟨v169, hv169⟩ : ∃ z, z = (((((((v2.toInt64) * (58 : Int64)) + (v3.toInt64)) * (58 : Int64)) + (v4.toInt64)) * (58 : Int64)) + (v5.toInt64)) := ⟨_, rfl⟩
      rw [← hv169]
      refine Home.run X168 hx hby sg0_127_1 (pc' := 129) (L' := #[si i0, si i1, si i2, si i3, si 4, si v2, si v3, si v4, si v5, si v6, si v7, sr b1_159, sr b31_164, si r167, .val (.long v169), .second, un]) (S' := [(.long v169)]) rfl ?_
      refine Home.st (own_pure (own_static X168 hx hZ hown (own_w49 hw) (own_w50 hw) (own_w4 hw) (own_w51 hw) (by decide) (rm10_1 l Z a0 hw [] v169 T164.heap n0 O164) e168 rfl (by rw [hml]; rfl) (argsL := [(.long v169)]) (rest := []) (lenOf own_pd8 rfl) rfl rfl (W := 0) (by exact hW0) (by decide) (by decide) (hb hby at_129) (by decide) (by decide))) fun T170 X170 e170 => ?_
      show Home T170 (mkF m 132 #[si i0, si i1, si i2, si i3, si 4, si v2, si v3, si v4, si v5, si v6, si v7, sr b1_159, sr b31_164, si r167, .val (.long v169), .second, un] [(.int (f_rm10_1 v169))])
      obtain ⟨r171, hr171⟩ : ∃ z, z = (f_rm10_1 v169) := ⟨_, rfl⟩
      rw [← hr171]
      have br171 : ¬ r171 < (0 : Int32) ∧ ¬ (5 : Int32) < r171 := by rw [hr171]; exact f_rm10_1_bnd v169
      refine Home.run X170 hx hby sg0_132_2 (pc' := 136) (L' := #[si i0, si i1, si i2, si i3, si 4, si v2, si v3, si v4, si v5, si v6, si v7, sr b1_159, sr b31_164, si r167, .val (.long v169), .second, si r171]) (S' := [(.ref b31_164)]) rfl ?_
      obtain ⟨cl172, Ar172, q172, S172, M172, H172, G172⟩ := id P164_0
      refine Home.go (own_alen X170 hx hZ e170 Ar172 S172 M172 rfl rfl (hb hby at_136)) ?_
      refine Home.run X170 hx hby sg0_137_3 (pc' := 142) (L' := #[si i0, si i1, si i2, si i3, si 4, si v2, si v3, si v4, si v5, si v6, si v7, sr b1_159, sr b31_164, si r167, .val (.long v169), .second, si r171]) (S' := [(.int (r167 + r171)), (.int (own_n r165))]) rfl ?_
      have hl173 := (own_ln173 i1 i2 v2 hv2 v3 hv3 v4 hv4 v5 hv5 r160 hr160 r161 hr161 r162 hr162 r163 hr163 r165 hr165 r167 hr167 v169 hv169 r171 hr171)
      refine Home.go (fun _ => XS.icmpYes X170.here hx rfl (pc0 := 142) (pc' := 147) rfl (hb hby at_142) rfl (teq hl173).1 (by decide) (by decide)) ?_
      refine Home.run X170 hx hby sg0_147_5 (pc' := 156) (L' := #[si i0, si i1, si i2, si i3, si 4, si v2, si v3, si v4, si v5, si v6, si v7, sr b1_159, sr b31_164, si r167, .val (.long v169), .second, si r171]) (S' := [(.long v169), (.int r171), (.int r167), (.int 0), (.ref b31_164)]) rfl ?_
      refine Home.st (own_pure (own_static X170 hx hZ hown (own_w52 hw) (own_w53 hw) (own_w4 hw) (own_w54 hw) (by decide) (rm11_1 l Z a0 hw [] b31_164 (0 : Int32) r167 r171 v169 k31_164 r165 T164.heap n0 O164 (bnd_mono (bnd_lit (0 : Int32)) (by decide +kernel) (by decide +kernel)) (bnd_mono br167 (by decide +kernel) (by decide +kernel)) br171 P164_0) e170 rfl (by rw [hml]; rfl) (argsL := [(.ref b31_164), (.int 0), (.int r167), (.int r171), (.long v169)]) (rest := []) (lenOf own_pd9 rfl) rfl rfl (W := 0) (by exact hW0) (by decide) (by decide) (hb hby at_156) (by decide) (by decide))) fun T174 X174 e174 => ?_
      show Home T174 (mkF m 159 #[si i0, si i1, si i2, si i3, si 4, si v2, si v3, si v4, si v5, si v6, si v7, sr b1_159, sr b31_164, si r167, .val (.long v169), .second, si r171] [(.int (f_rm11_1 (0 : Int32) r167 r171 v169 r165))])
      obtain ⟨r175, hr175⟩ : ∃ z, z = (f_rm11_1 (0 : Int32) r167 r171 v169 r165) := ⟨_, rfl⟩
      rw [← hr175]
      have br175 : ¬ r175 < (0 : Int32) ∧ ¬ (1 : Int32) < r175 := by rw [hr175]; exact f_rm11_1_bnd (0 : Int32) r167 r171 v169 r165 (bnd_mono (bnd_lit (0 : Int32)) (by decide +kernel) (by decide +kernel)) (bnd_mono br167 (by decide +kernel) (by decide +kernel)) br171
      suffices J199 : ∀ {T : State} {lc : List Loc} (X : Stand p l e room_1 (s.setVm T164.vm) m #[(.int i0), (.int i1), (.int i2), (.int i3)] below meth c T lc 15 1210) (N : Fr n0 lc) (eT : T.heap = T164.heap) (v200 : Int32) (hv200 : v200 = (if r175 = (0 : Int32) then (0 : Int32) else (if (f_rm11_1 (1 : Int32) r167 r171 v169 r165) = (0 : Int32) then (0 : Int32) else (if (f_rm11_1 (2 : Int32) r167 r171 v169 r165) = (0 : Int32) then (0 : Int32) else (if (f_rm11_1 (3 : Int32) r167 r171 v169 r165) = (0 : Int32) then (0 : Int32) else (if (f_rm11_1 (4 : Int32) r167 r171 v169 r165) = (0 : Int32) then (0 : Int32) else (if (f_rm11_1 (5 : Int32) r167 r171 v169 r165) = (0 : Int32) then (0 : Int32) else (1 : Int32)))))))), @Home p e below _ T (mkF m 242 #[si i0, si i1, si i2, si i3, si 4, si v2, si v3, si v4, si v5, si v6, si v7, sr b1_159, sr b31_164, si r167, .val (.long v169), .second, si r171] [(.int v200)]) by
       by_cases c176 : r175 = (0 : Int32)
       ·
        refine Home.go (fun _ => XS.ifYes X174.here hx rfl (pc0 := 159) (pc' := 241) rfl (hb hby at_159) rfl ((if0 _ _).trans (teq c176).1) (by decide) (by decide)) ?_
        have bd177 : ¬ r175 < (0 : Int32) ∧ ¬ (0 : Int32) < r175 := ⟨(bnd_eql c176), (bnd_eqr c176)⟩
        refine Home.run X174 hx hby sg0_241_1 (pc' := 242) (L' := #[si i0, si i1, si i2, si i3, si 4, si v2, si v3, si v4, si v5, si v6, si v7, sr b1_159, sr b31_164, si r167, .val (.long v169), .second, si r171]) (S' := [(.int 0)]) rfl ?_
        exact J199 X174 N164 e174 _ (by simp only [if_pos c176])
       ·
        refine Home.go (fun _ => XS.ifNo X174.here hx rfl (hb hby at_159) rfl ((if0 _ _).trans (feq c176).1)) ?_
        have bd178 : ¬ r175 < (1 : Int32) ∧ ¬ (1 : Int32) < r175 := ⟨(bnd_nel br175.1 c176 (by decide +kernel)), br175.2⟩
        refine Home.run X174 hx hby sg0_162_5 (pc' := 171) (L' := #[si i0, si i1, si i2, si i3, si 4, si v2, si v3, si v4, si v5, si v6, si v7, sr b1_159, sr b31_164, si r167, .val (.long v169), .second, si r171]) (S' := [(.long v169), (.int r171), (.int r167), (.int 1), (.ref b31_164)]) rfl ?_
        refine Home.st (own_pure (own_static X174 hx hZ hown (own_w52 hw) (own_w53 hw) (own_w4 hw) (own_w54 hw) (by decide) (rm11_1 l Z a0 hw [] b31_164 (1 : Int32) r167 r171 v169 k31_164 r165 T164.heap n0 O164 (bnd_mono (bnd_lit (1 : Int32)) (by decide +kernel) (by decide +kernel)) (bnd_mono br167 (by decide +kernel) (by decide +kernel)) br171 P164_0) e174 rfl (by rw [hml]; rfl) (argsL := [(.ref b31_164), (.int 1), (.int r167), (.int r171), (.long v169)]) (rest := []) (lenOf own_pd9 rfl) rfl rfl (W := 0) (by exact hW0) (by decide) (by decide) (hb hby at_171) (by decide) (by decide))) fun T179 X179 e179 => ?_
        by_cases c180 : (f_rm11_1 (1 : Int32) r167 r171 v169 r165) = (0 : Int32)
        ·
         refine Home.go (fun _ => XS.ifYes X179.here hx rfl (pc0 := 174) (pc' := 241) rfl (hb hby at_174) rfl ((if0 _ _).trans (teq c180).1) (by decide) (by decide)) ?_
         have bd181 : ¬ (f_rm11_1 (1 : Int32) r167 r171 v169 r165) < (0 : Int32) ∧ ¬ (0 : Int32) < (f_rm11_1 (1 : Int32) r167 r171 v169 r165) := ⟨(bnd_eql c180), (bnd_eqr c180)⟩
         refine Home.run X179 hx hby sg0_241_1 (pc' := 242) (L' := #[si i0, si i1, si i2, si i3, si 4, si v2, si v3, si v4, si v5, si v6, si v7, sr b1_159, sr b31_164, si r167, .val (.long v169), .second, si r171]) (S' := [(.int 0)]) rfl ?_
         exact J199 X179 N164 e179 _ (by simp only [if_neg c176, if_pos c180])
        ·
         refine Home.go (fun _ => XS.ifNo X179.here hx rfl (hb hby at_174) rfl ((if0 _ _).trans (feq c180).1)) ?_
         have bd182 : ¬ (f_rm11_1 (1 : Int32) r167 r171 v169 r165) < (1 : Int32) ∧ ¬ (1 : Int32) < (f_rm11_1 (1 : Int32) r167 r171 v169 r165) := ⟨(bnd_nel (f_rm11_1_bnd (1 : Int32) r167 r171 v169 r165 (bnd_mono (bnd_lit (1 : Int32)) (by decide +kernel) (by decide +kernel)) (bnd_mono br167 (by decide +kernel) (by decide +kernel)) br171).1 c180 (by decide +kernel)), (f_rm11_1_bnd (1 : Int32) r167 r171 v169 r165 (bnd_mono (bnd_lit (1 : Int32)) (by decide +kernel) (by decide +kernel)) (bnd_mono br167 (by decide +kernel) (by decide +kernel)) br171).2⟩
         refine Home.run X179 hx hby sg0_177_5 (pc' := 186) (L' := #[si i0, si i1, si i2, si i3, si 4, si v2, si v3, si v4, si v5, si v6, si v7, sr b1_159, sr b31_164, si r167, .val (.long v169), .second, si r171]) (S' := [(.long v169), (.int r171), (.int r167), (.int 2), (.ref b31_164)]) rfl ?_
         refine Home.st (own_pure (own_static X179 hx hZ hown (own_w52 hw) (own_w53 hw) (own_w4 hw) (own_w54 hw) (by decide) (rm11_1 l Z a0 hw [] b31_164 (2 : Int32) r167 r171 v169 k31_164 r165 T164.heap n0 O164 (bnd_mono (bnd_lit (2 : Int32)) (by decide +kernel) (by decide +kernel)) (bnd_mono br167 (by decide +kernel) (by decide +kernel)) br171 P164_0) e179 rfl (by rw [hml]; rfl) (argsL := [(.ref b31_164), (.int 2), (.int r167), (.int r171), (.long v169)]) (rest := []) (lenOf own_pd9 rfl) rfl rfl (W := 0) (by exact hW0) (by decide) (by decide) (hb hby at_186) (by decide) (by decide))) fun T183 X183 e183 => ?_
         by_cases c184 : (f_rm11_1 (2 : Int32) r167 r171 v169 r165) = (0 : Int32)
         ·
          refine Home.go (fun _ => XS.ifYes X183.here hx rfl (pc0 := 189) (pc' := 241) rfl (hb hby at_189) rfl ((if0 _ _).trans (teq c184).1) (by decide) (by decide)) ?_
          have bd185 : ¬ (f_rm11_1 (2 : Int32) r167 r171 v169 r165) < (0 : Int32) ∧ ¬ (0 : Int32) < (f_rm11_1 (2 : Int32) r167 r171 v169 r165) := ⟨(bnd_eql c184), (bnd_eqr c184)⟩
          refine Home.run X183 hx hby sg0_241_1 (pc' := 242) (L' := #[si i0, si i1, si i2, si i3, si 4, si v2, si v3, si v4, si v5, si v6, si v7, sr b1_159, sr b31_164, si r167, .val (.long v169), .second, si r171]) (S' := [(.int 0)]) rfl ?_
          exact J199 X183 N164 e183 _ (by simp only [if_neg c176, if_neg c180, if_pos c184])
         ·
          refine Home.go (fun _ => XS.ifNo X183.here hx rfl (hb hby at_189) rfl ((if0 _ _).trans (feq c184).1)) ?_
          have bd186 : ¬ (f_rm11_1 (2 : Int32) r167 r171 v169 r165) < (1 : Int32) ∧ ¬ (1 : Int32) < (f_rm11_1 (2 : Int32) r167 r171 v169 r165) := ⟨(bnd_nel (f_rm11_1_bnd (2 : Int32) r167 r171 v169 r165 (bnd_mono (bnd_lit (2 : Int32)) (by decide +kernel) (by decide +kernel)) (bnd_mono br167 (by decide +kernel) (by decide +kernel)) br171).1 c184 (by decide +kernel)), (f_rm11_1_bnd (2 : Int32) r167 r171 v169 r165 (bnd_mono (bnd_lit (2 : Int32)) (by decide +kernel) (by decide +kernel)) (bnd_mono br167 (by decide +kernel) (by decide +kernel)) br171).2⟩
          refine Home.run X183 hx hby sg0_192_5 (pc' := 201) (L' := #[si i0, si i1, si i2, si i3, si 4, si v2, si v3, si v4, si v5, si v6, si v7, sr b1_159, sr b31_164, si r167, .val (.long v169), .second, si r171]) (S' := [(.long v169), (.int r171), (.int r167), (.int 3), (.ref b31_164)]) rfl ?_
          refine Home.st (own_pure (own_static X183 hx hZ hown (own_w52 hw) (own_w53 hw) (own_w4 hw) (own_w54 hw) (by decide) (rm11_1 l Z a0 hw [] b31_164 (3 : Int32) r167 r171 v169 k31_164 r165 T164.heap n0 O164 (bnd_mono (bnd_lit (3 : Int32)) (by decide +kernel) (by decide +kernel)) (bnd_mono br167 (by decide +kernel) (by decide +kernel)) br171 P164_0) e183 rfl (by rw [hml]; rfl) (argsL := [(.ref b31_164), (.int 3), (.int r167), (.int r171), (.long v169)]) (rest := []) (lenOf own_pd9 rfl) rfl rfl (W := 0) (by exact hW0) (by decide) (by decide) (hb hby at_201) (by decide) (by decide))) fun T187 X187 e187 => ?_
          by_cases c188 : (f_rm11_1 (3 : Int32) r167 r171 v169 r165) = (0 : Int32)
          ·
           refine Home.go (fun _ => XS.ifYes X187.here hx rfl (pc0 := 204) (pc' := 241) rfl (hb hby at_204) rfl ((if0 _ _).trans (teq c188).1) (by decide) (by decide)) ?_
           have bd189 : ¬ (f_rm11_1 (3 : Int32) r167 r171 v169 r165) < (0 : Int32) ∧ ¬ (0 : Int32) < (f_rm11_1 (3 : Int32) r167 r171 v169 r165) := ⟨(bnd_eql c188), (bnd_eqr c188)⟩
           refine Home.run X187 hx hby sg0_241_1 (pc' := 242) (L' := #[si i0, si i1, si i2, si i3, si 4, si v2, si v3, si v4, si v5, si v6, si v7, sr b1_159, sr b31_164, si r167, .val (.long v169), .second, si r171]) (S' := [(.int 0)]) rfl ?_
           exact J199 X187 N164 e187 _ (by simp only [if_neg c176, if_neg c180, if_neg c184, if_pos c188])
          ·
           refine Home.go (fun _ => XS.ifNo X187.here hx rfl (hb hby at_204) rfl ((if0 _ _).trans (feq c188).1)) ?_
           have bd190 : ¬ (f_rm11_1 (3 : Int32) r167 r171 v169 r165) < (1 : Int32) ∧ ¬ (1 : Int32) < (f_rm11_1 (3 : Int32) r167 r171 v169 r165) := ⟨(bnd_nel (f_rm11_1_bnd (3 : Int32) r167 r171 v169 r165 (bnd_mono (bnd_lit (3 : Int32)) (by decide +kernel) (by decide +kernel)) (bnd_mono br167 (by decide +kernel) (by decide +kernel)) br171).1 c188 (by decide +kernel)), (f_rm11_1_bnd (3 : Int32) r167 r171 v169 r165 (bnd_mono (bnd_lit (3 : Int32)) (by decide +kernel) (by decide +kernel)) (bnd_mono br167 (by decide +kernel) (by decide +kernel)) br171).2⟩
           refine Home.run X187 hx hby sg0_207_5 (pc' := 216) (L' := #[si i0, si i1, si i2, si i3, si 4, si v2, si v3, si v4, si v5, si v6, si v7, sr b1_159, sr b31_164, si r167, .val (.long v169), .second, si r171]) (S' := [(.long v169), (.int r171), (.int r167), (.int 4), (.ref b31_164)]) rfl ?_
           refine Home.st (own_pure (own_static X187 hx hZ hown (own_w52 hw) (own_w53 hw) (own_w4 hw) (own_w54 hw) (by decide) (rm11_1 l Z a0 hw [] b31_164 (4 : Int32) r167 r171 v169 k31_164 r165 T164.heap n0 O164 (bnd_mono (bnd_lit (4 : Int32)) (by decide +kernel) (by decide +kernel)) (bnd_mono br167 (by decide +kernel) (by decide +kernel)) br171 P164_0) e187 rfl (by rw [hml]; rfl) (argsL := [(.ref b31_164), (.int 4), (.int r167), (.int r171), (.long v169)]) (rest := []) (lenOf own_pd9 rfl) rfl rfl (W := 0) (by exact hW0) (by decide) (by decide) (hb hby at_216) (by decide) (by decide))) fun T191 X191 e191 => ?_
           by_cases c192 : (f_rm11_1 (4 : Int32) r167 r171 v169 r165) = (0 : Int32)
           ·
            refine Home.go (fun _ => XS.ifYes X191.here hx rfl (pc0 := 219) (pc' := 241) rfl (hb hby at_219) rfl ((if0 _ _).trans (teq c192).1) (by decide) (by decide)) ?_
            have bd193 : ¬ (f_rm11_1 (4 : Int32) r167 r171 v169 r165) < (0 : Int32) ∧ ¬ (0 : Int32) < (f_rm11_1 (4 : Int32) r167 r171 v169 r165) := ⟨(bnd_eql c192), (bnd_eqr c192)⟩
            refine Home.run X191 hx hby sg0_241_1 (pc' := 242) (L' := #[si i0, si i1, si i2, si i3, si 4, si v2, si v3, si v4, si v5, si v6, si v7, sr b1_159, sr b31_164, si r167, .val (.long v169), .second, si r171]) (S' := [(.int 0)]) rfl ?_
            exact J199 X191 N164 e191 _ (by simp only [if_neg c176, if_neg c180, if_neg c184, if_neg c188, if_pos c192])
           ·
            refine Home.go (fun _ => XS.ifNo X191.here hx rfl (hb hby at_219) rfl ((if0 _ _).trans (feq c192).1)) ?_
            have bd194 : ¬ (f_rm11_1 (4 : Int32) r167 r171 v169 r165) < (1 : Int32) ∧ ¬ (1 : Int32) < (f_rm11_1 (4 : Int32) r167 r171 v169 r165) := ⟨(bnd_nel (f_rm11_1_bnd (4 : Int32) r167 r171 v169 r165 (bnd_mono (bnd_lit (4 : Int32)) (by decide +kernel) (by decide +kernel)) (bnd_mono br167 (by decide +kernel) (by decide +kernel)) br171).1 c192 (by decide +kernel)), (f_rm11_1_bnd (4 : Int32) r167 r171 v169 r165 (bnd_mono (bnd_lit (4 : Int32)) (by decide +kernel) (by decide +kernel)) (bnd_mono br167 (by decide +kernel) (by decide +kernel)) br171).2⟩
            refine Home.run X191 hx hby sg0_222_5 (pc' := 231) (L' := #[si i0, si i1, si i2, si i3, si 4, si v2, si v3, si v4, si v5, si v6, si v7, sr b1_159, sr b31_164, si r167, .val (.long v169), .second, si r171]) (S' := [(.long v169), (.int r171), (.int r167), (.int 5), (.ref b31_164)]) rfl ?_
            refine Home.st (own_pure (own_static X191 hx hZ hown (own_w52 hw) (own_w53 hw) (own_w4 hw) (own_w54 hw) (by decide) (rm11_1 l Z a0 hw [] b31_164 (5 : Int32) r167 r171 v169 k31_164 r165 T164.heap n0 O164 (bnd_mono (bnd_lit (5 : Int32)) (by decide +kernel) (by decide +kernel)) (bnd_mono br167 (by decide +kernel) (by decide +kernel)) br171 P164_0) e191 rfl (by rw [hml]; rfl) (argsL := [(.ref b31_164), (.int 5), (.int r167), (.int r171), (.long v169)]) (rest := []) (lenOf own_pd9 rfl) rfl rfl (W := 0) (by exact hW0) (by decide) (by decide) (hb hby at_231) (by decide) (by decide))) fun T195 X195 e195 => ?_
            by_cases c196 : (f_rm11_1 (5 : Int32) r167 r171 v169 r165) = (0 : Int32)
            ·
             refine Home.go (fun _ => XS.ifYes X195.here hx rfl (pc0 := 234) (pc' := 241) rfl (hb hby at_234) rfl ((if0 _ _).trans (teq c196).1) (by decide) (by decide)) ?_
             have bd197 : ¬ (f_rm11_1 (5 : Int32) r167 r171 v169 r165) < (0 : Int32) ∧ ¬ (0 : Int32) < (f_rm11_1 (5 : Int32) r167 r171 v169 r165) := ⟨(bnd_eql c196), (bnd_eqr c196)⟩
             refine Home.run X195 hx hby sg0_241_1 (pc' := 242) (L' := #[si i0, si i1, si i2, si i3, si 4, si v2, si v3, si v4, si v5, si v6, si v7, sr b1_159, sr b31_164, si r167, .val (.long v169), .second, si r171]) (S' := [(.int 0)]) rfl ?_
             exact J199 X195 N164 e195 _ (by simp only [if_neg c176, if_neg c180, if_neg c184, if_neg c188, if_neg c192, if_pos c196])
            ·
             refine Home.go (fun _ => XS.ifNo X195.here hx rfl (hb hby at_234) rfl ((if0 _ _).trans (feq c196).1)) ?_
             have bd198 : ¬ (f_rm11_1 (5 : Int32) r167 r171 v169 r165) < (1 : Int32) ∧ ¬ (1 : Int32) < (f_rm11_1 (5 : Int32) r167 r171 v169 r165) := ⟨(bnd_nel (f_rm11_1_bnd (5 : Int32) r167 r171 v169 r165 (bnd_mono (bnd_lit (5 : Int32)) (by decide +kernel) (by decide +kernel)) (bnd_mono br167 (by decide +kernel) (by decide +kernel)) br171).1 c196 (by decide +kernel)), (f_rm11_1_bnd (5 : Int32) r167 r171 v169 r165 (bnd_mono (bnd_lit (5 : Int32)) (by decide +kernel) (by decide +kernel)) (bnd_mono br167 (by decide +kernel) (by decide +kernel)) br171).2⟩
             refine Home.run X195 hx hby sg0_237_2 (pc' := 242) (L' := #[si i0, si i1, si i2, si i3, si 4, si v2, si v3, si v4, si v5, si v6, si v7, sr b1_159, sr b31_164, si r167, .val (.long v169), .second, si r171]) (S' := [(.int 1)]) rfl ?_
             exact J199 X195 N164 e195 _ (by simp only [if_neg c176, if_neg c180, if_neg c184, if_neg c188, if_neg c192, if_neg c196])
      intro TJ199 lcJ199 XJ199 NJ199 eJ199 v200 hv200
      have bv200 : ¬ v200 < (0 : Int32) ∧ ¬ (1 : Int32) < v200 := by rw [hv200]; exact (bnd_ite (bnd_mono (bnd_lit (0 : Int32)) (by decide +kernel) (by decide +kernel)) (bnd_ite (bnd_mono (bnd_lit (0 : Int32)) (by decide +kernel) (by decide +kernel)) (bnd_ite (bnd_mono (bnd_lit (0 : Int32)) (by decide +kernel) (by decide +kernel)) (bnd_ite (bnd_mono (bnd_lit (0 : Int32)) (by decide +kernel) (by decide +kernel)) (bnd_ite (bnd_mono (bnd_lit (0 : Int32)) (by decide +kernel) (by decide +kernel)) (bnd_ite (bnd_mono (bnd_lit (0 : Int32)) (by decide +kernel) (by decide +kernel)) (bnd_mono (bnd_lit (1 : Int32)) (by decide +kernel) (by decide +kernel))))))))
      show Home TJ199 (mkF m 242 #[si i0, si i1, si i2, si i3, si 4, si v2, si v3, si v4, si v5, si v6, si v7, sr b1_159, sr b31_164, si r167, .val (.long v169), .second, si r171] [(.int v200)])
      exact HomeW.retN XJ199 hx hlk hZ (own_hEL hw) eJ199 Ce164 (t := .boolean) hret (by simp) (hb hby at_242) ⟨congrArg some (congrArg Value.int (own_end9 i1 i2 v2 hv2 v3 hv3 v4 hv4 v5 hv5 r160 hr160 r161 hr161 r162 hr162 r163 hr163 r165 hr165 r167 hr167 v169 hv169 r171 hr171 r175 hr175 v200 hv200)), NJ199⟩ (by decide) (by decide)
     ·
      have bd158 : ¬ v1 < (5 : Int32) ∧ ¬ (6 : Int32) < v1 := ⟨(bnd_nel bd113.1 c155 (by decide +kernel)), bd113.2⟩
      by_cases c201 : v1 = (5 : Int32)
      ·
       have bd202 : ¬ v1 < (5 : Int32) ∧ ¬ (5 : Int32) < v1 := ⟨(bnd_eql c201), (bnd_eqr c201)⟩
       have fx203 : v1 = (5 : Int32) := bnd_fix bd202
       try rw [fx203]
       show Home s₁ (mkF m 63 #[si i0, si i1, si i2, si i3, si 5, si v2, si v3, si v4, si v5, si v6, si v7, un, un, un, un, un, un] [])
       refine Home.run X0 hx hby sg0_63_7 (pc' := 77) (L' := #[si i0, si i1, si i2, si i3, si 5, si v2, si v3, si v4, si v5, si v6, si v7, un, un, un, un, un, un]) (S' := [(.int v7), (.int v6), (.int v5), (.int v4), (.int v3), (.int v2), (.int 5)]) rfl ?_
       refine Home.call (own_staticW X0 hx hZ hown (own_hEL hw) Cd0 all0 (own_w2 hw) (own_w3 hw) (own_w4 hw) (own_w5 hw) (by decide) (rm1_5 l Z a0 hw [] v2 v3 v4 v5 v6 v7 sv_COMPACT_STRINGS sv_SIOOBE_FORMATTER h0 n0 O0 bv2 bv3 bv4 bv5 bv6 bv7 S_COMPACT_STRINGS S_SIOOBE_FORMATTER hCS isr_sv_SIOOBE_FORMATTER) e0 rfl (by rw [hml]; rfl) (argsL := [(.int 5), (.int v2), (.int v3), (.int v4), (.int v5), (.int v6), (.int v7)]) (rest := []) (lenOf own_pd2 rfl) rfl rfl (W := 0) (by exact hW0) (by decide) (by decide) (hb hby at_77) (by decide) (by decide)) ?_
       rintro _ T206 L206 X206 ⟨⟨b1_206, b1_3_2_27_206, k1_3_2_27_206, rfl, N206q, sz_b1_206, sz_b1_3_2_27_206, K206q, P206_0, P206_1, P206_2, P206_3⟩, hZ, hown, Cd206, sR206⟩
       have Ce206 := Cold.put Cd206 (sR206 rfl _ rfl)
       have g_b1_206 : n0 ≤ b1_206 := Nat.le_trans (Old.le O0) sz_b1_206
       have g_b1_3_2_27_206 : n0 ≤ b1_3_2_27_206 := Nat.le_trans (Old.le O0) sz_b1_3_2_27_206
       have O206 := Old.keep O0 K206q all0
       have K206 : Keep h0 T206.heap ([] : List Addr) := Keep.trans (Keep.refl h0 ([] : List Addr)) K206q all0
       have N206 := Fr.app N0 N206q
       show Home T206 (mkF m 80 #[si i0, si i1, si i2, si i3, si 5, si v2, si v3, si v4, si v5, si v6, si v7, un, un, un, un, un, un] [(.ref b1_206)])
       obtain ⟨r207, hr207⟩ : ∃ z, z = ((nar .char ((own_at own_TI0 v2) &&& (255 : Int32))).toInt8.toInt32) := ⟨_, rfl⟩
       rw [← hr207] at P206_3
       obtain ⟨r208, hr208⟩ : ∃ z, z = ((nar .char ((own_at own_TI0 v3) &&& (255 : Int32))).toInt8.toInt32) := ⟨_, rfl⟩
       rw [← hr208] at P206_3
       obtain ⟨r209, hr209⟩ : ∃ z, z = ((nar .char ((own_at own_TI0 v4) &&& (255 : Int32))).toInt8.toInt32) := ⟨_, rfl⟩
       rw [← hr209] at P206_3
       obtain ⟨r210, hr210⟩ : ∃ z, z = ((nar .char ((own_at own_TI0 v5) &&& (255 : Int32))).toInt8.toInt32) := ⟨_, rfl⟩
       rw [← hr210] at P206_3
       obtain ⟨r211, hr211⟩ : ∃ z, z = ((nar .char ((own_at own_TI0 v6) &&& (255 : Int32))).toInt8.toInt32) := ⟨_, rfl⟩
       rw [← hr211] at P206_3
       refine Home.run X206 hx hby sg0_80_2 (pc' := 84) (L' := #[si i0, si i1, si i2, si i3, si 5, si v2, si v3, si v4, si v5, si v6, si v7, sr b1_206, un, un, un, un, un]) (S' := [(.ref b1_206)]) rfl ?_
       refine Home.call (own_staticW X206 hx hZ hown (own_hEL hw) Ce206 all0 (own_w28 hw) (own_w29 hw) (own_w30 hw) (own_w31 hw) (by decide) (rm5_1 l Z a0 hw [] b1_206 b1_3_2_27_206 k1_3_2_27_206 [r207, r208, r209, r210, r211] sv_COMPACT_STRINGS sv_SIOOBE_FORMATTER T206.heap n0 O206 (show (0 : Int32) < Int32.ofNat 5 by decide) P206_0 P206_1 P206_3 S_COMPACT_STRINGS P206_2 hCS (Nat.le_trans (own_len_lit (l := [r207, r208, r209, r210, r211]) (n := 5) rfl).2 (by decide)) S_SIOOBE_FORMATTER isr_sv_SIOOBE_FORMATTER (List.forall_mem_cons.mpr ⟨own_hv bv2 hr207, (List.forall_mem_cons.mpr ⟨own_hv bv3 hr208, (List.forall_mem_cons.mpr ⟨own_hv bv4 hr209, (List.forall_mem_cons.mpr ⟨own_hv bv5 hr210, (List.forall_mem_cons.mpr ⟨own_hv bv6 hr211, (fun _ q => nomatch q)⟩)⟩)⟩)⟩)⟩)) rfl rfl (by rw [hml]; rfl) (argsL := [(.ref b1_206)]) (rest := []) (lenOf own_pd5 rfl) rfl rfl (W := 0) (by exact hW0) (by decide) (by decide) (hb hby at_84) (by decide) (by decide)) ?_
       rintro _ T212 L212 X212 ⟨⟨b31_212, k31_212, rfl, N212q, sz_b31_212, K212q, P212_0⟩, hZ, hown, Cd212, sR212⟩
       have Ce212 := Cold.put Cd212 (sR212 rfl _ rfl)
       have g_b31_212 : n0 ≤ b31_212 := Nat.le_trans (Old.le O206) sz_b31_212
       have O212 := Old.keep O206 K212q all0
       have K212 : Keep h0 T212.heap ([] : List Addr) := Keep.trans K206 K212q all0
       have N212 := Fr.app N206 N212q
       show Home T212 (mkF m 87 #[si i0, si i1, si i2, si i3, si 5, si v2, si v3, si v4, si v5, si v6, si v7, sr b1_206, un, un, un, un, un] [(.ref b31_212)])
       obtain ⟨r213, hr213⟩ : ∃ z, z = (own_dec [r207, r208, r209, r210, r211]) := ⟨_, rfl⟩
       rw [← hr213] at P212_0
       refine Home.run X212 hx hby sg0_87_8 (pc' := 103) (L' := #[si i0, si i1, si i2, si i3, si 5, si v2, si v3, si v4, si v5, si v6, si v7, sr b1_206, sr b31_212, un, un, un, un]) (S' := [(.int v7), (.int v6), (.int v5), (.int v4), (.int v3), (.int v2), (.int 5)]) rfl ?_
       refine Home.st (own_pure (own_static X212 hx hZ hown (own_w43 hw) (own_w44 hw) (own_w4 hw) (own_w45 hw) (by decide) (rm8_5 l Z a0 hw [] v2 v3 v4 v5 v6 v7 T212.heap n0 O212 bv2 bv3 bv4 bv5 bv6 bv7) rfl rfl (by rw [hml]; rfl) (argsL := [(.int 5), (.int v2), (.int v3), (.int v4), (.int v5), (.int v6), (.int v7)]) (rest := []) (lenOf own_pd6 rfl) rfl rfl (W := 0) (by exact hW0) (by decide) (by decide) (hb hby at_103) (by decide) (by decide))) fun T214 X214 e214 => ?_
       show Home T214 (mkF m 106 #[si i0, si i1, si i2, si i3, si 5, si v2, si v3, si v4, si v5, si v6, si v7, sr b1_206, sr b31_212, un, un, un, un] [(.int (f_rm8_5 v2 v3 v4 v5 v6))])
       obtain ⟨r215, hr215⟩ : ∃ z, z = (f_rm8_5 v2 v3 v4 v5 v6) := ⟨_, rfl⟩
       rw [← hr215]
       have br215 : ¬ r215 < (0 : Int32) ∧ ¬ (5 : Int32) < r215 := by rw [hr215]; exact f_rm8_5_bnd v2 v3 v4 v5 v6 v7 bv2 bv3 bv4 bv5 bv6 bv7
       refine Home.run X214 hx hby sg0_106_8 (pc' := 122) (L' := #[si i0, si i1, si i2, si i3, si 5, si v2, si v3, si v4, si v5, si v6, si v7, sr b1_206, sr b31_212, si r215, un, un, un]) (S' := [(.int v7), (.int v6), (.int v5), (.int v4), (.int v3), (.int v2), (.int 5)]) rfl ?_
       refine Home.st (own_pure (own_static X214 hx hZ hown (own_w46 hw) (own_w47 hw) (own_w4 hw) (own_w48 hw) (by decide) (rm9_5 l Z a0 hw [] v2 v3 v4 v5 v6 v7 T212.heap n0 O212 bv2 bv3 bv4 bv5 bv6 bv7) e214 rfl (by rw [hml]; rfl) (argsL := [(.int 5), (.int v2), (.int v3), (.int v4), (.int v5), (.int v6), (.int v7)]) (rest := []) (lenOf own_pd7 rfl) rfl rfl (W := 0) (by exact hW0) (by decide) (by decide) (hb hby at_122) (by decide) (by decide))) fun T216 X216 e216 => ?_
       refine Home.run X216 hx hby sg0_125_1 (pc' := 127) (L' := #[si i0, si i1, si i2, si i3, si 5, si v2, si v3, si v4, si v5, si v6, si v7, sr b1_206, sr b31_212, si r215, .val (.long (((((((((v2.toInt64) * (58 : Int64)) + (v3.toInt64)) * (58 : Int64)) + (v4.toInt64)) * (58 : Int64)) + (v5.toInt64)) * (58 : Int64)) + (v6.toInt64))), .second, un]) (S' := []) rfl ?_
       obtain ⟨v217, hv217⟩ : ∃ z, z = (((((((((v2.toInt64) * (58 : Int64)) + (v3.toInt64)) * (58 : Int64)) + (v4.toInt64)) * (58 : Int64)) + (v5.toInt64)) * (58 : Int64)) + (v6.toInt64)) := ⟨_, rfl⟩
       rw [← hv217]
       refine Home.run X216 hx hby sg0_127_1 (pc' := 129) (L' := #[si i0, si i1, si i2, si i3, si 5, si v2, si v3, si v4, si v5, si v6, si v7, sr b1_206, sr b31_212, si r215, .val (.long v217), .second, un]) (S' := [(.long v217)]) rfl ?_
       refine Home.st (own_pure (own_static X216 hx hZ hown (own_w49 hw) (own_w50 hw) (own_w4 hw) (own_w51 hw) (by decide) (rm10_1 l Z a0 hw [] v217 T212.heap n0 O212) e216 rfl (by rw [hml]; rfl) (argsL := [(.long v217)]) (rest := []) (lenOf own_pd8 rfl) rfl rfl (W := 0) (by exact hW0) (by decide) (by decide) (hb hby at_129) (by decide) (by decide))) fun T218 X218 e218 => ?_
       show Home T218 (mkF m 132 #[si i0, si i1, si i2, si i3, si 5, si v2, si v3, si v4, si v5, si v6, si v7, sr b1_206, sr b31_212, si r215, .val (.long v217), .second, un] [(.int (f_rm10_1 v217))])
       obtain ⟨r219, hr219⟩ : ∃ z, z = (f_rm10_1 v217) := ⟨_, rfl⟩
       rw [← hr219]
       have br219 : ¬ r219 < (0 : Int32) ∧ ¬ (5 : Int32) < r219 := by rw [hr219]; exact f_rm10_1_bnd v217
       refine Home.run X218 hx hby sg0_132_2 (pc' := 136) (L' := #[si i0, si i1, si i2, si i3, si 5, si v2, si v3, si v4, si v5, si v6, si v7, sr b1_206, sr b31_212, si r215, .val (.long v217), .second, si r219]) (S' := [(.ref b31_212)]) rfl ?_
       obtain ⟨cl220, Ar220, q220, S220, M220, H220, G220⟩ := id P212_0
       refine Home.go (own_alen X218 hx hZ e218 Ar220 S220 M220 rfl rfl (hb hby at_136)) ?_
       refine Home.run X218 hx hby sg0_137_3 (pc' := 142) (L' := #[si i0, si i1, si i2, si i3, si 5, si v2, si v3, si v4, si v5, si v6, si v7, sr b1_206, sr b31_212, si r215, .val (.long v217), .second, si r219]) (S' := [(.int (r215 + r219)), (.int (own_n r213))]) rfl ?_
       have hl221 := (own_ln221 i1 i2 i3 v2 hv2 v3 hv3 v4 hv4 v5 hv5 v6 hv6 r207 hr207 r208 hr208 r209 hr209 r210 hr210 r211 hr211 r213 hr213 r215 hr215 v217 hv217 r219 hr219)
       refine Home.go (fun _ => XS.icmpYes X218.here hx rfl (pc0 := 142) (pc' := 147) rfl (hb hby at_142) rfl (teq hl221).1 (by decide) (by decide)) ?_
       refine Home.run X218 hx hby sg0_147_5 (pc' := 156) (L' := #[si i0, si i1, si i2, si i3, si 5, si v2, si v3, si v4, si v5, si v6, si v7, sr b1_206, sr b31_212, si r215, .val (.long v217), .second, si r219]) (S' := [(.long v217), (.int r219), (.int r215), (.int 0), (.ref b31_212)]) rfl ?_
       refine Home.st (own_pure (own_static X218 hx hZ hown (own_w52 hw) (own_w53 hw) (own_w4 hw) (own_w54 hw) (by decide) (rm11_1 l Z a0 hw [] b31_212 (0 : Int32) r215 r219 v217 k31_212 r213 T212.heap n0 O212 (bnd_mono (bnd_lit (0 : Int32)) (by decide +kernel) (by decide +kernel)) (bnd_mono br215 (by decide +kernel) (by decide +kernel)) br219 P212_0) e218 rfl (by rw [hml]; rfl) (argsL := [(.ref b31_212), (.int 0), (.int r215), (.int r219), (.long v217)]) (rest := []) (lenOf own_pd9 rfl) rfl rfl (W := 0) (by exact hW0) (by decide) (by decide) (hb hby at_156) (by decide) (by decide))) fun T222 X222 e222 => ?_
       show Home T222 (mkF m 159 #[si i0, si i1, si i2, si i3, si 5, si v2, si v3, si v4, si v5, si v6, si v7, sr b1_206, sr b31_212, si r215, .val (.long v217), .second, si r219] [(.int (f_rm11_1 (0 : Int32) r215 r219 v217 r213))])
       obtain ⟨r223, hr223⟩ : ∃ z, z = (f_rm11_1 (0 : Int32) r215 r219 v217 r213) := ⟨_, rfl⟩
       rw [← hr223]
       have br223 : ¬ r223 < (0 : Int32) ∧ ¬ (1 : Int32) < r223 := by rw [hr223]; exact f_rm11_1_bnd (0 : Int32) r215 r219 v217 r213 (bnd_mono (bnd_lit (0 : Int32)) (by decide +kernel) (by decide +kernel)) (bnd_mono br215 (by decide +kernel) (by decide +kernel)) br219
       suffices J247 : ∀ {T : State} {lc : List Loc} (X : Stand p l e room_1 (s.setVm T212.vm) m #[(.int i0), (.int i1), (.int i2), (.int i3)] below meth c T lc 17 1448) (N : Fr n0 lc) (eT : T.heap = T212.heap) (v248 : Int32) (hv248 : v248 = (if r223 = (0 : Int32) then (0 : Int32) else (if (f_rm11_1 (1 : Int32) r215 r219 v217 r213) = (0 : Int32) then (0 : Int32) else (if (f_rm11_1 (2 : Int32) r215 r219 v217 r213) = (0 : Int32) then (0 : Int32) else (if (f_rm11_1 (3 : Int32) r215 r219 v217 r213) = (0 : Int32) then (0 : Int32) else (if (f_rm11_1 (4 : Int32) r215 r219 v217 r213) = (0 : Int32) then (0 : Int32) else (if (f_rm11_1 (5 : Int32) r215 r219 v217 r213) = (0 : Int32) then (0 : Int32) else (1 : Int32)))))))), @Home p e below _ T (mkF m 242 #[si i0, si i1, si i2, si i3, si 5, si v2, si v3, si v4, si v5, si v6, si v7, sr b1_206, sr b31_212, si r215, .val (.long v217), .second, si r219] [(.int v248)]) by
        by_cases c224 : r223 = (0 : Int32)
        ·
         refine Home.go (fun _ => XS.ifYes X222.here hx rfl (pc0 := 159) (pc' := 241) rfl (hb hby at_159) rfl ((if0 _ _).trans (teq c224).1) (by decide) (by decide)) ?_
         have bd225 : ¬ r223 < (0 : Int32) ∧ ¬ (0 : Int32) < r223 := ⟨(bnd_eql c224), (bnd_eqr c224)⟩
         refine Home.run X222 hx hby sg0_241_1 (pc' := 242) (L' := #[si i0, si i1, si i2, si i3, si 5, si v2, si v3, si v4, si v5, si v6, si v7, sr b1_206, sr b31_212, si r215, .val (.long v217), .second, si r219]) (S' := [(.int 0)]) rfl ?_
         exact J247 X222 N212 e222 _ (by simp only [if_pos c224])
        ·
         refine Home.go (fun _ => XS.ifNo X222.here hx rfl (hb hby at_159) rfl ((if0 _ _).trans (feq c224).1)) ?_
         have bd226 : ¬ r223 < (1 : Int32) ∧ ¬ (1 : Int32) < r223 := ⟨(bnd_nel br223.1 c224 (by decide +kernel)), br223.2⟩
         refine Home.run X222 hx hby sg0_162_5 (pc' := 171) (L' := #[si i0, si i1, si i2, si i3, si 5, si v2, si v3, si v4, si v5, si v6, si v7, sr b1_206, sr b31_212, si r215, .val (.long v217), .second, si r219]) (S' := [(.long v217), (.int r219), (.int r215), (.int 1), (.ref b31_212)]) rfl ?_
         refine Home.st (own_pure (own_static X222 hx hZ hown (own_w52 hw) (own_w53 hw) (own_w4 hw) (own_w54 hw) (by decide) (rm11_1 l Z a0 hw [] b31_212 (1 : Int32) r215 r219 v217 k31_212 r213 T212.heap n0 O212 (bnd_mono (bnd_lit (1 : Int32)) (by decide +kernel) (by decide +kernel)) (bnd_mono br215 (by decide +kernel) (by decide +kernel)) br219 P212_0) e222 rfl (by rw [hml]; rfl) (argsL := [(.ref b31_212), (.int 1), (.int r215), (.int r219), (.long v217)]) (rest := []) (lenOf own_pd9 rfl) rfl rfl (W := 0) (by exact hW0) (by decide) (by decide) (hb hby at_171) (by decide) (by decide))) fun T227 X227 e227 => ?_
         by_cases c228 : (f_rm11_1 (1 : Int32) r215 r219 v217 r213) = (0 : Int32)
         ·
          refine Home.go (fun _ => XS.ifYes X227.here hx rfl (pc0 := 174) (pc' := 241) rfl (hb hby at_174) rfl ((if0 _ _).trans (teq c228).1) (by decide) (by decide)) ?_
          have bd229 : ¬ (f_rm11_1 (1 : Int32) r215 r219 v217 r213) < (0 : Int32) ∧ ¬ (0 : Int32) < (f_rm11_1 (1 : Int32) r215 r219 v217 r213) := ⟨(bnd_eql c228), (bnd_eqr c228)⟩
          refine Home.run X227 hx hby sg0_241_1 (pc' := 242) (L' := #[si i0, si i1, si i2, si i3, si 5, si v2, si v3, si v4, si v5, si v6, si v7, sr b1_206, sr b31_212, si r215, .val (.long v217), .second, si r219]) (S' := [(.int 0)]) rfl ?_
          exact J247 X227 N212 e227 _ (by simp only [if_neg c224, if_pos c228])
         ·
          refine Home.go (fun _ => XS.ifNo X227.here hx rfl (hb hby at_174) rfl ((if0 _ _).trans (feq c228).1)) ?_
          have bd230 : ¬ (f_rm11_1 (1 : Int32) r215 r219 v217 r213) < (1 : Int32) ∧ ¬ (1 : Int32) < (f_rm11_1 (1 : Int32) r215 r219 v217 r213) := ⟨(bnd_nel (f_rm11_1_bnd (1 : Int32) r215 r219 v217 r213 (bnd_mono (bnd_lit (1 : Int32)) (by decide +kernel) (by decide +kernel)) (bnd_mono br215 (by decide +kernel) (by decide +kernel)) br219).1 c228 (by decide +kernel)), (f_rm11_1_bnd (1 : Int32) r215 r219 v217 r213 (bnd_mono (bnd_lit (1 : Int32)) (by decide +kernel) (by decide +kernel)) (bnd_mono br215 (by decide +kernel) (by decide +kernel)) br219).2⟩
          refine Home.run X227 hx hby sg0_177_5 (pc' := 186) (L' := #[si i0, si i1, si i2, si i3, si 5, si v2, si v3, si v4, si v5, si v6, si v7, sr b1_206, sr b31_212, si r215, .val (.long v217), .second, si r219]) (S' := [(.long v217), (.int r219), (.int r215), (.int 2), (.ref b31_212)]) rfl ?_
          refine Home.st (own_pure (own_static X227 hx hZ hown (own_w52 hw) (own_w53 hw) (own_w4 hw) (own_w54 hw) (by decide) (rm11_1 l Z a0 hw [] b31_212 (2 : Int32) r215 r219 v217 k31_212 r213 T212.heap n0 O212 (bnd_mono (bnd_lit (2 : Int32)) (by decide +kernel) (by decide +kernel)) (bnd_mono br215 (by decide +kernel) (by decide +kernel)) br219 P212_0) e227 rfl (by rw [hml]; rfl) (argsL := [(.ref b31_212), (.int 2), (.int r215), (.int r219), (.long v217)]) (rest := []) (lenOf own_pd9 rfl) rfl rfl (W := 0) (by exact hW0) (by decide) (by decide) (hb hby at_186) (by decide) (by decide))) fun T231 X231 e231 => ?_
          by_cases c232 : (f_rm11_1 (2 : Int32) r215 r219 v217 r213) = (0 : Int32)
          ·
           refine Home.go (fun _ => XS.ifYes X231.here hx rfl (pc0 := 189) (pc' := 241) rfl (hb hby at_189) rfl ((if0 _ _).trans (teq c232).1) (by decide) (by decide)) ?_
           have bd233 : ¬ (f_rm11_1 (2 : Int32) r215 r219 v217 r213) < (0 : Int32) ∧ ¬ (0 : Int32) < (f_rm11_1 (2 : Int32) r215 r219 v217 r213) := ⟨(bnd_eql c232), (bnd_eqr c232)⟩
           refine Home.run X231 hx hby sg0_241_1 (pc' := 242) (L' := #[si i0, si i1, si i2, si i3, si 5, si v2, si v3, si v4, si v5, si v6, si v7, sr b1_206, sr b31_212, si r215, .val (.long v217), .second, si r219]) (S' := [(.int 0)]) rfl ?_
           exact J247 X231 N212 e231 _ (by simp only [if_neg c224, if_neg c228, if_pos c232])
          ·
           refine Home.go (fun _ => XS.ifNo X231.here hx rfl (hb hby at_189) rfl ((if0 _ _).trans (feq c232).1)) ?_
           have bd234 : ¬ (f_rm11_1 (2 : Int32) r215 r219 v217 r213) < (1 : Int32) ∧ ¬ (1 : Int32) < (f_rm11_1 (2 : Int32) r215 r219 v217 r213) := ⟨(bnd_nel (f_rm11_1_bnd (2 : Int32) r215 r219 v217 r213 (bnd_mono (bnd_lit (2 : Int32)) (by decide +kernel) (by decide +kernel)) (bnd_mono br215 (by decide +kernel) (by decide +kernel)) br219).1 c232 (by decide +kernel)), (f_rm11_1_bnd (2 : Int32) r215 r219 v217 r213 (bnd_mono (bnd_lit (2 : Int32)) (by decide +kernel) (by decide +kernel)) (bnd_mono br215 (by decide +kernel) (by decide +kernel)) br219).2⟩
           refine Home.run X231 hx hby sg0_192_5 (pc' := 201) (L' := #[si i0, si i1, si i2, si i3, si 5, si v2, si v3, si v4, si v5, si v6, si v7, sr b1_206, sr b31_212, si r215, .val (.long v217), .second, si r219]) (S' := [(.long v217), (.int r219), (.int r215), (.int 3), (.ref b31_212)]) rfl ?_
           refine Home.st (own_pure (own_static X231 hx hZ hown (own_w52 hw) (own_w53 hw) (own_w4 hw) (own_w54 hw) (by decide) (rm11_1 l Z a0 hw [] b31_212 (3 : Int32) r215 r219 v217 k31_212 r213 T212.heap n0 O212 (bnd_mono (bnd_lit (3 : Int32)) (by decide +kernel) (by decide +kernel)) (bnd_mono br215 (by decide +kernel) (by decide +kernel)) br219 P212_0) e231 rfl (by rw [hml]; rfl) (argsL := [(.ref b31_212), (.int 3), (.int r215), (.int r219), (.long v217)]) (rest := []) (lenOf own_pd9 rfl) rfl rfl (W := 0) (by exact hW0) (by decide) (by decide) (hb hby at_201) (by decide) (by decide))) fun T235 X235 e235 => ?_
           by_cases c236 : (f_rm11_1 (3 : Int32) r215 r219 v217 r213) = (0 : Int32)
           ·
            refine Home.go (fun _ => XS.ifYes X235.here hx rfl (pc0 := 204) (pc' := 241) rfl (hb hby at_204) rfl ((if0 _ _).trans (teq c236).1) (by decide) (by decide)) ?_
            have bd237 : ¬ (f_rm11_1 (3 : Int32) r215 r219 v217 r213) < (0 : Int32) ∧ ¬ (0 : Int32) < (f_rm11_1 (3 : Int32) r215 r219 v217 r213) := ⟨(bnd_eql c236), (bnd_eqr c236)⟩
            refine Home.run X235 hx hby sg0_241_1 (pc' := 242) (L' := #[si i0, si i1, si i2, si i3, si 5, si v2, si v3, si v4, si v5, si v6, si v7, sr b1_206, sr b31_212, si r215, .val (.long v217), .second, si r219]) (S' := [(.int 0)]) rfl ?_
            exact J247 X235 N212 e235 _ (by simp only [if_neg c224, if_neg c228, if_neg c232, if_pos c236])
           ·
            refine Home.go (fun _ => XS.ifNo X235.here hx rfl (hb hby at_204) rfl ((if0 _ _).trans (feq c236).1)) ?_
            have bd238 : ¬ (f_rm11_1 (3 : Int32) r215 r219 v217 r213) < (1 : Int32) ∧ ¬ (1 : Int32) < (f_rm11_1 (3 : Int32) r215 r219 v217 r213) := ⟨(bnd_nel (f_rm11_1_bnd (3 : Int32) r215 r219 v217 r213 (bnd_mono (bnd_lit (3 : Int32)) (by decide +kernel) (by decide +kernel)) (bnd_mono br215 (by decide +kernel) (by decide +kernel)) br219).1 c236 (by decide +kernel)), (f_rm11_1_bnd (3 : Int32) r215 r219 v217 r213 (bnd_mono (bnd_lit (3 : Int32)) (by decide +kernel) (by decide +kernel)) (bnd_mono br215 (by decide +kernel) (by decide +kernel)) br219).2⟩
            refine Home.run X235 hx hby sg0_207_5 (pc' := 216) (L' := #[si i0, si i1, si i2, si i3, si 5, si v2, si v3, si v4, si v5, si v6, si v7, sr b1_206, sr b31_212, si r215, .val (.long v217), .second, si r219]) (S' := [(.long v217), (.int r219), (.int r215), (.int 4), (.ref b31_212)]) rfl ?_
            refine Home.st (own_pure (own_static X235 hx hZ hown (own_w52 hw) (own_w53 hw) (own_w4 hw) (own_w54 hw) (by decide) (rm11_1 l Z a0 hw [] b31_212 (4 : Int32) r215 r219 v217 k31_212 r213 T212.heap n0 O212 (bnd_mono (bnd_lit (4 : Int32)) (by decide +kernel) (by decide +kernel)) (bnd_mono br215 (by decide +kernel) (by decide +kernel)) br219 P212_0) e235 rfl (by rw [hml]; rfl) (argsL := [(.ref b31_212), (.int 4), (.int r215), (.int r219), (.long v217)]) (rest := []) (lenOf own_pd9 rfl) rfl rfl (W := 0) (by exact hW0) (by decide) (by decide) (hb hby at_216) (by decide) (by decide))) fun T239 X239 e239 => ?_
            by_cases c240 : (f_rm11_1 (4 : Int32) r215 r219 v217 r213) = (0 : Int32)
            ·
             refine Home.go (fun _ => XS.ifYes X239.here hx rfl (pc0 := 219) (pc' := 241) rfl (hb hby at_219) rfl ((if0 _ _).trans (teq c240).1) (by decide) (by decide)) ?_
             have bd241 : ¬ (f_rm11_1 (4 : Int32) r215 r219 v217 r213) < (0 : Int32) ∧ ¬ (0 : Int32) < (f_rm11_1 (4 : Int32) r215 r219 v217 r213) := ⟨(bnd_eql c240), (bnd_eqr c240)⟩
             refine Home.run X239 hx hby sg0_241_1 (pc' := 242) (L' := #[si i0, si i1, si i2, si i3, si 5, si v2, si v3, si v4, si v5, si v6, si v7, sr b1_206, sr b31_212, si r215, .val (.long v217), .second, si r219]) (S' := [(.int 0)]) rfl ?_
             exact J247 X239 N212 e239 _ (by simp only [if_neg c224, if_neg c228, if_neg c232, if_neg c236, if_pos c240])
            ·
             refine Home.go (fun _ => XS.ifNo X239.here hx rfl (hb hby at_219) rfl ((if0 _ _).trans (feq c240).1)) ?_
             have bd242 : ¬ (f_rm11_1 (4 : Int32) r215 r219 v217 r213) < (1 : Int32) ∧ ¬ (1 : Int32) < (f_rm11_1 (4 : Int32) r215 r219 v217 r213) := ⟨(bnd_nel (f_rm11_1_bnd (4 : Int32) r215 r219 v217 r213 (bnd_mono (bnd_lit (4 : Int32)) (by decide +kernel) (by decide +kernel)) (bnd_mono br215 (by decide +kernel) (by decide +kernel)) br219).1 c240 (by decide +kernel)), (f_rm11_1_bnd (4 : Int32) r215 r219 v217 r213 (bnd_mono (bnd_lit (4 : Int32)) (by decide +kernel) (by decide +kernel)) (bnd_mono br215 (by decide +kernel) (by decide +kernel)) br219).2⟩
             refine Home.run X239 hx hby sg0_222_5 (pc' := 231) (L' := #[si i0, si i1, si i2, si i3, si 5, si v2, si v3, si v4, si v5, si v6, si v7, sr b1_206, sr b31_212, si r215, .val (.long v217), .second, si r219]) (S' := [(.long v217), (.int r219), (.int r215), (.int 5), (.ref b31_212)]) rfl ?_
             refine Home.st (own_pure (own_static X239 hx hZ hown (own_w52 hw) (own_w53 hw) (own_w4 hw) (own_w54 hw) (by decide) (rm11_1 l Z a0 hw [] b31_212 (5 : Int32) r215 r219 v217 k31_212 r213 T212.heap n0 O212 (bnd_mono (bnd_lit (5 : Int32)) (by decide +kernel) (by decide +kernel)) (bnd_mono br215 (by decide +kernel) (by decide +kernel)) br219 P212_0) e239 rfl (by rw [hml]; rfl) (argsL := [(.ref b31_212), (.int 5), (.int r215), (.int r219), (.long v217)]) (rest := []) (lenOf own_pd9 rfl) rfl rfl (W := 0) (by exact hW0) (by decide) (by decide) (hb hby at_231) (by decide) (by decide))) fun T243 X243 e243 => ?_
             by_cases c244 : (f_rm11_1 (5 : Int32) r215 r219 v217 r213) = (0 : Int32)
             ·
              refine Home.go (fun _ => XS.ifYes X243.here hx rfl (pc0 := 234) (pc' := 241) rfl (hb hby at_234) rfl ((if0 _ _).trans (teq c244).1) (by decide) (by decide)) ?_
              have bd245 : ¬ (f_rm11_1 (5 : Int32) r215 r219 v217 r213) < (0 : Int32) ∧ ¬ (0 : Int32) < (f_rm11_1 (5 : Int32) r215 r219 v217 r213) := ⟨(bnd_eql c244), (bnd_eqr c244)⟩
              refine Home.run X243 hx hby sg0_241_1 (pc' := 242) (L' := #[si i0, si i1, si i2, si i3, si 5, si v2, si v3, si v4, si v5, si v6, si v7, sr b1_206, sr b31_212, si r215, .val (.long v217), .second, si r219]) (S' := [(.int 0)]) rfl ?_
              exact J247 X243 N212 e243 _ (by simp only [if_neg c224, if_neg c228, if_neg c232, if_neg c236, if_neg c240, if_pos c244])
             ·
              refine Home.go (fun _ => XS.ifNo X243.here hx rfl (hb hby at_234) rfl ((if0 _ _).trans (feq c244).1)) ?_
              have bd246 : ¬ (f_rm11_1 (5 : Int32) r215 r219 v217 r213) < (1 : Int32) ∧ ¬ (1 : Int32) < (f_rm11_1 (5 : Int32) r215 r219 v217 r213) := ⟨(bnd_nel (f_rm11_1_bnd (5 : Int32) r215 r219 v217 r213 (bnd_mono (bnd_lit (5 : Int32)) (by decide +kernel) (by decide +kernel)) (bnd_mono br215 (by decide +kernel) (by decide +kernel)) br219).1 c244 (by decide +kernel)), (f_rm11_1_bnd (5 : Int32) r215 r219 v217 r213 (bnd_mono (bnd_lit (5 : Int32)) (by decide +kernel) (by decide +kernel)) (bnd_mono br215 (by decide +kernel) (by decide +kernel)) br219).2⟩
              refine Home.run X243 hx hby sg0_237_2 (pc' := 242) (L' := #[si i0, si i1, si i2, si i3, si 5, si v2, si v3, si v4, si v5, si v6, si v7, sr b1_206, sr b31_212, si r215, .val (.long v217), .second, si r219]) (S' := [(.int 1)]) rfl ?_
              exact J247 X243 N212 e243 _ (by simp only [if_neg c224, if_neg c228, if_neg c232, if_neg c236, if_neg c240, if_neg c244])
       intro TJ247 lcJ247 XJ247 NJ247 eJ247 v248 hv248
       have bv248 : ¬ v248 < (0 : Int32) ∧ ¬ (1 : Int32) < v248 := by rw [hv248]; exact (bnd_ite (bnd_mono (bnd_lit (0 : Int32)) (by decide +kernel) (by decide +kernel)) (bnd_ite (bnd_mono (bnd_lit (0 : Int32)) (by decide +kernel) (by decide +kernel)) (bnd_ite (bnd_mono (bnd_lit (0 : Int32)) (by decide +kernel) (by decide +kernel)) (bnd_ite (bnd_mono (bnd_lit (0 : Int32)) (by decide +kernel) (by decide +kernel)) (bnd_ite (bnd_mono (bnd_lit (0 : Int32)) (by decide +kernel) (by decide +kernel)) (bnd_ite (bnd_mono (bnd_lit (0 : Int32)) (by decide +kernel) (by decide +kernel)) (bnd_mono (bnd_lit (1 : Int32)) (by decide +kernel) (by decide +kernel))))))))
       show Home TJ247 (mkF m 242 #[si i0, si i1, si i2, si i3, si 5, si v2, si v3, si v4, si v5, si v6, si v7, sr b1_206, sr b31_212, si r215, .val (.long v217), .second, si r219] [(.int v248)])
       exact HomeW.retN XJ247 hx hlk hZ (own_hEL hw) eJ247 Ce212 (t := .boolean) hret (by simp) (hb hby at_242) ⟨congrArg some (congrArg Value.int (own_end10 i1 i2 i3 v2 hv2 v3 hv3 v4 hv4 v5 hv5 v6 hv6 r207 hr207 r208 hr208 r209 hr209 r210 hr210 r211 hr211 r213 hr213 r215 hr215 v217 hv217 r219 hr219 r223 hr223 v248 hv248)), NJ247⟩ (by decide) (by decide)
      ·
       have bd204 : ¬ v1 < (6 : Int32) ∧ ¬ (6 : Int32) < v1 := ⟨(bnd_nel bd158.1 c201 (by decide +kernel)), bd158.2⟩
       have fx205 : v1 = (6 : Int32) := bnd_fix bd204
       try rw [fx205]
       show Home s₁ (mkF m 63 #[si i0, si i1, si i2, si i3, si 6, si v2, si v3, si v4, si v5, si v6, si v7, un, un, un, un, un, un] [])
       refine Home.run X0 hx hby sg0_63_7 (pc' := 77) (L' := #[si i0, si i1, si i2, si i3, si 6, si v2, si v3, si v4, si v5, si v6, si v7, un, un, un, un, un, un]) (S' := [(.int v7), (.int v6), (.int v5), (.int v4), (.int v3), (.int v2), (.int 6)]) rfl ?_
       refine Home.call (own_staticW X0 hx hZ hown (own_hEL hw) Cd0 all0 (own_w2 hw) (own_w3 hw) (own_w4 hw) (own_w5 hw) (by decide) (rm1_6 l Z a0 hw [] v2 v3 v4 v5 v6 v7 sv_COMPACT_STRINGS sv_SIOOBE_FORMATTER h0 n0 O0 bv2 bv3 bv4 bv5 bv6 bv7 S_COMPACT_STRINGS S_SIOOBE_FORMATTER hCS isr_sv_SIOOBE_FORMATTER) e0 rfl (by rw [hml]; rfl) (argsL := [(.int 6), (.int v2), (.int v3), (.int v4), (.int v5), (.int v6), (.int v7)]) (rest := []) (lenOf own_pd2 rfl) rfl rfl (W := 0) (by exact hW0) (by decide) (by decide) (hb hby at_77) (by decide) (by decide)) ?_
       rintro _ T249 L249 X249 ⟨⟨b1_249, b1_3_2_31_249, k1_3_2_31_249, rfl, N249q, sz_b1_249, sz_b1_3_2_31_249, K249q, P249_0, P249_1, P249_2, P249_3⟩, hZ, hown, Cd249, sR249⟩
       have Ce249 := Cold.put Cd249 (sR249 rfl _ rfl)
       have g_b1_249 : n0 ≤ b1_249 := Nat.le_trans (Old.le O0) sz_b1_249
       have g_b1_3_2_31_249 : n0 ≤ b1_3_2_31_249 := Nat.le_trans (Old.le O0) sz_b1_3_2_31_249
       have O249 := Old.keep O0 K249q all0
       have K249 : Keep h0 T249.heap ([] : List Addr) := Keep.trans (Keep.refl h0 ([] : List Addr)) K249q all0
       have N249 := Fr.app N0 N249q
       show Home T249 (mkF m 80 #[si i0, si i1, si i2, si i3, si 6, si v2, si v3, si v4, si v5, si v6, si v7, un, un, un, un, un, un] [(.ref b1_249)])
       obtain ⟨r250, hr250⟩ : ∃ z, z = ((nar .char ((own_at own_TI0 v2) &&& (255 : Int32))).toInt8.toInt32) := ⟨_, rfl⟩
       rw [← hr250] at P249_3
       obtain ⟨r251, hr251⟩ : ∃ z, z = ((nar .char ((own_at own_TI0 v3) &&& (255 : Int32))).toInt8.toInt32) := ⟨_, rfl⟩
       rw [← hr251] at P249_3
       obtain ⟨r252, hr252⟩ : ∃ z, z = ((nar .char ((own_at own_TI0 v4) &&& (255 : Int32))).toInt8.toInt32) := ⟨_, rfl⟩
       rw [← hr252] at P249_3
       obtain ⟨r253, hr253⟩ : ∃ z, z = ((nar .char ((own_at own_TI0 v5) &&& (255 : Int32))).toInt8.toInt32) := ⟨_, rfl⟩
       rw [← hr253] at P249_3
       obtain ⟨r254, hr254⟩ : ∃ z, z = ((nar .char ((own_at own_TI0 v6) &&& (255 : Int32))).toInt8.toInt32) := ⟨_, rfl⟩
       rw [← hr254] at P249_3
       obtain ⟨r255, hr255⟩ : ∃ z, z = ((nar .char ((own_at own_TI0 v7) &&& (255 : Int32))).toInt8.toInt32) := ⟨_, rfl⟩
       rw [← hr255] at P249_3
       refine Home.run X249 hx hby sg0_80_2 (pc' := 84) (L' := #[si i0, si i1, si i2, si i3, si 6, si v2, si v3, si v4, si v5, si v6, si v7, sr b1_249, un, un, un, un, un]) (S' := [(.ref b1_249)]) rfl ?_
       refine Home.call (own_staticW X249 hx hZ hown (own_hEL hw) Ce249 all0 (own_w28 hw) (own_w29 hw) (own_w30 hw) (own_w31 hw) (by decide) (rm5_1 l Z a0 hw [] b1_249 b1_3_2_31_249 k1_3_2_31_249 [r250, r251, r252, r253, r254, r255] sv_COMPACT_STRINGS sv_SIOOBE_FORMATTER T249.heap n0 O249 (show (0 : Int32) < Int32.ofNat 6 by decide) P249_0 P249_1 P249_3 S_COMPACT_STRINGS P249_2 hCS (Nat.le_trans (own_len_lit (l := [r250, r251, r252, r253, r254, r255]) (n := 6) rfl).2 (by decide)) S_SIOOBE_FORMATTER isr_sv_SIOOBE_FORMATTER (List.forall_mem_cons.mpr ⟨own_hv bv2 hr250, (List.forall_mem_cons.mpr ⟨own_hv bv3 hr251, (List.forall_mem_cons.mpr ⟨own_hv bv4 hr252, (List.forall_mem_cons.mpr ⟨own_hv bv5 hr253, (List.forall_mem_cons.mpr ⟨own_hv bv6 hr254, (List.forall_mem_cons.mpr ⟨own_hv bv7 hr255, (fun _ q => nomatch q)⟩)⟩)⟩)⟩)⟩)⟩)) rfl rfl (by rw [hml]; rfl) (argsL := [(.ref b1_249)]) (rest := []) (lenOf own_pd5 rfl) rfl rfl (W := 0) (by exact hW0) (by decide) (by decide) (hb hby at_84) (by decide) (by decide)) ?_
       rintro _ T256 L256 X256 ⟨⟨b31_256, k31_256, rfl, N256q, sz_b31_256, K256q, P256_0⟩, hZ, hown, Cd256, sR256⟩
       have Ce256 := Cold.put Cd256 (sR256 rfl _ rfl)
       have g_b31_256 : n0 ≤ b31_256 := Nat.le_trans (Old.le O249) sz_b31_256
       have O256 := Old.keep O249 K256q all0
       have K256 : Keep h0 T256.heap ([] : List Addr) := Keep.trans K249 K256q all0
       have N256 := Fr.app N249 N256q
       show Home T256 (mkF m 87 #[si i0, si i1, si i2, si i3, si 6, si v2, si v3, si v4, si v5, si v6, si v7, sr b1_249, un, un, un, un, un] [(.ref b31_256)])
       obtain ⟨r257, hr257⟩ : ∃ z, z = (own_dec [r250, r251, r252, r253, r254, r255]) := ⟨_, rfl⟩
       rw [← hr257] at P256_0
       refine Home.run X256 hx hby sg0_87_8 (pc' := 103) (L' := #[si i0, si i1, si i2, si i3, si 6, si v2, si v3, si v4, si v5, si v6, si v7, sr b1_249, sr b31_256, un, un, un, un]) (S' := [(.int v7), (.int v6), (.int v5), (.int v4), (.int v3), (.int v2), (.int 6)]) rfl ?_
       refine Home.st (own_pure (own_static X256 hx hZ hown (own_w43 hw) (own_w44 hw) (own_w4 hw) (own_w45 hw) (by decide) (rm8_6 l Z a0 hw [] v2 v3 v4 v5 v6 v7 T256.heap n0 O256 bv2 bv3 bv4 bv5 bv6 bv7) rfl rfl (by rw [hml]; rfl) (argsL := [(.int 6), (.int v2), (.int v3), (.int v4), (.int v5), (.int v6), (.int v7)]) (rest := []) (lenOf own_pd6 rfl) rfl rfl (W := 0) (by exact hW0) (by decide) (by decide) (hb hby at_103) (by decide) (by decide))) fun T258 X258 e258 => ?_
       show Home T258 (mkF m 106 #[si i0, si i1, si i2, si i3, si 6, si v2, si v3, si v4, si v5, si v6, si v7, sr b1_249, sr b31_256, un, un, un, un] [(.int (f_rm8_6 v2 v3 v4 v5 v6 v7))])
       obtain ⟨r259, hr259⟩ : ∃ z, z = (f_rm8_6 v2 v3 v4 v5 v6 v7) := ⟨_, rfl⟩
       rw [← hr259]
       have br259 : ¬ r259 < (0 : Int32) ∧ ¬ (6 : Int32) < r259 := by rw [hr259]; exact f_rm8_6_bnd v2 v3 v4 v5 v6 v7 bv2 bv3 bv4 bv5 bv6 bv7
       refine Home.run X258 hx hby sg0_106_8 (pc' := 122) (L' := #[si i0, si i1, si i2, si i3, si 6, si v2, si v3, si v4, si v5, si v6, si v7, sr b1_249, sr b31_256, si r259, un, un, un]) (S' := [(.int v7), (.int v6), (.int v5), (.int v4), (.int v3), (.int v2), (.int 6)]) rfl ?_
       refine Home.st (own_pure (own_static X258 hx hZ hown (own_w46 hw) (own_w47 hw) (own_w4 hw) (own_w48 hw) (by decide) (rm9_6 l Z a0 hw [] v2 v3 v4 v5 v6 v7 T256.heap n0 O256 bv2 bv3 bv4 bv5 bv6 bv7) e258 rfl (by rw [hml]; rfl) (argsL := [(.int 6), (.int v2), (.int v3), (.int v4), (.int v5), (.int v6), (.int v7)]) (rest := []) (lenOf own_pd7 rfl) rfl rfl (W := 0) (by exact hW0) (by decide) (by decide) (hb hby at_122) (by decide) (by decide))) fun T260 X260 e260 => ?_
       refine Home.run X260 hx hby sg0_125_1 (pc' := 127) (L' := #[si i0, si i1, si i2, si i3, si 6, si v2, si v3, si v4, si v5, si v6, si v7, sr b1_249, sr b31_256, si r259, .val (.long (((((((((((v2.toInt64) * (58 : Int64)) + (v3.toInt64)) * (58 : Int64)) + (v4.toInt64)) * (58 : Int64)) + (v5.toInt64)) * (58 : Int64)) + (v6.toInt64)) * (58 : Int64)) + (v7.toInt64))), .second, un]) (S' := []) rfl ?_
       obtain ⟨v261, hv261⟩ : ∃ z, z = (((((((((((v2.toInt64) * (58 : Int64)) + (v3.toInt64)) * (58 : Int64)) + (v4.toInt64)) * (58 : Int64)) + (v5.toInt64)) * (58 : Int64)) + (v6.toInt64)) * (58 : Int64)) + (v7.toInt64)) := ⟨_, rfl⟩
       rw [← hv261]
       refine Home.run X260 hx hby sg0_127_1 (pc' := 129) (L' := #[si i0, si i1, si i2, si i3, si 6, si v2, si v3, si v4, si v5, si v6, si v7, sr b1_249, sr b31_256, si r259, .val (.long v261), .second, un]) (S' := [(.long v261)]) rfl ?_
       refine Home.st (own_pure (own_static X260 hx hZ hown (own_w49 hw) (own_w50 hw) (own_w4 hw) (own_w51 hw) (by decide) (rm10_1 l Z a0 hw [] v261 T256.heap n0 O256) e260 rfl (by rw [hml]; rfl) (argsL := [(.long v261)]) (rest := []) (lenOf own_pd8 rfl) rfl rfl (W := 0) (by exact hW0) (by decide) (by decide) (hb hby at_129) (by decide) (by decide))) fun T262 X262 e262 => ?_
       show Home T262 (mkF m 132 #[si i0, si i1, si i2, si i3, si 6, si v2, si v3, si v4, si v5, si v6, si v7, sr b1_249, sr b31_256, si r259, .val (.long v261), .second, un] [(.int (f_rm10_1 v261))])
       obtain ⟨r263, hr263⟩ : ∃ z, z = (f_rm10_1 v261) := ⟨_, rfl⟩
       rw [← hr263]
       have br263 : ¬ r263 < (0 : Int32) ∧ ¬ (5 : Int32) < r263 := by rw [hr263]; exact f_rm10_1_bnd v261
       refine Home.run X262 hx hby sg0_132_2 (pc' := 136) (L' := #[si i0, si i1, si i2, si i3, si 6, si v2, si v3, si v4, si v5, si v6, si v7, sr b1_249, sr b31_256, si r259, .val (.long v261), .second, si r263]) (S' := [(.ref b31_256)]) rfl ?_
       obtain ⟨cl264, Ar264, q264, S264, M264, H264, G264⟩ := id P256_0
       refine Home.go (own_alen X262 hx hZ e262 Ar264 S264 M264 rfl rfl (hb hby at_136)) ?_
       refine Home.run X262 hx hby sg0_137_3 (pc' := 142) (L' := #[si i0, si i1, si i2, si i3, si 6, si v2, si v3, si v4, si v5, si v6, si v7, sr b1_249, sr b31_256, si r259, .val (.long v261), .second, si r263]) (S' := [(.int (r259 + r263)), (.int (own_n r257))]) rfl ?_
       have hl265 := (own_ln265 i1 i2 i3 v2 hv2 v3 hv3 v4 hv4 v5 hv5 v6 hv6 v7 hv7 r250 hr250 r251 hr251 r252 hr252 r253 hr253 r254 hr254 r255 hr255 r257 hr257 r259 hr259 v261 hv261 r263 hr263)
       refine Home.go (fun _ => XS.icmpYes X262.here hx rfl (pc0 := 142) (pc' := 147) rfl (hb hby at_142) rfl (teq hl265).1 (by decide) (by decide)) ?_
       refine Home.run X262 hx hby sg0_147_5 (pc' := 156) (L' := #[si i0, si i1, si i2, si i3, si 6, si v2, si v3, si v4, si v5, si v6, si v7, sr b1_249, sr b31_256, si r259, .val (.long v261), .second, si r263]) (S' := [(.long v261), (.int r263), (.int r259), (.int 0), (.ref b31_256)]) rfl ?_
       refine Home.st (own_pure (own_static X262 hx hZ hown (own_w52 hw) (own_w53 hw) (own_w4 hw) (own_w54 hw) (by decide) (rm11_1 l Z a0 hw [] b31_256 (0 : Int32) r259 r263 v261 k31_256 r257 T256.heap n0 O256 (bnd_mono (bnd_lit (0 : Int32)) (by decide +kernel) (by decide +kernel)) br259 br263 P256_0) e262 rfl (by rw [hml]; rfl) (argsL := [(.ref b31_256), (.int 0), (.int r259), (.int r263), (.long v261)]) (rest := []) (lenOf own_pd9 rfl) rfl rfl (W := 0) (by exact hW0) (by decide) (by decide) (hb hby at_156) (by decide) (by decide))) fun T266 X266 e266 => ?_
       show Home T266 (mkF m 159 #[si i0, si i1, si i2, si i3, si 6, si v2, si v3, si v4, si v5, si v6, si v7, sr b1_249, sr b31_256, si r259, .val (.long v261), .second, si r263] [(.int (f_rm11_1 (0 : Int32) r259 r263 v261 r257))])
       obtain ⟨r267, hr267⟩ : ∃ z, z = (f_rm11_1 (0 : Int32) r259 r263 v261 r257) := ⟨_, rfl⟩
       rw [← hr267]
       have br267 : ¬ r267 < (0 : Int32) ∧ ¬ (1 : Int32) < r267 := by rw [hr267]; exact f_rm11_1_bnd (0 : Int32) r259 r263 v261 r257 (bnd_mono (bnd_lit (0 : Int32)) (by decide +kernel) (by decide +kernel)) br259 br263
       suffices J291 : ∀ {T : State} {lc : List Loc} (X : Stand p l e room_1 (s.setVm T256.vm) m #[(.int i0), (.int i1), (.int i2), (.int i3)] below meth c T lc 19 1686) (N : Fr n0 lc) (eT : T.heap = T256.heap) (v292 : Int32) (hv292 : v292 = (if r267 = (0 : Int32) then (0 : Int32) else (if (f_rm11_1 (1 : Int32) r259 r263 v261 r257) = (0 : Int32) then (0 : Int32) else (if (f_rm11_1 (2 : Int32) r259 r263 v261 r257) = (0 : Int32) then (0 : Int32) else (if (f_rm11_1 (3 : Int32) r259 r263 v261 r257) = (0 : Int32) then (0 : Int32) else (if (f_rm11_1 (4 : Int32) r259 r263 v261 r257) = (0 : Int32) then (0 : Int32) else (if (f_rm11_1 (5 : Int32) r259 r263 v261 r257) = (0 : Int32) then (0 : Int32) else (1 : Int32)))))))), @Home p e below _ T (mkF m 242 #[si i0, si i1, si i2, si i3, si 6, si v2, si v3, si v4, si v5, si v6, si v7, sr b1_249, sr b31_256, si r259, .val (.long v261), .second, si r263] [(.int v292)]) by
        by_cases c268 : r267 = (0 : Int32)
        ·
         refine Home.go (fun _ => XS.ifYes X266.here hx rfl (pc0 := 159) (pc' := 241) rfl (hb hby at_159) rfl ((if0 _ _).trans (teq c268).1) (by decide) (by decide)) ?_
         have bd269 : ¬ r267 < (0 : Int32) ∧ ¬ (0 : Int32) < r267 := ⟨(bnd_eql c268), (bnd_eqr c268)⟩
         refine Home.run X266 hx hby sg0_241_1 (pc' := 242) (L' := #[si i0, si i1, si i2, si i3, si 6, si v2, si v3, si v4, si v5, si v6, si v7, sr b1_249, sr b31_256, si r259, .val (.long v261), .second, si r263]) (S' := [(.int 0)]) rfl ?_
         exact J291 X266 N256 e266 _ (by simp only [if_pos c268])
        ·
         refine Home.go (fun _ => XS.ifNo X266.here hx rfl (hb hby at_159) rfl ((if0 _ _).trans (feq c268).1)) ?_
         have bd270 : ¬ r267 < (1 : Int32) ∧ ¬ (1 : Int32) < r267 := ⟨(bnd_nel br267.1 c268 (by decide +kernel)), br267.2⟩
         refine Home.run X266 hx hby sg0_162_5 (pc' := 171) (L' := #[si i0, si i1, si i2, si i3, si 6, si v2, si v3, si v4, si v5, si v6, si v7, sr b1_249, sr b31_256, si r259, .val (.long v261), .second, si r263]) (S' := [(.long v261), (.int r263), (.int r259), (.int 1), (.ref b31_256)]) rfl ?_
         refine Home.st (own_pure (own_static X266 hx hZ hown (own_w52 hw) (own_w53 hw) (own_w4 hw) (own_w54 hw) (by decide) (rm11_1 l Z a0 hw [] b31_256 (1 : Int32) r259 r263 v261 k31_256 r257 T256.heap n0 O256 (bnd_mono (bnd_lit (1 : Int32)) (by decide +kernel) (by decide +kernel)) br259 br263 P256_0) e266 rfl (by rw [hml]; rfl) (argsL := [(.ref b31_256), (.int 1), (.int r259), (.int r263), (.long v261)]) (rest := []) (lenOf own_pd9 rfl) rfl rfl (W := 0) (by exact hW0) (by decide) (by decide) (hb hby at_171) (by decide) (by decide))) fun T271 X271 e271 => ?_
         by_cases c272 : (f_rm11_1 (1 : Int32) r259 r263 v261 r257) = (0 : Int32)
         ·
          refine Home.go (fun _ => XS.ifYes X271.here hx rfl (pc0 := 174) (pc' := 241) rfl (hb hby at_174) rfl ((if0 _ _).trans (teq c272).1) (by decide) (by decide)) ?_
          have bd273 : ¬ (f_rm11_1 (1 : Int32) r259 r263 v261 r257) < (0 : Int32) ∧ ¬ (0 : Int32) < (f_rm11_1 (1 : Int32) r259 r263 v261 r257) := ⟨(bnd_eql c272), (bnd_eqr c272)⟩
          refine Home.run X271 hx hby sg0_241_1 (pc' := 242) (L' := #[si i0, si i1, si i2, si i3, si 6, si v2, si v3, si v4, si v5, si v6, si v7, sr b1_249, sr b31_256, si r259, .val (.long v261), .second, si r263]) (S' := [(.int 0)]) rfl ?_
          exact J291 X271 N256 e271 _ (by simp only [if_neg c268, if_pos c272])
         ·
          refine Home.go (fun _ => XS.ifNo X271.here hx rfl (hb hby at_174) rfl ((if0 _ _).trans (feq c272).1)) ?_
          have bd274 : ¬ (f_rm11_1 (1 : Int32) r259 r263 v261 r257) < (1 : Int32) ∧ ¬ (1 : Int32) < (f_rm11_1 (1 : Int32) r259 r263 v261 r257) := ⟨(bnd_nel (f_rm11_1_bnd (1 : Int32) r259 r263 v261 r257 (bnd_mono (bnd_lit (1 : Int32)) (by decide +kernel) (by decide +kernel)) br259 br263).1 c272 (by decide +kernel)), (f_rm11_1_bnd (1 : Int32) r259 r263 v261 r257 (bnd_mono (bnd_lit (1 : Int32)) (by decide +kernel) (by decide +kernel)) br259 br263).2⟩
          refine Home.run X271 hx hby sg0_177_5 (pc' := 186) (L' := #[si i0, si i1, si i2, si i3, si 6, si v2, si v3, si v4, si v5, si v6, si v7, sr b1_249, sr b31_256, si r259, .val (.long v261), .second, si r263]) (S' := [(.long v261), (.int r263), (.int r259), (.int 2), (.ref b31_256)]) rfl ?_
          refine Home.st (own_pure (own_static X271 hx hZ hown (own_w52 hw) (own_w53 hw) (own_w4 hw) (own_w54 hw) (by decide) (rm11_1 l Z a0 hw [] b31_256 (2 : Int32) r259 r263 v261 k31_256 r257 T256.heap n0 O256 (bnd_mono (bnd_lit (2 : Int32)) (by decide +kernel) (by decide +kernel)) br259 br263 P256_0) e271 rfl (by rw [hml]; rfl) (argsL := [(.ref b31_256), (.int 2), (.int r259), (.int r263), (.long v261)]) (rest := []) (lenOf own_pd9 rfl) rfl rfl (W := 0) (by exact hW0) (by decide) (by decide) (hb hby at_186) (by decide) (by decide))) fun T275 X275 e275 => ?_
          by_cases c276 : (f_rm11_1 (2 : Int32) r259 r263 v261 r257) = (0 : Int32)
          ·
           refine Home.go (fun _ => XS.ifYes X275.here hx rfl (pc0 := 189) (pc' := 241) rfl (hb hby at_189) rfl ((if0 _ _).trans (teq c276).1) (by decide) (by decide)) ?_
           have bd277 : ¬ (f_rm11_1 (2 : Int32) r259 r263 v261 r257) < (0 : Int32) ∧ ¬ (0 : Int32) < (f_rm11_1 (2 : Int32) r259 r263 v261 r257) := ⟨(bnd_eql c276), (bnd_eqr c276)⟩
           refine Home.run X275 hx hby sg0_241_1 (pc' := 242) (L' := #[si i0, si i1, si i2, si i3, si 6, si v2, si v3, si v4, si v5, si v6, si v7, sr b1_249, sr b31_256, si r259, .val (.long v261), .second, si r263]) (S' := [(.int 0)]) rfl ?_
           exact J291 X275 N256 e275 _ (by simp only [if_neg c268, if_neg c272, if_pos c276])
          ·
           refine Home.go (fun _ => XS.ifNo X275.here hx rfl (hb hby at_189) rfl ((if0 _ _).trans (feq c276).1)) ?_
           have bd278 : ¬ (f_rm11_1 (2 : Int32) r259 r263 v261 r257) < (1 : Int32) ∧ ¬ (1 : Int32) < (f_rm11_1 (2 : Int32) r259 r263 v261 r257) := ⟨(bnd_nel (f_rm11_1_bnd (2 : Int32) r259 r263 v261 r257 (bnd_mono (bnd_lit (2 : Int32)) (by decide +kernel) (by decide +kernel)) br259 br263).1 c276 (by decide +kernel)), (f_rm11_1_bnd (2 : Int32) r259 r263 v261 r257 (bnd_mono (bnd_lit (2 : Int32)) (by decide +kernel) (by decide +kernel)) br259 br263).2⟩
           refine Home.run X275 hx hby sg0_192_5 (pc' := 201) (L' := #[si i0, si i1, si i2, si i3, si 6, si v2, si v3, si v4, si v5, si v6, si v7, sr b1_249, sr b31_256, si r259, .val (.long v261), .second, si r263]) (S' := [(.long v261), (.int r263), (.int r259), (.int 3), (.ref b31_256)]) rfl ?_
           refine Home.st (own_pure (own_static X275 hx hZ hown (own_w52 hw) (own_w53 hw) (own_w4 hw) (own_w54 hw) (by decide) (rm11_1 l Z a0 hw [] b31_256 (3 : Int32) r259 r263 v261 k31_256 r257 T256.heap n0 O256 (bnd_mono (bnd_lit (3 : Int32)) (by decide +kernel) (by decide +kernel)) br259 br263 P256_0) e275 rfl (by rw [hml]; rfl) (argsL := [(.ref b31_256), (.int 3), (.int r259), (.int r263), (.long v261)]) (rest := []) (lenOf own_pd9 rfl) rfl rfl (W := 0) (by exact hW0) (by decide) (by decide) (hb hby at_201) (by decide) (by decide))) fun T279 X279 e279 => ?_
           by_cases c280 : (f_rm11_1 (3 : Int32) r259 r263 v261 r257) = (0 : Int32)
           ·
            refine Home.go (fun _ => XS.ifYes X279.here hx rfl (pc0 := 204) (pc' := 241) rfl (hb hby at_204) rfl ((if0 _ _).trans (teq c280).1) (by decide) (by decide)) ?_
            have bd281 : ¬ (f_rm11_1 (3 : Int32) r259 r263 v261 r257) < (0 : Int32) ∧ ¬ (0 : Int32) < (f_rm11_1 (3 : Int32) r259 r263 v261 r257) := ⟨(bnd_eql c280), (bnd_eqr c280)⟩
            refine Home.run X279 hx hby sg0_241_1 (pc' := 242) (L' := #[si i0, si i1, si i2, si i3, si 6, si v2, si v3, si v4, si v5, si v6, si v7, sr b1_249, sr b31_256, si r259, .val (.long v261), .second, si r263]) (S' := [(.int 0)]) rfl ?_
            exact J291 X279 N256 e279 _ (by simp only [if_neg c268, if_neg c272, if_neg c276, if_pos c280])
           ·
            refine Home.go (fun _ => XS.ifNo X279.here hx rfl (hb hby at_204) rfl ((if0 _ _).trans (feq c280).1)) ?_
            have bd282 : ¬ (f_rm11_1 (3 : Int32) r259 r263 v261 r257) < (1 : Int32) ∧ ¬ (1 : Int32) < (f_rm11_1 (3 : Int32) r259 r263 v261 r257) := ⟨(bnd_nel (f_rm11_1_bnd (3 : Int32) r259 r263 v261 r257 (bnd_mono (bnd_lit (3 : Int32)) (by decide +kernel) (by decide +kernel)) br259 br263).1 c280 (by decide +kernel)), (f_rm11_1_bnd (3 : Int32) r259 r263 v261 r257 (bnd_mono (bnd_lit (3 : Int32)) (by decide +kernel) (by decide +kernel)) br259 br263).2⟩
            refine Home.run X279 hx hby sg0_207_5 (pc' := 216) (L' := #[si i0, si i1, si i2, si i3, si 6, si v2, si v3, si v4, si v5, si v6, si v7, sr b1_249, sr b31_256, si r259, .val (.long v261), .second, si r263]) (S' := [(.long v261), (.int r263), (.int r259), (.int 4), (.ref b31_256)]) rfl ?_
            refine Home.st (own_pure (own_static X279 hx hZ hown (own_w52 hw) (own_w53 hw) (own_w4 hw) (own_w54 hw) (by decide) (rm11_1 l Z a0 hw [] b31_256 (4 : Int32) r259 r263 v261 k31_256 r257 T256.heap n0 O256 (bnd_mono (bnd_lit (4 : Int32)) (by decide +kernel) (by decide +kernel)) br259 br263 P256_0) e279 rfl (by rw [hml]; rfl) (argsL := [(.ref b31_256), (.int 4), (.int r259), (.int r263), (.long v261)]) (rest := []) (lenOf own_pd9 rfl) rfl rfl (W := 0) (by exact hW0) (by decide) (by decide) (hb hby at_216) (by decide) (by decide))) fun T283 X283 e283 => ?_
            by_cases c284 : (f_rm11_1 (4 : Int32) r259 r263 v261 r257) = (0 : Int32)
            ·
             refine Home.go (fun _ => XS.ifYes X283.here hx rfl (pc0 := 219) (pc' := 241) rfl (hb hby at_219) rfl ((if0 _ _).trans (teq c284).1) (by decide) (by decide)) ?_
             have bd285 : ¬ (f_rm11_1 (4 : Int32) r259 r263 v261 r257) < (0 : Int32) ∧ ¬ (0 : Int32) < (f_rm11_1 (4 : Int32) r259 r263 v261 r257) := ⟨(bnd_eql c284), (bnd_eqr c284)⟩
             refine Home.run X283 hx hby sg0_241_1 (pc' := 242) (L' := #[si i0, si i1, si i2, si i3, si 6, si v2, si v3, si v4, si v5, si v6, si v7, sr b1_249, sr b31_256, si r259, .val (.long v261), .second, si r263]) (S' := [(.int 0)]) rfl ?_
             exact J291 X283 N256 e283 _ (by simp only [if_neg c268, if_neg c272, if_neg c276, if_neg c280, if_pos c284])
            ·
             refine Home.go (fun _ => XS.ifNo X283.here hx rfl (hb hby at_219) rfl ((if0 _ _).trans (feq c284).1)) ?_
             have bd286 : ¬ (f_rm11_1 (4 : Int32) r259 r263 v261 r257) < (1 : Int32) ∧ ¬ (1 : Int32) < (f_rm11_1 (4 : Int32) r259 r263 v261 r257) := ⟨(bnd_nel (f_rm11_1_bnd (4 : Int32) r259 r263 v261 r257 (bnd_mono (bnd_lit (4 : Int32)) (by decide +kernel) (by decide +kernel)) br259 br263).1 c284 (by decide +kernel)), (f_rm11_1_bnd (4 : Int32) r259 r263 v261 r257 (bnd_mono (bnd_lit (4 : Int32)) (by decide +kernel) (by decide +kernel)) br259 br263).2⟩
             refine Home.run X283 hx hby sg0_222_5 (pc' := 231) (L' := #[si i0, si i1, si i2, si i3, si 6, si v2, si v3, si v4, si v5, si v6, si v7, sr b1_249, sr b31_256, si r259, .val (.long v261), .second, si r263]) (S' := [(.long v261), (.int r263), (.int r259), (.int 5), (.ref b31_256)]) rfl ?_
             refine Home.st (own_pure (own_static X283 hx hZ hown (own_w52 hw) (own_w53 hw) (own_w4 hw) (own_w54 hw) (by decide) (rm11_1 l Z a0 hw [] b31_256 (5 : Int32) r259 r263 v261 k31_256 r257 T256.heap n0 O256 (bnd_mono (bnd_lit (5 : Int32)) (by decide +kernel) (by decide +kernel)) br259 br263 P256_0) e283 rfl (by rw [hml]; rfl) (argsL := [(.ref b31_256), (.int 5), (.int r259), (.int r263), (.long v261)]) (rest := []) (lenOf own_pd9 rfl) rfl rfl (W := 0) (by exact hW0) (by decide) (by decide) (hb hby at_231) (by decide) (by decide))) fun T287 X287 e287 => ?_
             by_cases c288 : (f_rm11_1 (5 : Int32) r259 r263 v261 r257) = (0 : Int32)
             ·
              refine Home.go (fun _ => XS.ifYes X287.here hx rfl (pc0 := 234) (pc' := 241) rfl (hb hby at_234) rfl ((if0 _ _).trans (teq c288).1) (by decide) (by decide)) ?_
              have bd289 : ¬ (f_rm11_1 (5 : Int32) r259 r263 v261 r257) < (0 : Int32) ∧ ¬ (0 : Int32) < (f_rm11_1 (5 : Int32) r259 r263 v261 r257) := ⟨(bnd_eql c288), (bnd_eqr c288)⟩
              refine Home.run X287 hx hby sg0_241_1 (pc' := 242) (L' := #[si i0, si i1, si i2, si i3, si 6, si v2, si v3, si v4, si v5, si v6, si v7, sr b1_249, sr b31_256, si r259, .val (.long v261), .second, si r263]) (S' := [(.int 0)]) rfl ?_
              exact J291 X287 N256 e287 _ (by simp only [if_neg c268, if_neg c272, if_neg c276, if_neg c280, if_neg c284, if_pos c288])
             ·
              refine Home.go (fun _ => XS.ifNo X287.here hx rfl (hb hby at_234) rfl ((if0 _ _).trans (feq c288).1)) ?_
              have bd290 : ¬ (f_rm11_1 (5 : Int32) r259 r263 v261 r257) < (1 : Int32) ∧ ¬ (1 : Int32) < (f_rm11_1 (5 : Int32) r259 r263 v261 r257) := ⟨(bnd_nel (f_rm11_1_bnd (5 : Int32) r259 r263 v261 r257 (bnd_mono (bnd_lit (5 : Int32)) (by decide +kernel) (by decide +kernel)) br259 br263).1 c288 (by decide +kernel)), (f_rm11_1_bnd (5 : Int32) r259 r263 v261 r257 (bnd_mono (bnd_lit (5 : Int32)) (by decide +kernel) (by decide +kernel)) br259 br263).2⟩
              refine Home.run X287 hx hby sg0_237_2 (pc' := 242) (L' := #[si i0, si i1, si i2, si i3, si 6, si v2, si v3, si v4, si v5, si v6, si v7, sr b1_249, sr b31_256, si r259, .val (.long v261), .second, si r263]) (S' := [(.int 1)]) rfl ?_
              exact J291 X287 N256 e287 _ (by simp only [if_neg c268, if_neg c272, if_neg c276, if_neg c280, if_neg c284, if_neg c288])
       intro TJ291 lcJ291 XJ291 NJ291 eJ291 v292 hv292
       have bv292 : ¬ v292 < (0 : Int32) ∧ ¬ (1 : Int32) < v292 := by rw [hv292]; exact (bnd_ite (bnd_mono (bnd_lit (0 : Int32)) (by decide +kernel) (by decide +kernel)) (bnd_ite (bnd_mono (bnd_lit (0 : Int32)) (by decide +kernel) (by decide +kernel)) (bnd_ite (bnd_mono (bnd_lit (0 : Int32)) (by decide +kernel) (by decide +kernel)) (bnd_ite (bnd_mono (bnd_lit (0 : Int32)) (by decide +kernel) (by decide +kernel)) (bnd_ite (bnd_mono (bnd_lit (0 : Int32)) (by decide +kernel) (by decide +kernel)) (bnd_ite (bnd_mono (bnd_lit (0 : Int32)) (by decide +kernel) (by decide +kernel)) (bnd_mono (bnd_lit (1 : Int32)) (by decide +kernel) (by decide +kernel))))))))
       show Home TJ291 (mkF m 242 #[si i0, si i1, si i2, si i3, si 6, si v2, si v3, si v4, si v5, si v6, si v7, sr b1_249, sr b31_256, si r259, .val (.long v261), .second, si r263] [(.int v292)])
       exact HomeW.retN XJ291 hx hlk hZ (own_hEL hw) eJ291 Ce256 (t := .boolean) hret (by simp) (hb hby at_242) ⟨congrArg some (congrArg Value.int (own_end11 i1 i2 i3 v2 hv2 v3 hv3 v4 hv4 v5 hv5 v6 hv6 v7 hv7 r250 hr250 r251 hr251 r252 hr252 r253 hr253 r254 hr254 r255 hr255 r257 hr257 r259 hr259 v261 hv261 r263 hr263 r267 hr267 v292 hv292)), NJ291⟩ (by decide) (by decide)
theorem comes_1 {Post : Tables → Env → Array Value → State → Outcome → State → Prop} (hpost : ∀ tb e args s v u, (limb_1_1.after args s (.returned v) u = true ∧ limb_1_2.after args s (.returned v) u = true ∧ True) → ReturnedEndW s (.returned v) u (Jvm.fieldLocs frame_1_writes args s ++ Jvm.arrayLocs frame_1_arrays args s ++ Jvm.staticLocs frame_1_statics s) 24 3264 → Post tb e args s (.returned v) u) :
    ArmFor flags0 classFile x code maxLocals ret World_1 tables_1 room_1 Calls_1 rest_1 Pre_1 Post := by
  intro l hfl _ _ p e ha hc hk s m args below hf hA hF happ hP
  obtain ⟨hcalls, hrest, hpre⟩ := hP
  obtain ⟨-, -, -, hnamed, -, -, -, hat⟩ := (Spec.applies_iff hf).mp happ
  obtain ⟨hg, hn⟩ := and_e (Cond.before_iff.mp (show (Jvm.Cond.and given_1 narrow_1).before args s = true from hpre))
  obtain ⟨gg1, gg2⟩ := and_e hg
  obtain ⟨gg3, gg4⟩ := and_e gg2
  obtain ⟨gg5, gg6⟩ := and_e gg4
  obtain ⟨gg7, gg8⟩ := and_e gg6
  obtain ⟨w0, w1, w2, w3, rfl⟩ : ∃ w0 w1 w2 w3 : Value, args = #[w0, w1, w2, w3] := by
    have hs : args.size = 4 := by simpa [Cond.value, given_1] using gg1
    obtain ⟨L⟩ := args
    match L, hs with
    | [w0, w1, w2, w3], _ => exact ⟨w0, w1, w2, w3, rfl⟩
  have hw := fun d (hd : d ∈ tables_1) => atoms_spec (ws := Jvm.Cond.code x code maxLocals ret :: tables_1) hat d (List.mem_cons_of_mem _ hd)
  have hfit : Fit s := fun {y c} hc i hi => by
    obtain ⟨ha, rfl⟩ := Array.getElem?_eq_some_iff.mp hc
    have q := List.all_eq_true.mp ((Array.all_eq_true_iff_forall_mem.mp hF) _ (Array.getElem_mem ha)) i (List.mem_range.mpr hi)
    simpa [Array.getElem?_eq_getElem hi] using q
  obtain ⟨hsets, hown0⟩ := atoms_of _ (rest_1_c_eq ▸ (show rest_1_c.before _ s = true from hrest))
  have hr0 := Cond.before_iff.mp hown0
  obtain ⟨i0, ei0⟩ := is_v gg3
  obtain rfl : w0 = (.int i0) := Option.some.inj ei0
  obtain ⟨i1, ei1⟩ := is_v gg5
  obtain rfl : w1 = (.int i1) := Option.some.inj ei1
  obtain ⟨i2, ei2⟩ := is_v gg7
  obtain rfl : w2 = (.int i2) := Option.some.inj ei2
  obtain ⟨i3, ei3⟩ := is_v gg8
  obtain rfl : w3 = (.int i3) := Option.some.inj ei3
  obtain ⟨sv_COMPACT_STRINGS, v_cs⟩ := is_v (Cond.before_iff.mp (hsets _ (List.mem_of_getElem? (i := 1) rfl)))
  have S_COMPACT_STRINGS := Sta.start v_cs (Or.inl (hsets _ (List.mem_of_getElem? (i := 0) rfl)))
  have hCS : ¬ (sv_COMPACT_STRINGS = (0 : Int32)) := gotF (Cond.eq_ints v_cs (Term.int_eval 0)) (not_v (Cond.before_iff.mp (hsets _ (List.mem_of_getElem? (i := 2) rfl))))
  obtain ⟨sv_SIOOBE_FORMATTER, v_sv_SIOOBE_FORMATTER, isr_sv_SIOOBE_FORMATTER⟩ := isR_v (Cond.before_iff.mp (hsets _ (List.mem_of_getElem? (i := 8) rfl)))
  have S_SIOOBE_FORMATTER := Sta.start v_sv_SIOOBE_FORMATTER (Or.inl (hsets _ (List.mem_of_getElem? (i := 7) rfl)))
  have hCH : CHv s own_EL s.vm s.heap := CHv.start (own_hEL hw) (fun p hp => hcalls.1 p hp) (hsets _ (List.mem_of_getElem? (i := 2) rfl)) (own_w21 hw) (own_w7 hw)
  obtain ⟨n, o, h1, h2, h3, _, L, rfl, ⟨rfl, N⟩, -, -, hq⟩ := rm0 l s _ hw tables_1 i0 i1 i2 i3 sv_COMPACT_STRINGS sv_SIOOBE_FORMATTER s.heap s.heap.size (Old.start s) S_COMPACT_STRINGS hCS S_SIOOBE_FORMATTER isr_sv_SIOOBE_FORMATTER p e ha hc hk s m _ below hf ((Spec.applies_iff_loose hf).mp happ).1 ⟨rfl, State.Warmed39.refl s, rfl, hCH, fun _ hx => nomatch hx⟩ trivial
  refine ⟨n, _, h1, h2, h3, hpost _ _ _ _ _ _ ⟨Cond.after_iff.mpr rfl, Cond.after_iff.mpr (eq_i res_at (Term.int_eval (1)) rfl), trivial⟩ ⟨hq.1, hq.2.1, hq.2.2.1, (hq.2.2.2.sift fun y hy => Or.inr (N y hy)).mono (by decide) (by decide)⟩⟩
theorem main_1_1 : Claimed_1_1 := comes_1 fun _ _ _ _ _ _ h hF => ⟨h.1, hF⟩
theorem main_1_2 : Claimed_1_2 := comes_1 fun _ _ _ _ _ _ h hF => ⟨h.2.1, hF⟩
end Jvm.Pilot.@@N@@
namespace Jvm.Pilot.@@N@@
open Jvm Jvm.ClassFile Sem Op Lib Jvm.Free Jvm.Stand Jvm.Pilot.@@N@@.Jvm.D
/-! MADE BY PROGRAM (witnessworld.py) out of the Statement's table words and the real class files: 21 classes; the members and pool entries that the words name. The judged class is class 1, her method 1. -/
namespace start1
open Jvm.ClassFile
def u (s : String) : CpInfo := .utf8 (stringToUtf16 s)
/-- a pool by its gaps: so many unusable entries, then the entry; so many at the end -/
def gap : Nat → List CpInfo → List CpInfo
  | 0, r => r
  | n + 1, r => .unusable :: gap n r
def poolList (es : List (Nat × CpInfo)) (last : Nat) : List CpInfo := es.foldr (fun e r => gap e.1 (e.2 :: r)) (gap last [])
def pool (es : List (Nat × CpInfo)) (last : Nat) : Array CpInfo := ⟨poolList es last⟩
def fileOf (pool : Array CpInfo) (this : Nat) (attrs : Array Attribute := #[]) (ms : Array MethodInfo := #[]) (fl : Nat := 33) (sup : Nat := 0) (ifs : Array Nat := #[]) (fds : Array FieldInfo := #[]) : ClassFile where
  minorVersion := 0
  majorVersion := 65
  constantPool := pool
  accessFlags := fl
  thisClass := this
  superClass := sup
  interfaces := ifs
  fields := fds
  methods := ms
  attributes := attrs
def plain (name : String) (sup : Option ClassId) : Class where
  name := name
  kind := .ordinary
  loader := none
  accessFlags := 33
  super := sup
  interfaces := #[]
  cf := none
  fields := #[]
  methods := #[]
  instanceTypes := #[]
  staticTypes := #[]
  resolved := #[]
  callSites := []
  init := .initialized
  statics := none
  mirror := none

def pool0 : Array CpInfo := pool [(5, u "<init>"), (0, u "()V"), (1, .class_ 10), (1, u "java/lang/Object")] 113

def k0c0 : Code := { maxStack := 0, maxLocals := 1, code := object_method_1_code, exceptionTable := #[], attributes := #[] }
def k0m0 : Method := { name := "<init>", desc := "()V", sig := { parameters := [], returnType := none }, accessFlags := 1, code := some k0c0 }
/-- java/lang/Object -/
def k0 : Class := { plain "java/lang/Object" none with
  accessFlags := 33
  interfaces := #[]
  cf := some (fileOf pool0 8 #[] #[{ accessFlags := 1, nameIndex := 5, descriptorIndex := 6, attributes := #[] }] 33 0 #[] #[])
  fields := #[]
  methods := #[k0m0]
  instanceTypes := #[]
  staticTypes := #[]
  resolved := Array.replicate 124 none
  statics := none }

def pool1 : Array CpInfo := pool [(2, .class_ 4), (1, u "java/lang/Object"), (0, u "<init>"), (0, u "()V"), (0, .integer 2147483647), (0, .integer 65535), (0, .methodref 10 11), (0, .class_ 12), (0, .nameAndType 13 14), (0, u "com/example/tryst/tryst/encoding/Base58DecodePinLaw"), (0, u "build"), (0, u "(IIIIIII)Ljava/lang/String;"), (0, .methodref 16 17), (0, .class_ 18), (0, .nameAndType 19 20), (0, u "com/example/tryst/tryst/encoding/Base58"), (0, u "decode"), (0, u "(Ljava/lang/String;)[B"), (0, .methodref 10 22), (0, .nameAndType 23 24), (0, u "leadingZeros"), (0, u "(IIIIIII)I"), (0, .methodref 10 26), (0, .nameAndType 27 28), (0, u "value"), (0, u "(IIIIIII)J"), (0, .methodref 10 30), (0, .nameAndType 31 32), (0, u "byteCount"), (0, u "(J)I"), (0, .methodref 10 34), (0, .nameAndType 35 36), (0, u "check"), (0, u "([BIIIJ)Z"), (0, .string 38), (0, u "123456789ABCDEFGHJKLMNPQRSTUVWXYZabcdefghijkmnopqrstuvwxyz"), (0, .methodref 40 41), (0, .class_ 42), (0, .nameAndType 43 44), (0, u "java/lang/String"), (0, u "charAt"), (0, u "(I)C"), (0, .methodref 40 46), (0, .nameAndType 5 47), (0, u "([C)V"), (0, .methodref 10 49), (0, .nameAndType 50 44), (0, u "digit"), (0, .long 58), (1, .long 256), (1, .long 65536), (1, .long 16777216), (1, .long 4294967296), (1, .methodref 10 62), (0, .nameAndType 63 64), (0, u "expected"), (0, u "(IIIJ)B"), (2, u "law"), (0, u "(IIII)Z")] 5

def k1m0 : Method := { name := "<init>", desc := "()V", sig := { parameters := [], returnType := none }, accessFlags := 2, code := none }
def k1c1 : Code := { maxStack := 7, maxLocals := 17, code := code, exceptionTable := #[], attributes := #[] }
def k1m1 : Method := { name := "law", desc := "(IIII)Z", sig := { parameters := [.int, .int, .int, .int], returnType := some .boolean }, accessFlags := 9, code := some k1c1 }
def k1c2 : Code := { maxStack := 2, maxLocals := 1, code := method_3_code, exceptionTable := #[], attributes := #[] }
def k1m2 : Method := { name := "digit", desc := "(I)C", sig := { parameters := [.int], returnType := some .char }, accessFlags := 10, code := some k1c2 }
def k1c3 : Code := { maxStack := 6, maxLocals := 7, code := method_4_code, exceptionTable := #[], attributes := #[] }
def k1m3 : Method := { name := "build", desc := "(IIIIIII)Ljava/lang/String;", sig := { parameters := [.int, .int, .int, .int, .int, .int, .int], returnType := some (.object "java/lang/String") }, accessFlags := 10, code := some k1c3 }
def k1c4 : Code := { maxStack := 2, maxLocals := 7, code := method_5_code, exceptionTable := #[], attributes := #[] }
def k1m4 : Method := { name := "leadingZeros", desc := "(IIIIIII)I", sig := { parameters := [.int, .int, .int, .int, .int, .int, .int], returnType := some .int }, accessFlags := 10, code := some k1c4 }
def k1c5 : Code := { maxStack := 4, maxLocals := 9, code := method_6_code, exceptionTable := #[], attributes := #[] }
def k1m5 : Method := { name := "value", desc := "(IIIIIII)J", sig := { parameters := [.int, .int, .int, .int, .int, .int, .int], returnType := some .long }, accessFlags := 10, code := some k1c5 }
def k1c6 : Code := { maxStack := 4, maxLocals := 2, code := method_7_code, exceptionTable := #[], attributes := #[] }
def k1m6 : Method := { name := "byteCount", desc := "(J)I", sig := { parameters := [.long], returnType := some .int }, accessFlags := 10, code := some k1c6 }
def k1c7 : Code := { maxStack := 3, maxLocals := 6, code := method_8_code, exceptionTable := #[], attributes := #[] }
def k1m7 : Method := { name := "expected", desc := "(IIIJ)B", sig := { parameters := [.int, .int, .int, .long], returnType := some .byte }, accessFlags := 10, code := some k1c7 }
def k1c8 : Code := { maxStack := 6, maxLocals := 6, code := method_9_code, exceptionTable := #[], attributes := #[] }
def k1m8 : Method := { name := "check", desc := "([BIIIJ)Z", sig := { parameters := [(.array .byte), .int, .int, .int, .long], returnType := some .boolean }, accessFlags := 10, code := some k1c8 }
/-- com/example/tryst/tryst/encoding/Base58DecodePinLaw -/
def k1 : Class := { plain "com/example/tryst/tryst/encoding/Base58DecodePinLaw" (some 0) with
  accessFlags := 49
  interfaces := #[]
  cf := some (fileOf pool1 10 #[] #[{ accessFlags := 2, nameIndex := 5, descriptorIndex := 6, attributes := #[] }, { accessFlags := 9, nameIndex := 67, descriptorIndex := 68, attributes := #[] }, { accessFlags := 10, nameIndex := 50, descriptorIndex := 44, attributes := #[] }, { accessFlags := 10, nameIndex := 13, descriptorIndex := 14, attributes := #[] }, { accessFlags := 10, nameIndex := 23, descriptorIndex := 24, attributes := #[] }, { accessFlags := 10, nameIndex := 27, descriptorIndex := 28, attributes := #[] }, { accessFlags := 10, nameIndex := 31, descriptorIndex := 32, attributes := #[] }, { accessFlags := 10, nameIndex := 63, descriptorIndex := 64, attributes := #[] }, { accessFlags := 10, nameIndex := 35, descriptorIndex := 36, attributes := #[] }] 49 2 #[] #[])
  fields := #[]
  methods := #[k1m0, k1m1, k1m2, k1m3, k1m4, k1m5, k1m6, k1m7, k1m8]
  instanceTypes := #[]
  staticTypes := #[]
  resolved := Array.replicate 74 none
  statics := none }

def pool2 : Array CpInfo := pool [(1, .class_ 2), (0, u "java/io/Serializable"), (0, .class_ 4), (0, u "java/lang/Object")] 2

/-- java/io/Serializable -/
def k2 : Class := { plain "java/io/Serializable" (some 0) with
  accessFlags := 1537
  interfaces := #[]
  cf := some (fileOf pool2 1 #[] #[] 1537 3 #[] #[])
  fields := #[]
  methods := #[]
  instanceTypes := #[]
  staticTypes := #[]
  resolved := Array.replicate 7 none
  statics := none }

def pool3 : Array CpInfo := pool [(1, .class_ 2), (0, u "java/lang/Comparable"), (0, .class_ 4), (0, u "java/lang/Object")] 7

/-- java/lang/Comparable -/
def k3 : Class := { plain "java/lang/Comparable" (some 0) with
  accessFlags := 1537
  interfaces := #[]
  cf := some (fileOf pool3 1 #[] #[] 1537 3 #[] #[])
  fields := #[]
  methods := #[]
  instanceTypes := #[]
  staticTypes := #[]
  resolved := Array.replicate 12 none
  statics := none }

def pool4 : Array CpInfo := pool [(2, .class_ 4), (1, u "java/lang/CharSequence"), (42, .class_ 48), (0, u "java/lang/CharSequence$1CodePointIterator"), (10, .class_ 60), (0, u "java/lang/CharSequence$1CharIterator"), (5, .class_ 67), (0, u "java/lang/Object")] 63

/-- java/lang/CharSequence -/
def k4 : Class := { plain "java/lang/CharSequence" (some 0) with
  accessFlags := 1537
  interfaces := #[]
  cf := some (fileOf pool4 2 #[.nestMembers #[47, 59]] #[] 1537 66 #[] #[])
  fields := #[]
  methods := #[]
  instanceTypes := #[]
  staticTypes := #[]
  resolved := Array.replicate 131 none
  statics := none }

def pool5 : Array CpInfo := pool [(1, .class_ 2), (0, u "java/lang/constant/Constable"), (0, .class_ 4), (0, u "java/lang/Object")] 6

/-- java/lang/constant/Constable -/
def k5 : Class := { plain "java/lang/constant/Constable" (some 0) with
  accessFlags := 1537
  interfaces := #[]
  cf := some (fileOf pool5 1 #[] #[] 1537 3 #[] #[])
  fields := #[]
  methods := #[]
  instanceTypes := #[]
  staticTypes := #[]
  resolved := Array.replicate 11 none
  statics := none }

def pool6 : Array CpInfo := pool [(1, .class_ 2), (0, u "java/lang/constant/ConstantDesc"), (0, .class_ 4), (0, u "java/lang/Object")] 32

/-- java/lang/constant/ConstantDesc -/
def k6 : Class := { plain "java/lang/constant/ConstantDesc" (some 0) with
  accessFlags := 1537
  interfaces := #[]
  cf := some (fileOf pool6 1 #[] #[] 1537 3 #[] #[])
  fields := #[]
  methods := #[]
  instanceTypes := #[]
  staticTypes := #[]
  resolved := Array.replicate 37 none
  statics := none }

def pool7 : Array CpInfo := pool [(1, .methodref 2 3), (0, .class_ 4), (0, .nameAndType 5 6), (0, u "java/lang/Object"), (0, u "<init>"), (0, u "()V"), (0, .string 8), (0, u ""), (0, .fieldref 10 11), (0, .class_ 12), (0, .nameAndType 13 14), (0, u "java/lang/String"), (0, u "value"), (0, u "[B"), (0, .fieldref 10 16), (0, .nameAndType 17 18), (0, u "coder"), (0, u "B"), (2, u "hash"), (0, u "I"), (2, u "hashIsZero"), (0, u "Z"), (0, .methodref 10 28), (0, .nameAndType 5 29), (0, u "([CIILjava/lang/Void;)V"), (8, .fieldref 10 39), (0, .nameAndType 40 26), (0, u "COMPACT_STRINGS"), (1, .class_ 44), (1, u "java/lang/StringUTF16"), (0, u "compress"), (1, .methodref 42 48), (0, .nameAndType 49 50), (0, u "coderFromArrayLen"), (0, u "([BI)B"), (56, .class_ 109), (1, u "java/lang/StringLatin1"), (32, u "()Z"), (34, .methodref 42 178), (0, .nameAndType 45 179), (0, u "([CII)[B"), (154, u "()I"), (0, .methodref 10 336), (0, .nameAndType 17 337), (0, u "()B"), (25, u "([BI)C"), (27, u "(II)V"), (35, u "(I)C"), (64, .methodref 10 493), (0, .nameAndType 494 142), (0, u "isLatin1"), (0, .methodref 107 496), (0, .nameAndType 497 363), (0, u "charAt"), (3, u "checkIndex"), (3, .methodref 10 506), (0, .nameAndType 507 334), (0, u "length"), (67, .class_ 576), (0, u "java/lang/CharSequence"), (22, u "CASE_INSENSITIVE_ORDER"), (0, u "Ljava/util/Comparator;"), (32, .methodref 10 634), (0, .nameAndType 635 636), (0, u "indexOf"), (0, u "(II)I"), (0, .methodref 107 638), (0, .nameAndType 635 639), (0, u "([BIII)I"), (125, u "(I)I"), (244, u "([C)V"), (42, .fieldref 1054 1055), (0, .class_ 1056), (0, .nameAndType 1057 1058), (0, u "jdk/internal/util/Preconditions"), (0, u "SIOOBE_FORMATTER"), (0, u "Ljava/util/function/BiFunction;"), (0, .methodref 1054 1060), (0, .nameAndType 501 1061), (0, u "(IILjava/util/function/BiFunction;)I"), (39, u "serialPersistentFields"), (0, u "[Ljava/io/ObjectStreamField;"), (0, .class_ 1104), (0, u "java/lang/String$CaseInsensitiveComparator"), (1, .class_ 1107), (0, u "java/io/Serializable"), (0, .class_ 1109), (0, u "java/lang/Comparable"), (0, .class_ 1111), (0, u "java/lang/constant/Constable"), (0, .class_ 1113), (0, u "java/lang/constant/ConstantDesc"), (2, u "serialVersionUID"), (0, u "J"), (3, u "REPL"), (0, u "C"), (2, u "LATIN1"), (1, u "UTF16")] 323

def k7m0 : Method := { name := "<init>", desc := "()V", sig := { parameters := [], returnType := none }, accessFlags := 1, code := none }
def k7c1 : Code := { maxStack := 5, maxLocals := 2, code := jdk_42_method_3_code, exceptionTable := #[], attributes := #[] }
def k7m1 : Method := { name := "<init>", desc := "([C)V", sig := { parameters := [(.array .char)], returnType := none }, accessFlags := 1, code := some k7c1 }
def k7c2 : Code := { maxStack := 2, maxLocals := 1, code := jdk_42_method_54_code, exceptionTable := #[], attributes := #[] }
def k7m2 : Method := { name := "length", desc := "()I", sig := { parameters := [], returnType := some .int }, accessFlags := 1, code := some k7c2 }
def k7c3 : Code := { maxStack := 2, maxLocals := 2, code := jdk_42_method_56_code, exceptionTable := #[], attributes := #[] }
def k7m3 : Method := { name := "charAt", desc := "(I)C", sig := { parameters := [.int], returnType := some .char }, accessFlags := 1, code := some k7c3 }
def k7c4 : Code := { maxStack := 3, maxLocals := 2, code := jdk_42_method_79_code, exceptionTable := #[], attributes := #[] }
def k7m4 : Method := { name := "indexOf", desc := "(I)I", sig := { parameters := [.int], returnType := some .int }, accessFlags := 1, code := some k7c4 }
def k7c5 : Code := { maxStack := 4, maxLocals := 3, code := jdk_42_method_80_code, exceptionTable := #[], attributes := #[] }
def k7m5 : Method := { name := "indexOf", desc := "(II)I", sig := { parameters := [.int, .int], returnType := some .int }, accessFlags := 1, code := some k7c5 }
def k7c6 : Code := { maxStack := 4, maxLocals := 6, code := jdk_42_method_149_code, exceptionTable := #[], attributes := #[] }
def k7m6 : Method := { name := "<init>", desc := "([CIILjava/lang/Void;)V", sig := { parameters := [(.array .char), .int, .int, (.object "java/lang/Void")], returnType := none }, accessFlags := 2, code := some k7c6 }
def k7c7 : Code := { maxStack := 1, maxLocals := 1, code := jdk_42_method_152_code, exceptionTable := #[], attributes := #[] }
def k7m7 : Method := { name := "coder", desc := "()B", sig := { parameters := [], returnType := some .byte }, accessFlags := 0, code := some k7c7 }
def k7c8 : Code := { maxStack := 1, maxLocals := 1, code := jdk_42_method_154_code, exceptionTable := #[], attributes := #[] }
def k7m8 : Method := { name := "isLatin1", desc := "()Z", sig := { parameters := [], returnType := some .boolean }, accessFlags := 0, code := some k7c8 }
def k7c9 : Code := { maxStack := 3, maxLocals := 2, code := jdk_42_method_155_code, exceptionTable := #[], attributes := #[] }
def k7m9 : Method := { name := "checkIndex", desc := "(II)V", sig := { parameters := [.int, .int], returnType := none }, accessFlags := 8, code := some k7c9 }
/-- java/lang/String -/
def k7 : Class := { plain "java/lang/String" (some 0) with
  accessFlags := 49
  interfaces := #[2, 3, 4, 5, 6]
  cf := some (fileOf pool7 10 #[.nestMembers #[1103]] #[{ accessFlags := 1, nameIndex := 5, descriptorIndex := 6, attributes := #[] }, { accessFlags := 1, nameIndex := 5, descriptorIndex := 1010, attributes := #[] }, { accessFlags := 1, nameIndex := 507, descriptorIndex := 334, attributes := #[] }, { accessFlags := 1, nameIndex := 497, descriptorIndex := 427, attributes := #[] }, { accessFlags := 1, nameIndex := 635, descriptorIndex := 765, attributes := #[] }, { accessFlags := 1, nameIndex := 635, descriptorIndex := 636, attributes := #[] }, { accessFlags := 2, nameIndex := 5, descriptorIndex := 29, attributes := #[] }, { accessFlags := 0, nameIndex := 17, descriptorIndex := 337, attributes := #[] }, { accessFlags := 0, nameIndex := 494, descriptorIndex := 142, attributes := #[] }, { accessFlags := 8, nameIndex := 501, descriptorIndex := 391, attributes := #[] }] 49 2 #[1106, 1108, 575, 1110, 1112] #[{ accessFlags := 18, nameIndex := 13, descriptorIndex := 14, attributes := #[] }, { accessFlags := 18, nameIndex := 17, descriptorIndex := 18, attributes := #[] }, { accessFlags := 2, nameIndex := 21, descriptorIndex := 22, attributes := #[] }, { accessFlags := 2, nameIndex := 25, descriptorIndex := 26, attributes := #[] }, { accessFlags := 26, nameIndex := 1116, descriptorIndex := 1117, attributes := #[] }, { accessFlags := 24, nameIndex := 40, descriptorIndex := 26, attributes := #[] }, { accessFlags := 26, nameIndex := 1101, descriptorIndex := 1102, attributes := #[] }, { accessFlags := 26, nameIndex := 1121, descriptorIndex := 1122, attributes := #[] }, { accessFlags := 25, nameIndex := 599, descriptorIndex := 600, attributes := #[] }, { accessFlags := 24, nameIndex := 1125, descriptorIndex := 18, attributes := #[] }, { accessFlags := 24, nameIndex := 1127, descriptorIndex := 18, attributes := #[] }])
  fields := #[{ name := "value", type := (.array .byte), accessFlags := 18, slot := 0, constantValue := 0 }, { name := "coder", type := .byte, accessFlags := 18, slot := 1, constantValue := 0 }, { name := "hash", type := .int, accessFlags := 2, slot := 2, constantValue := 0 }, { name := "hashIsZero", type := .boolean, accessFlags := 2, slot := 3, constantValue := 0 }, { name := "serialVersionUID", type := .long, accessFlags := 26, slot := 0, constantValue := 0 }, { name := "COMPACT_STRINGS", type := .boolean, accessFlags := 24, slot := 1, constantValue := 0 }, { name := "serialPersistentFields", type := (.array (.object "java/io/ObjectStreamField")), accessFlags := 26, slot := 2, constantValue := 0 }, { name := "REPL", type := .char, accessFlags := 26, slot := 3, constantValue := 0 }, { name := "CASE_INSENSITIVE_ORDER", type := (.object "java/util/Comparator"), accessFlags := 25, slot := 4, constantValue := 0 }, { name := "LATIN1", type := .byte, accessFlags := 24, slot := 5, constantValue := 0 }, { name := "UTF16", type := .byte, accessFlags := 24, slot := 6, constantValue := 0 }]
  methods := #[k7m0, k7m1, k7m2, k7m3, k7m4, k7m5, k7m6, k7m7, k7m8, k7m9]
  instanceTypes := #[(.array .byte), .byte, .int, .boolean]
  staticTypes := #[.long, .boolean, (.array (.object "java/io/ObjectStreamField")), .char, (.object "java/util/Comparator"), .byte, .byte]
  resolved := Array.replicate 1451 none
  statics := some 0 }

def pool8 : Array CpInfo := pool [(2, .class_ 4), (1, u "java/lang/Object"), (0, u "<init>"), (0, u "()V"), (8, .class_ 17), (1, u "java/lang/String"), (6, .class_ 25), (0, u "com/example/tryst/tryst/encoding/Base58"), (0, .string 27), (0, u "123456789ABCDEFGHJKLMNPQRSTUVWXYZabcdefghijkmnopqrstuvwxyz"), (0, .methodref 15 29), (0, .nameAndType 30 31), (0, u "charAt"), (0, u "(I)C"), (7, .methodref 15 40), (0, .nameAndType 41 42), (0, u "length"), (0, u "()I"), (0, .methodref 15 44), (0, .nameAndType 45 46), (0, u "indexOf"), (0, u "(I)I"), (9, u "ALPHABET"), (0, u "Ljava/lang/String;"), (8, u "decode"), (0, u "(Ljava/lang/String;)[B")] 17

def k8m0 : Method := { name := "<init>", desc := "()V", sig := { parameters := [], returnType := none }, accessFlags := 2, code := none }
def k8c1 : Code := { maxStack := 5, maxLocals := 7, code := prog_9_method_3_code, exceptionTable := #[], attributes := #[] }
def k8m1 : Method := { name := "decode", desc := "(Ljava/lang/String;)[B", sig := { parameters := [(.object "java/lang/String")], returnType := some (.array .byte) }, accessFlags := 9, code := some k8c1 }
/-- com/example/tryst/tryst/encoding/Base58 -/
def k8 : Class := { plain "com/example/tryst/tryst/encoding/Base58" (some 0) with
  accessFlags := 49
  interfaces := #[]
  cf := some (fileOf pool8 24 #[] #[{ accessFlags := 2, nameIndex := 5, descriptorIndex := 6, attributes := #[] }, { accessFlags := 9, nameIndex := 66, descriptorIndex := 67, attributes := #[] }] 49 2 #[] #[{ accessFlags := 26, nameIndex := 56, descriptorIndex := 57, attributes := #[] }])
  fields := #[{ name := "ALPHABET", type := (.object "java/lang/String"), accessFlags := 26, slot := 0, constantValue := 0 }]
  methods := #[k8m0, k8m1]
  instanceTypes := #[]
  staticTypes := #[(.object "java/lang/String")]
  resolved := Array.replicate 85 none
  statics := none }

def pool9 : Array CpInfo := pool [(1, .class_ 2), (0, u "java/lang/String"), (1, .class_ 6), (1, u "java/lang/Object"), (0, u "<init>"), (0, u "()V"), (0, .methodref 1 10), (0, .nameAndType 11 12), (0, u "checkIndex"), (0, u "(II)V"), (1, .class_ 16), (1, u "java/lang/StringLatin1"), (21, .methodref 39 40), (0, .class_ 41), (0, .nameAndType 42 43), (0, u "java/lang/Math"), (0, u "min"), (0, u "(II)I"), (9, u "([BI)C"), (34, .methodref 14 89), (0, .nameAndType 90 91), (0, u "canEncode"), (0, u "(I)Z"), (0, .methodref 39 93), (0, .nameAndType 94 43), (0, u "max"), (0, .methodref 14 96), (0, .nameAndType 97 98), (0, u "indexOfChar"), (0, u "([BIII)I"), (2, u "indexOf"), (19, u "$assertionsDisabled"), (0, u "Z"), (98, .class_ 223), (1, u "java/lang/StringLatin1$LinesSpliterator"), (28, u "charAt"), (137, .class_ 391), (0, u "java/lang/StringLatin1$CharsSpliterator")] 3

def k9m0 : Method := { name := "<init>", desc := "()V", sig := { parameters := [], returnType := none }, accessFlags := 0, code := none }
def k9c1 : Code := { maxStack := 2, maxLocals := 2, code := jdk_43_method_2_code, exceptionTable := #[], attributes := #[] }
def k9m1 : Method := { name := "charAt", desc := "([BI)C", sig := { parameters := [(.array .byte), .int], returnType := some .char }, accessFlags := 9, code := some k9c1 }
def k9c2 : Code := { maxStack := 2, maxLocals := 1, code := jdk_43_method_4_code, exceptionTable := #[], attributes := #[] }
def k9m2 : Method := { name := "canEncode", desc := "(I)Z", sig := { parameters := [.int], returnType := some .boolean }, accessFlags := 9, code := some k9c2 }
def k9c3 : Code := { maxStack := 4, maxLocals := 4, code := jdk_43_method_22_code, exceptionTable := #[], attributes := #[] }
def k9m3 : Method := { name := "indexOf", desc := "([BIII)I", sig := { parameters := [(.array .byte), .int, .int, .int], returnType := some .int }, accessFlags := 9, code := some k9c3 }
def k9c4 : Code := { maxStack := 2, maxLocals := 6, code := jdk_43_method_23_code, exceptionTable := #[], attributes := #[] }
def k9m4 : Method := { name := "indexOfChar", desc := "([BIII)I", sig := { parameters := [(.array .byte), .int, .int, .int], returnType := some .int }, accessFlags := 10, code := some k9c4 }
/-- java/lang/StringLatin1 -/
def k9 : Class := { plain "java/lang/StringLatin1" (some 0) with
  accessFlags := 48
  interfaces := #[]
  cf := some (fileOf pool9 14 #[.nestMembers #[390, 221]] #[{ accessFlags := 0, nameIndex := 7, descriptorIndex := 8, attributes := #[] }, { accessFlags := 9, nameIndex := 252, descriptorIndex := 53, attributes := #[] }, { accessFlags := 9, nameIndex := 90, descriptorIndex := 91, attributes := #[] }, { accessFlags := 9, nameIndex := 101, descriptorIndex := 98, attributes := #[] }, { accessFlags := 10, nameIndex := 97, descriptorIndex := 98, attributes := #[] }] 48 4 #[] #[{ accessFlags := 4120, nameIndex := 121, descriptorIndex := 122, attributes := #[] }])
  fields := #[{ name := "$assertionsDisabled", type := .boolean, accessFlags := 4120, slot := 0, constantValue := 0 }]
  methods := #[k9m0, k9m1, k9m2, k9m3, k9m4]
  instanceTypes := #[]
  staticTypes := #[.boolean]
  resolved := Array.replicate 395 none
  statics := none }

def pool10 : Array CpInfo := pool [(2, .class_ 4), (1, u "java/lang/Object"), (0, u "<init>"), (0, u "()V"), (17, .class_ 26), (1, u "jdk/internal/util/Preconditions"), (6, u "checkIndex"), (21, .class_ 56), (0, u "jdk/internal/util/Preconditions$4"), (57, .class_ 115), (0, u "jdk/internal/util/Preconditions$1"), (7, u "SIOOBE_FORMATTER"), (0, u "Ljava/util/function/BiFunction;"), (0, .class_ 126), (0, u "jdk/internal/util/Preconditions$2"), (3, u "AIOOBE_FORMATTER"), (0, .class_ 132), (0, u "jdk/internal/util/Preconditions$3"), (3, u "IOOBE_FORMATTER"), (41, u "(IILjava/util/function/BiFunction;)I")] 15

def k10m0 : Method := { name := "<init>", desc := "()V", sig := { parameters := [], returnType := none }, accessFlags := 1, code := none }
def k10c1 : Code := { maxStack := 3, maxLocals := 3, code := jdk_41_method_11_code, exceptionTable := #[], attributes := #[] }
def k10m1 : Method := { name := "checkIndex", desc := "(IILjava/util/function/BiFunction;)I", sig := { parameters := [.int, .int, (.object "java/util/function/BiFunction")], returnType := some .int }, accessFlags := 9, code := some k10c1 }
/-- jdk/internal/util/Preconditions -/
def k10 : Class := { plain "jdk/internal/util/Preconditions" (some 0) with
  accessFlags := 33
  interfaces := #[]
  cf := some (fileOf pool10 24 #[.nestMembers #[55, 131, 125, 114]] #[{ accessFlags := 1, nameIndex := 5, descriptorIndex := 6, attributes := #[] }, { accessFlags := 9, nameIndex := 33, descriptorIndex := 178, attributes := #[] }] 33 2 #[] #[{ accessFlags := 25, nameIndex := 123, descriptorIndex := 124, attributes := #[] }, { accessFlags := 25, nameIndex := 130, descriptorIndex := 124, attributes := #[] }, { accessFlags := 25, nameIndex := 136, descriptorIndex := 124, attributes := #[] }])
  fields := #[{ name := "SIOOBE_FORMATTER", type := (.object "java/util/function/BiFunction"), accessFlags := 25, slot := 0, constantValue := 0 }, { name := "AIOOBE_FORMATTER", type := (.object "java/util/function/BiFunction"), accessFlags := 25, slot := 1, constantValue := 0 }, { name := "IOOBE_FORMATTER", type := (.object "java/util/function/BiFunction"), accessFlags := 25, slot := 2, constantValue := 0 }]
  methods := #[k10m0, k10m1]
  instanceTypes := #[]
  staticTypes := #[(.object "java/util/function/BiFunction"), (.object "java/util/function/BiFunction"), (.object "java/util/function/BiFunction")]
  resolved := Array.replicate 194 none
  statics := some 1 }

def pool11 : Array CpInfo := pool [(6, .class_ 8), (1, u "java/lang/Object"), (0, u "<init>"), (0, u "()V"), (1, .class_ 14), (1, u "java/lang/StringUTF16"), (31, u "$assertionsDisabled"), (0, u "Z"), (13, u "HI_BYTE_SHIFT"), (0, u "I"), (2, u "LO_BYTE_SHIFT"), (49, .methodref 12 116), (0, .nameAndType 117 118), (0, u "compress"), (0, u "([CI[BII)I"), (3, u "([CII)[B"), (138, u "coderFromArrayLen"), (0, u "([BI)B"), (106, .class_ 371), (1, u "java/lang/StringUTF16$LinesSpliterator"), (58, u "MAX_LENGTH"), (196, .class_ 628), (0, u "java/lang/StringUTF16$CodePointsSpliterator"), (0, .class_ 630), (0, u "java/lang/StringUTF16$CharsSpliterator")] 4

def k11m0 : Method := { name := "<init>", desc := "()V", sig := { parameters := [], returnType := none }, accessFlags := 0, code := none }
def k11c1 : Code := { maxStack := 2, maxLocals := 2, code := jdk_52_method_15_code, exceptionTable := #[], attributes := #[] }
def k11m1 : Method := { name := "coderFromArrayLen", desc := "([BI)B", sig := { parameters := [(.array .byte), .int], returnType := some .byte }, accessFlags := 8, code := some k11c1 }
def k11c2 : Code := { maxStack := 5, maxLocals := 6, code := jdk_52_method_16_code, exceptionTable := #[], attributes := #[] }
def k11m2 : Method := { name := "compress", desc := "([CII)[B", sig := { parameters := [(.array .char), .int, .int], returnType := some (.array .byte) }, accessFlags := 9, code := some k11c2 }
def k11c3 : Code := { maxStack := 3, maxLocals := 7, code := jdk_52_method_21_code, exceptionTable := #[], attributes := #[] }
def k11m3 : Method := { name := "compress", desc := "([CI[BII)I", sig := { parameters := [(.array .char), .int, (.array .byte), .int, .int], returnType := some .int }, accessFlags := 9, code := some k11c3 }
/-- java/lang/StringUTF16 -/
def k11 : Class := { plain "java/lang/StringUTF16" (some 0) with
  accessFlags := 48
  interfaces := #[]
  cf := some (fileOf pool11 12 #[.nestMembers #[627, 629, 369]] #[{ accessFlags := 0, nameIndex := 9, descriptorIndex := 10, attributes := #[] }, { accessFlags := 8, nameIndex := 261, descriptorIndex := 262, attributes := #[] }, { accessFlags := 9, nameIndex := 117, descriptorIndex := 122, attributes := #[] }, { accessFlags := 9, nameIndex := 117, descriptorIndex := 118, attributes := #[] }] 48 6 #[] #[{ accessFlags := 26, nameIndex := 61, descriptorIndex := 62, attributes := #[] }, { accessFlags := 26, nameIndex := 65, descriptorIndex := 62, attributes := #[] }, { accessFlags := 24, nameIndex := 430, descriptorIndex := 62, attributes := #[] }, { accessFlags := 4120, nameIndex := 46, descriptorIndex := 47, attributes := #[] }])
  fields := #[{ name := "HI_BYTE_SHIFT", type := .int, accessFlags := 26, slot := 0, constantValue := 0 }, { name := "LO_BYTE_SHIFT", type := .int, accessFlags := 26, slot := 1, constantValue := 0 }, { name := "MAX_LENGTH", type := .int, accessFlags := 24, slot := 2, constantValue := 0 }, { name := "$assertionsDisabled", type := .boolean, accessFlags := 4120, slot := 3, constantValue := 0 }]
  methods := #[k11m0, k11m1, k11m2, k11m3]
  instanceTypes := #[]
  staticTypes := #[.int, .int, .int, .boolean]
  resolved := Array.replicate 635 none
  statics := none }

def pool12 : Array CpInfo := pool [(1, .class_ 2), (0, u "java/lang/Math"), (1, .class_ 6), (1, u "java/lang/Object"), (0, u "<init>"), (0, u "()V"), (89, .class_ 100), (1, u "java/lang/Math$RandomNumberGeneratorHolder"), (71, u "negativeZeroFloatBits"), (0, u "J"), (2, u "negativeZeroDoubleBits"), (21, u "max"), (2, u "min"), (43, u "$assertionsDisabled"), (0, u "Z"), (88, u "(II)I"), (2, u "twoToTheDoubleScaleDown"), (0, u "D"), (4, u "twoToTheDoubleScaleUp"), (9, u "E"), (3, u "PI"), (2, u "TAU"), (2, u "DEGREES_TO_RADIANS"), (0, u "RADIANS_TO_DEGREES")] 94

def k12m0 : Method := { name := "<init>", desc := "()V", sig := { parameters := [], returnType := none }, accessFlags := 2, code := none }
def k12c1 : Code := { maxStack := 2, maxLocals := 2, code := jdk_29_method_65_code, exceptionTable := #[], attributes := #[] }
def k12m1 : Method := { name := "max", desc := "(II)I", sig := { parameters := [.int, .int], returnType := some .int }, accessFlags := 9, code := some k12c1 }
def k12c2 : Code := { maxStack := 2, maxLocals := 2, code := jdk_29_method_69_code, exceptionTable := #[], attributes := #[] }
def k12m2 : Method := { name := "min", desc := "(II)I", sig := { parameters := [.int, .int], returnType := some .int }, accessFlags := 9, code := some k12c2 }
/-- java/lang/Math -/
def k12 : Class := { plain "java/lang/Math" (some 0) with
  accessFlags := 49
  interfaces := #[]
  cf := some (fileOf pool12 1 #[.nestMembers #[98]] #[{ accessFlags := 2, nameIndex := 7, descriptorIndex := 8, attributes := #[] }, { accessFlags := 9, nameIndex := 198, descriptorIndex := 335, attributes := #[] }, { accessFlags := 9, nameIndex := 201, descriptorIndex := 335, attributes := #[] }] 49 4 #[] #[{ accessFlags := 25, nameIndex := 354, descriptorIndex := 339, attributes := #[] }, { accessFlags := 25, nameIndex := 358, descriptorIndex := 339, attributes := #[] }, { accessFlags := 25, nameIndex := 361, descriptorIndex := 339, attributes := #[] }, { accessFlags := 26, nameIndex := 364, descriptorIndex := 339, attributes := #[] }, { accessFlags := 26, nameIndex := 365, descriptorIndex := 339, attributes := #[] }, { accessFlags := 26, nameIndex := 172, descriptorIndex := 173, attributes := #[] }, { accessFlags := 26, nameIndex := 176, descriptorIndex := 173, attributes := #[] }, { accessFlags := 8, nameIndex := 344, descriptorIndex := 339, attributes := #[] }, { accessFlags := 8, nameIndex := 338, descriptorIndex := 339, attributes := #[] }, { accessFlags := 4120, nameIndex := 245, descriptorIndex := 246, attributes := #[] }])
  fields := #[{ name := "E", type := .double, accessFlags := 25, slot := 0, constantValue := 0 }, { name := "PI", type := .double, accessFlags := 25, slot := 1, constantValue := 0 }, { name := "TAU", type := .double, accessFlags := 25, slot := 2, constantValue := 0 }, { name := "DEGREES_TO_RADIANS", type := .double, accessFlags := 26, slot := 3, constantValue := 0 }, { name := "RADIANS_TO_DEGREES", type := .double, accessFlags := 26, slot := 4, constantValue := 0 }, { name := "negativeZeroFloatBits", type := .long, accessFlags := 26, slot := 5, constantValue := 0 }, { name := "negativeZeroDoubleBits", type := .long, accessFlags := 26, slot := 6, constantValue := 0 }, { name := "twoToTheDoubleScaleUp", type := .double, accessFlags := 8, slot := 7, constantValue := 0 }, { name := "twoToTheDoubleScaleDown", type := .double, accessFlags := 8, slot := 8, constantValue := 0 }, { name := "$assertionsDisabled", type := .boolean, accessFlags := 4120, slot := 9, constantValue := 0 }]
  methods := #[k12m0, k12m1, k12m2]
  instanceTypes := #[]
  staticTypes := #[.double, .double, .double, .double, .double, .long, .long, .double, .double, .boolean]
  resolved := Array.replicate 460 none
  statics := none }

def pool13 : Array CpInfo := pool [(9, u "<init>"), (6, .class_ 18), (1, u "java/lang/Object"), (0, u "()V"), (1, .class_ 23), (1, u "jdk/internal/util/ArraysSupport"), (0, u "LOG2_ARRAY_LONG_INDEX_SCALE"), (0, u "I"), (2, u "U"), (0, u "Ljdk/internal/misc/Unsafe;"), (8, u "BIG_ENDIAN"), (0, u "Z"), (8, u "LOG2_BYTE_BIT_SIZE"), (4, u "LOG2_ARRAY_INT_INDEX_SCALE"), (54, u "JLA"), (0, u "Ljdk/internal/access/JavaLangAccess;"), (11, u "LOG2_ARRAY_BOOLEAN_INDEX_SCALE"), (9, u "LOG2_ARRAY_BYTE_INDEX_SCALE"), (5, u "LOG2_ARRAY_CHAR_INDEX_SCALE"), (5, u "LOG2_ARRAY_SHORT_INDEX_SCALE"), (18, u "LOG2_ARRAY_FLOAT_INDEX_SCALE"), (24, u "LOG2_ARRAY_DOUBLE_INDEX_SCALE"), (89, u "T_BOOLEAN"), (2, u "T_CHAR"), (1, u "T_FLOAT"), (1, u "T_DOUBLE"), (1, u "T_BYTE"), (1, u "T_SHORT"), (1, u "T_INT"), (1, u "T_LONG"), (1, u "SOFT_MAX_ARRAY_LENGTH")] 83

def k13m0 : Method := { name := "<init>", desc := "()V", sig := { parameters := [], returnType := none }, accessFlags := 2, code := none }
/-- jdk/internal/util/ArraysSupport -/
def k13 : Class := { plain "jdk/internal/util/ArraysSupport" (some 0) with
  accessFlags := 33
  interfaces := #[]
  cf := some (fileOf pool13 21 #[] #[{ accessFlags := 2, nameIndex := 9, descriptorIndex := 19, attributes := #[] }] 33 16 #[] #[{ accessFlags := 24, nameIndex := 28, descriptorIndex := 29, attributes := #[] }, { accessFlags := 26, nameIndex := 38, descriptorIndex := 39, attributes := #[] }, { accessFlags := 25, nameIndex := 121, descriptorIndex := 25, attributes := #[] }, { accessFlags := 25, nameIndex := 131, descriptorIndex := 25, attributes := #[] }, { accessFlags := 25, nameIndex := 137, descriptorIndex := 25, attributes := #[] }, { accessFlags := 25, nameIndex := 143, descriptorIndex := 25, attributes := #[] }, { accessFlags := 25, nameIndex := 53, descriptorIndex := 25, attributes := #[] }, { accessFlags := 25, nameIndex := 24, descriptorIndex := 25, attributes := #[] }, { accessFlags := 25, nameIndex := 162, descriptorIndex := 25, attributes := #[] }, { accessFlags := 25, nameIndex := 187, descriptorIndex := 25, attributes := #[] }, { accessFlags := 26, nameIndex := 48, descriptorIndex := 25, attributes := #[] }, { accessFlags := 25, nameIndex := 277, descriptorIndex := 25, attributes := #[] }, { accessFlags := 25, nameIndex := 280, descriptorIndex := 25, attributes := #[] }, { accessFlags := 25, nameIndex := 282, descriptorIndex := 25, attributes := #[] }, { accessFlags := 25, nameIndex := 284, descriptorIndex := 25, attributes := #[] }, { accessFlags := 25, nameIndex := 286, descriptorIndex := 25, attributes := #[] }, { accessFlags := 25, nameIndex := 288, descriptorIndex := 25, attributes := #[] }, { accessFlags := 25, nameIndex := 290, descriptorIndex := 25, attributes := #[] }, { accessFlags := 25, nameIndex := 292, descriptorIndex := 25, attributes := #[] }, { accessFlags := 26, nameIndex := 108, descriptorIndex := 109, attributes := #[] }, { accessFlags := 25, nameIndex := 294, descriptorIndex := 25, attributes := #[] }])
  fields := #[{ name := "U", type := (.object "jdk/internal/misc/Unsafe"), accessFlags := 24, slot := 0, constantValue := 0 }, { name := "BIG_ENDIAN", type := .boolean, accessFlags := 26, slot := 1, constantValue := 0 }, { name := "LOG2_ARRAY_BOOLEAN_INDEX_SCALE", type := .int, accessFlags := 25, slot := 2, constantValue := 0 }, { name := "LOG2_ARRAY_BYTE_INDEX_SCALE", type := .int, accessFlags := 25, slot := 3, constantValue := 0 }, { name := "LOG2_ARRAY_CHAR_INDEX_SCALE", type := .int, accessFlags := 25, slot := 4, constantValue := 0 }, { name := "LOG2_ARRAY_SHORT_INDEX_SCALE", type := .int, accessFlags := 25, slot := 5, constantValue := 0 }, { name := "LOG2_ARRAY_INT_INDEX_SCALE", type := .int, accessFlags := 25, slot := 6, constantValue := 0 }, { name := "LOG2_ARRAY_LONG_INDEX_SCALE", type := .int, accessFlags := 25, slot := 7, constantValue := 0 }, { name := "LOG2_ARRAY_FLOAT_INDEX_SCALE", type := .int, accessFlags := 25, slot := 8, constantValue := 0 }, { name := "LOG2_ARRAY_DOUBLE_INDEX_SCALE", type := .int, accessFlags := 25, slot := 9, constantValue := 0 }, { name := "LOG2_BYTE_BIT_SIZE", type := .int, accessFlags := 26, slot := 10, constantValue := 0 }, { name := "T_BOOLEAN", type := .int, accessFlags := 25, slot := 11, constantValue := 0 }, { name := "T_CHAR", type := .int, accessFlags := 25, slot := 12, constantValue := 0 }, { name := "T_FLOAT", type := .int, accessFlags := 25, slot := 13, constantValue := 0 }, { name := "T_DOUBLE", type := .int, accessFlags := 25, slot := 14, constantValue := 0 }, { name := "T_BYTE", type := .int, accessFlags := 25, slot := 15, constantValue := 0 }, { name := "T_SHORT", type := .int, accessFlags := 25, slot := 16, constantValue := 0 }, { name := "T_INT", type := .int, accessFlags := 25, slot := 17, constantValue := 0 }, { name := "T_LONG", type := .int, accessFlags := 25, slot := 18, constantValue := 0 }, { name := "JLA", type := (.object "jdk/internal/access/JavaLangAccess"), accessFlags := 26, slot := 19, constantValue := 0 }, { name := "SOFT_MAX_ARRAY_LENGTH", type := .int, accessFlags := 25, slot := 20, constantValue := 0 }]
  methods := #[k13m0]
  instanceTypes := #[]
  staticTypes := #[(.object "jdk/internal/misc/Unsafe"), .boolean, .int, .int, .int, .int, .int, .int, .int, .int, .int, .int, .int, .int, .int, .int, .int, .int, .int, (.object "jdk/internal/access/JavaLangAccess"), .int]
  resolved := Array.replicate 378 none
  statics := none }

def pool14 : Array CpInfo := pool [(1, u "java/lang/Cloneable"), (0, .class_ 1), (0, u "java/lang/Object"), (0, .class_ 3)] 3

/-- java/lang/Cloneable -/
def k14 : Class := { plain "java/lang/Cloneable" (some 0) with
  accessFlags := 1537
  interfaces := #[]
  cf := some (fileOf pool14 2 #[] #[] 1537 4 #[] #[])
  fields := #[]
  methods := #[]
  instanceTypes := #[]
  staticTypes := #[]
  resolved := Array.replicate 8 none
  statics := none }

/-- the primitive byte -/
def k15 : Class := { plain "byte" none with kind := .primitive 'B', accessFlags := 0x411 }
/-- [B -/
def k16 : Class := { plain "[B" (some 0) with kind := .array 15 .byte, interfaces := #[14, 2], accessFlags := 1041 }

/-- the primitive char -/
def k17 : Class := { plain "char" none with kind := .primitive 'C', accessFlags := 0x411 }
/-- [C -/
def k18 : Class := { plain "[C" (some 0) with kind := .array 17 .char, interfaces := #[14, 2], accessFlags := 1041 }

/-- the primitive int -/
def k19 : Class := { plain "int" none with kind := .primitive 'I', accessFlags := 0x411 }
/-- [I -/
def k20 : Class := { plain "[I" (some 0) with kind := .array 19 .int, interfaces := #[14, 2], accessFlags := 1041 }

def heap : Heap := #[{ cls := 7, slots := #[.long 0, .int 1, .null, .int 0, .null, .int 0, .int 0], vm := .statics 7 },
  { cls := 10, slots := #[.null, .null, .null], vm := .statics 10 }]
def classes : Array Class := #[k0, k1, k2, k3, k4, k5, k6, k7, k8, k9, k10, k11, k12, k13, k14, k15, k16, k17, k18, k19, k20]
def interned : List (Array UInt16 × Addr) := []
def slotsUsed : Nat := 10
def theMethod : MethodId := ⟨1, 1⟩
def args0 : Array Value := #[.int 5, .int 6, .int 7, .int 8]
def aboutOver (below : List Frame) : State where
  vm := { classes := classes, interned := interned.toArray }
  heap := heap
  slotsUsed := slotsUsed
  threads := #[{ frames := .invoking theMethod args0 :: below }]
def below0 : List Frame := [.native { method := ⟨0, 0⟩, args := #[] }]
def about1 : State := aboutOver below0
def p0 : Program := .bare "" "" ""
def e0 : Env := launch0.env 0 0 0
theorem w_frames : about1.frames = Frame.invoking theMethod args0 :: below0 := rfl
set_option maxRecDepth 65536 in
theorem w_args : argsFit about1.vm theMethod args0 = true := by decide +kernel
set_option maxRecDepth 65536 in
theorem w_heap : heapFits about1 = true := by decide +kernel
set_option maxRecDepth 65536 in
theorem w_runnable : about1.curStatus? = some .runnable := by decide +kernel
set_option maxRecDepth 65536 in
theorem w_alone : about1.alone = true := by decide +kernel
set_option maxRecDepth 65536 in
theorem w_named : about1.methodNamed? x = some theMethod := by decide +kernel
set_option maxRecDepth 65536 in
theorem w_hears : about1.hears theMethod below0 = true := by decide +kernel
set_option maxRecDepth 65536 in
theorem w_ripe : about1.ripe theMethod args0 below0 = true := by decide +kernel
theorem w_running : about1.status = .running := rfl
set_option maxRecDepth 65536 in
theorem w_room : about1.hasRoom e0.platform room_1 = true :=
  launch0.hasRoom_least _ room_1 (by decide +kernel) (by decide +kernel) (by decide +kernel) (by decide +kernel) (by decide +kernel) (by decide +kernel)
theorem allAtoms_all (ts : List Jvm.Cond) (a : Array Jvm.Value) (st : Jvm.State) : (allAtoms ts).before a st = ts.all (fun c => c.before a st) := by
  induction ts with
  | nil => rfl
  | cons c t ih =>
    show (Jvm.Cond.and c (allAtoms t)).before a st = _
    rw [Jvm.Cond.before_and, ih, List.all_cons]
def words1 : List Jvm.Cond := Jvm.Cond.code x code maxLocals ret :: tables_1
/-- a 'code' word, met by the world's own term for the bytes: nothing is compared byte by byte -/
theorem code_word {y : MethodName} {bytes : ByteArray} {mx : Nat} {rt : Option FieldType} {a : Array Value} {s : State} {m : MethodId} {meth : Method} {c : Code} (h1 : s.methodNamed? y = some m) (h2 : s.vm.method? m = some meth) (h3 : meth.code = some c) (h4 : c.code = bytes)
    (h5 : (c.maxLocals == mx && c.exceptionTable.isEmpty && decide (c.maxStack ≤ mostOperands) && decide (meth.sig.returnType = rt) && !meth.locks && decide (parseMethodDescriptor y.desc = some meth.sig)) = true) : (Jvm.Cond.code y bytes mx rt).before a s = true := by
  simp only [Bool.and_eq_true, beq_iff_eq, Bool.not_eq_true', decide_eq_true_eq] at h5
  obtain ⟨⟨⟨⟨⟨g1, g2⟩, g3⟩, g4⟩, g5⟩, g6⟩ := h5
  simp [Cond.before, Cond.holds, Cond.value, h1, h2, h3, h4, g1, g2, g3, g4, g5, g6]
def isCode : Jvm.Cond → Bool
  | .code _ _ _ _ => true
  | _ => false
theorem all_split {L : List Jvm.Cond} {P : Jvm.Cond → Bool} (h1 : L.all (fun c => isCode c || P c) = true) (h2 : ∀ c ∈ L.filter isCode, P c = true) : L.all P = true := by
  refine List.all_eq_true.mpr fun c hc => ?_
  have h := List.all_eq_true.mp h1 c hc
  rcases Bool.eq_false_or_eq_true (isCode c) with hi | hi
  · exact h2 c (List.mem_filter.mpr ⟨hc, hi⟩)
  · simpa [hi] using h
set_option maxRecDepth 65536 in
theorem w_c0 : (Jvm.Cond.code x code maxLocals ret).before args0 about1 = true := code_word (m := ⟨1, 1⟩) (meth := k1m1) (c := k1c1) (by decide +kernel) rfl rfl rfl (by decide +kernel)
set_option maxRecDepth 65536 in
theorem w_c1 : (Jvm.Cond.code ({ cls := "com/example/tryst/tryst/encoding/Base58DecodePinLaw", name := "build", desc := "(IIIIIII)Ljava/lang/String;" } : Jvm.MethodName) method_4_code (7 : Nat) (Option.some (Jvm.ClassFile.FieldType.object "java/lang/String"))).before args0 about1 = true := code_word (m := ⟨1, 3⟩) (meth := k1m3) (c := k1c3) (by decide +kernel) rfl rfl rfl (by decide +kernel)
set_option maxRecDepth 65536 in
theorem w_c2 : (Jvm.Cond.code ({ cls := "java/lang/String", name := "<init>", desc := "([C)V" } : Jvm.MethodName) jdk_42_method_3_code (2 : Nat) (Option.none : Option Jvm.ClassFile.FieldType)).before args0 about1 = true := code_word (m := ⟨7, 1⟩) (meth := k7m1) (c := k7c1) (by decide +kernel) rfl rfl rfl (by decide +kernel)
set_option maxRecDepth 65536 in
theorem w_c3 : (Jvm.Cond.code ({ cls := "java/lang/String", name := "<init>", desc := "([CIILjava/lang/Void;)V" } : Jvm.MethodName) jdk_42_method_149_code (6 : Nat) (Option.none : Option Jvm.ClassFile.FieldType)).before args0 about1 = true := code_word (m := ⟨7, 6⟩) (meth := k7m6) (c := k7c6) (by decide +kernel) rfl rfl rfl (by decide +kernel)
set_option maxRecDepth 65536 in
theorem w_c4 : (Jvm.Cond.code ({ cls := "java/lang/Object", name := "<init>", desc := "()V" } : Jvm.MethodName) object_method_1_code (1 : Nat) (Option.none : Option Jvm.ClassFile.FieldType)).before args0 about1 = true := code_word (m := ⟨0, 0⟩) (meth := k0m0) (c := k0c0) (by decide +kernel) rfl rfl rfl (by decide +kernel)
set_option maxRecDepth 65536 in
theorem w_c5 : (Jvm.Cond.code ({ cls := "com/example/tryst/tryst/encoding/Base58", name := "decode", desc := "(Ljava/lang/String;)[B" } : Jvm.MethodName) prog_9_method_3_code (7 : Nat) (Option.some (Jvm.ClassFile.FieldType.array Jvm.ClassFile.FieldType.byte))).before args0 about1 = true := code_word (m := ⟨8, 1⟩) (meth := k8m1) (c := k8c1) (by decide +kernel) rfl rfl rfl (by decide +kernel)
set_option maxRecDepth 65536 in
theorem w_c6 : (Jvm.Cond.code ({ cls := "java/lang/String", name := "length", desc := "()I" } : Jvm.MethodName) jdk_42_method_54_code (1 : Nat) (Option.some Jvm.ClassFile.FieldType.int)).before args0 about1 = true := code_word (m := ⟨7, 2⟩) (meth := k7m2) (c := k7c2) (by decide +kernel) rfl rfl rfl (by decide +kernel)
set_option maxRecDepth 65536 in
theorem w_c7 : (Jvm.Cond.code ({ cls := "java/lang/String", name := "coder", desc := "()B" } : Jvm.MethodName) jdk_42_method_152_code (1 : Nat) (Option.some Jvm.ClassFile.FieldType.byte)).before args0 about1 = true := code_word (m := ⟨7, 7⟩) (meth := k7m7) (c := k7c7) (by decide +kernel) rfl rfl rfl (by decide +kernel)
set_option maxRecDepth 65536 in
theorem w_c8 : (Jvm.Cond.code ({ cls := "com/example/tryst/tryst/encoding/Base58DecodePinLaw", name := "leadingZeros", desc := "(IIIIIII)I" } : Jvm.MethodName) method_5_code (7 : Nat) (Option.some Jvm.ClassFile.FieldType.int)).before args0 about1 = true := code_word (m := ⟨1, 4⟩) (meth := k1m4) (c := k1c4) (by decide +kernel) rfl rfl rfl (by decide +kernel)
set_option maxRecDepth 65536 in
theorem w_c9 : (Jvm.Cond.code ({ cls := "com/example/tryst/tryst/encoding/Base58DecodePinLaw", name := "value", desc := "(IIIIIII)J" } : Jvm.MethodName) method_6_code (9 : Nat) (Option.some Jvm.ClassFile.FieldType.long)).before args0 about1 = true := code_word (m := ⟨1, 5⟩) (meth := k1m5) (c := k1c5) (by decide +kernel) rfl rfl rfl (by decide +kernel)
set_option maxRecDepth 65536 in
theorem w_c10 : (Jvm.Cond.code ({ cls := "com/example/tryst/tryst/encoding/Base58DecodePinLaw", name := "byteCount", desc := "(J)I" } : Jvm.MethodName) method_7_code (2 : Nat) (Option.some Jvm.ClassFile.FieldType.int)).before args0 about1 = true := code_word (m := ⟨1, 6⟩) (meth := k1m6) (c := k1c6) (by decide +kernel) rfl rfl rfl (by decide +kernel)
set_option maxRecDepth 65536 in
theorem w_c11 : (Jvm.Cond.code ({ cls := "com/example/tryst/tryst/encoding/Base58DecodePinLaw", name := "check", desc := "([BIIIJ)Z" } : Jvm.MethodName) method_9_code (6 : Nat) (Option.some Jvm.ClassFile.FieldType.boolean)).before args0 about1 = true := code_word (m := ⟨1, 8⟩) (meth := k1m8) (c := k1c8) (by decide +kernel) rfl rfl rfl (by decide +kernel)
set_option maxRecDepth 65536 in
theorem w_c12 : (Jvm.Cond.code ({ cls := "com/example/tryst/tryst/encoding/Base58DecodePinLaw", name := "digit", desc := "(I)C" } : Jvm.MethodName) method_3_code (1 : Nat) (Option.some Jvm.ClassFile.FieldType.char)).before args0 about1 = true := code_word (m := ⟨1, 2⟩) (meth := k1m2) (c := k1c2) (by decide +kernel) rfl rfl rfl (by decide +kernel)
set_option maxRecDepth 65536 in
theorem w_c13 : (Jvm.Cond.code ({ cls := "java/lang/String", name := "charAt", desc := "(I)C" } : Jvm.MethodName) jdk_42_method_56_code (2 : Nat) (Option.some Jvm.ClassFile.FieldType.char)).before args0 about1 = true := code_word (m := ⟨7, 3⟩) (meth := k7m3) (c := k7c3) (by decide +kernel) rfl rfl rfl (by decide +kernel)
set_option maxRecDepth 65536 in
theorem w_c14 : (Jvm.Cond.code ({ cls := "java/lang/String", name := "isLatin1", desc := "()Z" } : Jvm.MethodName) jdk_42_method_154_code (1 : Nat) (Option.some Jvm.ClassFile.FieldType.boolean)).before args0 about1 = true := code_word (m := ⟨7, 8⟩) (meth := k7m8) (c := k7c8) (by decide +kernel) rfl rfl rfl (by decide +kernel)
set_option maxRecDepth 65536 in
theorem w_c15 : (Jvm.Cond.code ({ cls := "java/lang/StringLatin1", name := "charAt", desc := "([BI)C" } : Jvm.MethodName) jdk_43_method_2_code (2 : Nat) (Option.some Jvm.ClassFile.FieldType.char)).before args0 about1 = true := code_word (m := ⟨9, 1⟩) (meth := k9m1) (c := k9c1) (by decide +kernel) rfl rfl rfl (by decide +kernel)
set_option maxRecDepth 65536 in
theorem w_c16 : (Jvm.Cond.code ({ cls := "java/lang/String", name := "checkIndex", desc := "(II)V" } : Jvm.MethodName) jdk_42_method_155_code (2 : Nat) (Option.none : Option Jvm.ClassFile.FieldType)).before args0 about1 = true := code_word (m := ⟨7, 9⟩) (meth := k7m9) (c := k7c9) (by decide +kernel) rfl rfl rfl (by decide +kernel)
set_option maxRecDepth 65536 in
theorem w_c17 : (Jvm.Cond.code ({ cls := "jdk/internal/util/Preconditions", name := "checkIndex", desc := "(IILjava/util/function/BiFunction;)I" } : Jvm.MethodName) jdk_41_method_11_code (3 : Nat) (Option.some Jvm.ClassFile.FieldType.int)).before args0 about1 = true := code_word (m := ⟨10, 1⟩) (meth := k10m1) (c := k10c1) (by decide +kernel) rfl rfl rfl (by decide +kernel)
set_option maxRecDepth 65536 in
theorem w_c18 : (Jvm.Cond.code ({ cls := "java/lang/StringUTF16", name := "compress", desc := "([CII)[B" } : Jvm.MethodName) jdk_52_method_16_code (6 : Nat) (Option.some (Jvm.ClassFile.FieldType.array Jvm.ClassFile.FieldType.byte))).before args0 about1 = true := code_word (m := ⟨11, 2⟩) (meth := k11m2) (c := k11c2) (by decide +kernel) rfl rfl rfl (by decide +kernel)
set_option maxRecDepth 65536 in
theorem w_c19 : (Jvm.Cond.code ({ cls := "java/lang/StringUTF16", name := "compress", desc := "([CI[BII)I" } : Jvm.MethodName) jdk_52_method_21_code (7 : Nat) (Option.some Jvm.ClassFile.FieldType.int)).before args0 about1 = true := code_word (m := ⟨11, 3⟩) (meth := k11m3) (c := k11c3) (by decide +kernel) rfl rfl rfl (by decide +kernel)
set_option maxRecDepth 65536 in
theorem w_c20 : (Jvm.Cond.code ({ cls := "java/lang/StringUTF16", name := "coderFromArrayLen", desc := "([BI)B" } : Jvm.MethodName) jdk_52_method_15_code (2 : Nat) (Option.some Jvm.ClassFile.FieldType.byte)).before args0 about1 = true := code_word (m := ⟨11, 1⟩) (meth := k11m1) (c := k11c1) (by decide +kernel) rfl rfl rfl (by decide +kernel)
set_option maxRecDepth 65536 in
theorem w_c21 : (Jvm.Cond.code ({ cls := "java/lang/String", name := "indexOf", desc := "(I)I" } : Jvm.MethodName) jdk_42_method_79_code (2 : Nat) (Option.some Jvm.ClassFile.FieldType.int)).before args0 about1 = true := code_word (m := ⟨7, 4⟩) (meth := k7m4) (c := k7c4) (by decide +kernel) rfl rfl rfl (by decide +kernel)
set_option maxRecDepth 65536 in
theorem w_c22 : (Jvm.Cond.code ({ cls := "java/lang/String", name := "indexOf", desc := "(II)I" } : Jvm.MethodName) jdk_42_method_80_code (3 : Nat) (Option.some Jvm.ClassFile.FieldType.int)).before args0 about1 = true := code_word (m := ⟨7, 5⟩) (meth := k7m5) (c := k7c5) (by decide +kernel) rfl rfl rfl (by decide +kernel)
set_option maxRecDepth 65536 in
theorem w_c23 : (Jvm.Cond.code ({ cls := "java/lang/StringLatin1", name := "indexOf", desc := "([BIII)I" } : Jvm.MethodName) jdk_43_method_22_code (4 : Nat) (Option.some Jvm.ClassFile.FieldType.int)).before args0 about1 = true := code_word (m := ⟨9, 3⟩) (meth := k9m3) (c := k9c3) (by decide +kernel) rfl rfl rfl (by decide +kernel)
set_option maxRecDepth 65536 in
theorem w_c24 : (Jvm.Cond.code ({ cls := "java/lang/StringLatin1", name := "canEncode", desc := "(I)Z" } : Jvm.MethodName) jdk_43_method_4_code (1 : Nat) (Option.some Jvm.ClassFile.FieldType.boolean)).before args0 about1 = true := code_word (m := ⟨9, 2⟩) (meth := k9m2) (c := k9c2) (by decide +kernel) rfl rfl rfl (by decide +kernel)
set_option maxRecDepth 65536 in
theorem w_c25 : (Jvm.Cond.code ({ cls := "java/lang/Math", name := "max", desc := "(II)I" } : Jvm.MethodName) jdk_29_method_65_code (2 : Nat) (Option.some Jvm.ClassFile.FieldType.int)).before args0 about1 = true := code_word (m := ⟨12, 1⟩) (meth := k12m1) (c := k12c1) (by decide +kernel) rfl rfl rfl (by decide +kernel)
set_option maxRecDepth 65536 in
theorem w_c26 : (Jvm.Cond.code ({ cls := "java/lang/Math", name := "min", desc := "(II)I" } : Jvm.MethodName) jdk_29_method_69_code (2 : Nat) (Option.some Jvm.ClassFile.FieldType.int)).before args0 about1 = true := code_word (m := ⟨12, 2⟩) (meth := k12m2) (c := k12c2) (by decide +kernel) rfl rfl rfl (by decide +kernel)
set_option maxRecDepth 65536 in
theorem w_c27 : (Jvm.Cond.code ({ cls := "java/lang/StringLatin1", name := "indexOfChar", desc := "([BIII)I" } : Jvm.MethodName) jdk_43_method_23_code (6 : Nat) (Option.some Jvm.ClassFile.FieldType.int)).before args0 about1 = true := code_word (m := ⟨9, 4⟩) (meth := k9m4) (c := k9c4) (by decide +kernel) rfl rfl rfl (by decide +kernel)
set_option maxRecDepth 65536 in
theorem w_c28 : (Jvm.Cond.code ({ cls := "com/example/tryst/tryst/encoding/Base58DecodePinLaw", name := "expected", desc := "(IIIJ)B" } : Jvm.MethodName) method_8_code (6 : Nat) (Option.some Jvm.ClassFile.FieldType.byte)).before args0 about1 = true := code_word (m := ⟨1, 7⟩) (meth := k1m7) (c := k1c7) (by decide +kernel) rfl rfl rfl (by decide +kernel)
def codes1 : List Jvm.Cond := [Jvm.Cond.code x code maxLocals ret, Jvm.Cond.code ({ cls := "com/example/tryst/tryst/encoding/Base58DecodePinLaw", name := "build", desc := "(IIIIIII)Ljava/lang/String;" } : Jvm.MethodName) method_4_code (7 : Nat) (Option.some (Jvm.ClassFile.FieldType.object "java/lang/String")), Jvm.Cond.code ({ cls := "java/lang/String", name := "<init>", desc := "([C)V" } : Jvm.MethodName) jdk_42_method_3_code (2 : Nat) (Option.none : Option Jvm.ClassFile.FieldType), Jvm.Cond.code ({ cls := "java/lang/String", name := "<init>", desc := "([CIILjava/lang/Void;)V" } : Jvm.MethodName) jdk_42_method_149_code (6 : Nat) (Option.none : Option Jvm.ClassFile.FieldType), Jvm.Cond.code ({ cls := "java/lang/Object", name := "<init>", desc := "()V" } : Jvm.MethodName) object_method_1_code (1 : Nat) (Option.none : Option Jvm.ClassFile.FieldType), Jvm.Cond.code ({ cls := "com/example/tryst/tryst/encoding/Base58", name := "decode", desc := "(Ljava/lang/String;)[B" } : Jvm.MethodName) prog_9_method_3_code (7 : Nat) (Option.some (Jvm.ClassFile.FieldType.array Jvm.ClassFile.FieldType.byte)), Jvm.Cond.code ({ cls := "java/lang/String", name := "length", desc := "()I" } : Jvm.MethodName) jdk_42_method_54_code (1 : Nat) (Option.some Jvm.ClassFile.FieldType.int), Jvm.Cond.code ({ cls := "java/lang/String", name := "coder", desc := "()B" } : Jvm.MethodName) jdk_42_method_152_code (1 : Nat) (Option.some Jvm.ClassFile.FieldType.byte), Jvm.Cond.code ({ cls := "com/example/tryst/tryst/encoding/Base58DecodePinLaw", name := "leadingZeros", desc := "(IIIIIII)I" } : Jvm.MethodName) method_5_code (7 : Nat) (Option.some Jvm.ClassFile.FieldType.int), Jvm.Cond.code ({ cls := "com/example/tryst/tryst/encoding/Base58DecodePinLaw", name := "value", desc := "(IIIIIII)J" } : Jvm.MethodName) method_6_code (9 : Nat) (Option.some Jvm.ClassFile.FieldType.long), Jvm.Cond.code ({ cls := "com/example/tryst/tryst/encoding/Base58DecodePinLaw", name := "byteCount", desc := "(J)I" } : Jvm.MethodName) method_7_code (2 : Nat) (Option.some Jvm.ClassFile.FieldType.int), Jvm.Cond.code ({ cls := "com/example/tryst/tryst/encoding/Base58DecodePinLaw", name := "check", desc := "([BIIIJ)Z" } : Jvm.MethodName) method_9_code (6 : Nat) (Option.some Jvm.ClassFile.FieldType.boolean), Jvm.Cond.code ({ cls := "com/example/tryst/tryst/encoding/Base58DecodePinLaw", name := "digit", desc := "(I)C" } : Jvm.MethodName) method_3_code (1 : Nat) (Option.some Jvm.ClassFile.FieldType.char), Jvm.Cond.code ({ cls := "java/lang/String", name := "charAt", desc := "(I)C" } : Jvm.MethodName) jdk_42_method_56_code (2 : Nat) (Option.some Jvm.ClassFile.FieldType.char), Jvm.Cond.code ({ cls := "java/lang/String", name := "isLatin1", desc := "()Z" } : Jvm.MethodName) jdk_42_method_154_code (1 : Nat) (Option.some Jvm.ClassFile.FieldType.boolean), Jvm.Cond.code ({ cls := "java/lang/StringLatin1", name := "charAt", desc := "([BI)C" } : Jvm.MethodName) jdk_43_method_2_code (2 : Nat) (Option.some Jvm.ClassFile.FieldType.char), Jvm.Cond.code ({ cls := "java/lang/String", name := "checkIndex", desc := "(II)V" } : Jvm.MethodName) jdk_42_method_155_code (2 : Nat) (Option.none : Option Jvm.ClassFile.FieldType), Jvm.Cond.code ({ cls := "jdk/internal/util/Preconditions", name := "checkIndex", desc := "(IILjava/util/function/BiFunction;)I" } : Jvm.MethodName) jdk_41_method_11_code (3 : Nat) (Option.some Jvm.ClassFile.FieldType.int), Jvm.Cond.code ({ cls := "java/lang/StringUTF16", name := "compress", desc := "([CII)[B" } : Jvm.MethodName) jdk_52_method_16_code (6 : Nat) (Option.some (Jvm.ClassFile.FieldType.array Jvm.ClassFile.FieldType.byte)), Jvm.Cond.code ({ cls := "java/lang/StringUTF16", name := "compress", desc := "([CI[BII)I" } : Jvm.MethodName) jdk_52_method_21_code (7 : Nat) (Option.some Jvm.ClassFile.FieldType.int), Jvm.Cond.code ({ cls := "java/lang/StringUTF16", name := "coderFromArrayLen", desc := "([BI)B" } : Jvm.MethodName) jdk_52_method_15_code (2 : Nat) (Option.some Jvm.ClassFile.FieldType.byte), Jvm.Cond.code ({ cls := "java/lang/String", name := "indexOf", desc := "(I)I" } : Jvm.MethodName) jdk_42_method_79_code (2 : Nat) (Option.some Jvm.ClassFile.FieldType.int), Jvm.Cond.code ({ cls := "java/lang/String", name := "indexOf", desc := "(II)I" } : Jvm.MethodName) jdk_42_method_80_code (3 : Nat) (Option.some Jvm.ClassFile.FieldType.int), Jvm.Cond.code ({ cls := "java/lang/StringLatin1", name := "indexOf", desc := "([BIII)I" } : Jvm.MethodName) jdk_43_method_22_code (4 : Nat) (Option.some Jvm.ClassFile.FieldType.int), Jvm.Cond.code ({ cls := "java/lang/StringLatin1", name := "canEncode", desc := "(I)Z" } : Jvm.MethodName) jdk_43_method_4_code (1 : Nat) (Option.some Jvm.ClassFile.FieldType.boolean), Jvm.Cond.code ({ cls := "java/lang/Math", name := "max", desc := "(II)I" } : Jvm.MethodName) jdk_29_method_65_code (2 : Nat) (Option.some Jvm.ClassFile.FieldType.int), Jvm.Cond.code ({ cls := "java/lang/Math", name := "min", desc := "(II)I" } : Jvm.MethodName) jdk_29_method_69_code (2 : Nat) (Option.some Jvm.ClassFile.FieldType.int), Jvm.Cond.code ({ cls := "java/lang/StringLatin1", name := "indexOfChar", desc := "([BIII)I" } : Jvm.MethodName) jdk_43_method_23_code (6 : Nat) (Option.some Jvm.ClassFile.FieldType.int), Jvm.Cond.code ({ cls := "com/example/tryst/tryst/encoding/Base58DecodePinLaw", name := "expected", desc := "(IIIJ)B" } : Jvm.MethodName) method_8_code (6 : Nat) (Option.some Jvm.ClassFile.FieldType.byte)]
set_option maxRecDepth 65536 in
theorem codes_eq : words1.filter isCode = codes1 := rfl
theorem w_codes : ∀ c ∈ words1.filter isCode, c.before args0 about1 = true := by
  rw [codes_eq]
  intro c hc
  simp only [codes1, List.mem_cons, List.not_mem_nil, or_false] at hc
  rcases hc with rfl | rfl | rfl | rfl | rfl | rfl | rfl | rfl | rfl | rfl | rfl | rfl | rfl | rfl | rfl | rfl | rfl | rfl | rfl | rfl | rfl | rfl | rfl | rfl | rfl | rfl | rfl | rfl | rfl
  · exact w_c0
  · exact w_c1
  · exact w_c2
  · exact w_c3
  · exact w_c4
  · exact w_c5
  · exact w_c6
  · exact w_c7
  · exact w_c8
  · exact w_c9
  · exact w_c10
  · exact w_c11
  · exact w_c12
  · exact w_c13
  · exact w_c14
  · exact w_c15
  · exact w_c16
  · exact w_c17
  · exact w_c18
  · exact w_c19
  · exact w_c20
  · exact w_c21
  · exact w_c22
  · exact w_c23
  · exact w_c24
  · exact w_c25
  · exact w_c26
  · exact w_c27
  · exact w_c28
set_option maxRecDepth 65536 in
theorem w_t1 : (words1.take 24).all (fun c => isCode c || c.before args0 about1) = true := by decide +kernel
set_option maxRecDepth 65536 in
theorem w_t2 : ((words1.drop 24).take 24).all (fun c => isCode c || c.before args0 about1) = true := by decide +kernel
set_option maxRecDepth 65536 in
theorem w_t3 : (((words1.drop 24).drop 24).take 24).all (fun c => isCode c || c.before args0 about1) = true := by decide +kernel
set_option maxRecDepth 65536 in
theorem w_t4 : ((((words1.drop 24).drop 24).drop 24).take 24).all (fun c => isCode c || c.before args0 about1) = true := by decide +kernel
set_option maxRecDepth 65536 in
theorem w_t5 : (((((words1.drop 24).drop 24).drop 24).drop 24).take 24).all (fun c => isCode c || c.before args0 about1) = true := by decide +kernel
set_option maxRecDepth 65536 in
theorem w_t6 : (((((words1.drop 24).drop 24).drop 24).drop 24).drop 24).all (fun c => isCode c || c.before args0 about1) = true := by decide +kernel
theorem w_tables : (allAtoms (Jvm.Cond.code x code maxLocals ret :: tables_1)).before args0 about1 = true := by
  rw [allAtoms_all]
  show words1.all (fun c => c.before args0 about1) = true
  refine all_split ?_ w_codes
  rw [← List.take_append_drop 24 words1, List.all_append, w_t1, ← List.take_append_drop 24 (words1.drop 24), List.all_append, w_t2, ← List.take_append_drop 24 ((words1.drop 24).drop 24), List.all_append, w_t3, ← List.take_append_drop 24 (((words1.drop 24).drop 24).drop 24), List.all_append, w_t4, ← List.take_append_drop 24 ((((words1.drop 24).drop 24).drop 24).drop 24), List.all_append, w_t5, w_t6]
  rfl
set_option maxRecDepth 65536 in
theorem w_rest : rest_1_c.before args0 about1 = true := by decide +kernel
set_option maxRecDepth 65536 in
theorem w_case : (Jvm.Cond.and given_1 narrow_1).before args0 about1 = true := by decide +kernel
set_option maxRecDepth 65536 in
theorem w_consts : constsHeld consts_1 about1 := Jvm.Lit.constsHeldB_iff.mp (by decide +kernel)
theorem w_applies : (headSpec (Jvm.Cond.code x code maxLocals ret :: tables_1) room_1).applies x e0.platform about1 = true :=
  (Spec.applies_iff w_frames).mpr ⟨w_running, w_runnable, w_alone, w_named, w_hears, w_ripe, w_room, w_tables⟩
theorem atStart : AtStart classFile x code maxLocals ret World_1 tables_1 room_1 Calls_1 rest_1 Pre_1 launch0 p0 e0 about1 theMethod args0 below0 :=
  ⟨lists_1, trivial, launch0.admits_env _ _ _, launch0.least_env, fairChoices_fair.cas, fairChoices_fair.clock, w_frames, w_args, w_heap, w_applies, ⟨w_consts, trivial⟩, w_rest, w_case⟩
end start1
theorem witness_1 : WitnessClaimed_1 := ⟨start1.p0, start1.e0, start1.about1, start1.theMethod, start1.args0, start1.below0, start1.atStart⟩
end Jvm.Pilot.@@N@@
