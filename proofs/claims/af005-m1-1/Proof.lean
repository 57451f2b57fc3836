import JvmDerived
import JvmDerived.Pilot.@@N@@Statement
import JvmDerived.Pilot.@@N@@Code
set_option linter.unusedVariables false
set_option linter.unusedSimpArgs false
namespace Jvm.Pilot.@@N@@
open Jvm Jvm.ClassFile Sem Op Lib Jvm.Free Jvm.Stand Jvm.LawKit Jvm.RoadKit Bundle Jvm.Pilot.@@N@@.Jvm.D
section OwnKit
/-- where a walk of this body ends: it has returned, wrote nothing below n0, and Q holds of what it returned and of the heap -/
def Ends (n0 : Nat) (p : Program) (e : Env) (s : State) (below : List Frame) (R : Room) (Q : Option Value → Heap → Prop) (T : State) (g : JFrame) : Prop :=
  ∃ s₂ o, Steps p.tables e below (T.setTop g) s₂ ∧ s₂.status = .running ∧ Ended s₂ below o ∧ ∃ v L, o = .returned v ∧ (Fr n0 L ∧ Q v s₂.heap) ∧ FrameEnd s o s₂ L R.cells R.slots
/-- the walk stands at T over the heap h, having made at most kc cells of ks slots -/
def St (l : Launch) (n0 : Nat) (p : Program) (e : Env) (R : Room) (s : State) (m : MethodId) (args : Array Value) (below : List Frame) (meth : Method) (c : Code) (kc ks : Nat) (T : State) (h : Heap) : Prop :=
  ∃ locs cells slots, Stand p l e R s m args below meth c T locs cells slots ∧ T.heap = h ∧ Fr n0 locs ∧ cells ≤ kc ∧ slots ≤ ks
def Cx (l : Launch) (Z : State) (n0 : Nat) (p : Program) (e : Env) (R : Room) (s : State) (m : MethodId) (args : Array Value) (below : List Frame) (meth : Method) (c : Code) (bytes : ByteArray) (ml : Nat) (own name : String) (rt : Option FieldType) (Q : Option Value → Heap → Prop) (F : State → JFrame → Prop) (S : Nat → Nat → State → Heap → Prop) : Prop :=
  (p.tables.exec = Jvm.exec ∧ Z.Warmed39 s.vm ∧ c.code = bytes ∧ c.maxLocals = ml) ∧ (s.vm.findClass own = some m.cls ∧ meth.name = name ∧ meth.sig.returnType = rt ∧ meth.locks = false) ∧ F = Ends n0 p e s below R Q ∧ S = St l n0 p e R s m args below meth c
/-- a body's contract -/
def Con (l : Launch) (Z : State) (y : MethodName) (bytes : ByteArray) (ml : Nat) (rt : Option FieldType) (R : Room) (args : Array Value) (h0 : Heap) (n0 : Nat) (Q : Option Value → Heap → Prop) : Prop :=
  ∀ ws : List Jvm.Cond, MetFree l y (head1 (Jvm.Cond.code y bytes ml rt :: ws) R) (fun a U => a = args ∧ Z.Warmed39 U.vm ∧ U.heap = h0) (fun _ _ _ _ _ => True) (fun _ U o U' => ∃ v L, o = .returned v ∧ (Fr n0 L ∧ Q v U'.heap) ∧ FrameEnd U o U' L R.cells R.slots)
variable {l : Launch} {Z : State} {n0 : Nat} {p : Program} {e : Env} {R : Room} {s : State} {m : MethodId} {args : Array Value} {below : List Frame} {meth : Method} {c : Code} {bytes : ByteArray} {ml : Nat} {own name : String} {rt : Option FieldType} {Q : Option Value → Heap → Prop} {F : State → JFrame → Prop} {S : Nat → Nat → State → Heap → Prop}
variable {a0 : Array Value} {T T' : State} {h h' : Heap} {kc ks kc' ks' pc pc' : Nat} {L L' : Array Slot} {rest : List Value}
theorem Con.of {y : MethodName} {h0 : Heap} {Ls : Array Slot} (hpn : plainFor y = true) (hef : ∀ m, entryFrame m args ml = mkF m 0 Ls []) (ho : y.cls = own) (hn : y.name = name)
    (H : ∀ (p : Program) (e : Env) (s : State) (m : MethodId) (below : List Frame) (meth : Method) (c : Code) (T : State) (F : State → JFrame → Prop) (S : Nat → Nat → State → Heap → Prop), Cx l Z n0 p e R s m args below meth c bytes ml own name rt Q F S → S 0 0 T h0 → F T (mkF m 0 Ls [])) :
    Con l Z y bytes ml rt R args h0 n0 Q := by
  intro ws
  refine MetFree.of_bodySF hpn hisR ?_
  intro p e s m args below meth c s₁ Bd hml0 hP hK
  obtain ⟨rfl, hZ, hh⟩ := hP
  have e0 : s₁.heap = h0 := by rw [← hh, Bd.state]; rfl
  obtain ⟨s₂, o, q1, q2, q3, q4⟩ := H p e s m below meth c s₁ _ _ ⟨⟨Bd.exec, hZ, Bd.bytes, hml0⟩, ⟨by rw [← ho]; exact findClass_of_methodNamed Bd.named, by rw [← hn]; exact (name_of_methodNamed Bd.named Bd.method).1, Bd.returns, Bd.notSynchronized⟩, rfl, rfl⟩ ⟨[], 0, 0, Stand.of_body Bd, e0, Fr.nil n0, Nat.le_refl _, Nat.le_refl _⟩
  exact ⟨s₂, o, castTop (hef m) q1, q2, q3, q4⟩
theorem Cx.step (cx : Cx l Z n0 p e R s m args below meth c bytes ml own name rt Q F S) {g g' : JFrame} (st : ∀ t, Steps p.tables e below (T'.setTop g') t → Steps p.tables e below (T.setTop g) t) (k : F T' g') : F T g := by
  obtain ⟨-, -, rfl, -⟩ := cx
  obtain ⟨s₂, o, q1, q⟩ := k
  exact ⟨s₂, o, st _ q1, q⟩
theorem Cx.at (cx : Cx l Z n0 p e R s m args below meth c bytes ml own name rt Q F S) (st : S kc ks T h) : At T m c below := by
  obtain ⟨-, -, -, rfl⟩ := cx
  obtain ⟨_, _, _, X, -⟩ := st
  exact X.here
theorem Cx.open (cx : Cx l Z n0 p e R s m args below meth c bytes ml own name rt Q F S) (st : S kc ks T h) : ∃ locs cells slots, Stand p l e R s m args below meth c T locs cells slots ∧ T.heap = h ∧ Fr n0 locs ∧ cells ≤ kc ∧ slots ≤ ks := by
  obtain ⟨-, -, -, rfl⟩ := cx
  exact st
theorem Cx.mono (cx : Cx l Z n0 p e R s m args below meth c bytes ml own name rt Q F S) (st : S kc ks T h) (h1 : kc ≤ kc') (h2 : ks ≤ ks') : S kc' ks' T h := by
  obtain ⟨-, -, -, rfl⟩ := cx
  obtain ⟨a, b, d, X, q1, q2, q3, q4⟩ := st
  exact ⟨a, b, d, X, q1, q2, Nat.le_trans q3 h1, Nat.le_trans q4 h2⟩
theorem Cx.dec (cx : Cx l Z n0 p e R s m args below meth c bytes ml own name rt Q F S) {r : Except DecodeError (Instr × Nat)} (hd : decode bytes pc = r) : decode c.code pc = r := hb cx.1.2.2.1 hd
/-- leaving the method -/
theorem Cx.fin (cx : Cx l Z n0 p e R s m args below meth c bytes ml own name rt Q F S) (st : S kc ks T h) {v : Option Value} {g : JFrame} (hv : rt = none → v = none) (hk : kc ≤ R.cells) (hs : ks ≤ R.slots)
    (go : ∀ fs locs cells slots, Stand p l e R s m args below meth c T locs cells slots → (∀ (f : JFrame) (acts : List Action), f.method = m → f.locked = none → f.entered = [] → (doReturn e (T.setTop f) acts v).1 = T.setFrames fs) → Steps p.tables e below (T.setTop g) (T.setFrames fs)) (hQ : Q v h) : F T g := by
  obtain ⟨c1, ⟨c5, c6, c7, c8⟩, rfl, rfl⟩ := cx
  obtain ⟨locs, cells, slots, X, q1, q2, q3, q4⟩ := st
  obtain ⟨fs, hr, hrun, hended, hW, hsame⟩ := X.leave (v := v) (fun q => hv (c7.symm.trans q)) c8
  refine ⟨_, _, go fs _ _ _ X hr, hrun, hended, v, locs, rfl, ⟨q2, ?_⟩, ⟨_, rfl⟩, hW, hsame.mono (Nat.le_trans q3 hk) (Nat.le_trans q4 hs)⟩
  show Q v T.heap
  rw [q1]; exact hQ
theorem E_iadd (cx : Cx l Z n0 p e R s m args below meth c bytes ml own name rt Q F S) (st : S kc ks T h) {x y : Int32} (hd : decode bytes pc = .ok (.iadd, 1))  (hp : pc + 1 = pc') (k : F T (mkF m pc' L (.int (x + y) :: rest))) : F T (mkF m pc L (.int y :: .int x :: rest)) := by
  subst hp; exact cx.step (fun _ q => XS.iadd (cx.at st) cx.1.1 rfl (cx.dec hd) rfl q) k
theorem E_isub (cx : Cx l Z n0 p e R s m args below meth c bytes ml own name rt Q F S) (st : S kc ks T h) {x y : Int32} (hd : decode bytes pc = .ok (.isub, 1))  (hp : pc + 1 = pc') (k : F T (mkF m pc' L (.int (x - y) :: rest))) : F T (mkF m pc L (.int y :: .int x :: rest)) := by
  subst hp; exact cx.step (fun _ q => XS.isub (cx.at st) cx.1.1 rfl (cx.dec hd) rfl q) k
theorem E_imul (cx : Cx l Z n0 p e R s m args below meth c bytes ml own name rt Q F S) (st : S kc ks T h) {x y : Int32} (hd : decode bytes pc = .ok (.imul, 1))  (hp : pc + 1 = pc') (k : F T (mkF m pc' L (.int (x * y) :: rest))) : F T (mkF m pc L (.int y :: .int x :: rest)) := by
  subst hp; exact cx.step (fun _ q => XS.imul (cx.at st) cx.1.1 rfl (cx.dec hd) rfl q) k
theorem E_iand (cx : Cx l Z n0 p e R s m args below meth c bytes ml own name rt Q F S) (st : S kc ks T h) {x y : Int32} (hd : decode bytes pc = .ok (.iand, 1))  (hp : pc + 1 = pc') (k : F T (mkF m pc' L (.int (x &&& y) :: rest))) : F T (mkF m pc L (.int y :: .int x :: rest)) := by
  subst hp; exact cx.step (fun _ q => XS.iand (cx.at st) cx.1.1 rfl (cx.dec hd) rfl q) k
theorem E_ior (cx : Cx l Z n0 p e R s m args below meth c bytes ml own name rt Q F S) (st : S kc ks T h) {x y : Int32} (hd : decode bytes pc = .ok (.ior, 1))  (hp : pc + 1 = pc') (k : F T (mkF m pc' L (.int (x ||| y) :: rest))) : F T (mkF m pc L (.int y :: .int x :: rest)) := by
  subst hp; exact cx.step (fun _ q => XS.ior (cx.at st) cx.1.1 rfl (cx.dec hd) rfl q) k
theorem E_ixor (cx : Cx l Z n0 p e R s m args below meth c bytes ml own name rt Q F S) (st : S kc ks T h) {x y : Int32} (hd : decode bytes pc = .ok (.ixor, 1))  (hp : pc + 1 = pc') (k : F T (mkF m pc' L (.int (x ^^^ y) :: rest))) : F T (mkF m pc L (.int y :: .int x :: rest)) := by
  subst hp; exact cx.step (fun _ q => XS.ixor (cx.at st) cx.1.1 rfl (cx.dec hd) rfl q) k
theorem E_ladd (cx : Cx l Z n0 p e R s m args below meth c bytes ml own name rt Q F S) (st : S kc ks T h) {x y : Int64} (hd : decode bytes pc = .ok (.ladd, 1))  (hp : pc + 1 = pc') (k : F T (mkF m pc' L (.long (x + y) :: rest))) : F T (mkF m pc L (.long y :: .long x :: rest)) := by
  subst hp; exact cx.step (fun _ q => XS.ladd (cx.at st) cx.1.1 rfl (cx.dec hd) rfl q) k
theorem E_lsub (cx : Cx l Z n0 p e R s m args below meth c bytes ml own name rt Q F S) (st : S kc ks T h) {x y : Int64} (hd : decode bytes pc = .ok (.lsub, 1))  (hp : pc + 1 = pc') (k : F T (mkF m pc' L (.long (x - y) :: rest))) : F T (mkF m pc L (.long y :: .long x :: rest)) := by
  subst hp; exact cx.step (fun _ q => XS.lsub (cx.at st) cx.1.1 rfl (cx.dec hd) rfl q) k
theorem E_lmul (cx : Cx l Z n0 p e R s m args below meth c bytes ml own name rt Q F S) (st : S kc ks T h) {x y : Int64} (hd : decode bytes pc = .ok (.lmul, 1))  (hp : pc + 1 = pc') (k : F T (mkF m pc' L (.long (x * y) :: rest))) : F T (mkF m pc L (.long y :: .long x :: rest)) := by
  subst hp; exact cx.step (fun _ q => XS.lmul (cx.at st) cx.1.1 rfl (cx.dec hd) rfl q) k
theorem E_land (cx : Cx l Z n0 p e R s m args below meth c bytes ml own name rt Q F S) (st : S kc ks T h) {x y : Int64} (hd : decode bytes pc = .ok (.land, 1))  (hp : pc + 1 = pc') (k : F T (mkF m pc' L (.long (x &&& y) :: rest))) : F T (mkF m pc L (.long y :: .long x :: rest)) := by
  subst hp; exact cx.step (fun _ q => XS.land (cx.at st) cx.1.1 rfl (cx.dec hd) rfl q) k
theorem E_lor (cx : Cx l Z n0 p e R s m args below meth c bytes ml own name rt Q F S) (st : S kc ks T h) {x y : Int64} (hd : decode bytes pc = .ok (.lor, 1))  (hp : pc + 1 = pc') (k : F T (mkF m pc' L (.long (x ||| y) :: rest))) : F T (mkF m pc L (.long y :: .long x :: rest)) := by
  subst hp; exact cx.step (fun _ q => XS.lor (cx.at st) cx.1.1 rfl (cx.dec hd) rfl q) k
theorem E_lxor (cx : Cx l Z n0 p e R s m args below meth c bytes ml own name rt Q F S) (st : S kc ks T h) {x y : Int64} (hd : decode bytes pc = .ok (.lxor, 1))  (hp : pc + 1 = pc') (k : F T (mkF m pc' L (.long (x ^^^ y) :: rest))) : F T (mkF m pc L (.long y :: .long x :: rest)) := by
  subst hp; exact cx.step (fun _ q => XS.lxor (cx.at st) cx.1.1 rfl (cx.dec hd) rfl q) k
theorem E_idiv (cx : Cx l Z n0 p e R s m args below meth c bytes ml own name rt Q F S) (st : S kc ks T h) {x y : Int32} (hd : decode bytes pc = .ok (.idiv, 1)) (hz : y ≠ 0) (hp : pc + 1 = pc') (k : F T (mkF m pc' L (.int (x / y) :: rest))) : F T (mkF m pc L (.int y :: .int x :: rest)) := by
  subst hp; exact cx.step (fun _ q => XS.idiv (cx.at st) cx.1.1 rfl (cx.dec hd) rfl hz q) k
theorem E_ldiv (cx : Cx l Z n0 p e R s m args below meth c bytes ml own name rt Q F S) (st : S kc ks T h) {x y : Int64} (hd : decode bytes pc = .ok (.ldiv, 1)) (hz : y ≠ 0) (hp : pc + 1 = pc') (k : F T (mkF m pc' L (.long (x / y) :: rest))) : F T (mkF m pc L (.long y :: .long x :: rest)) := by
  subst hp; exact cx.step (fun _ q => XS.ldiv (cx.at st) cx.1.1 rfl (cx.dec hd) rfl hz q) k
theorem E_ishl (cx : Cx l Z n0 p e R s m args below meth c bytes ml own name rt Q F S) (st : S kc ks T h) {x y : Int32} (hd : decode bytes pc = .ok (.ishl, 1))  (hp : pc + 1 = pc') (k : F T (mkF m pc' L (.int (x <<< (y &&& 31)) :: rest))) : F T (mkF m pc L (.int y :: .int x :: rest)) := by
  subst hp; exact cx.step (fun _ q => XS.ishl (cx.at st) cx.1.1 rfl (cx.dec hd) rfl q) k
theorem E_ishr (cx : Cx l Z n0 p e R s m args below meth c bytes ml own name rt Q F S) (st : S kc ks T h) {x y : Int32} (hd : decode bytes pc = .ok (.ishr, 1))  (hp : pc + 1 = pc') (k : F T (mkF m pc' L (.int (x >>> (y &&& 31)) :: rest))) : F T (mkF m pc L (.int y :: .int x :: rest)) := by
  subst hp; exact cx.step (fun _ q => XS.ishr (cx.at st) cx.1.1 rfl (cx.dec hd) rfl q) k
theorem E_iushr (cx : Cx l Z n0 p e R s m args below meth c bytes ml own name rt Q F S) (st : S kc ks T h) {x y : Int32} (hd : decode bytes pc = .ok (.iushr, 1))  (hp : pc + 1 = pc') (k : F T (mkF m pc' L (.int ((x.toUInt32 >>> (y &&& 31).toUInt32).toInt32) :: rest))) : F T (mkF m pc L (.int y :: .int x :: rest)) := by
  subst hp; exact cx.step (fun _ q => XS.iushr (cx.at st) cx.1.1 rfl (cx.dec hd) rfl q) k
theorem E_lshl (cx : Cx l Z n0 p e R s m args below meth c bytes ml own name rt Q F S) (st : S kc ks T h) {x : Int64} {y : Int32} (hd : decode bytes pc = .ok (.lshl, 1))  (hp : pc + 1 = pc') (k : F T (mkF m pc' L (.long (x <<< (y &&& 0x3f).toInt64) :: rest))) : F T (mkF m pc L (.int y :: .long x :: rest)) := by
  subst hp; exact cx.step (fun _ q => XS.lshl (cx.at st) cx.1.1 rfl (cx.dec hd) rfl q) k
theorem E_lshr (cx : Cx l Z n0 p e R s m args below meth c bytes ml own name rt Q F S) (st : S kc ks T h) {x : Int64} {y : Int32} (hd : decode bytes pc = .ok (.lshr, 1))  (hp : pc + 1 = pc') (k : F T (mkF m pc' L (.long (x >>> (y &&& 0x3f).toInt64) :: rest))) : F T (mkF m pc L (.int y :: .long x :: rest)) := by
  subst hp; exact cx.step (fun _ q => XS.lshr (cx.at st) cx.1.1 rfl (cx.dec hd) rfl q) k
theorem E_lushr (cx : Cx l Z n0 p e R s m args below meth c bytes ml own name rt Q F S) (st : S kc ks T h) {x : Int64} {y : Int32} (hd : decode bytes pc = .ok (.lushr, 1))  (hp : pc + 1 = pc') (k : F T (mkF m pc' L (.long ((x.toUInt64 >>> (y &&& 0x3f).toInt64.toUInt64).toInt64) :: rest))) : F T (mkF m pc L (.int y :: .long x :: rest)) := by
  subst hp; exact cx.step (fun _ q => XS.lushr (cx.at st) cx.1.1 rfl (cx.dec hd) rfl q) k
theorem E_ineg (cx : Cx l Z n0 p e R s m args below meth c bytes ml own name rt Q F S) (st : S kc ks T h) {x : Int32} (hd : decode bytes pc = .ok (.ineg, 1))  (hp : pc + 1 = pc') (k : F T (mkF m pc' L (.int (-x) :: rest))) : F T (mkF m pc L (.int x :: rest)) := by
  subst hp; exact cx.step (fun _ q => XS.ineg (cx.at st) cx.1.1 rfl (cx.dec hd) rfl q) k
theorem E_lneg (cx : Cx l Z n0 p e R s m args below meth c bytes ml own name rt Q F S) (st : S kc ks T h) {x : Int64} (hd : decode bytes pc = .ok (.lneg, 1))  (hp : pc + 1 = pc') (k : F T (mkF m pc' L (.long (-x) :: rest))) : F T (mkF m pc L (.long x :: rest)) := by
  subst hp; exact cx.step (fun _ q => XS.lneg (cx.at st) cx.1.1 rfl (cx.dec hd) rfl q) k
theorem E_i2l (cx : Cx l Z n0 p e R s m args below meth c bytes ml own name rt Q F S) (st : S kc ks T h) {x : Int32} (hd : decode bytes pc = .ok (.i2l, 1))  (hp : pc + 1 = pc') (k : F T (mkF m pc' L (.long (x.toInt64) :: rest))) : F T (mkF m pc L (.int x :: rest)) := by
  subst hp; exact cx.step (fun _ q => XS.i2l (cx.at st) cx.1.1 rfl (cx.dec hd) rfl q) k
theorem E_l2i (cx : Cx l Z n0 p e R s m args below meth c bytes ml own name rt Q F S) (st : S kc ks T h) {x : Int64} (hd : decode bytes pc = .ok (.l2i, 1))  (hp : pc + 1 = pc') (k : F T (mkF m pc' L (.int (x.toInt32) :: rest))) : F T (mkF m pc L (.long x :: rest)) := by
  subst hp; exact cx.step (fun _ q => XS.l2i (cx.at st) cx.1.1 rfl (cx.dec hd) rfl q) k
theorem E_lcmp (cx : Cx l Z n0 p e R s m args below meth c bytes ml own name rt Q F S) (st : S kc ks T h) {x y : Int64} (hd : decode bytes pc = .ok (.lcmp, 1))  (hp : pc + 1 = pc') (k : F T (mkF m pc' L (.int (lcmpW x y) :: rest))) : F T (mkF m pc L (.long y :: .long x :: rest)) := by
  subst hp; exact cx.step (fun _ q => XS.lcmp (cx.at st) cx.1.1 rfl (cx.dec hd) rfl q) k
theorem E_pop (cx : Cx l Z n0 p e R s m args below meth c bytes ml own name rt Q F S) (st : S kc ks T h) {x : Value} (hd : decode bytes pc = .ok (.pop, 1)) (hc : x.category = 1) (hp : pc + 1 = pc') (k : F T (mkF m pc' L (rest))) : F T (mkF m pc L (x :: rest)) := by
  subst hp; exact cx.step (fun _ q => XS.pop (cx.at st) cx.1.1 rfl (cx.dec hd) rfl hc q) k
theorem E_dup (cx : Cx l Z n0 p e R s m args below meth c bytes ml own name rt Q F S) (st : S kc ks T h) {x : Value} (hd : decode bytes pc = .ok (.dup, 1)) (hc : x.category = 1) (hp : pc + 1 = pc') (k : F T (mkF m pc' L (x :: x :: rest))) : F T (mkF m pc L (x :: rest)) := by
  subst hp; exact cx.step (fun _ q => XS.dup (cx.at st) cx.1.1 rfl (cx.dec hd) rfl hc q) k
theorem E_dup_x1 (cx : Cx l Z n0 p e R s m args below meth c bytes ml own name rt Q F S) (st : S kc ks T h) {x y : Value} (hd : decode bytes pc = .ok (.dup_x1, 1)) (hc : x.category = 1) (hc2 : y.category = 1) (hp : pc + 1 = pc') (k : F T (mkF m pc' L (x :: y :: x :: rest))) : F T (mkF m pc L (x :: y :: rest)) := by
  subst hp; exact cx.step (fun _ q => XS.dupX1 (cx.at st) cx.1.1 rfl (cx.dec hd) rfl hc hc2 q) k
theorem E_aconst_null (cx : Cx l Z n0 p e R s m args below meth c bytes ml own name rt Q F S) (st : S kc ks T h)  (hd : decode bytes pc = .ok (.aconst_null, 1))  (hp : pc + 1 = pc') (k : F T (mkF m pc' L (.null :: rest))) : F T (mkF m pc L (rest)) := by
  subst hp; exact cx.step (fun _ q => XS.aconstNull (cx.at st) cx.1.1 rfl (cx.dec hd)  q) k
theorem E_iloadN (cx : Cx l Z n0 p e R s m args below meth c bytes ml own name rt Q F S) (st : S kc ks T h) {j : Fin 4} {x : Int32} (hd : decode bytes pc = .ok (.iload_n j, 1)) (hl : L[j.val]? = some (.val (.int x)))  (hp : pc + 1 = pc') (k : F T (mkF m pc' L (.int x :: rest))) : F T (mkF m pc L (rest)) := by
  subst hp; exact cx.step (fun _ q => XS.iloadN (cx.at st) cx.1.1 rfl (cx.dec hd) hl q) k
theorem E_istoreN (cx : Cx l Z n0 p e R s m args below meth c bytes ml own name rt Q F S) (st : S kc ks T h) {j : Fin 4} {x : Int32} (hd : decode bytes pc = .ok (.istore_n j, 1))  (hl : storeLocals L j.val (.int x) = some L') (hp : pc + 1 = pc') (k : F T (mkF m pc' L' (rest))) : F T (mkF m pc L (.int x :: rest)) := by
  subst hp; exact cx.step (fun _ q => XS.istoreN (cx.at st) cx.1.1 rfl (cx.dec hd) rfl hl q) k
theorem E_iload (cx : Cx l Z n0 p e R s m args below meth c bytes ml own name rt Q F S) (st : S kc ks T h) {j : Nat} {x : Int32} (hd : decode bytes pc = .ok (.iload j, 2)) (hl : L[j]? = some (.val (.int x)))  (hp : pc + 2 = pc') (k : F T (mkF m pc' L (.int x :: rest))) : F T (mkF m pc L (rest)) := by
  subst hp; exact cx.step (fun _ q => XS.iload (cx.at st) cx.1.1 rfl (cx.dec hd) hl q) k
theorem E_istore (cx : Cx l Z n0 p e R s m args below meth c bytes ml own name rt Q F S) (st : S kc ks T h) {j : Nat} {x : Int32} (hd : decode bytes pc = .ok (.istore j, 2))  (hl : storeLocals L j (.int x) = some L') (hp : pc + 2 = pc') (k : F T (mkF m pc' L' (rest))) : F T (mkF m pc L (.int x :: rest)) := by
  subst hp; exact cx.step (fun _ q => XS.istore (cx.at st) cx.1.1 rfl (cx.dec hd) rfl hl q) k
theorem E_lloadN (cx : Cx l Z n0 p e R s m args below meth c bytes ml own name rt Q F S) (st : S kc ks T h) {j : Fin 4} {x : Int64} (hd : decode bytes pc = .ok (.lload_n j, 1)) (hl : L[j.val]? = some (.val (.long x)))  (hp : pc + 1 = pc') (k : F T (mkF m pc' L (.long x :: rest))) : F T (mkF m pc L (rest)) := by
  subst hp; exact cx.step (fun _ q => XS.lloadN (cx.at st) cx.1.1 rfl (cx.dec hd) hl q) k
theorem E_lstoreN (cx : Cx l Z n0 p e R s m args below meth c bytes ml own name rt Q F S) (st : S kc ks T h) {j : Fin 4} {x : Int64} (hd : decode bytes pc = .ok (.lstore_n j, 1))  (hl : storeLocals L j.val (.long x) = some L') (hp : pc + 1 = pc') (k : F T (mkF m pc' L' (rest))) : F T (mkF m pc L (.long x :: rest)) := by
  subst hp; exact cx.step (fun _ q => XS.lstoreN (cx.at st) cx.1.1 rfl (cx.dec hd) rfl hl q) k
theorem E_lload (cx : Cx l Z n0 p e R s m args below meth c bytes ml own name rt Q F S) (st : S kc ks T h) {j : Nat} {x : Int64} (hd : decode bytes pc = .ok (.lload j, 2)) (hl : L[j]? = some (.val (.long x)))  (hp : pc + 2 = pc') (k : F T (mkF m pc' L (.long x :: rest))) : F T (mkF m pc L (rest)) := by
  subst hp; exact cx.step (fun _ q => XS.lload (cx.at st) cx.1.1 rfl (cx.dec hd) hl q) k
theorem E_lstore (cx : Cx l Z n0 p e R s m args below meth c bytes ml own name rt Q F S) (st : S kc ks T h) {j : Nat} {x : Int64} (hd : decode bytes pc = .ok (.lstore j, 2))  (hl : storeLocals L j (.long x) = some L') (hp : pc + 2 = pc') (k : F T (mkF m pc' L' (rest))) : F T (mkF m pc L (.long x :: rest)) := by
  subst hp; exact cx.step (fun _ q => XS.lstore (cx.at st) cx.1.1 rfl (cx.dec hd) rfl hl q) k
theorem E_aloadN (cx : Cx l Z n0 p e R s m args below meth c bytes ml own name rt Q F S) (st : S kc ks T h) {j : Fin 4} {x : Value} (hd : decode bytes pc = .ok (.aload_n j, 1)) (hl : L[j.val]? = some (.val (x))) (hv : x.isRef = true) (hp : pc + 1 = pc') (k : F T (mkF m pc' L (x :: rest))) : F T (mkF m pc L (rest)) := by
  subst hp; exact cx.step (fun _ q => XS.aloadN (cx.at st) cx.1.1 rfl (cx.dec hd) hl hv q) k
theorem E_astoreN (cx : Cx l Z n0 p e R s m args below meth c bytes ml own name rt Q F S) (st : S kc ks T h) {j : Fin 4} {x : Value} (hd : decode bytes pc = .ok (.astore_n j, 1)) (hv : x.isRef = true) (hl : storeLocals L j.val (x) = some L') (hp : pc + 1 = pc') (k : F T (mkF m pc' L' (rest))) : F T (mkF m pc L (x :: rest)) := by
  subst hp; exact cx.step (fun _ q => XS.astoreN (cx.at st) cx.1.1 rfl (cx.dec hd) rfl hv hl q) k
theorem E_aload (cx : Cx l Z n0 p e R s m args below meth c bytes ml own name rt Q F S) (st : S kc ks T h) {j : Nat} {x : Value} (hd : decode bytes pc = .ok (.aload j, 2)) (hl : L[j]? = some (.val (x))) (hv : x.isRef = true) (hp : pc + 2 = pc') (k : F T (mkF m pc' L (x :: rest))) : F T (mkF m pc L (rest)) := by
  subst hp; exact cx.step (fun _ q => XS.aload (cx.at st) cx.1.1 rfl (cx.dec hd) hl hv q) k
theorem E_astore (cx : Cx l Z n0 p e R s m args below meth c bytes ml own name rt Q F S) (st : S kc ks T h) {j : Nat} {x : Value} (hd : decode bytes pc = .ok (.astore j, 2)) (hv : x.isRef = true) (hl : storeLocals L j (x) = some L') (hp : pc + 2 = pc') (k : F T (mkF m pc' L' (rest))) : F T (mkF m pc L (x :: rest)) := by
  subst hp; exact cx.step (fun _ q => XS.astore (cx.at st) cx.1.1 rfl (cx.dec hd) rfl hv hl q) k
theorem E_iinc (cx : Cx l Z n0 p e R s m args below meth c bytes ml own name rt Q F S) (st : S kc ks T h) {j : Nat} {cst : Int} {x : Int32} (v : Int32) (hd : decode bytes pc = .ok (.iinc j cst, 3)) (hv : Int32.ofInt cst = v) (hl : L[j]? = some (.val (.int x))) (hl' : storeLocals L j (.int (x + v)) = some L') (hp : pc + 3 = pc') (k : F T (mkF m pc' L' rest)) : F T (mkF m pc L rest) := by
  subst hp hv; exact cx.step (fun _ q => XS.iinc (cx.at st) cx.1.1 rfl (cx.dec hd) hl hl' q) k
theorem E_iconst (cx : Cx l Z n0 p e R s m args below meth c bytes ml own name rt Q F S) (st : S kc ks T h) {i : Int} (v : Int32) (hd : decode bytes pc = .ok (.iconst i, 1)) (hv : Int32.ofInt i = v) (hp : pc + 1 = pc') (k : F T (mkF m pc' L (.int v :: rest))) : F T (mkF m pc L rest) := by
  subst hp hv; exact cx.step (fun _ q => XS.iconst (cx.at st) cx.1.1 rfl (cx.dec hd) q) k
theorem E_bipush (cx : Cx l Z n0 p e R s m args below meth c bytes ml own name rt Q F S) (st : S kc ks T h) {i : Int} (v : Int32) (hd : decode bytes pc = .ok (.bipush i, 2)) (hv : (Int8.ofInt i).toInt32 = v) (hp : pc + 2 = pc') (k : F T (mkF m pc' L (.int v :: rest))) : F T (mkF m pc L rest) := by
  subst hp hv; exact cx.step (fun _ q => XS.bipush (cx.at st) cx.1.1 rfl (cx.dec hd) q) k
theorem E_sipush (cx : Cx l Z n0 p e R s m args below meth c bytes ml own name rt Q F S) (st : S kc ks T h) {i : Int} (v : Int32) (hd : decode bytes pc = .ok (.sipush i, 3)) (hv : (Int16.ofInt i).toInt32 = v) (hp : pc + 3 = pc') (k : F T (mkF m pc' L (.int v :: rest))) : F T (mkF m pc L rest) := by
  subst hp hv; exact cx.step (fun _ q => XS.sipush (cx.at st) cx.1.1 rfl (cx.dec hd) q) k
theorem E_lconst (cx : Cx l Z n0 p e R s m args below meth c bytes ml own name rt Q F S) (st : S kc ks T h) {i : Fin 2} (v : Int64) (hd : decode bytes pc = .ok (.lconst i, 1)) (hv : Int64.ofNat i = v) (hp : pc + 1 = pc') (k : F T (mkF m pc' L (.long v :: rest))) : F T (mkF m pc L rest) := by
  subst hp hv; exact cx.step (fun _ q => XS.lconst (cx.at st) cx.1.1 rfl (cx.dec hd) q) k
theorem E_goto (cx : Cx l Z n0 p e R s m args below meth c bytes ml own name rt Q F S) (st : S kc ks T h) {o : Int} (hd : decode bytes pc = .ok (.goto o, 3)) (ho : 0 ≤ (pc : Int) + o) (hp : ((pc : Int) + o).toNat = pc') (k : F T (mkF m pc' L rest)) : F T (mkF m pc L rest) :=
  cx.step (fun _ q => XS.goto (cx.at st) cx.1.1 rfl (pc0 := pc) rfl (cx.dec hd) ho hp q) k
theorem E_irem (cx : Cx l Z n0 p e R s m args below meth c bytes ml own name rt Q F S) (st : S kc ks T h) {x y : Int32} (hd : decode bytes pc = .ok (.irem, 1)) (hz : y ≠ 0) (hp : pc + 1 = pc') (k : F T (mkF m pc' L (.int (x % y) :: rest))) : F T (mkF m pc L (.int y :: .int x :: rest)) := by
  subst hp
  obtain ⟨_, _, _, X, -⟩ := cx.open st
  exact cx.step (fun _ q => iremM X cx.1.1 rfl (cx.dec hd) rfl hz q) k
theorem E_icmp_ltY (cx : Cx l Z n0 p e R s m args below meth c bytes ml own name rt Q F S) (st : S kc ks T h) {x y : Int32} {o : Int} (hd : decode bytes pc = .ok (.if_icmp .lt o, 3)) (ho : 0 ≤ (pc : Int) + o) (hp : ((pc : Int) + o).toNat = pc') (c1 : x < y) (k : F T (mkF m pc' L rest)) : F T (mkF m pc L (.int y :: .int x :: rest)) :=
  cx.step (fun _ q => XS.icmpYes (cx.at st) cx.1.1 rfl (pc0 := pc) rfl (cx.dec hd) rfl (tlt c1).1 ho hp q) k
theorem E_icmp_ltN (cx : Cx l Z n0 p e R s m args below meth c bytes ml own name rt Q F S) (st : S kc ks T h) {x y : Int32} {o : Int} (hd : decode bytes pc = .ok (.if_icmp .lt o, 3)) (hp : pc + 3 = pc') (c1 : ¬ (x < y)) (k : F T (mkF m pc' L rest)) : F T (mkF m pc L (.int y :: .int x :: rest)) := by
  subst hp; exact cx.step (fun _ q => XS.icmpNo (cx.at st) cx.1.1 rfl (cx.dec hd) rfl (flt c1).1 q) k
theorem E_if_ltY (cx : Cx l Z n0 p e R s m args below meth c bytes ml own name rt Q F S) (st : S kc ks T h) {x : Int32} {o : Int} (hd : decode bytes pc = .ok (.ifCond .lt o, 3)) (ho : 0 ≤ (pc : Int) + o) (hp : ((pc : Int) + o).toNat = pc') (c1 : x < 0) (k : F T (mkF m pc' L rest)) : F T (mkF m pc L (.int x :: rest)) :=
  cx.step (fun _ q => XS.ifYes (cx.at st) cx.1.1 rfl (pc0 := pc) rfl (cx.dec hd) rfl ((if0 _ _).trans (tlt c1).1) ho hp q) k
theorem E_if_ltN (cx : Cx l Z n0 p e R s m args below meth c bytes ml own name rt Q F S) (st : S kc ks T h) {x : Int32} {o : Int} (hd : decode bytes pc = .ok (.ifCond .lt o, 3)) (hp : pc + 3 = pc') (c1 : ¬ (x < 0)) (k : F T (mkF m pc' L rest)) : F T (mkF m pc L (.int x :: rest)) := by
  subst hp; exact cx.step (fun _ q => XS.ifNo (cx.at st) cx.1.1 rfl (cx.dec hd) rfl ((if0 _ _).trans (flt c1).1) q) k
theorem E_icmp_geY (cx : Cx l Z n0 p e R s m args below meth c bytes ml own name rt Q F S) (st : S kc ks T h) {x y : Int32} {o : Int} (hd : decode bytes pc = .ok (.if_icmp .ge o, 3)) (ho : 0 ≤ (pc : Int) + o) (hp : ((pc : Int) + o).toNat = pc') (c1 : ¬ (x < y)) (k : F T (mkF m pc' L rest)) : F T (mkF m pc L (.int y :: .int x :: rest)) :=
  cx.step (fun _ q => XS.icmpYes (cx.at st) cx.1.1 rfl (pc0 := pc) rfl (cx.dec hd) rfl (flt c1).2.1 ho hp q) k
theorem E_icmp_geN (cx : Cx l Z n0 p e R s m args below meth c bytes ml own name rt Q F S) (st : S kc ks T h) {x y : Int32} {o : Int} (hd : decode bytes pc = .ok (.if_icmp .ge o, 3)) (hp : pc + 3 = pc') (c1 : x < y) (k : F T (mkF m pc' L rest)) : F T (mkF m pc L (.int y :: .int x :: rest)) := by
  subst hp; exact cx.step (fun _ q => XS.icmpNo (cx.at st) cx.1.1 rfl (cx.dec hd) rfl (tlt c1).2.1 q) k
theorem E_if_geY (cx : Cx l Z n0 p e R s m args below meth c bytes ml own name rt Q F S) (st : S kc ks T h) {x : Int32} {o : Int} (hd : decode bytes pc = .ok (.ifCond .ge o, 3)) (ho : 0 ≤ (pc : Int) + o) (hp : ((pc : Int) + o).toNat = pc') (c1 : ¬ (x < 0)) (k : F T (mkF m pc' L rest)) : F T (mkF m pc L (.int x :: rest)) :=
  cx.step (fun _ q => XS.ifYes (cx.at st) cx.1.1 rfl (pc0 := pc) rfl (cx.dec hd) rfl ((if0 _ _).trans (flt c1).2.1) ho hp q) k
theorem E_if_geN (cx : Cx l Z n0 p e R s m args below meth c bytes ml own name rt Q F S) (st : S kc ks T h) {x : Int32} {o : Int} (hd : decode bytes pc = .ok (.ifCond .ge o, 3)) (hp : pc + 3 = pc') (c1 : x < 0) (k : F T (mkF m pc' L rest)) : F T (mkF m pc L (.int x :: rest)) := by
  subst hp; exact cx.step (fun _ q => XS.ifNo (cx.at st) cx.1.1 rfl (cx.dec hd) rfl ((if0 _ _).trans (tlt c1).2.1) q) k
theorem E_icmp_gtY (cx : Cx l Z n0 p e R s m args below meth c bytes ml own name rt Q F S) (st : S kc ks T h) {x y : Int32} {o : Int} (hd : decode bytes pc = .ok (.if_icmp .gt o, 3)) (ho : 0 ≤ (pc : Int) + o) (hp : ((pc : Int) + o).toNat = pc') (c1 : y < x) (k : F T (mkF m pc' L rest)) : F T (mkF m pc L (.int y :: .int x :: rest)) :=
  cx.step (fun _ q => XS.icmpYes (cx.at st) cx.1.1 rfl (pc0 := pc) rfl (cx.dec hd) rfl (tlt c1).2.2.1 ho hp q) k
theorem E_icmp_gtN (cx : Cx l Z n0 p e R s m args below meth c bytes ml own name rt Q F S) (st : S kc ks T h) {x y : Int32} {o : Int} (hd : decode bytes pc = .ok (.if_icmp .gt o, 3)) (hp : pc + 3 = pc') (c1 : ¬ (y < x)) (k : F T (mkF m pc' L rest)) : F T (mkF m pc L (.int y :: .int x :: rest)) := by
  subst hp; exact cx.step (fun _ q => XS.icmpNo (cx.at st) cx.1.1 rfl (cx.dec hd) rfl (flt c1).2.2.1 q) k
theorem E_if_gtY (cx : Cx l Z n0 p e R s m args below meth c bytes ml own name rt Q F S) (st : S kc ks T h) {x : Int32} {o : Int} (hd : decode bytes pc = .ok (.ifCond .gt o, 3)) (ho : 0 ≤ (pc : Int) + o) (hp : ((pc : Int) + o).toNat = pc') (c1 : 0 < x) (k : F T (mkF m pc' L rest)) : F T (mkF m pc L (.int x :: rest)) :=
  cx.step (fun _ q => XS.ifYes (cx.at st) cx.1.1 rfl (pc0 := pc) rfl (cx.dec hd) rfl ((if0 _ _).trans (tlt c1).2.2.1) ho hp q) k
theorem E_if_gtN (cx : Cx l Z n0 p e R s m args below meth c bytes ml own name rt Q F S) (st : S kc ks T h) {x : Int32} {o : Int} (hd : decode bytes pc = .ok (.ifCond .gt o, 3)) (hp : pc + 3 = pc') (c1 : ¬ (0 < x)) (k : F T (mkF m pc' L rest)) : F T (mkF m pc L (.int x :: rest)) := by
  subst hp; exact cx.step (fun _ q => XS.ifNo (cx.at st) cx.1.1 rfl (cx.dec hd) rfl ((if0 _ _).trans (flt c1).2.2.1) q) k
theorem E_icmp_leY (cx : Cx l Z n0 p e R s m args below meth c bytes ml own name rt Q F S) (st : S kc ks T h) {x y : Int32} {o : Int} (hd : decode bytes pc = .ok (.if_icmp .le o, 3)) (ho : 0 ≤ (pc : Int) + o) (hp : ((pc : Int) + o).toNat = pc') (c1 : ¬ (y < x)) (k : F T (mkF m pc' L rest)) : F T (mkF m pc L (.int y :: .int x :: rest)) :=
  cx.step (fun _ q => XS.icmpYes (cx.at st) cx.1.1 rfl (pc0 := pc) rfl (cx.dec hd) rfl (flt c1).2.2.2 ho hp q) k
theorem E_icmp_leN (cx : Cx l Z n0 p e R s m args below meth c bytes ml own name rt Q F S) (st : S kc ks T h) {x y : Int32} {o : Int} (hd : decode bytes pc = .ok (.if_icmp .le o, 3)) (hp : pc + 3 = pc') (c1 : y < x) (k : F T (mkF m pc' L rest)) : F T (mkF m pc L (.int y :: .int x :: rest)) := by
  subst hp; exact cx.step (fun _ q => XS.icmpNo (cx.at st) cx.1.1 rfl (cx.dec hd) rfl (tlt c1).2.2.2 q) k
theorem E_if_leY (cx : Cx l Z n0 p e R s m args below meth c bytes ml own name rt Q F S) (st : S kc ks T h) {x : Int32} {o : Int} (hd : decode bytes pc = .ok (.ifCond .le o, 3)) (ho : 0 ≤ (pc : Int) + o) (hp : ((pc : Int) + o).toNat = pc') (c1 : ¬ (0 < x)) (k : F T (mkF m pc' L rest)) : F T (mkF m pc L (.int x :: rest)) :=
  cx.step (fun _ q => XS.ifYes (cx.at st) cx.1.1 rfl (pc0 := pc) rfl (cx.dec hd) rfl ((if0 _ _).trans (flt c1).2.2.2) ho hp q) k
theorem E_if_leN (cx : Cx l Z n0 p e R s m args below meth c bytes ml own name rt Q F S) (st : S kc ks T h) {x : Int32} {o : Int} (hd : decode bytes pc = .ok (.ifCond .le o, 3)) (hp : pc + 3 = pc') (c1 : 0 < x) (k : F T (mkF m pc' L rest)) : F T (mkF m pc L (.int x :: rest)) := by
  subst hp; exact cx.step (fun _ q => XS.ifNo (cx.at st) cx.1.1 rfl (cx.dec hd) rfl ((if0 _ _).trans (tlt c1).2.2.2) q) k
theorem E_icmp_eqY (cx : Cx l Z n0 p e R s m args below meth c bytes ml own name rt Q F S) (st : S kc ks T h) {x y : Int32} {o : Int} (hd : decode bytes pc = .ok (.if_icmp .eq o, 3)) (ho : 0 ≤ (pc : Int) + o) (hp : ((pc : Int) + o).toNat = pc') (c1 : x = y) (k : F T (mkF m pc' L rest)) : F T (mkF m pc L (.int y :: .int x :: rest)) :=
  cx.step (fun _ q => XS.icmpYes (cx.at st) cx.1.1 rfl (pc0 := pc) rfl (cx.dec hd) rfl (teq c1).1 ho hp q) k
theorem E_icmp_eqN (cx : Cx l Z n0 p e R s m args below meth c bytes ml own name rt Q F S) (st : S kc ks T h) {x y : Int32} {o : Int} (hd : decode bytes pc = .ok (.if_icmp .eq o, 3)) (hp : pc + 3 = pc') (c1 : ¬ (x = y)) (k : F T (mkF m pc' L rest)) : F T (mkF m pc L (.int y :: .int x :: rest)) := by
  subst hp; exact cx.step (fun _ q => XS.icmpNo (cx.at st) cx.1.1 rfl (cx.dec hd) rfl (feq c1).1 q) k
theorem E_if_eqY (cx : Cx l Z n0 p e R s m args below meth c bytes ml own name rt Q F S) (st : S kc ks T h) {x : Int32} {o : Int} (hd : decode bytes pc = .ok (.ifCond .eq o, 3)) (ho : 0 ≤ (pc : Int) + o) (hp : ((pc : Int) + o).toNat = pc') (c1 : x = 0) (k : F T (mkF m pc' L rest)) : F T (mkF m pc L (.int x :: rest)) :=
  cx.step (fun _ q => XS.ifYes (cx.at st) cx.1.1 rfl (pc0 := pc) rfl (cx.dec hd) rfl ((if0 _ _).trans (teq c1).1) ho hp q) k
theorem E_if_eqN (cx : Cx l Z n0 p e R s m args below meth c bytes ml own name rt Q F S) (st : S kc ks T h) {x : Int32} {o : Int} (hd : decode bytes pc = .ok (.ifCond .eq o, 3)) (hp : pc + 3 = pc') (c1 : ¬ (x = 0)) (k : F T (mkF m pc' L rest)) : F T (mkF m pc L (.int x :: rest)) := by
  subst hp; exact cx.step (fun _ q => XS.ifNo (cx.at st) cx.1.1 rfl (cx.dec hd) rfl ((if0 _ _).trans (feq c1).1) q) k
theorem E_icmp_neY (cx : Cx l Z n0 p e R s m args below meth c bytes ml own name rt Q F S) (st : S kc ks T h) {x y : Int32} {o : Int} (hd : decode bytes pc = .ok (.if_icmp .ne o, 3)) (ho : 0 ≤ (pc : Int) + o) (hp : ((pc : Int) + o).toNat = pc') (c1 : ¬ (x = y)) (k : F T (mkF m pc' L rest)) : F T (mkF m pc L (.int y :: .int x :: rest)) :=
  cx.step (fun _ q => XS.icmpYes (cx.at st) cx.1.1 rfl (pc0 := pc) rfl (cx.dec hd) rfl (feq c1).2 ho hp q) k
theorem E_icmp_neN (cx : Cx l Z n0 p e R s m args below meth c bytes ml own name rt Q F S) (st : S kc ks T h) {x y : Int32} {o : Int} (hd : decode bytes pc = .ok (.if_icmp .ne o, 3)) (hp : pc + 3 = pc') (c1 : x = y) (k : F T (mkF m pc' L rest)) : F T (mkF m pc L (.int y :: .int x :: rest)) := by
  subst hp; exact cx.step (fun _ q => XS.icmpNo (cx.at st) cx.1.1 rfl (cx.dec hd) rfl (teq c1).2 q) k
theorem E_if_neY (cx : Cx l Z n0 p e R s m args below meth c bytes ml own name rt Q F S) (st : S kc ks T h) {x : Int32} {o : Int} (hd : decode bytes pc = .ok (.ifCond .ne o, 3)) (ho : 0 ≤ (pc : Int) + o) (hp : ((pc : Int) + o).toNat = pc') (c1 : ¬ (x = 0)) (k : F T (mkF m pc' L rest)) : F T (mkF m pc L (.int x :: rest)) :=
  cx.step (fun _ q => XS.ifYes (cx.at st) cx.1.1 rfl (pc0 := pc) rfl (cx.dec hd) rfl ((if0 _ _).trans (feq c1).2) ho hp q) k
theorem E_if_neN (cx : Cx l Z n0 p e R s m args below meth c bytes ml own name rt Q F S) (st : S kc ks T h) {x : Int32} {o : Int} (hd : decode bytes pc = .ok (.ifCond .ne o, 3)) (hp : pc + 3 = pc') (c1 : x = 0) (k : F T (mkF m pc' L rest)) : F T (mkF m pc L (.int x :: rest)) := by
  subst hp; exact cx.step (fun _ q => XS.ifNo (cx.at st) cx.1.1 rfl (cx.dec hd) rfl ((if0 _ _).trans (teq c1).2) q) k
theorem E_lif_ltY (cx : Cx l Z n0 p e R s m args below meth c bytes ml own name rt Q F S) (st : S kc ks T h) {x y : Int64} {o : Int} (hd : decode bytes pc = .ok (.lcmp, 1)) (hd2 : decode bytes (pc + 1) = .ok (.ifCond .lt o, 3)) (ho : 0 ≤ ((pc + 1 : Nat) : Int) + o) (hp : (((pc + 1 : Nat) : Int) + o).toNat = pc') (c1 : x < y) (k : F T (mkF m pc' L rest)) : F T (mkF m pc L (.long y :: .long x :: rest)) :=
  E_lcmp cx st hd rfl (E_if_ltY cx st hd2 ho hp ((lw_lt x y).mpr c1) k)
theorem E_lif_ltN (cx : Cx l Z n0 p e R s m args below meth c bytes ml own name rt Q F S) (st : S kc ks T h) {x y : Int64} {o : Int} (hd : decode bytes pc = .ok (.lcmp, 1)) (hd2 : decode bytes (pc + 1) = .ok (.ifCond .lt o, 3)) (hp : pc + 4 = pc') (c1 : ¬ (x < y)) (k : F T (mkF m pc' L rest)) : F T (mkF m pc L (.long y :: .long x :: rest)) :=
  E_lcmp cx st hd rfl (E_if_ltN cx st hd2 hp (fun z => c1 ((lw_lt x y).mp z)) k)
theorem E_lif_geY (cx : Cx l Z n0 p e R s m args below meth c bytes ml own name rt Q F S) (st : S kc ks T h) {x y : Int64} {o : Int} (hd : decode bytes pc = .ok (.lcmp, 1)) (hd2 : decode bytes (pc + 1) = .ok (.ifCond .ge o, 3)) (ho : 0 ≤ ((pc + 1 : Nat) : Int) + o) (hp : (((pc + 1 : Nat) : Int) + o).toNat = pc') (c1 : ¬ (x < y)) (k : F T (mkF m pc' L rest)) : F T (mkF m pc L (.long y :: .long x :: rest)) :=
  E_lcmp cx st hd rfl (E_if_geY cx st hd2 ho hp (fun z => c1 ((lw_lt x y).mp z)) k)
theorem E_lif_geN (cx : Cx l Z n0 p e R s m args below meth c bytes ml own name rt Q F S) (st : S kc ks T h) {x y : Int64} {o : Int} (hd : decode bytes pc = .ok (.lcmp, 1)) (hd2 : decode bytes (pc + 1) = .ok (.ifCond .ge o, 3)) (hp : pc + 4 = pc') (c1 : x < y) (k : F T (mkF m pc' L rest)) : F T (mkF m pc L (.long y :: .long x :: rest)) :=
  E_lcmp cx st hd rfl (E_if_geN cx st hd2 hp ((lw_lt x y).mpr c1) k)
theorem E_lif_gtY (cx : Cx l Z n0 p e R s m args below meth c bytes ml own name rt Q F S) (st : S kc ks T h) {x y : Int64} {o : Int} (hd : decode bytes pc = .ok (.lcmp, 1)) (hd2 : decode bytes (pc + 1) = .ok (.ifCond .gt o, 3)) (ho : 0 ≤ ((pc + 1 : Nat) : Int) + o) (hp : (((pc + 1 : Nat) : Int) + o).toNat = pc') (c1 : y < x) (k : F T (mkF m pc' L rest)) : F T (mkF m pc L (.long y :: .long x :: rest)) :=
  E_lcmp cx st hd rfl (E_if_gtY cx st hd2 ho hp ((lw_gt x y).mpr c1) k)
theorem E_lif_gtN (cx : Cx l Z n0 p e R s m args below meth c bytes ml own name rt Q F S) (st : S kc ks T h) {x y : Int64} {o : Int} (hd : decode bytes pc = .ok (.lcmp, 1)) (hd2 : decode bytes (pc + 1) = .ok (.ifCond .gt o, 3)) (hp : pc + 4 = pc') (c1 : ¬ (y < x)) (k : F T (mkF m pc' L rest)) : F T (mkF m pc L (.long y :: .long x :: rest)) :=
  E_lcmp cx st hd rfl (E_if_gtN cx st hd2 hp (fun z => c1 ((lw_gt x y).mp z)) k)
theorem E_lif_leY (cx : Cx l Z n0 p e R s m args below meth c bytes ml own name rt Q F S) (st : S kc ks T h) {x y : Int64} {o : Int} (hd : decode bytes pc = .ok (.lcmp, 1)) (hd2 : decode bytes (pc + 1) = .ok (.ifCond .le o, 3)) (ho : 0 ≤ ((pc + 1 : Nat) : Int) + o) (hp : (((pc + 1 : Nat) : Int) + o).toNat = pc') (c1 : ¬ (y < x)) (k : F T (mkF m pc' L rest)) : F T (mkF m pc L (.long y :: .long x :: rest)) :=
  E_lcmp cx st hd rfl (E_if_leY cx st hd2 ho hp (fun z => c1 ((lw_gt x y).mp z)) k)
theorem E_lif_leN (cx : Cx l Z n0 p e R s m args below meth c bytes ml own name rt Q F S) (st : S kc ks T h) {x y : Int64} {o : Int} (hd : decode bytes pc = .ok (.lcmp, 1)) (hd2 : decode bytes (pc + 1) = .ok (.ifCond .le o, 3)) (hp : pc + 4 = pc') (c1 : y < x) (k : F T (mkF m pc' L rest)) : F T (mkF m pc L (.long y :: .long x :: rest)) :=
  E_lcmp cx st hd rfl (E_if_leN cx st hd2 hp ((lw_gt x y).mpr c1) k)
theorem E_lif_eqY (cx : Cx l Z n0 p e R s m args below meth c bytes ml own name rt Q F S) (st : S kc ks T h) {x y : Int64} {o : Int} (hd : decode bytes pc = .ok (.lcmp, 1)) (hd2 : decode bytes (pc + 1) = .ok (.ifCond .eq o, 3)) (ho : 0 ≤ ((pc + 1 : Nat) : Int) + o) (hp : (((pc + 1 : Nat) : Int) + o).toNat = pc') (c1 : x = y) (k : F T (mkF m pc' L rest)) : F T (mkF m pc L (.long y :: .long x :: rest)) :=
  E_lcmp cx st hd rfl (E_if_eqY cx st hd2 ho hp ((lw_eq x y).mpr c1) k)
theorem E_lif_eqN (cx : Cx l Z n0 p e R s m args below meth c bytes ml own name rt Q F S) (st : S kc ks T h) {x y : Int64} {o : Int} (hd : decode bytes pc = .ok (.lcmp, 1)) (hd2 : decode bytes (pc + 1) = .ok (.ifCond .eq o, 3)) (hp : pc + 4 = pc') (c1 : ¬ (x = y)) (k : F T (mkF m pc' L rest)) : F T (mkF m pc L (.long y :: .long x :: rest)) :=
  E_lcmp cx st hd rfl (E_if_eqN cx st hd2 hp (fun z => c1 ((lw_eq x y).mp z)) k)
theorem E_lif_neY (cx : Cx l Z n0 p e R s m args below meth c bytes ml own name rt Q F S) (st : S kc ks T h) {x y : Int64} {o : Int} (hd : decode bytes pc = .ok (.lcmp, 1)) (hd2 : decode bytes (pc + 1) = .ok (.ifCond .ne o, 3)) (ho : 0 ≤ ((pc + 1 : Nat) : Int) + o) (hp : (((pc + 1 : Nat) : Int) + o).toNat = pc') (c1 : ¬ (x = y)) (k : F T (mkF m pc' L rest)) : F T (mkF m pc L (.long y :: .long x :: rest)) :=
  E_lcmp cx st hd rfl (E_if_neY cx st hd2 ho hp (fun z => c1 ((lw_eq x y).mp z)) k)
theorem E_lif_neN (cx : Cx l Z n0 p e R s m args below meth c bytes ml own name rt Q F S) (st : S kc ks T h) {x y : Int64} {o : Int} (hd : decode bytes pc = .ok (.lcmp, 1)) (hd2 : decode bytes (pc + 1) = .ok (.ifCond .ne o, 3)) (hp : pc + 4 = pc') (c1 : x = y) (k : F T (mkF m pc' L rest)) : F T (mkF m pc L (.long y :: .long x :: rest)) :=
  E_lcmp cx st hd rfl (E_if_neN cx st hd2 hp ((lw_eq x y).mpr c1) k)
theorem E_ifnullY (cx : Cx l Z n0 p e R s m args below meth c bytes ml own name rt Q F S) (st : S kc ks T h) {o : Int} (hd : decode bytes pc = .ok (.ifnull o, 3)) (ho : 0 ≤ (pc : Int) + o) (hp : ((pc : Int) + o).toNat = pc') (k : F T (mkF m pc' L rest)) : F T (mkF m pc L (.null :: rest)) :=
  cx.step (fun _ q => XS.ifnullYes (cx.at st) cx.1.1 rfl (pc0 := pc) rfl (cx.dec hd) rfl ho hp q) k
theorem E_ifnullN (cx : Cx l Z n0 p e R s m args below meth c bytes ml own name rt Q F S) (st : S kc ks T h) {b : Addr} {o : Int} (hd : decode bytes pc = .ok (.ifnull o, 3)) (hp : pc + 3 = pc') (k : F T (mkF m pc' L rest)) : F T (mkF m pc L (.ref b :: rest)) := by
  subst hp; exact cx.step (fun _ q => XS.ifnullNo (cx.at st) cx.1.1 rfl (cx.dec hd) rfl q) k
theorem E_ifnonnullY (cx : Cx l Z n0 p e R s m args below meth c bytes ml own name rt Q F S) (st : S kc ks T h) {b : Addr} {o : Int} (hd : decode bytes pc = .ok (.ifnonnull o, 3)) (ho : 0 ≤ (pc : Int) + o) (hp : ((pc : Int) + o).toNat = pc') (k : F T (mkF m pc' L rest)) : F T (mkF m pc L (.ref b :: rest)) :=
  cx.step (fun _ q => XS.ifnonnullYes (cx.at st) cx.1.1 rfl (pc0 := pc) rfl (cx.dec hd) rfl ho hp q) k
theorem E_ifnonnullN (cx : Cx l Z n0 p e R s m args below meth c bytes ml own name rt Q F S) (st : S kc ks T h) {o : Int} (hd : decode bytes pc = .ok (.ifnonnull o, 3)) (hp : pc + 3 = pc') (k : F T (mkF m pc' L rest)) : F T (mkF m pc L (.null :: rest)) := by
  subst hp; exact cx.step (fun _ q => XS.ifnonnullNo (cx.at st) cx.1.1 rfl (cx.dec hd) rfl q) k
theorem E_dup2 (cx : Cx l Z n0 p e R s m args below meth c bytes ml own name rt Q F S) (st : S kc ks T h) {x y : Value} (hd : decode bytes pc = .ok (.dup2, 1)) (hc : x.category = 1) (hc2 : y.category = 1) (hp : pc + 1 = pc') (k : F T (mkF m pc' L (x :: y :: x :: y :: rest))) : F T (mkF m pc L (x :: y :: rest)) := by
  subst hp; exact cx.step (fun _ q => Jvm.Free.XT.dup2 (cx.at st) cx.1.1 rfl (cx.dec hd) rfl hc hc2 q) k
theorem E_dup2L (cx : Cx l Z n0 p e R s m args below meth c bytes ml own name rt Q F S) (st : S kc ks T h) {x : Int64} (hd : decode bytes pc = .ok (.dup2, 1)) (hp : pc + 1 = pc') (k : F T (mkF m pc' L (.long x :: .long x :: rest))) : F T (mkF m pc L (.long x :: rest)) := by
  subst hp; exact cx.step (fun _ q => Jvm.Free.XT.dup2L (cx.at st) cx.1.1 rfl (cx.dec hd) rfl q) k
theorem E_ldc (cx : Cx l Z n0 p e R s m args below meth c bytes ml own name rt Q F S) (st : S kc ks T h) {i : Nat} {v : Int32} (w : (Jvm.Cond.constant own i v).before a0 Z = true) (hd : decode bytes pc = .ok (.ldc i, 2)) (hp : pc + 2 = pc') (k : F T (mkF m pc' L (.int v :: rest))) : F T (mkF m pc L rest) := by
  subst hp
  obtain ⟨_, _, _, X, -⟩ := cx.open st
  exact cx.step (fun t q => X.ldcInt cx.1.1 cx.2.1.1 (mvT cx.1.2.1 w) (g := mkF m pc L rest) rfl (cx.dec hd) t q) k
theorem E_ldc_w (cx : Cx l Z n0 p e R s m args below meth c bytes ml own name rt Q F S) (st : S kc ks T h) {i : Nat} {v : Int32} (w : (Jvm.Cond.constant own i v).before a0 Z = true) (hd : decode bytes pc = .ok (.ldc_w i, 3)) (hp : pc + 3 = pc') (k : F T (mkF m pc' L (.int v :: rest))) : F T (mkF m pc L rest) := by
  subst hp
  obtain ⟨_, _, _, X, -⟩ := cx.open st
  exact cx.step (fun t q => X.ldcwInt cx.1.1 cx.2.1.1 (mvT cx.1.2.1 w) (g := mkF m pc L rest) rfl (cx.dec hd) t q) k
theorem E_ldc2_w (cx : Cx l Z n0 p e R s m args below meth c bytes ml own name rt Q F S) (st : S kc ks T h) {i : Nat} {v : Int64} (w : (Jvm.Cond.constantLong own i v).before a0 Z = true) (hd : decode bytes pc = .ok (.ldc2_w i, 3)) (hp : pc + 3 = pc') (k : F T (mkF m pc' L (.long v :: rest))) : F T (mkF m pc L rest) := by
  subst hp
  obtain ⟨_, _, _, X, -⟩ := cx.open st
  exact cx.step (fun t q => X.ldc2Long cx.1.1 cx.2.1.1 (mvT cx.1.2.1 w) (g := mkF m pc L rest) rfl (cx.dec hd) t q) k
theorem E_ireturn (cx : Cx l Z n0 p e R s m args below meth c bytes ml own name rt Q F S) (st : S kc ks T h) {x : Int32} {t : FieldType} (hd : decode bytes pc = .ok (.ireturn, 1)) (hrt : rt = some t) (ht : t = .int ∨ t = .boolean ∨ t = .byte ∨ t = .char ∨ t = .short) (hn : narrow t (.int x) = .int x) (hk : kc ≤ R.cells) (hs : ks ≤ R.slots) (hQ : Q (some (.int x)) h) : F T (mkF m pc L (.int x :: rest)) :=
  cx.fin st (fun q => by rw [hrt] at q; cases q) hk hs (fun fs _ _ _ X hr => retOut X cx.1.1 (cx.2.1.2.2.1.trans hrt) hn (Or.inl ⟨rfl, ht, x, rfl⟩) (cx.dec hd) hr) hQ
theorem E_lreturn (cx : Cx l Z n0 p e R s m args below meth c bytes ml own name rt Q F S) (st : S kc ks T h) {x : Int64} (hd : decode bytes pc = .ok (.lreturn, 1)) (hrt : rt = some .long) (hk : kc ≤ R.cells) (hs : ks ≤ R.slots) (hQ : Q (some (.long x)) h) : F T (mkF m pc L (.long x :: rest)) :=
  cx.fin st (fun q => by rw [hrt] at q; cases q) hk hs (fun fs _ _ _ X hr => retOut X cx.1.1 (cx.2.1.2.2.1.trans hrt) rfl (Or.inr (Or.inl ⟨rfl, rfl, x, rfl⟩)) (cx.dec hd) hr) hQ
theorem E_areturn (cx : Cx l Z n0 p e R s m args below meth c bytes ml own name rt Q F S) (st : S kc ks T h) {x : Value} {t : FieldType} (hd : decode bytes pc = .ok (.areturn, 1)) (hrt : rt = some t) (ht : t.isReference = true) (hn : narrow t x = x) (hx : x.isRef = true) (hk : kc ≤ R.cells) (hs : ks ≤ R.slots) (hQ : Q (some x) h) : F T (mkF m pc L (x :: rest)) :=
  cx.fin st (fun q => by rw [hrt] at q; cases q) hk hs (fun fs _ _ _ X hr => retOut X cx.1.1 (cx.2.1.2.2.1.trans hrt) hn (Or.inr (Or.inr (Or.inr (Or.inr ⟨rfl, ht, hx⟩)))) (cx.dec hd) hr) hQ
theorem E_return (cx : Cx l Z n0 p e R s m args below meth c bytes ml own name rt Q F S) (st : S kc ks T h) (hd : decode bytes pc = .ok (.return_, 1)) (hrt : rt = none) (hk : kc ≤ R.cells) (hs : ks ≤ R.slots) (hQ : Q none h) : F T (mkF m pc L []) :=
  cx.fin st (fun _ => rfl) hk hs (fun fs _ _ _ X hr => X.returnOut cx.1.1 (cx.2.1.2.2.1.trans hrt) (cx.dec hd) hr) hQ
theorem narrow01 {x : Int32} (q : x = 0 ∨ x = 1) : narrow .boolean (.int x) = .int x := by rcases q with rfl | rfl <;> rfl
theorem E_callS (cx : Cx l Z n0 p e R s m args below meth c bytes ml own name rt Q F S) (st : S kc ks T h) {y : MethodName} {bytes' : ByteArray} {ml' : Nat} {rt' : Option FieldType} {rm : Room} {argsL : List Value} {Q' : Option Value → Heap → Prop} {idx W : Nat} {stk : List Value} (rest : List Value)
    (K : Con l Z y bytes' ml' rt' rm argsL.toArray h n0 Q') (w1 : (Jvm.Cond.methodLink own idx y).before a0 Z = true) (w2 : (Jvm.Cond.static y).before a0 Z = true) (w3 : (Jvm.Cond.initialized y.cls).before a0 Z = true) (w4 : (Jvm.Cond.code y bytes' ml' rt').before a0 Z = true)
    (hd : decode bytes pc = .ok (.invokestatic idx, 3)) (hstk : stk = argsL.reverse ++ rest) (hL : L.size = ml) (hlen : ∀ sig, parseMethodDescriptor y.desc = some sig → argsL.length = sig.parameters.length) (hW : (rest.map fun v => v.category).sum ≤ W)
    (hy : y.cls ≠ "java/lang/invoke/MethodHandle" ∧ y.cls ≠ "java/lang/invoke/VarHandle") (hf : rm.frames + 1 ≤ R.frames) (hlo : W + (ml' + 11) + rm.locals ≤ R.locals) (hc : kc + rm.cells ≤ kc') (hs : ks + rm.slots ≤ ks') (hc' : kc' ≤ R.cells) (hs' : ks' ≤ R.slots) (hp : pc + 3 = pc')
    (k : ∀ v T' h', S kc' ks' T' h' → Q' v h' → F T' (mkF m pc' L (v.toList ++ rest))) : F T (mkF m pc L stk) := by
  subst hp
  obtain ⟨locs, cells, slots, X, q1, q2, q3, q4⟩ := cx.open st
  have hZ := cx.1.2.1
  obtain ⟨v, _, ⟨T₁, L₁, k₁, n₁⟩, -, X₁, ⟨Lc, hQ, e1, e2, e3⟩, stp⟩ := Jvm.LawKit.callS X cx.1.1 (y := y) cx.2.1.1 (mvT hZ w1) (mvT hZ w2) (mvT hZ w3) (mvT hZ w4) hy (backOf (W := W) (Q := fun v h L => Fr n0 L ∧ Q' v h) (K []) hZ w4 w3 hf hlo) (g := mkF m pc L stk) rfl (hL.trans cx.1.2.2.2.symm) (argsL := argsL) (rest := rest) hlen hstk (by show 2 * 0 + _ ≤ _; omega) (cx.dec hd) (fun _ _ => ⟨rfl, q1, by dsimp only [Pt.cells]; omega, by dsimp only [Pt.slots]; omega⟩)
  dsimp only [Pt.U, Pt.locs, Pt.cells, Pt.slots] at X₁ e1 e2 e3 stp hQ
  subst e1 e2 e3
  refine cx.step stp (k v T₁ T₁.heap ?_ hQ.2)
  obtain ⟨-, -, -, rfl⟩ := cx
  exact ⟨_, _, _, X₁, rfl, Fr.app q2 hQ.1, by omega, by omega⟩

theorem E_newP (cx : Cx l Z n0 p e R s m args below meth c bytes ml own name rt Q F S) (st : S kc ks T h) {aty : ArrayType} {n : Int32} {cap : Nat} (w : (Jvm.Cond.arrayClass (newarray.typeOf aty)).before a0 Z = true) (hd : decode bytes pc = .ok (.newarray aty, 2)) (hn : ¬ n < 0) (hcap : n.toNatClampNeg ≤ cap) (hb : cap * 8 ≤ 536870912) (hc : kc + 1 ≤ kc') (hs : ks + cap ≤ ks') (hc' : kc' ≤ R.cells) (hs' : ks' ≤ R.slots) (hp : pc + 2 = pc') {ad : String} (had : "[" ++ (newarray.typeOf aty).toString = ad)
    (k : ∀ T' h' cA a, a = h.size → S kc' ks' T' h' → Ext h h' → Arv Z h' a cA (newarray.typeOf aty) n [] (defaultValue (newarray.typeOf aty)) → Exa Z h' a ad → F T' (mkF m pc' L (.ref a :: rest))) : F T (mkF m pc L (.int n :: rest)) := by
  subst hp
  obtain ⟨locs, cells, slots, X, q1, q2, q3, q4⟩ := cx.open st
  obtain ⟨T', h', cA, X', e', E, A, E2, stp⟩ := newPE X cx.1.1 cx.1.2.1 w q1 (g := mkF m pc L (.int n :: rest)) rfl (cx.dec hd) rfl hn (cap := cap) hcap hb (by omega) (by omega) had
  refine cx.step stp (k T' h' cA h.size rfl ?_ E (Arv.new A hn) E2)
  obtain ⟨-, -, -, rfl⟩ := cx
  exact ⟨_, _, _, X', e', q2, by omega, by omega⟩
theorem getD_int (xs : List Int32) (k : Nat) (d : Int32) : (xs.map Value.int).getD k (.int d) = .int (xs.getD k d) := by
  simp only [List.getD_eq_getElem?_getD, List.getElem?_map]
  cases xs[k]? <;> rfl
theorem getD_long (xs : List Int64) (k : Nat) (d : Int64) : (xs.map Value.long).getD k (.long d) = .long (xs.getD k d) := by
  simp only [List.getD_eq_getElem?_getD, List.getElem?_map]
  cases xs[k]? <;> rfl
theorem i32_small {i : Int32} {n : Nat} (h : ¬ i < 0 ∧ i < Int32.ofNat n) (hn : n < 2147483648) : i.toNatClampNeg < n ∧ i = Int32.ofNat i.toNatClampNeg := by
  obtain ⟨h1, h2⟩ := h
  have e1 := rng32 i
  rw [Int32.lt_iff_toInt_lt] at h1 h2
  have k1 : (0 : Int32).toInt = 0 := rfl
  have k2 : (Int32.ofNat n).toInt = n := Int32.toInt_ofNat_of_lt hn
  rw [k1] at h1; rw [k2] at h2
  have e2 : i.toNatClampNeg = i.toInt.toNat := rfl
  refine ⟨by omega, ?_⟩
  apply Int32.toInt_inj.mp
  rw [Int32.toInt_ofNat_of_lt (by omega)]; omega
theorem i32_rem (k : Int32) (n : Nat) (hk : 0 ≤ k.toInt) (h0 : 0 < n) (hn : n < 2147483648) : ¬ (k % Int32.ofNat n) < 0 ∧ (k % Int32.ofNat n) < Int32.ofNat n := by
  have k2 : (Int32.ofNat n).toInt = n := Int32.toInt_ofNat_of_lt hn
  have r := (c_irem k (Int32.ofNat n) n k2).1 hk
  have q1 := Int.emod_nonneg k.toInt (by omega : (n : Int) ≠ 0)
  have q2 := Int.emod_lt_of_pos k.toInt (by omega : (0 : Int) < n)
  have k1 : (0 : Int32).toInt = 0 := rfl
  rw [Int32.lt_iff_toInt_lt, Int32.lt_iff_toInt_lt, k1, k2, r]
  omega
theorem i32_succ {w : Int32} {n : Nat} (h : ¬ w < 0 ∧ w < Int32.ofNat n) (hn : n < 2147483647) : (¬ (w + 1) < 0 ∧ (w + 1) < Int32.ofNat (n + 1)) ∧ (w + 1).toNatClampNeg = w.toNatClampNeg + 1 := by
  obtain ⟨h1, h2⟩ := h
  have e1 := rng32 w
  rw [Int32.lt_iff_toInt_lt] at h1 h2
  have k1 : (0 : Int32).toInt = 0 := rfl
  have k3 : (1 : Int32).toInt = 1 := rfl
  have k2 : (Int32.ofNat n).toInt = n := Int32.toInt_ofNat_of_lt (by omega)
  have k4 : (Int32.ofNat (n + 1)).toInt = ((n + 1 : Nat) : Int) := Int32.toInt_ofNat_of_lt (by omega)
  rw [k1] at h1; rw [k2] at h2
  have e : (w + 1).toInt = w.toInt + 1 := by
    rw [Jvm.Free.XT.add32, k3]; rw [k3]; exact ⟨by omega, by omega⟩
  refine ⟨?_, ?_⟩
  · rw [Int32.lt_iff_toInt_lt, Int32.lt_iff_toInt_lt, k1, k4, e]; omega
  · show (w + 1).toInt.toNat = w.toInt.toNat + 1
    rw [e]; omega
theorem idx_of {n j : Int32} (h1 : ¬ j < 0) (h2 : j < n) : ¬ j < 0 ∧ j < n := ⟨h1, h2⟩
theorem E_iaload (cx : Cx l Z n0 p e R s m args below meth c bytes ml own name rt Q F S) (st : S kc ks T h) {a : Addr} {kA : ClassId} {n j x : Int32} {vs : List Value} {dv : Value} (V : Arv Z h a kA .int n vs dv) (hj : ¬ j < 0 ∧ j < n) (hv : vs.getD j.toNatClampNeg dv = .int x) (hd : decode bytes pc = .ok (.iaload, 1)) (hp : pc + 1 = pc') (k : F T (mkF m pc' L (.int x :: rest))) : F T (mkF m pc L (.int j :: .ref a :: rest)) := by
  subst hp
  obtain ⟨_, _, _, X, q1, -⟩ := cx.open st
  obtain ⟨cl, A, -, S1, N1, H1, G1⟩ := V
  have hin := inb_of S1 hj
  exact cx.step (fun t q => X.iaload cx.1.1 (j := j) (v := .int x) (by rw [q1]; exact A.1) (State.isArrayOf_alike cx.1.2.1.alike A.2.1) A.2.2 hin (H1.at hin hv) (g := mkF m pc L (.int j :: .ref a :: rest)) rfl rfl (cx.dec hd) t q) k
theorem E_laload (cx : Cx l Z n0 p e R s m args below meth c bytes ml own name rt Q F S) (st : S kc ks T h) {a : Addr} {kA : ClassId} {n j : Int32} {x : Int64} {vs : List Value} {dv : Value} (V : Arv Z h a kA .long n vs dv) (hj : ¬ j < 0 ∧ j < n) (hv : vs.getD j.toNatClampNeg dv = .long x) (hd : decode bytes pc = .ok (.laload, 1)) (hp : pc + 1 = pc') (k : F T (mkF m pc' L (.long x :: rest))) : F T (mkF m pc L (.int j :: .ref a :: rest)) := by
  subst hp
  obtain ⟨_, _, _, X, q1, -⟩ := cx.open st
  obtain ⟨cl, A, -, S1, N1, H1, G1⟩ := V
  have hin := inb_of S1 hj
  exact cx.step (fun t q => X.laload cx.1.1 (j := j) (v := .long x) (by rw [q1]; exact A.1) (State.isArrayOf_alike cx.1.2.1.alike A.2.1) A.2.2 hin (H1.at hin hv) (g := mkF m pc L (.int j :: .ref a :: rest)) rfl rfl (cx.dec hd) t q) k
theorem E_iastore (cx : Cx l Z n0 p e R s m args below meth c bytes ml own name rt Q F S) (st : S kc ks T h) {a : Addr} {kA : ClassId} {n j x : Int32} {vs : List Value} {dv : Value} {i : Nat} (V : Arv Z h a kA .int n vs dv) (hj : ¬ j < 0 ∧ j < n) (hi : j.toNatClampNeg = i) (hlt : i < vs.length) (g : n0 ≤ a) (hd : decode bytes pc = .ok (.iastore, 1)) (hp : pc + 1 = pc')
    (k : ∀ T' h', S kc ks T' h' → Wr h h' a i (.int x) → Arv Z h' a kA .int n (vs.set i (.int x)) dv → F T' (mkF m pc' L rest)) : F T (mkF m pc L (.int x :: .int j :: .ref a :: rest)) := by
  subst hp hi
  obtain ⟨_, _, _, X, q1, q2, q3, q4⟩ := cx.open st
  obtain ⟨cl, A, e1, S1, N1, H1, G1⟩ := V
  obtain ⟨T', h', X', e', W, stp⟩ := Jvm.RoadKit.stI X cx.1.1 cx.1.2.1 q1 A (j := j) (x := x) (inb_of S1 hj) (g := mkF m pc L (.int x :: .int j :: .ref a :: rest)) rfl rfl (cx.dec hd)
  refine cx.step stp (k T' h' ?_ W (Arv.set A e1 S1 N1 H1 G1 rfl W _ rfl hlt))
  obtain ⟨-, -, -, rfl⟩ := cx
  exact ⟨_, _, _, X', e', Fr.snoc X' q2 g, q3, q4⟩
theorem E_lastore (cx : Cx l Z n0 p e R s m args below meth c bytes ml own name rt Q F S) (st : S kc ks T h) {a : Addr} {kA : ClassId} {n j : Int32} {x : Int64} {vs : List Value} {dv : Value} {i : Nat} (V : Arv Z h a kA .long n vs dv) (hj : ¬ j < 0 ∧ j < n) (hi : j.toNatClampNeg = i) (hlt : i < vs.length) (g : n0 ≤ a) (hd : decode bytes pc = .ok (.lastore, 1)) (hp : pc + 1 = pc')
    (k : ∀ T' h', S kc ks T' h' → Wr h h' a i (.long x) → Arv Z h' a kA .long n (vs.set i (.long x)) dv → F T' (mkF m pc' L rest)) : F T (mkF m pc L (.long x :: .int j :: .ref a :: rest)) := by
  subst hp hi
  obtain ⟨_, _, _, X, q1, q2, q3, q4⟩ := cx.open st
  obtain ⟨cl, A, e1, S1, N1, H1, G1⟩ := V
  obtain ⟨T', h', X', e', W, stp⟩ := Jvm.RoadKit.stJ X cx.1.1 cx.1.2.1 q1 A (j := j) (x := x) (inb_of S1 hj) (g := mkF m pc L (.long x :: .int j :: .ref a :: rest)) rfl rfl (cx.dec hd)
  refine cx.step stp (k T' h' ?_ W (Arv.set A e1 S1 N1 H1 G1 rfl W _ rfl hlt))
  obtain ⟨-, -, -, rfl⟩ := cx
  exact ⟨_, _, _, X', e', Fr.snoc X' q2 g, q3, q4⟩
theorem E_arraylength (cx : Cx l Z n0 p e R s m args below meth c bytes ml own name rt Q F S) (st : S kc ks T h) {a : Addr} {kA : ClassId} {n : Int32} {ty : FieldType} {vs : List Value} {dv : Value} (V : Arv Z h a kA ty n vs dv) (hd : decode bytes pc = .ok (.arraylength, 1)) (hp : pc + 1 = pc') (k : F T (mkF m pc' L (.int n :: rest))) : F T (mkF m pc L (.ref a :: rest)) := by
  subst hp
  obtain ⟨_, _, _, X, q1, -⟩ := cx.open st
  obtain ⟨cl, A, -, S1, N1, H1, G1⟩ := V
  refine cx.step (fun t q => X.arraylength cx.1.1 (by rw [q1]; exact A.1) (State.isArrayOf_alike cx.1.2.1.alike A.2.1) (g := mkF m pc L (.ref a :: rest)) rfl rfl (cx.dec hd) t ?_) k
  rw [len_of S1 N1]; exact q

theorem E_new (cx : Cx l Z n0 p e R s m args below meth c bytes ml own name rt Q F S) (st : S kc ks T h) {C : String} {idx n : Nat} (w1 : (Jvm.Cond.classLink own idx C).before a0 Z = true) (w2 : (Jvm.Cond.instantiable C n).before a0 Z = true) (w3 : (Jvm.Cond.initialized C).before a0 Z = true) (hd : decode bytes pc = .ok (.new idx, 3)) (hc : kc + 1 ≤ kc') (hs : ks + n ≤ ks') (hc' : kc' ≤ R.cells) (hs' : ks' ≤ R.slots) (hp : pc + 3 = pc')
    (k : ∀ T' h' a, a = h.size → S kc' ks' T' h' → Ext h h' → Exa Z h' a C → (∀ {O nm d : String} {ty : FieldType}, Laid Z a0 C O nm d → parseFieldDescriptor d = some ty → Fld Z h' a O nm d (defaultValue ty)) → F T' (mkF m pc' L (.ref a :: rest))) : F T (mkF m pc L rest) := by
  subst hp
  obtain ⟨locs, cells, slots, X, q1, q2, q3, q4⟩ := cx.open st
  obtain ⟨T', h', X', e', E, A, D, -, stp⟩ := newO X cx.1.1 cx.1.2.1 cx.2.1.1 w1 w2 w3 q1 (g := mkF m pc L rest) rfl (cx.dec hd) (by omega) (by omega)
  refine cx.step stp (k T' h' h.size rfl ?_ E A D)
  obtain ⟨-, -, -, rfl⟩ := cx
  exact ⟨_, _, _, X', e', q2, by omega, by omega⟩
theorem E_initO (cx : Cx l Z n0 p e R s m args below meth c bytes ml own name rt Q F S) (st : S kc ks T h) {a : Addr} {idx W : Nat} (w1 : (Jvm.Cond.methodLink own idx Lib.objectInit).before a0 Z = true) (w2 : (Jvm.Cond.instanceMethod Lib.objectInit).before a0 Z = true) (w3 : (Jvm.Cond.code Lib.objectInit ⟨#[0xb1]⟩ 1 none).before a0 Z = true) (hd : decode bytes pc = .ok (.invokespecial idx, 3)) (hL : L.size = ml) (hf : 1 ≤ R.frames) (hW : (rest.map fun v => v.category).sum ≤ W) (hl : W + 12 ≤ R.locals) (hp : pc + 3 = pc')
    (k : ∀ T', S kc ks T' h → F T' (mkF m pc' L rest)) : F T (mkF m pc L (.ref a :: rest)) := by
  subst hp
  obtain ⟨locs, cells, slots, X, q1, q2, q3, q4⟩ := cx.open st
  obtain ⟨T', X', e', stp⟩ := initO X cx.1.1 cx.1.2.1 cx.2.1.1 w1 w2 w3 q1 (g := mkF m pc L (.ref a :: rest)) rfl (hL.trans cx.1.2.2.2.symm) rfl (cx.dec hd) hf (W := W) (by show 2 * 0 + _ ≤ _; omega) hl
  refine cx.step stp (k T' ?_)
  obtain ⟨-, -, -, rfl⟩ := cx
  exact ⟨_, _, _, X', e', q2, q3, q4⟩
theorem E_getfield (cx : Cx l Z n0 p e R s m args below meth c bytes ml own name rt Q F S) (st : S kc ks T h) {a : Addr} {v : Value} {C n d : String} {idx : Nat} (w : (Jvm.Cond.fieldLink own idx C n d).before a0 Z = true) (G : Fld Z h a C n d v) (hd : decode bytes pc = .ok (.getfield idx, 3)) (hp : pc + 3 = pc')
    (k : ∀ T', S kc ks T' h → F T' (mkF m pc' L (v :: rest))) : F T (mkF m pc L (.ref a :: rest)) := by
  subst hp
  obtain ⟨locs, cells, slots, X, q1, q2, q3, q4⟩ := cx.open st
  obtain ⟨T', X', e', stp⟩ := getF X cx.1.1 cx.1.2.1 cx.2.1.1 (host := "") (Or.inl w) Via.refl q1 G (g := mkF m pc L (.ref a :: rest)) rfl rfl (cx.dec hd)
  refine cx.step stp (k T' ?_)
  obtain ⟨-, -, -, rfl⟩ := cx
  exact ⟨_, _, _, X', e', q2, q3, q4⟩
theorem E_putfield (cx : Cx l Z n0 p e R s m args below meth c bytes ml own name rt Q F S) (st : S kc ks T h) {a : Addr} {v old : Value} {C O n d : String} {idx kk : Nat} {ty : FieldType} (w : (Jvm.Cond.fieldLink own idx O n d).before a0 Z = true) (G : Fld Z h a O n d old) (E : Exa Z h a C) (La : (Jvm.Cond.lays C O n d).before a0 Z = true ∨ ((Jvm.Cond.laysFinal C O n d).before a0 Z = true ∧ own = O ∧ name = "<init>")) (wi : (Jvm.Cond.instantiable C kk).before a0 Z = true)
    (hty : parseFieldDescriptor d = some ty) (hn : narrow ty v = v) (hf : fits ty v = true) (ga : n0 ≤ a) (hd : decode bytes pc = .ok (.putfield idx, 3)) (hp : pc + 3 = pc')
    (k : ∀ T' h', S kc ks T' h' → Wr h h' a (Jvm.RoadKit.slotOf Z O n d) v → F T' (mkF m pc' L rest)) : F T (mkF m pc L (v :: .ref a :: rest)) := by
  subst hp
  obtain ⟨locs, cells, slots, X, q1, q2, q3, q4⟩ := cx.open st
  obtain ⟨T', h', X', e', W, stp⟩ := putF X cx.1.1 cx.1.2.1 cx.2.1.1 (host := "") (Or.inl w) Via.refl q1 G E (La.imp id fun z => ⟨z.1, z.2.1, cx.2.1.2.1.trans z.2.2⟩) wi hty hn hf (g := mkF m pc L (v :: .ref a :: rest)) rfl rfl (cx.dec hd)
  refine cx.step stp (k T' h' ?_ W)
  obtain ⟨-, -, -, rfl⟩ := cx
  exact ⟨_, _, _, X', e', Fr.snoc X' q2 ga, q3, q4⟩
theorem E_callI (cx : Cx l Z n0 p e R s m args below meth c bytes ml own name rt Q F S) (st : S kc ks T h) {y : MethodName} {bytes' : ByteArray} {ml' : Nat} {rm : Room} {a : Addr} {argsL : List Value} {Q' : Option Value → Heap → Prop} {idx W : Nat} {stk : List Value} (rest : List Value)
    (K : Con l Z y bytes' ml' none rm (.ref a :: argsL).toArray h n0 Q') (hy1 : y.name = "<init>") (w1 : (Jvm.Cond.methodLink own idx y).before a0 Z = true) (w2 : (Jvm.Cond.instanceMethod y).before a0 Z = true) (w3 : (Jvm.Cond.initialized y.cls).before a0 Z = true) (w4 : (Jvm.Cond.code y bytes' ml' none).before a0 Z = true)
    (hd : decode bytes pc = .ok (.invokespecial idx, 3)) (hstk : stk = argsL.reverse ++ .ref a :: rest) (hL : L.size = ml) (hlen : ∀ sig, parseMethodDescriptor y.desc = some sig → argsL.length = sig.parameters.length) (hW : (rest.map fun v => v.category).sum ≤ W)
    (hy : y.cls ≠ "java/lang/invoke/MethodHandle" ∧ y.cls ≠ "java/lang/invoke/VarHandle") (hf : rm.frames + 1 ≤ R.frames) (hlo : W + (ml' + 11) + rm.locals ≤ R.locals) (hc : kc + rm.cells ≤ kc') (hs : ks + rm.slots ≤ ks') (hc' : kc' ≤ R.cells) (hs' : ks' ≤ R.slots) (hp : pc + 3 = pc')
    (k : ∀ v T' h', S kc' ks' T' h' → Q' v h' → F T' (mkF m pc' L (v.toList ++ rest))) : F T (mkF m pc L stk) := by
  subst hp
  obtain ⟨locs, cells, slots, X, q1, q2, q3, q4⟩ := cx.open st
  have hZ := cx.1.2.1
  obtain ⟨v, _, ⟨T₁, L₁, k₁, n₁⟩, -, X₁, ⟨Lc, hQ, e1, e2, e3⟩, stp⟩ := X.specialBack cx.1.1 (y := y) hy1 cx.2.1.1 (mvT hZ w1) (mvT hZ w2) (mvT hZ w4) hy (backOf (W := W) (Q := fun v h L => Fr n0 L ∧ Q' v h) (K []) hZ w4 w3 hf hlo) (g := mkF m pc L stk) rfl (hL.trans cx.1.2.2.2.symm) (Steps.refl _) (a := a) (argsL := argsL) (rest := rest) hlen hstk (by show 2 * 0 + _ ≤ _; omega) (cx.dec hd) (fun _ _ => ⟨rfl, q1, by dsimp only [Pt.cells]; omega, by dsimp only [Pt.slots]; omega⟩)
  dsimp only [Pt.U, Pt.locs, Pt.cells, Pt.slots] at X₁ e1 e2 e3 stp hQ
  subst e1 e2 e3
  refine cx.step (fun _ q => stp.trans q) (k v T₁ T₁.heap ?_ hQ.2)
  obtain ⟨-, -, -, rfl⟩ := cx
  exact ⟨_, _, _, X₁, rfl, Fr.app q2 hQ.1, by omega, by omega⟩
theorem E_callV (cx : Cx l Z n0 p e R s m args below meth c bytes ml own name rt Q F S) (st : S kc ks T h) {y : MethodName} {bytes' : ByteArray} {ml' : Nat} {rt' : Option FieldType} {rm : Room} {a : Addr} {argsL : List Value} {Q' : Option Value → Heap → Prop} {idx W : Nat} {stk : List Value} (rest : List Value)
    (K : Con l Z y bytes' ml' rt' rm (.ref a :: argsL).toArray h n0 Q') (E : Exa Z h a y.cls) (w1 : (Jvm.Cond.methodLink own idx y).before a0 Z = true) (w5 : (Jvm.Cond.declares y).before a0 Z = true) (w6 : (Jvm.Cond.selects y.cls y y).before a0 Z = true) (w2 : (Jvm.Cond.instanceMethod y).before a0 Z = true) (w3 : (Jvm.Cond.initialized y.cls).before a0 Z = true) (w4 : (Jvm.Cond.code y bytes' ml' rt').before a0 Z = true)
    (hd : decode bytes pc = .ok (.invokevirtual idx, 3)) (hstk : stk = argsL.reverse ++ .ref a :: rest) (hL : L.size = ml) (hlen : ∀ sig, parseMethodDescriptor y.desc = some sig → argsL.length = sig.parameters.length) (hW : (rest.map fun v => v.category).sum ≤ W)
    (hy : y.cls ≠ "java/lang/invoke/MethodHandle" ∧ y.cls ≠ "java/lang/invoke/VarHandle") (hf : rm.frames + 1 ≤ R.frames) (hlo : W + (ml' + 11) + rm.locals ≤ R.locals) (hc : kc + rm.cells ≤ kc') (hs : ks + rm.slots ≤ ks') (hc' : kc' ≤ R.cells) (hs' : ks' ≤ R.slots) (hp : pc + 3 = pc')
    (k : ∀ v T' h', S kc' ks' T' h' → Q' v h' → F T' (mkF m pc' L (v.toList ++ rest))) : F T (mkF m pc L stk) := by
  subst hp
  obtain ⟨locs, cells, slots, X, q1, q2, q3, q4⟩ := cx.open st
  have hZ := cx.1.2.1
  obtain ⟨cq, kq, qa, qb, qc⟩ := isOf hZ q1 E
  obtain ⟨v, _, ⟨T₁, L₁, k₁, n₁⟩, -, X₁, ⟨Lc, hQ, e1, e2, e3⟩, stp⟩ := X.virtualBack cx.1.1 (y := y) (z := y) cx.2.1.1 (mvT hZ w1) (mvT hZ w5) (notFace_of_selects (args := #[]) (mvT hZ w6)) (mvT hZ w6) (mvT hZ w2) hy (backOf (W := W) (Q := fun v h L => Fr n0 L ∧ Q' v h) (K []) hZ w4 w3 hf hlo) qa qc (g := mkF m pc L stk) rfl (hL.trans cx.1.2.2.2.symm) (Steps.refl _) (argsL := argsL) (rest := rest) hlen hstk (by show 2 * 0 + _ ≤ _; omega) (cx.dec hd) (fun _ _ => ⟨rfl, q1, by dsimp only [Pt.cells]; omega, by dsimp only [Pt.slots]; omega⟩)
  dsimp only [Pt.U, Pt.locs, Pt.cells, Pt.slots] at X₁ e1 e2 e3 stp hQ
  subst e1 e2 e3
  refine cx.step (fun _ q => stp.trans q) (k v T₁ T₁.heap ?_ hQ.2)
  obtain ⟨-, -, -, rfl⟩ := cx
  exact ⟨_, _, _, X₁, rfl, Fr.app q2 hQ.1, by omega, by omega⟩
theorem E_callP (cx : Cx l Z n0 p e R s m args below meth c bytes ml own name rt Q F S) (st : S kc ks T h) {y : MethodName} {bytes' : ByteArray} {ml' : Nat} {rt' : Option FieldType} {rm : Room} {a : Addr} {argsL : List Value} {Q' : Option Value → Heap → Prop} {idx W : Nat} {stk : List Value} (rest : List Value)
    (K : Con l Z y bytes' ml' rt' rm (.ref a :: argsL).toArray h n0 Q') (E : Exa Z h a y.cls) (w1 : (Jvm.Cond.methodLink own idx y).before a0 Z = true) (w5 : (Jvm.Cond.privateMethod y).before a0 Z = true) (w6 : (Jvm.Cond.selects y.cls y y).before a0 Z = true) (w2 : (Jvm.Cond.instanceMethod y).before a0 Z = true) (w3 : (Jvm.Cond.initialized y.cls).before a0 Z = true) (w4 : (Jvm.Cond.code y bytes' ml' rt').before a0 Z = true)
    (hd : decode bytes pc = .ok (.invokevirtual idx, 3)) (hstk : stk = argsL.reverse ++ .ref a :: rest) (hL : L.size = ml) (hlen : ∀ sig, parseMethodDescriptor y.desc = some sig → argsL.length = sig.parameters.length) (hW : (rest.map fun v => v.category).sum ≤ W)
    (hy : y.cls ≠ "java/lang/invoke/MethodHandle" ∧ y.cls ≠ "java/lang/invoke/VarHandle") (hf : rm.frames + 1 ≤ R.frames) (hlo : W + (ml' + 11) + rm.locals ≤ R.locals) (hc : kc + rm.cells ≤ kc') (hs : ks + rm.slots ≤ ks') (hc' : kc' ≤ R.cells) (hs' : ks' ≤ R.slots) (hp : pc + 3 = pc')
    (k : ∀ v T' h', S kc' ks' T' h' → Q' v h' → F T' (mkF m pc' L (v.toList ++ rest))) : F T (mkF m pc L stk) := by
  subst hp
  obtain ⟨locs, cells, slots, X, q1, q2, q3, q4⟩ := cx.open st
  have hZ := cx.1.2.1
  obtain ⟨cq, qa, qb⟩ := E.cell
  obtain ⟨v, _, ⟨T₁, L₁, k₁, n₁⟩, -, X₁, ⟨Lc, hQ, e1, e2, e3⟩, stp⟩ := X.privateBack cx.1.1 (y := y) cx.2.1.1 (mvT hZ w1) (mvT hZ w2) (mvT hZ w6) (Cond.privateMethod_at (mvP hZ w5 (args := #[]))) (mvT hZ w4) hy (backOf (W := W) (Q := fun v h L => Fr n0 L ∧ Q' v h) (K []) hZ w4 w3 hf hlo) (g := mkF m pc L stk) rfl (hL.trans cx.1.2.2.2.symm) (Steps.refl _) (a := a) (by rw [q1]; exact qa) qb (argsL := argsL) (rest := rest) hlen hstk (by show 2 * 0 + _ ≤ _; omega) (cx.dec hd) (fun _ _ => ⟨rfl, q1, by dsimp only [Pt.cells]; omega, by dsimp only [Pt.slots]; omega⟩)
  dsimp only [Pt.U, Pt.locs, Pt.cells, Pt.slots] at X₁ e1 e2 e3 stp hQ
  subst e1 e2 e3
  refine cx.step (fun _ q => stp.trans q) (k v T₁ T₁.heap ?_ hQ.2)
  obtain ⟨-, -, -, rfl⟩ := cx
  exact ⟨_, _, _, X₁, rfl, Fr.app q2 hQ.1, by omega, by omega⟩
theorem E_clone (cx : Cx l Z n0 p e R s m args below meth c bytes ml own name rt Q F S) (st : S kc ks T h) {a : Addr} {ad : String} {idx W cap : Nat} {kA : ClassId} {z : Int32} {vs : List Value} {dv : Value} {ty : FieldType} (V : Arv Z h a kA ty z vs dv) (E : Exa Z h a ad)
    (w1 : (Jvm.Cond.methodLink own idx ⟨ad, "clone", "()Ljava/lang/Object;"⟩).before a0 Z = true) (w2 : (Jvm.Cond.sameMethod ad "java/lang/Object" "clone" "()Ljava/lang/Object;").before a0 Z = true) (w3 : (Jvm.Cond.native ⟨"java/lang/Object", "clone", "()Ljava/lang/Object;"⟩).before a0 Z = true)
    (w4 : (Jvm.Cond.instanceMethod ⟨"java/lang/Object", "clone", "()Ljava/lang/Object;"⟩).before a0 Z = true) (w5 : (Jvm.Cond.selects ad ⟨ad, "clone", "()Ljava/lang/Object;"⟩ ⟨"java/lang/Object", "clone", "()Ljava/lang/Object;"⟩).before a0 Z = true) (w6 : (Jvm.Cond.castable ad "java/lang/Cloneable").before a0 Z = true)
    (hd : decode bytes pc = .ok (.invokevirtual idx, 3)) (hL : L.size = ml) (hf : 1 ≤ R.frames) (hW : (rest.map fun v => v.category).sum ≤ W) (hlo : W + 14 ≤ R.locals) (hcap : z.toNatClampNeg ≤ cap) (hc : kc + 1 ≤ kc') (hs : ks + cap ≤ ks') (hc' : kc' ≤ R.cells) (hs' : ks' ≤ R.slots) (hp : pc + 3 = pc')
    (k : ∀ T' h' b, b = h.size → S kc' ks' T' h' → Ext h h' → Arv Z h' b kA ty z vs dv → Exa Z h' b ad → F T' (mkF m pc' L (.ref b :: rest))) : F T (mkF m pc L (.ref a :: rest)) := by
  subst hp
  obtain ⟨locs, cells, slots, X, q1, q2, q3, q4⟩ := cx.open st
  obtain ⟨cl, A, e1, S1, e3, H, G⟩ := V
  have FC : FitC Z cl := fitC_of A fun i hi v hv => by rw [H i hi] at hv; cases hv; exact G i hi
  obtain ⟨T', h', X', e', ex, A', E', stp⟩ := cloneA X cx.1.1 cx.1.2.1 cx.2.1.1 w1 w2 w3 w4 w5 w6 q1 A E FC (g := mkF m pc L (.ref a :: rest)) rfl (hL.trans cx.1.2.2.2.symm) rfl (cx.dec hd) hf (W := W) (cap := cap) (by show 2 * 0 + _ ≤ _; omega) hlo (by rw [S1]; exact hcap) (by omega) (by omega)
  refine cx.step stp (k T' h' h.size rfl ?_ ex ⟨cloneOf cl, A', e1, S1, e3, H, G⟩ E')
  obtain ⟨-, -, -, rfl⟩ := cx
  exact ⟨_, _, _, X', e', q2, by omega, by omega⟩
theorem E_checkcast (cx : Cx l Z n0 p e R s m args below meth c bytes ml own name rt Q F S) (st : S kc ks T h) {a : Addr} {C : String} {idx : Nat} (w : (Jvm.Cond.classLink own idx C).before a0 Z = true) (I : Ins Z h a C true) (hd : decode bytes pc = .ok (.checkcast idx, 3)) (hp : pc + 3 = pc')
    (k : ∀ T', S kc ks T' h → F T' (mkF m pc' L (.ref a :: rest))) : F T (mkF m pc L (.ref a :: rest)) := by
  subst hp
  obtain ⟨locs, cells, slots, X, q1, q2, q3, q4⟩ := cx.open st
  obtain ⟨T', X', e', stp⟩ := castY X cx.1.1 cx.1.2.1 cx.2.1.1 w q1 I (g := mkF m pc L (.ref a :: rest)) rfl rfl (cx.dec hd)
  refine cx.step stp (k T' ?_)
  obtain ⟨-, -, -, rfl⟩ := cx
  exact ⟨_, _, _, X', e', q2, q3, q4⟩
theorem E_aaload (cx : Cx l Z n0 p e R s m args below meth c bytes ml own name rt Q F S) (st : S kc ks T h) {a : Addr} {kA : ClassId} {n j : Int32} {ty : FieldType} {v : Value} {vs : List Value} {dv : Value} (V : Arv Z h a kA ty n vs dv) (hty : ty.isReference = true) (hj : ¬ j < 0 ∧ j < n) (hv : vs.getD j.toNatClampNeg dv = v) (hd : decode bytes pc = .ok (.aaload, 1)) (hp : pc + 1 = pc') (k : F T (mkF m pc' L (v :: rest))) : F T (mkF m pc L (.int j :: .ref a :: rest)) := by
  subst hp
  obtain ⟨_, _, _, X, q1, -⟩ := cx.open st
  obtain ⟨cl, A, -, S1, N1, H1, G1⟩ := V
  have hin := inb_of S1 hj
  exact cx.step (fun t q => X.aaload cx.1.1 (j := j) (v := v) (by rw [q1]; exact A.1) (State.isArrayOf_alike cx.1.2.1.alike A.2.1) hty A.2.2 hin (H1.at hin hv) (g := mkF m pc L (.int j :: .ref a :: rest)) rfl rfl (cx.dec hd) t q) k
theorem E_aastore (cx : Cx l Z n0 p e R s m args below meth c bytes ml own name rt Q F S) (st : S kc ks T h) {a : Addr} {kA : ClassId} {n j : Int32} {ty : FieldType} {v : Value} {vs : List Value} {dv : Value} {i : Nat} (V : Arv Z h a kA ty n vs dv) (hty : ty.isReference = true) (hst : Sto Z h a v) (hfv : fits ty v = true) (hj : ¬ j < 0 ∧ j < n) (hi : j.toNatClampNeg = i) (hlt : i < vs.length) (g : n0 ≤ a) (hd : decode bytes pc = .ok (.aastore, 1)) (hp : pc + 1 = pc')
    (k : ∀ T' h', S kc ks T' h' → Wr h h' a i v → Arv Z h' a kA ty n (vs.set i v) dv → F T' (mkF m pc' L rest)) : F T (mkF m pc L (v :: .int j :: .ref a :: rest)) := by
  subst hp hi
  obtain ⟨_, _, _, X, q1, q2, q3, q4⟩ := cx.open st
  obtain ⟨cl, A, e1, S1, N1, H1, G1⟩ := V
  obtain ⟨T', h', X', e', W, stp⟩ := Jvm.RoadKit.stR X cx.1.1 cx.1.2.1 q1 A (j := j) (inb_of S1 hj) hty hst (g := mkF m pc L (v :: .int j :: .ref a :: rest)) rfl rfl (cx.dec hd)
  refine cx.step stp (k T' h' ?_ W (Arv.set A e1 S1 N1 H1 G1 hfv W _ rfl hlt))
  obtain ⟨-, -, -, rfl⟩ := cx
  exact ⟨_, _, _, X', e', Fr.snoc X' q2 g, q3, q4⟩
theorem E_arraycopy (cx : Cx l Z n0 p e R s m args below meth c bytes ml own name rt Q F S) (st : S kc ks T h) {a b : Addr} {kA kB : ClassId} {ty : FieldType} {z z' sp dp nn : Int32} {vs vd us : List Value} {dv dd : Value} {idx W : Nat} (A : Arv Z h a kA ty z vs dv) (B : Arv Z h b kB ty z' vd dd) (hty : refKind ty = false)
    (w1 : (Jvm.Cond.methodLink own idx Jvm.Stand.acN).before a0 Z = true) (w2 : (Jvm.Cond.native Jvm.Stand.acN).before a0 Z = true) (w3 : (Jvm.Cond.static Jvm.Stand.acN).before a0 Z = true) (w4 : (Jvm.Cond.initialized "java/lang/System").before a0 Z = true)
    (h1 : ¬ sp < 0) (h2 : ¬ dp < 0) (h3 : ¬ nn < 0) (h4 : sp.toNatClampNeg + nn.toNatClampNeg ≤ z.toNatClampNeg) (h5 : dp.toNatClampNeg + nn.toNatClampNeg ≤ z'.toNatClampNeg) (hus : us = (List.range nn.toNatClampNeg).map fun i => vs.getD (sp.toNatClampNeg + i) dv) (hl : dp.toNatClampNeg + nn.toNatClampNeg ≤ vd.length) (ge : n0 ≤ b)
    (hd : decode bytes pc = .ok (.invokestatic idx, 3)) (hL : L.size = ml) (hf : 1 ≤ R.frames) (hW : (rest.map fun v => v.category).sum ≤ W) (hlo : W + (nativeFrameWords "java/lang/System" "arraycopy" 5 + 11) ≤ R.locals) (hp : pc + 3 = pc')
    (k : ∀ T' h', S kc ks T' h' → Keep h h' [b] → Arv Z h' b kB ty z' (vd.take dp.toNatClampNeg ++ us ++ vd.drop (dp.toNatClampNeg + nn.toNatClampNeg)) dd → F T' (mkF m pc' L rest)) : F T (mkF m pc L (.int nn :: .int dp :: .ref b :: .int sp :: .ref a :: rest)) := by
  subst hp
  obtain ⟨locs, cells, slots, X, q1, q2, q3, q4⟩ := cx.open st
  obtain ⟨T', h', L', X', e', N', K', B', stp⟩ := cpA X cx.1.1 cx.1.2.1 cx.2.1.1 w1 w2 w3 w4 q1 A B (Or.inl ⟨rfl, hty⟩) h1 h2 h3 h4 h5 hus hl q2 ge (g := mkF m pc L (.int nn :: .int dp :: .ref b :: .int sp :: .ref a :: rest)) rfl (hL.trans cx.1.2.2.2.symm) rfl (cx.dec hd) hf (W := W) (by show 2 * 0 + _ ≤ _; omega) hlo
  refine cx.step stp (k T' h' ?_ K' B')
  obtain ⟨-, -, -, rfl⟩ := cx
  exact ⟨_, _, _, X', e', N', q3, q4⟩
theorem E_grid (cx : Cx l Z n0 p e R s m args below meth c bytes ml own name rt Q F S) (st : S kc ks T h) {ty : FieldType} {C ad : String} {idx : Nat} {n j : Int32} {N cap : Nat} (hC : (FieldType.array ty).toString = C) (had : "[" ++ C = ad) (w1 : (Jvm.Cond.classLink own idx ad).before a0 Z = true) (w2 : (Jvm.Cond.arrayOver (.array ty)).before a0 Z = true) (w3 : (Jvm.Cond.arrayClass ty).before a0 Z = true) (hd : decode bytes pc = .ok (.multianewarray idx 2, 4))
    (hn : ¬ n < 0) (hj : ¬ j < 0) (hN : n.toNatClampNeg = N) (hcap : j.toNatClampNeg ≤ cap) (hb : cap * 8 ≤ 536870912) (hb1 : N ≤ 1000) (hdf : fits ty (defaultValue ty) = true) (hdd : (defaultValue ty).isDefault = true) (hc : kc + (1 + N) ≤ kc') (hs : ks + (N + N * cap) ≤ ks') (hc' : kc' ≤ R.cells) (hs' : ks' ≤ R.slots) (hp : pc + 4 = pc')
    (k : ∀ T' h' cA cB, S kc' ks' T' h' → Ext h h' → Arv Z h' h.size cA (.array ty) n (((List.range N).map fun i => h.size + 1 + i).map .ref) .null → (∀ i, i < N → Arv Z h' (h.size + 1 + i) cB ty j [] (defaultValue ty)) → F T' (mkF m pc' L (.ref h.size :: rest))) : F T (mkF m pc L (.int j :: .int n :: rest)) := by
  subst hp
  obtain ⟨locs, cells, slots, X, q1, q2, q3, q4⟩ := cx.open st
  obtain ⟨T', h', cA, cB, X', e', E, A, -, -, D, stp⟩ := gridM X cx.1.1 cx.1.2.1 cx.2.1.1 hC had w1 w2 w3 q1 (g := mkF m pc L (.int j :: .int n :: rest)) rfl (cx.dec hd) rfl hn hj hN rfl (cap := cap) hcap hb hb1 hdf hdd (by omega) (by omega)
  refine cx.step stp (k T' h' cA cB ?_ E A fun i hi => Arv.new (D i _ (by simp [hi])).1 hj)
  obtain ⟨-, -, -, rfl⟩ := cx
  exact ⟨_, _, _, X', e', q2, by omega, by omega⟩
end OwnKit
theorem d1_0 : decode prog_408_method_2_code 0 = .ok (.iload_n 0, 1) := by decide +kernel
theorem d1_1 : decode prog_408_method_2_code 1 = .ok (.bipush 97, 2) := by decide +kernel
theorem d1_3 : decode prog_408_method_2_code 3 = .ok (.if_icmp .lt 9, 3) := by decide +kernel
theorem d1_6 : decode prog_408_method_2_code 6 = .ok (.iload_n 0, 1) := by decide +kernel
theorem d1_7 : decode prog_408_method_2_code 7 = .ok (.bipush 122, 2) := by decide +kernel
theorem d1_9 : decode prog_408_method_2_code 9 = .ok (.if_icmp .le 176, 3) := by decide +kernel
theorem d1_12 : decode prog_408_method_2_code 12 = .ok (.iload_n 0, 1) := by decide +kernel
theorem d1_13 : decode prog_408_method_2_code 13 = .ok (.bipush 65, 2) := by decide +kernel
theorem d1_15 : decode prog_408_method_2_code 15 = .ok (.if_icmp .lt 9, 3) := by decide +kernel
theorem d1_18 : decode prog_408_method_2_code 18 = .ok (.iload_n 0, 1) := by decide +kernel
theorem d1_19 : decode prog_408_method_2_code 19 = .ok (.bipush 90, 2) := by decide +kernel
theorem d1_21 : decode prog_408_method_2_code 21 = .ok (.if_icmp .le 164, 3) := by decide +kernel
theorem d1_24 : decode prog_408_method_2_code 24 = .ok (.iload_n 0, 1) := by decide +kernel
theorem d1_25 : decode prog_408_method_2_code 25 = .ok (.sipush 192, 3) := by decide +kernel
theorem d1_28 : decode prog_408_method_2_code 28 = .ok (.if_icmp .lt 10, 3) := by decide +kernel
theorem d1_31 : decode prog_408_method_2_code 31 = .ok (.iload_n 0, 1) := by decide +kernel
theorem d1_32 : decode prog_408_method_2_code 32 = .ok (.sipush 214, 3) := by decide +kernel
theorem d1_35 : decode prog_408_method_2_code 35 = .ok (.if_icmp .le 150, 3) := by decide +kernel
theorem d1_38 : decode prog_408_method_2_code 38 = .ok (.iload_n 0, 1) := by decide +kernel
theorem d1_39 : decode prog_408_method_2_code 39 = .ok (.sipush 216, 3) := by decide +kernel
theorem d1_42 : decode prog_408_method_2_code 42 = .ok (.if_icmp .lt 10, 3) := by decide +kernel
theorem d1_45 : decode prog_408_method_2_code 45 = .ok (.iload_n 0, 1) := by decide +kernel
theorem d1_46 : decode prog_408_method_2_code 46 = .ok (.sipush 246, 3) := by decide +kernel
theorem d1_49 : decode prog_408_method_2_code 49 = .ok (.if_icmp .le 136, 3) := by decide +kernel
theorem d1_52 : decode prog_408_method_2_code 52 = .ok (.iload_n 0, 1) := by decide +kernel
theorem d1_53 : decode prog_408_method_2_code 53 = .ok (.sipush 248, 3) := by decide +kernel
theorem d1_56 : decode prog_408_method_2_code 56 = .ok (.if_icmp .lt 10, 3) := by decide +kernel
theorem d1_59 : decode prog_408_method_2_code 59 = .ok (.iload_n 0, 1) := by decide +kernel
theorem d1_60 : decode prog_408_method_2_code 60 = .ok (.sipush 767, 3) := by decide +kernel
theorem d1_63 : decode prog_408_method_2_code 63 = .ok (.if_icmp .le 122, 3) := by decide +kernel
theorem d1_66 : decode prog_408_method_2_code 66 = .ok (.iload_n 0, 1) := by decide +kernel
theorem d1_67 : decode prog_408_method_2_code 67 = .ok (.sipush 880, 3) := by decide +kernel
theorem d1_70 : decode prog_408_method_2_code 70 = .ok (.if_icmp .lt 10, 3) := by decide +kernel
theorem d1_73 : decode prog_408_method_2_code 73 = .ok (.iload_n 0, 1) := by decide +kernel
theorem d1_74 : decode prog_408_method_2_code 74 = .ok (.sipush 893, 3) := by decide +kernel
theorem d1_77 : decode prog_408_method_2_code 77 = .ok (.if_icmp .le 108, 3) := by decide +kernel
theorem d1_80 : decode prog_408_method_2_code 80 = .ok (.iload_n 0, 1) := by decide +kernel
theorem d1_81 : decode prog_408_method_2_code 81 = .ok (.sipush 895, 3) := by decide +kernel
theorem d1_84 : decode prog_408_method_2_code 84 = .ok (.if_icmp .lt 10, 3) := by decide +kernel
theorem d1_87 : decode prog_408_method_2_code 87 = .ok (.iload_n 0, 1) := by decide +kernel
theorem d1_88 : decode prog_408_method_2_code 88 = .ok (.sipush 8191, 3) := by decide +kernel
theorem d1_91 : decode prog_408_method_2_code 91 = .ok (.if_icmp .le 94, 3) := by decide +kernel
theorem d1_94 : decode prog_408_method_2_code 94 = .ok (.iload_n 0, 1) := by decide +kernel
theorem d1_95 : decode prog_408_method_2_code 95 = .ok (.sipush 8204, 3) := by decide +kernel
theorem d1_98 : decode prog_408_method_2_code 98 = .ok (.if_icmp .lt 10, 3) := by decide +kernel
theorem d1_101 : decode prog_408_method_2_code 101 = .ok (.iload_n 0, 1) := by decide +kernel
theorem d1_102 : decode prog_408_method_2_code 102 = .ok (.sipush 8205, 3) := by decide +kernel
theorem d1_105 : decode prog_408_method_2_code 105 = .ok (.if_icmp .le 80, 3) := by decide +kernel
theorem d1_108 : decode prog_408_method_2_code 108 = .ok (.iload_n 0, 1) := by decide +kernel
theorem d1_109 : decode prog_408_method_2_code 109 = .ok (.sipush 8304, 3) := by decide +kernel
theorem d1_112 : decode prog_408_method_2_code 112 = .ok (.if_icmp .lt 10, 3) := by decide +kernel
theorem d1_115 : decode prog_408_method_2_code 115 = .ok (.iload_n 0, 1) := by decide +kernel
theorem d1_116 : decode prog_408_method_2_code 116 = .ok (.sipush 8591, 3) := by decide +kernel
theorem d1_119 : decode prog_408_method_2_code 119 = .ok (.if_icmp .le 66, 3) := by decide +kernel
theorem d1_122 : decode prog_408_method_2_code 122 = .ok (.iload_n 0, 1) := by decide +kernel
theorem d1_123 : decode prog_408_method_2_code 123 = .ok (.sipush 11264, 3) := by decide +kernel
theorem d1_126 : decode prog_408_method_2_code 126 = .ok (.if_icmp .lt 10, 3) := by decide +kernel
theorem d1_129 : decode prog_408_method_2_code 129 = .ok (.iload_n 0, 1) := by decide +kernel
theorem d1_130 : decode prog_408_method_2_code 130 = .ok (.sipush 12271, 3) := by decide +kernel
theorem d1_133 : decode prog_408_method_2_code 133 = .ok (.if_icmp .le 52, 3) := by decide +kernel
theorem d1_136 : decode prog_408_method_2_code 136 = .ok (.iload_n 0, 1) := by decide +kernel
theorem d1_137 : decode prog_408_method_2_code 137 = .ok (.sipush 12289, 3) := by decide +kernel
theorem d1_140 : decode prog_408_method_2_code 140 = .ok (.if_icmp .lt 9, 3) := by decide +kernel
theorem d1_143 : decode prog_408_method_2_code 143 = .ok (.iload_n 0, 1) := by decide +kernel
theorem d1_144 : decode prog_408_method_2_code 144 = .ok (.ldc 7, 2) := by decide +kernel
theorem d1_146 : decode prog_408_method_2_code 146 = .ok (.if_icmp .le 39, 3) := by decide +kernel
theorem d1_149 : decode prog_408_method_2_code 149 = .ok (.iload_n 0, 1) := by decide +kernel
theorem d1_150 : decode prog_408_method_2_code 150 = .ok (.ldc 8, 2) := by decide +kernel
theorem d1_152 : decode prog_408_method_2_code 152 = .ok (.if_icmp .lt 9, 3) := by decide +kernel
theorem d1_155 : decode prog_408_method_2_code 155 = .ok (.iload_n 0, 1) := by decide +kernel
theorem d1_156 : decode prog_408_method_2_code 156 = .ok (.ldc 9, 2) := by decide +kernel
theorem d1_158 : decode prog_408_method_2_code 158 = .ok (.if_icmp .le 27, 3) := by decide +kernel
theorem d1_161 : decode prog_408_method_2_code 161 = .ok (.iload_n 0, 1) := by decide +kernel
theorem d1_162 : decode prog_408_method_2_code 162 = .ok (.ldc 10, 2) := by decide +kernel
theorem d1_164 : decode prog_408_method_2_code 164 = .ok (.if_icmp .lt 9, 3) := by decide +kernel
theorem d1_167 : decode prog_408_method_2_code 167 = .ok (.iload_n 0, 1) := by decide +kernel
theorem d1_168 : decode prog_408_method_2_code 168 = .ok (.ldc 11, 2) := by decide +kernel
theorem d1_170 : decode prog_408_method_2_code 170 = .ok (.if_icmp .le 15, 3) := by decide +kernel
theorem d1_173 : decode prog_408_method_2_code 173 = .ok (.iload_n 0, 1) := by decide +kernel
theorem d1_174 : decode prog_408_method_2_code 174 = .ok (.ldc 12, 2) := by decide +kernel
theorem d1_176 : decode prog_408_method_2_code 176 = .ok (.if_icmp .lt 13, 3) := by decide +kernel
theorem d1_179 : decode prog_408_method_2_code 179 = .ok (.iload_n 0, 1) := by decide +kernel
theorem d1_180 : decode prog_408_method_2_code 180 = .ok (.ldc 13, 2) := by decide +kernel
theorem d1_182 : decode prog_408_method_2_code 182 = .ok (.if_icmp .gt 7, 3) := by decide +kernel
theorem d1_185 : decode prog_408_method_2_code 185 = .ok (.iconst 1, 1) := by decide +kernel
theorem d1_186 : decode prog_408_method_2_code 186 = .ok (.goto 4, 3) := by decide +kernel
theorem d1_189 : decode prog_408_method_2_code 189 = .ok (.iconst 0, 1) := by decide +kernel
theorem d1_190 : decode prog_408_method_2_code 190 = .ok (.ireturn, 1) := by decide +kernel
theorem pn_0 : plainName (site_261.cls) = true := by first | (simp [plainName, overriddenIn]; done) | decide +kernel
theorem ef_1 (m : MethodId) (x0 : Int32) : entryFrame m #[(.int x0)] 1 = mkF m 0 #[.val (.int x0)] [] := by first | (simp [entryFrame, mkF, argsToLocals, Value.category]; done) | rfl
def ib13 (p0 : Int32) : Int32 := (if p0 < (65536 : Int32) then (0 : Int32) else (if (983039 : Int32) < p0 then (0 : Int32) else (1 : Int32)))
def ib12 (p0 : Int32) : Int32 := (if p0 < (65008 : Int32) then (ib13 p0) else (if (65533 : Int32) < p0 then (ib13 p0) else (1 : Int32)))
def ib11 (p0 : Int32) : Int32 := (if p0 < (63744 : Int32) then (ib12 p0) else (if (64975 : Int32) < p0 then (ib12 p0) else (1 : Int32)))
def ib10 (p0 : Int32) : Int32 := (if p0 < (12289 : Int32) then (ib11 p0) else (if (55295 : Int32) < p0 then (ib11 p0) else (1 : Int32)))
def ib9 (p0 : Int32) : Int32 := (if p0 < (11264 : Int32) then (ib10 p0) else (if (12271 : Int32) < p0 then (ib10 p0) else (1 : Int32)))
def ib8 (p0 : Int32) : Int32 := (if p0 < (8304 : Int32) then (ib9 p0) else (if (8591 : Int32) < p0 then (ib9 p0) else (1 : Int32)))
def ib7 (p0 : Int32) : Int32 := (if p0 < (8204 : Int32) then (ib8 p0) else (if (8205 : Int32) < p0 then (ib8 p0) else (1 : Int32)))
def ib6 (p0 : Int32) : Int32 := (if p0 < (895 : Int32) then (ib7 p0) else (if (8191 : Int32) < p0 then (ib7 p0) else (1 : Int32)))
def ib5 (p0 : Int32) : Int32 := (if p0 < (880 : Int32) then (ib6 p0) else (if (893 : Int32) < p0 then (ib6 p0) else (1 : Int32)))
def ib4 (p0 : Int32) : Int32 := (if p0 < (248 : Int32) then (ib5 p0) else (if (767 : Int32) < p0 then (ib5 p0) else (1 : Int32)))
def ib3 (p0 : Int32) : Int32 := (if p0 < (216 : Int32) then (ib4 p0) else (if (246 : Int32) < p0 then (ib4 p0) else (1 : Int32)))
def ib2 (p0 : Int32) : Int32 := (if p0 < (192 : Int32) then (ib3 p0) else (if (214 : Int32) < p0 then (ib3 p0) else (1 : Int32)))
def ib1 (p0 : Int32) : Int32 := (if p0 < (65 : Int32) then (ib2 p0) else (if (90 : Int32) < p0 then (ib2 p0) else (1 : Int32)))
def ib0 (p0 : Int32) : Int32 := (if p0 < (97 : Int32) then (ib1 p0) else (if (122 : Int32) < p0 then (ib1 p0) else (1 : Int32)))
set_option maxRecDepth 65536 in
set_option maxHeartbeats 40000000 in
theorem rm1 (l : Launch) (Z : State) (a0 : Array Value) (hw : ∀ d ∈ tables_1, d.before a0 Z = true) (p0 : Int32) (h0 : Heap) (n0 : Nat) (Z0 : n0 ≤ h0.size) :
    Con l Z (⟨(site_261.cls), "isBaseChar", "(I)Z"⟩ : MethodName) prog_408_method_2_code 1 (some .boolean) ({ frames := 0, cells := 0, slots := 0, locals := 0 } : Room) #[(.int p0)] h0 n0 (fun v h => v = some (.int (ib0 p0)) ∧ h = h0) := by
  refine Con.of (own := (site_261.cls)) (name := "isBaseChar") (plainFor_of_name pn_0) (fun m => ef_1 m p0) rfl rfl ?_
  intro p e s m below meth c T F S cx st
  have j13 : ib0 p0 = ib13 p0 → F T (mkF m 173 #[.val (.int p0)] []) := by
    intro q
    refine E_iloadN (pc' := 174) cx st d1_173 rfl rfl ?_
    refine E_ldc (pc' := 176) (v := (65536 : Int32)) cx st (hw _ (List.mem_of_getElem? (i := 15) rfl)) d1_174 rfl ?_
    by_cases c1 : p0 < (65536 : Int32)
    · refine E_icmp_ltY (pc' := 189) cx st d1_176 (by decide) (by decide) c1 ?_
      refine E_iconst (pc' := 190) cx st (0 : Int32) d1_189 rfl rfl ?_
      refine E_ireturn (t := .boolean) cx st d1_190 rfl (by simp) rfl (by decide) (by decide) ?_
      exact ⟨by rw [q]; unfold ib13; rw [if_pos c1], rfl⟩
    · refine E_icmp_ltN (pc' := 179) cx st d1_176 rfl c1 ?_
      refine E_iloadN (pc' := 180) cx st d1_179 rfl rfl ?_
      refine E_ldc (pc' := 182) (v := (983039 : Int32)) cx st (hw _ (List.mem_of_getElem? (i := 19) rfl)) d1_180 rfl ?_
      by_cases c2 : (983039 : Int32) < p0
      · refine E_icmp_gtY (pc' := 189) cx st d1_182 (by decide) (by decide) c2 ?_
        refine E_iconst (pc' := 190) cx st (0 : Int32) d1_189 rfl rfl ?_
        refine E_ireturn (t := .boolean) cx st d1_190 rfl (by simp) rfl (by decide) (by decide) ?_
        exact ⟨by rw [q]; unfold ib13; rw [if_neg c1, if_pos c2], rfl⟩
      · refine E_icmp_gtN (pc' := 185) cx st d1_182 rfl c2 ?_
        refine E_iconst (pc' := 186) cx st (1 : Int32) d1_185 rfl rfl ?_
        refine E_goto (pc' := 190) cx st d1_186 (by decide) (by decide) ?_
        refine E_ireturn (t := .boolean) cx st d1_190 rfl (by simp) rfl (by decide) (by decide) ?_
        exact ⟨by rw [q]; unfold ib13; rw [if_neg c1, if_neg c2], rfl⟩
  have j12 : ib0 p0 = ib12 p0 → F T (mkF m 161 #[.val (.int p0)] []) := by
    intro q
    refine E_iloadN (pc' := 162) cx st d1_161 rfl rfl ?_
    refine E_ldc (pc' := 164) (v := (65008 : Int32)) cx st (hw _ (List.mem_of_getElem? (i := 14) rfl)) d1_162 rfl ?_
    by_cases c3 : p0 < (65008 : Int32)
    · refine E_icmp_ltY (pc' := 173) cx st d1_164 (by decide) (by decide) c3 ?_
      exact j13 (by rw [q]; unfold ib12; rw [if_pos c3])
    · refine E_icmp_ltN (pc' := 167) cx st d1_164 rfl c3 ?_
      refine E_iloadN (pc' := 168) cx st d1_167 rfl rfl ?_
      refine E_ldc (pc' := 170) (v := (65533 : Int32)) cx st (hw _ (List.mem_of_getElem? (i := 18) rfl)) d1_168 rfl ?_
      by_cases c4 : (65533 : Int32) < p0
      · refine E_icmp_leN (pc' := 173) cx st d1_170 rfl c4 ?_
        exact j13 (by rw [q]; unfold ib12; rw [if_neg c3, if_pos c4])
      · refine E_icmp_leY (pc' := 185) cx st d1_170 (by decide) (by decide) c4 ?_
        refine E_iconst (pc' := 186) cx st (1 : Int32) d1_185 rfl rfl ?_
        refine E_goto (pc' := 190) cx st d1_186 (by decide) (by decide) ?_
        refine E_ireturn (t := .boolean) cx st d1_190 rfl (by simp) rfl (by decide) (by decide) ?_
        exact ⟨by rw [q]; unfold ib12; rw [if_neg c3, if_neg c4], rfl⟩
  have j11 : ib0 p0 = ib11 p0 → F T (mkF m 149 #[.val (.int p0)] []) := by
    intro q
    refine E_iloadN (pc' := 150) cx st d1_149 rfl rfl ?_
    refine E_ldc (pc' := 152) (v := (63744 : Int32)) cx st (hw _ (List.mem_of_getElem? (i := 13) rfl)) d1_150 rfl ?_
    by_cases c5 : p0 < (63744 : Int32)
    · refine E_icmp_ltY (pc' := 161) cx st d1_152 (by decide) (by decide) c5 ?_
      exact j12 (by rw [q]; unfold ib11; rw [if_pos c5])
    · refine E_icmp_ltN (pc' := 155) cx st d1_152 rfl c5 ?_
      refine E_iloadN (pc' := 156) cx st d1_155 rfl rfl ?_
      refine E_ldc (pc' := 158) (v := (64975 : Int32)) cx st (hw _ (List.mem_of_getElem? (i := 17) rfl)) d1_156 rfl ?_
      by_cases c6 : (64975 : Int32) < p0
      · refine E_icmp_leN (pc' := 161) cx st d1_158 rfl c6 ?_
        exact j12 (by rw [q]; unfold ib11; rw [if_neg c5, if_pos c6])
      · refine E_icmp_leY (pc' := 185) cx st d1_158 (by decide) (by decide) c6 ?_
        refine E_iconst (pc' := 186) cx st (1 : Int32) d1_185 rfl rfl ?_
        refine E_goto (pc' := 190) cx st d1_186 (by decide) (by decide) ?_
        refine E_ireturn (t := .boolean) cx st d1_190 rfl (by simp) rfl (by decide) (by decide) ?_
        exact ⟨by rw [q]; unfold ib11; rw [if_neg c5, if_neg c6], rfl⟩
  have j10 : ib0 p0 = ib10 p0 → F T (mkF m 136 #[.val (.int p0)] []) := by
    intro q
    refine E_iloadN (pc' := 137) cx st d1_136 rfl rfl ?_
    refine E_sipush (pc' := 140) cx st (12289 : Int32) d1_137 rfl rfl ?_
    by_cases c7 : p0 < (12289 : Int32)
    · refine E_icmp_ltY (pc' := 149) cx st d1_140 (by decide) (by decide) c7 ?_
      exact j11 (by rw [q]; unfold ib10; rw [if_pos c7])
    · refine E_icmp_ltN (pc' := 143) cx st d1_140 rfl c7 ?_
      refine E_iloadN (pc' := 144) cx st d1_143 rfl rfl ?_
      refine E_ldc (pc' := 146) (v := (55295 : Int32)) cx st (hw _ (List.mem_of_getElem? (i := 16) rfl)) d1_144 rfl ?_
      by_cases c8 : (55295 : Int32) < p0
      · refine E_icmp_leN (pc' := 149) cx st d1_146 rfl c8 ?_
        exact j11 (by rw [q]; unfold ib10; rw [if_neg c7, if_pos c8])
      · refine E_icmp_leY (pc' := 185) cx st d1_146 (by decide) (by decide) c8 ?_
        refine E_iconst (pc' := 186) cx st (1 : Int32) d1_185 rfl rfl ?_
        refine E_goto (pc' := 190) cx st d1_186 (by decide) (by decide) ?_
        refine E_ireturn (t := .boolean) cx st d1_190 rfl (by simp) rfl (by decide) (by decide) ?_
        exact ⟨by rw [q]; unfold ib10; rw [if_neg c7, if_neg c8], rfl⟩
  have j9 : ib0 p0 = ib9 p0 → F T (mkF m 122 #[.val (.int p0)] []) := by
    intro q
    refine E_iloadN (pc' := 123) cx st d1_122 rfl rfl ?_
    refine E_sipush (pc' := 126) cx st (11264 : Int32) d1_123 rfl rfl ?_
    by_cases c9 : p0 < (11264 : Int32)
    · refine E_icmp_ltY (pc' := 136) cx st d1_126 (by decide) (by decide) c9 ?_
      exact j10 (by rw [q]; unfold ib9; rw [if_pos c9])
    · refine E_icmp_ltN (pc' := 129) cx st d1_126 rfl c9 ?_
      refine E_iloadN (pc' := 130) cx st d1_129 rfl rfl ?_
      refine E_sipush (pc' := 133) cx st (12271 : Int32) d1_130 rfl rfl ?_
      by_cases c10 : (12271 : Int32) < p0
      · refine E_icmp_leN (pc' := 136) cx st d1_133 rfl c10 ?_
        exact j10 (by rw [q]; unfold ib9; rw [if_neg c9, if_pos c10])
      · refine E_icmp_leY (pc' := 185) cx st d1_133 (by decide) (by decide) c10 ?_
        refine E_iconst (pc' := 186) cx st (1 : Int32) d1_185 rfl rfl ?_
        refine E_goto (pc' := 190) cx st d1_186 (by decide) (by decide) ?_
        refine E_ireturn (t := .boolean) cx st d1_190 rfl (by simp) rfl (by decide) (by decide) ?_
        exact ⟨by rw [q]; unfold ib9; rw [if_neg c9, if_neg c10], rfl⟩
  have j8 : ib0 p0 = ib8 p0 → F T (mkF m 108 #[.val (.int p0)] []) := by
    intro q
    refine E_iloadN (pc' := 109) cx st d1_108 rfl rfl ?_
    refine E_sipush (pc' := 112) cx st (8304 : Int32) d1_109 rfl rfl ?_
    by_cases c11 : p0 < (8304 : Int32)
    · refine E_icmp_ltY (pc' := 122) cx st d1_112 (by decide) (by decide) c11 ?_
      exact j9 (by rw [q]; unfold ib8; rw [if_pos c11])
    · refine E_icmp_ltN (pc' := 115) cx st d1_112 rfl c11 ?_
      refine E_iloadN (pc' := 116) cx st d1_115 rfl rfl ?_
      refine E_sipush (pc' := 119) cx st (8591 : Int32) d1_116 rfl rfl ?_
      by_cases c12 : (8591 : Int32) < p0
      · refine E_icmp_leN (pc' := 122) cx st d1_119 rfl c12 ?_
        exact j9 (by rw [q]; unfold ib8; rw [if_neg c11, if_pos c12])
      · refine E_icmp_leY (pc' := 185) cx st d1_119 (by decide) (by decide) c12 ?_
        refine E_iconst (pc' := 186) cx st (1 : Int32) d1_185 rfl rfl ?_
        refine E_goto (pc' := 190) cx st d1_186 (by decide) (by decide) ?_
        refine E_ireturn (t := .boolean) cx st d1_190 rfl (by simp) rfl (by decide) (by decide) ?_
        exact ⟨by rw [q]; unfold ib8; rw [if_neg c11, if_neg c12], rfl⟩
  have j7 : ib0 p0 = ib7 p0 → F T (mkF m 94 #[.val (.int p0)] []) := by
    intro q
    refine E_iloadN (pc' := 95) cx st d1_94 rfl rfl ?_
    refine E_sipush (pc' := 98) cx st (8204 : Int32) d1_95 rfl rfl ?_
    by_cases c13 : p0 < (8204 : Int32)
    · refine E_icmp_ltY (pc' := 108) cx st d1_98 (by decide) (by decide) c13 ?_
      exact j8 (by rw [q]; unfold ib7; rw [if_pos c13])
    · refine E_icmp_ltN (pc' := 101) cx st d1_98 rfl c13 ?_
      refine E_iloadN (pc' := 102) cx st d1_101 rfl rfl ?_
      refine E_sipush (pc' := 105) cx st (8205 : Int32) d1_102 rfl rfl ?_
      by_cases c14 : (8205 : Int32) < p0
      · refine E_icmp_leN (pc' := 108) cx st d1_105 rfl c14 ?_
        exact j8 (by rw [q]; unfold ib7; rw [if_neg c13, if_pos c14])
      · refine E_icmp_leY (pc' := 185) cx st d1_105 (by decide) (by decide) c14 ?_
        refine E_iconst (pc' := 186) cx st (1 : Int32) d1_185 rfl rfl ?_
        refine E_goto (pc' := 190) cx st d1_186 (by decide) (by decide) ?_
        refine E_ireturn (t := .boolean) cx st d1_190 rfl (by simp) rfl (by decide) (by decide) ?_
        exact ⟨by rw [q]; unfold ib7; rw [if_neg c13, if_neg c14], rfl⟩
  have j6 : ib0 p0 = ib6 p0 → F T (mkF m 80 #[.val (.int p0)] []) := by
    intro q
    refine E_iloadN (pc' := 81) cx st d1_80 rfl rfl ?_
    refine E_sipush (pc' := 84) cx st (895 : Int32) d1_81 rfl rfl ?_
    by_cases c15 : p0 < (895 : Int32)
    · refine E_icmp_ltY (pc' := 94) cx st d1_84 (by decide) (by decide) c15 ?_
      exact j7 (by rw [q]; unfold ib6; rw [if_pos c15])
    · refine E_icmp_ltN (pc' := 87) cx st d1_84 rfl c15 ?_
      refine E_iloadN (pc' := 88) cx st d1_87 rfl rfl ?_
      refine E_sipush (pc' := 91) cx st (8191 : Int32) d1_88 rfl rfl ?_
      by_cases c16 : (8191 : Int32) < p0
      · refine E_icmp_leN (pc' := 94) cx st d1_91 rfl c16 ?_
        exact j7 (by rw [q]; unfold ib6; rw [if_neg c15, if_pos c16])
      · refine E_icmp_leY (pc' := 185) cx st d1_91 (by decide) (by decide) c16 ?_
        refine E_iconst (pc' := 186) cx st (1 : Int32) d1_185 rfl rfl ?_
        refine E_goto (pc' := 190) cx st d1_186 (by decide) (by decide) ?_
        refine E_ireturn (t := .boolean) cx st d1_190 rfl (by simp) rfl (by decide) (by decide) ?_
        exact ⟨by rw [q]; unfold ib6; rw [if_neg c15, if_neg c16], rfl⟩
  have j5 : ib0 p0 = ib5 p0 → F T (mkF m 66 #[.val (.int p0)] []) := by
    intro q
    refine E_iloadN (pc' := 67) cx st d1_66 rfl rfl ?_
    refine E_sipush (pc' := 70) cx st (880 : Int32) d1_67 rfl rfl ?_
    by_cases c17 : p0 < (880 : Int32)
    · refine E_icmp_ltY (pc' := 80) cx st d1_70 (by decide) (by decide) c17 ?_
      exact j6 (by rw [q]; unfold ib5; rw [if_pos c17])
    · refine E_icmp_ltN (pc' := 73) cx st d1_70 rfl c17 ?_
      refine E_iloadN (pc' := 74) cx st d1_73 rfl rfl ?_
      refine E_sipush (pc' := 77) cx st (893 : Int32) d1_74 rfl rfl ?_
      by_cases c18 : (893 : Int32) < p0
      · refine E_icmp_leN (pc' := 80) cx st d1_77 rfl c18 ?_
        exact j6 (by rw [q]; unfold ib5; rw [if_neg c17, if_pos c18])
      · refine E_icmp_leY (pc' := 185) cx st d1_77 (by decide) (by decide) c18 ?_
        refine E_iconst (pc' := 186) cx st (1 : Int32) d1_185 rfl rfl ?_
        refine E_goto (pc' := 190) cx st d1_186 (by decide) (by decide) ?_
        refine E_ireturn (t := .boolean) cx st d1_190 rfl (by simp) rfl (by decide) (by decide) ?_
        exact ⟨by rw [q]; unfold ib5; rw [if_neg c17, if_neg c18], rfl⟩
  have j4 : ib0 p0 = ib4 p0 → F T (mkF m 52 #[.val (.int p0)] []) := by
    intro q
    refine E_iloadN (pc' := 53) cx st d1_52 rfl rfl ?_
    refine E_sipush (pc' := 56) cx st (248 : Int32) d1_53 rfl rfl ?_
    by_cases c19 : p0 < (248 : Int32)
    · refine E_icmp_ltY (pc' := 66) cx st d1_56 (by decide) (by decide) c19 ?_
      exact j5 (by rw [q]; unfold ib4; rw [if_pos c19])
    · refine E_icmp_ltN (pc' := 59) cx st d1_56 rfl c19 ?_
      refine E_iloadN (pc' := 60) cx st d1_59 rfl rfl ?_
      refine E_sipush (pc' := 63) cx st (767 : Int32) d1_60 rfl rfl ?_
      by_cases c20 : (767 : Int32) < p0
      · refine E_icmp_leN (pc' := 66) cx st d1_63 rfl c20 ?_
        exact j5 (by rw [q]; unfold ib4; rw [if_neg c19, if_pos c20])
      · refine E_icmp_leY (pc' := 185) cx st d1_63 (by decide) (by decide) c20 ?_
        refine E_iconst (pc' := 186) cx st (1 : Int32) d1_185 rfl rfl ?_
        refine E_goto (pc' := 190) cx st d1_186 (by decide) (by decide) ?_
        refine E_ireturn (t := .boolean) cx st d1_190 rfl (by simp) rfl (by decide) (by decide) ?_
        exact ⟨by rw [q]; unfold ib4; rw [if_neg c19, if_neg c20], rfl⟩
  have j3 : ib0 p0 = ib3 p0 → F T (mkF m 38 #[.val (.int p0)] []) := by
    intro q
    refine E_iloadN (pc' := 39) cx st d1_38 rfl rfl ?_
    refine E_sipush (pc' := 42) cx st (216 : Int32) d1_39 rfl rfl ?_
    by_cases c21 : p0 < (216 : Int32)
    · refine E_icmp_ltY (pc' := 52) cx st d1_42 (by decide) (by decide) c21 ?_
      exact j4 (by rw [q]; unfold ib3; rw [if_pos c21])
    · refine E_icmp_ltN (pc' := 45) cx st d1_42 rfl c21 ?_
      refine E_iloadN (pc' := 46) cx st d1_45 rfl rfl ?_
      refine E_sipush (pc' := 49) cx st (246 : Int32) d1_46 rfl rfl ?_
      by_cases c22 : (246 : Int32) < p0
      · refine E_icmp_leN (pc' := 52) cx st d1_49 rfl c22 ?_
        exact j4 (by rw [q]; unfold ib3; rw [if_neg c21, if_pos c22])
      · refine E_icmp_leY (pc' := 185) cx st d1_49 (by decide) (by decide) c22 ?_
        refine E_iconst (pc' := 186) cx st (1 : Int32) d1_185 rfl rfl ?_
        refine E_goto (pc' := 190) cx st d1_186 (by decide) (by decide) ?_
        refine E_ireturn (t := .boolean) cx st d1_190 rfl (by simp) rfl (by decide) (by decide) ?_
        exact ⟨by rw [q]; unfold ib3; rw [if_neg c21, if_neg c22], rfl⟩
  have j2 : ib0 p0 = ib2 p0 → F T (mkF m 24 #[.val (.int p0)] []) := by
    intro q
    refine E_iloadN (pc' := 25) cx st d1_24 rfl rfl ?_
    refine E_sipush (pc' := 28) cx st (192 : Int32) d1_25 rfl rfl ?_
    by_cases c23 : p0 < (192 : Int32)
    · refine E_icmp_ltY (pc' := 38) cx st d1_28 (by decide) (by decide) c23 ?_
      exact j3 (by rw [q]; unfold ib2; rw [if_pos c23])
    · refine E_icmp_ltN (pc' := 31) cx st d1_28 rfl c23 ?_
      refine E_iloadN (pc' := 32) cx st d1_31 rfl rfl ?_
      refine E_sipush (pc' := 35) cx st (214 : Int32) d1_32 rfl rfl ?_
      by_cases c24 : (214 : Int32) < p0
      · refine E_icmp_leN (pc' := 38) cx st d1_35 rfl c24 ?_
        exact j3 (by rw [q]; unfold ib2; rw [if_neg c23, if_pos c24])
      · refine E_icmp_leY (pc' := 185) cx st d1_35 (by decide) (by decide) c24 ?_
        refine E_iconst (pc' := 186) cx st (1 : Int32) d1_185 rfl rfl ?_
        refine E_goto (pc' := 190) cx st d1_186 (by decide) (by decide) ?_
        refine E_ireturn (t := .boolean) cx st d1_190 rfl (by simp) rfl (by decide) (by decide) ?_
        exact ⟨by rw [q]; unfold ib2; rw [if_neg c23, if_neg c24], rfl⟩
  have j1 : ib0 p0 = ib1 p0 → F T (mkF m 12 #[.val (.int p0)] []) := by
    intro q
    refine E_iloadN (pc' := 13) cx st d1_12 rfl rfl ?_
    refine E_bipush (pc' := 15) cx st (65 : Int32) d1_13 rfl rfl ?_
    by_cases c25 : p0 < (65 : Int32)
    · refine E_icmp_ltY (pc' := 24) cx st d1_15 (by decide) (by decide) c25 ?_
      exact j2 (by rw [q]; unfold ib1; rw [if_pos c25])
    · refine E_icmp_ltN (pc' := 18) cx st d1_15 rfl c25 ?_
      refine E_iloadN (pc' := 19) cx st d1_18 rfl rfl ?_
      refine E_bipush (pc' := 21) cx st (90 : Int32) d1_19 rfl rfl ?_
      by_cases c26 : (90 : Int32) < p0
      · refine E_icmp_leN (pc' := 24) cx st d1_21 rfl c26 ?_
        exact j2 (by rw [q]; unfold ib1; rw [if_neg c25, if_pos c26])
      · refine E_icmp_leY (pc' := 185) cx st d1_21 (by decide) (by decide) c26 ?_
        refine E_iconst (pc' := 186) cx st (1 : Int32) d1_185 rfl rfl ?_
        refine E_goto (pc' := 190) cx st d1_186 (by decide) (by decide) ?_
        refine E_ireturn (t := .boolean) cx st d1_190 rfl (by simp) rfl (by decide) (by decide) ?_
        exact ⟨by rw [q]; unfold ib1; rw [if_neg c25, if_neg c26], rfl⟩
  have j0 : ib0 p0 = ib0 p0 → F T (mkF m 0 #[.val (.int p0)] []) := by
    intro q
    refine E_iloadN (pc' := 1) cx st d1_0 rfl rfl ?_
    refine E_bipush (pc' := 3) cx st (97 : Int32) d1_1 rfl rfl ?_
    by_cases c27 : p0 < (97 : Int32)
    · refine E_icmp_ltY (pc' := 12) cx st d1_3 (by decide) (by decide) c27 ?_
      exact j1 (by rw [q]; unfold ib0; rw [if_pos c27])
    · refine E_icmp_ltN (pc' := 6) cx st d1_3 rfl c27 ?_
      refine E_iloadN (pc' := 7) cx st d1_6 rfl rfl ?_
      refine E_bipush (pc' := 9) cx st (122 : Int32) d1_7 rfl rfl ?_
      by_cases c28 : (122 : Int32) < p0
      · refine E_icmp_leN (pc' := 12) cx st d1_9 rfl c28 ?_
        exact j1 (by rw [q]; unfold ib0; rw [if_neg c27, if_pos c28])
      · refine E_icmp_leY (pc' := 185) cx st d1_9 (by decide) (by decide) c28 ?_
        refine E_iconst (pc' := 186) cx st (1 : Int32) d1_185 rfl rfl ?_
        refine E_goto (pc' := 190) cx st d1_186 (by decide) (by decide) ?_
        refine E_ireturn (t := .boolean) cx st d1_190 rfl (by simp) rfl (by decide) (by decide) ?_
        exact ⟨by rw [q]; unfold ib0; rw [if_neg c27, if_neg c28], rfl⟩
  exact j0 rfl
def In13 (a : Int) : Prop := (65536 ≤ a ∧ a ≤ 983039) ∨ False
theorem ib13_s (p : Int32) : (ib13 p = 1 ∧ In13 p.toInt) ∨ (ib13 p = 0 ∧ ¬ In13 p.toInt) := by
  have r : ((0 : Int32) = 1 ∧ False) ∨ ((0 : Int32) = 0 ∧ ¬ False) := Or.inr ⟨rfl, id⟩
  have k1 : (65536 : Int32).toInt = 65536 := rfl
  have k2 : (983039 : Int32).toInt = 983039 := rfl
  unfold ib13
  by_cases c1 : p < (65536 : Int32)
  · rw [if_pos c1]
    rw [Int32.lt_iff_toInt_lt, k1] at c1
    rcases r with ⟨h1, h2⟩ | ⟨h1, h2⟩
    · exact Or.inl ⟨h1, Or.inr h2⟩
    · exact Or.inr ⟨h1, fun z => z.elim (fun w => by omega) h2⟩
  · rw [if_neg c1]
    rw [Int32.lt_iff_toInt_lt, k1] at c1
    by_cases c2 : (983039 : Int32) < p
    · rw [if_pos c2]
      rw [Int32.lt_iff_toInt_lt, k2] at c2
      rcases r with ⟨h1, h2⟩ | ⟨h1, h2⟩
      · exact Or.inl ⟨h1, Or.inr h2⟩
      · exact Or.inr ⟨h1, fun z => z.elim (fun w => by omega) h2⟩
    · rw [if_neg c2]
      rw [Int32.lt_iff_toInt_lt, k2] at c2
      exact Or.inl ⟨rfl, Or.inl ⟨by omega, by omega⟩⟩
def In12 (a : Int) : Prop := (65008 ≤ a ∧ a ≤ 65533) ∨ In13 a
theorem ib12_s (p : Int32) : (ib12 p = 1 ∧ In12 p.toInt) ∨ (ib12 p = 0 ∧ ¬ In12 p.toInt) := by
  have r := ib13_s p
  have k1 : (65008 : Int32).toInt = 65008 := rfl
  have k2 : (65533 : Int32).toInt = 65533 := rfl
  unfold ib12
  by_cases c1 : p < (65008 : Int32)
  · rw [if_pos c1]
    rw [Int32.lt_iff_toInt_lt, k1] at c1
    rcases r with ⟨h1, h2⟩ | ⟨h1, h2⟩
    · exact Or.inl ⟨h1, Or.inr h2⟩
    · exact Or.inr ⟨h1, fun z => z.elim (fun w => by omega) h2⟩
  · rw [if_neg c1]
    rw [Int32.lt_iff_toInt_lt, k1] at c1
    by_cases c2 : (65533 : Int32) < p
    · rw [if_pos c2]
      rw [Int32.lt_iff_toInt_lt, k2] at c2
      rcases r with ⟨h1, h2⟩ | ⟨h1, h2⟩
      · exact Or.inl ⟨h1, Or.inr h2⟩
      · exact Or.inr ⟨h1, fun z => z.elim (fun w => by omega) h2⟩
    · rw [if_neg c2]
      rw [Int32.lt_iff_toInt_lt, k2] at c2
      exact Or.inl ⟨rfl, Or.inl ⟨by omega, by omega⟩⟩
def In11 (a : Int) : Prop := (63744 ≤ a ∧ a ≤ 64975) ∨ In12 a
theorem ib11_s (p : Int32) : (ib11 p = 1 ∧ In11 p.toInt) ∨ (ib11 p = 0 ∧ ¬ In11 p.toInt) := by
  have r := ib12_s p
  have k1 : (63744 : Int32).toInt = 63744 := rfl
  have k2 : (64975 : Int32).toInt = 64975 := rfl
  unfold ib11
  by_cases c1 : p < (63744 : Int32)
  · rw [if_pos c1]
    rw [Int32.lt_iff_toInt_lt, k1] at c1
    rcases r with ⟨h1, h2⟩ | ⟨h1, h2⟩
    · exact Or.inl ⟨h1, Or.inr h2⟩
    · exact Or.inr ⟨h1, fun z => z.elim (fun w => by omega) h2⟩
  · rw [if_neg c1]
    rw [Int32.lt_iff_toInt_lt, k1] at c1
    by_cases c2 : (64975 : Int32) < p
    · rw [if_pos c2]
      rw [Int32.lt_iff_toInt_lt, k2] at c2
      rcases r with ⟨h1, h2⟩ | ⟨h1, h2⟩
      · exact Or.inl ⟨h1, Or.inr h2⟩
      · exact Or.inr ⟨h1, fun z => z.elim (fun w => by omega) h2⟩
    · rw [if_neg c2]
      rw [Int32.lt_iff_toInt_lt, k2] at c2
      exact Or.inl ⟨rfl, Or.inl ⟨by omega, by omega⟩⟩
def In10 (a : Int) : Prop := (12289 ≤ a ∧ a ≤ 55295) ∨ In11 a
theorem ib10_s (p : Int32) : (ib10 p = 1 ∧ In10 p.toInt) ∨ (ib10 p = 0 ∧ ¬ In10 p.toInt) := by
  have r := ib11_s p
  have k1 : (12289 : Int32).toInt = 12289 := rfl
  have k2 : (55295 : Int32).toInt = 55295 := rfl
  unfold ib10
  by_cases c1 : p < (12289 : Int32)
  · rw [if_pos c1]
    rw [Int32.lt_iff_toInt_lt, k1] at c1
    rcases r with ⟨h1, h2⟩ | ⟨h1, h2⟩
    · exact Or.inl ⟨h1, Or.inr h2⟩
    · exact Or.inr ⟨h1, fun z => z.elim (fun w => by omega) h2⟩
  · rw [if_neg c1]
    rw [Int32.lt_iff_toInt_lt, k1] at c1
    by_cases c2 : (55295 : Int32) < p
    · rw [if_pos c2]
      rw [Int32.lt_iff_toInt_lt, k2] at c2
      rcases r with ⟨h1, h2⟩ | ⟨h1, h2⟩
      · exact Or.inl ⟨h1, Or.inr h2⟩
      · exact Or.inr ⟨h1, fun z => z.elim (fun w => by omega) h2⟩
    · rw [if_neg c2]
      rw [Int32.lt_iff_toInt_lt, k2] at c2
      exact Or.inl ⟨rfl, Or.inl ⟨by omega, by omega⟩⟩
def In9 (a : Int) : Prop := (11264 ≤ a ∧ a ≤ 12271) ∨ In10 a
theorem ib9_s (p : Int32) : (ib9 p = 1 ∧ In9 p.toInt) ∨ (ib9 p = 0 ∧ ¬ In9 p.toInt) := by
  have r := ib10_s p
  have k1 : (11264 : Int32).toInt = 11264 := rfl
  have k2 : (12271 : Int32).toInt = 12271 := rfl
  unfold ib9
  by_cases c1 : p < (11264 : Int32)
  · rw [if_pos c1]
    rw [Int32.lt_iff_toInt_lt, k1] at c1
    rcases r with ⟨h1, h2⟩ | ⟨h1, h2⟩
    · exact Or.inl ⟨h1, Or.inr h2⟩
    · exact Or.inr ⟨h1, fun z => z.elim (fun w => by omega) h2⟩
  · rw [if_neg c1]
    rw [Int32.lt_iff_toInt_lt, k1] at c1
    by_cases c2 : (12271 : Int32) < p
    · rw [if_pos c2]
      rw [Int32.lt_iff_toInt_lt, k2] at c2
      rcases r with ⟨h1, h2⟩ | ⟨h1, h2⟩
      · exact Or.inl ⟨h1, Or.inr h2⟩
      · exact Or.inr ⟨h1, fun z => z.elim (fun w => by omega) h2⟩
    · rw [if_neg c2]
      rw [Int32.lt_iff_toInt_lt, k2] at c2
      exact Or.inl ⟨rfl, Or.inl ⟨by omega, by omega⟩⟩
def In8 (a : Int) : Prop := (8304 ≤ a ∧ a ≤ 8591) ∨ In9 a
theorem ib8_s (p : Int32) : (ib8 p = 1 ∧ In8 p.toInt) ∨ (ib8 p = 0 ∧ ¬ In8 p.toInt) := by
  have r := ib9_s p
  have k1 : (8304 : Int32).toInt = 8304 := rfl
  have k2 : (8591 : Int32).toInt = 8591 := rfl
  unfold ib8
  by_cases c1 : p < (8304 : Int32)
  · rw [if_pos c1]
    rw [Int32.lt_iff_toInt_lt, k1] at c1
    rcases r with ⟨h1, h2⟩ | ⟨h1, h2⟩
    · exact Or.inl ⟨h1, Or.inr h2⟩
    · exact Or.inr ⟨h1, fun z => z.elim (fun w => by omega) h2⟩
  · rw [if_neg c1]
    rw [Int32.lt_iff_toInt_lt, k1] at c1
    by_cases c2 : (8591 : Int32) < p
    · rw [if_pos c2]
      rw [Int32.lt_iff_toInt_lt, k2] at c2
      rcases r with ⟨h1, h2⟩ | ⟨h1, h2⟩
      · exact Or.inl ⟨h1, Or.inr h2⟩
      · exact Or.inr ⟨h1, fun z => z.elim (fun w => by omega) h2⟩
    · rw [if_neg c2]
      rw [Int32.lt_iff_toInt_lt, k2] at c2
      exact Or.inl ⟨rfl, Or.inl ⟨by omega, by omega⟩⟩
def In7 (a : Int) : Prop := (8204 ≤ a ∧ a ≤ 8205) ∨ In8 a
theorem ib7_s (p : Int32) : (ib7 p = 1 ∧ In7 p.toInt) ∨ (ib7 p = 0 ∧ ¬ In7 p.toInt) := by
  have r := ib8_s p
  have k1 : (8204 : Int32).toInt = 8204 := rfl
  have k2 : (8205 : Int32).toInt = 8205 := rfl
  unfold ib7
  by_cases c1 : p < (8204 : Int32)
  · rw [if_pos c1]
    rw [Int32.lt_iff_toInt_lt, k1] at c1
    rcases r with ⟨h1, h2⟩ | ⟨h1, h2⟩
    · exact Or.inl ⟨h1, Or.inr h2⟩
    · exact Or.inr ⟨h1, fun z => z.elim (fun w => by omega) h2⟩
  · rw [if_neg c1]
    rw [Int32.lt_iff_toInt_lt, k1] at c1
    by_cases c2 : (8205 : Int32) < p
    · rw [if_pos c2]
      rw [Int32.lt_iff_toInt_lt, k2] at c2
      rcases r with ⟨h1, h2⟩ | ⟨h1, h2⟩
      · exact Or.inl ⟨h1, Or.inr h2⟩
      · exact Or.inr ⟨h1, fun z => z.elim (fun w => by omega) h2⟩
    · rw [if_neg c2]
      rw [Int32.lt_iff_toInt_lt, k2] at c2
      exact Or.inl ⟨rfl, Or.inl ⟨by omega, by omega⟩⟩
def In6 (a : Int) : Prop := (895 ≤ a ∧ a ≤ 8191) ∨ In7 a
theorem ib6_s (p : Int32) : (ib6 p = 1 ∧ In6 p.toInt) ∨ (ib6 p = 0 ∧ ¬ In6 p.toInt) := by
  have r := ib7_s p
  have k1 : (895 : Int32).toInt = 895 := rfl
  have k2 : (8191 : Int32).toInt = 8191 := rfl
  unfold ib6
  by_cases c1 : p < (895 : Int32)
  · rw [if_pos c1]
    rw [Int32.lt_iff_toInt_lt, k1] at c1
    rcases r with ⟨h1, h2⟩ | ⟨h1, h2⟩
    · exact Or.inl ⟨h1, Or.inr h2⟩
    · exact Or.inr ⟨h1, fun z => z.elim (fun w => by omega) h2⟩
  · rw [if_neg c1]
    rw [Int32.lt_iff_toInt_lt, k1] at c1
    by_cases c2 : (8191 : Int32) < p
    · rw [if_pos c2]
      rw [Int32.lt_iff_toInt_lt, k2] at c2
      rcases r with ⟨h1, h2⟩ | ⟨h1, h2⟩
      · exact Or.inl ⟨h1, Or.inr h2⟩
      · exact Or.inr ⟨h1, fun z => z.elim (fun w => by omega) h2⟩
    · rw [if_neg c2]
      rw [Int32.lt_iff_toInt_lt, k2] at c2
      exact Or.inl ⟨rfl, Or.inl ⟨by omega, by omega⟩⟩
def In5 (a : Int) : Prop := (880 ≤ a ∧ a ≤ 893) ∨ In6 a
theorem ib5_s (p : Int32) : (ib5 p = 1 ∧ In5 p.toInt) ∨ (ib5 p = 0 ∧ ¬ In5 p.toInt) := by
  have r := ib6_s p
  have k1 : (880 : Int32).toInt = 880 := rfl
  have k2 : (893 : Int32).toInt = 893 := rfl
  unfold ib5
  by_cases c1 : p < (880 : Int32)
  · rw [if_pos c1]
    rw [Int32.lt_iff_toInt_lt, k1] at c1
    rcases r with ⟨h1, h2⟩ | ⟨h1, h2⟩
    · exact Or.inl ⟨h1, Or.inr h2⟩
    · exact Or.inr ⟨h1, fun z => z.elim (fun w => by omega) h2⟩
  · rw [if_neg c1]
    rw [Int32.lt_iff_toInt_lt, k1] at c1
    by_cases c2 : (893 : Int32) < p
    · rw [if_pos c2]
      rw [Int32.lt_iff_toInt_lt, k2] at c2
      rcases r with ⟨h1, h2⟩ | ⟨h1, h2⟩
      · exact Or.inl ⟨h1, Or.inr h2⟩
      · exact Or.inr ⟨h1, fun z => z.elim (fun w => by omega) h2⟩
    · rw [if_neg c2]
      rw [Int32.lt_iff_toInt_lt, k2] at c2
      exact Or.inl ⟨rfl, Or.inl ⟨by omega, by omega⟩⟩
def In4 (a : Int) : Prop := (248 ≤ a ∧ a ≤ 767) ∨ In5 a
theorem ib4_s (p : Int32) : (ib4 p = 1 ∧ In4 p.toInt) ∨ (ib4 p = 0 ∧ ¬ In4 p.toInt) := by
  have r := ib5_s p
  have k1 : (248 : Int32).toInt = 248 := rfl
  have k2 : (767 : Int32).toInt = 767 := rfl
  unfold ib4
  by_cases c1 : p < (248 : Int32)
  · rw [if_pos c1]
    rw [Int32.lt_iff_toInt_lt, k1] at c1
    rcases r with ⟨h1, h2⟩ | ⟨h1, h2⟩
    · exact Or.inl ⟨h1, Or.inr h2⟩
    · exact Or.inr ⟨h1, fun z => z.elim (fun w => by omega) h2⟩
  · rw [if_neg c1]
    rw [Int32.lt_iff_toInt_lt, k1] at c1
    by_cases c2 : (767 : Int32) < p
    · rw [if_pos c2]
      rw [Int32.lt_iff_toInt_lt, k2] at c2
      rcases r with ⟨h1, h2⟩ | ⟨h1, h2⟩
      · exact Or.inl ⟨h1, Or.inr h2⟩
      · exact Or.inr ⟨h1, fun z => z.elim (fun w => by omega) h2⟩
    · rw [if_neg c2]
      rw [Int32.lt_iff_toInt_lt, k2] at c2
      exact Or.inl ⟨rfl, Or.inl ⟨by omega, by omega⟩⟩
def In3 (a : Int) : Prop := (216 ≤ a ∧ a ≤ 246) ∨ In4 a
theorem ib3_s (p : Int32) : (ib3 p = 1 ∧ In3 p.toInt) ∨ (ib3 p = 0 ∧ ¬ In3 p.toInt) := by
  have r := ib4_s p
  have k1 : (216 : Int32).toInt = 216 := rfl
  have k2 : (246 : Int32).toInt = 246 := rfl
  unfold ib3
  by_cases c1 : p < (216 : Int32)
  · rw [if_pos c1]
    rw [Int32.lt_iff_toInt_lt, k1] at c1
    rcases r with ⟨h1, h2⟩ | ⟨h1, h2⟩
    · exact Or.inl ⟨h1, Or.inr h2⟩
    · exact Or.inr ⟨h1, fun z => z.elim (fun w => by omega) h2⟩
  · rw [if_neg c1]
    rw [Int32.lt_iff_toInt_lt, k1] at c1
    by_cases c2 : (246 : Int32) < p
    · rw [if_pos c2]
      rw [Int32.lt_iff_toInt_lt, k2] at c2
      rcases r with ⟨h1, h2⟩ | ⟨h1, h2⟩
      · exact Or.inl ⟨h1, Or.inr h2⟩
      · exact Or.inr ⟨h1, fun z => z.elim (fun w => by omega) h2⟩
    · rw [if_neg c2]
      rw [Int32.lt_iff_toInt_lt, k2] at c2
      exact Or.inl ⟨rfl, Or.inl ⟨by omega, by omega⟩⟩
def In2 (a : Int) : Prop := (192 ≤ a ∧ a ≤ 214) ∨ In3 a
theorem ib2_s (p : Int32) : (ib2 p = 1 ∧ In2 p.toInt) ∨ (ib2 p = 0 ∧ ¬ In2 p.toInt) := by
  have r := ib3_s p
  have k1 : (192 : Int32).toInt = 192 := rfl
  have k2 : (214 : Int32).toInt = 214 := rfl
  unfold ib2
  by_cases c1 : p < (192 : Int32)
  · rw [if_pos c1]
    rw [Int32.lt_iff_toInt_lt, k1] at c1
    rcases r with ⟨h1, h2⟩ | ⟨h1, h2⟩
    · exact Or.inl ⟨h1, Or.inr h2⟩
    · exact Or.inr ⟨h1, fun z => z.elim (fun w => by omega) h2⟩
  · rw [if_neg c1]
    rw [Int32.lt_iff_toInt_lt, k1] at c1
    by_cases c2 : (214 : Int32) < p
    · rw [if_pos c2]
      rw [Int32.lt_iff_toInt_lt, k2] at c2
      rcases r with ⟨h1, h2⟩ | ⟨h1, h2⟩
      · exact Or.inl ⟨h1, Or.inr h2⟩
      · exact Or.inr ⟨h1, fun z => z.elim (fun w => by omega) h2⟩
    · rw [if_neg c2]
      rw [Int32.lt_iff_toInt_lt, k2] at c2
      exact Or.inl ⟨rfl, Or.inl ⟨by omega, by omega⟩⟩
def In1 (a : Int) : Prop := (65 ≤ a ∧ a ≤ 90) ∨ In2 a
theorem ib1_s (p : Int32) : (ib1 p = 1 ∧ In1 p.toInt) ∨ (ib1 p = 0 ∧ ¬ In1 p.toInt) := by
  have r := ib2_s p
  have k1 : (65 : Int32).toInt = 65 := rfl
  have k2 : (90 : Int32).toInt = 90 := rfl
  unfold ib1
  by_cases c1 : p < (65 : Int32)
  · rw [if_pos c1]
    rw [Int32.lt_iff_toInt_lt, k1] at c1
    rcases r with ⟨h1, h2⟩ | ⟨h1, h2⟩
    · exact Or.inl ⟨h1, Or.inr h2⟩
    · exact Or.inr ⟨h1, fun z => z.elim (fun w => by omega) h2⟩
  · rw [if_neg c1]
    rw [Int32.lt_iff_toInt_lt, k1] at c1
    by_cases c2 : (90 : Int32) < p
    · rw [if_pos c2]
      rw [Int32.lt_iff_toInt_lt, k2] at c2
      rcases r with ⟨h1, h2⟩ | ⟨h1, h2⟩
      · exact Or.inl ⟨h1, Or.inr h2⟩
      · exact Or.inr ⟨h1, fun z => z.elim (fun w => by omega) h2⟩
    · rw [if_neg c2]
      rw [Int32.lt_iff_toInt_lt, k2] at c2
      exact Or.inl ⟨rfl, Or.inl ⟨by omega, by omega⟩⟩
def In0 (a : Int) : Prop := (97 ≤ a ∧ a ≤ 122) ∨ In1 a
theorem ib0_s (p : Int32) : (ib0 p = 1 ∧ In0 p.toInt) ∨ (ib0 p = 0 ∧ ¬ In0 p.toInt) := by
  have r := ib1_s p
  have k1 : (97 : Int32).toInt = 97 := rfl
  have k2 : (122 : Int32).toInt = 122 := rfl
  unfold ib0
  by_cases c1 : p < (97 : Int32)
  · rw [if_pos c1]
    rw [Int32.lt_iff_toInt_lt, k1] at c1
    rcases r with ⟨h1, h2⟩ | ⟨h1, h2⟩
    · exact Or.inl ⟨h1, Or.inr h2⟩
    · exact Or.inr ⟨h1, fun z => z.elim (fun w => by omega) h2⟩
  · rw [if_neg c1]
    rw [Int32.lt_iff_toInt_lt, k1] at c1
    by_cases c2 : (122 : Int32) < p
    · rw [if_pos c2]
      rw [Int32.lt_iff_toInt_lt, k2] at c2
      rcases r with ⟨h1, h2⟩ | ⟨h1, h2⟩
      · exact Or.inl ⟨h1, Or.inr h2⟩
      · exact Or.inr ⟨h1, fun z => z.elim (fun w => by omega) h2⟩
    · rw [if_neg c2]
      rw [Int32.lt_iff_toInt_lt, k2] at c2
      exact Or.inl ⟨rfl, Or.inl ⟨by omega, by omega⟩⟩
def loL : List Int32 := [65, 97, 192, 216, 248, 880, 895, 8204, 8304, 11264, 12289, 63744, 65008, 65536]
def hiL : List Int32 := [90, 122, 214, 246, 767, 893, 8191, 8205, 8591, 12271, 55295, 64975, 65533, 983039]
theorem ib_one {p : Int32} (h : In0 p.toInt) : ib0 p = 1 := (ib0_s p).elim (fun z => z.1) (fun z => absurd h z.2)
theorem ib_zero {p : Int32} (h : ¬ In0 p.toInt) : ib0 p = 0 := (ib0_s p).elim (fun z => absurd z.2 h) (fun z => z.1)
theorem addrem (lo w u : Int32) (a b : Int) (hu : 0 ≤ u.toInt) (h1 : lo.toInt = a) (h2 : w.toInt = b) (hb : 0 < b) (ha : 0 ≤ a) (hs : a + b ≤ 2147483647) : a ≤ (lo + u % w).toInt ∧ (lo + u % w).toInt < a + b := by
  have r := (c_irem u w b h2).1 hu
  have q1 := Int.emod_nonneg u.toInt (by omega : b ≠ 0)
  have q2 := Int.emod_lt_of_pos u.toInt hb
  have e : (lo + u % w).toInt = a + u.toInt % b := by
    rw [Jvm.Free.XT.add32, h1, r]; rw [h1, r]; constructor <;> omega
  omega
theorem inR (u : Int32) (hu : 0 ≤ u.toInt) : ∀ k, k < 14 → ib0 (loL.getD k 0 + u % (hiL.getD k 0 - loL.getD k 0 + 1)) = 1 ∧ (hiL.getD k 0 - loL.getD k 0 + 1) ≠ 0
  | 0, _ => by
    have e1 : loL.getD 0 0 = (65 : Int32) := by decide
    have e2 : (hiL.getD 0 0 - loL.getD 0 0 + 1) = (26 : Int32) := by decide
    refine ⟨ib_one ?_, by decide⟩
    rw [e2, e1]
    have := addrem 65 26 u 65 26 hu rfl rfl (by omega) (by omega) (by omega)
    simp only [In0, In1, In2, In3, In4, In5, In6, In7, In8, In9, In10, In11, In12, In13, or_false]; omega
  | 1, _ => by
    have e1 : loL.getD 1 0 = (97 : Int32) := by decide
    have e2 : (hiL.getD 1 0 - loL.getD 1 0 + 1) = (26 : Int32) := by decide
    refine ⟨ib_one ?_, by decide⟩
    rw [e2, e1]
    have := addrem 97 26 u 97 26 hu rfl rfl (by omega) (by omega) (by omega)
    simp only [In0, In1, In2, In3, In4, In5, In6, In7, In8, In9, In10, In11, In12, In13, or_false]; omega
  | 2, _ => by
    have e1 : loL.getD 2 0 = (192 : Int32) := by decide
    have e2 : (hiL.getD 2 0 - loL.getD 2 0 + 1) = (23 : Int32) := by decide
    refine ⟨ib_one ?_, by decide⟩
    rw [e2, e1]
    have := addrem 192 23 u 192 23 hu rfl rfl (by omega) (by omega) (by omega)
    simp only [In0, In1, In2, In3, In4, In5, In6, In7, In8, In9, In10, In11, In12, In13, or_false]; omega
  | 3, _ => by
    have e1 : loL.getD 3 0 = (216 : Int32) := by decide
    have e2 : (hiL.getD 3 0 - loL.getD 3 0 + 1) = (31 : Int32) := by decide
    refine ⟨ib_one ?_, by decide⟩
    rw [e2, e1]
    have := addrem 216 31 u 216 31 hu rfl rfl (by omega) (by omega) (by omega)
    simp only [In0, In1, In2, In3, In4, In5, In6, In7, In8, In9, In10, In11, In12, In13, or_false]; omega
  | 4, _ => by
    have e1 : loL.getD 4 0 = (248 : Int32) := by decide
    have e2 : (hiL.getD 4 0 - loL.getD 4 0 + 1) = (520 : Int32) := by decide
    refine ⟨ib_one ?_, by decide⟩
    rw [e2, e1]
    have := addrem 248 520 u 248 520 hu rfl rfl (by omega) (by omega) (by omega)
    simp only [In0, In1, In2, In3, In4, In5, In6, In7, In8, In9, In10, In11, In12, In13, or_false]; omega
  | 5, _ => by
    have e1 : loL.getD 5 0 = (880 : Int32) := by decide
    have e2 : (hiL.getD 5 0 - loL.getD 5 0 + 1) = (14 : Int32) := by decide
    refine ⟨ib_one ?_, by decide⟩
    rw [e2, e1]
    have := addrem 880 14 u 880 14 hu rfl rfl (by omega) (by omega) (by omega)
    simp only [In0, In1, In2, In3, In4, In5, In6, In7, In8, In9, In10, In11, In12, In13, or_false]; omega
  | 6, _ => by
    have e1 : loL.getD 6 0 = (895 : Int32) := by decide
    have e2 : (hiL.getD 6 0 - loL.getD 6 0 + 1) = (7297 : Int32) := by decide
    refine ⟨ib_one ?_, by decide⟩
    rw [e2, e1]
    have := addrem 895 7297 u 895 7297 hu rfl rfl (by omega) (by omega) (by omega)
    simp only [In0, In1, In2, In3, In4, In5, In6, In7, In8, In9, In10, In11, In12, In13, or_false]; omega
  | 7, _ => by
    have e1 : loL.getD 7 0 = (8204 : Int32) := by decide
    have e2 : (hiL.getD 7 0 - loL.getD 7 0 + 1) = (2 : Int32) := by decide
    refine ⟨ib_one ?_, by decide⟩
    rw [e2, e1]
    have := addrem 8204 2 u 8204 2 hu rfl rfl (by omega) (by omega) (by omega)
    simp only [In0, In1, In2, In3, In4, In5, In6, In7, In8, In9, In10, In11, In12, In13, or_false]; omega
  | 8, _ => by
    have e1 : loL.getD 8 0 = (8304 : Int32) := by decide
    have e2 : (hiL.getD 8 0 - loL.getD 8 0 + 1) = (288 : Int32) := by decide
    refine ⟨ib_one ?_, by decide⟩
    rw [e2, e1]
    have := addrem 8304 288 u 8304 288 hu rfl rfl (by omega) (by omega) (by omega)
    simp only [In0, In1, In2, In3, In4, In5, In6, In7, In8, In9, In10, In11, In12, In13, or_false]; omega
  | 9, _ => by
    have e1 : loL.getD 9 0 = (11264 : Int32) := by decide
    have e2 : (hiL.getD 9 0 - loL.getD 9 0 + 1) = (1008 : Int32) := by decide
    refine ⟨ib_one ?_, by decide⟩
    rw [e2, e1]
    have := addrem 11264 1008 u 11264 1008 hu rfl rfl (by omega) (by omega) (by omega)
    simp only [In0, In1, In2, In3, In4, In5, In6, In7, In8, In9, In10, In11, In12, In13, or_false]; omega
  | 10, _ => by
    have e1 : loL.getD 10 0 = (12289 : Int32) := by decide
    have e2 : (hiL.getD 10 0 - loL.getD 10 0 + 1) = (43007 : Int32) := by decide
    refine ⟨ib_one ?_, by decide⟩
    rw [e2, e1]
    have := addrem 12289 43007 u 12289 43007 hu rfl rfl (by omega) (by omega) (by omega)
    simp only [In0, In1, In2, In3, In4, In5, In6, In7, In8, In9, In10, In11, In12, In13, or_false]; omega
  | 11, _ => by
    have e1 : loL.getD 11 0 = (63744 : Int32) := by decide
    have e2 : (hiL.getD 11 0 - loL.getD 11 0 + 1) = (1232 : Int32) := by decide
    refine ⟨ib_one ?_, by decide⟩
    rw [e2, e1]
    have := addrem 63744 1232 u 63744 1232 hu rfl rfl (by omega) (by omega) (by omega)
    simp only [In0, In1, In2, In3, In4, In5, In6, In7, In8, In9, In10, In11, In12, In13, or_false]; omega
  | 12, _ => by
    have e1 : loL.getD 12 0 = (65008 : Int32) := by decide
    have e2 : (hiL.getD 12 0 - loL.getD 12 0 + 1) = (526 : Int32) := by decide
    refine ⟨ib_one ?_, by decide⟩
    rw [e2, e1]
    have := addrem 65008 526 u 65008 526 hu rfl rfl (by omega) (by omega) (by omega)
    simp only [In0, In1, In2, In3, In4, In5, In6, In7, In8, In9, In10, In11, In12, In13, or_false]; omega
  | 13, _ => by
    have e1 : loL.getD 13 0 = (65536 : Int32) := by decide
    have e2 : (hiL.getD 13 0 - loL.getD 13 0 + 1) = (917504 : Int32) := by decide
    refine ⟨ib_one ?_, by decide⟩
    rw [e2, e1]
    have := addrem 65536 917504 u 65536 917504 hu rfl rfl (by omega) (by omega) (by omega)
    simp only [In0, In1, In2, In3, In4, In5, In6, In7, In8, In9, In10, In11, In12, In13, or_false]; omega
  | k + 14, h => absurd h (by omega)
theorem inG (u : Int32) (hu : 0 ≤ u.toInt) : ∀ k, k < 13 → ib0 (hiL.getD k 0 + 1 + u % (loL.getD (k + 1) 0 - hiL.getD k 0 - 1)) = 0 ∧ (loL.getD (k + 1) 0 - hiL.getD k 0 - 1) ≠ 0
  | 0, _ => by
    have e1 : hiL.getD 0 0 + 1 = (91 : Int32) := by decide
    have e2 : (loL.getD (0 + 1) 0 - hiL.getD 0 0 - 1) = (6 : Int32) := by decide
    refine ⟨ib_zero ?_, by decide⟩
    rw [e2, e1]
    have := addrem 91 6 u 91 6 hu rfl rfl (by omega) (by omega) (by omega)
    simp only [In0, In1, In2, In3, In4, In5, In6, In7, In8, In9, In10, In11, In12, In13, or_false]; omega
  | 1, _ => by
    have e1 : hiL.getD 1 0 + 1 = (123 : Int32) := by decide
    have e2 : (loL.getD (1 + 1) 0 - hiL.getD 1 0 - 1) = (69 : Int32) := by decide
    refine ⟨ib_zero ?_, by decide⟩
    rw [e2, e1]
    have := addrem 123 69 u 123 69 hu rfl rfl (by omega) (by omega) (by omega)
    simp only [In0, In1, In2, In3, In4, In5, In6, In7, In8, In9, In10, In11, In12, In13, or_false]; omega
  | 2, _ => by
    have e1 : hiL.getD 2 0 + 1 = (215 : Int32) := by decide
    have e2 : (loL.getD (2 + 1) 0 - hiL.getD 2 0 - 1) = (1 : Int32) := by decide
    refine ⟨ib_zero ?_, by decide⟩
    rw [e2, e1]
    have := addrem 215 1 u 215 1 hu rfl rfl (by omega) (by omega) (by omega)
    simp only [In0, In1, In2, In3, In4, In5, In6, In7, In8, In9, In10, In11, In12, In13, or_false]; omega
  | 3, _ => by
    have e1 : hiL.getD 3 0 + 1 = (247 : Int32) := by decide
    have e2 : (loL.getD (3 + 1) 0 - hiL.getD 3 0 - 1) = (1 : Int32) := by decide
    refine ⟨ib_zero ?_, by decide⟩
    rw [e2, e1]
    have := addrem 247 1 u 247 1 hu rfl rfl (by omega) (by omega) (by omega)
    simp only [In0, In1, In2, In3, In4, In5, In6, In7, In8, In9, In10, In11, In12, In13, or_false]; omega
  | 4, _ => by
    have e1 : hiL.getD 4 0 + 1 = (768 : Int32) := by decide
    have e2 : (loL.getD (4 + 1) 0 - hiL.getD 4 0 - 1) = (112 : Int32) := by decide
    refine ⟨ib_zero ?_, by decide⟩
    rw [e2, e1]
    have := addrem 768 112 u 768 112 hu rfl rfl (by omega) (by omega) (by omega)
    simp only [In0, In1, In2, In3, In4, In5, In6, In7, In8, In9, In10, In11, In12, In13, or_false]; omega
  | 5, _ => by
    have e1 : hiL.getD 5 0 + 1 = (894 : Int32) := by decide
    have e2 : (loL.getD (5 + 1) 0 - hiL.getD 5 0 - 1) = (1 : Int32) := by decide
    refine ⟨ib_zero ?_, by decide⟩
    rw [e2, e1]
    have := addrem 894 1 u 894 1 hu rfl rfl (by omega) (by omega) (by omega)
    simp only [In0, In1, In2, In3, In4, In5, In6, In7, In8, In9, In10, In11, In12, In13, or_false]; omega
  | 6, _ => by
    have e1 : hiL.getD 6 0 + 1 = (8192 : Int32) := by decide
    have e2 : (loL.getD (6 + 1) 0 - hiL.getD 6 0 - 1) = (12 : Int32) := by decide
    refine ⟨ib_zero ?_, by decide⟩
    rw [e2, e1]
    have := addrem 8192 12 u 8192 12 hu rfl rfl (by omega) (by omega) (by omega)
    simp only [In0, In1, In2, In3, In4, In5, In6, In7, In8, In9, In10, In11, In12, In13, or_false]; omega
  | 7, _ => by
    have e1 : hiL.getD 7 0 + 1 = (8206 : Int32) := by decide
    have e2 : (loL.getD (7 + 1) 0 - hiL.getD 7 0 - 1) = (98 : Int32) := by decide
    refine ⟨ib_zero ?_, by decide⟩
    rw [e2, e1]
    have := addrem 8206 98 u 8206 98 hu rfl rfl (by omega) (by omega) (by omega)
    simp only [In0, In1, In2, In3, In4, In5, In6, In7, In8, In9, In10, In11, In12, In13, or_false]; omega
  | 8, _ => by
    have e1 : hiL.getD 8 0 + 1 = (8592 : Int32) := by decide
    have e2 : (loL.getD (8 + 1) 0 - hiL.getD 8 0 - 1) = (2672 : Int32) := by decide
    refine ⟨ib_zero ?_, by decide⟩
    rw [e2, e1]
    have := addrem 8592 2672 u 8592 2672 hu rfl rfl (by omega) (by omega) (by omega)
    simp only [In0, In1, In2, In3, In4, In5, In6, In7, In8, In9, In10, In11, In12, In13, or_false]; omega
  | 9, _ => by
    have e1 : hiL.getD 9 0 + 1 = (12272 : Int32) := by decide
    have e2 : (loL.getD (9 + 1) 0 - hiL.getD 9 0 - 1) = (17 : Int32) := by decide
    refine ⟨ib_zero ?_, by decide⟩
    rw [e2, e1]
    have := addrem 12272 17 u 12272 17 hu rfl rfl (by omega) (by omega) (by omega)
    simp only [In0, In1, In2, In3, In4, In5, In6, In7, In8, In9, In10, In11, In12, In13, or_false]; omega
  | 10, _ => by
    have e1 : hiL.getD 10 0 + 1 = (55296 : Int32) := by decide
    have e2 : (loL.getD (10 + 1) 0 - hiL.getD 10 0 - 1) = (8448 : Int32) := by decide
    refine ⟨ib_zero ?_, by decide⟩
    rw [e2, e1]
    have := addrem 55296 8448 u 55296 8448 hu rfl rfl (by omega) (by omega) (by omega)
    simp only [In0, In1, In2, In3, In4, In5, In6, In7, In8, In9, In10, In11, In12, In13, or_false]; omega
  | 11, _ => by
    have e1 : hiL.getD 11 0 + 1 = (64976 : Int32) := by decide
    have e2 : (loL.getD (11 + 1) 0 - hiL.getD 11 0 - 1) = (32 : Int32) := by decide
    refine ⟨ib_zero ?_, by decide⟩
    rw [e2, e1]
    have := addrem 64976 32 u 64976 32 hu rfl rfl (by omega) (by omega) (by omega)
    simp only [In0, In1, In2, In3, In4, In5, In6, In7, In8, In9, In10, In11, In12, In13, or_false]; omega
  | 12, _ => by
    have e1 : hiL.getD 12 0 + 1 = (65534 : Int32) := by decide
    have e2 : (loL.getD (12 + 1) 0 - hiL.getD 12 0 - 1) = (2 : Int32) := by decide
    refine ⟨ib_zero ?_, by decide⟩
    rw [e2, e1]
    have := addrem 65534 2 u 65534 2 hu rfl rfl (by omega) (by omega) (by omega)
    simp only [In0, In1, In2, In3, In4, In5, In6, In7, In8, In9, In10, In11, In12, In13, or_false]; omega
  | k + 13, h => absurd h (by omega)
theorem ib_out {c : Int32} (h : c < 65 ∨ (983039 : Int32) < c) : ib0 c = 0 := by
  apply ib_zero
  rw [Int32.lt_iff_toInt_lt, Int32.lt_iff_toInt_lt] at h
  have k1 : (65 : Int32).toInt = 65 := rfl
  have k2 : (983039 : Int32).toInt = 983039 := rfl
  rw [k1, k2] at h
  simp only [In0, In1, In2, In3, In4, In5, In6, In7, In8, In9, In10, In11, In12, In13, or_false]; omega
theorem pn_1 : plainName (x.cls) = true := by first | (simp [plainName, overriddenIn]; done) | decide +kernel
theorem ef_0 (m : MethodId) (x0 : Int32) (x1 : Int32) (x2 : Int32) : entryFrame m #[(.int x0), (.int x1), (.int x2)] maxLocals = mkF m 0 #[.val (.int x0), .val (.int x1), .val (.int x2), .unset, .unset, .unset, .unset, .unset, .unset, .unset, .unset, .unset, .unset, .unset] [] := by first | (simp [entryFrame, mkF, argsToLocals, Value.category, maxLocals]; done) | rfl
theorem pd_0 : parseMethodDescriptor "(I)Z" = some ⟨[.int], some .boolean⟩ := by decide +kernel
set_option maxRecDepth 65536 in
set_option maxHeartbeats 40000000 in
theorem rm0 (l : Launch) (Z : State) (a0 : Array Value) (hw : ∀ d ∈ tables_1, d.before a0 Z = true) (p0 : Int32) (p1 : Int32) (p2 : Int32) (h0 : Heap) (n0 : Nat) (Z0 : n0 ≤ h0.size) :
    Con l Z x code maxLocals ret room_1 #[(.int p0), (.int p1), (.int p2)] h0 n0 (fun v h => v = some (.int 1)) := by
  refine Con.of (own := (x.cls)) (name := "law") (plainFor_of_name pn_1) (fun m => ef_0 m p0 p1 p2) rfl rfl ?_
  intro p e s m below meth c T F S cx st
  refine E_bipush (pc' := 2) cx st (14 : Int32) at_0 rfl rfl ?_
  refine E_newP (pc' := 4) (kc' := 1) (ks' := 14) (cap := 14) cx st (hw _ (List.mem_of_getElem? (i := 0) rfl)) at_2 (by decide) (by decide) (by decide) (by decide) (by decide) (by decide) (by decide) rfl (ad := "[I") (by decide) ?_
  intro T1 h1 ca1 ar1 q1 st1 E1 V1 X1
  have g_ar1 : n0 ≤ ar1 := by rw [q1]; exact Z0
  have Z1 : n0 ≤ h1.size := Nat.le_trans Z0 E1.1
  have V1p : Arv Z h1 ar1 ca1 .int (14 : Int32) [(.int (0 : Int32)), (.int (0 : Int32)), (.int (0 : Int32)), (.int (0 : Int32)), (.int (0 : Int32)), (.int (0 : Int32)), (.int (0 : Int32)), (.int (0 : Int32)), (.int (0 : Int32)), (.int (0 : Int32)), (.int (0 : Int32)), (.int (0 : Int32)), (.int (0 : Int32)), (.int (0 : Int32))] (.int (0 : Int32)) := V1.pad (pad_rep [] (.int (0 : Int32)) 14)
  refine E_dup (pc' := 5) cx st1 at_4 rfl rfl ?_
  refine E_iconst (pc' := 6) cx st1 (0 : Int32) at_5 rfl rfl ?_
  refine E_bipush (pc' := 8) cx st1 (65 : Int32) at_6 rfl rfl ?_
  refine E_iastore (pc' := 9) (i := 0) cx st1 V1p ⟨by decide, by decide⟩ rfl (Nat.le_of_ble_eq_true rfl) g_ar1 at_8 rfl ?_
  intro T2 h2 st2 W2 V2
  have Z2 : n0 ≤ h2.size := Nat.le_trans Z1 (Keep.of_wr W2).1
  have V2p : Arv Z h2 ar1 ca1 .int (14 : Int32) [(.int (65 : Int32)), (.int (0 : Int32)), (.int (0 : Int32)), (.int (0 : Int32)), (.int (0 : Int32)), (.int (0 : Int32)), (.int (0 : Int32)), (.int (0 : Int32)), (.int (0 : Int32)), (.int (0 : Int32)), (.int (0 : Int32)), (.int (0 : Int32)), (.int (0 : Int32)), (.int (0 : Int32))] (.int (0 : Int32)) := V2
  refine E_dup (pc' := 10) cx st2 at_9 rfl rfl ?_
  refine E_iconst (pc' := 11) cx st2 (1 : Int32) at_10 rfl rfl ?_
  refine E_bipush (pc' := 13) cx st2 (97 : Int32) at_11 rfl rfl ?_
  refine E_iastore (pc' := 14) (i := 1) cx st2 V2p ⟨by decide, by decide⟩ rfl (Nat.le_of_ble_eq_true rfl) g_ar1 at_13 rfl ?_
  intro T3 h3 st3 W3 V3
  have Z3 : n0 ≤ h3.size := Nat.le_trans Z2 (Keep.of_wr W3).1
  have V3p : Arv Z h3 ar1 ca1 .int (14 : Int32) [(.int (65 : Int32)), (.int (97 : Int32)), (.int (0 : Int32)), (.int (0 : Int32)), (.int (0 : Int32)), (.int (0 : Int32)), (.int (0 : Int32)), (.int (0 : Int32)), (.int (0 : Int32)), (.int (0 : Int32)), (.int (0 : Int32)), (.int (0 : Int32)), (.int (0 : Int32)), (.int (0 : Int32))] (.int (0 : Int32)) := V3
  refine E_dup (pc' := 15) cx st3 at_14 rfl rfl ?_
  refine E_iconst (pc' := 16) cx st3 (2 : Int32) at_15 rfl rfl ?_
  refine E_sipush (pc' := 19) cx st3 (192 : Int32) at_16 rfl rfl ?_
  refine E_iastore (pc' := 20) (i := 2) cx st3 V3p ⟨by decide, by decide⟩ rfl (Nat.le_of_ble_eq_true rfl) g_ar1 at_19 rfl ?_
  intro T4 h4 st4 W4 V4
  have Z4 : n0 ≤ h4.size := Nat.le_trans Z3 (Keep.of_wr W4).1
  have V4p : Arv Z h4 ar1 ca1 .int (14 : Int32) [(.int (65 : Int32)), (.int (97 : Int32)), (.int (192 : Int32)), (.int (0 : Int32)), (.int (0 : Int32)), (.int (0 : Int32)), (.int (0 : Int32)), (.int (0 : Int32)), (.int (0 : Int32)), (.int (0 : Int32)), (.int (0 : Int32)), (.int (0 : Int32)), (.int (0 : Int32)), (.int (0 : Int32))] (.int (0 : Int32)) := V4
  refine E_dup (pc' := 21) cx st4 at_20 rfl rfl ?_
  refine E_iconst (pc' := 22) cx st4 (3 : Int32) at_21 rfl rfl ?_
  refine E_sipush (pc' := 25) cx st4 (216 : Int32) at_22 rfl rfl ?_
  refine E_iastore (pc' := 26) (i := 3) cx st4 V4p ⟨by decide, by decide⟩ rfl (Nat.le_of_ble_eq_true rfl) g_ar1 at_25 rfl ?_
  intro T5 h5 st5 W5 V5
  have Z5 : n0 ≤ h5.size := Nat.le_trans Z4 (Keep.of_wr W5).1
  have V5p : Arv Z h5 ar1 ca1 .int (14 : Int32) [(.int (65 : Int32)), (.int (97 : Int32)), (.int (192 : Int32)), (.int (216 : Int32)), (.int (0 : Int32)), (.int (0 : Int32)), (.int (0 : Int32)), (.int (0 : Int32)), (.int (0 : Int32)), (.int (0 : Int32)), (.int (0 : Int32)), (.int (0 : Int32)), (.int (0 : Int32)), (.int (0 : Int32))] (.int (0 : Int32)) := V5
  refine E_dup (pc' := 27) cx st5 at_26 rfl rfl ?_
  refine E_iconst (pc' := 28) cx st5 (4 : Int32) at_27 rfl rfl ?_
  refine E_sipush (pc' := 31) cx st5 (248 : Int32) at_28 rfl rfl ?_
  refine E_iastore (pc' := 32) (i := 4) cx st5 V5p ⟨by decide, by decide⟩ rfl (Nat.le_of_ble_eq_true rfl) g_ar1 at_31 rfl ?_
  intro T6 h6 st6 W6 V6
  have Z6 : n0 ≤ h6.size := Nat.le_trans Z5 (Keep.of_wr W6).1
  have V6p : Arv Z h6 ar1 ca1 .int (14 : Int32) [(.int (65 : Int32)), (.int (97 : Int32)), (.int (192 : Int32)), (.int (216 : Int32)), (.int (248 : Int32)), (.int (0 : Int32)), (.int (0 : Int32)), (.int (0 : Int32)), (.int (0 : Int32)), (.int (0 : Int32)), (.int (0 : Int32)), (.int (0 : Int32)), (.int (0 : Int32)), (.int (0 : Int32))] (.int (0 : Int32)) := V6
  refine E_dup (pc' := 33) cx st6 at_32 rfl rfl ?_
  refine E_iconst (pc' := 34) cx st6 (5 : Int32) at_33 rfl rfl ?_
  refine E_sipush (pc' := 37) cx st6 (880 : Int32) at_34 rfl rfl ?_
  refine E_iastore (pc' := 38) (i := 5) cx st6 V6p ⟨by decide, by decide⟩ rfl (Nat.le_of_ble_eq_true rfl) g_ar1 at_37 rfl ?_
  intro T7 h7 st7 W7 V7
  have Z7 : n0 ≤ h7.size := Nat.le_trans Z6 (Keep.of_wr W7).1
  have V7p : Arv Z h7 ar1 ca1 .int (14 : Int32) [(.int (65 : Int32)), (.int (97 : Int32)), (.int (192 : Int32)), (.int (216 : Int32)), (.int (248 : Int32)), (.int (880 : Int32)), (.int (0 : Int32)), (.int (0 : Int32)), (.int (0 : Int32)), (.int (0 : Int32)), (.int (0 : Int32)), (.int (0 : Int32)), (.int (0 : Int32)), (.int (0 : Int32))] (.int (0 : Int32)) := V7
  refine E_dup (pc' := 39) cx st7 at_38 rfl rfl ?_
  refine E_bipush (pc' := 41) cx st7 (6 : Int32) at_39 rfl rfl ?_
  refine E_sipush (pc' := 44) cx st7 (895 : Int32) at_41 rfl rfl ?_
  refine E_iastore (pc' := 45) (i := 6) cx st7 V7p ⟨by decide, by decide⟩ rfl (Nat.le_of_ble_eq_true rfl) g_ar1 at_44 rfl ?_
  intro T8 h8 st8 W8 V8
  have Z8 : n0 ≤ h8.size := Nat.le_trans Z7 (Keep.of_wr W8).1
  have V8p : Arv Z h8 ar1 ca1 .int (14 : Int32) [(.int (65 : Int32)), (.int (97 : Int32)), (.int (192 : Int32)), (.int (216 : Int32)), (.int (248 : Int32)), (.int (880 : Int32)), (.int (895 : Int32)), (.int (0 : Int32)), (.int (0 : Int32)), (.int (0 : Int32)), (.int (0 : Int32)), (.int (0 : Int32)), (.int (0 : Int32)), (.int (0 : Int32))] (.int (0 : Int32)) := V8
  refine E_dup (pc' := 46) cx st8 at_45 rfl rfl ?_
  refine E_bipush (pc' := 48) cx st8 (7 : Int32) at_46 rfl rfl ?_
  refine E_sipush (pc' := 51) cx st8 (8204 : Int32) at_48 rfl rfl ?_
  refine E_iastore (pc' := 52) (i := 7) cx st8 V8p ⟨by decide, by decide⟩ rfl (Nat.le_of_ble_eq_true rfl) g_ar1 at_51 rfl ?_
  intro T9 h9 st9 W9 V9
  have Z9 : n0 ≤ h9.size := Nat.le_trans Z8 (Keep.of_wr W9).1
  have V9p : Arv Z h9 ar1 ca1 .int (14 : Int32) [(.int (65 : Int32)), (.int (97 : Int32)), (.int (192 : Int32)), (.int (216 : Int32)), (.int (248 : Int32)), (.int (880 : Int32)), (.int (895 : Int32)), (.int (8204 : Int32)), (.int (0 : Int32)), (.int (0 : Int32)), (.int (0 : Int32)), (.int (0 : Int32)), (.int (0 : Int32)), (.int (0 : Int32))] (.int (0 : Int32)) := V9
  refine E_dup (pc' := 53) cx st9 at_52 rfl rfl ?_
  refine E_bipush (pc' := 55) cx st9 (8 : Int32) at_53 rfl rfl ?_
  refine E_sipush (pc' := 58) cx st9 (8304 : Int32) at_55 rfl rfl ?_
  refine E_iastore (pc' := 59) (i := 8) cx st9 V9p ⟨by decide, by decide⟩ rfl (Nat.le_of_ble_eq_true rfl) g_ar1 at_58 rfl ?_
  intro T10 h10 st10 W10 V10
  have Z10 : n0 ≤ h10.size := Nat.le_trans Z9 (Keep.of_wr W10).1
  have V10p : Arv Z h10 ar1 ca1 .int (14 : Int32) [(.int (65 : Int32)), (.int (97 : Int32)), (.int (192 : Int32)), (.int (216 : Int32)), (.int (248 : Int32)), (.int (880 : Int32)), (.int (895 : Int32)), (.int (8204 : Int32)), (.int (8304 : Int32)), (.int (0 : Int32)), (.int (0 : Int32)), (.int (0 : Int32)), (.int (0 : Int32)), (.int (0 : Int32))] (.int (0 : Int32)) := V10
  refine E_dup (pc' := 60) cx st10 at_59 rfl rfl ?_
  refine E_bipush (pc' := 62) cx st10 (9 : Int32) at_60 rfl rfl ?_
  refine E_sipush (pc' := 65) cx st10 (11264 : Int32) at_62 rfl rfl ?_
  refine E_iastore (pc' := 66) (i := 9) cx st10 V10p ⟨by decide, by decide⟩ rfl (Nat.le_of_ble_eq_true rfl) g_ar1 at_65 rfl ?_
  intro T11 h11 st11 W11 V11
  have Z11 : n0 ≤ h11.size := Nat.le_trans Z10 (Keep.of_wr W11).1
  have V11p : Arv Z h11 ar1 ca1 .int (14 : Int32) [(.int (65 : Int32)), (.int (97 : Int32)), (.int (192 : Int32)), (.int (216 : Int32)), (.int (248 : Int32)), (.int (880 : Int32)), (.int (895 : Int32)), (.int (8204 : Int32)), (.int (8304 : Int32)), (.int (11264 : Int32)), (.int (0 : Int32)), (.int (0 : Int32)), (.int (0 : Int32)), (.int (0 : Int32))] (.int (0 : Int32)) := V11
  refine E_dup (pc' := 67) cx st11 at_66 rfl rfl ?_
  refine E_bipush (pc' := 69) cx st11 (10 : Int32) at_67 rfl rfl ?_
  refine E_sipush (pc' := 72) cx st11 (12289 : Int32) at_69 rfl rfl ?_
  refine E_iastore (pc' := 73) (i := 10) cx st11 V11p ⟨by decide, by decide⟩ rfl (Nat.le_of_ble_eq_true rfl) g_ar1 at_72 rfl ?_
  intro T12 h12 st12 W12 V12
  have Z12 : n0 ≤ h12.size := Nat.le_trans Z11 (Keep.of_wr W12).1
  have V12p : Arv Z h12 ar1 ca1 .int (14 : Int32) [(.int (65 : Int32)), (.int (97 : Int32)), (.int (192 : Int32)), (.int (216 : Int32)), (.int (248 : Int32)), (.int (880 : Int32)), (.int (895 : Int32)), (.int (8204 : Int32)), (.int (8304 : Int32)), (.int (11264 : Int32)), (.int (12289 : Int32)), (.int (0 : Int32)), (.int (0 : Int32)), (.int (0 : Int32))] (.int (0 : Int32)) := V12
  refine E_dup (pc' := 74) cx st12 at_73 rfl rfl ?_
  refine E_bipush (pc' := 76) cx st12 (11 : Int32) at_74 rfl rfl ?_
  refine E_ldc (pc' := 78) (v := (63744 : Int32)) cx st12 (hw _ (List.mem_of_getElem? (i := 1) rfl)) at_76 rfl ?_
  refine E_iastore (pc' := 79) (i := 11) cx st12 V12p ⟨by decide, by decide⟩ rfl (Nat.le_of_ble_eq_true rfl) g_ar1 at_78 rfl ?_
  intro T13 h13 st13 W13 V13
  have Z13 : n0 ≤ h13.size := Nat.le_trans Z12 (Keep.of_wr W13).1
  have V13p : Arv Z h13 ar1 ca1 .int (14 : Int32) [(.int (65 : Int32)), (.int (97 : Int32)), (.int (192 : Int32)), (.int (216 : Int32)), (.int (248 : Int32)), (.int (880 : Int32)), (.int (895 : Int32)), (.int (8204 : Int32)), (.int (8304 : Int32)), (.int (11264 : Int32)), (.int (12289 : Int32)), (.int (63744 : Int32)), (.int (0 : Int32)), (.int (0 : Int32))] (.int (0 : Int32)) := V13
  refine E_dup (pc' := 80) cx st13 at_79 rfl rfl ?_
  refine E_bipush (pc' := 82) cx st13 (12 : Int32) at_80 rfl rfl ?_
  refine E_ldc (pc' := 84) (v := (65008 : Int32)) cx st13 (hw _ (List.mem_of_getElem? (i := 2) rfl)) at_82 rfl ?_
  refine E_iastore (pc' := 85) (i := 12) cx st13 V13p ⟨by decide, by decide⟩ rfl (Nat.le_of_ble_eq_true rfl) g_ar1 at_84 rfl ?_
  intro T14 h14 st14 W14 V14
  have Z14 : n0 ≤ h14.size := Nat.le_trans Z13 (Keep.of_wr W14).1
  have V14p : Arv Z h14 ar1 ca1 .int (14 : Int32) [(.int (65 : Int32)), (.int (97 : Int32)), (.int (192 : Int32)), (.int (216 : Int32)), (.int (248 : Int32)), (.int (880 : Int32)), (.int (895 : Int32)), (.int (8204 : Int32)), (.int (8304 : Int32)), (.int (11264 : Int32)), (.int (12289 : Int32)), (.int (63744 : Int32)), (.int (65008 : Int32)), (.int (0 : Int32))] (.int (0 : Int32)) := V14
  refine E_dup (pc' := 86) cx st14 at_85 rfl rfl ?_
  refine E_bipush (pc' := 88) cx st14 (13 : Int32) at_86 rfl rfl ?_
  refine E_ldc (pc' := 90) (v := (65536 : Int32)) cx st14 (hw _ (List.mem_of_getElem? (i := 3) rfl)) at_88 rfl ?_
  refine E_iastore (pc' := 91) (i := 13) cx st14 V14p ⟨by decide, by decide⟩ rfl (Nat.le_of_ble_eq_true rfl) g_ar1 at_90 rfl ?_
  intro T15 h15 st15 W15 V15
  have Z15 : n0 ≤ h15.size := Nat.le_trans Z14 (Keep.of_wr W15).1
  have V15p : Arv Z h15 ar1 ca1 .int (14 : Int32) [(.int (65 : Int32)), (.int (97 : Int32)), (.int (192 : Int32)), (.int (216 : Int32)), (.int (248 : Int32)), (.int (880 : Int32)), (.int (895 : Int32)), (.int (8204 : Int32)), (.int (8304 : Int32)), (.int (11264 : Int32)), (.int (12289 : Int32)), (.int (63744 : Int32)), (.int (65008 : Int32)), (.int (65536 : Int32))] (.int (0 : Int32)) := V15
  refine E_astoreN (pc' := 92) (L' := #[.val (.int p0), .val (.int p1), .val (.int p2), .val (.ref ar1), .unset, .unset, .unset, .unset, .unset, .unset, .unset, .unset, .unset, .unset]) cx st15 at_91 rfl rfl rfl ?_
  refine E_bipush (pc' := 94) cx st15 (14 : Int32) at_92 rfl rfl ?_
  refine E_newP (pc' := 96) (kc' := 2) (ks' := 28) (cap := 14) cx st15 (hw _ (List.mem_of_getElem? (i := 0) rfl)) at_94 (by decide) (by decide) (by decide) (by decide) (by decide) (by decide) (by decide) rfl (ad := "[I") (by decide) ?_
  intro T16 h16 ca16 ar16 q16 st16 E16 V16 X16
  have g_ar16 : n0 ≤ ar16 := by rw [q16]; exact Z15
  have ne_ar1_ar16 : ar1 ≠ ar16 := by rw [q16]; exact Nat.ne_of_lt V15p.lt
  have Z16 : n0 ≤ h16.size := Nat.le_trans Z15 E16.1
  have V16p : Arv Z h16 ar16 ca16 .int (14 : Int32) [(.int (0 : Int32)), (.int (0 : Int32)), (.int (0 : Int32)), (.int (0 : Int32)), (.int (0 : Int32)), (.int (0 : Int32)), (.int (0 : Int32)), (.int (0 : Int32)), (.int (0 : Int32)), (.int (0 : Int32)), (.int (0 : Int32)), (.int (0 : Int32)), (.int (0 : Int32)), (.int (0 : Int32))] (.int (0 : Int32)) := V16.pad (pad_rep [] (.int (0 : Int32)) 14)
  refine E_dup (pc' := 97) cx st16 at_96 rfl rfl ?_
  refine E_iconst (pc' := 98) cx st16 (0 : Int32) at_97 rfl rfl ?_
  refine E_bipush (pc' := 100) cx st16 (90 : Int32) at_98 rfl rfl ?_
  refine E_iastore (pc' := 101) (i := 0) cx st16 V16p ⟨by decide, by decide⟩ rfl (Nat.le_of_ble_eq_true rfl) g_ar16 at_100 rfl ?_
  intro T17 h17 st17 W17 V17
  have Z17 : n0 ≤ h17.size := Nat.le_trans Z16 (Keep.of_wr W17).1
  have V17p : Arv Z h17 ar16 ca16 .int (14 : Int32) [(.int (90 : Int32)), (.int (0 : Int32)), (.int (0 : Int32)), (.int (0 : Int32)), (.int (0 : Int32)), (.int (0 : Int32)), (.int (0 : Int32)), (.int (0 : Int32)), (.int (0 : Int32)), (.int (0 : Int32)), (.int (0 : Int32)), (.int (0 : Int32)), (.int (0 : Int32)), (.int (0 : Int32))] (.int (0 : Int32)) := V17
  refine E_dup (pc' := 102) cx st17 at_101 rfl rfl ?_
  refine E_iconst (pc' := 103) cx st17 (1 : Int32) at_102 rfl rfl ?_
  refine E_bipush (pc' := 105) cx st17 (122 : Int32) at_103 rfl rfl ?_
  refine E_iastore (pc' := 106) (i := 1) cx st17 V17p ⟨by decide, by decide⟩ rfl (Nat.le_of_ble_eq_true rfl) g_ar16 at_105 rfl ?_
  intro T18 h18 st18 W18 V18
  have Z18 : n0 ≤ h18.size := Nat.le_trans Z17 (Keep.of_wr W18).1
  have V18p : Arv Z h18 ar16 ca16 .int (14 : Int32) [(.int (90 : Int32)), (.int (122 : Int32)), (.int (0 : Int32)), (.int (0 : Int32)), (.int (0 : Int32)), (.int (0 : Int32)), (.int (0 : Int32)), (.int (0 : Int32)), (.int (0 : Int32)), (.int (0 : Int32)), (.int (0 : Int32)), (.int (0 : Int32)), (.int (0 : Int32)), (.int (0 : Int32))] (.int (0 : Int32)) := V18
  refine E_dup (pc' := 107) cx st18 at_106 rfl rfl ?_
  refine E_iconst (pc' := 108) cx st18 (2 : Int32) at_107 rfl rfl ?_
  refine E_sipush (pc' := 111) cx st18 (214 : Int32) at_108 rfl rfl ?_
  refine E_iastore (pc' := 112) (i := 2) cx st18 V18p ⟨by decide, by decide⟩ rfl (Nat.le_of_ble_eq_true rfl) g_ar16 at_111 rfl ?_
  intro T19 h19 st19 W19 V19
  have Z19 : n0 ≤ h19.size := Nat.le_trans Z18 (Keep.of_wr W19).1
  have V19p : Arv Z h19 ar16 ca16 .int (14 : Int32) [(.int (90 : Int32)), (.int (122 : Int32)), (.int (214 : Int32)), (.int (0 : Int32)), (.int (0 : Int32)), (.int (0 : Int32)), (.int (0 : Int32)), (.int (0 : Int32)), (.int (0 : Int32)), (.int (0 : Int32)), (.int (0 : Int32)), (.int (0 : Int32)), (.int (0 : Int32)), (.int (0 : Int32))] (.int (0 : Int32)) := V19
  refine E_dup (pc' := 113) cx st19 at_112 rfl rfl ?_
  refine E_iconst (pc' := 114) cx st19 (3 : Int32) at_113 rfl rfl ?_
  refine E_sipush (pc' := 117) cx st19 (246 : Int32) at_114 rfl rfl ?_
  refine E_iastore (pc' := 118) (i := 3) cx st19 V19p ⟨by decide, by decide⟩ rfl (Nat.le_of_ble_eq_true rfl) g_ar16 at_117 rfl ?_
  intro T20 h20 st20 W20 V20
  have Z20 : n0 ≤ h20.size := Nat.le_trans Z19 (Keep.of_wr W20).1
  have V20p : Arv Z h20 ar16 ca16 .int (14 : Int32) [(.int (90 : Int32)), (.int (122 : Int32)), (.int (214 : Int32)), (.int (246 : Int32)), (.int (0 : Int32)), (.int (0 : Int32)), (.int (0 : Int32)), (.int (0 : Int32)), (.int (0 : Int32)), (.int (0 : Int32)), (.int (0 : Int32)), (.int (0 : Int32)), (.int (0 : Int32)), (.int (0 : Int32))] (.int (0 : Int32)) := V20
  refine E_dup (pc' := 119) cx st20 at_118 rfl rfl ?_
  refine E_iconst (pc' := 120) cx st20 (4 : Int32) at_119 rfl rfl ?_
  refine E_sipush (pc' := 123) cx st20 (767 : Int32) at_120 rfl rfl ?_
  refine E_iastore (pc' := 124) (i := 4) cx st20 V20p ⟨by decide, by decide⟩ rfl (Nat.le_of_ble_eq_true rfl) g_ar16 at_123 rfl ?_
  intro T21 h21 st21 W21 V21
  have Z21 : n0 ≤ h21.size := Nat.le_trans Z20 (Keep.of_wr W21).1
  have V21p : Arv Z h21 ar16 ca16 .int (14 : Int32) [(.int (90 : Int32)), (.int (122 : Int32)), (.int (214 : Int32)), (.int (246 : Int32)), (.int (767 : Int32)), (.int (0 : Int32)), (.int (0 : Int32)), (.int (0 : Int32)), (.int (0 : Int32)), (.int (0 : Int32)), (.int (0 : Int32)), (.int (0 : Int32)), (.int (0 : Int32)), (.int (0 : Int32))] (.int (0 : Int32)) := V21
  refine E_dup (pc' := 125) cx st21 at_124 rfl rfl ?_
  refine E_iconst (pc' := 126) cx st21 (5 : Int32) at_125 rfl rfl ?_
  refine E_sipush (pc' := 129) cx st21 (893 : Int32) at_126 rfl rfl ?_
  refine E_iastore (pc' := 130) (i := 5) cx st21 V21p ⟨by decide, by decide⟩ rfl (Nat.le_of_ble_eq_true rfl) g_ar16 at_129 rfl ?_
  intro T22 h22 st22 W22 V22
  have Z22 : n0 ≤ h22.size := Nat.le_trans Z21 (Keep.of_wr W22).1
  have V22p : Arv Z h22 ar16 ca16 .int (14 : Int32) [(.int (90 : Int32)), (.int (122 : Int32)), (.int (214 : Int32)), (.int (246 : Int32)), (.int (767 : Int32)), (.int (893 : Int32)), (.int (0 : Int32)), (.int (0 : Int32)), (.int (0 : Int32)), (.int (0 : Int32)), (.int (0 : Int32)), (.int (0 : Int32)), (.int (0 : Int32)), (.int (0 : Int32))] (.int (0 : Int32)) := V22
  refine E_dup (pc' := 131) cx st22 at_130 rfl rfl ?_
  refine E_bipush (pc' := 133) cx st22 (6 : Int32) at_131 rfl rfl ?_
  refine E_sipush (pc' := 136) cx st22 (8191 : Int32) at_133 rfl rfl ?_
  refine E_iastore (pc' := 137) (i := 6) cx st22 V22p ⟨by decide, by decide⟩ rfl (Nat.le_of_ble_eq_true rfl) g_ar16 at_136 rfl ?_
  intro T23 h23 st23 W23 V23
  have Z23 : n0 ≤ h23.size := Nat.le_trans Z22 (Keep.of_wr W23).1
  have V23p : Arv Z h23 ar16 ca16 .int (14 : Int32) [(.int (90 : Int32)), (.int (122 : Int32)), (.int (214 : Int32)), (.int (246 : Int32)), (.int (767 : Int32)), (.int (893 : Int32)), (.int (8191 : Int32)), (.int (0 : Int32)), (.int (0 : Int32)), (.int (0 : Int32)), (.int (0 : Int32)), (.int (0 : Int32)), (.int (0 : Int32)), (.int (0 : Int32))] (.int (0 : Int32)) := V23
  refine E_dup (pc' := 138) cx st23 at_137 rfl rfl ?_
  refine E_bipush (pc' := 140) cx st23 (7 : Int32) at_138 rfl rfl ?_
  refine E_sipush (pc' := 143) cx st23 (8205 : Int32) at_140 rfl rfl ?_
  refine E_iastore (pc' := 144) (i := 7) cx st23 V23p ⟨by decide, by decide⟩ rfl (Nat.le_of_ble_eq_true rfl) g_ar16 at_143 rfl ?_
  intro T24 h24 st24 W24 V24
  have Z24 : n0 ≤ h24.size := Nat.le_trans Z23 (Keep.of_wr W24).1
  have V24p : Arv Z h24 ar16 ca16 .int (14 : Int32) [(.int (90 : Int32)), (.int (122 : Int32)), (.int (214 : Int32)), (.int (246 : Int32)), (.int (767 : Int32)), (.int (893 : Int32)), (.int (8191 : Int32)), (.int (8205 : Int32)), (.int (0 : Int32)), (.int (0 : Int32)), (.int (0 : Int32)), (.int (0 : Int32)), (.int (0 : Int32)), (.int (0 : Int32))] (.int (0 : Int32)) := V24
  refine E_dup (pc' := 145) cx st24 at_144 rfl rfl ?_
  refine E_bipush (pc' := 147) cx st24 (8 : Int32) at_145 rfl rfl ?_
  refine E_sipush (pc' := 150) cx st24 (8591 : Int32) at_147 rfl rfl ?_
  refine E_iastore (pc' := 151) (i := 8) cx st24 V24p ⟨by decide, by decide⟩ rfl (Nat.le_of_ble_eq_true rfl) g_ar16 at_150 rfl ?_
  intro T25 h25 st25 W25 V25
  have Z25 : n0 ≤ h25.size := Nat.le_trans Z24 (Keep.of_wr W25).1
  have V25p : Arv Z h25 ar16 ca16 .int (14 : Int32) [(.int (90 : Int32)), (.int (122 : Int32)), (.int (214 : Int32)), (.int (246 : Int32)), (.int (767 : Int32)), (.int (893 : Int32)), (.int (8191 : Int32)), (.int (8205 : Int32)), (.int (8591 : Int32)), (.int (0 : Int32)), (.int (0 : Int32)), (.int (0 : Int32)), (.int (0 : Int32)), (.int (0 : Int32))] (.int (0 : Int32)) := V25
  refine E_dup (pc' := 152) cx st25 at_151 rfl rfl ?_
  refine E_bipush (pc' := 154) cx st25 (9 : Int32) at_152 rfl rfl ?_
  refine E_sipush (pc' := 157) cx st25 (12271 : Int32) at_154 rfl rfl ?_
  refine E_iastore (pc' := 158) (i := 9) cx st25 V25p ⟨by decide, by decide⟩ rfl (Nat.le_of_ble_eq_true rfl) g_ar16 at_157 rfl ?_
  intro T26 h26 st26 W26 V26
  have Z26 : n0 ≤ h26.size := Nat.le_trans Z25 (Keep.of_wr W26).1
  have V26p : Arv Z h26 ar16 ca16 .int (14 : Int32) [(.int (90 : Int32)), (.int (122 : Int32)), (.int (214 : Int32)), (.int (246 : Int32)), (.int (767 : Int32)), (.int (893 : Int32)), (.int (8191 : Int32)), (.int (8205 : Int32)), (.int (8591 : Int32)), (.int (12271 : Int32)), (.int (0 : Int32)), (.int (0 : Int32)), (.int (0 : Int32)), (.int (0 : Int32))] (.int (0 : Int32)) := V26
  refine E_dup (pc' := 159) cx st26 at_158 rfl rfl ?_
  refine E_bipush (pc' := 161) cx st26 (10 : Int32) at_159 rfl rfl ?_
  refine E_ldc (pc' := 163) (v := (55295 : Int32)) cx st26 (hw _ (List.mem_of_getElem? (i := 4) rfl)) at_161 rfl ?_
  refine E_iastore (pc' := 164) (i := 10) cx st26 V26p ⟨by decide, by decide⟩ rfl (Nat.le_of_ble_eq_true rfl) g_ar16 at_163 rfl ?_
  intro T27 h27 st27 W27 V27
  have Z27 : n0 ≤ h27.size := Nat.le_trans Z26 (Keep.of_wr W27).1
  have V27p : Arv Z h27 ar16 ca16 .int (14 : Int32) [(.int (90 : Int32)), (.int (122 : Int32)), (.int (214 : Int32)), (.int (246 : Int32)), (.int (767 : Int32)), (.int (893 : Int32)), (.int (8191 : Int32)), (.int (8205 : Int32)), (.int (8591 : Int32)), (.int (12271 : Int32)), (.int (55295 : Int32)), (.int (0 : Int32)), (.int (0 : Int32)), (.int (0 : Int32))] (.int (0 : Int32)) := V27
  refine E_dup (pc' := 165) cx st27 at_164 rfl rfl ?_
  refine E_bipush (pc' := 167) cx st27 (11 : Int32) at_165 rfl rfl ?_
  refine E_ldc (pc' := 169) (v := (64975 : Int32)) cx st27 (hw _ (List.mem_of_getElem? (i := 5) rfl)) at_167 rfl ?_
  refine E_iastore (pc' := 170) (i := 11) cx st27 V27p ⟨by decide, by decide⟩ rfl (Nat.le_of_ble_eq_true rfl) g_ar16 at_169 rfl ?_
  intro T28 h28 st28 W28 V28
  have Z28 : n0 ≤ h28.size := Nat.le_trans Z27 (Keep.of_wr W28).1
  have V28p : Arv Z h28 ar16 ca16 .int (14 : Int32) [(.int (90 : Int32)), (.int (122 : Int32)), (.int (214 : Int32)), (.int (246 : Int32)), (.int (767 : Int32)), (.int (893 : Int32)), (.int (8191 : Int32)), (.int (8205 : Int32)), (.int (8591 : Int32)), (.int (12271 : Int32)), (.int (55295 : Int32)), (.int (64975 : Int32)), (.int (0 : Int32)), (.int (0 : Int32))] (.int (0 : Int32)) := V28
  refine E_dup (pc' := 171) cx st28 at_170 rfl rfl ?_
  refine E_bipush (pc' := 173) cx st28 (12 : Int32) at_171 rfl rfl ?_
  refine E_ldc (pc' := 175) (v := (65533 : Int32)) cx st28 (hw _ (List.mem_of_getElem? (i := 6) rfl)) at_173 rfl ?_
  refine E_iastore (pc' := 176) (i := 12) cx st28 V28p ⟨by decide, by decide⟩ rfl (Nat.le_of_ble_eq_true rfl) g_ar16 at_175 rfl ?_
  intro T29 h29 st29 W29 V29
  have Z29 : n0 ≤ h29.size := Nat.le_trans Z28 (Keep.of_wr W29).1
  have V29p : Arv Z h29 ar16 ca16 .int (14 : Int32) [(.int (90 : Int32)), (.int (122 : Int32)), (.int (214 : Int32)), (.int (246 : Int32)), (.int (767 : Int32)), (.int (893 : Int32)), (.int (8191 : Int32)), (.int (8205 : Int32)), (.int (8591 : Int32)), (.int (12271 : Int32)), (.int (55295 : Int32)), (.int (64975 : Int32)), (.int (65533 : Int32)), (.int (0 : Int32))] (.int (0 : Int32)) := V29
  refine E_dup (pc' := 177) cx st29 at_176 rfl rfl ?_
  refine E_bipush (pc' := 179) cx st29 (13 : Int32) at_177 rfl rfl ?_
  refine E_ldc (pc' := 181) (v := (983039 : Int32)) cx st29 (hw _ (List.mem_of_getElem? (i := 7) rfl)) at_179 rfl ?_
  refine E_iastore (pc' := 182) (i := 13) cx st29 V29p ⟨by decide, by decide⟩ rfl (Nat.le_of_ble_eq_true rfl) g_ar16 at_181 rfl ?_
  intro T30 h30 st30 W30 V30
  have Z30 : n0 ≤ h30.size := Nat.le_trans Z29 (Keep.of_wr W30).1
  have V30p : Arv Z h30 ar16 ca16 .int (14 : Int32) [(.int (90 : Int32)), (.int (122 : Int32)), (.int (214 : Int32)), (.int (246 : Int32)), (.int (767 : Int32)), (.int (893 : Int32)), (.int (8191 : Int32)), (.int (8205 : Int32)), (.int (8591 : Int32)), (.int (12271 : Int32)), (.int (55295 : Int32)), (.int (64975 : Int32)), (.int (65533 : Int32)), (.int (983039 : Int32))] (.int (0 : Int32)) := V30
  refine E_astore (pc' := 184) (L' := #[.val (.int p0), .val (.int p1), .val (.int p2), .val (.ref ar1), .val (.ref ar16), .unset, .unset, .unset, .unset, .unset, .unset, .unset, .unset, .unset]) cx st30 at_182 rfl rfl rfl ?_
  refine E_iloadN (pc' := 185) cx st30 at_184 rfl rfl ?_
  refine E_ldc (pc' := 187) (v := (2147483647 : Int32)) cx st30 (hw _ (List.mem_of_getElem? (i := 8) rfl)) at_185 rfl ?_
  refine E_iand (pc' := 188) cx st30 at_187 rfl ?_
  generalize hu31 : (p1 &&& (2147483647 : Int32)) = u31
  refine E_istore (pc' := 190) (L' := #[.val (.int p0), .val (.int p1), .val (.int p2), .val (.ref ar1), .val (.ref ar16), .val (.int u31), .unset, .unset, .unset, .unset, .unset, .unset, .unset, .unset]) cx st30 at_188 rfl rfl ?_
  refine E_iloadN (pc' := 191) cx st30 at_190 rfl rfl ?_
  refine E_ldc (pc' := 193) (v := (2147483647 : Int32)) cx st30 (hw _ (List.mem_of_getElem? (i := 8) rfl)) at_191 rfl ?_
  refine E_iand (pc' := 194) cx st30 at_193 rfl ?_
  generalize hu32 : (p0 &&& (2147483647 : Int32)) = u32
  refine E_istore (pc' := 196) (L' := #[.val (.int p0), .val (.int p1), .val (.int p2), .val (.ref ar1), .val (.ref ar16), .val (.int u31), .val (.int u32), .unset, .unset, .unset, .unset, .unset, .unset, .unset]) cx st30 at_194 rfl rfl ?_
  refine E_iload (pc' := 198) cx st30 at_196 rfl rfl ?_
  refine E_bipush (pc' := 200) cx st30 (14 : Int32) at_198 rfl rfl ?_
  refine E_irem (pc' := 201) cx st30 at_200 (by decide) rfl ?_
  generalize hu33 : (u32 % (14 : Int32)) = u33
  refine E_istore (pc' := 203) (L' := #[.val (.int p0), .val (.int p1), .val (.int p2), .val (.ref ar1), .val (.ref ar16), .val (.int u31), .val (.int u32), .val (.int u33), .unset, .unset, .unset, .unset, .unset, .unset]) cx st30 at_201 rfl rfl ?_
  refine E_aloadN (pc' := 204) cx st30 at_203 rfl rfl rfl ?_
  refine E_iload (pc' := 206) cx st30 at_204 rfl rfl ?_
  have hu0 : 0 ≤ u31.toInt := by rw [← hu31]; exact (c_and p1 2147483647 (by decide)).1
  have hk0 : 0 ≤ u32.toInt := by rw [← hu32]; exact (c_and p0 2147483647 (by decide)).1
  have hi14 : ¬ u33 < 0 ∧ u33 < 14 := by rw [← hu33]; exact i32_rem u32 14 hk0 (by decide) (by decide)
  obtain ⟨hiN, -⟩ := i32_small (n := 14) hi14 (by decide)
  obtain ⟨inr1, inr2⟩ := inR u31 hu0 _ hiN
  have V34 : Arv Z h30 ar1 ca1 .int (14 : Int32) [(.int (65 : Int32)), (.int (97 : Int32)), (.int (192 : Int32)), (.int (216 : Int32)), (.int (248 : Int32)), (.int (880 : Int32)), (.int (895 : Int32)), (.int (8204 : Int32)), (.int (8304 : Int32)), (.int (11264 : Int32)), (.int (12289 : Int32)), (.int (63744 : Int32)), (.int (65008 : Int32)), (.int (65536 : Int32))] (.int (0 : Int32)) := (((((((((((((((V15p.ext E16).other W17 ne_ar1_ar16).other W18 ne_ar1_ar16).other W19 ne_ar1_ar16).other W20 ne_ar1_ar16).other W21 ne_ar1_ar16).other W22 ne_ar1_ar16).other W23 ne_ar1_ar16).other W24 ne_ar1_ar16).other W25 ne_ar1_ar16).other W26 ne_ar1_ar16).other W27 ne_ar1_ar16).other W28 ne_ar1_ar16).other W29 ne_ar1_ar16).other W30 ne_ar1_ar16)
  refine E_iaload (pc' := 207) (x := (loL.getD u33.toNatClampNeg 0)) cx st30 V34 hi14 (getD_int loL _ 0) at_206 rfl ?_
  refine E_iload (pc' := 209) cx st30 at_207 rfl rfl ?_
  refine E_aload (pc' := 211) cx st30 at_209 rfl rfl rfl ?_
  refine E_iload (pc' := 213) cx st30 at_211 rfl rfl ?_
  refine E_iaload (pc' := 214) (x := (hiL.getD u33.toNatClampNeg 0)) cx st30 V30p hi14 (getD_int hiL _ 0) at_213 rfl ?_
  refine E_aloadN (pc' := 215) cx st30 at_214 rfl rfl rfl ?_
  refine E_iload (pc' := 217) cx st30 at_215 rfl rfl ?_
  refine E_iaload (pc' := 218) (x := (loL.getD u33.toNatClampNeg 0)) cx st30 V34 hi14 (getD_int loL _ 0) at_217 rfl ?_
  refine E_isub (pc' := 219) cx st30 at_218 rfl ?_
  refine E_iconst (pc' := 220) cx st30 (1 : Int32) at_219 rfl rfl ?_
  refine E_iadd (pc' := 221) cx st30 at_220 rfl ?_
  refine E_irem (pc' := 222) cx st30 at_221 inr2 rfl ?_
  refine E_iadd (pc' := 223) cx st30 at_222 rfl ?_
  generalize hu35 : ((loL.getD u33.toNatClampNeg 0) + (u31 % (((hiL.getD u33.toNatClampNeg 0) - (loL.getD u33.toNatClampNeg 0)) + (1 : Int32)))) = u35
  refine E_istore (pc' := 225) (L' := #[.val (.int p0), .val (.int p1), .val (.int p2), .val (.ref ar1), .val (.ref ar16), .val (.int u31), .val (.int u32), .val (.int u33), .val (.int u35), .unset, .unset, .unset, .unset, .unset]) cx st30 at_223 rfl rfl ?_
  refine E_iload (pc' := 227) cx st30 at_225 rfl rfl ?_
  refine E_bipush (pc' := 229) cx st30 (13 : Int32) at_227 rfl rfl ?_
  refine E_irem (pc' := 230) cx st30 at_229 (by decide) rfl ?_
  generalize hu36 : (u32 % (13 : Int32)) = u36
  refine E_istore (pc' := 232) (L' := #[.val (.int p0), .val (.int p1), .val (.int p2), .val (.ref ar1), .val (.ref ar16), .val (.int u31), .val (.int u32), .val (.int u33), .val (.int u35), .val (.int u36), .unset, .unset, .unset, .unset]) cx st30 at_230 rfl rfl ?_
  refine E_aload (pc' := 234) cx st30 at_232 rfl rfl rfl ?_
  refine E_iload (pc' := 236) cx st30 at_234 rfl rfl ?_
  have hj13 : ¬ u36 < 0 ∧ u36 < 13 := by rw [← hu36]; exact i32_rem u32 13 hk0 (by decide) (by decide)
  obtain ⟨hjN, hjE⟩ := i32_small (n := 13) hj13 (by decide)
  obtain ⟨ing1, ing2⟩ := inG u31 hu0 _ hjN
  have hj14 : ¬ u36 < 0 ∧ u36 < 14 := ⟨hj13.1, Int32.lt_trans hj13.2 (by decide)⟩
  have hjn : (u36 + 1).toNatClampNeg = u36.toNatClampNeg + 1 := (i32_succ (n := 13) hj13 (by decide)).2
  have hjs : ¬ (u36 + 1) < 0 ∧ (u36 + 1) < 14 := (i32_succ (n := 13) hj13 (by decide)).1
  refine E_iaload (pc' := 237) (x := (hiL.getD u36.toNatClampNeg 0)) cx st30 V30p hj14 (getD_int hiL _ 0) at_236 rfl ?_
  refine E_iconst (pc' := 238) cx st30 (1 : Int32) at_237 rfl rfl ?_
  refine E_iadd (pc' := 239) cx st30 at_238 rfl ?_
  refine E_iload (pc' := 241) cx st30 at_239 rfl rfl ?_
  refine E_aloadN (pc' := 242) cx st30 at_241 rfl rfl rfl ?_
  refine E_iload (pc' := 244) cx st30 at_242 rfl rfl ?_
  refine E_iconst (pc' := 245) cx st30 (1 : Int32) at_244 rfl rfl ?_
  refine E_iadd (pc' := 246) cx st30 at_245 rfl ?_
  refine E_iaload (pc' := 247) (x := (loL.getD (u36.toNatClampNeg + 1) 0)) cx st30 V34 hjs (by rw [hjn]; exact getD_int loL _ 0) at_246 rfl ?_
  refine E_aload (pc' := 249) cx st30 at_247 rfl rfl rfl ?_
  refine E_iload (pc' := 251) cx st30 at_249 rfl rfl ?_
  refine E_iaload (pc' := 252) (x := (hiL.getD u36.toNatClampNeg 0)) cx st30 V30p hj14 (getD_int hiL _ 0) at_251 rfl ?_
  refine E_isub (pc' := 253) cx st30 at_252 rfl ?_
  refine E_iconst (pc' := 254) cx st30 (1 : Int32) at_253 rfl rfl ?_
  refine E_isub (pc' := 255) cx st30 at_254 rfl ?_
  refine E_irem (pc' := 256) cx st30 at_255 ing2 rfl ?_
  refine E_iadd (pc' := 257) cx st30 at_256 rfl ?_
  generalize hu37 : (((hiL.getD u36.toNatClampNeg 0) + (1 : Int32)) + (u31 % (((loL.getD (u36.toNatClampNeg + 1) 0) - (hiL.getD u36.toNatClampNeg 0)) - (1 : Int32)))) = u37
  refine E_istore (pc' := 259) (L' := #[.val (.int p0), .val (.int p1), .val (.int p2), .val (.ref ar1), .val (.ref ar16), .val (.int u31), .val (.int u32), .val (.int u33), .val (.int u35), .val (.int u36), .val (.int u37), .unset, .unset, .unset]) cx st30 at_257 rfl rfl ?_
  refine E_iload (pc' := 261) cx st30 at_259 rfl rfl ?_
  refine E_callS (pc' := 264) (kc' := 2) (ks' := 28) (W := 0) (argsL := [(.int u35)]) cx st30 [] (rm1 l Z a0 hw u35 h30 n0 Z30) (hw _ (List.mem_of_getElem? (i := 9) rfl)) (hw _ (List.mem_of_getElem? (i := 10) rfl)) (hw _ (List.mem_of_getElem? (i := 11) rfl)) (hw _ (List.mem_of_getElem? (i := 12) rfl)) at_261 rfl rfl (lenOf pd_0 rfl) (Nat.le_of_eq rfl) (by decide) (by decide) (by decide) (by decide) (by decide) (by decide) (by decide) rfl ?_
  intro v38 T38 h38 st38 hq38
  obtain ⟨rfl, hh38⟩ := hq38
  rw [hh38] at st38
  have ip : ib0 u35 = 1 := by rw [← hu35]; exact inr1
  have iq : ib0 u37 = 0 := by rw [← hu37]; exact ing1
  rw [ip]
  refine E_istore (pc' := 266) (L' := #[.val (.int p0), .val (.int p1), .val (.int p2), .val (.ref ar1), .val (.ref ar16), .val (.int u31), .val (.int u32), .val (.int u33), .val (.int u35), .val (.int u36), .val (.int u37), .val (.int (1 : Int32)), .unset, .unset]) cx st38 at_264 rfl rfl ?_
  refine E_iload (pc' := 268) cx st38 at_266 rfl rfl ?_
  refine E_callS (pc' := 271) (kc' := 2) (ks' := 28) (W := 0) (argsL := [(.int u37)]) cx st38 [] (rm1 l Z a0 hw u37 h30 n0 Z30) (hw _ (List.mem_of_getElem? (i := 9) rfl)) (hw _ (List.mem_of_getElem? (i := 10) rfl)) (hw _ (List.mem_of_getElem? (i := 11) rfl)) (hw _ (List.mem_of_getElem? (i := 12) rfl)) at_268 rfl rfl (lenOf pd_0 rfl) (Nat.le_of_eq rfl) (by decide) (by decide) (by decide) (by decide) (by decide) (by decide) (by decide) rfl ?_
  intro v39 T39 h39 st39 hq39
  obtain ⟨rfl, hh39⟩ := hq39
  rw [hh39] at st39
  rw [iq]
  refine E_if_neN (pc' := 274) cx st39 at_271 rfl rfl ?_
  refine E_iconst (pc' := 275) cx st39 (1 : Int32) at_274 rfl rfl ?_
  refine E_goto (pc' := 279) cx st39 at_275 (by decide) (by decide) ?_
  refine E_istore (pc' := 281) (L' := #[.val (.int p0), .val (.int p1), .val (.int p2), .val (.ref ar1), .val (.ref ar16), .val (.int u31), .val (.int u32), .val (.int u33), .val (.int u35), .val (.int u36), .val (.int u37), .val (.int (1 : Int32)), .val (.int (1 : Int32)), .unset]) cx st39 at_279 rfl rfl ?_
  refine E_iloadN (pc' := 282) cx st39 at_281 rfl rfl ?_
  refine E_bipush (pc' := 284) cx st39 (65 : Int32) at_282 rfl rfl ?_
  by_cases c40 : p2 < (65 : Int32)
  · refine E_icmp_ltY (pc' := 293) cx st39 at_284 (by decide) (by decide) c40 ?_
    refine E_iloadN (pc' := 294) cx st39 at_293 rfl rfl ?_
    refine E_callS (pc' := 297) (kc' := 2) (ks' := 28) (W := 0) (argsL := [(.int p2)]) cx st39 [] (rm1 l Z a0 hw p2 h30 n0 Z30) (hw _ (List.mem_of_getElem? (i := 9) rfl)) (hw _ (List.mem_of_getElem? (i := 10) rfl)) (hw _ (List.mem_of_getElem? (i := 11) rfl)) (hw _ (List.mem_of_getElem? (i := 12) rfl)) at_294 rfl rfl (lenOf pd_0 rfl) (Nat.le_of_eq rfl) (by decide) (by decide) (by decide) (by decide) (by decide) (by decide) (by decide) rfl ?_
    intro v41 T41 h41 st41 hq41
    obtain ⟨rfl, hh41⟩ := hq41
    rw [hh41] at st41
    have io : ib0 p2 = 0 := ib_out (Or.inl c40)
    rw [io]
    refine E_if_neN (pc' := 300) cx st41 at_297 rfl rfl ?_
    refine E_iconst (pc' := 301) cx st41 (1 : Int32) at_300 rfl rfl ?_
    refine E_goto (pc' := 305) cx st41 at_301 (by decide) (by decide) ?_
    refine E_istore (pc' := 307) (L' := #[.val (.int p0), .val (.int p1), .val (.int p2), .val (.ref ar1), .val (.ref ar16), .val (.int u31), .val (.int u32), .val (.int u33), .val (.int u35), .val (.int u36), .val (.int u37), .val (.int (1 : Int32)), .val (.int (1 : Int32)), .val (.int (1 : Int32))]) cx st41 at_305 rfl rfl ?_
    refine E_iload (pc' := 309) cx st41 at_307 rfl rfl ?_
    refine E_if_eqN (pc' := 312) cx st41 at_309 rfl (by decide) ?_
    refine E_iload (pc' := 314) cx st41 at_312 rfl rfl ?_
    refine E_if_eqN (pc' := 317) cx st41 at_314 rfl (by decide) ?_
    refine E_iload (pc' := 319) cx st41 at_317 rfl rfl ?_
    refine E_if_eqN (pc' := 322) cx st41 at_319 rfl (by decide) ?_
    refine E_iconst (pc' := 323) cx st41 (1 : Int32) at_322 rfl rfl ?_
    refine E_goto (pc' := 327) cx st41 at_323 (by decide) (by decide) ?_
    refine E_ireturn (t := .boolean) cx st41 at_327 rfl (by simp) rfl (by decide) (by decide) ?_
    exact rfl
  · refine E_icmp_ltN (pc' := 287) cx st39 at_284 rfl c40 ?_
    refine E_iloadN (pc' := 288) cx st39 at_287 rfl rfl ?_
    refine E_ldc (pc' := 290) (v := (983039 : Int32)) cx st39 (hw _ (List.mem_of_getElem? (i := 7) rfl)) at_288 rfl ?_
    by_cases c42 : (983039 : Int32) < p2
    · refine E_icmp_leN (pc' := 293) cx st39 at_290 rfl c42 ?_
      refine E_iloadN (pc' := 294) cx st39 at_293 rfl rfl ?_
      refine E_callS (pc' := 297) (kc' := 2) (ks' := 28) (W := 0) (argsL := [(.int p2)]) cx st39 [] (rm1 l Z a0 hw p2 h30 n0 Z30) (hw _ (List.mem_of_getElem? (i := 9) rfl)) (hw _ (List.mem_of_getElem? (i := 10) rfl)) (hw _ (List.mem_of_getElem? (i := 11) rfl)) (hw _ (List.mem_of_getElem? (i := 12) rfl)) at_294 rfl rfl (lenOf pd_0 rfl) (Nat.le_of_eq rfl) (by decide) (by decide) (by decide) (by decide) (by decide) (by decide) (by decide) rfl ?_
      intro v43 T43 h43 st43 hq43
      obtain ⟨rfl, hh43⟩ := hq43
      rw [hh43] at st43
      have io : ib0 p2 = 0 := ib_out (Or.inr c42)
      rw [io]
      refine E_if_neN (pc' := 300) cx st43 at_297 rfl rfl ?_
      refine E_iconst (pc' := 301) cx st43 (1 : Int32) at_300 rfl rfl ?_
      refine E_goto (pc' := 305) cx st43 at_301 (by decide) (by decide) ?_
      refine E_istore (pc' := 307) (L' := #[.val (.int p0), .val (.int p1), .val (.int p2), .val (.ref ar1), .val (.ref ar16), .val (.int u31), .val (.int u32), .val (.int u33), .val (.int u35), .val (.int u36), .val (.int u37), .val (.int (1 : Int32)), .val (.int (1 : Int32)), .val (.int (1 : Int32))]) cx st43 at_305 rfl rfl ?_
      refine E_iload (pc' := 309) cx st43 at_307 rfl rfl ?_
      refine E_if_eqN (pc' := 312) cx st43 at_309 rfl (by decide) ?_
      refine E_iload (pc' := 314) cx st43 at_312 rfl rfl ?_
      refine E_if_eqN (pc' := 317) cx st43 at_314 rfl (by decide) ?_
      refine E_iload (pc' := 319) cx st43 at_317 rfl rfl ?_
      refine E_if_eqN (pc' := 322) cx st43 at_319 rfl (by decide) ?_
      refine E_iconst (pc' := 323) cx st43 (1 : Int32) at_322 rfl rfl ?_
      refine E_goto (pc' := 327) cx st43 at_323 (by decide) (by decide) ?_
      refine E_ireturn (t := .boolean) cx st43 at_327 rfl (by simp) rfl (by decide) (by decide) ?_
      exact rfl
    · refine E_icmp_leY (pc' := 300) cx st39 at_290 (by decide) (by decide) c42 ?_
      refine E_iconst (pc' := 301) cx st39 (1 : Int32) at_300 rfl rfl ?_
      refine E_goto (pc' := 305) cx st39 at_301 (by decide) (by decide) ?_
      refine E_istore (pc' := 307) (L' := #[.val (.int p0), .val (.int p1), .val (.int p2), .val (.ref ar1), .val (.ref ar16), .val (.int u31), .val (.int u32), .val (.int u33), .val (.int u35), .val (.int u36), .val (.int u37), .val (.int (1 : Int32)), .val (.int (1 : Int32)), .val (.int (1 : Int32))]) cx st39 at_305 rfl rfl ?_
      refine E_iload (pc' := 309) cx st39 at_307 rfl rfl ?_
      refine E_if_eqN (pc' := 312) cx st39 at_309 rfl (by decide) ?_
      refine E_iload (pc' := 314) cx st39 at_312 rfl rfl ?_
      refine E_if_eqN (pc' := 317) cx st39 at_314 rfl (by decide) ?_
      refine E_iload (pc' := 319) cx st39 at_317 rfl rfl ?_
      refine E_if_eqN (pc' := 322) cx st39 at_319 rfl (by decide) ?_
      refine E_iconst (pc' := 323) cx st39 (1 : Int32) at_322 rfl rfl ?_
      refine E_goto (pc' := 327) cx st39 at_323 (by decide) (by decide) ?_
      refine E_ireturn (t := .boolean) cx st39 at_327 rfl (by simp) rfl (by decide) (by decide) ?_
      exact rfl
set_option maxRecDepth 65536 in
set_option maxHeartbeats 40000000 in
theorem comes_1 {Post : Tables → Env → Array Value → State → Outcome → State → Prop} (hpost : ∀ tb e args s v u, (limb_1_1.after args s (.returned v) u = true ∧ limb_1_2.after args s (.returned v) u = true ∧ True) → FrameEnd s (.returned v) u (Jvm.fieldLocs frame_1_writes args s ++ Jvm.arrayLocs frame_1_arrays args s ++ Jvm.staticLocs frame_1_statics s) 16 128 → Post tb e args s (.returned v) u) :
    ArmFor flags0 classFile x code maxLocals ret World_1 tables_1 room_1 Calls_1 rest_1 Pre_1 Post := by
  intro l hfl _ _ p e ha hc hk s m args below hf hA hF happ hP
  obtain ⟨hcalls, hrest, hpre⟩ := hP
  obtain ⟨-, -, -, hnamed, -, -, -, hat⟩ := (Spec.applies_iff hf).mp happ
  obtain ⟨hg, hn⟩ := and_e (Cond.before_iff.mp (show (Jvm.Cond.and given_1 narrow_1).before args s = true from hpre))
  obtain ⟨g0, hg⟩ := and_e hg
  obtain ⟨ga0, hg⟩ := and_e hg
  obtain ⟨ga1, hg⟩ := and_e hg
  have ga2 := hg
  obtain ⟨w0, w1, w2, rfl⟩ : ∃ w0 w1 w2 : Value, args = #[w0, w1, w2] := by
    have hs : args.size = 3 := by simpa [Cond.value, given_1] using g0
    obtain ⟨L⟩ := args
    match L, hs with
    | [w0, w1, w2], _ => exact ⟨w0, w1, w2, rfl⟩
  have hw := fun d (hd : d ∈ tables_1) => atoms_spec (ws := Jvm.Cond.code x code maxLocals ret :: tables_1) hat d (List.mem_cons_of_mem _ hd)
  obtain ⟨i0, ei0⟩ := is_v ga0
  obtain rfl : w0 = (.int i0) := Option.some.inj ei0
  obtain ⟨i1, ei1⟩ := is_v ga1
  obtain rfl : w1 = (.int i1) := Option.some.inj ei1
  obtain ⟨i2, ei2⟩ := is_v ga2
  obtain rfl : w2 = (.int i2) := Option.some.inj ei2
  obtain ⟨n, o, h1, h2, h3, _, L, rfl, ⟨N, rfl⟩, hq⟩ := rm0 l s _ hw i0 i1 i2 s.heap s.heap.size (Nat.le_refl _) tables_1 p e ha hc hk s m _ below hf ((Spec.applies_iff_loose hf).mp happ).1 ⟨rfl, State.Warmed39.refl s, rfl⟩ trivial
  refine ⟨n, _, h1, h2, h3, hpost _ _ _ _ _ _ ⟨Cond.after_iff.mpr rfl, Cond.after_iff.mpr (eq_i res_at (Term.int_eval (1)) rfl), trivial⟩ ⟨hq.1, hq.2.1, (hq.2.2.sift fun y hy => Or.inr (N y hy)).mono (by decide) (by decide)⟩⟩
theorem main_1_1 : Claimed_1_1 := comes_1 fun _ _ _ _ _ _ h hF => ⟨h.1, hF⟩
theorem main_1_2 : Claimed_1_2 := comes_1 fun _ _ _ _ _ _ h hF => ⟨h.2.1, hF⟩
end Jvm.Pilot.@@N@@
namespace Jvm.Pilot.@@N@@
open Jvm Jvm.ClassFile Sem Op Lib Jvm.Free Jvm.Stand Jvm.Pilot.@@N@@.Jvm.D
/-! MADE BY PROGRAM (witnessworld.py) out of the Statement's table words and the real class files: 9 classes; the members and pool entries that the words name. The judged class is class 1, her method 1. -/
namespace start1
open Jvm.ClassFile
def u (s : String) : CpInfo := .utf8 (stringToUtf16 s)
/-- a pool by its gaps: so many unusable entries, then the entry; so many at the end -/
def gap : Nat → List CpInfo → List CpInfo
  | 0, r => r
  | n + 1, r => .unusable :: gap n r
def poolList (es : List (Nat × CpInfo)) (last : Nat) : List CpInfo := es.foldr (fun e r => gap e.1 (e.2 :: r)) (gap last [])
def pool (es : List (Nat × CpInfo)) (last : Nat) : Array CpInfo := ⟨poolList es last⟩
def fileOf (pool : Array CpInfo) (this : Nat) (attrs : Array Attribute := #[]) (ms : Array MethodInfo := #[]) (fl : Nat := 33) (sup : Nat := 0) (ifs : Array Nat := #[]) (fds : Array FieldInfo := #[]) : ClassFile where
  minorVersion := 0
  majorVersion := 65
  constantPool := pool
  accessFlags := fl
  thisClass := this
  superClass := sup
  interfaces := ifs
  fields := fds
  methods := ms
  attributes := attrs
def plain (name : String) (sup : Option ClassId) : Class where
  name := name
  kind := .ordinary
  loader := none
  accessFlags := 33
  super := sup
  interfaces := #[]
  cf := none
  fields := #[]
  methods := #[]
  instanceTypes := #[]
  staticTypes := #[]
  resolved := #[]
  callSites := []
  init := .initialized
  statics := none
  mirror := none

def pool0 : Array CpInfo := pool [(5, u "<init>"), (0, u "()V"), (1, .class_ 10), (1, u "java/lang/Object")] 113

def k0m0 : Method := { name := "<init>", desc := "()V", sig := { parameters := [], returnType := none }, accessFlags := 1, code := none }
/-- java/lang/Object -/
def k0 : Class := { plain "java/lang/Object" none with
  accessFlags := 33
  interfaces := #[]
  cf := some (fileOf pool0 8 #[] #[{ accessFlags := 1, nameIndex := 5, descriptorIndex := 6, attributes := #[] }] 33 0 #[] #[])
  fields := #[]
  methods := #[k0m0]
  instanceTypes := #[]
  staticTypes := #[]
  resolved := Array.replicate 124 none
  statics := none }

def pool1 : Array CpInfo := pool [(2, .class_ 4), (1, u "java/lang/Object"), (0, u "<init>"), (0, u "()V"), (0, .integer 63744), (0, .integer 65008), (0, .integer 65536), (0, .integer 55295), (0, .integer 64975), (0, .integer 65533), (0, .integer 983039), (0, .integer 2147483647), (0, .methodref 16 17), (0, .class_ 18), (0, .nameAndType 19 20), (0, u (site_261.cls)), (0, u "isBaseChar"), (0, u "(I)Z"), (0, .class_ 22), (0, u (x.cls)), (2, u "law"), (0, u "(III)Z")] 5

def k1m0 : Method := { name := "<init>", desc := "()V", sig := { parameters := [], returnType := none }, accessFlags := 1, code := none }
def k1c1 : Code := { maxStack := 5, maxLocals := 14, code := code, exceptionTable := #[], attributes := #[] }
def k1m1 : Method := { name := "law", desc := "(III)Z", sig := { parameters := [.int, .int, .int], returnType := some .boolean }, accessFlags := 9, code := some k1c1 }
def k1 : Class := { plain (x.cls) (some 0) with
  accessFlags := 49
  interfaces := #[]
  cf := some (fileOf pool1 21 #[] #[{ accessFlags := 1, nameIndex := 5, descriptorIndex := 6, attributes := #[] }, { accessFlags := 9, nameIndex := 25, descriptorIndex := 26, attributes := #[] }] 49 2 #[] #[])
  fields := #[]
  methods := #[k1m0, k1m1]
  instanceTypes := #[]
  staticTypes := #[]
  resolved := Array.replicate 32 none
  statics := none }

def pool2 : Array CpInfo := pool [(2, .class_ 4), (1, u "java/lang/Object"), (0, u "<init>"), (0, u "()V"), (0, .integer 55295), (0, .integer 63744), (0, .integer 64975), (0, .integer 65008), (0, .integer 65533), (0, .integer 65536), (0, .integer 983039), (1, .class_ 17), (1, u (site_261.cls)), (0, u "isBaseChar"), (0, u "(I)Z"), (43, u "LOCAL_NAME_ESCAPES"), (0, u "Ljava/lang/String;")] 28

def k2m0 : Method := { name := "<init>", desc := "()V", sig := { parameters := [], returnType := none }, accessFlags := 2, code := none }
def k2c1 : Code := { maxStack := 2, maxLocals := 1, code := prog_408_method_2_code, exceptionTable := #[], attributes := #[] }
def k2m1 : Method := { name := "isBaseChar", desc := "(I)Z", sig := { parameters := [.int], returnType := some .boolean }, accessFlags := 9, code := some k2c1 }
def k2 : Class := { plain (site_261.cls) (some 0) with
  accessFlags := 49
  interfaces := #[]
  cf := some (fileOf pool2 15 #[] #[{ accessFlags := 2, nameIndex := 5, descriptorIndex := 6, attributes := #[] }, { accessFlags := 9, nameIndex := 18, descriptorIndex := 19, attributes := #[] }] 49 2 #[] #[{ accessFlags := 26, nameIndex := 63, descriptorIndex := 64, attributes := #[] }])
  fields := #[{ name := "LOCAL_NAME_ESCAPES", type := (.object "java/lang/String"), accessFlags := 26, slot := 0, constantValue := 0 }]
  methods := #[k2m0, k2m1]
  instanceTypes := #[]
  staticTypes := #[(.object "java/lang/String")]
  resolved := Array.replicate 93 none
  statics := none }

def pool3 : Array CpInfo := pool [(1, u "java/lang/Cloneable"), (0, .class_ 1), (0, u "java/lang/Object"), (0, .class_ 3)] 3

/-- java/lang/Cloneable -/
def k3 : Class := { plain "java/lang/Cloneable" (some 0) with
  accessFlags := 1537
  interfaces := #[]
  cf := some (fileOf pool3 2 #[] #[] 1537 4 #[] #[])
  fields := #[]
  methods := #[]
  instanceTypes := #[]
  staticTypes := #[]
  resolved := Array.replicate 8 none
  statics := none }

def pool4 : Array CpInfo := pool [(1, u "java/io/Serializable"), (0, .class_ 1), (0, u "java/lang/Object"), (0, .class_ 3)] 3

/-- java/io/Serializable -/
def k4 : Class := { plain "java/io/Serializable" (some 0) with
  accessFlags := 1537
  interfaces := #[]
  cf := some (fileOf pool4 2 #[] #[] 1537 4 #[] #[])
  fields := #[]
  methods := #[]
  instanceTypes := #[]
  staticTypes := #[]
  resolved := Array.replicate 8 none
  statics := none }

/-- the primitive byte -/
def k5 : Class := { plain "byte" none with kind := .primitive 'B', accessFlags := 0x411 }
/-- [B -/
def k6 : Class := { plain "[B" (some 0) with kind := .array 5 .byte, interfaces := #[3, 4], accessFlags := 1041 }

/-- the primitive int -/
def k7 : Class := { plain "int" none with kind := .primitive 'I', accessFlags := 0x411 }
/-- [I -/
def k8 : Class := { plain "[I" (some 0) with kind := .array 7 .int, interfaces := #[3, 4], accessFlags := 1041 }

def heap : Heap := #[]
def classes : Array Class := #[k0, k1, k2, k3, k4, k5, k6, k7, k8]
def interned : List (Array UInt16 × Addr) := []
def slotsUsed : Nat := 0
def theMethod : MethodId := ⟨1, 1⟩
def args0 : Array Value := #[.int 5, .int 7, .int 9]
def aboutOver (below : List Frame) : State where
  vm := { classes := classes, interned := interned.toArray }
  heap := heap
  slotsUsed := slotsUsed
  threads := #[{ frames := .invoking theMethod args0 :: below }]
def below0 : List Frame := [.native { method := ⟨0, 0⟩, args := #[] }]
def about1 : State := aboutOver below0
def p0 : Program := .bare "" "" ""
def e0 : Env := launch0.env 0 0 0
theorem w_frames : about1.frames = Frame.invoking theMethod args0 :: below0 := rfl
set_option maxRecDepth 65536 in
theorem w_args : argsFit about1.vm theMethod args0 = true := by decide +kernel
set_option maxRecDepth 65536 in
theorem w_heap : heapFits about1 = true := by decide +kernel
set_option maxRecDepth 65536 in
theorem w_runnable : about1.curStatus? = some .runnable := by decide +kernel
set_option maxRecDepth 65536 in
theorem w_alone : about1.alone = true := by decide +kernel
set_option maxRecDepth 65536 in
theorem w_named : about1.methodNamed? x = some theMethod := by decide +kernel
set_option maxRecDepth 65536 in
theorem w_hears : about1.hears theMethod below0 = true := by decide +kernel
set_option maxRecDepth 65536 in
theorem w_ripe : about1.ripe theMethod args0 below0 = true := by decide +kernel
theorem w_running : about1.status = .running := rfl
set_option maxRecDepth 65536 in
theorem w_room : about1.hasRoom e0.platform room_1 = true :=
  launch0.hasRoom_least _ room_1 (by decide +kernel) (by decide +kernel) (by decide +kernel) (by decide +kernel) (by decide +kernel) (by decide +kernel)
theorem allAtoms_all (ts : List Jvm.Cond) (a : Array Jvm.Value) (st : Jvm.State) : (allAtoms ts).before a st = ts.all (fun c => c.before a st) := by
  induction ts with
  | nil => rfl
  | cons c t ih =>
    show (Jvm.Cond.and c (allAtoms t)).before a st = _
    rw [Jvm.Cond.before_and, ih, List.all_cons]
def words1 : List Jvm.Cond := Jvm.Cond.code x code maxLocals ret :: tables_1
/-- a 'code' word, met by the world's own term for the bytes: nothing is compared byte by byte -/
theorem code_word {y : MethodName} {bytes : ByteArray} {mx : Nat} {rt : Option FieldType} {a : Array Value} {s : State} {m : MethodId} {meth : Method} {c : Code} (h1 : s.methodNamed? y = some m) (h2 : s.vm.method? m = some meth) (h3 : meth.code = some c) (h4 : c.code = bytes)
    (h5 : (c.maxLocals == mx && c.exceptionTable.isEmpty && decide (c.maxStack ≤ mostOperands) && decide (meth.sig.returnType = rt) && !meth.locks && decide (parseMethodDescriptor y.desc = some meth.sig)) = true) : (Jvm.Cond.code y bytes mx rt).before a s = true := by
  simp only [Bool.and_eq_true, beq_iff_eq, Bool.not_eq_true', decide_eq_true_eq] at h5
  obtain ⟨⟨⟨⟨⟨g1, g2⟩, g3⟩, g4⟩, g5⟩, g6⟩ := h5
  simp [Cond.before, Cond.holds, Cond.value, h1, h2, h3, h4, g1, g2, g3, g4, g5, g6]
def isCode : Jvm.Cond → Bool
  | .code _ _ _ _ => true
  | _ => false
theorem all_split {L : List Jvm.Cond} {P : Jvm.Cond → Bool} (h1 : L.all (fun c => isCode c || P c) = true) (h2 : ∀ c ∈ L.filter isCode, P c = true) : L.all P = true := by
  refine List.all_eq_true.mpr fun c hc => ?_
  have h := List.all_eq_true.mp h1 c hc
  rcases Bool.eq_false_or_eq_true (isCode c) with hi | hi
  · exact h2 c (List.mem_filter.mpr ⟨hc, hi⟩)
  · simpa [hi] using h
set_option maxRecDepth 65536 in
theorem w_c0 : (Jvm.Cond.code x code maxLocals ret).before args0 about1 = true := code_word (m := ⟨1, 1⟩) (meth := k1m1) (c := k1c1) (by decide +kernel) rfl rfl rfl (by decide +kernel)
set_option maxRecDepth 65536 in
theorem w_c1 : (Jvm.Cond.code ({ cls := (site_261.cls), name := "isBaseChar", desc := "(I)Z" } : Jvm.MethodName) prog_408_method_2_code (1 : Nat) (Option.some Jvm.ClassFile.FieldType.boolean)).before args0 about1 = true := code_word (m := ⟨2, 1⟩) (meth := k2m1) (c := k2c1) (by decide +kernel) rfl rfl rfl (by decide +kernel)
def codes1 : List Jvm.Cond := [Jvm.Cond.code x code maxLocals ret, Jvm.Cond.code ({ cls := (site_261.cls), name := "isBaseChar", desc := "(I)Z" } : Jvm.MethodName) prog_408_method_2_code (1 : Nat) (Option.some Jvm.ClassFile.FieldType.boolean)]
set_option maxRecDepth 65536 in
theorem codes_eq : words1.filter isCode = codes1 := rfl
theorem w_codes : ∀ c ∈ words1.filter isCode, c.before args0 about1 = true := by
  rw [codes_eq]
  intro c hc
  simp only [codes1, List.mem_cons, List.not_mem_nil, or_false] at hc
  rcases hc with rfl | rfl
  · exact w_c0
  · exact w_c1
set_option maxRecDepth 65536 in
theorem w_t1 : words1.all (fun c => isCode c || c.before args0 about1) = true := by decide +kernel
theorem w_tables : (allAtoms (Jvm.Cond.code x code maxLocals ret :: tables_1)).before args0 about1 = true := by
  rw [allAtoms_all]
  show words1.all (fun c => c.before args0 about1) = true
  refine all_split ?_ w_codes
  rw [w_t1]
set_option maxRecDepth 65536 in
theorem w_case : (Jvm.Cond.and given_1 narrow_1).before args0 about1 = true := by decide +kernel
theorem w_applies : (headSpec (Jvm.Cond.code x code maxLocals ret :: tables_1) room_1).applies x e0.platform about1 = true :=
  (Spec.applies_iff w_frames).mpr ⟨w_running, w_runnable, w_alone, w_named, w_hears, w_ripe, w_room, w_tables⟩
theorem atStart : AtStart classFile x code maxLocals ret World_1 tables_1 room_1 Calls_1 rest_1 Pre_1 launch0 p0 e0 about1 theMethod args0 below0 :=
  ⟨lists_1, trivial, launch0.admits_env _ _ _, launch0.least_env, fairChoices_fair.cas, fairChoices_fair.clock, w_frames, w_args, w_heap, w_applies, trivial, trivial, w_case⟩
end start1
theorem witness_1 : WitnessClaimed_1 := ⟨start1.p0, start1.e0, start1.about1, start1.theMethod, start1.args0, start1.below0, start1.atStart⟩
end Jvm.Pilot.@@N@@
