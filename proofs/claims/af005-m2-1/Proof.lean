import JvmDerived
import JvmDerived.Pilot.@@N@@Statement
import JvmDerived.Pilot.@@N@@Code
set_option linter.unusedVariables false
set_option linter.unusedSimpArgs false
namespace Jvm.Pilot.@@N@@
open Jvm Jvm.ClassFile Sem Op Lib Jvm.Free Jvm.Stand Jvm.LawKit Jvm.RoadKit Bundle Jvm.Pilot.@@N@@.Jvm.D
section OwnKit
/-- where a walk of this body ends: it has returned, wrote nothing below n0, and Q holds of what it returned and of the heap -/
def Ends (n0 : Nat) (p : Program) (e : Env) (s : State) (below : List Frame) (R : Room) (Q : Option Value → Heap → Prop) (T : State) (g : JFrame) : Prop :=
  ∃ s₂ o, Steps p.tables e below (T.setTop g) s₂ ∧ s₂.status = .running ∧ Ended s₂ below o ∧ ∃ v L, o = .returned v ∧ (Fr n0 L ∧ Q v s₂.heap) ∧ FrameEnd s o s₂ L R.cells R.slots
/-- the walk stands at T over the heap h, having made at most kc cells of ks slots -/
def St (l : Launch) (n0 : Nat) (p : Program) (e : Env) (R : Room) (s : State) (m : MethodId) (args : Array Value) (below : List Frame) (meth : Method) (c : Code) (kc ks : Nat) (T : State) (h : Heap) : Prop :=
  ∃ locs cells slots, Stand p l e R s m args below meth c T locs cells slots ∧ T.heap = h ∧ Fr n0 locs ∧ cells ≤ kc ∧ slots ≤ ks
def Cx (l : Launch) (Z : State) (n0 : Nat) (p : Program) (e : Env) (R : Room) (s : State) (m : MethodId) (args : Array Value) (below : List Frame) (meth : Method) (c : Code) (bytes : ByteArray) (ml : Nat) (own name : String) (rt : Option FieldType) (Q : Option Value → Heap → Prop) (F : State → JFrame → Prop) (S : Nat → Nat → State → Heap → Prop) : Prop :=
  (p.tables.exec = Jvm.exec ∧ Z.Warmed39 s.vm ∧ c.code = bytes ∧ c.maxLocals = ml) ∧ (s.vm.findClass own = some m.cls ∧ meth.name = name ∧ meth.sig.returnType = rt ∧ meth.locks = false) ∧ F = Ends n0 p e s below R Q ∧ S = St l n0 p e R s m args below meth c
/-- a body's contract -/
def Con (l : Launch) (Z : State) (y : MethodName) (bytes : ByteArray) (ml : Nat) (rt : Option FieldType) (R : Room) (args : Array Value) (h0 : Heap) (n0 : Nat) (Q : Option Value → Heap → Prop) : Prop :=
  ∀ ws : List Jvm.Cond, MetFree l y (head1 (Jvm.Cond.code y bytes ml rt :: ws) R) (fun a U => a = args ∧ Z.Warmed39 U.vm ∧ U.heap = h0) (fun _ _ _ _ _ => True) (fun _ U o U' => ∃ v L, o = .returned v ∧ (Fr n0 L ∧ Q v U'.heap) ∧ FrameEnd U o U' L R.cells R.slots)
variable {l : Launch} {Z : State} {n0 : Nat} {p : Program} {e : Env} {R : Room} {s : State} {m : MethodId} {args : Array Value} {below : List Frame} {meth : Method} {c : Code} {bytes : ByteArray} {ml : Nat} {own name : String} {rt : Option FieldType} {Q : Option Value → Heap → Prop} {F : State → JFrame → Prop} {S : Nat → Nat → State → Heap → Prop}
variable {a0 : Array Value} {T T' : State} {h h' : Heap} {kc ks kc' ks' pc pc' : Nat} {L L' : Array Slot} {rest : List Value}
theorem Con.of {y : MethodName} {h0 : Heap} {Ls : Array Slot} (hpn : plainFor y = true) (hef : ∀ m, entryFrame m args ml = mkF m 0 Ls []) (ho : y.cls = own) (hn : y.name = name)
    (H : ∀ (p : Program) (e : Env) (s : State) (m : MethodId) (below : List Frame) (meth : Method) (c : Code) (T : State) (F : State → JFrame → Prop) (S : Nat → Nat → State → Heap → Prop), Cx l Z n0 p e R s m args below meth c bytes ml own name rt Q F S → S 0 0 T h0 → F T (mkF m 0 Ls [])) :
    Con l Z y bytes ml rt R args h0 n0 Q := by
  intro ws
  refine MetFree.of_bodySF hpn hisR ?_
  intro p e s m args below meth c s₁ Bd hml0 hP hK
  obtain ⟨rfl, hZ, hh⟩ := hP
  have e0 : s₁.heap = h0 := by rw [← hh, Bd.state]; rfl
  obtain ⟨s₂, o, q1, q2, q3, q4⟩ := H p e s m below meth c s₁ _ _ ⟨⟨Bd.exec, hZ, Bd.bytes, hml0⟩, ⟨by rw [← ho]; exact findClass_of_methodNamed Bd.named, by rw [← hn]; exact (name_of_methodNamed Bd.named Bd.method).1, Bd.returns, Bd.notSynchronized⟩, rfl, rfl⟩ ⟨[], 0, 0, Stand.of_body Bd, e0, Fr.nil n0, Nat.le_refl _, Nat.le_refl _⟩
  exact ⟨s₂, o, castTop (hef m) q1, q2, q3, q4⟩
theorem Cx.step (cx : Cx l Z n0 p e R s m args below meth c bytes ml own name rt Q F S) {g g' : JFrame} (st : ∀ t, Steps p.tables e below (T'.setTop g') t → Steps p.tables e below (T.setTop g) t) (k : F T' g') : F T g := by
  obtain ⟨-, -, rfl, -⟩ := cx
  obtain ⟨s₂, o, q1, q⟩ := k
  exact ⟨s₂, o, st _ q1, q⟩
theorem Cx.at (cx : Cx l Z n0 p e R s m args below meth c bytes ml own name rt Q F S) (st : S kc ks T h) : At T m c below := by
  obtain ⟨-, -, -, rfl⟩ := cx
  obtain ⟨_, _, _, X, -⟩ := st
  exact X.here
theorem Cx.open (cx : Cx l Z n0 p e R s m args below meth c bytes ml own name rt Q F S) (st : S kc ks T h) : ∃ locs cells slots, Stand p l e R s m args below meth c T locs cells slots ∧ T.heap = h ∧ Fr n0 locs ∧ cells ≤ kc ∧ slots ≤ ks := by
  obtain ⟨-, -, -, rfl⟩ := cx
  exact st
theorem Cx.mono (cx : Cx l Z n0 p e R s m args below meth c bytes ml own name rt Q F S) (st : S kc ks T h) (h1 : kc ≤ kc') (h2 : ks ≤ ks') : S kc' ks' T h := by
  obtain ⟨-, -, -, rfl⟩ := cx
  obtain ⟨a, b, d, X, q1, q2, q3, q4⟩ := st
  exact ⟨a, b, d, X, q1, q2, Nat.le_trans q3 h1, Nat.le_trans q4 h2⟩
theorem Cx.dec (cx : Cx l Z n0 p e R s m args below meth c bytes ml own name rt Q F S) {r : Except DecodeError (Instr × Nat)} (hd : decode bytes pc = r) : decode c.code pc = r := hb cx.1.2.2.1 hd
/-- leaving the method -/
theorem Cx.fin (cx : Cx l Z n0 p e R s m args below meth c bytes ml own name rt Q F S) (st : S kc ks T h) {v : Option Value} {g : JFrame} (hv : rt = none → v = none) (hk : kc ≤ R.cells) (hs : ks ≤ R.slots)
    (go : ∀ fs locs cells slots, Stand p l e R s m args below meth c T locs cells slots → (∀ (f : JFrame) (acts : List Action), f.method = m → f.locked = none → f.entered = [] → (doReturn e (T.setTop f) acts v).1 = T.setFrames fs) → Steps p.tables e below (T.setTop g) (T.setFrames fs)) (hQ : Q v h) : F T g := by
  obtain ⟨c1, ⟨c5, c6, c7, c8⟩, rfl, rfl⟩ := cx
  obtain ⟨locs, cells, slots, X, q1, q2, q3, q4⟩ := st
  obtain ⟨fs, hr, hrun, hended, hW, hsame⟩ := X.leave (v := v) (fun q => hv (c7.symm.trans q)) c8
  refine ⟨_, _, go fs _ _ _ X hr, hrun, hended, v, locs, rfl, ⟨q2, ?_⟩, ⟨_, rfl⟩, hW, hsame.mono (Nat.le_trans q3 hk) (Nat.le_trans q4 hs)⟩
  show Q v T.heap
  rw [q1]; exact hQ
theorem E_iadd (cx : Cx l Z n0 p e R s m args below meth c bytes ml own name rt Q F S) (st : S kc ks T h) {x y : Int32} (hd : decode bytes pc = .ok (.iadd, 1))  (hp : pc + 1 = pc') (k : F T (mkF m pc' L (.int (x + y) :: rest))) : F T (mkF m pc L (.int y :: .int x :: rest)) := by
  subst hp; exact cx.step (fun _ q => XS.iadd (cx.at st) cx.1.1 rfl (cx.dec hd) rfl q) k
theorem E_isub (cx : Cx l Z n0 p e R s m args below meth c bytes ml own name rt Q F S) (st : S kc ks T h) {x y : Int32} (hd : decode bytes pc = .ok (.isub, 1))  (hp : pc + 1 = pc') (k : F T (mkF m pc' L (.int (x - y) :: rest))) : F T (mkF m pc L (.int y :: .int x :: rest)) := by
  subst hp; exact cx.step (fun _ q => XS.isub (cx.at st) cx.1.1 rfl (cx.dec hd) rfl q) k
theorem E_imul (cx : Cx l Z n0 p e R s m args below meth c bytes ml own name rt Q F S) (st : S kc ks T h) {x y : Int32} (hd : decode bytes pc = .ok (.imul, 1))  (hp : pc + 1 = pc') (k : F T (mkF m pc' L (.int (x * y) :: rest))) : F T (mkF m pc L (.int y :: .int x :: rest)) := by
  subst hp; exact cx.step (fun _ q => XS.imul (cx.at st) cx.1.1 rfl (cx.dec hd) rfl q) k
theorem E_iand (cx : Cx l Z n0 p e R s m args below meth c bytes ml own name rt Q F S) (st : S kc ks T h) {x y : Int32} (hd : decode bytes pc = .ok (.iand, 1))  (hp : pc + 1 = pc') (k : F T (mkF m pc' L (.int (x &&& y) :: rest))) : F T (mkF m pc L (.int y :: .int x :: rest)) := by
  subst hp; exact cx.step (fun _ q => XS.iand (cx.at st) cx.1.1 rfl (cx.dec hd) rfl q) k
theorem E_ior (cx : Cx l Z n0 p e R s m args below meth c bytes ml own name rt Q F S) (st : S kc ks T h) {x y : Int32} (hd : decode bytes pc = .ok (.ior, 1))  (hp : pc + 1 = pc') (k : F T (mkF m pc' L (.int (x ||| y) :: rest))) : F T (mkF m pc L (.int y :: .int x :: rest)) := by
  subst hp; exact cx.step (fun _ q => XS.ior (cx.at st) cx.1.1 rfl (cx.dec hd) rfl q) k
theorem E_ixor (cx : Cx l Z n0 p e R s m args below meth c bytes ml own name rt Q F S) (st : S kc ks T h) {x y : Int32} (hd : decode bytes pc = .ok (.ixor, 1))  (hp : pc + 1 = pc') (k : F T (mkF m pc' L (.int (x ^^^ y) :: rest))) : F T (mkF m pc L (.int y :: .int x :: rest)) := by
  subst hp; exact cx.step (fun _ q => XS.ixor (cx.at st) cx.1.1 rfl (cx.dec hd) rfl q) k
theorem E_ladd (cx : Cx l Z n0 p e R s m args below meth c bytes ml own name rt Q F S) (st : S kc ks T h) {x y : Int64} (hd : decode bytes pc = .ok (.ladd, 1))  (hp : pc + 1 = pc') (k : F T (mkF m pc' L (.long (x + y) :: rest))) : F T (mkF m pc L (.long y :: .long x :: rest)) := by
  subst hp; exact cx.step (fun _ q => XS.ladd (cx.at st) cx.1.1 rfl (cx.dec hd) rfl q) k
theorem E_lsub (cx : Cx l Z n0 p e R s m args below meth c bytes ml own name rt Q F S) (st : S kc ks T h) {x y : Int64} (hd : decode bytes pc = .ok (.lsub, 1))  (hp : pc + 1 = pc') (k : F T (mkF m pc' L (.long (x - y) :: rest))) : F T (mkF m pc L (.long y :: .long x :: rest)) := by
  subst hp; exact cx.step (fun _ q => XS.lsub (cx.at st) cx.1.1 rfl (cx.dec hd) rfl q) k
theorem E_lmul (cx : Cx l Z n0 p e R s m args below meth c bytes ml own name rt Q F S) (st : S kc ks T h) {x y : Int64} (hd : decode bytes pc = .ok (.lmul, 1))  (hp : pc + 1 = pc') (k : F T (mkF m pc' L (.long (x * y) :: rest))) : F T (mkF m pc L (.long y :: .long x :: rest)) := by
  subst hp; exact cx.step (fun _ q => XS.lmul (cx.at st) cx.1.1 rfl (cx.dec hd) rfl q) k
theorem E_land (cx : Cx l Z n0 p e R s m args below meth c bytes ml own name rt Q F S) (st : S kc ks T h) {x y : Int64} (hd : decode bytes pc = .ok (.land, 1))  (hp : pc + 1 = pc') (k : F T (mkF m pc' L (.long (x &&& y) :: rest))) : F T (mkF m pc L (.long y :: .long x :: rest)) := by
  subst hp; exact cx.step (fun _ q => XS.land (cx.at st) cx.1.1 rfl (cx.dec hd) rfl q) k
theorem E_lor (cx : Cx l Z n0 p e R s m args below meth c bytes ml own name rt Q F S) (st : S kc ks T h) {x y : Int64} (hd : decode bytes pc = .ok (.lor, 1))  (hp : pc + 1 = pc') (k : F T (mkF m pc' L (.long (x ||| y) :: rest))) : F T (mkF m pc L (.long y :: .long x :: rest)) := by
  subst hp; exact cx.step (fun _ q => XS.lor (cx.at st) cx.1.1 rfl (cx.dec hd) rfl q) k
theorem E_lxor (cx : Cx l Z n0 p e R s m args below meth c bytes ml own name rt Q F S) (st : S kc ks T h) {x y : Int64} (hd : decode bytes pc = .ok (.lxor, 1))  (hp : pc + 1 = pc') (k : F T (mkF m pc' L (.long (x ^^^ y) :: rest))) : F T (mkF m pc L (.long y :: .long x :: rest)) := by
  subst hp; exact cx.step (fun _ q => XS.lxor (cx.at st) cx.1.1 rfl (cx.dec hd) rfl q) k
theorem E_idiv (cx : Cx l Z n0 p e R s m args below meth c bytes ml own name rt Q F S) (st : S kc ks T h) {x y : Int32} (hd : decode bytes pc = .ok (.idiv, 1)) (hz : y ≠ 0) (hp : pc + 1 = pc') (k : F T (mkF m pc' L (.int (x / y) :: rest))) : F T (mkF m pc L (.int y :: .int x :: rest)) := by
  subst hp; exact cx.step (fun _ q => XS.idiv (cx.at st) cx.1.1 rfl (cx.dec hd) rfl hz q) k
theorem E_ldiv (cx : Cx l Z n0 p e R s m args below meth c bytes ml own name rt Q F S) (st : S kc ks T h) {x y : Int64} (hd : decode bytes pc = .ok (.ldiv, 1)) (hz : y ≠ 0) (hp : pc + 1 = pc') (k : F T (mkF m pc' L (.long (x / y) :: rest))) : F T (mkF m pc L (.long y :: .long x :: rest)) := by
  subst hp; exact cx.step (fun _ q => XS.ldiv (cx.at st) cx.1.1 rfl (cx.dec hd) rfl hz q) k
theorem E_ishl (cx : Cx l Z n0 p e R s m args below meth c bytes ml own name rt Q F S) (st : S kc ks T h) {x y : Int32} (hd : decode bytes pc = .ok (.ishl, 1))  (hp : pc + 1 = pc') (k : F T (mkF m pc' L (.int (x <<< (y &&& 31)) :: rest))) : F T (mkF m pc L (.int y :: .int x :: rest)) := by
  subst hp; exact cx.step (fun _ q => XS.ishl (cx.at st) cx.1.1 rfl (cx.dec hd) rfl q) k
theorem E_ishr (cx : Cx l Z n0 p e R s m args below meth c bytes ml own name rt Q F S) (st : S kc ks T h) {x y : Int32} (hd : decode bytes pc = .ok (.ishr, 1))  (hp : pc + 1 = pc') (k : F T (mkF m pc' L (.int (x >>> (y &&& 31)) :: rest))) : F T (mkF m pc L (.int y :: .int x :: rest)) := by
  subst hp; exact cx.step (fun _ q => XS.ishr (cx.at st) cx.1.1 rfl (cx.dec hd) rfl q) k
theorem E_iushr (cx : Cx l Z n0 p e R s m args below meth c bytes ml own name rt Q F S) (st : S kc ks T h) {x y : Int32} (hd : decode bytes pc = .ok (.iushr, 1))  (hp : pc + 1 = pc') (k : F T (mkF m pc' L (.int ((x.toUInt32 >>> (y &&& 31).toUInt32).toInt32) :: rest))) : F T (mkF m pc L (.int y :: .int x :: rest)) := by
  subst hp; exact cx.step (fun _ q => XS.iushr (cx.at st) cx.1.1 rfl (cx.dec hd) rfl q) k
theorem E_lshl (cx : Cx l Z n0 p e R s m args below meth c bytes ml own name rt Q F S) (st : S kc ks T h) {x : Int64} {y : Int32} (hd : decode bytes pc = .ok (.lshl, 1))  (hp : pc + 1 = pc') (k : F T (mkF m pc' L (.long (x <<< (y &&& 0x3f).toInt64) :: rest))) : F T (mkF m pc L (.int y :: .long x :: rest)) := by
  subst hp; exact cx.step (fun _ q => XS.lshl (cx.at st) cx.1.1 rfl (cx.dec hd) rfl q) k
theorem E_lshr (cx : Cx l Z n0 p e R s m args below meth c bytes ml own name rt Q F S) (st : S kc ks T h) {x : Int64} {y : Int32} (hd : decode bytes pc = .ok (.lshr, 1))  (hp : pc + 1 = pc') (k : F T (mkF m pc' L (.long (x >>> (y &&& 0x3f).toInt64) :: rest))) : F T (mkF m pc L (.int y :: .long x :: rest)) := by
  subst hp; exact cx.step (fun _ q => XS.lshr (cx.at st) cx.1.1 rfl (cx.dec hd) rfl q) k
theorem E_lushr (cx : Cx l Z n0 p e R s m args below meth c bytes ml own name rt Q F S) (st : S kc ks T h) {x : Int64} {y : Int32} (hd : decode bytes pc = .ok (.lushr, 1))  (hp : pc + 1 = pc') (k : F T (mkF m pc' L (.long ((x.toUInt64 >>> (y &&& 0x3f).toInt64.toUInt64).toInt64) :: rest))) : F T (mkF m pc L (.int y :: .long x :: rest)) := by
  subst hp; exact cx.step (fun _ q => XS.lushr (cx.at st) cx.1.1 rfl (cx.dec hd) rfl q) k
theorem E_ineg (cx : Cx l Z n0 p e R s m args below meth c bytes ml own name rt Q F S) (st : S kc ks T h) {x : Int32} (hd : decode bytes pc = .ok (.ineg, 1))  (hp : pc + 1 = pc') (k : F T (mkF m pc' L (.int (-x) :: rest))) : F T (mkF m pc L (.int x :: rest)) := by
  subst hp; exact cx.step (fun _ q => XS.ineg (cx.at st) cx.1.1 rfl (cx.dec hd) rfl q) k
theorem E_lneg (cx : Cx l Z n0 p e R s m args below meth c bytes ml own name rt Q F S) (st : S kc ks T h) {x : Int64} (hd : decode bytes pc = .ok (.lneg, 1))  (hp : pc + 1 = pc') (k : F T (mkF m pc' L (.long (-x) :: rest))) : F T (mkF m pc L (.long x :: rest)) := by
  subst hp; exact cx.step (fun _ q => XS.lneg (cx.at st) cx.1.1 rfl (cx.dec hd) rfl q) k
theorem E_i2l (cx : Cx l Z n0 p e R s m args below meth c bytes ml own name rt Q F S) (st : S kc ks T h) {x : Int32} (hd : decode bytes pc = .ok (.i2l, 1))  (hp : pc + 1 = pc') (k : F T (mkF m pc' L (.long (x.toInt64) :: rest))) : F T (mkF m pc L (.int x :: rest)) := by
  subst hp; exact cx.step (fun _ q => XS.i2l (cx.at st) cx.1.1 rfl (cx.dec hd) rfl q) k
theorem E_l2i (cx : Cx l Z n0 p e R s m args below meth c bytes ml own name rt Q F S) (st : S kc ks T h) {x : Int64} (hd : decode bytes pc = .ok (.l2i, 1))  (hp : pc + 1 = pc') (k : F T (mkF m pc' L (.int (x.toInt32) :: rest))) : F T (mkF m pc L (.long x :: rest)) := by
  subst hp; exact cx.step (fun _ q => XS.l2i (cx.at st) cx.1.1 rfl (cx.dec hd) rfl q) k
theorem E_lcmp (cx : Cx l Z n0 p e R s m args below meth c bytes ml own name rt Q F S) (st : S kc ks T h) {x y : Int64} (hd : decode bytes pc = .ok (.lcmp, 1))  (hp : pc + 1 = pc') (k : F T (mkF m pc' L (.int (lcmpW x y) :: rest))) : F T (mkF m pc L (.long y :: .long x :: rest)) := by
  subst hp; exact cx.step (fun _ q => XS.lcmp (cx.at st) cx.1.1 rfl (cx.dec hd) rfl q) k
theorem E_pop (cx : Cx l Z n0 p e R s m args below meth c bytes ml own name rt Q F S) (st : S kc ks T h) {x : Value} (hd : decode bytes pc = .ok (.pop, 1)) (hc : x.category = 1) (hp : pc + 1 = pc') (k : F T (mkF m pc' L (rest))) : F T (mkF m pc L (x :: rest)) := by
  subst hp; exact cx.step (fun _ q => XS.pop (cx.at st) cx.1.1 rfl (cx.dec hd) rfl hc q) k
theorem E_dup (cx : Cx l Z n0 p e R s m args below meth c bytes ml own name rt Q F S) (st : S kc ks T h) {x : Value} (hd : decode bytes pc = .ok (.dup, 1)) (hc : x.category = 1) (hp : pc + 1 = pc') (k : F T (mkF m pc' L (x :: x :: rest))) : F T (mkF m pc L (x :: rest)) := by
  subst hp; exact cx.step (fun _ q => XS.dup (cx.at st) cx.1.1 rfl (cx.dec hd) rfl hc q) k
theorem E_dup_x1 (cx : Cx l Z n0 p e R s m args below meth c bytes ml own name rt Q F S) (st : S kc ks T h) {x y : Value} (hd : decode bytes pc = .ok (.dup_x1, 1)) (hc : x.category = 1) (hc2 : y.category = 1) (hp : pc + 1 = pc') (k : F T (mkF m pc' L (x :: y :: x :: rest))) : F T (mkF m pc L (x :: y :: rest)) := by
  subst hp; exact cx.step (fun _ q => XS.dupX1 (cx.at st) cx.1.1 rfl (cx.dec hd) rfl hc hc2 q) k
theorem E_aconst_null (cx : Cx l Z n0 p e R s m args below meth c bytes ml own name rt Q F S) (st : S kc ks T h)  (hd : decode bytes pc = .ok (.aconst_null, 1))  (hp : pc + 1 = pc') (k : F T (mkF m pc' L (.null :: rest))) : F T (mkF m pc L (rest)) := by
  subst hp; exact cx.step (fun _ q => XS.aconstNull (cx.at st) cx.1.1 rfl (cx.dec hd)  q) k
theorem E_iloadN (cx : Cx l Z n0 p e R s m args below meth c bytes ml own name rt Q F S) (st : S kc ks T h) {j : Fin 4} {x : Int32} (hd : decode bytes pc = .ok (.iload_n j, 1)) (hl : L[j.val]? = some (.val (.int x)))  (hp : pc + 1 = pc') (k : F T (mkF m pc' L (.int x :: rest))) : F T (mkF m pc L (rest)) := by
  subst hp; exact cx.step (fun _ q => XS.iloadN (cx.at st) cx.1.1 rfl (cx.dec hd) hl q) k
theorem E_istoreN (cx : Cx l Z n0 p e R s m args below meth c bytes ml own name rt Q F S) (st : S kc ks T h) {j : Fin 4} {x : Int32} (hd : decode bytes pc = .ok (.istore_n j, 1))  (hl : storeLocals L j.val (.int x) = some L') (hp : pc + 1 = pc') (k : F T (mkF m pc' L' (rest))) : F T (mkF m pc L (.int x :: rest)) := by
  subst hp; exact cx.step (fun _ q => XS.istoreN (cx.at st) cx.1.1 rfl (cx.dec hd) rfl hl q) k
theorem E_iload (cx : Cx l Z n0 p e R s m args below meth c bytes ml own name rt Q F S) (st : S kc ks T h) {j : Nat} {x : Int32} (hd : decode bytes pc = .ok (.iload j, 2)) (hl : L[j]? = some (.val (.int x)))  (hp : pc + 2 = pc') (k : F T (mkF m pc' L (.int x :: rest))) : F T (mkF m pc L (rest)) := by
  subst hp; exact cx.step (fun _ q => XS.iload (cx.at st) cx.1.1 rfl (cx.dec hd) hl q) k
theorem E_istore (cx : Cx l Z n0 p e R s m args below meth c bytes ml own name rt Q F S) (st : S kc ks T h) {j : Nat} {x : Int32} (hd : decode bytes pc = .ok (.istore j, 2))  (hl : storeLocals L j (.int x) = some L') (hp : pc + 2 = pc') (k : F T (mkF m pc' L' (rest))) : F T (mkF m pc L (.int x :: rest)) := by
  subst hp; exact cx.step (fun _ q => XS.istore (cx.at st) cx.1.1 rfl (cx.dec hd) rfl hl q) k
theorem E_lloadN (cx : Cx l Z n0 p e R s m args below meth c bytes ml own name rt Q F S) (st : S kc ks T h) {j : Fin 4} {x : Int64} (hd : decode bytes pc = .ok (.lload_n j, 1)) (hl : L[j.val]? = some (.val (.long x)))  (hp : pc + 1 = pc') (k : F T (mkF m pc' L (.long x :: rest))) : F T (mkF m pc L (rest)) := by
  subst hp; exact cx.step (fun _ q => XS.lloadN (cx.at st) cx.1.1 rfl (cx.dec hd) hl q) k
theorem E_lstoreN (cx : Cx l Z n0 p e R s m args below meth c bytes ml own name rt Q F S) (st : S kc ks T h) {j : Fin 4} {x : Int64} (hd : decode bytes pc = .ok (.lstore_n j, 1))  (hl : storeLocals L j.val (.long x) = some L') (hp : pc + 1 = pc') (k : F T (mkF m pc' L' (rest))) : F T (mkF m pc L (.long x :: rest)) := by
  subst hp; exact cx.step (fun _ q => XS.lstoreN (cx.at st) cx.1.1 rfl (cx.dec hd) rfl hl q) k
theorem E_lload (cx : Cx l Z n0 p e R s m args below meth c bytes ml own name rt Q F S) (st : S kc ks T h) {j : Nat} {x : Int64} (hd : decode bytes pc = .ok (.lload j, 2)) (hl : L[j]? = some (.val (.long x)))  (hp : pc + 2 = pc') (k : F T (mkF m pc' L (.long x :: rest))) : F T (mkF m pc L (rest)) := by
  subst hp; exact cx.step (fun _ q => XS.lload (cx.at st) cx.1.1 rfl (cx.dec hd) hl q) k
theorem E_lstore (cx : Cx l Z n0 p e R s m args below meth c bytes ml own name rt Q F S) (st : S kc ks T h) {j : Nat} {x : Int64} (hd : decode bytes pc = .ok (.lstore j, 2))  (hl : storeLocals L j (.long x) = some L') (hp : pc + 2 = pc') (k : F T (mkF m pc' L' (rest))) : F T (mkF m pc L (.long x :: rest)) := by
  subst hp; exact cx.step (fun _ q => XS.lstore (cx.at st) cx.1.1 rfl (cx.dec hd) rfl hl q) k
theorem E_aloadN (cx : Cx l Z n0 p e R s m args below meth c bytes ml own name rt Q F S) (st : S kc ks T h) {j : Fin 4} {x : Value} (hd : decode bytes pc = .ok (.aload_n j, 1)) (hl : L[j.val]? = some (.val (x))) (hv : x.isRef = true) (hp : pc + 1 = pc') (k : F T (mkF m pc' L (x :: rest))) : F T (mkF m pc L (rest)) := by
  subst hp; exact cx.step (fun _ q => XS.aloadN (cx.at st) cx.1.1 rfl (cx.dec hd) hl hv q) k
theorem E_astoreN (cx : Cx l Z n0 p e R s m args below meth c bytes ml own name rt Q F S) (st : S kc ks T h) {j : Fin 4} {x : Value} (hd : decode bytes pc = .ok (.astore_n j, 1)) (hv : x.isRef = true) (hl : storeLocals L j.val (x) = some L') (hp : pc + 1 = pc') (k : F T (mkF m pc' L' (rest))) : F T (mkF m pc L (x :: rest)) := by
  subst hp; exact cx.step (fun _ q => XS.astoreN (cx.at st) cx.1.1 rfl (cx.dec hd) rfl hv hl q) k
theorem E_aload (cx : Cx l Z n0 p e R s m args below meth c bytes ml own name rt Q F S) (st : S kc ks T h) {j : Nat} {x : Value} (hd : decode bytes pc = .ok (.aload j, 2)) (hl : L[j]? = some (.val (x))) (hv : x.isRef = true) (hp : pc + 2 = pc') (k : F T (mkF m pc' L (x :: rest))) : F T (mkF m pc L (rest)) := by
  subst hp; exact cx.step (fun _ q => XS.aload (cx.at st) cx.1.1 rfl (cx.dec hd) hl hv q) k
theorem E_astore (cx : Cx l Z n0 p e R s m args below meth c bytes ml own name rt Q F S) (st : S kc ks T h) {j : Nat} {x : Value} (hd : decode bytes pc = .ok (.astore j, 2)) (hv : x.isRef = true) (hl : storeLocals L j (x) = some L') (hp : pc + 2 = pc') (k : F T (mkF m pc' L' (rest))) : F T (mkF m pc L (x :: rest)) := by
  subst hp; exact cx.step (fun _ q => XS.astore (cx.at st) cx.1.1 rfl (cx.dec hd) rfl hv hl q) k
theorem E_iinc (cx : Cx l Z n0 p e R s m args below meth c bytes ml own name rt Q F S) (st : S kc ks T h) {j : Nat} {cst : Int} {x : Int32} (v : Int32) (hd : decode bytes pc = .ok (.iinc j cst, 3)) (hv : Int32.ofInt cst = v) (hl : L[j]? = some (.val (.int x))) (hl' : storeLocals L j (.int (x + v)) = some L') (hp : pc + 3 = pc') (k : F T (mkF m pc' L' rest)) : F T (mkF m pc L rest) := by
  subst hp hv; exact cx.step (fun _ q => XS.iinc (cx.at st) cx.1.1 rfl (cx.dec hd) hl hl' q) k
theorem E_iconst (cx : Cx l Z n0 p e R s m args below meth c bytes ml own name rt Q F S) (st : S kc ks T h) {i : Int} (v : Int32) (hd : decode bytes pc = .ok (.iconst i, 1)) (hv : Int32.ofInt i = v) (hp : pc + 1 = pc') (k : F T (mkF m pc' L (.int v :: rest))) : F T (mkF m pc L rest) := by
  subst hp hv; exact cx.step (fun _ q => XS.iconst (cx.at st) cx.1.1 rfl (cx.dec hd) q) k
theorem E_bipush (cx : Cx l Z n0 p e R s m args below meth c bytes ml own name rt Q F S) (st : S kc ks T h) {i : Int} (v : Int32) (hd : decode bytes pc = .ok (.bipush i, 2)) (hv : (Int8.ofInt i).toInt32 = v) (hp : pc + 2 = pc') (k : F T (mkF m pc' L (.int v :: rest))) : F T (mkF m pc L rest) := by
  subst hp hv; exact cx.step (fun _ q => XS.bipush (cx.at st) cx.1.1 rfl (cx.dec hd) q) k
theorem E_sipush (cx : Cx l Z n0 p e R s m args below meth c bytes ml own name rt Q F S) (st : S kc ks T h) {i : Int} (v : Int32) (hd : decode bytes pc = .ok (.sipush i, 3)) (hv : (Int16.ofInt i).toInt32 = v) (hp : pc + 3 = pc') (k : F T (mkF m pc' L (.int v :: rest))) : F T (mkF m pc L rest) := by
  subst hp hv; exact cx.step (fun _ q => XS.sipush (cx.at st) cx.1.1 rfl (cx.dec hd) q) k
theorem E_lconst (cx : Cx l Z n0 p e R s m args below meth c bytes ml own name rt Q F S) (st : S kc ks T h) {i : Fin 2} (v : Int64) (hd : decode bytes pc = .ok (.lconst i, 1)) (hv : Int64.ofNat i = v) (hp : pc + 1 = pc') (k : F T (mkF m pc' L (.long v :: rest))) : F T (mkF m pc L rest) := by
  subst hp hv; exact cx.step (fun _ q => XS.lconst (cx.at st) cx.1.1 rfl (cx.dec hd) q) k
theorem E_goto (cx : Cx l Z n0 p e R s m args below meth c bytes ml own name rt Q F S) (st : S kc ks T h) {o : Int} (hd : decode bytes pc = .ok (.goto o, 3)) (ho : 0 ≤ (pc : Int) + o) (hp : ((pc : Int) + o).toNat = pc') (k : F T (mkF m pc' L rest)) : F T (mkF m pc L rest) :=
  cx.step (fun _ q => XS.goto (cx.at st) cx.1.1 rfl (pc0 := pc) rfl (cx.dec hd) ho hp q) k
theorem E_irem (cx : Cx l Z n0 p e R s m args below meth c bytes ml own name rt Q F S) (st : S kc ks T h) {x y : Int32} (hd : decode bytes pc = .ok (.irem, 1)) (hz : y ≠ 0) (hp : pc + 1 = pc') (k : F T (mkF m pc' L (.int (x % y) :: rest))) : F T (mkF m pc L (.int y :: .int x :: rest)) := by
  subst hp
  obtain ⟨_, _, _, X, -⟩ := cx.open st
  exact cx.step (fun _ q => iremM X cx.1.1 rfl (cx.dec hd) rfl hz q) k
theorem E_icmp_ltY (cx : Cx l Z n0 p e R s m args below meth c bytes ml own name rt Q F S) (st : S kc ks T h) {x y : Int32} {o : Int} (hd : decode bytes pc = .ok (.if_icmp .lt o, 3)) (ho : 0 ≤ (pc : Int) + o) (hp : ((pc : Int) + o).toNat = pc') (c1 : x < y) (k : F T (mkF m pc' L rest)) : F T (mkF m pc L (.int y :: .int x :: rest)) :=
  cx.step (fun _ q => XS.icmpYes (cx.at st) cx.1.1 rfl (pc0 := pc) rfl (cx.dec hd) rfl (tlt c1).1 ho hp q) k
theorem E_icmp_ltN (cx : Cx l Z n0 p e R s m args below meth c bytes ml own name rt Q F S) (st : S kc ks T h) {x y : Int32} {o : Int} (hd : decode bytes pc = .ok (.if_icmp .lt o, 3)) (hp : pc + 3 = pc') (c1 : ¬ (x < y)) (k : F T (mkF m pc' L rest)) : F T (mkF m pc L (.int y :: .int x :: rest)) := by
  subst hp; exact cx.step (fun _ q => XS.icmpNo (cx.at st) cx.1.1 rfl (cx.dec hd) rfl (flt c1).1 q) k
theorem E_if_ltY (cx : Cx l Z n0 p e R s m args below meth c bytes ml own name rt Q F S) (st : S kc ks T h) {x : Int32} {o : Int} (hd : decode bytes pc = .ok (.ifCond .lt o, 3)) (ho : 0 ≤ (pc : Int) + o) (hp : ((pc : Int) + o).toNat = pc') (c1 : x < 0) (k : F T (mkF m pc' L rest)) : F T (mkF m pc L (.int x :: rest)) :=
  cx.step (fun _ q => XS.ifYes (cx.at st) cx.1.1 rfl (pc0 := pc) rfl (cx.dec hd) rfl ((if0 _ _).trans (tlt c1).1) ho hp q) k
theorem E_if_ltN (cx : Cx l Z n0 p e R s m args below meth c bytes ml own name rt Q F S) (st : S kc ks T h) {x : Int32} {o : Int} (hd : decode bytes pc = .ok (.ifCond .lt o, 3)) (hp : pc + 3 = pc') (c1 : ¬ (x < 0)) (k : F T (mkF m pc' L rest)) : F T (mkF m pc L (.int x :: rest)) := by
  subst hp; exact cx.step (fun _ q => XS.ifNo (cx.at st) cx.1.1 rfl (cx.dec hd) rfl ((if0 _ _).trans (flt c1).1) q) k
theorem E_icmp_geY (cx : Cx l Z n0 p e R s m args below meth c bytes ml own name rt Q F S) (st : S kc ks T h) {x y : Int32} {o : Int} (hd : decode bytes pc = .ok (.if_icmp .ge o, 3)) (ho : 0 ≤ (pc : Int) + o) (hp : ((pc : Int) + o).toNat = pc') (c1 : ¬ (x < y)) (k : F T (mkF m pc' L rest)) : F T (mkF m pc L (.int y :: .int x :: rest)) :=
  cx.step (fun _ q => XS.icmpYes (cx.at st) cx.1.1 rfl (pc0 := pc) rfl (cx.dec hd) rfl (flt c1).2.1 ho hp q) k
theorem E_icmp_geN (cx : Cx l Z n0 p e R s m args below meth c bytes ml own name rt Q F S) (st : S kc ks T h) {x y : Int32} {o : Int} (hd : decode bytes pc = .ok (.if_icmp .ge o, 3)) (hp : pc + 3 = pc') (c1 : x < y) (k : F T (mkF m pc' L rest)) : F T (mkF m pc L (.int y :: .int x :: rest)) := by
  subst hp; exact cx.step (fun _ q => XS.icmpNo (cx.at st) cx.1.1 rfl (cx.dec hd) rfl (tlt c1).2.1 q) k
theorem E_if_geY (cx : Cx l Z n0 p e R s m args below meth c bytes ml own name rt Q F S) (st : S kc ks T h) {x : Int32} {o : Int} (hd : decode bytes pc = .ok (.ifCond .ge o, 3)) (ho : 0 ≤ (pc : Int) + o) (hp : ((pc : Int) + o).toNat = pc') (c1 : ¬ (x < 0)) (k : F T (mkF m pc' L rest)) : F T (mkF m pc L (.int x :: rest)) :=
  cx.step (fun _ q => XS.ifYes (cx.at st) cx.1.1 rfl (pc0 := pc) rfl (cx.dec hd) rfl ((if0 _ _).trans (flt c1).2.1) ho hp q) k
theorem E_if_geN (cx : Cx l Z n0 p e R s m args below meth c bytes ml own name rt Q F S) (st : S kc ks T h) {x : Int32} {o : Int} (hd : decode bytes pc = .ok (.ifCond .ge o, 3)) (hp : pc + 3 = pc') (c1 : x < 0) (k : F T (mkF m pc' L rest)) : F T (mkF m pc L (.int x :: rest)) := by
  subst hp; exact cx.step (fun _ q => XS.ifNo (cx.at st) cx.1.1 rfl (cx.dec hd) rfl ((if0 _ _).trans (tlt c1).2.1) q) k
theorem E_icmp_gtY (cx : Cx l Z n0 p e R s m args below meth c bytes ml own name rt Q F S) (st : S kc ks T h) {x y : Int32} {o : Int} (hd : decode bytes pc = .ok (.if_icmp .gt o, 3)) (ho : 0 ≤ (pc : Int) + o) (hp : ((pc : Int) + o).toNat = pc') (c1 : y < x) (k : F T (mkF m pc' L rest)) : F T (mkF m pc L (.int y :: .int x :: rest)) :=
  cx.step (fun _ q => XS.icmpYes (cx.at st) cx.1.1 rfl (pc0 := pc) rfl (cx.dec hd) rfl (tlt c1).2.2.1 ho hp q) k
theorem E_icmp_gtN (cx : Cx l Z n0 p e R s m args below meth c bytes ml own name rt Q F S) (st : S kc ks T h) {x y : Int32} {o : Int} (hd : decode bytes pc = .ok (.if_icmp .gt o, 3)) (hp : pc + 3 = pc') (c1 : ¬ (y < x)) (k : F T (mkF m pc' L rest)) : F T (mkF m pc L (.int y :: .int x :: rest)) := by
  subst hp; exact cx.step (fun _ q => XS.icmpNo (cx.at st) cx.1.1 rfl (cx.dec hd) rfl (flt c1).2.2.1 q) k
theorem E_if_gtY (cx : Cx l Z n0 p e R s m args below meth c bytes ml own name rt Q F S) (st : S kc ks T h) {x : Int32} {o : Int} (hd : decode bytes pc = .ok (.ifCond .gt o, 3)) (ho : 0 ≤ (pc : Int) + o) (hp : ((pc : Int) + o).toNat = pc') (c1 : 0 < x) (k : F T (mkF m pc' L rest)) : F T (mkF m pc L (.int x :: rest)) :=
  cx.step (fun _ q => XS.ifYes (cx.at st) cx.1.1 rfl (pc0 := pc) rfl (cx.dec hd) rfl ((if0 _ _).trans (tlt c1).2.2.1) ho hp q) k
theorem E_if_gtN (cx : Cx l Z n0 p e R s m args below meth c bytes ml own name rt Q F S) (st : S kc ks T h) {x : Int32} {o : Int} (hd : decode bytes pc = .ok (.ifCond .gt o, 3)) (hp : pc + 3 = pc') (c1 : ¬ (0 < x)) (k : F T (mkF m pc' L rest)) : F T (mkF m pc L (.int x :: rest)) := by
  subst hp; exact cx.step (fun _ q => XS.ifNo (cx.at st) cx.1.1 rfl (cx.dec hd) rfl ((if0 _ _).trans (flt c1).2.2.1) q) k
theorem E_icmp_leY (cx : Cx l Z n0 p e R s m args below meth c bytes ml own name rt Q F S) (st : S kc ks T h) {x y : Int32} {o : Int} (hd : decode bytes pc = .ok (.if_icmp .le o, 3)) (ho : 0 ≤ (pc : Int) + o) (hp : ((pc : Int) + o).toNat = pc') (c1 : ¬ (y < x)) (k : F T (mkF m pc' L rest)) : F T (mkF m pc L (.int y :: .int x :: rest)) :=
  cx.step (fun _ q => XS.icmpYes (cx.at st) cx.1.1 rfl (pc0 := pc) rfl (cx.dec hd) rfl (flt c1).2.2.2 ho hp q) k
theorem E_icmp_leN (cx : Cx l Z n0 p e R s m args below meth c bytes ml own name rt Q F S) (st : S kc ks T h) {x y : Int32} {o : Int} (hd : decode bytes pc = .ok (.if_icmp .le o, 3)) (hp : pc + 3 = pc') (c1 : y < x) (k : F T (mkF m pc' L rest)) : F T (mkF m pc L (.int y :: .int x :: rest)) := by
  subst hp; exact cx.step (fun _ q => XS.icmpNo (cx.at st) cx.1.1 rfl (cx.dec hd) rfl (tlt c1).2.2.2 q) k
theorem E_if_leY (cx : Cx l Z n0 p e R s m args below meth c bytes ml own name rt Q F S) (st : S kc ks T h) {x : Int32} {o : Int} (hd : decode bytes pc = .ok (.ifCond .le o, 3)) (ho : 0 ≤ (pc : Int) + o) (hp : ((pc : Int) + o).toNat = pc') (c1 : ¬ (0 < x)) (k : F T (mkF m pc' L rest)) : F T (mkF m pc L (.int x :: rest)) :=
  cx.step (fun _ q => XS.ifYes (cx.at st) cx.1.1 rfl (pc0 := pc) rfl (cx.dec hd) rfl ((if0 _ _).trans (flt c1).2.2.2) ho hp q) k
theorem E_if_leN (cx : Cx l Z n0 p e R s m args below meth c bytes ml own name rt Q F S) (st : S kc ks T h) {x : Int32} {o : Int} (hd : decode bytes pc = .ok (.ifCond .le o, 3)) (hp : pc + 3 = pc') (c1 : 0 < x) (k : F T (mkF m pc' L rest)) : F T (mkF m pc L (.int x :: rest)) := by
  subst hp; exact cx.step (fun _ q => XS.ifNo (cx.at st) cx.1.1 rfl (cx.dec hd) rfl ((if0 _ _).trans (tlt c1).2.2.2) q) k
theorem E_icmp_eqY (cx : Cx l Z n0 p e R s m args below meth c bytes ml own name rt Q F S) (st : S kc ks T h) {x y : Int32} {o : Int} (hd : decode bytes pc = .ok (.if_icmp .eq o, 3)) (ho : 0 ≤ (pc : Int) + o) (hp : ((pc : Int) + o).toNat = pc') (c1 : x = y) (k : F T (mkF m pc' L rest)) : F T (mkF m pc L (.int y :: .int x :: rest)) :=
  cx.step (fun _ q => XS.icmpYes (cx.at st) cx.1.1 rfl (pc0 := pc) rfl (cx.dec hd) rfl (teq c1).1 ho hp q) k
theorem E_icmp_eqN (cx : Cx l Z n0 p e R s m args below meth c bytes ml own name rt Q F S) (st : S kc ks T h) {x y : Int32} {o : Int} (hd : decode bytes pc = .ok (.if_icmp .eq o, 3)) (hp : pc + 3 = pc') (c1 : ¬ (x = y)) (k : F T (mkF m pc' L rest)) : F T (mkF m pc L (.int y :: .int x :: rest)) := by
  subst hp; exact cx.step (fun _ q => XS.icmpNo (cx.at st) cx.1.1 rfl (cx.dec hd) rfl (feq c1).1 q) k
theorem E_if_eqY (cx : Cx l Z n0 p e R s m args below meth c bytes ml own name rt Q F S) (st : S kc ks T h) {x : Int32} {o : Int} (hd : decode bytes pc = .ok (.ifCond .eq o, 3)) (ho : 0 ≤ (pc : Int) + o) (hp : ((pc : Int) + o).toNat = pc') (c1 : x = 0) (k : F T (mkF m pc' L rest)) : F T (mkF m pc L (.int x :: rest)) :=
  cx.step (fun _ q => XS.ifYes (cx.at st) cx.1.1 rfl (pc0 := pc) rfl (cx.dec hd) rfl ((if0 _ _).trans (teq c1).1) ho hp q) k
theorem E_if_eqN (cx : Cx l Z n0 p e R s m args below meth c bytes ml own name rt Q F S) (st : S kc ks T h) {x : Int32} {o : Int} (hd : decode bytes pc = .ok (.ifCond .eq o, 3)) (hp : pc + 3 = pc') (c1 : ¬ (x = 0)) (k : F T (mkF m pc' L rest)) : F T (mkF m pc L (.int x :: rest)) := by
  subst hp; exact cx.step (fun _ q => XS.ifNo (cx.at st) cx.1.1 rfl (cx.dec hd) rfl ((if0 _ _).trans (feq c1).1) q) k
theorem E_icmp_neY (cx : Cx l Z n0 p e R s m args below meth c bytes ml own name rt Q F S) (st : S kc ks T h) {x y : Int32} {o : Int} (hd : decode bytes pc = .ok (.if_icmp .ne o, 3)) (ho : 0 ≤ (pc : Int) + o) (hp : ((pc : Int) + o).toNat = pc') (c1 : ¬ (x = y)) (k : F T (mkF m pc' L rest)) : F T (mkF m pc L (.int y :: .int x :: rest)) :=
  cx.step (fun _ q => XS.icmpYes (cx.at st) cx.1.1 rfl (pc0 := pc) rfl (cx.dec hd) rfl (feq c1).2 ho hp q) k
theorem E_icmp_neN (cx : Cx l Z n0 p e R s m args below meth c bytes ml own name rt Q F S) (st : S kc ks T h) {x y : Int32} {o : Int} (hd : decode bytes pc = .ok (.if_icmp .ne o, 3)) (hp : pc + 3 = pc') (c1 : x = y) (k : F T (mkF m pc' L rest)) : F T (mkF m pc L (.int y :: .int x :: rest)) := by
  subst hp; exact cx.step (fun _ q => XS.icmpNo (cx.at st) cx.1.1 rfl (cx.dec hd) rfl (teq c1).2 q) k
theorem E_if_neY (cx : Cx l Z n0 p e R s m args below meth c bytes ml own name rt Q F S) (st : S kc ks T h) {x : Int32} {o : Int} (hd : decode bytes pc = .ok (.ifCond .ne o, 3)) (ho : 0 ≤ (pc : Int) + o) (hp : ((pc : Int) + o).toNat = pc') (c1 : ¬ (x = 0)) (k : F T (mkF m pc' L rest)) : F T (mkF m pc L (.int x :: rest)) :=
  cx.step (fun _ q => XS.ifYes (cx.at st) cx.1.1 rfl (pc0 := pc) rfl (cx.dec hd) rfl ((if0 _ _).trans (feq c1).2) ho hp q) k
theorem E_if_neN (cx : Cx l Z n0 p e R s m args below meth c bytes ml own name rt Q F S) (st : S kc ks T h) {x : Int32} {o : Int} (hd : decode bytes pc = .ok (.ifCond .ne o, 3)) (hp : pc + 3 = pc') (c1 : x = 0) (k : F T (mkF m pc' L rest)) : F T (mkF m pc L (.int x :: rest)) := by
  subst hp; exact cx.step (fun _ q => XS.ifNo (cx.at st) cx.1.1 rfl (cx.dec hd) rfl ((if0 _ _).trans (teq c1).2) q) k
theorem E_lif_ltY (cx : Cx l Z n0 p e R s m args below meth c bytes ml own name rt Q F S) (st : S kc ks T h) {x y : Int64} {o : Int} (hd : decode bytes pc = .ok (.lcmp, 1)) (hd2 : decode bytes (pc + 1) = .ok (.ifCond .lt o, 3)) (ho : 0 ≤ ((pc + 1 : Nat) : Int) + o) (hp : (((pc + 1 : Nat) : Int) + o).toNat = pc') (c1 : x < y) (k : F T (mkF m pc' L rest)) : F T (mkF m pc L (.long y :: .long x :: rest)) :=
  E_lcmp cx st hd rfl (E_if_ltY cx st hd2 ho hp ((lw_lt x y).mpr c1) k)
theorem E_lif_ltN (cx : Cx l Z n0 p e R s m args below meth c bytes ml own name rt Q F S) (st : S kc ks T h) {x y : Int64} {o : Int} (hd : decode bytes pc = .ok (.lcmp, 1)) (hd2 : decode bytes (pc + 1) = .ok (.ifCond .lt o, 3)) (hp : pc + 4 = pc') (c1 : ¬ (x < y)) (k : F T (mkF m pc' L rest)) : F T (mkF m pc L (.long y :: .long x :: rest)) :=
  E_lcmp cx st hd rfl (E_if_ltN cx st hd2 hp (fun z => c1 ((lw_lt x y).mp z)) k)
theorem E_lif_geY (cx : Cx l Z n0 p e R s m args below meth c bytes ml own name rt Q F S) (st : S kc ks T h) {x y : Int64} {o : Int} (hd : decode bytes pc = .ok (.lcmp, 1)) (hd2 : decode bytes (pc + 1) = .ok (.ifCond .ge o, 3)) (ho : 0 ≤ ((pc + 1 : Nat) : Int) + o) (hp : (((pc + 1 : Nat) : Int) + o).toNat = pc') (c1 : ¬ (x < y)) (k : F T (mkF m pc' L rest)) : F T (mkF m pc L (.long y :: .long x :: rest)) :=
  E_lcmp cx st hd rfl (E_if_geY cx st hd2 ho hp (fun z => c1 ((lw_lt x y).mp z)) k)
theorem E_lif_geN (cx : Cx l Z n0 p e R s m args below meth c bytes ml own name rt Q F S) (st : S kc ks T h) {x y : Int64} {o : Int} (hd : decode bytes pc = .ok (.lcmp, 1)) (hd2 : decode bytes (pc + 1) = .ok (.ifCond .ge o, 3)) (hp : pc + 4 = pc') (c1 : x < y) (k : F T (mkF m pc' L rest)) : F T (mkF m pc L (.long y :: .long x :: rest)) :=
  E_lcmp cx st hd rfl (E_if_geN cx st hd2 hp ((lw_lt x y).mpr c1) k)
theorem E_lif_gtY (cx : Cx l Z n0 p e R s m args below meth c bytes ml own name rt Q F S) (st : S kc ks T h) {x y : Int64} {o : Int} (hd : decode bytes pc = .ok (.lcmp, 1)) (hd2 : decode bytes (pc + 1) = .ok (.ifCond .gt o, 3)) (ho : 0 ≤ ((pc + 1 : Nat) : Int) + o) (hp : (((pc + 1 : Nat) : Int) + o).toNat = pc') (c1 : y < x) (k : F T (mkF m pc' L rest)) : F T (mkF m pc L (.long y :: .long x :: rest)) :=
  E_lcmp cx st hd rfl (E_if_gtY cx st hd2 ho hp ((lw_gt x y).mpr c1) k)
theorem E_lif_gtN (cx : Cx l Z n0 p e R s m args below meth c bytes ml own name rt Q F S) (st : S kc ks T h) {x y : Int64} {o : Int} (hd : decode bytes pc = .ok (.lcmp, 1)) (hd2 : decode bytes (pc + 1) = .ok (.ifCond .gt o, 3)) (hp : pc + 4 = pc') (c1 : ¬ (y < x)) (k : F T (mkF m pc' L rest)) : F T (mkF m pc L (.long y :: .long x :: rest)) :=
  E_lcmp cx st hd rfl (E_if_gtN cx st hd2 hp (fun z => c1 ((lw_gt x y).mp z)) k)
theorem E_lif_leY (cx : Cx l Z n0 p e R s m args below meth c bytes ml own name rt Q F S) (st : S kc ks T h) {x y : Int64} {o : Int} (hd : decode bytes pc = .ok (.lcmp, 1)) (hd2 : decode bytes (pc + 1) = .ok (.ifCond .le o, 3)) (ho : 0 ≤ ((pc + 1 : Nat) : Int) + o) (hp : (((pc + 1 : Nat) : Int) + o).toNat = pc') (c1 : ¬ (y < x)) (k : F T (mkF m pc' L rest)) : F T (mkF m pc L (.long y :: .long x :: rest)) :=
  E_lcmp cx st hd rfl (E_if_leY cx st hd2 ho hp (fun z => c1 ((lw_gt x y).mp z)) k)
theorem E_lif_leN (cx : Cx l Z n0 p e R s m args below meth c bytes ml own name rt Q F S) (st : S kc ks T h) {x y : Int64} {o : Int} (hd : decode bytes pc = .ok (.lcmp, 1)) (hd2 : decode bytes (pc + 1) = .ok (.ifCond .le o, 3)) (hp : pc + 4 = pc') (c1 : y < x) (k : F T (mkF m pc' L rest)) : F T (mkF m pc L (.long y :: .long x :: rest)) :=
  E_lcmp cx st hd rfl (E_if_leN cx st hd2 hp ((lw_gt x y).mpr c1) k)
theorem E_lif_eqY (cx : Cx l Z n0 p e R s m args below meth c bytes ml own name rt Q F S) (st : S kc ks T h) {x y : Int64} {o : Int} (hd : decode bytes pc = .ok (.lcmp, 1)) (hd2 : decode bytes (pc + 1) = .ok (.ifCond .eq o, 3)) (ho : 0 ≤ ((pc + 1 : Nat) : Int) + o) (hp : (((pc + 1 : Nat) : Int) + o).toNat = pc') (c1 : x = y) (k : F T (mkF m pc' L rest)) : F T (mkF m pc L (.long y :: .long x :: rest)) :=
  E_lcmp cx st hd rfl (E_if_eqY cx st hd2 ho hp ((lw_eq x y).mpr c1) k)
theorem E_lif_eqN (cx : Cx l Z n0 p e R s m args below meth c bytes ml own name rt Q F S) (st : S kc ks T h) {x y : Int64} {o : Int} (hd : decode bytes pc = .ok (.lcmp, 1)) (hd2 : decode bytes (pc + 1) = .ok (.ifCond .eq o, 3)) (hp : pc + 4 = pc') (c1 : ¬ (x = y)) (k : F T (mkF m pc' L rest)) : F T (mkF m pc L (.long y :: .long x :: rest)) :=
  E_lcmp cx st hd rfl (E_if_eqN cx st hd2 hp (fun z => c1 ((lw_eq x y).mp z)) k)
theorem E_lif_neY (cx : Cx l Z n0 p e R s m args below meth c bytes ml own name rt Q F S) (st : S kc ks T h) {x y : Int64} {o : Int} (hd : decode bytes pc = .ok (.lcmp, 1)) (hd2 : decode bytes (pc + 1) = .ok (.ifCond .ne o, 3)) (ho : 0 ≤ ((pc + 1 : Nat) : Int) + o) (hp : (((pc + 1 : Nat) : Int) + o).toNat = pc') (c1 : ¬ (x = y)) (k : F T (mkF m pc' L rest)) : F T (mkF m pc L (.long y :: .long x :: rest)) :=
  E_lcmp cx st hd rfl (E_if_neY cx st hd2 ho hp (fun z => c1 ((lw_eq x y).mp z)) k)
theorem E_lif_neN (cx : Cx l Z n0 p e R s m args below meth c bytes ml own name rt Q F S) (st : S kc ks T h) {x y : Int64} {o : Int} (hd : decode bytes pc = .ok (.lcmp, 1)) (hd2 : decode bytes (pc + 1) = .ok (.ifCond .ne o, 3)) (hp : pc + 4 = pc') (c1 : x = y) (k : F T (mkF m pc' L rest)) : F T (mkF m pc L (.long y :: .long x :: rest)) :=
  E_lcmp cx st hd rfl (E_if_neN cx st hd2 hp ((lw_eq x y).mpr c1) k)
theorem E_ifnullY (cx : Cx l Z n0 p e R s m args below meth c bytes ml own name rt Q F S) (st : S kc ks T h) {o : Int} (hd : decode bytes pc = .ok (.ifnull o, 3)) (ho : 0 ≤ (pc : Int) + o) (hp : ((pc : Int) + o).toNat = pc') (k : F T (mkF m pc' L rest)) : F T (mkF m pc L (.null :: rest)) :=
  cx.step (fun _ q => XS.ifnullYes (cx.at st) cx.1.1 rfl (pc0 := pc) rfl (cx.dec hd) rfl ho hp q) k
theorem E_ifnullN (cx : Cx l Z n0 p e R s m args below meth c bytes ml own name rt Q F S) (st : S kc ks T h) {b : Addr} {o : Int} (hd : decode bytes pc = .ok (.ifnull o, 3)) (hp : pc + 3 = pc') (k : F T (mkF m pc' L rest)) : F T (mkF m pc L (.ref b :: rest)) := by
  subst hp; exact cx.step (fun _ q => XS.ifnullNo (cx.at st) cx.1.1 rfl (cx.dec hd) rfl q) k
theorem E_ifnonnullY (cx : Cx l Z n0 p e R s m args below meth c bytes ml own name rt Q F S) (st : S kc ks T h) {b : Addr} {o : Int} (hd : decode bytes pc = .ok (.ifnonnull o, 3)) (ho : 0 ≤ (pc : Int) + o) (hp : ((pc : Int) + o).toNat = pc') (k : F T (mkF m pc' L rest)) : F T (mkF m pc L (.ref b :: rest)) :=
  cx.step (fun _ q => XS.ifnonnullYes (cx.at st) cx.1.1 rfl (pc0 := pc) rfl (cx.dec hd) rfl ho hp q) k
theorem E_ifnonnullN (cx : Cx l Z n0 p e R s m args below meth c bytes ml own name rt Q F S) (st : S kc ks T h) {o : Int} (hd : decode bytes pc = .ok (.ifnonnull o, 3)) (hp : pc + 3 = pc') (k : F T (mkF m pc' L rest)) : F T (mkF m pc L (.null :: rest)) := by
  subst hp; exact cx.step (fun _ q => XS.ifnonnullNo (cx.at st) cx.1.1 rfl (cx.dec hd) rfl q) k
theorem E_dup2 (cx : Cx l Z n0 p e R s m args below meth c bytes ml own name rt Q F S) (st : S kc ks T h) {x y : Value} (hd : decode bytes pc = .ok (.dup2, 1)) (hc : x.category = 1) (hc2 : y.category = 1) (hp : pc + 1 = pc') (k : F T (mkF m pc' L (x :: y :: x :: y :: rest))) : F T (mkF m pc L (x :: y :: rest)) := by
  subst hp; exact cx.step (fun _ q => Jvm.Free.XT.dup2 (cx.at st) cx.1.1 rfl (cx.dec hd) rfl hc hc2 q) k
theorem E_dup2L (cx : Cx l Z n0 p e R s m args below meth c bytes ml own name rt Q F S) (st : S kc ks T h) {x : Int64} (hd : decode bytes pc = .ok (.dup2, 1)) (hp : pc + 1 = pc') (k : F T (mkF m pc' L (.long x :: .long x :: rest))) : F T (mkF m pc L (.long x :: rest)) := by
  subst hp; exact cx.step (fun _ q => Jvm.Free.XT.dup2L (cx.at st) cx.1.1 rfl (cx.dec hd) rfl q) k
theorem E_ldc (cx : Cx l Z n0 p e R s m args below meth c bytes ml own name rt Q F S) (st : S kc ks T h) {i : Nat} {v : Int32} (w : (Jvm.Cond.constant own i v).before a0 Z = true) (hd : decode bytes pc = .ok (.ldc i, 2)) (hp : pc + 2 = pc') (k : F T (mkF m pc' L (.int v :: rest))) : F T (mkF m pc L rest) := by
  subst hp
  obtain ⟨_, _, _, X, -⟩ := cx.open st
  exact cx.step (fun t q => X.ldcInt cx.1.1 cx.2.1.1 (mvT cx.1.2.1 w) (g := mkF m pc L rest) rfl (cx.dec hd) t q) k
theorem E_ldc_w (cx : Cx l Z n0 p e R s m args below meth c bytes ml own name rt Q F S) (st : S kc ks T h) {i : Nat} {v : Int32} (w : (Jvm.Cond.constant own i v).before a0 Z = true) (hd : decode bytes pc = .ok (.ldc_w i, 3)) (hp : pc + 3 = pc') (k : F T (mkF m pc' L (.int v :: rest))) : F T (mkF m pc L rest) := by
  subst hp
  obtain ⟨_, _, _, X, -⟩ := cx.open st
  exact cx.step (fun t q => X.ldcwInt cx.1.1 cx.2.1.1 (mvT cx.1.2.1 w) (g := mkF m pc L rest) rfl (cx.dec hd) t q) k
theorem E_ldc2_w (cx : Cx l Z n0 p e R s m args below meth c bytes ml own name rt Q F S) (st : S kc ks T h) {i : Nat} {v : Int64} (w : (Jvm.Cond.constantLong own i v).before a0 Z = true) (hd : decode bytes pc = .ok (.ldc2_w i, 3)) (hp : pc + 3 = pc') (k : F T (mkF m pc' L (.long v :: rest))) : F T (mkF m pc L rest) := by
  subst hp
  obtain ⟨_, _, _, X, -⟩ := cx.open st
  exact cx.step (fun t q => X.ldc2Long cx.1.1 cx.2.1.1 (mvT cx.1.2.1 w) (g := mkF m pc L rest) rfl (cx.dec hd) t q) k
theorem E_ireturn (cx : Cx l Z n0 p e R s m args below meth c bytes ml own name rt Q F S) (st : S kc ks T h) {x : Int32} {t : FieldType} (hd : decode bytes pc = .ok (.ireturn, 1)) (hrt : rt = some t) (ht : t = .int ∨ t = .boolean ∨ t = .byte ∨ t = .char ∨ t = .short) (hn : narrow t (.int x) = .int x) (hk : kc ≤ R.cells) (hs : ks ≤ R.slots) (hQ : Q (some (.int x)) h) : F T (mkF m pc L (.int x :: rest)) :=
  cx.fin st (fun q => by rw [hrt] at q; cases q) hk hs (fun fs _ _ _ X hr => retOut X cx.1.1 (cx.2.1.2.2.1.trans hrt) hn (Or.inl ⟨rfl, ht, x, rfl⟩) (cx.dec hd) hr) hQ
theorem E_lreturn (cx : Cx l Z n0 p e R s m args below meth c bytes ml own name rt Q F S) (st : S kc ks T h) {x : Int64} (hd : decode bytes pc = .ok (.lreturn, 1)) (hrt : rt = some .long) (hk : kc ≤ R.cells) (hs : ks ≤ R.slots) (hQ : Q (some (.long x)) h) : F T (mkF m pc L (.long x :: rest)) :=
  cx.fin st (fun q => by rw [hrt] at q; cases q) hk hs (fun fs _ _ _ X hr => retOut X cx.1.1 (cx.2.1.2.2.1.trans hrt) rfl (Or.inr (Or.inl ⟨rfl, rfl, x, rfl⟩)) (cx.dec hd) hr) hQ
theorem E_areturn (cx : Cx l Z n0 p e R s m args below meth c bytes ml own name rt Q F S) (st : S kc ks T h) {x : Value} {t : FieldType} (hd : decode bytes pc = .ok (.areturn, 1)) (hrt : rt = some t) (ht : t.isReference = true) (hn : narrow t x = x) (hx : x.isRef = true) (hk : kc ≤ R.cells) (hs : ks ≤ R.slots) (hQ : Q (some x) h) : F T (mkF m pc L (x :: rest)) :=
  cx.fin st (fun q => by rw [hrt] at q; cases q) hk hs (fun fs _ _ _ X hr => retOut X cx.1.1 (cx.2.1.2.2.1.trans hrt) hn (Or.inr (Or.inr (Or.inr (Or.inr ⟨rfl, ht, hx⟩)))) (cx.dec hd) hr) hQ
theorem E_return (cx : Cx l Z n0 p e R s m args below meth c bytes ml own name rt Q F S) (st : S kc ks T h) (hd : decode bytes pc = .ok (.return_, 1)) (hrt : rt = none) (hk : kc ≤ R.cells) (hs : ks ≤ R.slots) (hQ : Q none h) : F T (mkF m pc L []) :=
  cx.fin st (fun _ => rfl) hk hs (fun fs _ _ _ X hr => X.returnOut cx.1.1 (cx.2.1.2.2.1.trans hrt) (cx.dec hd) hr) hQ
theorem narrow01 {x : Int32} (q : x = 0 ∨ x = 1) : narrow .boolean (.int x) = .int x := by rcases q with rfl | rfl <;> rfl
theorem E_callS (cx : Cx l Z n0 p e R s m args below meth c bytes ml own name rt Q F S) (st : S kc ks T h) {y : MethodName} {bytes' : ByteArray} {ml' : Nat} {rt' : Option FieldType} {rm : Room} {argsL : List Value} {Q' : Option Value → Heap → Prop} {idx W : Nat} {stk : List Value} (rest : List Value)
    (K : Con l Z y bytes' ml' rt' rm argsL.toArray h n0 Q') (w1 : (Jvm.Cond.methodLink own idx y).before a0 Z = true) (w2 : (Jvm.Cond.static y).before a0 Z = true) (w3 : (Jvm.Cond.initialized y.cls).before a0 Z = true) (w4 : (Jvm.Cond.code y bytes' ml' rt').before a0 Z = true)
    (hd : decode bytes pc = .ok (.invokestatic idx, 3)) (hstk : stk = argsL.reverse ++ rest) (hL : L.size = ml) (hlen : ∀ sig, parseMethodDescriptor y.desc = some sig → argsL.length = sig.parameters.length) (hW : (rest.map fun v => v.category).sum ≤ W)
    (hy : y.cls ≠ "java/lang/invoke/MethodHandle" ∧ y.cls ≠ "java/lang/invoke/VarHandle") (hf : rm.frames + 1 ≤ R.frames) (hlo : W + (ml' + 11) + rm.locals ≤ R.locals) (hc : kc + rm.cells ≤ kc') (hs : ks + rm.slots ≤ ks') (hc' : kc' ≤ R.cells) (hs' : ks' ≤ R.slots) (hp : pc + 3 = pc')
    (k : ∀ v T' h', S kc' ks' T' h' → Q' v h' → F T' (mkF m pc' L (v.toList ++ rest))) : F T (mkF m pc L stk) := by
  subst hp
  obtain ⟨locs, cells, slots, X, q1, q2, q3, q4⟩ := cx.open st
  have hZ := cx.1.2.1
  obtain ⟨v, _, ⟨T₁, L₁, k₁, n₁⟩, -, X₁, ⟨Lc, hQ, e1, e2, e3⟩, stp⟩ := Jvm.LawKit.callS X cx.1.1 (y := y) cx.2.1.1 (mvT hZ w1) (mvT hZ w2) (mvT hZ w3) (mvT hZ w4) hy (backOf (W := W) (Q := fun v h L => Fr n0 L ∧ Q' v h) (K []) hZ w4 w3 hf hlo) (g := mkF m pc L stk) rfl (hL.trans cx.1.2.2.2.symm) (argsL := argsL) (rest := rest) hlen hstk (by show 2 * 0 + _ ≤ _; omega) (cx.dec hd) (fun _ _ => ⟨rfl, q1, by dsimp only [Pt.cells]; omega, by dsimp only [Pt.slots]; omega⟩)
  dsimp only [Pt.U, Pt.locs, Pt.cells, Pt.slots] at X₁ e1 e2 e3 stp hQ
  subst e1 e2 e3
  refine cx.step stp (k v T₁ T₁.heap ?_ hQ.2)
  obtain ⟨-, -, -, rfl⟩ := cx
  exact ⟨_, _, _, X₁, rfl, Fr.app q2 hQ.1, by omega, by omega⟩

theorem E_newP (cx : Cx l Z n0 p e R s m args below meth c bytes ml own name rt Q F S) (st : S kc ks T h) {aty : ArrayType} {n : Int32} {cap : Nat} (w : (Jvm.Cond.arrayClass (newarray.typeOf aty)).before a0 Z = true) (hd : decode bytes pc = .ok (.newarray aty, 2)) (hn : ¬ n < 0) (hcap : n.toNatClampNeg ≤ cap) (hb : cap * 8 ≤ 536870912) (hc : kc + 1 ≤ kc') (hs : ks + cap ≤ ks') (hc' : kc' ≤ R.cells) (hs' : ks' ≤ R.slots) (hp : pc + 2 = pc') {ad : String} (had : "[" ++ (newarray.typeOf aty).toString = ad)
    (k : ∀ T' h' cA a, a = h.size → S kc' ks' T' h' → Ext h h' → Arv Z h' a cA (newarray.typeOf aty) n [] (defaultValue (newarray.typeOf aty)) → Exa Z h' a ad → F T' (mkF m pc' L (.ref a :: rest))) : F T (mkF m pc L (.int n :: rest)) := by
  subst hp
  obtain ⟨locs, cells, slots, X, q1, q2, q3, q4⟩ := cx.open st
  obtain ⟨T', h', cA, X', e', E, A, E2, stp⟩ := newPE X cx.1.1 cx.1.2.1 w q1 (g := mkF m pc L (.int n :: rest)) rfl (cx.dec hd) rfl hn (cap := cap) hcap hb (by omega) (by omega) had
  refine cx.step stp (k T' h' cA h.size rfl ?_ E (Arv.new A hn) E2)
  obtain ⟨-, -, -, rfl⟩ := cx
  exact ⟨_, _, _, X', e', q2, by omega, by omega⟩
theorem getD_int (xs : List Int32) (k : Nat) (d : Int32) : (xs.map Value.int).getD k (.int d) = .int (xs.getD k d) := by
  simp only [List.getD_eq_getElem?_getD, List.getElem?_map]
  cases xs[k]? <;> rfl
theorem getD_long (xs : List Int64) (k : Nat) (d : Int64) : (xs.map Value.long).getD k (.long d) = .long (xs.getD k d) := by
  simp only [List.getD_eq_getElem?_getD, List.getElem?_map]
  cases xs[k]? <;> rfl
theorem i32_small {i : Int32} {n : Nat} (h : ¬ i < 0 ∧ i < Int32.ofNat n) (hn : n < 2147483648) : i.toNatClampNeg < n ∧ i = Int32.ofNat i.toNatClampNeg := by
  obtain ⟨h1, h2⟩ := h
  have e1 := rng32 i
  rw [Int32.lt_iff_toInt_lt] at h1 h2
  have k1 : (0 : Int32).toInt = 0 := rfl
  have k2 : (Int32.ofNat n).toInt = n := Int32.toInt_ofNat_of_lt hn
  rw [k1] at h1; rw [k2] at h2
  have e2 : i.toNatClampNeg = i.toInt.toNat := rfl
  refine ⟨by omega, ?_⟩
  apply Int32.toInt_inj.mp
  rw [Int32.toInt_ofNat_of_lt (by omega)]; omega
theorem i32_rem (k : Int32) (n : Nat) (hk : 0 ≤ k.toInt) (h0 : 0 < n) (hn : n < 2147483648) : ¬ (k % Int32.ofNat n) < 0 ∧ (k % Int32.ofNat n) < Int32.ofNat n := by
  have k2 : (Int32.ofNat n).toInt = n := Int32.toInt_ofNat_of_lt hn
  have r := (c_irem k (Int32.ofNat n) n k2).1 hk
  have q1 := Int.emod_nonneg k.toInt (by omega : (n : Int) ≠ 0)
  have q2 := Int.emod_lt_of_pos k.toInt (by omega : (0 : Int) < n)
  have k1 : (0 : Int32).toInt = 0 := rfl
  rw [Int32.lt_iff_toInt_lt, Int32.lt_iff_toInt_lt, k1, k2, r]
  omega
theorem i32_succ {w : Int32} {n : Nat} (h : ¬ w < 0 ∧ w < Int32.ofNat n) (hn : n < 2147483647) : (¬ (w + 1) < 0 ∧ (w + 1) < Int32.ofNat (n + 1)) ∧ (w + 1).toNatClampNeg = w.toNatClampNeg + 1 := by
  obtain ⟨h1, h2⟩ := h
  have e1 := rng32 w
  rw [Int32.lt_iff_toInt_lt] at h1 h2
  have k1 : (0 : Int32).toInt = 0 := rfl
  have k3 : (1 : Int32).toInt = 1 := rfl
  have k2 : (Int32.ofNat n).toInt = n := Int32.toInt_ofNat_of_lt (by omega)
  have k4 : (Int32.ofNat (n + 1)).toInt = ((n + 1 : Nat) : Int) := Int32.toInt_ofNat_of_lt (by omega)
  rw [k1] at h1; rw [k2] at h2
  have e : (w + 1).toInt = w.toInt + 1 := by
    rw [Jvm.Free.XT.add32, k3]; rw [k3]; exact ⟨by omega, by omega⟩
  refine ⟨?_, ?_⟩
  · rw [Int32.lt_iff_toInt_lt, Int32.lt_iff_toInt_lt, k1, k4, e]; omega
  · show (w + 1).toInt.toNat = w.toInt.toNat + 1
    rw [e]; omega
theorem idx_of {n j : Int32} (h1 : ¬ j < 0) (h2 : j < n) : ¬ j < 0 ∧ j < n := ⟨h1, h2⟩
theorem E_iaload (cx : Cx l Z n0 p e R s m args below meth c bytes ml own name rt Q F S) (st : S kc ks T h) {a : Addr} {kA : ClassId} {n j x : Int32} {vs : List Value} {dv : Value} (V : Arv Z h a kA .int n vs dv) (hj : ¬ j < 0 ∧ j < n) (hv : vs.getD j.toNatClampNeg dv = .int x) (hd : decode bytes pc = .ok (.iaload, 1)) (hp : pc + 1 = pc') (k : F T (mkF m pc' L (.int x :: rest))) : F T (mkF m pc L (.int j :: .ref a :: rest)) := by
  subst hp
  obtain ⟨_, _, _, X, q1, -⟩ := cx.open st
  obtain ⟨cl, A, -, S1, N1, H1, G1⟩ := V
  have hin := inb_of S1 hj
  exact cx.step (fun t q => X.iaload cx.1.1 (j := j) (v := .int x) (by rw [q1]; exact A.1) (State.isArrayOf_alike cx.1.2.1.alike A.2.1) A.2.2 hin (H1.at hin hv) (g := mkF m pc L (.int j :: .ref a :: rest)) rfl rfl (cx.dec hd) t q) k
theorem E_laload (cx : Cx l Z n0 p e R s m args below meth c bytes ml own name rt Q F S) (st : S kc ks T h) {a : Addr} {kA : ClassId} {n j : Int32} {x : Int64} {vs : List Value} {dv : Value} (V : Arv Z h a kA .long n vs dv) (hj : ¬ j < 0 ∧ j < n) (hv : vs.getD j.toNatClampNeg dv = .long x) (hd : decode bytes pc = .ok (.laload, 1)) (hp : pc + 1 = pc') (k : F T (mkF m pc' L (.long x :: rest))) : F T (mkF m pc L (.int j :: .ref a :: rest)) := by
  subst hp
  obtain ⟨_, _, _, X, q1, -⟩ := cx.open st
  obtain ⟨cl, A, -, S1, N1, H1, G1⟩ := V
  have hin := inb_of S1 hj
  exact cx.step (fun t q => X.laload cx.1.1 (j := j) (v := .long x) (by rw [q1]; exact A.1) (State.isArrayOf_alike cx.1.2.1.alike A.2.1) A.2.2 hin (H1.at hin hv) (g := mkF m pc L (.int j :: .ref a :: rest)) rfl rfl (cx.dec hd) t q) k
theorem E_iastore (cx : Cx l Z n0 p e R s m args below meth c bytes ml own name rt Q F S) (st : S kc ks T h) {a : Addr} {kA : ClassId} {n j x : Int32} {vs : List Value} {dv : Value} {i : Nat} (V : Arv Z h a kA .int n vs dv) (hj : ¬ j < 0 ∧ j < n) (hi : j.toNatClampNeg = i) (hlt : i < vs.length) (g : n0 ≤ a) (hd : decode bytes pc = .ok (.iastore, 1)) (hp : pc + 1 = pc')
    (k : ∀ T' h', S kc ks T' h' → Wr h h' a i (.int x) → Arv Z h' a kA .int n (vs.set i (.int x)) dv → F T' (mkF m pc' L rest)) : F T (mkF m pc L (.int x :: .int j :: .ref a :: rest)) := by
  subst hp hi
  obtain ⟨_, _, _, X, q1, q2, q3, q4⟩ := cx.open st
  obtain ⟨cl, A, e1, S1, N1, H1, G1⟩ := V
  obtain ⟨T', h', X', e', W, stp⟩ := Jvm.RoadKit.stI X cx.1.1 cx.1.2.1 q1 A (j := j) (x := x) (inb_of S1 hj) (g := mkF m pc L (.int x :: .int j :: .ref a :: rest)) rfl rfl (cx.dec hd)
  refine cx.step stp (k T' h' ?_ W (Arv.set A e1 S1 N1 H1 G1 rfl W _ rfl hlt))
  obtain ⟨-, -, -, rfl⟩ := cx
  exact ⟨_, _, _, X', e', Fr.snoc X' q2 g, q3, q4⟩
theorem E_lastore (cx : Cx l Z n0 p e R s m args below meth c bytes ml own name rt Q F S) (st : S kc ks T h) {a : Addr} {kA : ClassId} {n j : Int32} {x : Int64} {vs : List Value} {dv : Value} {i : Nat} (V : Arv Z h a kA .long n vs dv) (hj : ¬ j < 0 ∧ j < n) (hi : j.toNatClampNeg = i) (hlt : i < vs.length) (g : n0 ≤ a) (hd : decode bytes pc = .ok (.lastore, 1)) (hp : pc + 1 = pc')
    (k : ∀ T' h', S kc ks T' h' → Wr h h' a i (.long x) → Arv Z h' a kA .long n (vs.set i (.long x)) dv → F T' (mkF m pc' L rest)) : F T (mkF m pc L (.long x :: .int j :: .ref a :: rest)) := by
  subst hp hi
  obtain ⟨_, _, _, X, q1, q2, q3, q4⟩ := cx.open st
  obtain ⟨cl, A, e1, S1, N1, H1, G1⟩ := V
  obtain ⟨T', h', X', e', W, stp⟩ := Jvm.RoadKit.stJ X cx.1.1 cx.1.2.1 q1 A (j := j) (x := x) (inb_of S1 hj) (g := mkF m pc L (.long x :: .int j :: .ref a :: rest)) rfl rfl (cx.dec hd)
  refine cx.step stp (k T' h' ?_ W (Arv.set A e1 S1 N1 H1 G1 rfl W _ rfl hlt))
  obtain ⟨-, -, -, rfl⟩ := cx
  exact ⟨_, _, _, X', e', Fr.snoc X' q2 g, q3, q4⟩
theorem E_arraylength (cx : Cx l Z n0 p e R s m args below meth c bytes ml own name rt Q F S) (st : S kc ks T h) {a : Addr} {kA : ClassId} {n : Int32} {ty : FieldType} {vs : List Value} {dv : Value} (V : Arv Z h a kA ty n vs dv) (hd : decode bytes pc = .ok (.arraylength, 1)) (hp : pc + 1 = pc') (k : F T (mkF m pc' L (.int n :: rest))) : F T (mkF m pc L (.ref a :: rest)) := by
  subst hp
  obtain ⟨_, _, _, X, q1, -⟩ := cx.open st
  obtain ⟨cl, A, -, S1, N1, H1, G1⟩ := V
  refine cx.step (fun t q => X.arraylength cx.1.1 (by rw [q1]; exact A.1) (State.isArrayOf_alike cx.1.2.1.alike A.2.1) (g := mkF m pc L (.ref a :: rest)) rfl rfl (cx.dec hd) t ?_) k
  rw [len_of S1 N1]; exact q

theorem E_new (cx : Cx l Z n0 p e R s m args below meth c bytes ml own name rt Q F S) (st : S kc ks T h) {C : String} {idx n : Nat} (w1 : (Jvm.Cond.classLink own idx C).before a0 Z = true) (w2 : (Jvm.Cond.instantiable C n).before a0 Z = true) (w3 : (Jvm.Cond.initialized C).before a0 Z = true) (hd : decode bytes pc = .ok (.new idx, 3)) (hc : kc + 1 ≤ kc') (hs : ks + n ≤ ks') (hc' : kc' ≤ R.cells) (hs' : ks' ≤ R.slots) (hp : pc + 3 = pc')
    (k : ∀ T' h' a, a = h.size → S kc' ks' T' h' → Ext h h' → Exa Z h' a C → (∀ {O nm d : String} {ty : FieldType}, Laid Z a0 C O nm d → parseFieldDescriptor d = some ty → Fld Z h' a O nm d (defaultValue ty)) → F T' (mkF m pc' L (.ref a :: rest))) : F T (mkF m pc L rest) := by
  subst hp
  obtain ⟨locs, cells, slots, X, q1, q2, q3, q4⟩ := cx.open st
  obtain ⟨T', h', X', e', E, A, D, -, stp⟩ := newO X cx.1.1 cx.1.2.1 cx.2.1.1 w1 w2 w3 q1 (g := mkF m pc L rest) rfl (cx.dec hd) (by omega) (by omega)
  refine cx.step stp (k T' h' h.size rfl ?_ E A D)
  obtain ⟨-, -, -, rfl⟩ := cx
  exact ⟨_, _, _, X', e', q2, by omega, by omega⟩
theorem E_initO (cx : Cx l Z n0 p e R s m args below meth c bytes ml own name rt Q F S) (st : S kc ks T h) {a : Addr} {idx W : Nat} (w1 : (Jvm.Cond.methodLink own idx Lib.objectInit).before a0 Z = true) (w2 : (Jvm.Cond.instanceMethod Lib.objectInit).before a0 Z = true) (w3 : (Jvm.Cond.code Lib.objectInit ⟨#[0xb1]⟩ 1 none).before a0 Z = true) (hd : decode bytes pc = .ok (.invokespecial idx, 3)) (hL : L.size = ml) (hf : 1 ≤ R.frames) (hW : (rest.map fun v => v.category).sum ≤ W) (hl : W + 12 ≤ R.locals) (hp : pc + 3 = pc')
    (k : ∀ T', S kc ks T' h → F T' (mkF m pc' L rest)) : F T (mkF m pc L (.ref a :: rest)) := by
  subst hp
  obtain ⟨locs, cells, slots, X, q1, q2, q3, q4⟩ := cx.open st
  obtain ⟨T', X', e', stp⟩ := initO X cx.1.1 cx.1.2.1 cx.2.1.1 w1 w2 w3 q1 (g := mkF m pc L (.ref a :: rest)) rfl (hL.trans cx.1.2.2.2.symm) rfl (cx.dec hd) hf (W := W) (by show 2 * 0 + _ ≤ _; omega) hl
  refine cx.step stp (k T' ?_)
  obtain ⟨-, -, -, rfl⟩ := cx
  exact ⟨_, _, _, X', e', q2, q3, q4⟩
theorem E_getfield (cx : Cx l Z n0 p e R s m args below meth c bytes ml own name rt Q F S) (st : S kc ks T h) {a : Addr} {v : Value} {C n d : String} {idx : Nat} (w : (Jvm.Cond.fieldLink own idx C n d).before a0 Z = true) (G : Fld Z h a C n d v) (hd : decode bytes pc = .ok (.getfield idx, 3)) (hp : pc + 3 = pc')
    (k : ∀ T', S kc ks T' h → F T' (mkF m pc' L (v :: rest))) : F T (mkF m pc L (.ref a :: rest)) := by
  subst hp
  obtain ⟨locs, cells, slots, X, q1, q2, q3, q4⟩ := cx.open st
  obtain ⟨T', X', e', stp⟩ := getF X cx.1.1 cx.1.2.1 cx.2.1.1 (host := "") (Or.inl w) Via.refl q1 G (g := mkF m pc L (.ref a :: rest)) rfl rfl (cx.dec hd)
  refine cx.step stp (k T' ?_)
  obtain ⟨-, -, -, rfl⟩ := cx
  exact ⟨_, _, _, X', e', q2, q3, q4⟩
theorem E_putfield (cx : Cx l Z n0 p e R s m args below meth c bytes ml own name rt Q F S) (st : S kc ks T h) {a : Addr} {v old : Value} {C O n d : String} {idx kk : Nat} {ty : FieldType} (w : (Jvm.Cond.fieldLink own idx O n d).before a0 Z = true) (G : Fld Z h a O n d old) (E : Exa Z h a C) (La : (Jvm.Cond.lays C O n d).before a0 Z = true ∨ ((Jvm.Cond.laysFinal C O n d).before a0 Z = true ∧ own = O ∧ name = "<init>")) (wi : (Jvm.Cond.instantiable C kk).before a0 Z = true)
    (hty : parseFieldDescriptor d = some ty) (hn : narrow ty v = v) (hf : fits ty v = true) (ga : n0 ≤ a) (hd : decode bytes pc = .ok (.putfield idx, 3)) (hp : pc + 3 = pc')
    (k : ∀ T' h', S kc ks T' h' → Wr h h' a (Jvm.RoadKit.slotOf Z O n d) v → F T' (mkF m pc' L rest)) : F T (mkF m pc L (v :: .ref a :: rest)) := by
  subst hp
  obtain ⟨locs, cells, slots, X, q1, q2, q3, q4⟩ := cx.open st
  obtain ⟨T', h', X', e', W, stp⟩ := putF X cx.1.1 cx.1.2.1 cx.2.1.1 (host := "") (Or.inl w) Via.refl q1 G E (La.imp id fun z => ⟨z.1, z.2.1, cx.2.1.2.1.trans z.2.2⟩) wi hty hn hf (g := mkF m pc L (v :: .ref a :: rest)) rfl rfl (cx.dec hd)
  refine cx.step stp (k T' h' ?_ W)
  obtain ⟨-, -, -, rfl⟩ := cx
  exact ⟨_, _, _, X', e', Fr.snoc X' q2 ga, q3, q4⟩
theorem E_callI (cx : Cx l Z n0 p e R s m args below meth c bytes ml own name rt Q F S) (st : S kc ks T h) {y : MethodName} {bytes' : ByteArray} {ml' : Nat} {rm : Room} {a : Addr} {argsL : List Value} {Q' : Option Value → Heap → Prop} {idx W : Nat} {stk : List Value} (rest : List Value)
    (K : Con l Z y bytes' ml' none rm (.ref a :: argsL).toArray h n0 Q') (hy1 : y.name = "<init>") (w1 : (Jvm.Cond.methodLink own idx y).before a0 Z = true) (w2 : (Jvm.Cond.instanceMethod y).before a0 Z = true) (w3 : (Jvm.Cond.initialized y.cls).before a0 Z = true) (w4 : (Jvm.Cond.code y bytes' ml' none).before a0 Z = true)
    (hd : decode bytes pc = .ok (.invokespecial idx, 3)) (hstk : stk = argsL.reverse ++ .ref a :: rest) (hL : L.size = ml) (hlen : ∀ sig, parseMethodDescriptor y.desc = some sig → argsL.length = sig.parameters.length) (hW : (rest.map fun v => v.category).sum ≤ W)
    (hy : y.cls ≠ "java/lang/invoke/MethodHandle" ∧ y.cls ≠ "java/lang/invoke/VarHandle") (hf : rm.frames + 1 ≤ R.frames) (hlo : W + (ml' + 11) + rm.locals ≤ R.locals) (hc : kc + rm.cells ≤ kc') (hs : ks + rm.slots ≤ ks') (hc' : kc' ≤ R.cells) (hs' : ks' ≤ R.slots) (hp : pc + 3 = pc')
    (k : ∀ v T' h', S kc' ks' T' h' → Q' v h' → F T' (mkF m pc' L (v.toList ++ rest))) : F T (mkF m pc L stk) := by
  subst hp
  obtain ⟨locs, cells, slots, X, q1, q2, q3, q4⟩ := cx.open st
  have hZ := cx.1.2.1
  obtain ⟨v, _, ⟨T₁, L₁, k₁, n₁⟩, -, X₁, ⟨Lc, hQ, e1, e2, e3⟩, stp⟩ := X.specialBack cx.1.1 (y := y) hy1 cx.2.1.1 (mvT hZ w1) (mvT hZ w2) (mvT hZ w4) hy (backOf (W := W) (Q := fun v h L => Fr n0 L ∧ Q' v h) (K []) hZ w4 w3 hf hlo) (g := mkF m pc L stk) rfl (hL.trans cx.1.2.2.2.symm) (Steps.refl _) (a := a) (argsL := argsL) (rest := rest) hlen hstk (by show 2 * 0 + _ ≤ _; omega) (cx.dec hd) (fun _ _ => ⟨rfl, q1, by dsimp only [Pt.cells]; omega, by dsimp only [Pt.slots]; omega⟩)
  dsimp only [Pt.U, Pt.locs, Pt.cells, Pt.slots] at X₁ e1 e2 e3 stp hQ
  subst e1 e2 e3
  refine cx.step (fun _ q => stp.trans q) (k v T₁ T₁.heap ?_ hQ.2)
  obtain ⟨-, -, -, rfl⟩ := cx
  exact ⟨_, _, _, X₁, rfl, Fr.app q2 hQ.1, by omega, by omega⟩
theorem E_callV (cx : Cx l Z n0 p e R s m args below meth c bytes ml own name rt Q F S) (st : S kc ks T h) {y : MethodName} {bytes' : ByteArray} {ml' : Nat} {rt' : Option FieldType} {rm : Room} {a : Addr} {argsL : List Value} {Q' : Option Value → Heap → Prop} {idx W : Nat} {stk : List Value} (rest : List Value)
    (K : Con l Z y bytes' ml' rt' rm (.ref a :: argsL).toArray h n0 Q') (E : Exa Z h a y.cls) (w1 : (Jvm.Cond.methodLink own idx y).before a0 Z = true) (w5 : (Jvm.Cond.declares y).before a0 Z = true) (w6 : (Jvm.Cond.selects y.cls y y).before a0 Z = true) (w2 : (Jvm.Cond.instanceMethod y).before a0 Z = true) (w3 : (Jvm.Cond.initialized y.cls).before a0 Z = true) (w4 : (Jvm.Cond.code y bytes' ml' rt').before a0 Z = true)
    (hd : decode bytes pc = .ok (.invokevirtual idx, 3)) (hstk : stk = argsL.reverse ++ .ref a :: rest) (hL : L.size = ml) (hlen : ∀ sig, parseMethodDescriptor y.desc = some sig → argsL.length = sig.parameters.length) (hW : (rest.map fun v => v.category).sum ≤ W)
    (hy : y.cls ≠ "java/lang/invoke/MethodHandle" ∧ y.cls ≠ "java/lang/invoke/VarHandle") (hf : rm.frames + 1 ≤ R.frames) (hlo : W + (ml' + 11) + rm.locals ≤ R.locals) (hc : kc + rm.cells ≤ kc') (hs : ks + rm.slots ≤ ks') (hc' : kc' ≤ R.cells) (hs' : ks' ≤ R.slots) (hp : pc + 3 = pc')
    (k : ∀ v T' h', S kc' ks' T' h' → Q' v h' → F T' (mkF m pc' L (v.toList ++ rest))) : F T (mkF m pc L stk) := by
  subst hp
  obtain ⟨locs, cells, slots, X, q1, q2, q3, q4⟩ := cx.open st
  have hZ := cx.1.2.1
  obtain ⟨cq, kq, qa, qb, qc⟩ := isOf hZ q1 E
  obtain ⟨v, _, ⟨T₁, L₁, k₁, n₁⟩, -, X₁, ⟨Lc, hQ, e1, e2, e3⟩, stp⟩ := X.virtualBack cx.1.1 (y := y) (z := y) cx.2.1.1 (mvT hZ w1) (mvT hZ w5) (notFace_of_selects (args := #[]) (mvT hZ w6)) (mvT hZ w6) (mvT hZ w2) hy (backOf (W := W) (Q := fun v h L => Fr n0 L ∧ Q' v h) (K []) hZ w4 w3 hf hlo) qa qc (g := mkF m pc L stk) rfl (hL.trans cx.1.2.2.2.symm) (Steps.refl _) (argsL := argsL) (rest := rest) hlen hstk (by show 2 * 0 + _ ≤ _; omega) (cx.dec hd) (fun _ _ => ⟨rfl, q1, by dsimp only [Pt.cells]; omega, by dsimp only [Pt.slots]; omega⟩)
  dsimp only [Pt.U, Pt.locs, Pt.cells, Pt.slots] at X₁ e1 e2 e3 stp hQ
  subst e1 e2 e3
  refine cx.step (fun _ q => stp.trans q) (k v T₁ T₁.heap ?_ hQ.2)
  obtain ⟨-, -, -, rfl⟩ := cx
  exact ⟨_, _, _, X₁, rfl, Fr.app q2 hQ.1, by omega, by omega⟩
theorem E_callP (cx : Cx l Z n0 p e R s m args below meth c bytes ml own name rt Q F S) (st : S kc ks T h) {y : MethodName} {bytes' : ByteArray} {ml' : Nat} {rt' : Option FieldType} {rm : Room} {a : Addr} {argsL : List Value} {Q' : Option Value → Heap → Prop} {idx W : Nat} {stk : List Value} (rest : List Value)
    (K : Con l Z y bytes' ml' rt' rm (.ref a :: argsL).toArray h n0 Q') (E : Exa Z h a y.cls) (w1 : (Jvm.Cond.methodLink own idx y).before a0 Z = true) (w5 : (Jvm.Cond.privateMethod y).before a0 Z = true) (w6 : (Jvm.Cond.selects y.cls y y).before a0 Z = true) (w2 : (Jvm.Cond.instanceMethod y).before a0 Z = true) (w3 : (Jvm.Cond.initialized y.cls).before a0 Z = true) (w4 : (Jvm.Cond.code y bytes' ml' rt').before a0 Z = true)
    (hd : decode bytes pc = .ok (.invokevirtual idx, 3)) (hstk : stk = argsL.reverse ++ .ref a :: rest) (hL : L.size = ml) (hlen : ∀ sig, parseMethodDescriptor y.desc = some sig → argsL.length = sig.parameters.length) (hW : (rest.map fun v => v.category).sum ≤ W)
    (hy : y.cls ≠ "java/lang/invoke/MethodHandle" ∧ y.cls ≠ "java/lang/invoke/VarHandle") (hf : rm.frames + 1 ≤ R.frames) (hlo : W + (ml' + 11) + rm.locals ≤ R.locals) (hc : kc + rm.cells ≤ kc') (hs : ks + rm.slots ≤ ks') (hc' : kc' ≤ R.cells) (hs' : ks' ≤ R.slots) (hp : pc + 3 = pc')
    (k : ∀ v T' h', S kc' ks' T' h' → Q' v h' → F T' (mkF m pc' L (v.toList ++ rest))) : F T (mkF m pc L stk) := by
  subst hp
  obtain ⟨locs, cells, slots, X, q1, q2, q3, q4⟩ := cx.open st
  have hZ := cx.1.2.1
  obtain ⟨cq, qa, qb⟩ := E.cell
  obtain ⟨v, _, ⟨T₁, L₁, k₁, n₁⟩, -, X₁, ⟨Lc, hQ, e1, e2, e3⟩, stp⟩ := X.privateBack cx.1.1 (y := y) cx.2.1.1 (mvT hZ w1) (mvT hZ w2) (mvT hZ w6) (Cond.privateMethod_at (mvP hZ w5 (args := #[]))) (mvT hZ w4) hy (backOf (W := W) (Q := fun v h L => Fr n0 L ∧ Q' v h) (K []) hZ w4 w3 hf hlo) (g := mkF m pc L stk) rfl (hL.trans cx.1.2.2.2.symm) (Steps.refl _) (a := a) (by rw [q1]; exact qa) qb (argsL := argsL) (rest := rest) hlen hstk (by show 2 * 0 + _ ≤ _; omega) (cx.dec hd) (fun _ _ => ⟨rfl, q1, by dsimp only [Pt.cells]; omega, by dsimp only [Pt.slots]; omega⟩)
  dsimp only [Pt.U, Pt.locs, Pt.cells, Pt.slots] at X₁ e1 e2 e3 stp hQ
  subst e1 e2 e3
  refine cx.step (fun _ q => stp.trans q) (k v T₁ T₁.heap ?_ hQ.2)
  obtain ⟨-, -, -, rfl⟩ := cx
  exact ⟨_, _, _, X₁, rfl, Fr.app q2 hQ.1, by omega, by omega⟩
theorem E_clone (cx : Cx l Z n0 p e R s m args below meth c bytes ml own name rt Q F S) (st : S kc ks T h) {a : Addr} {ad : String} {idx W cap : Nat} {kA : ClassId} {z : Int32} {vs : List Value} {dv : Value} {ty : FieldType} (V : Arv Z h a kA ty z vs dv) (E : Exa Z h a ad)
    (w1 : (Jvm.Cond.methodLink own idx ⟨ad, "clone", "()Ljava/lang/Object;"⟩).before a0 Z = true) (w2 : (Jvm.Cond.sameMethod ad "java/lang/Object" "clone" "()Ljava/lang/Object;").before a0 Z = true) (w3 : (Jvm.Cond.native ⟨"java/lang/Object", "clone", "()Ljava/lang/Object;"⟩).before a0 Z = true)
    (w4 : (Jvm.Cond.instanceMethod ⟨"java/lang/Object", "clone", "()Ljava/lang/Object;"⟩).before a0 Z = true) (w5 : (Jvm.Cond.selects ad ⟨ad, "clone", "()Ljava/lang/Object;"⟩ ⟨"java/lang/Object", "clone", "()Ljava/lang/Object;"⟩).before a0 Z = true) (w6 : (Jvm.Cond.castable ad "java/lang/Cloneable").before a0 Z = true)
    (hd : decode bytes pc = .ok (.invokevirtual idx, 3)) (hL : L.size = ml) (hf : 1 ≤ R.frames) (hW : (rest.map fun v => v.category).sum ≤ W) (hlo : W + 14 ≤ R.locals) (hcap : z.toNatClampNeg ≤ cap) (hc : kc + 1 ≤ kc') (hs : ks + cap ≤ ks') (hc' : kc' ≤ R.cells) (hs' : ks' ≤ R.slots) (hp : pc + 3 = pc')
    (k : ∀ T' h' b, b = h.size → S kc' ks' T' h' → Ext h h' → Arv Z h' b kA ty z vs dv → Exa Z h' b ad → F T' (mkF m pc' L (.ref b :: rest))) : F T (mkF m pc L (.ref a :: rest)) := by
  subst hp
  obtain ⟨locs, cells, slots, X, q1, q2, q3, q4⟩ := cx.open st
  obtain ⟨cl, A, e1, S1, e3, H, G⟩ := V
  have FC : FitC Z cl := fitC_of A fun i hi v hv => by rw [H i hi] at hv; cases hv; exact G i hi
  obtain ⟨T', h', X', e', ex, A', E', stp⟩ := cloneA X cx.1.1 cx.1.2.1 cx.2.1.1 w1 w2 w3 w4 w5 w6 q1 A E FC (g := mkF m pc L (.ref a :: rest)) rfl (hL.trans cx.1.2.2.2.symm) rfl (cx.dec hd) hf (W := W) (cap := cap) (by show 2 * 0 + _ ≤ _; omega) hlo (by rw [S1]; exact hcap) (by omega) (by omega)
  refine cx.step stp (k T' h' h.size rfl ?_ ex ⟨cloneOf cl, A', e1, S1, e3, H, G⟩ E')
  obtain ⟨-, -, -, rfl⟩ := cx
  exact ⟨_, _, _, X', e', q2, by omega, by omega⟩
theorem E_checkcast (cx : Cx l Z n0 p e R s m args below meth c bytes ml own name rt Q F S) (st : S kc ks T h) {a : Addr} {C : String} {idx : Nat} (w : (Jvm.Cond.classLink own idx C).before a0 Z = true) (I : Ins Z h a C true) (hd : decode bytes pc = .ok (.checkcast idx, 3)) (hp : pc + 3 = pc')
    (k : ∀ T', S kc ks T' h → F T' (mkF m pc' L (.ref a :: rest))) : F T (mkF m pc L (.ref a :: rest)) := by
  subst hp
  obtain ⟨locs, cells, slots, X, q1, q2, q3, q4⟩ := cx.open st
  obtain ⟨T', X', e', stp⟩ := castY X cx.1.1 cx.1.2.1 cx.2.1.1 w q1 I (g := mkF m pc L (.ref a :: rest)) rfl rfl (cx.dec hd)
  refine cx.step stp (k T' ?_)
  obtain ⟨-, -, -, rfl⟩ := cx
  exact ⟨_, _, _, X', e', q2, q3, q4⟩
theorem E_aaload (cx : Cx l Z n0 p e R s m args below meth c bytes ml own name rt Q F S) (st : S kc ks T h) {a : Addr} {kA : ClassId} {n j : Int32} {ty : FieldType} {v : Value} {vs : List Value} {dv : Value} (V : Arv Z h a kA ty n vs dv) (hty : ty.isReference = true) (hj : ¬ j < 0 ∧ j < n) (hv : vs.getD j.toNatClampNeg dv = v) (hd : decode bytes pc = .ok (.aaload, 1)) (hp : pc + 1 = pc') (k : F T (mkF m pc' L (v :: rest))) : F T (mkF m pc L (.int j :: .ref a :: rest)) := by
  subst hp
  obtain ⟨_, _, _, X, q1, -⟩ := cx.open st
  obtain ⟨cl, A, -, S1, N1, H1, G1⟩ := V
  have hin := inb_of S1 hj
  exact cx.step (fun t q => X.aaload cx.1.1 (j := j) (v := v) (by rw [q1]; exact A.1) (State.isArrayOf_alike cx.1.2.1.alike A.2.1) hty A.2.2 hin (H1.at hin hv) (g := mkF m pc L (.int j :: .ref a :: rest)) rfl rfl (cx.dec hd) t q) k
theorem E_aastore (cx : Cx l Z n0 p e R s m args below meth c bytes ml own name rt Q F S) (st : S kc ks T h) {a : Addr} {kA : ClassId} {n j : Int32} {ty : FieldType} {v : Value} {vs : List Value} {dv : Value} {i : Nat} (V : Arv Z h a kA ty n vs dv) (hty : ty.isReference = true) (hst : Sto Z h a v) (hfv : fits ty v = true) (hj : ¬ j < 0 ∧ j < n) (hi : j.toNatClampNeg = i) (hlt : i < vs.length) (g : n0 ≤ a) (hd : decode bytes pc = .ok (.aastore, 1)) (hp : pc + 1 = pc')
    (k : ∀ T' h', S kc ks T' h' → Wr h h' a i v → Arv Z h' a kA ty n (vs.set i v) dv → F T' (mkF m pc' L rest)) : F T (mkF m pc L (v :: .int j :: .ref a :: rest)) := by
  subst hp hi
  obtain ⟨_, _, _, X, q1, q2, q3, q4⟩ := cx.open st
  obtain ⟨cl, A, e1, S1, N1, H1, G1⟩ := V
  obtain ⟨T', h', X', e', W, stp⟩ := Jvm.RoadKit.stR X cx.1.1 cx.1.2.1 q1 A (j := j) (inb_of S1 hj) hty hst (g := mkF m pc L (v :: .int j :: .ref a :: rest)) rfl rfl (cx.dec hd)
  refine cx.step stp (k T' h' ?_ W (Arv.set A e1 S1 N1 H1 G1 hfv W _ rfl hlt))
  obtain ⟨-, -, -, rfl⟩ := cx
  exact ⟨_, _, _, X', e', Fr.snoc X' q2 g, q3, q4⟩
theorem E_arraycopy (cx : Cx l Z n0 p e R s m args below meth c bytes ml own name rt Q F S) (st : S kc ks T h) {a b : Addr} {kA kB : ClassId} {ty : FieldType} {z z' sp dp nn : Int32} {vs vd us : List Value} {dv dd : Value} {idx W : Nat} (A : Arv Z h a kA ty z vs dv) (B : Arv Z h b kB ty z' vd dd) (hty : refKind ty = false)
    (w1 : (Jvm.Cond.methodLink own idx Jvm.Stand.acN).before a0 Z = true) (w2 : (Jvm.Cond.native Jvm.Stand.acN).before a0 Z = true) (w3 : (Jvm.Cond.static Jvm.Stand.acN).before a0 Z = true) (w4 : (Jvm.Cond.initialized "java/lang/System").before a0 Z = true)
    (h1 : ¬ sp < 0) (h2 : ¬ dp < 0) (h3 : ¬ nn < 0) (h4 : sp.toNatClampNeg + nn.toNatClampNeg ≤ z.toNatClampNeg) (h5 : dp.toNatClampNeg + nn.toNatClampNeg ≤ z'.toNatClampNeg) (hus : us = (List.range nn.toNatClampNeg).map fun i => vs.getD (sp.toNatClampNeg + i) dv) (hl : dp.toNatClampNeg + nn.toNatClampNeg ≤ vd.length) (ge : n0 ≤ b)
    (hd : decode bytes pc = .ok (.invokestatic idx, 3)) (hL : L.size = ml) (hf : 1 ≤ R.frames) (hW : (rest.map fun v => v.category).sum ≤ W) (hlo : W + (nativeFrameWords "java/lang/System" "arraycopy" 5 + 11) ≤ R.locals) (hp : pc + 3 = pc')
    (k : ∀ T' h', S kc ks T' h' → Keep h h' [b] → Arv Z h' b kB ty z' (vd.take dp.toNatClampNeg ++ us ++ vd.drop (dp.toNatClampNeg + nn.toNatClampNeg)) dd → F T' (mkF m pc' L rest)) : F T (mkF m pc L (.int nn :: .int dp :: .ref b :: .int sp :: .ref a :: rest)) := by
  subst hp
  obtain ⟨locs, cells, slots, X, q1, q2, q3, q4⟩ := cx.open st
  obtain ⟨T', h', L', X', e', N', K', B', stp⟩ := cpA X cx.1.1 cx.1.2.1 cx.2.1.1 w1 w2 w3 w4 q1 A B (Or.inl ⟨rfl, hty⟩) h1 h2 h3 h4 h5 hus hl q2 ge (g := mkF m pc L (.int nn :: .int dp :: .ref b :: .int sp :: .ref a :: rest)) rfl (hL.trans cx.1.2.2.2.symm) rfl (cx.dec hd) hf (W := W) (by show 2 * 0 + _ ≤ _; omega) hlo
  refine cx.step stp (k T' h' ?_ K' B')
  obtain ⟨-, -, -, rfl⟩ := cx
  exact ⟨_, _, _, X', e', N', q3, q4⟩
theorem E_grid (cx : Cx l Z n0 p e R s m args below meth c bytes ml own name rt Q F S) (st : S kc ks T h) {ty : FieldType} {C ad : String} {idx : Nat} {n j : Int32} {N cap : Nat} (hC : (FieldType.array ty).toString = C) (had : "[" ++ C = ad) (w1 : (Jvm.Cond.classLink own idx ad).before a0 Z = true) (w2 : (Jvm.Cond.arrayOver (.array ty)).before a0 Z = true) (w3 : (Jvm.Cond.arrayClass ty).before a0 Z = true) (hd : decode bytes pc = .ok (.multianewarray idx 2, 4))
    (hn : ¬ n < 0) (hj : ¬ j < 0) (hN : n.toNatClampNeg = N) (hcap : j.toNatClampNeg ≤ cap) (hb : cap * 8 ≤ 536870912) (hb1 : N ≤ 1000) (hdf : fits ty (defaultValue ty) = true) (hdd : (defaultValue ty).isDefault = true) (hc : kc + (1 + N) ≤ kc') (hs : ks + (N + N * cap) ≤ ks') (hc' : kc' ≤ R.cells) (hs' : ks' ≤ R.slots) (hp : pc + 4 = pc')
    (k : ∀ T' h' cA cB, S kc' ks' T' h' → Ext h h' → Arv Z h' h.size cA (.array ty) n (((List.range N).map fun i => h.size + 1 + i).map .ref) .null → (∀ i, i < N → Arv Z h' (h.size + 1 + i) cB ty j [] (defaultValue ty)) → F T' (mkF m pc' L (.ref h.size :: rest))) : F T (mkF m pc L (.int j :: .int n :: rest)) := by
  subst hp
  obtain ⟨locs, cells, slots, X, q1, q2, q3, q4⟩ := cx.open st
  obtain ⟨T', h', cA, cB, X', e', E, A, -, -, D, stp⟩ := gridM X cx.1.1 cx.1.2.1 cx.2.1.1 hC had w1 w2 w3 q1 (g := mkF m pc L (.int j :: .int n :: rest)) rfl (cx.dec hd) rfl hn hj hN rfl (cap := cap) hcap hb hb1 hdf hdd (by omega) (by omega)
  refine cx.step stp (k T' h' cA cB ?_ E A fun i hi => Arv.new (D i _ (by simp [hi])).1 hj)
  obtain ⟨-, -, -, rfl⟩ := cx
  exact ⟨_, _, _, X', e', q2, by omega, by omega⟩
end OwnKit
theorem d3_0 : decode method_2_code 0 = .ok (.iconst 0, 1) := by decide +kernel
theorem d3_1 : decode method_2_code 1 = .ok (.istore 5, 2) := by decide +kernel
theorem d3_3 : decode method_2_code 3 = .ok (.iload_n 1, 1) := by decide +kernel
theorem d3_4 : decode method_2_code 4 = .ok (.iconst 1, 1) := by decide +kernel
theorem d3_5 : decode method_2_code 5 = .ok (.if_icmp .lt 11, 3) := by decide +kernel
theorem d3_8 : decode method_2_code 8 = .ok (.iload_n 2, 1) := by decide +kernel
theorem d3_9 : decode method_2_code 9 = .ok (.iload_n 0, 1) := by decide +kernel
theorem d3_10 : decode method_2_code 10 = .ok (.if_icmp .ge 6, 3) := by decide +kernel
theorem d3_13 : decode method_2_code 13 = .ok (.iinc 5 1, 3) := by decide +kernel
theorem d3_16 : decode method_2_code 16 = .ok (.iload_n 1, 1) := by decide +kernel
theorem d3_17 : decode method_2_code 17 = .ok (.iconst 2, 1) := by decide +kernel
theorem d3_18 : decode method_2_code 18 = .ok (.if_icmp .lt 11, 3) := by decide +kernel
theorem d3_21 : decode method_2_code 21 = .ok (.iload_n 3, 1) := by decide +kernel
theorem d3_22 : decode method_2_code 22 = .ok (.iload_n 0, 1) := by decide +kernel
theorem d3_23 : decode method_2_code 23 = .ok (.if_icmp .ge 6, 3) := by decide +kernel
theorem d3_26 : decode method_2_code 26 = .ok (.iinc 5 1, 3) := by decide +kernel
theorem d3_29 : decode method_2_code 29 = .ok (.iload_n 1, 1) := by decide +kernel
theorem d3_30 : decode method_2_code 30 = .ok (.iconst 3, 1) := by decide +kernel
theorem d3_31 : decode method_2_code 31 = .ok (.if_icmp .lt 12, 3) := by decide +kernel
theorem d3_34 : decode method_2_code 34 = .ok (.iload 4, 2) := by decide +kernel
theorem d3_36 : decode method_2_code 36 = .ok (.iload_n 0, 1) := by decide +kernel
theorem d3_37 : decode method_2_code 37 = .ok (.if_icmp .ge 6, 3) := by decide +kernel
theorem d3_40 : decode method_2_code 40 = .ok (.iinc 5 1, 3) := by decide +kernel
theorem d3_43 : decode method_2_code 43 = .ok (.iload 5, 2) := by decide +kernel
theorem d3_45 : decode method_2_code 45 = .ok (.ireturn, 1) := by decide +kernel
theorem pn_0 : plainName "org/querne/rdf/CountingSortStartsPinLaw" = true := by first | (simp [plainName, overriddenIn]; done) | decide +kernel
theorem ef_3 (m : MethodId) (x0 : Int32) (x1 : Int32) (x2 : Int32) (x3 : Int32) (x4 : Int32) : entryFrame m #[(.int x0), (.int x1), (.int x2), (.int x3), (.int x4)] 6 = mkF m 0 #[.val (.int x0), .val (.int x1), .val (.int x2), .val (.int x3), .val (.int x4), .unset] [] := by first | (simp [entryFrame, mkF, argsToLocals, Value.category]; done) | rfl
def bel (q n s0 s1 s2 : Int32) : Int32 := (if n < (3 : Int32) then (if n < (2 : Int32) then (if n < (1 : Int32) then (0 : Int32) else (if s0 < q then (1 : Int32) else (0 : Int32))) else (if s1 < q then ((if n < (1 : Int32) then (0 : Int32) else (if s0 < q then (1 : Int32) else (0 : Int32))) + (1 : Int32)) else (if n < (1 : Int32) then (0 : Int32) else (if s0 < q then (1 : Int32) else (0 : Int32))))) else (if s2 < q then ((if n < (2 : Int32) then (if n < (1 : Int32) then (0 : Int32) else (if s0 < q then (1 : Int32) else (0 : Int32))) else (if s1 < q then ((if n < (1 : Int32) then (0 : Int32) else (if s0 < q then (1 : Int32) else (0 : Int32))) + (1 : Int32)) else (if n < (1 : Int32) then (0 : Int32) else (if s0 < q then (1 : Int32) else (0 : Int32))))) + (1 : Int32)) else (if n < (2 : Int32) then (if n < (1 : Int32) then (0 : Int32) else (if s0 < q then (1 : Int32) else (0 : Int32))) else (if s1 < q then ((if n < (1 : Int32) then (0 : Int32) else (if s0 < q then (1 : Int32) else (0 : Int32))) + (1 : Int32)) else (if n < (1 : Int32) then (0 : Int32) else (if s0 < q then (1 : Int32) else (0 : Int32)))))))
set_option maxRecDepth 65536 in
set_option maxHeartbeats 40000000 in
theorem rm3 (l : Launch) (Z : State) (a0 : Array Value) (hw : ∀ d ∈ tables_1, d.before a0 Z = true) (q : Int32) (n : Int32) (s0 : Int32) (s1 : Int32) (s2 : Int32) (h0 : Heap) (n0 : Nat) (Z0 : n0 ≤ h0.size) :
    Con l Z (⟨"org/querne/rdf/CountingSortStartsPinLaw", "below", "(IIIII)I"⟩ : MethodName) method_2_code 6 (some .int) ({ frames := 0, cells := 0, slots := 0, locals := 0 } : Room) #[(.int q), (.int n), (.int s0), (.int s1), (.int s2)] h0 n0 (fun v h => v = some (.int (bel q n s0 s1 s2)) ∧ h = h0) := by
  refine Con.of (own := "org/querne/rdf/CountingSortStartsPinLaw") (name := "below") (plainFor_of_name pn_0) (fun m => ef_3 m q n s0 s1 s2) rfl rfl ?_
  intro p e s m below meth c T F S cx st
  refine E_iconst (pc' := 1) cx st (0 : Int32) d3_0 rfl rfl ?_
  refine E_istore (pc' := 3) (L' := #[.val (.int q), .val (.int n), .val (.int s0), .val (.int s1), .val (.int s2), .val (.int (0 : Int32))]) cx st d3_1 rfl rfl ?_
  refine E_iloadN (pc' := 4) cx st d3_3 rfl rfl ?_
  refine E_iconst (pc' := 5) cx st (1 : Int32) d3_4 rfl rfl ?_
  suffices j3 : F T (mkF m 16 #[.val (.int q), .val (.int n), .val (.int s0), .val (.int s1), .val (.int s2), .val (.int (if n < (1 : Int32) then (0 : Int32) else (if s0 < q then (1 : Int32) else (0 : Int32))))] []) by
    by_cases c1 : n < (1 : Int32)
    · refine E_icmp_ltY (pc' := 16) cx st d3_5 (by decide) (by decide) c1 ?_
      simp only [if_pos c1] at j3; exact j3
    · refine E_icmp_ltN (pc' := 8) cx st d3_5 rfl c1 ?_
      refine E_iloadN (pc' := 9) cx st d3_8 rfl rfl ?_
      refine E_iloadN (pc' := 10) cx st d3_9 rfl rfl ?_
      by_cases c2 : s0 < q
      · refine E_icmp_geN (pc' := 13) cx st d3_10 rfl c2 ?_
        refine E_iinc (pc' := 16) (L' := #[.val (.int q), .val (.int n), .val (.int s0), .val (.int s1), .val (.int s2), .val (.int (1 : Int32))]) cx st (1 : Int32) d3_13 rfl rfl rfl rfl ?_
        simp only [if_neg c1, if_pos c2] at j3; exact j3
      · refine E_icmp_geY (pc' := 16) cx st d3_10 (by decide) (by decide) c2 ?_
        simp only [if_neg c1, if_neg c2] at j3; exact j3
  refine E_iloadN (pc' := 17) cx st d3_16 rfl rfl ?_
  refine E_iconst (pc' := 18) cx st (2 : Int32) d3_17 rfl rfl ?_
  suffices j6 : F T (mkF m 29 #[.val (.int q), .val (.int n), .val (.int s0), .val (.int s1), .val (.int s2), .val (.int (if n < (2 : Int32) then (if n < (1 : Int32) then (0 : Int32) else (if s0 < q then (1 : Int32) else (0 : Int32))) else (if s1 < q then ((if n < (1 : Int32) then (0 : Int32) else (if s0 < q then (1 : Int32) else (0 : Int32))) + (1 : Int32)) else (if n < (1 : Int32) then (0 : Int32) else (if s0 < q then (1 : Int32) else (0 : Int32))))))] []) by
    by_cases c4 : n < (2 : Int32)
    · refine E_icmp_ltY (pc' := 29) cx st d3_18 (by decide) (by decide) c4 ?_
      simp only [if_pos c4] at j6; exact j6
    · refine E_icmp_ltN (pc' := 21) cx st d3_18 rfl c4 ?_
      refine E_iloadN (pc' := 22) cx st d3_21 rfl rfl ?_
      refine E_iloadN (pc' := 23) cx st d3_22 rfl rfl ?_
      by_cases c5 : s1 < q
      · refine E_icmp_geN (pc' := 26) cx st d3_23 rfl c5 ?_
        refine E_iinc (pc' := 29) (L' := #[.val (.int q), .val (.int n), .val (.int s0), .val (.int s1), .val (.int s2), .val (.int ((if n < (1 : Int32) then (0 : Int32) else (if s0 < q then (1 : Int32) else (0 : Int32))) + (1 : Int32)))]) cx st (1 : Int32) d3_26 rfl rfl rfl rfl ?_
        simp only [if_neg c4, if_pos c5] at j6; exact j6
      · refine E_icmp_geY (pc' := 29) cx st d3_23 (by decide) (by decide) c5 ?_
        simp only [if_neg c4, if_neg c5] at j6; exact j6
  refine E_iloadN (pc' := 30) cx st d3_29 rfl rfl ?_
  refine E_iconst (pc' := 31) cx st (3 : Int32) d3_30 rfl rfl ?_
  suffices j9 : F T (mkF m 43 #[.val (.int q), .val (.int n), .val (.int s0), .val (.int s1), .val (.int s2), .val (.int (if n < (3 : Int32) then (if n < (2 : Int32) then (if n < (1 : Int32) then (0 : Int32) else (if s0 < q then (1 : Int32) else (0 : Int32))) else (if s1 < q then ((if n < (1 : Int32) then (0 : Int32) else (if s0 < q then (1 : Int32) else (0 : Int32))) + (1 : Int32)) else (if n < (1 : Int32) then (0 : Int32) else (if s0 < q then (1 : Int32) else (0 : Int32))))) else (if s2 < q then ((if n < (2 : Int32) then (if n < (1 : Int32) then (0 : Int32) else (if s0 < q then (1 : Int32) else (0 : Int32))) else (if s1 < q then ((if n < (1 : Int32) then (0 : Int32) else (if s0 < q then (1 : Int32) else (0 : Int32))) + (1 : Int32)) else (if n < (1 : Int32) then (0 : Int32) else (if s0 < q then (1 : Int32) else (0 : Int32))))) + (1 : Int32)) else (if n < (2 : Int32) then (if n < (1 : Int32) then (0 : Int32) else (if s0 < q then (1 : Int32) else (0 : Int32))) else (if s1 < q then ((if n < (1 : Int32) then (0 : Int32) else (if s0 < q then (1 : Int32) else (0 : Int32))) + (1 : Int32)) else (if n < (1 : Int32) then (0 : Int32) else (if s0 < q then (1 : Int32) else (0 : Int32))))))))] []) by
    by_cases c7 : n < (3 : Int32)
    · refine E_icmp_ltY (pc' := 43) cx st d3_31 (by decide) (by decide) c7 ?_
      simp only [if_pos c7] at j9; exact j9
    · refine E_icmp_ltN (pc' := 34) cx st d3_31 rfl c7 ?_
      refine E_iload (pc' := 36) cx st d3_34 rfl rfl ?_
      refine E_iloadN (pc' := 37) cx st d3_36 rfl rfl ?_
      by_cases c8 : s2 < q
      · refine E_icmp_geN (pc' := 40) cx st d3_37 rfl c8 ?_
        refine E_iinc (pc' := 43) (L' := #[.val (.int q), .val (.int n), .val (.int s0), .val (.int s1), .val (.int s2), .val (.int ((if n < (2 : Int32) then (if n < (1 : Int32) then (0 : Int32) else (if s0 < q then (1 : Int32) else (0 : Int32))) else (if s1 < q then ((if n < (1 : Int32) then (0 : Int32) else (if s0 < q then (1 : Int32) else (0 : Int32))) + (1 : Int32)) else (if n < (1 : Int32) then (0 : Int32) else (if s0 < q then (1 : Int32) else (0 : Int32))))) + (1 : Int32)))]) cx st (1 : Int32) d3_40 rfl rfl rfl rfl ?_
        simp only [if_neg c7, if_pos c8] at j9; exact j9
      · refine E_icmp_geY (pc' := 43) cx st d3_37 (by decide) (by decide) c8 ?_
        simp only [if_neg c7, if_neg c8] at j9; exact j9
  refine E_iload (pc' := 45) cx st d3_43 rfl rfl ?_
  refine E_ireturn (t := .int) cx st d3_45 rfl (by simp) rfl (by decide) (by decide) ?_
  exact ⟨rfl, rfl⟩
theorem d2_0 : decode method_3_code 0 = .ok (.iload_n 1, 1) := by decide +kernel
theorem d2_1 : decode method_3_code 1 = .ok (.iload_n 2, 1) := by decide +kernel
theorem d2_2 : decode method_3_code 2 = .ok (.if_icmp .gt 20, 3) := by decide +kernel
theorem d2_5 : decode method_3_code 5 = .ok (.aload_n 0, 1) := by decide +kernel
theorem d2_6 : decode method_3_code 6 = .ok (.iload_n 1, 1) := by decide +kernel
theorem d2_7 : decode method_3_code 7 = .ok (.iaload, 1) := by decide +kernel
theorem d2_8 : decode method_3_code 8 = .ok (.iload_n 1, 1) := by decide +kernel
theorem d2_9 : decode method_3_code 9 = .ok (.iload_n 3, 1) := by decide +kernel
theorem d2_10 : decode method_3_code 10 = .ok (.iload 4, 2) := by decide +kernel
theorem d2_12 : decode method_3_code 12 = .ok (.iload 5, 2) := by decide +kernel
theorem d2_14 : decode method_3_code 14 = .ok (.iload 6, 2) := by decide +kernel
theorem d2_16 : decode method_3_code 16 = .ok (.invokestatic 7, 3) := by decide +kernel
theorem d2_19 : decode method_3_code 19 = .ok (.if_icmp .ne 7, 3) := by decide +kernel
theorem d2_22 : decode method_3_code 22 = .ok (.iconst 1, 1) := by decide +kernel
theorem d2_23 : decode method_3_code 23 = .ok (.goto 4, 3) := by decide +kernel
theorem d2_26 : decode method_3_code 26 = .ok (.iconst 0, 1) := by decide +kernel
theorem d2_27 : decode method_3_code 27 = .ok (.ireturn, 1) := by decide +kernel
theorem ef_2 (m : MethodId) (x0 : Addr) (x1 : Int32) (x2 : Int32) (x3 : Int32) (x4 : Int32) (x5 : Int32) (x6 : Int32) : entryFrame m #[(.ref x0), (.int x1), (.int x2), (.int x3), (.int x4), (.int x5), (.int x6)] 7 = mkF m 0 #[.val (.ref x0), .val (.int x1), .val (.int x2), .val (.int x3), .val (.int x4), .val (.int x5), .val (.int x6)] [] := by first | (simp [entryFrame, mkF, argsToLocals, Value.category]; done) | rfl
theorem pd_0 : parseMethodDescriptor "(IIIII)I" = some ⟨[.int, .int, .int, .int, .int], some .int⟩ := by decide +kernel
set_option maxRecDepth 65536 in
set_option maxHeartbeats 40000000 in
theorem rm2 (l : Launch) (Z : State) (a0 : Array Value) (hw : ∀ d ∈ tables_1, d.before a0 Z = true) (a1 : Addr) (q : Int32) (P : Int32) (n : Int32) (s0 : Int32) (s1 : Int32) (s2 : Int32) (h0 : Heap) (n0 : Nat) (Z0 : n0 ≤ h0.size) (k1 : ClassId) (z : Int32) (rs : List Int32) (V0 : Arv Z h0 a1 k1 .int z (rs.map Value.int) (.int (0 : Int32))) (hq : ¬ P < q → (¬ q < 0 ∧ q < z) ∧ rs.getD q.toNatClampNeg 0 = bel q n s0 s1 s2) :
    Con l Z (⟨"org/querne/rdf/CountingSortStartsPinLaw", "at", "([IIIIIII)Z"⟩ : MethodName) method_3_code 7 (some .boolean) ({ frames := 1, cells := 0, slots := 0, locals := 32 } : Room) #[(.ref a1), (.int q), (.int P), (.int n), (.int s0), (.int s1), (.int s2)] h0 n0 (fun v h => v = some (.int 1) ∧ h = h0) := by
  refine Con.of (own := "org/querne/rdf/CountingSortStartsPinLaw") (name := "at") (plainFor_of_name pn_0) (fun m => ef_2 m a1 q P n s0 s1 s2) rfl rfl ?_
  intro p e s m below meth c T F S cx st
  refine E_iloadN (pc' := 1) cx st d2_0 rfl rfl ?_
  refine E_iloadN (pc' := 2) cx st d2_1 rfl rfl ?_
  by_cases c1 : P < q
  · refine E_icmp_gtY (pc' := 22) cx st d2_2 (by decide) (by decide) c1 ?_
    refine E_iconst (pc' := 23) cx st (1 : Int32) d2_22 rfl rfl ?_
    refine E_goto (pc' := 27) cx st d2_23 (by decide) (by decide) ?_
    refine E_ireturn (t := .boolean) cx st d2_27 rfl (by simp) rfl (by decide) (by decide) ?_
    exact ⟨rfl, rfl⟩
  · refine E_icmp_gtN (pc' := 5) cx st d2_2 rfl c1 ?_
    obtain ⟨hq1, hq2⟩ := hq c1
    refine E_aloadN (pc' := 6) cx st d2_5 rfl rfl rfl ?_
    refine E_iloadN (pc' := 7) cx st d2_6 rfl rfl ?_
    refine E_iaload (pc' := 8) (x := (rs.getD q.toNatClampNeg 0)) cx st V0 hq1 (getD_int rs _ 0) d2_7 rfl ?_
    refine E_iloadN (pc' := 9) cx st d2_8 rfl rfl ?_
    refine E_iloadN (pc' := 10) cx st d2_9 rfl rfl ?_
    refine E_iload (pc' := 12) cx st d2_10 rfl rfl ?_
    refine E_iload (pc' := 14) cx st d2_12 rfl rfl ?_
    refine E_iload (pc' := 16) cx st d2_14 rfl rfl ?_
    refine E_callS (pc' := 19) (kc' := 0) (ks' := 0) (W := 1) (argsL := [(.int q), (.int n), (.int s0), (.int s1), (.int s2)]) cx st [(.int (rs.getD q.toNatClampNeg 0))] (rm3 l Z a0 hw q n s0 s1 s2 h0 n0 Z0) (hw _ (List.mem_of_getElem? (i := 10) rfl)) (hw _ (List.mem_of_getElem? (i := 11) rfl)) (hw _ (List.mem_of_getElem? (i := 8) rfl)) (hw _ (List.mem_of_getElem? (i := 12) rfl)) d2_16 rfl rfl (lenOf pd_0 rfl) (Nat.le_of_eq rfl) (by decide) (by decide) (by decide) (by decide) (by decide) (by decide) (by decide) rfl ?_
    intro v1 T1 h1 st1 hq1
    obtain ⟨rfl, hh1⟩ := hq1
    rw [hh1] at st1
    refine E_icmp_neN (pc' := 22) cx st1 d2_19 rfl hq2 ?_
    refine E_iconst (pc' := 23) cx st1 (1 : Int32) d2_22 rfl rfl ?_
    refine E_goto (pc' := 27) cx st1 d2_23 (by decide) (by decide) ?_
    refine E_ireturn (t := .boolean) cx st1 d2_27 rfl (by simp) rfl (by decide) (by decide) ?_
    exact ⟨rfl, rfl⟩
theorem lt_of_le_lit {q P P1 : Int32} (h : ¬ P < q) (e : P1.toInt = P.toInt + 1 := by decide) : q < P1 := by
  rw [Int32.lt_iff_toInt_lt] at *; omega
def inc (xs : List Int32) (w : Int32) : List Int32 := xs.set (w + 1).toNatClampNeg (xs.getD (w + 1).toNatClampNeg 0 + 1)
def pre (xs : List Int32) (i : Nat) : List Int32 := xs.set (i + 1) (xs.getD (i + 1) 0 + xs.getD i 0)
theorem fin_1_0 : ∀ (q : Fin 2), ((pre [0, 0] 0)).getD q.1 0 = bel (Int32.ofNat q.1) 0 0 0 0 := by decide +kernel
theorem fin_1_1 : ∀ (i : Fin 1) (q : Fin 2), ((pre (inc [0, 0] (Int32.ofNat i.1)) 0)).getD q.1 0 = bel (Int32.ofNat q.1) 1 (Int32.ofNat i.1) 0 0 := by decide +kernel
theorem fin_1_3 : ∀ (i j k : Fin 1) (q : Fin 2), ((pre (inc (inc (inc [0, 0] (Int32.ofNat i.1)) (Int32.ofNat j.1)) (Int32.ofNat k.1)) 0)).getD q.1 0 = bel (Int32.ofNat q.1) 3 (Int32.ofNat i.1) (Int32.ofNat j.1) (Int32.ofNat k.1) := by decide +kernel
theorem fin_2_0 : ∀ (q : Fin 3), ((pre (pre [0, 0, 0] 0) 1)).getD q.1 0 = bel (Int32.ofNat q.1) 0 0 0 0 := by decide +kernel
theorem fin_2_1 : ∀ (i : Fin 2) (q : Fin 3), ((pre (pre (inc [0, 0, 0] (Int32.ofNat i.1)) 0) 1)).getD q.1 0 = bel (Int32.ofNat q.1) 1 (Int32.ofNat i.1) 0 0 := by decide +kernel
theorem fin_2_3 : ∀ (i j k : Fin 2) (q : Fin 3), ((pre (pre (inc (inc (inc [0, 0, 0] (Int32.ofNat i.1)) (Int32.ofNat j.1)) (Int32.ofNat k.1)) 0) 1)).getD q.1 0 = bel (Int32.ofNat q.1) 3 (Int32.ofNat i.1) (Int32.ofNat j.1) (Int32.ofNat k.1) := by decide +kernel
theorem fin_3_0 : ∀ (q : Fin 4), ((pre (pre (pre [0, 0, 0, 0] 0) 1) 2)).getD q.1 0 = bel (Int32.ofNat q.1) 0 0 0 0 := by decide +kernel
theorem fin_3_1 : ∀ (i : Fin 3) (q : Fin 4), ((pre (pre (pre (inc [0, 0, 0, 0] (Int32.ofNat i.1)) 0) 1) 2)).getD q.1 0 = bel (Int32.ofNat q.1) 1 (Int32.ofNat i.1) 0 0 := by decide +kernel
theorem fin_3_3 : ∀ (i j k : Fin 3) (q : Fin 4), ((pre (pre (pre (inc (inc (inc [0, 0, 0, 0] (Int32.ofNat i.1)) (Int32.ofNat j.1)) (Int32.ofNat k.1)) 0) 1) 2)).getD q.1 0 = bel (Int32.ofNat q.1) 3 (Int32.ofNat i.1) (Int32.ofNat j.1) (Int32.ofNat k.1) := by decide +kernel
theorem fin_4_0 : ∀ (q : Fin 5), ((pre (pre (pre (pre [0, 0, 0, 0, 0] 0) 1) 2) 3)).getD q.1 0 = bel (Int32.ofNat q.1) 0 0 0 0 := by decide +kernel
theorem fin_4_1 : ∀ (i : Fin 4) (q : Fin 5), ((pre (pre (pre (pre (inc [0, 0, 0, 0, 0] (Int32.ofNat i.1)) 0) 1) 2) 3)).getD q.1 0 = bel (Int32.ofNat q.1) 1 (Int32.ofNat i.1) 0 0 := by decide +kernel
theorem fin_4_3 : ∀ (i j k : Fin 4) (q : Fin 5), ((pre (pre (pre (pre (inc (inc (inc [0, 0, 0, 0, 0] (Int32.ofNat i.1)) (Int32.ofNat j.1)) (Int32.ofNat k.1)) 0) 1) 2) 3)).getD q.1 0 = bel (Int32.ofNat q.1) 3 (Int32.ofNat i.1) (Int32.ofNat j.1) (Int32.ofNat k.1) := by decide +kernel
theorem d1_0 : decode prog_79_method_3_code 0 = .ok (.iload_n 2, 1) := by decide +kernel
theorem d1_1 : decode prog_79_method_3_code 1 = .ok (.iconst 1, 1) := by decide +kernel
theorem d1_2 : decode prog_79_method_3_code 2 = .ok (.iadd, 1) := by decide +kernel
theorem d1_3 : decode prog_79_method_3_code 3 = .ok (.newarray .int, 2) := by decide +kernel
theorem d1_5 : decode prog_79_method_3_code 5 = .ok (.astore_n 3, 1) := by decide +kernel
theorem d1_6 : decode prog_79_method_3_code 6 = .ok (.aload_n 1, 1) := by decide +kernel
theorem d1_7 : decode prog_79_method_3_code 7 = .ok (.ifnonnull 8, 3) := by decide +kernel
theorem d1_10 : decode prog_79_method_3_code 10 = .ok (.aload_n 0, 1) := by decide +kernel
theorem d1_11 : decode prog_79_method_3_code 11 = .ok (.arraylength, 1) := by decide +kernel
theorem d1_12 : decode prog_79_method_3_code 12 = .ok (.goto 5, 3) := by decide +kernel
theorem d1_15 : decode prog_79_method_3_code 15 = .ok (.aload_n 1, 1) := by decide +kernel
theorem d1_16 : decode prog_79_method_3_code 16 = .ok (.arraylength, 1) := by decide +kernel
theorem d1_17 : decode prog_79_method_3_code 17 = .ok (.istore 4, 2) := by decide +kernel
theorem d1_19 : decode prog_79_method_3_code 19 = .ok (.iconst 0, 1) := by decide +kernel
theorem d1_20 : decode prog_79_method_3_code 20 = .ok (.istore 5, 2) := by decide +kernel
theorem d1_22 : decode prog_79_method_3_code 22 = .ok (.iload 5, 2) := by decide +kernel
theorem d1_24 : decode prog_79_method_3_code 24 = .ok (.iload 4, 2) := by decide +kernel
theorem d1_26 : decode prog_79_method_3_code 26 = .ok (.if_icmp .ge 32, 3) := by decide +kernel
theorem d1_29 : decode prog_79_method_3_code 29 = .ok (.aload_n 3, 1) := by decide +kernel
theorem d1_30 : decode prog_79_method_3_code 30 = .ok (.aload_n 0, 1) := by decide +kernel
theorem d1_31 : decode prog_79_method_3_code 31 = .ok (.aload_n 1, 1) := by decide +kernel
theorem d1_32 : decode prog_79_method_3_code 32 = .ok (.ifnonnull 8, 3) := by decide +kernel
theorem d1_35 : decode prog_79_method_3_code 35 = .ok (.iload 5, 2) := by decide +kernel
theorem d1_37 : decode prog_79_method_3_code 37 = .ok (.goto 7, 3) := by decide +kernel
theorem d1_40 : decode prog_79_method_3_code 40 = .ok (.aload_n 1, 1) := by decide +kernel
theorem d1_41 : decode prog_79_method_3_code 41 = .ok (.iload 5, 2) := by decide +kernel
theorem d1_43 : decode prog_79_method_3_code 43 = .ok (.iaload, 1) := by decide +kernel
theorem d1_44 : decode prog_79_method_3_code 44 = .ok (.iaload, 1) := by decide +kernel
theorem d1_45 : decode prog_79_method_3_code 45 = .ok (.iconst 1, 1) := by decide +kernel
theorem d1_46 : decode prog_79_method_3_code 46 = .ok (.iadd, 1) := by decide +kernel
theorem d1_47 : decode prog_79_method_3_code 47 = .ok (.dup2, 1) := by decide +kernel
theorem d1_48 : decode prog_79_method_3_code 48 = .ok (.iaload, 1) := by decide +kernel
theorem d1_49 : decode prog_79_method_3_code 49 = .ok (.iconst 1, 1) := by decide +kernel
theorem d1_50 : decode prog_79_method_3_code 50 = .ok (.iadd, 1) := by decide +kernel
theorem d1_51 : decode prog_79_method_3_code 51 = .ok (.iastore, 1) := by decide +kernel
theorem d1_52 : decode prog_79_method_3_code 52 = .ok (.iinc 5 1, 3) := by decide +kernel
theorem d1_55 : decode prog_79_method_3_code 55 = .ok (.goto (-33), 3) := by decide +kernel
theorem d1_58 : decode prog_79_method_3_code 58 = .ok (.iconst 0, 1) := by decide +kernel
theorem d1_59 : decode prog_79_method_3_code 59 = .ok (.istore 5, 2) := by decide +kernel
theorem d1_61 : decode prog_79_method_3_code 61 = .ok (.iload 5, 2) := by decide +kernel
theorem d1_63 : decode prog_79_method_3_code 63 = .ok (.iload_n 2, 1) := by decide +kernel
theorem d1_64 : decode prog_79_method_3_code 64 = .ok (.if_icmp .ge 22, 3) := by decide +kernel
theorem d1_67 : decode prog_79_method_3_code 67 = .ok (.aload_n 3, 1) := by decide +kernel
theorem d1_68 : decode prog_79_method_3_code 68 = .ok (.iload 5, 2) := by decide +kernel
theorem d1_70 : decode prog_79_method_3_code 70 = .ok (.iconst 1, 1) := by decide +kernel
theorem d1_71 : decode prog_79_method_3_code 71 = .ok (.iadd, 1) := by decide +kernel
theorem d1_72 : decode prog_79_method_3_code 72 = .ok (.dup2, 1) := by decide +kernel
theorem d1_73 : decode prog_79_method_3_code 73 = .ok (.iaload, 1) := by decide +kernel
theorem d1_74 : decode prog_79_method_3_code 74 = .ok (.aload_n 3, 1) := by decide +kernel
theorem d1_75 : decode prog_79_method_3_code 75 = .ok (.iload 5, 2) := by decide +kernel
theorem d1_77 : decode prog_79_method_3_code 77 = .ok (.iaload, 1) := by decide +kernel
theorem d1_78 : decode prog_79_method_3_code 78 = .ok (.iadd, 1) := by decide +kernel
theorem d1_79 : decode prog_79_method_3_code 79 = .ok (.iastore, 1) := by decide +kernel
theorem d1_80 : decode prog_79_method_3_code 80 = .ok (.iinc 5 1, 3) := by decide +kernel
theorem d1_83 : decode prog_79_method_3_code 83 = .ok (.goto (-22), 3) := by decide +kernel
theorem d1_86 : decode prog_79_method_3_code 86 = .ok (.aload_n 3, 1) := by decide +kernel
theorem d1_87 : decode prog_79_method_3_code 87 = .ok (.areturn, 1) := by decide +kernel
theorem pn_1 : plainName "org/querne/rdf/CountingSort" = true := by first | (simp [plainName, overriddenIn]; done) | decide +kernel
theorem ef_1m0 (m : MethodId) (x0 : Addr) (x2 : Int32) : entryFrame m #[(.ref x0), .null, (.int x2)] 6 = mkF m 0 #[.val (.ref x0), .val .null, .val (.int x2), .unset, .unset, .unset] [] := by first | (simp [entryFrame, mkF, argsToLocals, Value.category]; done) | rfl
set_option maxRecDepth 65536 in
set_option maxHeartbeats 40000000 in
theorem rm1m0 (l : Launch) (Z : State) (a0 : Array Value) (hw : ∀ d ∈ tables_1, d.before a0 Z = true) (b0 : Addr) (P : Int32) (v0 : Int32) (v1 : Int32) (v2 : Int32) (h0 : Heap) (n0 : Nat) (Z0 : n0 ≤ h0.size) (kI : ClassId) (VI : Arv Z h0 b0 kI .int (3 : Int32) [(.int v0), (.int v1), (.int v2)] (.int (0 : Int32))) (hP : P = 1 ∨ P = 2 ∨ P = 3 ∨ P = 4) (hb0 : ¬ v0 < 0 ∧ v0 < P) (hb1 : ¬ v1 < 0 ∧ v1 < P) (hb2 : ¬ v2 < 0 ∧ v2 < P) :
    Con l Z (⟨"org/querne/rdf/CountingSort", "starts", "([I[II)[I"⟩ : MethodName) prog_79_method_3_code 6 (some (.array .int)) ({ frames := 0, cells := 1, slots := 5, locals := 0 } : Room) #[(.ref b0), .null, (.int P)] h0 n0 (fun v h => ∃ (a : Addr) (k : ClassId) (rs : List Int32), v = some (.ref a) ∧ h0.size ≤ a ∧ Keep h0 h [] ∧ Arv Z h a k .int (P + 1) (rs.map Value.int) (.int (0 : Int32)) ∧ ∀ q : Int32, ¬ q < 0 → ¬ P < q → rs.getD q.toNatClampNeg 0 = bel q 3 v0 v1 v2) := by
  refine Con.of (own := "org/querne/rdf/CountingSort") (name := "starts") (plainFor_of_name pn_1) (fun m => ef_1m0 m b0 P) rfl rfl ?_
  intro p e s m below meth c T F S cx st
  rcases hP with rfl | rfl | rfl | rfl
  · refine E_iloadN (pc' := 1) cx st d1_0 rfl rfl ?_
    refine E_iconst (pc' := 2) cx st (1 : Int32) d1_1 rfl rfl ?_
    refine E_iadd (pc' := 3) cx st d1_2 rfl ?_
    rw [show ((1 : Int32) + (1 : Int32)) = (2 : Int32) from by decide]
    refine E_newP (pc' := 5) (kc' := 1) (ks' := 2) (cap := 2) cx st (hw _ (List.mem_of_getElem? (i := 1) rfl)) d1_3 (by decide) (by decide) (by decide) (by decide) (by decide) (by decide) (by decide) rfl (ad := "[I") (by decide) ?_
    intro T1 h1 ca1 a1 q1 st1 E1 V1 X1
    have g_a1 : n0 ≤ a1 := by rw [q1]; exact Z0
    have ne_b0_a1 : b0 ≠ a1 := by rw [q1]; exact Nat.ne_of_lt VI.lt
    have sz_a1 : h0.size ≤ a1 := by rw [q1]; exact (Keep.refl h0 []).1
    have Z1 : n0 ≤ h1.size := Nat.le_trans Z0 E1.1
    have K1 : Keep h0 h1 [] := (Keep.refl h0 []).ext E1
    have V1p : Arv Z h1 a1 ca1 .int (2 : Int32) [(.int (0 : Int32)), (.int (0 : Int32))] (.int (0 : Int32)) := V1.pad (pad_rep [] (.int (0 : Int32)) 2)
    refine E_astoreN (pc' := 6) (L' := #[.val (.ref b0), .val .null, .val (.int (1 : Int32)), .val (.ref a1), .unset, .unset]) cx st1 d1_5 rfl rfl rfl ?_
    refine E_aloadN (pc' := 7) cx st1 d1_6 rfl rfl rfl ?_
    refine E_ifnonnullN (pc' := 10) cx st1 d1_7 rfl ?_
    refine E_aloadN (pc' := 11) cx st1 d1_10 rfl rfl rfl ?_
    have V2 : Arv Z h1 b0 kI .int (3 : Int32) [(.int v0), (.int v1), (.int v2)] (.int (0 : Int32)) := (VI.ext E1)
    refine E_arraylength (pc' := 12) cx st1 V2 d1_11 rfl ?_
    refine E_goto (pc' := 17) cx st1 d1_12 (by decide) (by decide) ?_
    refine E_istore (pc' := 19) (L' := #[.val (.ref b0), .val .null, .val (.int (1 : Int32)), .val (.ref a1), .val (.int (3 : Int32)), .unset]) cx st1 d1_17 rfl rfl ?_
    refine E_iconst (pc' := 20) cx st1 (0 : Int32) d1_19 rfl rfl ?_
    refine E_istore (pc' := 22) (L' := #[.val (.ref b0), .val .null, .val (.int (1 : Int32)), .val (.ref a1), .val (.int (3 : Int32)), .val (.int (0 : Int32))]) cx st1 d1_20 rfl rfl ?_
    refine E_iload (pc' := 24) cx st1 d1_22 rfl rfl ?_
    refine E_iload (pc' := 26) cx st1 d1_24 rfl rfl ?_
    have l_xs0 : ([0, 0] : List Int32).length = 2 := rfl
    have V3 : Arv Z h1 a1 ca1 .int (2 : Int32) (([0, 0] : List Int32).map Value.int) (.int (0 : Int32)) := V1p
    obtain ⟨xs0, h_xs0⟩ : ∃ z, z = ([0, 0] : List Int32) := ⟨_, rfl⟩
    rw [← h_xs0] at l_xs0 V3
    refine E_icmp_geN (pc' := 29) cx st1 d1_26 rfl (by decide) ?_
    refine E_aloadN (pc' := 30) cx st1 d1_29 rfl rfl rfl ?_
    refine E_aloadN (pc' := 31) cx st1 d1_30 rfl rfl rfl ?_
    refine E_aloadN (pc' := 32) cx st1 d1_31 rfl rfl rfl ?_
    refine E_ifnonnullN (pc' := 35) cx st1 d1_32 rfl ?_
    refine E_iload (pc' := 37) cx st1 d1_35 rfl rfl ?_
    refine E_goto (pc' := 44) cx st1 d1_37 (by decide) (by decide) ?_
    refine E_iaload (pc' := 45) (x := v0) cx st1 V2 ⟨by decide, by decide⟩ rfl d1_44 rfl ?_
    obtain ⟨hs0, hn0⟩ := i32_succ (n := 1) hb0 (by decide)
    have hm0 := (i32_small (n := 1) hb0 (by decide)).1
    refine E_iconst (pc' := 46) cx st1 (1 : Int32) d1_45 rfl rfl ?_
    refine E_iadd (pc' := 47) cx st1 d1_46 rfl ?_
    refine E_dup2 (pc' := 48) cx st1 d1_47 rfl rfl rfl ?_
    refine E_iaload (pc' := 49) (x := (xs0.getD (v0 + (1 : Int32)).toNatClampNeg 0)) cx st1 V3 hs0 (getD_int xs0 _ 0) d1_48 rfl ?_
    refine E_iconst (pc' := 50) cx st1 (1 : Int32) d1_49 rfl rfl ?_
    refine E_iadd (pc' := 51) cx st1 d1_50 rfl ?_
    refine E_iastore (pc' := 52) (i := (v0 + 1).toNatClampNeg) cx st1 V3 hs0 rfl (by rw [List.length_map, l_xs0, hn0]; omega) g_a1 d1_51 rfl ?_
    intro T4 h4 st4 W4 V4
    have Z4 : n0 ≤ h4.size := Nat.le_trans Z1 (Keep.of_wr W4).1
    have K4 : Keep h0 h4 [] := K1.wr W4 (Or.inr sz_a1)
    obtain ⟨xs1, h_xs1⟩ : ∃ z, z = inc xs0 v0 := ⟨_, rfl⟩
    have V4p : Arv Z h4 a1 ca1 .int (2 : Int32) (xs1.map Value.int) (.int (0 : Int32)) := by rw [h_xs1]; rw [show inc xs0 v0 = xs0.set (v0 + 1).toNatClampNeg ((xs0.getD (v0 + (1 : Int32)).toNatClampNeg 0) + (1 : Int32)) from rfl, List.map_set]; exact V4
    have l_xs1 : xs1.length = 2 := by rw [h_xs1, show inc xs0 v0 = xs0.set (v0 + 1).toNatClampNeg ((xs0.getD (v0 + (1 : Int32)).toNatClampNeg 0) + (1 : Int32)) from rfl, List.length_set]; exact l_xs0
    refine E_iinc (pc' := 55) (L' := #[.val (.ref b0), .val .null, .val (.int (1 : Int32)), .val (.ref a1), .val (.int (3 : Int32)), .val (.int (1 : Int32))]) cx st4 (1 : Int32) d1_52 rfl rfl rfl rfl ?_
    refine E_goto (pc' := 22) cx st4 d1_55 (by decide) (by decide) ?_
    refine E_iload (pc' := 24) cx st4 d1_22 rfl rfl ?_
    refine E_iload (pc' := 26) cx st4 d1_24 rfl rfl ?_
    refine E_icmp_geN (pc' := 29) cx st4 d1_26 rfl (by decide) ?_
    refine E_aloadN (pc' := 30) cx st4 d1_29 rfl rfl rfl ?_
    refine E_aloadN (pc' := 31) cx st4 d1_30 rfl rfl rfl ?_
    refine E_aloadN (pc' := 32) cx st4 d1_31 rfl rfl rfl ?_
    refine E_ifnonnullN (pc' := 35) cx st4 d1_32 rfl ?_
    refine E_iload (pc' := 37) cx st4 d1_35 rfl rfl ?_
    refine E_goto (pc' := 44) cx st4 d1_37 (by decide) (by decide) ?_
    have V5 : Arv Z h4 b0 kI .int (3 : Int32) [(.int v0), (.int v1), (.int v2)] (.int (0 : Int32)) := (V2.other W4 ne_b0_a1)
    refine E_iaload (pc' := 45) (x := v1) cx st4 V5 ⟨by decide, by decide⟩ rfl d1_44 rfl ?_
    obtain ⟨hs1, hn1⟩ := i32_succ (n := 1) hb1 (by decide)
    have hm1 := (i32_small (n := 1) hb1 (by decide)).1
    refine E_iconst (pc' := 46) cx st4 (1 : Int32) d1_45 rfl rfl ?_
    refine E_iadd (pc' := 47) cx st4 d1_46 rfl ?_
    refine E_dup2 (pc' := 48) cx st4 d1_47 rfl rfl rfl ?_
    refine E_iaload (pc' := 49) (x := (xs1.getD (v1 + (1 : Int32)).toNatClampNeg 0)) cx st4 V4p hs1 (getD_int xs1 _ 0) d1_48 rfl ?_
    refine E_iconst (pc' := 50) cx st4 (1 : Int32) d1_49 rfl rfl ?_
    refine E_iadd (pc' := 51) cx st4 d1_50 rfl ?_
    refine E_iastore (pc' := 52) (i := (v1 + 1).toNatClampNeg) cx st4 V4p hs1 rfl (by rw [List.length_map, l_xs1, hn1]; omega) g_a1 d1_51 rfl ?_
    intro T6 h6 st6 W6 V6
    have Z6 : n0 ≤ h6.size := Nat.le_trans Z4 (Keep.of_wr W6).1
    have K6 : Keep h0 h6 [] := K4.wr W6 (Or.inr sz_a1)
    obtain ⟨xs2, h_xs2⟩ : ∃ z, z = inc xs1 v1 := ⟨_, rfl⟩
    have V6p : Arv Z h6 a1 ca1 .int (2 : Int32) (xs2.map Value.int) (.int (0 : Int32)) := by rw [h_xs2]; rw [show inc xs1 v1 = xs1.set (v1 + 1).toNatClampNeg ((xs1.getD (v1 + (1 : Int32)).toNatClampNeg 0) + (1 : Int32)) from rfl, List.map_set]; exact V6
    have l_xs2 : xs2.length = 2 := by rw [h_xs2, show inc xs1 v1 = xs1.set (v1 + 1).toNatClampNeg ((xs1.getD (v1 + (1 : Int32)).toNatClampNeg 0) + (1 : Int32)) from rfl, List.length_set]; exact l_xs1
    refine E_iinc (pc' := 55) (L' := #[.val (.ref b0), .val .null, .val (.int (1 : Int32)), .val (.ref a1), .val (.int (3 : Int32)), .val (.int (2 : Int32))]) cx st6 (1 : Int32) d1_52 rfl rfl rfl rfl ?_
    refine E_goto (pc' := 22) cx st6 d1_55 (by decide) (by decide) ?_
    refine E_iload (pc' := 24) cx st6 d1_22 rfl rfl ?_
    refine E_iload (pc' := 26) cx st6 d1_24 rfl rfl ?_
    refine E_icmp_geN (pc' := 29) cx st6 d1_26 rfl (by decide) ?_
    refine E_aloadN (pc' := 30) cx st6 d1_29 rfl rfl rfl ?_
    refine E_aloadN (pc' := 31) cx st6 d1_30 rfl rfl rfl ?_
    refine E_aloadN (pc' := 32) cx st6 d1_31 rfl rfl rfl ?_
    refine E_ifnonnullN (pc' := 35) cx st6 d1_32 rfl ?_
    refine E_iload (pc' := 37) cx st6 d1_35 rfl rfl ?_
    refine E_goto (pc' := 44) cx st6 d1_37 (by decide) (by decide) ?_
    have V7 : Arv Z h6 b0 kI .int (3 : Int32) [(.int v0), (.int v1), (.int v2)] (.int (0 : Int32)) := (V5.other W6 ne_b0_a1)
    refine E_iaload (pc' := 45) (x := v2) cx st6 V7 ⟨by decide, by decide⟩ rfl d1_44 rfl ?_
    obtain ⟨hs2, hn2⟩ := i32_succ (n := 1) hb2 (by decide)
    have hm2 := (i32_small (n := 1) hb2 (by decide)).1
    refine E_iconst (pc' := 46) cx st6 (1 : Int32) d1_45 rfl rfl ?_
    refine E_iadd (pc' := 47) cx st6 d1_46 rfl ?_
    refine E_dup2 (pc' := 48) cx st6 d1_47 rfl rfl rfl ?_
    refine E_iaload (pc' := 49) (x := (xs2.getD (v2 + (1 : Int32)).toNatClampNeg 0)) cx st6 V6p hs2 (getD_int xs2 _ 0) d1_48 rfl ?_
    refine E_iconst (pc' := 50) cx st6 (1 : Int32) d1_49 rfl rfl ?_
    refine E_iadd (pc' := 51) cx st6 d1_50 rfl ?_
    refine E_iastore (pc' := 52) (i := (v2 + 1).toNatClampNeg) cx st6 V6p hs2 rfl (by rw [List.length_map, l_xs2, hn2]; omega) g_a1 d1_51 rfl ?_
    intro T8 h8 st8 W8 V8
    have Z8 : n0 ≤ h8.size := Nat.le_trans Z6 (Keep.of_wr W8).1
    have K8 : Keep h0 h8 [] := K6.wr W8 (Or.inr sz_a1)
    obtain ⟨xs3, h_xs3⟩ : ∃ z, z = inc xs2 v2 := ⟨_, rfl⟩
    have V8p : Arv Z h8 a1 ca1 .int (2 : Int32) (xs3.map Value.int) (.int (0 : Int32)) := by rw [h_xs3]; rw [show inc xs2 v2 = xs2.set (v2 + 1).toNatClampNeg ((xs2.getD (v2 + (1 : Int32)).toNatClampNeg 0) + (1 : Int32)) from rfl, List.map_set]; exact V8
    have l_xs3 : xs3.length = 2 := by rw [h_xs3, show inc xs2 v2 = xs2.set (v2 + 1).toNatClampNeg ((xs2.getD (v2 + (1 : Int32)).toNatClampNeg 0) + (1 : Int32)) from rfl, List.length_set]; exact l_xs2
    refine E_iinc (pc' := 55) (L' := #[.val (.ref b0), .val .null, .val (.int (1 : Int32)), .val (.ref a1), .val (.int (3 : Int32)), .val (.int (3 : Int32))]) cx st8 (1 : Int32) d1_52 rfl rfl rfl rfl ?_
    refine E_goto (pc' := 22) cx st8 d1_55 (by decide) (by decide) ?_
    refine E_iload (pc' := 24) cx st8 d1_22 rfl rfl ?_
    refine E_iload (pc' := 26) cx st8 d1_24 rfl rfl ?_
    refine E_icmp_geY (pc' := 58) cx st8 d1_26 (by decide) (by decide) (by decide) ?_
    refine E_iconst (pc' := 59) cx st8 (0 : Int32) d1_58 rfl rfl ?_
    refine E_istore (pc' := 61) (L' := #[.val (.ref b0), .val .null, .val (.int (1 : Int32)), .val (.ref a1), .val (.int (3 : Int32)), .val (.int (0 : Int32))]) cx st8 d1_59 rfl rfl ?_
    refine E_iload (pc' := 63) cx st8 d1_61 rfl rfl ?_
    refine E_iloadN (pc' := 64) cx st8 d1_63 rfl rfl ?_
    refine E_icmp_geN (pc' := 67) cx st8 d1_64 rfl (by decide) ?_
    refine E_aloadN (pc' := 68) cx st8 d1_67 rfl rfl rfl ?_
    refine E_iload (pc' := 70) cx st8 d1_68 rfl rfl ?_
    refine E_iconst (pc' := 71) cx st8 (1 : Int32) d1_70 rfl rfl ?_
    refine E_iadd (pc' := 72) cx st8 d1_71 rfl ?_
    rw [show ((0 : Int32) + (1 : Int32)) = (1 : Int32) from by decide]
    refine E_dup2 (pc' := 73) cx st8 d1_72 rfl rfl rfl ?_
    refine E_iaload (pc' := 74) (x := (xs3.getD 1 0)) cx st8 V8p ⟨by decide, by decide⟩ (getD_int xs3 _ 0) d1_73 rfl ?_
    refine E_aloadN (pc' := 75) cx st8 d1_74 rfl rfl rfl ?_
    refine E_iload (pc' := 77) cx st8 d1_75 rfl rfl ?_
    refine E_iaload (pc' := 78) (x := (xs3.getD 0 0)) cx st8 V8p ⟨by decide, by decide⟩ (getD_int xs3 _ 0) d1_77 rfl ?_
    refine E_iadd (pc' := 79) cx st8 d1_78 rfl ?_
    refine E_iastore (pc' := 80) (i := 1) cx st8 V8p ⟨by decide, by decide⟩ rfl (by rw [List.length_map, l_xs3]; decide) g_a1 d1_79 rfl ?_
    intro T9 h9 st9 W9 V9
    have Z9 : n0 ≤ h9.size := Nat.le_trans Z8 (Keep.of_wr W9).1
    have K9 : Keep h0 h9 [] := K8.wr W9 (Or.inr sz_a1)
    obtain ⟨ys0, h_ys0⟩ : ∃ z, z = pre xs3 0 := ⟨_, rfl⟩
    have V9p : Arv Z h9 a1 ca1 .int (2 : Int32) (ys0.map Value.int) (.int (0 : Int32)) := by rw [h_ys0]; rw [show pre xs3 0 = xs3.set 1 ((xs3.getD 1 0) + (xs3.getD 0 0)) from rfl, List.map_set]; exact V9
    have l_ys0 : ys0.length = 2 := by rw [h_ys0, show pre xs3 0 = xs3.set 1 ((xs3.getD 1 0) + (xs3.getD 0 0)) from rfl, List.length_set]; exact l_xs3
    refine E_iinc (pc' := 83) (L' := #[.val (.ref b0), .val .null, .val (.int (1 : Int32)), .val (.ref a1), .val (.int (3 : Int32)), .val (.int (1 : Int32))]) cx st9 (1 : Int32) d1_80 rfl rfl rfl rfl ?_
    refine E_goto (pc' := 61) cx st9 d1_83 (by decide) (by decide) ?_
    refine E_iload (pc' := 63) cx st9 d1_61 rfl rfl ?_
    refine E_iloadN (pc' := 64) cx st9 d1_63 rfl rfl ?_
    refine E_icmp_geY (pc' := 86) cx st9 d1_64 (by decide) (by decide) (by decide) ?_
    refine E_aloadN (pc' := 87) cx st9 d1_86 rfl rfl rfl ?_
    refine E_areturn (t := (.array .int)) cx st9 d1_87 rfl rfl rfl rfl (by decide) (by decide) ?_
    refine ⟨a1, ca1, ys0, rfl, sz_a1, K9, V9p, fun q hq1 hq2 => ?_⟩
    obtain ⟨hq3, hq4⟩ := i32_small (i := q) (n := 2) ⟨hq1, lt_of_le_lit hq2⟩ (by decide)
    rw [h_ys0, h_xs3, h_xs2, h_xs1, h_xs0]
    have f := fin_1_3 ⟨_, hm0⟩ ⟨_, hm1⟩ ⟨_, hm2⟩ ⟨q.toNatClampNeg, hq3⟩
    rw [← (i32_small (n := 1) hb0 (by decide)).2] at f
    rw [← (i32_small (n := 1) hb1 (by decide)).2] at f
    rw [← (i32_small (n := 1) hb2 (by decide)).2] at f
    rw [← hq4] at f
    exact f
  · refine E_iloadN (pc' := 1) cx st d1_0 rfl rfl ?_
    refine E_iconst (pc' := 2) cx st (1 : Int32) d1_1 rfl rfl ?_
    refine E_iadd (pc' := 3) cx st d1_2 rfl ?_
    rw [show ((2 : Int32) + (1 : Int32)) = (3 : Int32) from by decide]
    refine E_newP (pc' := 5) (kc' := 1) (ks' := 3) (cap := 3) cx st (hw _ (List.mem_of_getElem? (i := 1) rfl)) d1_3 (by decide) (by decide) (by decide) (by decide) (by decide) (by decide) (by decide) rfl (ad := "[I") (by decide) ?_
    intro T10 h10 ca10 a10 q10 st10 E10 V10 X10
    have g_a10 : n0 ≤ a10 := by rw [q10]; exact Z0
    have ne_b0_a10 : b0 ≠ a10 := by rw [q10]; exact Nat.ne_of_lt VI.lt
    have sz_a10 : h0.size ≤ a10 := by rw [q10]; exact (Keep.refl h0 []).1
    have Z10 : n0 ≤ h10.size := Nat.le_trans Z0 E10.1
    have K10 : Keep h0 h10 [] := (Keep.refl h0 []).ext E10
    have V10p : Arv Z h10 a10 ca10 .int (3 : Int32) [(.int (0 : Int32)), (.int (0 : Int32)), (.int (0 : Int32))] (.int (0 : Int32)) := V10.pad (pad_rep [] (.int (0 : Int32)) 3)
    refine E_astoreN (pc' := 6) (L' := #[.val (.ref b0), .val .null, .val (.int (2 : Int32)), .val (.ref a10), .unset, .unset]) cx st10 d1_5 rfl rfl rfl ?_
    refine E_aloadN (pc' := 7) cx st10 d1_6 rfl rfl rfl ?_
    refine E_ifnonnullN (pc' := 10) cx st10 d1_7 rfl ?_
    refine E_aloadN (pc' := 11) cx st10 d1_10 rfl rfl rfl ?_
    have V11 : Arv Z h10 b0 kI .int (3 : Int32) [(.int v0), (.int v1), (.int v2)] (.int (0 : Int32)) := (VI.ext E10)
    refine E_arraylength (pc' := 12) cx st10 V11 d1_11 rfl ?_
    refine E_goto (pc' := 17) cx st10 d1_12 (by decide) (by decide) ?_
    refine E_istore (pc' := 19) (L' := #[.val (.ref b0), .val .null, .val (.int (2 : Int32)), .val (.ref a10), .val (.int (3 : Int32)), .unset]) cx st10 d1_17 rfl rfl ?_
    refine E_iconst (pc' := 20) cx st10 (0 : Int32) d1_19 rfl rfl ?_
    refine E_istore (pc' := 22) (L' := #[.val (.ref b0), .val .null, .val (.int (2 : Int32)), .val (.ref a10), .val (.int (3 : Int32)), .val (.int (0 : Int32))]) cx st10 d1_20 rfl rfl ?_
    refine E_iload (pc' := 24) cx st10 d1_22 rfl rfl ?_
    refine E_iload (pc' := 26) cx st10 d1_24 rfl rfl ?_
    have l_xs0 : ([0, 0, 0] : List Int32).length = 3 := rfl
    have V12 : Arv Z h10 a10 ca10 .int (3 : Int32) (([0, 0, 0] : List Int32).map Value.int) (.int (0 : Int32)) := V10p
    obtain ⟨xs0, h_xs0⟩ : ∃ z, z = ([0, 0, 0] : List Int32) := ⟨_, rfl⟩
    rw [← h_xs0] at l_xs0 V12
    refine E_icmp_geN (pc' := 29) cx st10 d1_26 rfl (by decide) ?_
    refine E_aloadN (pc' := 30) cx st10 d1_29 rfl rfl rfl ?_
    refine E_aloadN (pc' := 31) cx st10 d1_30 rfl rfl rfl ?_
    refine E_aloadN (pc' := 32) cx st10 d1_31 rfl rfl rfl ?_
    refine E_ifnonnullN (pc' := 35) cx st10 d1_32 rfl ?_
    refine E_iload (pc' := 37) cx st10 d1_35 rfl rfl ?_
    refine E_goto (pc' := 44) cx st10 d1_37 (by decide) (by decide) ?_
    refine E_iaload (pc' := 45) (x := v0) cx st10 V11 ⟨by decide, by decide⟩ rfl d1_44 rfl ?_
    obtain ⟨hs0, hn0⟩ := i32_succ (n := 2) hb0 (by decide)
    have hm0 := (i32_small (n := 2) hb0 (by decide)).1
    refine E_iconst (pc' := 46) cx st10 (1 : Int32) d1_45 rfl rfl ?_
    refine E_iadd (pc' := 47) cx st10 d1_46 rfl ?_
    refine E_dup2 (pc' := 48) cx st10 d1_47 rfl rfl rfl ?_
    refine E_iaload (pc' := 49) (x := (xs0.getD (v0 + (1 : Int32)).toNatClampNeg 0)) cx st10 V12 hs0 (getD_int xs0 _ 0) d1_48 rfl ?_
    refine E_iconst (pc' := 50) cx st10 (1 : Int32) d1_49 rfl rfl ?_
    refine E_iadd (pc' := 51) cx st10 d1_50 rfl ?_
    refine E_iastore (pc' := 52) (i := (v0 + 1).toNatClampNeg) cx st10 V12 hs0 rfl (by rw [List.length_map, l_xs0, hn0]; omega) g_a10 d1_51 rfl ?_
    intro T13 h13 st13 W13 V13
    have Z13 : n0 ≤ h13.size := Nat.le_trans Z10 (Keep.of_wr W13).1
    have K13 : Keep h0 h13 [] := K10.wr W13 (Or.inr sz_a10)
    obtain ⟨xs1, h_xs1⟩ : ∃ z, z = inc xs0 v0 := ⟨_, rfl⟩
    have V13p : Arv Z h13 a10 ca10 .int (3 : Int32) (xs1.map Value.int) (.int (0 : Int32)) := by rw [h_xs1]; rw [show inc xs0 v0 = xs0.set (v0 + 1).toNatClampNeg ((xs0.getD (v0 + (1 : Int32)).toNatClampNeg 0) + (1 : Int32)) from rfl, List.map_set]; exact V13
    have l_xs1 : xs1.length = 3 := by rw [h_xs1, show inc xs0 v0 = xs0.set (v0 + 1).toNatClampNeg ((xs0.getD (v0 + (1 : Int32)).toNatClampNeg 0) + (1 : Int32)) from rfl, List.length_set]; exact l_xs0
    refine E_iinc (pc' := 55) (L' := #[.val (.ref b0), .val .null, .val (.int (2 : Int32)), .val (.ref a10), .val (.int (3 : Int32)), .val (.int (1 : Int32))]) cx st13 (1 : Int32) d1_52 rfl rfl rfl rfl ?_
    refine E_goto (pc' := 22) cx st13 d1_55 (by decide) (by decide) ?_
    refine E_iload (pc' := 24) cx st13 d1_22 rfl rfl ?_
    refine E_iload (pc' := 26) cx st13 d1_24 rfl rfl ?_
    refine E_icmp_geN (pc' := 29) cx st13 d1_26 rfl (by decide) ?_
    refine E_aloadN (pc' := 30) cx st13 d1_29 rfl rfl rfl ?_
    refine E_aloadN (pc' := 31) cx st13 d1_30 rfl rfl rfl ?_
    refine E_aloadN (pc' := 32) cx st13 d1_31 rfl rfl rfl ?_
    refine E_ifnonnullN (pc' := 35) cx st13 d1_32 rfl ?_
    refine E_iload (pc' := 37) cx st13 d1_35 rfl rfl ?_
    refine E_goto (pc' := 44) cx st13 d1_37 (by decide) (by decide) ?_
    have V14 : Arv Z h13 b0 kI .int (3 : Int32) [(.int v0), (.int v1), (.int v2)] (.int (0 : Int32)) := (V11.other W13 ne_b0_a10)
    refine E_iaload (pc' := 45) (x := v1) cx st13 V14 ⟨by decide, by decide⟩ rfl d1_44 rfl ?_
    obtain ⟨hs1, hn1⟩ := i32_succ (n := 2) hb1 (by decide)
    have hm1 := (i32_small (n := 2) hb1 (by decide)).1
    refine E_iconst (pc' := 46) cx st13 (1 : Int32) d1_45 rfl rfl ?_
    refine E_iadd (pc' := 47) cx st13 d1_46 rfl ?_
    refine E_dup2 (pc' := 48) cx st13 d1_47 rfl rfl rfl ?_
    refine E_iaload (pc' := 49) (x := (xs1.getD (v1 + (1 : Int32)).toNatClampNeg 0)) cx st13 V13p hs1 (getD_int xs1 _ 0) d1_48 rfl ?_
    refine E_iconst (pc' := 50) cx st13 (1 : Int32) d1_49 rfl rfl ?_
    refine E_iadd (pc' := 51) cx st13 d1_50 rfl ?_
    refine E_iastore (pc' := 52) (i := (v1 + 1).toNatClampNeg) cx st13 V13p hs1 rfl (by rw [List.length_map, l_xs1, hn1]; omega) g_a10 d1_51 rfl ?_
    intro T15 h15 st15 W15 V15
    have Z15 : n0 ≤ h15.size := Nat.le_trans Z13 (Keep.of_wr W15).1
    have K15 : Keep h0 h15 [] := K13.wr W15 (Or.inr sz_a10)
    obtain ⟨xs2, h_xs2⟩ : ∃ z, z = inc xs1 v1 := ⟨_, rfl⟩
    have V15p : Arv Z h15 a10 ca10 .int (3 : Int32) (xs2.map Value.int) (.int (0 : Int32)) := by rw [h_xs2]; rw [show inc xs1 v1 = xs1.set (v1 + 1).toNatClampNeg ((xs1.getD (v1 + (1 : Int32)).toNatClampNeg 0) + (1 : Int32)) from rfl, List.map_set]; exact V15
    have l_xs2 : xs2.length = 3 := by rw [h_xs2, show inc xs1 v1 = xs1.set (v1 + 1).toNatClampNeg ((xs1.getD (v1 + (1 : Int32)).toNatClampNeg 0) + (1 : Int32)) from rfl, List.length_set]; exact l_xs1
    refine E_iinc (pc' := 55) (L' := #[.val (.ref b0), .val .null, .val (.int (2 : Int32)), .val (.ref a10), .val (.int (3 : Int32)), .val (.int (2 : Int32))]) cx st15 (1 : Int32) d1_52 rfl rfl rfl rfl ?_
    refine E_goto (pc' := 22) cx st15 d1_55 (by decide) (by decide) ?_
    refine E_iload (pc' := 24) cx st15 d1_22 rfl rfl ?_
    refine E_iload (pc' := 26) cx st15 d1_24 rfl rfl ?_
    refine E_icmp_geN (pc' := 29) cx st15 d1_26 rfl (by decide) ?_
    refine E_aloadN (pc' := 30) cx st15 d1_29 rfl rfl rfl ?_
    refine E_aloadN (pc' := 31) cx st15 d1_30 rfl rfl rfl ?_
    refine E_aloadN (pc' := 32) cx st15 d1_31 rfl rfl rfl ?_
    refine E_ifnonnullN (pc' := 35) cx st15 d1_32 rfl ?_
    refine E_iload (pc' := 37) cx st15 d1_35 rfl rfl ?_
    refine E_goto (pc' := 44) cx st15 d1_37 (by decide) (by decide) ?_
    have V16 : Arv Z h15 b0 kI .int (3 : Int32) [(.int v0), (.int v1), (.int v2)] (.int (0 : Int32)) := (V14.other W15 ne_b0_a10)
    refine E_iaload (pc' := 45) (x := v2) cx st15 V16 ⟨by decide, by decide⟩ rfl d1_44 rfl ?_
    obtain ⟨hs2, hn2⟩ := i32_succ (n := 2) hb2 (by decide)
    have hm2 := (i32_small (n := 2) hb2 (by decide)).1
    refine E_iconst (pc' := 46) cx st15 (1 : Int32) d1_45 rfl rfl ?_
    refine E_iadd (pc' := 47) cx st15 d1_46 rfl ?_
    refine E_dup2 (pc' := 48) cx st15 d1_47 rfl rfl rfl ?_
    refine E_iaload (pc' := 49) (x := (xs2.getD (v2 + (1 : Int32)).toNatClampNeg 0)) cx st15 V15p hs2 (getD_int xs2 _ 0) d1_48 rfl ?_
    refine E_iconst (pc' := 50) cx st15 (1 : Int32) d1_49 rfl rfl ?_
    refine E_iadd (pc' := 51) cx st15 d1_50 rfl ?_
    refine E_iastore (pc' := 52) (i := (v2 + 1).toNatClampNeg) cx st15 V15p hs2 rfl (by rw [List.length_map, l_xs2, hn2]; omega) g_a10 d1_51 rfl ?_
    intro T17 h17 st17 W17 V17
    have Z17 : n0 ≤ h17.size := Nat.le_trans Z15 (Keep.of_wr W17).1
    have K17 : Keep h0 h17 [] := K15.wr W17 (Or.inr sz_a10)
    obtain ⟨xs3, h_xs3⟩ : ∃ z, z = inc xs2 v2 := ⟨_, rfl⟩
    have V17p : Arv Z h17 a10 ca10 .int (3 : Int32) (xs3.map Value.int) (.int (0 : Int32)) := by rw [h_xs3]; rw [show inc xs2 v2 = xs2.set (v2 + 1).toNatClampNeg ((xs2.getD (v2 + (1 : Int32)).toNatClampNeg 0) + (1 : Int32)) from rfl, List.map_set]; exact V17
    have l_xs3 : xs3.length = 3 := by rw [h_xs3, show inc xs2 v2 = xs2.set (v2 + 1).toNatClampNeg ((xs2.getD (v2 + (1 : Int32)).toNatClampNeg 0) + (1 : Int32)) from rfl, List.length_set]; exact l_xs2
    refine E_iinc (pc' := 55) (L' := #[.val (.ref b0), .val .null, .val (.int (2 : Int32)), .val (.ref a10), .val (.int (3 : Int32)), .val (.int (3 : Int32))]) cx st17 (1 : Int32) d1_52 rfl rfl rfl rfl ?_
    refine E_goto (pc' := 22) cx st17 d1_55 (by decide) (by decide) ?_
    refine E_iload (pc' := 24) cx st17 d1_22 rfl rfl ?_
    refine E_iload (pc' := 26) cx st17 d1_24 rfl rfl ?_
    refine E_icmp_geY (pc' := 58) cx st17 d1_26 (by decide) (by decide) (by decide) ?_
    refine E_iconst (pc' := 59) cx st17 (0 : Int32) d1_58 rfl rfl ?_
    refine E_istore (pc' := 61) (L' := #[.val (.ref b0), .val .null, .val (.int (2 : Int32)), .val (.ref a10), .val (.int (3 : Int32)), .val (.int (0 : Int32))]) cx st17 d1_59 rfl rfl ?_
    refine E_iload (pc' := 63) cx st17 d1_61 rfl rfl ?_
    refine E_iloadN (pc' := 64) cx st17 d1_63 rfl rfl ?_
    refine E_icmp_geN (pc' := 67) cx st17 d1_64 rfl (by decide) ?_
    refine E_aloadN (pc' := 68) cx st17 d1_67 rfl rfl rfl ?_
    refine E_iload (pc' := 70) cx st17 d1_68 rfl rfl ?_
    refine E_iconst (pc' := 71) cx st17 (1 : Int32) d1_70 rfl rfl ?_
    refine E_iadd (pc' := 72) cx st17 d1_71 rfl ?_
    rw [show ((0 : Int32) + (1 : Int32)) = (1 : Int32) from by decide]
    refine E_dup2 (pc' := 73) cx st17 d1_72 rfl rfl rfl ?_
    refine E_iaload (pc' := 74) (x := (xs3.getD 1 0)) cx st17 V17p ⟨by decide, by decide⟩ (getD_int xs3 _ 0) d1_73 rfl ?_
    refine E_aloadN (pc' := 75) cx st17 d1_74 rfl rfl rfl ?_
    refine E_iload (pc' := 77) cx st17 d1_75 rfl rfl ?_
    refine E_iaload (pc' := 78) (x := (xs3.getD 0 0)) cx st17 V17p ⟨by decide, by decide⟩ (getD_int xs3 _ 0) d1_77 rfl ?_
    refine E_iadd (pc' := 79) cx st17 d1_78 rfl ?_
    refine E_iastore (pc' := 80) (i := 1) cx st17 V17p ⟨by decide, by decide⟩ rfl (by rw [List.length_map, l_xs3]; decide) g_a10 d1_79 rfl ?_
    intro T18 h18 st18 W18 V18
    have Z18 : n0 ≤ h18.size := Nat.le_trans Z17 (Keep.of_wr W18).1
    have K18 : Keep h0 h18 [] := K17.wr W18 (Or.inr sz_a10)
    obtain ⟨ys0, h_ys0⟩ : ∃ z, z = pre xs3 0 := ⟨_, rfl⟩
    have V18p : Arv Z h18 a10 ca10 .int (3 : Int32) (ys0.map Value.int) (.int (0 : Int32)) := by rw [h_ys0]; rw [show pre xs3 0 = xs3.set 1 ((xs3.getD 1 0) + (xs3.getD 0 0)) from rfl, List.map_set]; exact V18
    have l_ys0 : ys0.length = 3 := by rw [h_ys0, show pre xs3 0 = xs3.set 1 ((xs3.getD 1 0) + (xs3.getD 0 0)) from rfl, List.length_set]; exact l_xs3
    refine E_iinc (pc' := 83) (L' := #[.val (.ref b0), .val .null, .val (.int (2 : Int32)), .val (.ref a10), .val (.int (3 : Int32)), .val (.int (1 : Int32))]) cx st18 (1 : Int32) d1_80 rfl rfl rfl rfl ?_
    refine E_goto (pc' := 61) cx st18 d1_83 (by decide) (by decide) ?_
    refine E_iload (pc' := 63) cx st18 d1_61 rfl rfl ?_
    refine E_iloadN (pc' := 64) cx st18 d1_63 rfl rfl ?_
    refine E_icmp_geN (pc' := 67) cx st18 d1_64 rfl (by decide) ?_
    refine E_aloadN (pc' := 68) cx st18 d1_67 rfl rfl rfl ?_
    refine E_iload (pc' := 70) cx st18 d1_68 rfl rfl ?_
    refine E_iconst (pc' := 71) cx st18 (1 : Int32) d1_70 rfl rfl ?_
    refine E_iadd (pc' := 72) cx st18 d1_71 rfl ?_
    rw [show ((1 : Int32) + (1 : Int32)) = (2 : Int32) from by decide]
    refine E_dup2 (pc' := 73) cx st18 d1_72 rfl rfl rfl ?_
    refine E_iaload (pc' := 74) (x := (ys0.getD 2 0)) cx st18 V18p ⟨by decide, by decide⟩ (getD_int ys0 _ 0) d1_73 rfl ?_
    refine E_aloadN (pc' := 75) cx st18 d1_74 rfl rfl rfl ?_
    refine E_iload (pc' := 77) cx st18 d1_75 rfl rfl ?_
    refine E_iaload (pc' := 78) (x := (ys0.getD 1 0)) cx st18 V18p ⟨by decide, by decide⟩ (getD_int ys0 _ 0) d1_77 rfl ?_
    refine E_iadd (pc' := 79) cx st18 d1_78 rfl ?_
    refine E_iastore (pc' := 80) (i := 2) cx st18 V18p ⟨by decide, by decide⟩ rfl (by rw [List.length_map, l_ys0]; decide) g_a10 d1_79 rfl ?_
    intro T19 h19 st19 W19 V19
    have Z19 : n0 ≤ h19.size := Nat.le_trans Z18 (Keep.of_wr W19).1
    have K19 : Keep h0 h19 [] := K18.wr W19 (Or.inr sz_a10)
    obtain ⟨ys1, h_ys1⟩ : ∃ z, z = pre ys0 1 := ⟨_, rfl⟩
    have V19p : Arv Z h19 a10 ca10 .int (3 : Int32) (ys1.map Value.int) (.int (0 : Int32)) := by rw [h_ys1]; rw [show pre ys0 1 = ys0.set 2 ((ys0.getD 2 0) + (ys0.getD 1 0)) from rfl, List.map_set]; exact V19
    have l_ys1 : ys1.length = 3 := by rw [h_ys1, show pre ys0 1 = ys0.set 2 ((ys0.getD 2 0) + (ys0.getD 1 0)) from rfl, List.length_set]; exact l_ys0
    refine E_iinc (pc' := 83) (L' := #[.val (.ref b0), .val .null, .val (.int (2 : Int32)), .val (.ref a10), .val (.int (3 : Int32)), .val (.int (2 : Int32))]) cx st19 (1 : Int32) d1_80 rfl rfl rfl rfl ?_
    refine E_goto (pc' := 61) cx st19 d1_83 (by decide) (by decide) ?_
    refine E_iload (pc' := 63) cx st19 d1_61 rfl rfl ?_
    refine E_iloadN (pc' := 64) cx st19 d1_63 rfl rfl ?_
    refine E_icmp_geY (pc' := 86) cx st19 d1_64 (by decide) (by decide) (by decide) ?_
    refine E_aloadN (pc' := 87) cx st19 d1_86 rfl rfl rfl ?_
    refine E_areturn (t := (.array .int)) cx st19 d1_87 rfl rfl rfl rfl (by decide) (by decide) ?_
    refine ⟨a10, ca10, ys1, rfl, sz_a10, K19, V19p, fun q hq1 hq2 => ?_⟩
    obtain ⟨hq3, hq4⟩ := i32_small (i := q) (n := 3) ⟨hq1, lt_of_le_lit hq2⟩ (by decide)
    rw [h_ys1, h_ys0, h_xs3, h_xs2, h_xs1, h_xs0]
    have f := fin_2_3 ⟨_, hm0⟩ ⟨_, hm1⟩ ⟨_, hm2⟩ ⟨q.toNatClampNeg, hq3⟩
    rw [← (i32_small (n := 2) hb0 (by decide)).2] at f
    rw [← (i32_small (n := 2) hb1 (by decide)).2] at f
    rw [← (i32_small (n := 2) hb2 (by decide)).2] at f
    rw [← hq4] at f
    exact f
  · refine E_iloadN (pc' := 1) cx st d1_0 rfl rfl ?_
    refine E_iconst (pc' := 2) cx st (1 : Int32) d1_1 rfl rfl ?_
    refine E_iadd (pc' := 3) cx st d1_2 rfl ?_
    rw [show ((3 : Int32) + (1 : Int32)) = (4 : Int32) from by decide]
    refine E_newP (pc' := 5) (kc' := 1) (ks' := 4) (cap := 4) cx st (hw _ (List.mem_of_getElem? (i := 1) rfl)) d1_3 (by decide) (by decide) (by decide) (by decide) (by decide) (by decide) (by decide) rfl (ad := "[I") (by decide) ?_
    intro T20 h20 ca20 a20 q20 st20 E20 V20 X20
    have g_a20 : n0 ≤ a20 := by rw [q20]; exact Z0
    have ne_b0_a20 : b0 ≠ a20 := by rw [q20]; exact Nat.ne_of_lt VI.lt
    have sz_a20 : h0.size ≤ a20 := by rw [q20]; exact (Keep.refl h0 []).1
    have Z20 : n0 ≤ h20.size := Nat.le_trans Z0 E20.1
    have K20 : Keep h0 h20 [] := (Keep.refl h0 []).ext E20
    have V20p : Arv Z h20 a20 ca20 .int (4 : Int32) [(.int (0 : Int32)), (.int (0 : Int32)), (.int (0 : Int32)), (.int (0 : Int32))] (.int (0 : Int32)) := V20.pad (pad_rep [] (.int (0 : Int32)) 4)
    refine E_astoreN (pc' := 6) (L' := #[.val (.ref b0), .val .null, .val (.int (3 : Int32)), .val (.ref a20), .unset, .unset]) cx st20 d1_5 rfl rfl rfl ?_
    refine E_aloadN (pc' := 7) cx st20 d1_6 rfl rfl rfl ?_
    refine E_ifnonnullN (pc' := 10) cx st20 d1_7 rfl ?_
    refine E_aloadN (pc' := 11) cx st20 d1_10 rfl rfl rfl ?_
    have V21 : Arv Z h20 b0 kI .int (3 : Int32) [(.int v0), (.int v1), (.int v2)] (.int (0 : Int32)) := (VI.ext E20)
    refine E_arraylength (pc' := 12) cx st20 V21 d1_11 rfl ?_
    refine E_goto (pc' := 17) cx st20 d1_12 (by decide) (by decide) ?_
    refine E_istore (pc' := 19) (L' := #[.val (.ref b0), .val .null, .val (.int (3 : Int32)), .val (.ref a20), .val (.int (3 : Int32)), .unset]) cx st20 d1_17 rfl rfl ?_
    refine E_iconst (pc' := 20) cx st20 (0 : Int32) d1_19 rfl rfl ?_
    refine E_istore (pc' := 22) (L' := #[.val (.ref b0), .val .null, .val (.int (3 : Int32)), .val (.ref a20), .val (.int (3 : Int32)), .val (.int (0 : Int32))]) cx st20 d1_20 rfl rfl ?_
    refine E_iload (pc' := 24) cx st20 d1_22 rfl rfl ?_
    refine E_iload (pc' := 26) cx st20 d1_24 rfl rfl ?_
    have l_xs0 : ([0, 0, 0, 0] : List Int32).length = 4 := rfl
    have V22 : Arv Z h20 a20 ca20 .int (4 : Int32) (([0, 0, 0, 0] : List Int32).map Value.int) (.int (0 : Int32)) := V20p
    obtain ⟨xs0, h_xs0⟩ : ∃ z, z = ([0, 0, 0, 0] : List Int32) := ⟨_, rfl⟩
    rw [← h_xs0] at l_xs0 V22
    refine E_icmp_geN (pc' := 29) cx st20 d1_26 rfl (by decide) ?_
    refine E_aloadN (pc' := 30) cx st20 d1_29 rfl rfl rfl ?_
    refine E_aloadN (pc' := 31) cx st20 d1_30 rfl rfl rfl ?_
    refine E_aloadN (pc' := 32) cx st20 d1_31 rfl rfl rfl ?_
    refine E_ifnonnullN (pc' := 35) cx st20 d1_32 rfl ?_
    refine E_iload (pc' := 37) cx st20 d1_35 rfl rfl ?_
    refine E_goto (pc' := 44) cx st20 d1_37 (by decide) (by decide) ?_
    refine E_iaload (pc' := 45) (x := v0) cx st20 V21 ⟨by decide, by decide⟩ rfl d1_44 rfl ?_
    obtain ⟨hs0, hn0⟩ := i32_succ (n := 3) hb0 (by decide)
    have hm0 := (i32_small (n := 3) hb0 (by decide)).1
    refine E_iconst (pc' := 46) cx st20 (1 : Int32) d1_45 rfl rfl ?_
    refine E_iadd (pc' := 47) cx st20 d1_46 rfl ?_
    refine E_dup2 (pc' := 48) cx st20 d1_47 rfl rfl rfl ?_
    refine E_iaload (pc' := 49) (x := (xs0.getD (v0 + (1 : Int32)).toNatClampNeg 0)) cx st20 V22 hs0 (getD_int xs0 _ 0) d1_48 rfl ?_
    refine E_iconst (pc' := 50) cx st20 (1 : Int32) d1_49 rfl rfl ?_
    refine E_iadd (pc' := 51) cx st20 d1_50 rfl ?_
    refine E_iastore (pc' := 52) (i := (v0 + 1).toNatClampNeg) cx st20 V22 hs0 rfl (by rw [List.length_map, l_xs0, hn0]; omega) g_a20 d1_51 rfl ?_
    intro T23 h23 st23 W23 V23
    have Z23 : n0 ≤ h23.size := Nat.le_trans Z20 (Keep.of_wr W23).1
    have K23 : Keep h0 h23 [] := K20.wr W23 (Or.inr sz_a20)
    obtain ⟨xs1, h_xs1⟩ : ∃ z, z = inc xs0 v0 := ⟨_, rfl⟩
    have V23p : Arv Z h23 a20 ca20 .int (4 : Int32) (xs1.map Value.int) (.int (0 : Int32)) := by rw [h_xs1]; rw [show inc xs0 v0 = xs0.set (v0 + 1).toNatClampNeg ((xs0.getD (v0 + (1 : Int32)).toNatClampNeg 0) + (1 : Int32)) from rfl, List.map_set]; exact V23
    have l_xs1 : xs1.length = 4 := by rw [h_xs1, show inc xs0 v0 = xs0.set (v0 + 1).toNatClampNeg ((xs0.getD (v0 + (1 : Int32)).toNatClampNeg 0) + (1 : Int32)) from rfl, List.length_set]; exact l_xs0
    refine E_iinc (pc' := 55) (L' := #[.val (.ref b0), .val .null, .val (.int (3 : Int32)), .val (.ref a20), .val (.int (3 : Int32)), .val (.int (1 : Int32))]) cx st23 (1 : Int32) d1_52 rfl rfl rfl rfl ?_
    refine E_goto (pc' := 22) cx st23 d1_55 (by decide) (by decide) ?_
    refine E_iload (pc' := 24) cx st23 d1_22 rfl rfl ?_
    refine E_iload (pc' := 26) cx st23 d1_24 rfl rfl ?_
    refine E_icmp_geN (pc' := 29) cx st23 d1_26 rfl (by decide) ?_
    refine E_aloadN (pc' := 30) cx st23 d1_29 rfl rfl rfl ?_
    refine E_aloadN (pc' := 31) cx st23 d1_30 rfl rfl rfl ?_
    refine E_aloadN (pc' := 32) cx st23 d1_31 rfl rfl rfl ?_
    refine E_ifnonnullN (pc' := 35) cx st23 d1_32 rfl ?_
    refine E_iload (pc' := 37) cx st23 d1_35 rfl rfl ?_
    refine E_goto (pc' := 44) cx st23 d1_37 (by decide) (by decide) ?_
    have V24 : Arv Z h23 b0 kI .int (3 : Int32) [(.int v0), (.int v1), (.int v2)] (.int (0 : Int32)) := (V21.other W23 ne_b0_a20)
    refine E_iaload (pc' := 45) (x := v1) cx st23 V24 ⟨by decide, by decide⟩ rfl d1_44 rfl ?_
    obtain ⟨hs1, hn1⟩ := i32_succ (n := 3) hb1 (by decide)
    have hm1 := (i32_small (n := 3) hb1 (by decide)).1
    refine E_iconst (pc' := 46) cx st23 (1 : Int32) d1_45 rfl rfl ?_
    refine E_iadd (pc' := 47) cx st23 d1_46 rfl ?_
    refine E_dup2 (pc' := 48) cx st23 d1_47 rfl rfl rfl ?_
    refine E_iaload (pc' := 49) (x := (xs1.getD (v1 + (1 : Int32)).toNatClampNeg 0)) cx st23 V23p hs1 (getD_int xs1 _ 0) d1_48 rfl ?_
    refine E_iconst (pc' := 50) cx st23 (1 : Int32) d1_49 rfl rfl ?_
    refine E_iadd (pc' := 51) cx st23 d1_50 rfl ?_
    refine E_iastore (pc' := 52) (i := (v1 + 1).toNatClampNeg) cx st23 V23p hs1 rfl (by rw [List.length_map, l_xs1, hn1]; omega) g_a20 d1_51 rfl ?_
    intro T25 h25 st25 W25 V25
    have Z25 : n0 ≤ h25.size := Nat.le_trans Z23 (Keep.of_wr W25).1
    have K25 : Keep h0 h25 [] := K23.wr W25 (Or.inr sz_a20)
    obtain ⟨xs2, h_xs2⟩ : ∃ z, z = inc xs1 v1 := ⟨_, rfl⟩
    have V25p : Arv Z h25 a20 ca20 .int (4 : Int32) (xs2.map Value.int) (.int (0 : Int32)) := by rw [h_xs2]; rw [show inc xs1 v1 = xs1.set (v1 + 1).toNatClampNeg ((xs1.getD (v1 + (1 : Int32)).toNatClampNeg 0) + (1 : Int32)) from rfl, List.map_set]; exact V25
    have l_xs2 : xs2.length = 4 := by rw [h_xs2, show inc xs1 v1 = xs1.set (v1 + 1).toNatClampNeg ((xs1.getD (v1 + (1 : Int32)).toNatClampNeg 0) + (1 : Int32)) from rfl, List.length_set]; exact l_xs1
    refine E_iinc (pc' := 55) (L' := #[.val (.ref b0), .val .null, .val (.int (3 : Int32)), .val (.ref a20), .val (.int (3 : Int32)), .val (.int (2 : Int32))]) cx st25 (1 : Int32) d1_52 rfl rfl rfl rfl ?_
    refine E_goto (pc' := 22) cx st25 d1_55 (by decide) (by decide) ?_
    refine E_iload (pc' := 24) cx st25 d1_22 rfl rfl ?_
    refine E_iload (pc' := 26) cx st25 d1_24 rfl rfl ?_
    refine E_icmp_geN (pc' := 29) cx st25 d1_26 rfl (by decide) ?_
    refine E_aloadN (pc' := 30) cx st25 d1_29 rfl rfl rfl ?_
    refine E_aloadN (pc' := 31) cx st25 d1_30 rfl rfl rfl ?_
    refine E_aloadN (pc' := 32) cx st25 d1_31 rfl rfl rfl ?_
    refine E_ifnonnullN (pc' := 35) cx st25 d1_32 rfl ?_
    refine E_iload (pc' := 37) cx st25 d1_35 rfl rfl ?_
    refine E_goto (pc' := 44) cx st25 d1_37 (by decide) (by decide) ?_
    have V26 : Arv Z h25 b0 kI .int (3 : Int32) [(.int v0), (.int v1), (.int v2)] (.int (0 : Int32)) := (V24.other W25 ne_b0_a20)
    refine E_iaload (pc' := 45) (x := v2) cx st25 V26 ⟨by decide, by decide⟩ rfl d1_44 rfl ?_
    obtain ⟨hs2, hn2⟩ := i32_succ (n := 3) hb2 (by decide)
    have hm2 := (i32_small (n := 3) hb2 (by decide)).1
    refine E_iconst (pc' := 46) cx st25 (1 : Int32) d1_45 rfl rfl ?_
    refine E_iadd (pc' := 47) cx st25 d1_46 rfl ?_
    refine E_dup2 (pc' := 48) cx st25 d1_47 rfl rfl rfl ?_
    refine E_iaload (pc' := 49) (x := (xs2.getD (v2 + (1 : Int32)).toNatClampNeg 0)) cx st25 V25p hs2 (getD_int xs2 _ 0) d1_48 rfl ?_
    refine E_iconst (pc' := 50) cx st25 (1 : Int32) d1_49 rfl rfl ?_
    refine E_iadd (pc' := 51) cx st25 d1_50 rfl ?_
    refine E_iastore (pc' := 52) (i := (v2 + 1).toNatClampNeg) cx st25 V25p hs2 rfl (by rw [List.length_map, l_xs2, hn2]; omega) g_a20 d1_51 rfl ?_
    intro T27 h27 st27 W27 V27
    have Z27 : n0 ≤ h27.size := Nat.le_trans Z25 (Keep.of_wr W27).1
    have K27 : Keep h0 h27 [] := K25.wr W27 (Or.inr sz_a20)
    obtain ⟨xs3, h_xs3⟩ : ∃ z, z = inc xs2 v2 := ⟨_, rfl⟩
    have V27p : Arv Z h27 a20 ca20 .int (4 : Int32) (xs3.map Value.int) (.int (0 : Int32)) := by rw [h_xs3]; rw [show inc xs2 v2 = xs2.set (v2 + 1).toNatClampNeg ((xs2.getD (v2 + (1 : Int32)).toNatClampNeg 0) + (1 : Int32)) from rfl, List.map_set]; exact V27
    have l_xs3 : xs3.length = 4 := by rw [h_xs3, show inc xs2 v2 = xs2.set (v2 + 1).toNatClampNeg ((xs2.getD (v2 + (1 : Int32)).toNatClampNeg 0) + (1 : Int32)) from rfl, List.length_set]; exact l_xs2
    refine E_iinc (pc' := 55) (L' := #[.val (.ref b0), .val .null, .val (.int (3 : Int32)), .val (.ref a20), .val (.int (3 : Int32)), .val (.int (3 : Int32))]) cx st27 (1 : Int32) d1_52 rfl rfl rfl rfl ?_
    refine E_goto (pc' := 22) cx st27 d1_55 (by decide) (by decide) ?_
    refine E_iload (pc' := 24) cx st27 d1_22 rfl rfl ?_
    refine E_iload (pc' := 26) cx st27 d1_24 rfl rfl ?_
    refine E_icmp_geY (pc' := 58) cx st27 d1_26 (by decide) (by decide) (by decide) ?_
    refine E_iconst (pc' := 59) cx st27 (0 : Int32) d1_58 rfl rfl ?_
    refine E_istore (pc' := 61) (L' := #[.val (.ref b0), .val .null, .val (.int (3 : Int32)), .val (.ref a20), .val (.int (3 : Int32)), .val (.int (0 : Int32))]) cx st27 d1_59 rfl rfl ?_
    refine E_iload (pc' := 63) cx st27 d1_61 rfl rfl ?_
    refine E_iloadN (pc' := 64) cx st27 d1_63 rfl rfl ?_
    refine E_icmp_geN (pc' := 67) cx st27 d1_64 rfl (by decide) ?_
    refine E_aloadN (pc' := 68) cx st27 d1_67 rfl rfl rfl ?_
    refine E_iload (pc' := 70) cx st27 d1_68 rfl rfl ?_
    refine E_iconst (pc' := 71) cx st27 (1 : Int32) d1_70 rfl rfl ?_
    refine E_iadd (pc' := 72) cx st27 d1_71 rfl ?_
    rw [show ((0 : Int32) + (1 : Int32)) = (1 : Int32) from by decide]
    refine E_dup2 (pc' := 73) cx st27 d1_72 rfl rfl rfl ?_
    refine E_iaload (pc' := 74) (x := (xs3.getD 1 0)) cx st27 V27p ⟨by decide, by decide⟩ (getD_int xs3 _ 0) d1_73 rfl ?_
    refine E_aloadN (pc' := 75) cx st27 d1_74 rfl rfl rfl ?_
    refine E_iload (pc' := 77) cx st27 d1_75 rfl rfl ?_
    refine E_iaload (pc' := 78) (x := (xs3.getD 0 0)) cx st27 V27p ⟨by decide, by decide⟩ (getD_int xs3 _ 0) d1_77 rfl ?_
    refine E_iadd (pc' := 79) cx st27 d1_78 rfl ?_
    refine E_iastore (pc' := 80) (i := 1) cx st27 V27p ⟨by decide, by decide⟩ rfl (by rw [List.length_map, l_xs3]; decide) g_a20 d1_79 rfl ?_
    intro T28 h28 st28 W28 V28
    have Z28 : n0 ≤ h28.size := Nat.le_trans Z27 (Keep.of_wr W28).1
    have K28 : Keep h0 h28 [] := K27.wr W28 (Or.inr sz_a20)
    obtain ⟨ys0, h_ys0⟩ : ∃ z, z = pre xs3 0 := ⟨_, rfl⟩
    have V28p : Arv Z h28 a20 ca20 .int (4 : Int32) (ys0.map Value.int) (.int (0 : Int32)) := by rw [h_ys0]; rw [show pre xs3 0 = xs3.set 1 ((xs3.getD 1 0) + (xs3.getD 0 0)) from rfl, List.map_set]; exact V28
    have l_ys0 : ys0.length = 4 := by rw [h_ys0, show pre xs3 0 = xs3.set 1 ((xs3.getD 1 0) + (xs3.getD 0 0)) from rfl, List.length_set]; exact l_xs3
    refine E_iinc (pc' := 83) (L' := #[.val (.ref b0), .val .null, .val (.int (3 : Int32)), .val (.ref a20), .val (.int (3 : Int32)), .val (.int (1 : Int32))]) cx st28 (1 : Int32) d1_80 rfl rfl rfl rfl ?_
    refine E_goto (pc' := 61) cx st28 d1_83 (by decide) (by decide) ?_
    refine E_iload (pc' := 63) cx st28 d1_61 rfl rfl ?_
    refine E_iloadN (pc' := 64) cx st28 d1_63 rfl rfl ?_
    refine E_icmp_geN (pc' := 67) cx st28 d1_64 rfl (by decide) ?_
    refine E_aloadN (pc' := 68) cx st28 d1_67 rfl rfl rfl ?_
    refine E_iload (pc' := 70) cx st28 d1_68 rfl rfl ?_
    refine E_iconst (pc' := 71) cx st28 (1 : Int32) d1_70 rfl rfl ?_
    refine E_iadd (pc' := 72) cx st28 d1_71 rfl ?_
    rw [show ((1 : Int32) + (1 : Int32)) = (2 : Int32) from by decide]
    refine E_dup2 (pc' := 73) cx st28 d1_72 rfl rfl rfl ?_
    refine E_iaload (pc' := 74) (x := (ys0.getD 2 0)) cx st28 V28p ⟨by decide, by decide⟩ (getD_int ys0 _ 0) d1_73 rfl ?_
    refine E_aloadN (pc' := 75) cx st28 d1_74 rfl rfl rfl ?_
    refine E_iload (pc' := 77) cx st28 d1_75 rfl rfl ?_
    refine E_iaload (pc' := 78) (x := (ys0.getD 1 0)) cx st28 V28p ⟨by decide, by decide⟩ (getD_int ys0 _ 0) d1_77 rfl ?_
    refine E_iadd (pc' := 79) cx st28 d1_78 rfl ?_
    refine E_iastore (pc' := 80) (i := 2) cx st28 V28p ⟨by decide, by decide⟩ rfl (by rw [List.length_map, l_ys0]; decide) g_a20 d1_79 rfl ?_
    intro T29 h29 st29 W29 V29
    have Z29 : n0 ≤ h29.size := Nat.le_trans Z28 (Keep.of_wr W29).1
    have K29 : Keep h0 h29 [] := K28.wr W29 (Or.inr sz_a20)
    obtain ⟨ys1, h_ys1⟩ : ∃ z, z = pre ys0 1 := ⟨_, rfl⟩
    have V29p : Arv Z h29 a20 ca20 .int (4 : Int32) (ys1.map Value.int) (.int (0 : Int32)) := by rw [h_ys1]; rw [show pre ys0 1 = ys0.set 2 ((ys0.getD 2 0) + (ys0.getD 1 0)) from rfl, List.map_set]; exact V29
    have l_ys1 : ys1.length = 4 := by rw [h_ys1, show pre ys0 1 = ys0.set 2 ((ys0.getD 2 0) + (ys0.getD 1 0)) from rfl, List.length_set]; exact l_ys0
    refine E_iinc (pc' := 83) (L' := #[.val (.ref b0), .val .null, .val (.int (3 : Int32)), .val (.ref a20), .val (.int (3 : Int32)), .val (.int (2 : Int32))]) cx st29 (1 : Int32) d1_80 rfl rfl rfl rfl ?_
    refine E_goto (pc' := 61) cx st29 d1_83 (by decide) (by decide) ?_
    refine E_iload (pc' := 63) cx st29 d1_61 rfl rfl ?_
    refine E_iloadN (pc' := 64) cx st29 d1_63 rfl rfl ?_
    refine E_icmp_geN (pc' := 67) cx st29 d1_64 rfl (by decide) ?_
    refine E_aloadN (pc' := 68) cx st29 d1_67 rfl rfl rfl ?_
    refine E_iload (pc' := 70) cx st29 d1_68 rfl rfl ?_
    refine E_iconst (pc' := 71) cx st29 (1 : Int32) d1_70 rfl rfl ?_
    refine E_iadd (pc' := 72) cx st29 d1_71 rfl ?_
    rw [show ((2 : Int32) + (1 : Int32)) = (3 : Int32) from by decide]
    refine E_dup2 (pc' := 73) cx st29 d1_72 rfl rfl rfl ?_
    refine E_iaload (pc' := 74) (x := (ys1.getD 3 0)) cx st29 V29p ⟨by decide, by decide⟩ (getD_int ys1 _ 0) d1_73 rfl ?_
    refine E_aloadN (pc' := 75) cx st29 d1_74 rfl rfl rfl ?_
    refine E_iload (pc' := 77) cx st29 d1_75 rfl rfl ?_
    refine E_iaload (pc' := 78) (x := (ys1.getD 2 0)) cx st29 V29p ⟨by decide, by decide⟩ (getD_int ys1 _ 0) d1_77 rfl ?_
    refine E_iadd (pc' := 79) cx st29 d1_78 rfl ?_
    refine E_iastore (pc' := 80) (i := 3) cx st29 V29p ⟨by decide, by decide⟩ rfl (by rw [List.length_map, l_ys1]; decide) g_a20 d1_79 rfl ?_
    intro T30 h30 st30 W30 V30
    have Z30 : n0 ≤ h30.size := Nat.le_trans Z29 (Keep.of_wr W30).1
    have K30 : Keep h0 h30 [] := K29.wr W30 (Or.inr sz_a20)
    obtain ⟨ys2, h_ys2⟩ : ∃ z, z = pre ys1 2 := ⟨_, rfl⟩
    have V30p : Arv Z h30 a20 ca20 .int (4 : Int32) (ys2.map Value.int) (.int (0 : Int32)) := by rw [h_ys2]; rw [show pre ys1 2 = ys1.set 3 ((ys1.getD 3 0) + (ys1.getD 2 0)) from rfl, List.map_set]; exact V30
    have l_ys2 : ys2.length = 4 := by rw [h_ys2, show pre ys1 2 = ys1.set 3 ((ys1.getD 3 0) + (ys1.getD 2 0)) from rfl, List.length_set]; exact l_ys1
    refine E_iinc (pc' := 83) (L' := #[.val (.ref b0), .val .null, .val (.int (3 : Int32)), .val (.ref a20), .val (.int (3 : Int32)), .val (.int (3 : Int32))]) cx st30 (1 : Int32) d1_80 rfl rfl rfl rfl ?_
    refine E_goto (pc' := 61) cx st30 d1_83 (by decide) (by decide) ?_
    refine E_iload (pc' := 63) cx st30 d1_61 rfl rfl ?_
    refine E_iloadN (pc' := 64) cx st30 d1_63 rfl rfl ?_
    refine E_icmp_geY (pc' := 86) cx st30 d1_64 (by decide) (by decide) (by decide) ?_
    refine E_aloadN (pc' := 87) cx st30 d1_86 rfl rfl rfl ?_
    refine E_areturn (t := (.array .int)) cx st30 d1_87 rfl rfl rfl rfl (by decide) (by decide) ?_
    refine ⟨a20, ca20, ys2, rfl, sz_a20, K30, V30p, fun q hq1 hq2 => ?_⟩
    obtain ⟨hq3, hq4⟩ := i32_small (i := q) (n := 4) ⟨hq1, lt_of_le_lit hq2⟩ (by decide)
    rw [h_ys2, h_ys1, h_ys0, h_xs3, h_xs2, h_xs1, h_xs0]
    have f := fin_3_3 ⟨_, hm0⟩ ⟨_, hm1⟩ ⟨_, hm2⟩ ⟨q.toNatClampNeg, hq3⟩
    rw [← (i32_small (n := 3) hb0 (by decide)).2] at f
    rw [← (i32_small (n := 3) hb1 (by decide)).2] at f
    rw [← (i32_small (n := 3) hb2 (by decide)).2] at f
    rw [← hq4] at f
    exact f
  · refine E_iloadN (pc' := 1) cx st d1_0 rfl rfl ?_
    refine E_iconst (pc' := 2) cx st (1 : Int32) d1_1 rfl rfl ?_
    refine E_iadd (pc' := 3) cx st d1_2 rfl ?_
    rw [show ((4 : Int32) + (1 : Int32)) = (5 : Int32) from by decide]
    refine E_newP (pc' := 5) (kc' := 1) (ks' := 5) (cap := 5) cx st (hw _ (List.mem_of_getElem? (i := 1) rfl)) d1_3 (by decide) (by decide) (by decide) (by decide) (by decide) (by decide) (by decide) rfl (ad := "[I") (by decide) ?_
    intro T31 h31 ca31 a31 q31 st31 E31 V31 X31
    have g_a31 : n0 ≤ a31 := by rw [q31]; exact Z0
    have ne_b0_a31 : b0 ≠ a31 := by rw [q31]; exact Nat.ne_of_lt VI.lt
    have sz_a31 : h0.size ≤ a31 := by rw [q31]; exact (Keep.refl h0 []).1
    have Z31 : n0 ≤ h31.size := Nat.le_trans Z0 E31.1
    have K31 : Keep h0 h31 [] := (Keep.refl h0 []).ext E31
    have V31p : Arv Z h31 a31 ca31 .int (5 : Int32) [(.int (0 : Int32)), (.int (0 : Int32)), (.int (0 : Int32)), (.int (0 : Int32)), (.int (0 : Int32))] (.int (0 : Int32)) := V31.pad (pad_rep [] (.int (0 : Int32)) 5)
    refine E_astoreN (pc' := 6) (L' := #[.val (.ref b0), .val .null, .val (.int (4 : Int32)), .val (.ref a31), .unset, .unset]) cx st31 d1_5 rfl rfl rfl ?_
    refine E_aloadN (pc' := 7) cx st31 d1_6 rfl rfl rfl ?_
    refine E_ifnonnullN (pc' := 10) cx st31 d1_7 rfl ?_
    refine E_aloadN (pc' := 11) cx st31 d1_10 rfl rfl rfl ?_
    have V32 : Arv Z h31 b0 kI .int (3 : Int32) [(.int v0), (.int v1), (.int v2)] (.int (0 : Int32)) := (VI.ext E31)
    refine E_arraylength (pc' := 12) cx st31 V32 d1_11 rfl ?_
    refine E_goto (pc' := 17) cx st31 d1_12 (by decide) (by decide) ?_
    refine E_istore (pc' := 19) (L' := #[.val (.ref b0), .val .null, .val (.int (4 : Int32)), .val (.ref a31), .val (.int (3 : Int32)), .unset]) cx st31 d1_17 rfl rfl ?_
    refine E_iconst (pc' := 20) cx st31 (0 : Int32) d1_19 rfl rfl ?_
    refine E_istore (pc' := 22) (L' := #[.val (.ref b0), .val .null, .val (.int (4 : Int32)), .val (.ref a31), .val (.int (3 : Int32)), .val (.int (0 : Int32))]) cx st31 d1_20 rfl rfl ?_
    refine E_iload (pc' := 24) cx st31 d1_22 rfl rfl ?_
    refine E_iload (pc' := 26) cx st31 d1_24 rfl rfl ?_
    have l_xs0 : ([0, 0, 0, 0, 0] : List Int32).length = 5 := rfl
    have V33 : Arv Z h31 a31 ca31 .int (5 : Int32) (([0, 0, 0, 0, 0] : List Int32).map Value.int) (.int (0 : Int32)) := V31p
    obtain ⟨xs0, h_xs0⟩ : ∃ z, z = ([0, 0, 0, 0, 0] : List Int32) := ⟨_, rfl⟩
    rw [← h_xs0] at l_xs0 V33
    refine E_icmp_geN (pc' := 29) cx st31 d1_26 rfl (by decide) ?_
    refine E_aloadN (pc' := 30) cx st31 d1_29 rfl rfl rfl ?_
    refine E_aloadN (pc' := 31) cx st31 d1_30 rfl rfl rfl ?_
    refine E_aloadN (pc' := 32) cx st31 d1_31 rfl rfl rfl ?_
    refine E_ifnonnullN (pc' := 35) cx st31 d1_32 rfl ?_
    refine E_iload (pc' := 37) cx st31 d1_35 rfl rfl ?_
    refine E_goto (pc' := 44) cx st31 d1_37 (by decide) (by decide) ?_
    refine E_iaload (pc' := 45) (x := v0) cx st31 V32 ⟨by decide, by decide⟩ rfl d1_44 rfl ?_
    obtain ⟨hs0, hn0⟩ := i32_succ (n := 4) hb0 (by decide)
    have hm0 := (i32_small (n := 4) hb0 (by decide)).1
    refine E_iconst (pc' := 46) cx st31 (1 : Int32) d1_45 rfl rfl ?_
    refine E_iadd (pc' := 47) cx st31 d1_46 rfl ?_
    refine E_dup2 (pc' := 48) cx st31 d1_47 rfl rfl rfl ?_
    refine E_iaload (pc' := 49) (x := (xs0.getD (v0 + (1 : Int32)).toNatClampNeg 0)) cx st31 V33 hs0 (getD_int xs0 _ 0) d1_48 rfl ?_
    refine E_iconst (pc' := 50) cx st31 (1 : Int32) d1_49 rfl rfl ?_
    refine E_iadd (pc' := 51) cx st31 d1_50 rfl ?_
    refine E_iastore (pc' := 52) (i := (v0 + 1).toNatClampNeg) cx st31 V33 hs0 rfl (by rw [List.length_map, l_xs0, hn0]; omega) g_a31 d1_51 rfl ?_
    intro T34 h34 st34 W34 V34
    have Z34 : n0 ≤ h34.size := Nat.le_trans Z31 (Keep.of_wr W34).1
    have K34 : Keep h0 h34 [] := K31.wr W34 (Or.inr sz_a31)
    obtain ⟨xs1, h_xs1⟩ : ∃ z, z = inc xs0 v0 := ⟨_, rfl⟩
    have V34p : Arv Z h34 a31 ca31 .int (5 : Int32) (xs1.map Value.int) (.int (0 : Int32)) := by rw [h_xs1]; rw [show inc xs0 v0 = xs0.set (v0 + 1).toNatClampNeg ((xs0.getD (v0 + (1 : Int32)).toNatClampNeg 0) + (1 : Int32)) from rfl, List.map_set]; exact V34
    have l_xs1 : xs1.length = 5 := by rw [h_xs1, show inc xs0 v0 = xs0.set (v0 + 1).toNatClampNeg ((xs0.getD (v0 + (1 : Int32)).toNatClampNeg 0) + (1 : Int32)) from rfl, List.length_set]; exact l_xs0
    refine E_iinc (pc' := 55) (L' := #[.val (.ref b0), .val .null, .val (.int (4 : Int32)), .val (.ref a31), .val (.int (3 : Int32)), .val (.int (1 : Int32))]) cx st34 (1 : Int32) d1_52 rfl rfl rfl rfl ?_
    refine E_goto (pc' := 22) cx st34 d1_55 (by decide) (by decide) ?_
    refine E_iload (pc' := 24) cx st34 d1_22 rfl rfl ?_
    refine E_iload (pc' := 26) cx st34 d1_24 rfl rfl ?_
    refine E_icmp_geN (pc' := 29) cx st34 d1_26 rfl (by decide) ?_
    refine E_aloadN (pc' := 30) cx st34 d1_29 rfl rfl rfl ?_
    refine E_aloadN (pc' := 31) cx st34 d1_30 rfl rfl rfl ?_
    refine E_aloadN (pc' := 32) cx st34 d1_31 rfl rfl rfl ?_
    refine E_ifnonnullN (pc' := 35) cx st34 d1_32 rfl ?_
    refine E_iload (pc' := 37) cx st34 d1_35 rfl rfl ?_
    refine E_goto (pc' := 44) cx st34 d1_37 (by decide) (by decide) ?_
    have V35 : Arv Z h34 b0 kI .int (3 : Int32) [(.int v0), (.int v1), (.int v2)] (.int (0 : Int32)) := (V32.other W34 ne_b0_a31)
    refine E_iaload (pc' := 45) (x := v1) cx st34 V35 ⟨by decide, by decide⟩ rfl d1_44 rfl ?_
    obtain ⟨hs1, hn1⟩ := i32_succ (n := 4) hb1 (by decide)
    have hm1 := (i32_small (n := 4) hb1 (by decide)).1
    refine E_iconst (pc' := 46) cx st34 (1 : Int32) d1_45 rfl rfl ?_
    refine E_iadd (pc' := 47) cx st34 d1_46 rfl ?_
    refine E_dup2 (pc' := 48) cx st34 d1_47 rfl rfl rfl ?_
    refine E_iaload (pc' := 49) (x := (xs1.getD (v1 + (1 : Int32)).toNatClampNeg 0)) cx st34 V34p hs1 (getD_int xs1 _ 0) d1_48 rfl ?_
    refine E_iconst (pc' := 50) cx st34 (1 : Int32) d1_49 rfl rfl ?_
    refine E_iadd (pc' := 51) cx st34 d1_50 rfl ?_
    refine E_iastore (pc' := 52) (i := (v1 + 1).toNatClampNeg) cx st34 V34p hs1 rfl (by rw [List.length_map, l_xs1, hn1]; omega) g_a31 d1_51 rfl ?_
    intro T36 h36 st36 W36 V36
    have Z36 : n0 ≤ h36.size := Nat.le_trans Z34 (Keep.of_wr W36).1
    have K36 : Keep h0 h36 [] := K34.wr W36 (Or.inr sz_a31)
    obtain ⟨xs2, h_xs2⟩ : ∃ z, z = inc xs1 v1 := ⟨_, rfl⟩
    have V36p : Arv Z h36 a31 ca31 .int (5 : Int32) (xs2.map Value.int) (.int (0 : Int32)) := by rw [h_xs2]; rw [show inc xs1 v1 = xs1.set (v1 + 1).toNatClampNeg ((xs1.getD (v1 + (1 : Int32)).toNatClampNeg 0) + (1 : Int32)) from rfl, List.map_set]; exact V36
    have l_xs2 : xs2.length = 5 := by rw [h_xs2, show inc xs1 v1 = xs1.set (v1 + 1).toNatClampNeg ((xs1.getD (v1 + (1 : Int32)).toNatClampNeg 0) + (1 : Int32)) from rfl, List.length_set]; exact l_xs1
    refine E_iinc (pc' := 55) (L' := #[.val (.ref b0), .val .null, .val (.int (4 : Int32)), .val (.ref a31), .val (.int (3 : Int32)), .val (.int (2 : Int32))]) cx st36 (1 : Int32) d1_52 rfl rfl rfl rfl ?_
    refine E_goto (pc' := 22) cx st36 d1_55 (by decide) (by decide) ?_
    refine E_iload (pc' := 24) cx st36 d1_22 rfl rfl ?_
    refine E_iload (pc' := 26) cx st36 d1_24 rfl rfl ?_
    refine E_icmp_geN (pc' := 29) cx st36 d1_26 rfl (by decide) ?_
    refine E_aloadN (pc' := 30) cx st36 d1_29 rfl rfl rfl ?_
    refine E_aloadN (pc' := 31) cx st36 d1_30 rfl rfl rfl ?_
    refine E_aloadN (pc' := 32) cx st36 d1_31 rfl rfl rfl ?_
    refine E_ifnonnullN (pc' := 35) cx st36 d1_32 rfl ?_
    refine E_iload (pc' := 37) cx st36 d1_35 rfl rfl ?_
    refine E_goto (pc' := 44) cx st36 d1_37 (by decide) (by decide) ?_
    have V37 : Arv Z h36 b0 kI .int (3 : Int32) [(.int v0), (.int v1), (.int v2)] (.int (0 : Int32)) := (V35.other W36 ne_b0_a31)
    refine E_iaload (pc' := 45) (x := v2) cx st36 V37 ⟨by decide, by decide⟩ rfl d1_44 rfl ?_
    obtain ⟨hs2, hn2⟩ := i32_succ (n := 4) hb2 (by decide)
    have hm2 := (i32_small (n := 4) hb2 (by decide)).1
    refine E_iconst (pc' := 46) cx st36 (1 : Int32) d1_45 rfl rfl ?_
    refine E_iadd (pc' := 47) cx st36 d1_46 rfl ?_
    refine E_dup2 (pc' := 48) cx st36 d1_47 rfl rfl rfl ?_
    refine E_iaload (pc' := 49) (x := (xs2.getD (v2 + (1 : Int32)).toNatClampNeg 0)) cx st36 V36p hs2 (getD_int xs2 _ 0) d1_48 rfl ?_
    refine E_iconst (pc' := 50) cx st36 (1 : Int32) d1_49 rfl rfl ?_
    refine E_iadd (pc' := 51) cx st36 d1_50 rfl ?_
    refine E_iastore (pc' := 52) (i := (v2 + 1).toNatClampNeg) cx st36 V36p hs2 rfl (by rw [List.length_map, l_xs2, hn2]; omega) g_a31 d1_51 rfl ?_
    intro T38 h38 st38 W38 V38
    have Z38 : n0 ≤ h38.size := Nat.le_trans Z36 (Keep.of_wr W38).1
    have K38 : Keep h0 h38 [] := K36.wr W38 (Or.inr sz_a31)
    obtain ⟨xs3, h_xs3⟩ : ∃ z, z = inc xs2 v2 := ⟨_, rfl⟩
    have V38p : Arv Z h38 a31 ca31 .int (5 : Int32) (xs3.map Value.int) (.int (0 : Int32)) := by rw [h_xs3]; rw [show inc xs2 v2 = xs2.set (v2 + 1).toNatClampNeg ((xs2.getD (v2 + (1 : Int32)).toNatClampNeg 0) + (1 : Int32)) from rfl, List.map_set]; exact V38
    have l_xs3 : xs3.length = 5 := by rw [h_xs3, show inc xs2 v2 = xs2.set (v2 + 1).toNatClampNeg ((xs2.getD (v2 + (1 : Int32)).toNatClampNeg 0) + (1 : Int32)) from rfl, List.length_set]; exact l_xs2
    refine E_iinc (pc' := 55) (L' := #[.val (.ref b0), .val .null, .val (.int (4 : Int32)), .val (.ref a31), .val (.int (3 : Int32)), .val (.int (3 : Int32))]) cx st38 (1 : Int32) d1_52 rfl rfl rfl rfl ?_
    refine E_goto (pc' := 22) cx st38 d1_55 (by decide) (by decide) ?_
    refine E_iload (pc' := 24) cx st38 d1_22 rfl rfl ?_
    refine E_iload (pc' := 26) cx st38 d1_24 rfl rfl ?_
    refine E_icmp_geY (pc' := 58) cx st38 d1_26 (by decide) (by decide) (by decide) ?_
    refine E_iconst (pc' := 59) cx st38 (0 : Int32) d1_58 rfl rfl ?_
    refine E_istore (pc' := 61) (L' := #[.val (.ref b0), .val .null, .val (.int (4 : Int32)), .val (.ref a31), .val (.int (3 : Int32)), .val (.int (0 : Int32))]) cx st38 d1_59 rfl rfl ?_
    refine E_iload (pc' := 63) cx st38 d1_61 rfl rfl ?_
    refine E_iloadN (pc' := 64) cx st38 d1_63 rfl rfl ?_
    refine E_icmp_geN (pc' := 67) cx st38 d1_64 rfl (by decide) ?_
    refine E_aloadN (pc' := 68) cx st38 d1_67 rfl rfl rfl ?_
    refine E_iload (pc' := 70) cx st38 d1_68 rfl rfl ?_
    refine E_iconst (pc' := 71) cx st38 (1 : Int32) d1_70 rfl rfl ?_
    refine E_iadd (pc' := 72) cx st38 d1_71 rfl ?_
    rw [show ((0 : Int32) + (1 : Int32)) = (1 : Int32) from by decide]
    refine E_dup2 (pc' := 73) cx st38 d1_72 rfl rfl rfl ?_
    refine E_iaload (pc' := 74) (x := (xs3.getD 1 0)) cx st38 V38p ⟨by decide, by decide⟩ (getD_int xs3 _ 0) d1_73 rfl ?_
    refine E_aloadN (pc' := 75) cx st38 d1_74 rfl rfl rfl ?_
    refine E_iload (pc' := 77) cx st38 d1_75 rfl rfl ?_
    refine E_iaload (pc' := 78) (x := (xs3.getD 0 0)) cx st38 V38p ⟨by decide, by decide⟩ (getD_int xs3 _ 0) d1_77 rfl ?_
    refine E_iadd (pc' := 79) cx st38 d1_78 rfl ?_
    refine E_iastore (pc' := 80) (i := 1) cx st38 V38p ⟨by decide, by decide⟩ rfl (by rw [List.length_map, l_xs3]; decide) g_a31 d1_79 rfl ?_
    intro T39 h39 st39 W39 V39
    have Z39 : n0 ≤ h39.size := Nat.le_trans Z38 (Keep.of_wr W39).1
    have K39 : Keep h0 h39 [] := K38.wr W39 (Or.inr sz_a31)
    obtain ⟨ys0, h_ys0⟩ : ∃ z, z = pre xs3 0 := ⟨_, rfl⟩
    have V39p : Arv Z h39 a31 ca31 .int (5 : Int32) (ys0.map Value.int) (.int (0 : Int32)) := by rw [h_ys0]; rw [show pre xs3 0 = xs3.set 1 ((xs3.getD 1 0) + (xs3.getD 0 0)) from rfl, List.map_set]; exact V39
    have l_ys0 : ys0.length = 5 := by rw [h_ys0, show pre xs3 0 = xs3.set 1 ((xs3.getD 1 0) + (xs3.getD 0 0)) from rfl, List.length_set]; exact l_xs3
    refine E_iinc (pc' := 83) (L' := #[.val (.ref b0), .val .null, .val (.int (4 : Int32)), .val (.ref a31), .val (.int (3 : Int32)), .val (.int (1 : Int32))]) cx st39 (1 : Int32) d1_80 rfl rfl rfl rfl ?_
    refine E_goto (pc' := 61) cx st39 d1_83 (by decide) (by decide) ?_
    refine E_iload (pc' := 63) cx st39 d1_61 rfl rfl ?_
    refine E_iloadN (pc' := 64) cx st39 d1_63 rfl rfl ?_
    refine E_icmp_geN (pc' := 67) cx st39 d1_64 rfl (by decide) ?_
    refine E_aloadN (pc' := 68) cx st39 d1_67 rfl rfl rfl ?_
    refine E_iload (pc' := 70) cx st39 d1_68 rfl rfl ?_
    refine E_iconst (pc' := 71) cx st39 (1 : Int32) d1_70 rfl rfl ?_
    refine E_iadd (pc' := 72) cx st39 d1_71 rfl ?_
    rw [show ((1 : Int32) + (1 : Int32)) = (2 : Int32) from by decide]
    refine E_dup2 (pc' := 73) cx st39 d1_72 rfl rfl rfl ?_
    refine E_iaload (pc' := 74) (x := (ys0.getD 2 0)) cx st39 V39p ⟨by decide, by decide⟩ (getD_int ys0 _ 0) d1_73 rfl ?_
    refine E_aloadN (pc' := 75) cx st39 d1_74 rfl rfl rfl ?_
    refine E_iload (pc' := 77) cx st39 d1_75 rfl rfl ?_
    refine E_iaload (pc' := 78) (x := (ys0.getD 1 0)) cx st39 V39p ⟨by decide, by decide⟩ (getD_int ys0 _ 0) d1_77 rfl ?_
    refine E_iadd (pc' := 79) cx st39 d1_78 rfl ?_
    refine E_iastore (pc' := 80) (i := 2) cx st39 V39p ⟨by decide, by decide⟩ rfl (by rw [List.length_map, l_ys0]; decide) g_a31 d1_79 rfl ?_
    intro T40 h40 st40 W40 V40
    have Z40 : n0 ≤ h40.size := Nat.le_trans Z39 (Keep.of_wr W40).1
    have K40 : Keep h0 h40 [] := K39.wr W40 (Or.inr sz_a31)
    obtain ⟨ys1, h_ys1⟩ : ∃ z, z = pre ys0 1 := ⟨_, rfl⟩
    have V40p : Arv Z h40 a31 ca31 .int (5 : Int32) (ys1.map Value.int) (.int (0 : Int32)) := by rw [h_ys1]; rw [show pre ys0 1 = ys0.set 2 ((ys0.getD 2 0) + (ys0.getD 1 0)) from rfl, List.map_set]; exact V40
    have l_ys1 : ys1.length = 5 := by rw [h_ys1, show pre ys0 1 = ys0.set 2 ((ys0.getD 2 0) + (ys0.getD 1 0)) from rfl, List.length_set]; exact l_ys0
    refine E_iinc (pc' := 83) (L' := #[.val (.ref b0), .val .null, .val (.int (4 : Int32)), .val (.ref a31), .val (.int (3 : Int32)), .val (.int (2 : Int32))]) cx st40 (1 : Int32) d1_80 rfl rfl rfl rfl ?_
    refine E_goto (pc' := 61) cx st40 d1_83 (by decide) (by decide) ?_
    refine E_iload (pc' := 63) cx st40 d1_61 rfl rfl ?_
    refine E_iloadN (pc' := 64) cx st40 d1_63 rfl rfl ?_
    refine E_icmp_geN (pc' := 67) cx st40 d1_64 rfl (by decide) ?_
    refine E_aloadN (pc' := 68) cx st40 d1_67 rfl rfl rfl ?_
    refine E_iload (pc' := 70) cx st40 d1_68 rfl rfl ?_
    refine E_iconst (pc' := 71) cx st40 (1 : Int32) d1_70 rfl rfl ?_
    refine E_iadd (pc' := 72) cx st40 d1_71 rfl ?_
    rw [show ((2 : Int32) + (1 : Int32)) = (3 : Int32) from by decide]
    refine E_dup2 (pc' := 73) cx st40 d1_72 rfl rfl rfl ?_
    refine E_iaload (pc' := 74) (x := (ys1.getD 3 0)) cx st40 V40p ⟨by decide, by decide⟩ (getD_int ys1 _ 0) d1_73 rfl ?_
    refine E_aloadN (pc' := 75) cx st40 d1_74 rfl rfl rfl ?_
    refine E_iload (pc' := 77) cx st40 d1_75 rfl rfl ?_
    refine E_iaload (pc' := 78) (x := (ys1.getD 2 0)) cx st40 V40p ⟨by decide, by decide⟩ (getD_int ys1 _ 0) d1_77 rfl ?_
    refine E_iadd (pc' := 79) cx st40 d1_78 rfl ?_
    refine E_iastore (pc' := 80) (i := 3) cx st40 V40p ⟨by decide, by decide⟩ rfl (by rw [List.length_map, l_ys1]; decide) g_a31 d1_79 rfl ?_
    intro T41 h41 st41 W41 V41
    have Z41 : n0 ≤ h41.size := Nat.le_trans Z40 (Keep.of_wr W41).1
    have K41 : Keep h0 h41 [] := K40.wr W41 (Or.inr sz_a31)
    obtain ⟨ys2, h_ys2⟩ : ∃ z, z = pre ys1 2 := ⟨_, rfl⟩
    have V41p : Arv Z h41 a31 ca31 .int (5 : Int32) (ys2.map Value.int) (.int (0 : Int32)) := by rw [h_ys2]; rw [show pre ys1 2 = ys1.set 3 ((ys1.getD 3 0) + (ys1.getD 2 0)) from rfl, List.map_set]; exact V41
    have l_ys2 : ys2.length = 5 := by rw [h_ys2, show pre ys1 2 = ys1.set 3 ((ys1.getD 3 0) + (ys1.getD 2 0)) from rfl, List.length_set]; exact l_ys1
    refine E_iinc (pc' := 83) (L' := #[.val (.ref b0), .val .null, .val (.int (4 : Int32)), .val (.ref a31), .val (.int (3 : Int32)), .val (.int (3 : Int32))]) cx st41 (1 : Int32) d1_80 rfl rfl rfl rfl ?_
    refine E_goto (pc' := 61) cx st41 d1_83 (by decide) (by decide) ?_
    refine E_iload (pc' := 63) cx st41 d1_61 rfl rfl ?_
    refine E_iloadN (pc' := 64) cx st41 d1_63 rfl rfl ?_
    refine E_icmp_geN (pc' := 67) cx st41 d1_64 rfl (by decide) ?_
    refine E_aloadN (pc' := 68) cx st41 d1_67 rfl rfl rfl ?_
    refine E_iload (pc' := 70) cx st41 d1_68 rfl rfl ?_
    refine E_iconst (pc' := 71) cx st41 (1 : Int32) d1_70 rfl rfl ?_
    refine E_iadd (pc' := 72) cx st41 d1_71 rfl ?_
    rw [show ((3 : Int32) + (1 : Int32)) = (4 : Int32) from by decide]
    refine E_dup2 (pc' := 73) cx st41 d1_72 rfl rfl rfl ?_
    refine E_iaload (pc' := 74) (x := (ys2.getD 4 0)) cx st41 V41p ⟨by decide, by decide⟩ (getD_int ys2 _ 0) d1_73 rfl ?_
    refine E_aloadN (pc' := 75) cx st41 d1_74 rfl rfl rfl ?_
    refine E_iload (pc' := 77) cx st41 d1_75 rfl rfl ?_
    refine E_iaload (pc' := 78) (x := (ys2.getD 3 0)) cx st41 V41p ⟨by decide, by decide⟩ (getD_int ys2 _ 0) d1_77 rfl ?_
    refine E_iadd (pc' := 79) cx st41 d1_78 rfl ?_
    refine E_iastore (pc' := 80) (i := 4) cx st41 V41p ⟨by decide, by decide⟩ rfl (by rw [List.length_map, l_ys2]; decide) g_a31 d1_79 rfl ?_
    intro T42 h42 st42 W42 V42
    have Z42 : n0 ≤ h42.size := Nat.le_trans Z41 (Keep.of_wr W42).1
    have K42 : Keep h0 h42 [] := K41.wr W42 (Or.inr sz_a31)
    obtain ⟨ys3, h_ys3⟩ : ∃ z, z = pre ys2 3 := ⟨_, rfl⟩
    have V42p : Arv Z h42 a31 ca31 .int (5 : Int32) (ys3.map Value.int) (.int (0 : Int32)) := by rw [h_ys3]; rw [show pre ys2 3 = ys2.set 4 ((ys2.getD 4 0) + (ys2.getD 3 0)) from rfl, List.map_set]; exact V42
    have l_ys3 : ys3.length = 5 := by rw [h_ys3, show pre ys2 3 = ys2.set 4 ((ys2.getD 4 0) + (ys2.getD 3 0)) from rfl, List.length_set]; exact l_ys2
    refine E_iinc (pc' := 83) (L' := #[.val (.ref b0), .val .null, .val (.int (4 : Int32)), .val (.ref a31), .val (.int (3 : Int32)), .val (.int (4 : Int32))]) cx st42 (1 : Int32) d1_80 rfl rfl rfl rfl ?_
    refine E_goto (pc' := 61) cx st42 d1_83 (by decide) (by decide) ?_
    refine E_iload (pc' := 63) cx st42 d1_61 rfl rfl ?_
    refine E_iloadN (pc' := 64) cx st42 d1_63 rfl rfl ?_
    refine E_icmp_geY (pc' := 86) cx st42 d1_64 (by decide) (by decide) (by decide) ?_
    refine E_aloadN (pc' := 87) cx st42 d1_86 rfl rfl rfl ?_
    refine E_areturn (t := (.array .int)) cx st42 d1_87 rfl rfl rfl rfl (by decide) (by decide) ?_
    refine ⟨a31, ca31, ys3, rfl, sz_a31, K42, V42p, fun q hq1 hq2 => ?_⟩
    obtain ⟨hq3, hq4⟩ := i32_small (i := q) (n := 5) ⟨hq1, lt_of_le_lit hq2⟩ (by decide)
    rw [h_ys3, h_ys2, h_ys1, h_ys0, h_xs3, h_xs2, h_xs1, h_xs0]
    have f := fin_4_3 ⟨_, hm0⟩ ⟨_, hm1⟩ ⟨_, hm2⟩ ⟨q.toNatClampNeg, hq3⟩
    rw [← (i32_small (n := 4) hb0 (by decide)).2] at f
    rw [← (i32_small (n := 4) hb1 (by decide)).2] at f
    rw [← (i32_small (n := 4) hb2 (by decide)).2] at f
    rw [← hq4] at f
    exact f
theorem ef_1m1 (m : MethodId) (x0 : Addr) (x1 : Addr) (x2 : Int32) : entryFrame m #[(.ref x0), (.ref x1), (.int x2)] 6 = mkF m 0 #[.val (.ref x0), .val (.ref x1), .val (.int x2), .unset, .unset, .unset] [] := by first | (simp [entryFrame, mkF, argsToLocals, Value.category]; done) | rfl
set_option maxRecDepth 65536 in
set_option maxHeartbeats 40000000 in
theorem rm1m1 (l : Launch) (Z : State) (a0 : Array Value) (hw : ∀ d ∈ tables_1, d.before a0 Z = true) (b0 : Addr) (b1 : Addr) (P : Int32) (v0 : Int32) (v1 : Int32) (v2 : Int32) (h0 : Heap) (n0 : Nat) (Z0 : n0 ≤ h0.size) (kI : ClassId) (VI : Arv Z h0 b0 kI .int (3 : Int32) [(.int v0), (.int v1), (.int v2)] (.int (0 : Int32))) (hP : P = 1 ∨ P = 2 ∨ P = 3 ∨ P = 4) (kO : ClassId) (VO : Arv Z h0 b1 kO .int (0 : Int32) [] (.int (0 : Int32))) :
    Con l Z (⟨"org/querne/rdf/CountingSort", "starts", "([I[II)[I"⟩ : MethodName) prog_79_method_3_code 6 (some (.array .int)) ({ frames := 0, cells := 1, slots := 5, locals := 0 } : Room) #[(.ref b0), (.ref b1), (.int P)] h0 n0 (fun v h => ∃ (a : Addr) (k : ClassId) (rs : List Int32), v = some (.ref a) ∧ h0.size ≤ a ∧ Keep h0 h [] ∧ Arv Z h a k .int (P + 1) (rs.map Value.int) (.int (0 : Int32)) ∧ ∀ q : Int32, ¬ q < 0 → ¬ P < q → rs.getD q.toNatClampNeg 0 = bel q 0 0 0 0) := by
  refine Con.of (own := "org/querne/rdf/CountingSort") (name := "starts") (plainFor_of_name pn_1) (fun m => ef_1m1 m b0 b1 P) rfl rfl ?_
  intro p e s m below meth c T F S cx st
  rcases hP with rfl | rfl | rfl | rfl
  · refine E_iloadN (pc' := 1) cx st d1_0 rfl rfl ?_
    refine E_iconst (pc' := 2) cx st (1 : Int32) d1_1 rfl rfl ?_
    refine E_iadd (pc' := 3) cx st d1_2 rfl ?_
    rw [show ((1 : Int32) + (1 : Int32)) = (2 : Int32) from by decide]
    refine E_newP (pc' := 5) (kc' := 1) (ks' := 2) (cap := 2) cx st (hw _ (List.mem_of_getElem? (i := 1) rfl)) d1_3 (by decide) (by decide) (by decide) (by decide) (by decide) (by decide) (by decide) rfl (ad := "[I") (by decide) ?_
    intro T1 h1 ca1 a1 q1 st1 E1 V1 X1
    have g_a1 : n0 ≤ a1 := by rw [q1]; exact Z0
    have ne_b0_a1 : b0 ≠ a1 := by rw [q1]; exact Nat.ne_of_lt VI.lt
    have ne_b1_a1 : b1 ≠ a1 := by rw [q1]; exact Nat.ne_of_lt VO.lt
    have sz_a1 : h0.size ≤ a1 := by rw [q1]; exact (Keep.refl h0 []).1
    have Z1 : n0 ≤ h1.size := Nat.le_trans Z0 E1.1
    have K1 : Keep h0 h1 [] := (Keep.refl h0 []).ext E1
    have V1p : Arv Z h1 a1 ca1 .int (2 : Int32) [(.int (0 : Int32)), (.int (0 : Int32))] (.int (0 : Int32)) := V1.pad (pad_rep [] (.int (0 : Int32)) 2)
    refine E_astoreN (pc' := 6) (L' := #[.val (.ref b0), .val (.ref b1), .val (.int (1 : Int32)), .val (.ref a1), .unset, .unset]) cx st1 d1_5 rfl rfl rfl ?_
    refine E_aloadN (pc' := 7) cx st1 d1_6 rfl rfl rfl ?_
    refine E_ifnonnullY (pc' := 15) cx st1 d1_7 (by decide) (by decide) ?_
    refine E_aloadN (pc' := 16) cx st1 d1_15 rfl rfl rfl ?_
    have V2 : Arv Z h1 b1 kO .int (0 : Int32) [] (.int (0 : Int32)) := (VO.ext E1)
    refine E_arraylength (pc' := 17) cx st1 V2 d1_16 rfl ?_
    refine E_istore (pc' := 19) (L' := #[.val (.ref b0), .val (.ref b1), .val (.int (1 : Int32)), .val (.ref a1), .val (.int (0 : Int32)), .unset]) cx st1 d1_17 rfl rfl ?_
    refine E_iconst (pc' := 20) cx st1 (0 : Int32) d1_19 rfl rfl ?_
    refine E_istore (pc' := 22) (L' := #[.val (.ref b0), .val (.ref b1), .val (.int (1 : Int32)), .val (.ref a1), .val (.int (0 : Int32)), .val (.int (0 : Int32))]) cx st1 d1_20 rfl rfl ?_
    refine E_iload (pc' := 24) cx st1 d1_22 rfl rfl ?_
    refine E_iload (pc' := 26) cx st1 d1_24 rfl rfl ?_
    have l_xs0 : ([0, 0] : List Int32).length = 2 := rfl
    have V3 : Arv Z h1 a1 ca1 .int (2 : Int32) (([0, 0] : List Int32).map Value.int) (.int (0 : Int32)) := V1p
    obtain ⟨xs0, h_xs0⟩ : ∃ z, z = ([0, 0] : List Int32) := ⟨_, rfl⟩
    rw [← h_xs0] at l_xs0 V3
    refine E_icmp_geY (pc' := 58) cx st1 d1_26 (by decide) (by decide) (by decide) ?_
    refine E_iconst (pc' := 59) cx st1 (0 : Int32) d1_58 rfl rfl ?_
    refine E_istore (pc' := 61) (L' := #[.val (.ref b0), .val (.ref b1), .val (.int (1 : Int32)), .val (.ref a1), .val (.int (0 : Int32)), .val (.int (0 : Int32))]) cx st1 d1_59 rfl rfl ?_
    refine E_iload (pc' := 63) cx st1 d1_61 rfl rfl ?_
    refine E_iloadN (pc' := 64) cx st1 d1_63 rfl rfl ?_
    refine E_icmp_geN (pc' := 67) cx st1 d1_64 rfl (by decide) ?_
    refine E_aloadN (pc' := 68) cx st1 d1_67 rfl rfl rfl ?_
    refine E_iload (pc' := 70) cx st1 d1_68 rfl rfl ?_
    refine E_iconst (pc' := 71) cx st1 (1 : Int32) d1_70 rfl rfl ?_
    refine E_iadd (pc' := 72) cx st1 d1_71 rfl ?_
    rw [show ((0 : Int32) + (1 : Int32)) = (1 : Int32) from by decide]
    refine E_dup2 (pc' := 73) cx st1 d1_72 rfl rfl rfl ?_
    refine E_iaload (pc' := 74) (x := (xs0.getD 1 0)) cx st1 V3 ⟨by decide, by decide⟩ (getD_int xs0 _ 0) d1_73 rfl ?_
    refine E_aloadN (pc' := 75) cx st1 d1_74 rfl rfl rfl ?_
    refine E_iload (pc' := 77) cx st1 d1_75 rfl rfl ?_
    refine E_iaload (pc' := 78) (x := (xs0.getD 0 0)) cx st1 V3 ⟨by decide, by decide⟩ (getD_int xs0 _ 0) d1_77 rfl ?_
    refine E_iadd (pc' := 79) cx st1 d1_78 rfl ?_
    refine E_iastore (pc' := 80) (i := 1) cx st1 V3 ⟨by decide, by decide⟩ rfl (by rw [List.length_map, l_xs0]; decide) g_a1 d1_79 rfl ?_
    intro T4 h4 st4 W4 V4
    have Z4 : n0 ≤ h4.size := Nat.le_trans Z1 (Keep.of_wr W4).1
    have K4 : Keep h0 h4 [] := K1.wr W4 (Or.inr sz_a1)
    obtain ⟨ys0, h_ys0⟩ : ∃ z, z = pre xs0 0 := ⟨_, rfl⟩
    have V4p : Arv Z h4 a1 ca1 .int (2 : Int32) (ys0.map Value.int) (.int (0 : Int32)) := by rw [h_ys0]; rw [show pre xs0 0 = xs0.set 1 ((xs0.getD 1 0) + (xs0.getD 0 0)) from rfl, List.map_set]; exact V4
    have l_ys0 : ys0.length = 2 := by rw [h_ys0, show pre xs0 0 = xs0.set 1 ((xs0.getD 1 0) + (xs0.getD 0 0)) from rfl, List.length_set]; exact l_xs0
    refine E_iinc (pc' := 83) (L' := #[.val (.ref b0), .val (.ref b1), .val (.int (1 : Int32)), .val (.ref a1), .val (.int (0 : Int32)), .val (.int (1 : Int32))]) cx st4 (1 : Int32) d1_80 rfl rfl rfl rfl ?_
    refine E_goto (pc' := 61) cx st4 d1_83 (by decide) (by decide) ?_
    refine E_iload (pc' := 63) cx st4 d1_61 rfl rfl ?_
    refine E_iloadN (pc' := 64) cx st4 d1_63 rfl rfl ?_
    refine E_icmp_geY (pc' := 86) cx st4 d1_64 (by decide) (by decide) (by decide) ?_
    refine E_aloadN (pc' := 87) cx st4 d1_86 rfl rfl rfl ?_
    refine E_areturn (t := (.array .int)) cx st4 d1_87 rfl rfl rfl rfl (by decide) (by decide) ?_
    refine ⟨a1, ca1, ys0, rfl, sz_a1, K4, V4p, fun q hq1 hq2 => ?_⟩
    obtain ⟨hq3, hq4⟩ := i32_small (i := q) (n := 2) ⟨hq1, lt_of_le_lit hq2⟩ (by decide)
    rw [h_ys0, h_xs0]
    have f := fin_1_0 ⟨q.toNatClampNeg, hq3⟩
    rw [← hq4] at f
    exact f
  · refine E_iloadN (pc' := 1) cx st d1_0 rfl rfl ?_
    refine E_iconst (pc' := 2) cx st (1 : Int32) d1_1 rfl rfl ?_
    refine E_iadd (pc' := 3) cx st d1_2 rfl ?_
    rw [show ((2 : Int32) + (1 : Int32)) = (3 : Int32) from by decide]
    refine E_newP (pc' := 5) (kc' := 1) (ks' := 3) (cap := 3) cx st (hw _ (List.mem_of_getElem? (i := 1) rfl)) d1_3 (by decide) (by decide) (by decide) (by decide) (by decide) (by decide) (by decide) rfl (ad := "[I") (by decide) ?_
    intro T5 h5 ca5 a5 q5 st5 E5 V5 X5
    have g_a5 : n0 ≤ a5 := by rw [q5]; exact Z0
    have ne_b0_a5 : b0 ≠ a5 := by rw [q5]; exact Nat.ne_of_lt VI.lt
    have ne_b1_a5 : b1 ≠ a5 := by rw [q5]; exact Nat.ne_of_lt VO.lt
    have sz_a5 : h0.size ≤ a5 := by rw [q5]; exact (Keep.refl h0 []).1
    have Z5 : n0 ≤ h5.size := Nat.le_trans Z0 E5.1
    have K5 : Keep h0 h5 [] := (Keep.refl h0 []).ext E5
    have V5p : Arv Z h5 a5 ca5 .int (3 : Int32) [(.int (0 : Int32)), (.int (0 : Int32)), (.int (0 : Int32))] (.int (0 : Int32)) := V5.pad (pad_rep [] (.int (0 : Int32)) 3)
    refine E_astoreN (pc' := 6) (L' := #[.val (.ref b0), .val (.ref b1), .val (.int (2 : Int32)), .val (.ref a5), .unset, .unset]) cx st5 d1_5 rfl rfl rfl ?_
    refine E_aloadN (pc' := 7) cx st5 d1_6 rfl rfl rfl ?_
    refine E_ifnonnullY (pc' := 15) cx st5 d1_7 (by decide) (by decide) ?_
    refine E_aloadN (pc' := 16) cx st5 d1_15 rfl rfl rfl ?_
    have V6 : Arv Z h5 b1 kO .int (0 : Int32) [] (.int (0 : Int32)) := (VO.ext E5)
    refine E_arraylength (pc' := 17) cx st5 V6 d1_16 rfl ?_
    refine E_istore (pc' := 19) (L' := #[.val (.ref b0), .val (.ref b1), .val (.int (2 : Int32)), .val (.ref a5), .val (.int (0 : Int32)), .unset]) cx st5 d1_17 rfl rfl ?_
    refine E_iconst (pc' := 20) cx st5 (0 : Int32) d1_19 rfl rfl ?_
    refine E_istore (pc' := 22) (L' := #[.val (.ref b0), .val (.ref b1), .val (.int (2 : Int32)), .val (.ref a5), .val (.int (0 : Int32)), .val (.int (0 : Int32))]) cx st5 d1_20 rfl rfl ?_
    refine E_iload (pc' := 24) cx st5 d1_22 rfl rfl ?_
    refine E_iload (pc' := 26) cx st5 d1_24 rfl rfl ?_
    have l_xs0 : ([0, 0, 0] : List Int32).length = 3 := rfl
    have V7 : Arv Z h5 a5 ca5 .int (3 : Int32) (([0, 0, 0] : List Int32).map Value.int) (.int (0 : Int32)) := V5p
    obtain ⟨xs0, h_xs0⟩ : ∃ z, z = ([0, 0, 0] : List Int32) := ⟨_, rfl⟩
    rw [← h_xs0] at l_xs0 V7
    refine E_icmp_geY (pc' := 58) cx st5 d1_26 (by decide) (by decide) (by decide) ?_
    refine E_iconst (pc' := 59) cx st5 (0 : Int32) d1_58 rfl rfl ?_
    refine E_istore (pc' := 61) (L' := #[.val (.ref b0), .val (.ref b1), .val (.int (2 : Int32)), .val (.ref a5), .val (.int (0 : Int32)), .val (.int (0 : Int32))]) cx st5 d1_59 rfl rfl ?_
    refine E_iload (pc' := 63) cx st5 d1_61 rfl rfl ?_
    refine E_iloadN (pc' := 64) cx st5 d1_63 rfl rfl ?_
    refine E_icmp_geN (pc' := 67) cx st5 d1_64 rfl (by decide) ?_
    refine E_aloadN (pc' := 68) cx st5 d1_67 rfl rfl rfl ?_
    refine E_iload (pc' := 70) cx st5 d1_68 rfl rfl ?_
    refine E_iconst (pc' := 71) cx st5 (1 : Int32) d1_70 rfl rfl ?_
    refine E_iadd (pc' := 72) cx st5 d1_71 rfl ?_
    rw [show ((0 : Int32) + (1 : Int32)) = (1 : Int32) from by decide]
    refine E_dup2 (pc' := 73) cx st5 d1_72 rfl rfl rfl ?_
    refine E_iaload (pc' := 74) (x := (xs0.getD 1 0)) cx st5 V7 ⟨by decide, by decide⟩ (getD_int xs0 _ 0) d1_73 rfl ?_
    refine E_aloadN (pc' := 75) cx st5 d1_74 rfl rfl rfl ?_
    refine E_iload (pc' := 77) cx st5 d1_75 rfl rfl ?_
    refine E_iaload (pc' := 78) (x := (xs0.getD 0 0)) cx st5 V7 ⟨by decide, by decide⟩ (getD_int xs0 _ 0) d1_77 rfl ?_
    refine E_iadd (pc' := 79) cx st5 d1_78 rfl ?_
    refine E_iastore (pc' := 80) (i := 1) cx st5 V7 ⟨by decide, by decide⟩ rfl (by rw [List.length_map, l_xs0]; decide) g_a5 d1_79 rfl ?_
    intro T8 h8 st8 W8 V8
    have Z8 : n0 ≤ h8.size := Nat.le_trans Z5 (Keep.of_wr W8).1
    have K8 : Keep h0 h8 [] := K5.wr W8 (Or.inr sz_a5)
    obtain ⟨ys0, h_ys0⟩ : ∃ z, z = pre xs0 0 := ⟨_, rfl⟩
    have V8p : Arv Z h8 a5 ca5 .int (3 : Int32) (ys0.map Value.int) (.int (0 : Int32)) := by rw [h_ys0]; rw [show pre xs0 0 = xs0.set 1 ((xs0.getD 1 0) + (xs0.getD 0 0)) from rfl, List.map_set]; exact V8
    have l_ys0 : ys0.length = 3 := by rw [h_ys0, show pre xs0 0 = xs0.set 1 ((xs0.getD 1 0) + (xs0.getD 0 0)) from rfl, List.length_set]; exact l_xs0
    refine E_iinc (pc' := 83) (L' := #[.val (.ref b0), .val (.ref b1), .val (.int (2 : Int32)), .val (.ref a5), .val (.int (0 : Int32)), .val (.int (1 : Int32))]) cx st8 (1 : Int32) d1_80 rfl rfl rfl rfl ?_
    refine E_goto (pc' := 61) cx st8 d1_83 (by decide) (by decide) ?_
    refine E_iload (pc' := 63) cx st8 d1_61 rfl rfl ?_
    refine E_iloadN (pc' := 64) cx st8 d1_63 rfl rfl ?_
    refine E_icmp_geN (pc' := 67) cx st8 d1_64 rfl (by decide) ?_
    refine E_aloadN (pc' := 68) cx st8 d1_67 rfl rfl rfl ?_
    refine E_iload (pc' := 70) cx st8 d1_68 rfl rfl ?_
    refine E_iconst (pc' := 71) cx st8 (1 : Int32) d1_70 rfl rfl ?_
    refine E_iadd (pc' := 72) cx st8 d1_71 rfl ?_
    rw [show ((1 : Int32) + (1 : Int32)) = (2 : Int32) from by decide]
    refine E_dup2 (pc' := 73) cx st8 d1_72 rfl rfl rfl ?_
    refine E_iaload (pc' := 74) (x := (ys0.getD 2 0)) cx st8 V8p ⟨by decide, by decide⟩ (getD_int ys0 _ 0) d1_73 rfl ?_
    refine E_aloadN (pc' := 75) cx st8 d1_74 rfl rfl rfl ?_
    refine E_iload (pc' := 77) cx st8 d1_75 rfl rfl ?_
    refine E_iaload (pc' := 78) (x := (ys0.getD 1 0)) cx st8 V8p ⟨by decide, by decide⟩ (getD_int ys0 _ 0) d1_77 rfl ?_
    refine E_iadd (pc' := 79) cx st8 d1_78 rfl ?_
    refine E_iastore (pc' := 80) (i := 2) cx st8 V8p ⟨by decide, by decide⟩ rfl (by rw [List.length_map, l_ys0]; decide) g_a5 d1_79 rfl ?_
    intro T9 h9 st9 W9 V9
    have Z9 : n0 ≤ h9.size := Nat.le_trans Z8 (Keep.of_wr W9).1
    have K9 : Keep h0 h9 [] := K8.wr W9 (Or.inr sz_a5)
    obtain ⟨ys1, h_ys1⟩ : ∃ z, z = pre ys0 1 := ⟨_, rfl⟩
    have V9p : Arv Z h9 a5 ca5 .int (3 : Int32) (ys1.map Value.int) (.int (0 : Int32)) := by rw [h_ys1]; rw [show pre ys0 1 = ys0.set 2 ((ys0.getD 2 0) + (ys0.getD 1 0)) from rfl, List.map_set]; exact V9
    have l_ys1 : ys1.length = 3 := by rw [h_ys1, show pre ys0 1 = ys0.set 2 ((ys0.getD 2 0) + (ys0.getD 1 0)) from rfl, List.length_set]; exact l_ys0
    refine E_iinc (pc' := 83) (L' := #[.val (.ref b0), .val (.ref b1), .val (.int (2 : Int32)), .val (.ref a5), .val (.int (0 : Int32)), .val (.int (2 : Int32))]) cx st9 (1 : Int32) d1_80 rfl rfl rfl rfl ?_
    refine E_goto (pc' := 61) cx st9 d1_83 (by decide) (by decide) ?_
    refine E_iload (pc' := 63) cx st9 d1_61 rfl rfl ?_
    refine E_iloadN (pc' := 64) cx st9 d1_63 rfl rfl ?_
    refine E_icmp_geY (pc' := 86) cx st9 d1_64 (by decide) (by decide) (by decide) ?_
    refine E_aloadN (pc' := 87) cx st9 d1_86 rfl rfl rfl ?_
    refine E_areturn (t := (.array .int)) cx st9 d1_87 rfl rfl rfl rfl (by decide) (by decide) ?_
    refine ⟨a5, ca5, ys1, rfl, sz_a5, K9, V9p, fun q hq1 hq2 => ?_⟩
    obtain ⟨hq3, hq4⟩ := i32_small (i := q) (n := 3) ⟨hq1, lt_of_le_lit hq2⟩ (by decide)
    rw [h_ys1, h_ys0, h_xs0]
    have f := fin_2_0 ⟨q.toNatClampNeg, hq3⟩
    rw [← hq4] at f
    exact f
  · refine E_iloadN (pc' := 1) cx st d1_0 rfl rfl ?_
    refine E_iconst (pc' := 2) cx st (1 : Int32) d1_1 rfl rfl ?_
    refine E_iadd (pc' := 3) cx st d1_2 rfl ?_
    rw [show ((3 : Int32) + (1 : Int32)) = (4 : Int32) from by decide]
    refine E_newP (pc' := 5) (kc' := 1) (ks' := 4) (cap := 4) cx st (hw _ (List.mem_of_getElem? (i := 1) rfl)) d1_3 (by decide) (by decide) (by decide) (by decide) (by decide) (by decide) (by decide) rfl (ad := "[I") (by decide) ?_
    intro T10 h10 ca10 a10 q10 st10 E10 V10 X10
    have g_a10 : n0 ≤ a10 := by rw [q10]; exact Z0
    have ne_b0_a10 : b0 ≠ a10 := by rw [q10]; exact Nat.ne_of_lt VI.lt
    have ne_b1_a10 : b1 ≠ a10 := by rw [q10]; exact Nat.ne_of_lt VO.lt
    have sz_a10 : h0.size ≤ a10 := by rw [q10]; exact (Keep.refl h0 []).1
    have Z10 : n0 ≤ h10.size := Nat.le_trans Z0 E10.1
    have K10 : Keep h0 h10 [] := (Keep.refl h0 []).ext E10
    have V10p : Arv Z h10 a10 ca10 .int (4 : Int32) [(.int (0 : Int32)), (.int (0 : Int32)), (.int (0 : Int32)), (.int (0 : Int32))] (.int (0 : Int32)) := V10.pad (pad_rep [] (.int (0 : Int32)) 4)
    refine E_astoreN (pc' := 6) (L' := #[.val (.ref b0), .val (.ref b1), .val (.int (3 : Int32)), .val (.ref a10), .unset, .unset]) cx st10 d1_5 rfl rfl rfl ?_
    refine E_aloadN (pc' := 7) cx st10 d1_6 rfl rfl rfl ?_
    refine E_ifnonnullY (pc' := 15) cx st10 d1_7 (by decide) (by decide) ?_
    refine E_aloadN (pc' := 16) cx st10 d1_15 rfl rfl rfl ?_
    have V11 : Arv Z h10 b1 kO .int (0 : Int32) [] (.int (0 : Int32)) := (VO.ext E10)
    refine E_arraylength (pc' := 17) cx st10 V11 d1_16 rfl ?_
    refine E_istore (pc' := 19) (L' := #[.val (.ref b0), .val (.ref b1), .val (.int (3 : Int32)), .val (.ref a10), .val (.int (0 : Int32)), .unset]) cx st10 d1_17 rfl rfl ?_
    refine E_iconst (pc' := 20) cx st10 (0 : Int32) d1_19 rfl rfl ?_
    refine E_istore (pc' := 22) (L' := #[.val (.ref b0), .val (.ref b1), .val (.int (3 : Int32)), .val (.ref a10), .val (.int (0 : Int32)), .val (.int (0 : Int32))]) cx st10 d1_20 rfl rfl ?_
    refine E_iload (pc' := 24) cx st10 d1_22 rfl rfl ?_
    refine E_iload (pc' := 26) cx st10 d1_24 rfl rfl ?_
    have l_xs0 : ([0, 0, 0, 0] : List Int32).length = 4 := rfl
    have V12 : Arv Z h10 a10 ca10 .int (4 : Int32) (([0, 0, 0, 0] : List Int32).map Value.int) (.int (0 : Int32)) := V10p
    obtain ⟨xs0, h_xs0⟩ : ∃ z, z = ([0, 0, 0, 0] : List Int32) := ⟨_, rfl⟩
    rw [← h_xs0] at l_xs0 V12
    refine E_icmp_geY (pc' := 58) cx st10 d1_26 (by decide) (by decide) (by decide) ?_
    refine E_iconst (pc' := 59) cx st10 (0 : Int32) d1_58 rfl rfl ?_
    refine E_istore (pc' := 61) (L' := #[.val (.ref b0), .val (.ref b1), .val (.int (3 : Int32)), .val (.ref a10), .val (.int (0 : Int32)), .val (.int (0 : Int32))]) cx st10 d1_59 rfl rfl ?_
    refine E_iload (pc' := 63) cx st10 d1_61 rfl rfl ?_
    refine E_iloadN (pc' := 64) cx st10 d1_63 rfl rfl ?_
    refine E_icmp_geN (pc' := 67) cx st10 d1_64 rfl (by decide) ?_
    refine E_aloadN (pc' := 68) cx st10 d1_67 rfl rfl rfl ?_
    refine E_iload (pc' := 70) cx st10 d1_68 rfl rfl ?_
    refine E_iconst (pc' := 71) cx st10 (1 : Int32) d1_70 rfl rfl ?_
    refine E_iadd (pc' := 72) cx st10 d1_71 rfl ?_
    rw [show ((0 : Int32) + (1 : Int32)) = (1 : Int32) from by decide]
    refine E_dup2 (pc' := 73) cx st10 d1_72 rfl rfl rfl ?_
    refine E_iaload (pc' := 74) (x := (xs0.getD 1 0)) cx st10 V12 ⟨by decide, by decide⟩ (getD_int xs0 _ 0) d1_73 rfl ?_
    refine E_aloadN (pc' := 75) cx st10 d1_74 rfl rfl rfl ?_
    refine E_iload (pc' := 77) cx st10 d1_75 rfl rfl ?_
    refine E_iaload (pc' := 78) (x := (xs0.getD 0 0)) cx st10 V12 ⟨by decide, by decide⟩ (getD_int xs0 _ 0) d1_77 rfl ?_
    refine E_iadd (pc' := 79) cx st10 d1_78 rfl ?_
    refine E_iastore (pc' := 80) (i := 1) cx st10 V12 ⟨by decide, by decide⟩ rfl (by rw [List.length_map, l_xs0]; decide) g_a10 d1_79 rfl ?_
    intro T13 h13 st13 W13 V13
    have Z13 : n0 ≤ h13.size := Nat.le_trans Z10 (Keep.of_wr W13).1
    have K13 : Keep h0 h13 [] := K10.wr W13 (Or.inr sz_a10)
    obtain ⟨ys0, h_ys0⟩ : ∃ z, z = pre xs0 0 := ⟨_, rfl⟩
    have V13p : Arv Z h13 a10 ca10 .int (4 : Int32) (ys0.map Value.int) (.int (0 : Int32)) := by rw [h_ys0]; rw [show pre xs0 0 = xs0.set 1 ((xs0.getD 1 0) + (xs0.getD 0 0)) from rfl, List.map_set]; exact V13
    have l_ys0 : ys0.length = 4 := by rw [h_ys0, show pre xs0 0 = xs0.set 1 ((xs0.getD 1 0) + (xs0.getD 0 0)) from rfl, List.length_set]; exact l_xs0
    refine E_iinc (pc' := 83) (L' := #[.val (.ref b0), .val (.ref b1), .val (.int (3 : Int32)), .val (.ref a10), .val (.int (0 : Int32)), .val (.int (1 : Int32))]) cx st13 (1 : Int32) d1_80 rfl rfl rfl rfl ?_
    refine E_goto (pc' := 61) cx st13 d1_83 (by decide) (by decide) ?_
    refine E_iload (pc' := 63) cx st13 d1_61 rfl rfl ?_
    refine E_iloadN (pc' := 64) cx st13 d1_63 rfl rfl ?_
    refine E_icmp_geN (pc' := 67) cx st13 d1_64 rfl (by decide) ?_
    refine E_aloadN (pc' := 68) cx st13 d1_67 rfl rfl rfl ?_
    refine E_iload (pc' := 70) cx st13 d1_68 rfl rfl ?_
    refine E_iconst (pc' := 71) cx st13 (1 : Int32) d1_70 rfl rfl ?_
    refine E_iadd (pc' := 72) cx st13 d1_71 rfl ?_
    rw [show ((1 : Int32) + (1 : Int32)) = (2 : Int32) from by decide]
    refine E_dup2 (pc' := 73) cx st13 d1_72 rfl rfl rfl ?_
    refine E_iaload (pc' := 74) (x := (ys0.getD 2 0)) cx st13 V13p ⟨by decide, by decide⟩ (getD_int ys0 _ 0) d1_73 rfl ?_
    refine E_aloadN (pc' := 75) cx st13 d1_74 rfl rfl rfl ?_
    refine E_iload (pc' := 77) cx st13 d1_75 rfl rfl ?_
    refine E_iaload (pc' := 78) (x := (ys0.getD 1 0)) cx st13 V13p ⟨by decide, by decide⟩ (getD_int ys0 _ 0) d1_77 rfl ?_
    refine E_iadd (pc' := 79) cx st13 d1_78 rfl ?_
    refine E_iastore (pc' := 80) (i := 2) cx st13 V13p ⟨by decide, by decide⟩ rfl (by rw [List.length_map, l_ys0]; decide) g_a10 d1_79 rfl ?_
    intro T14 h14 st14 W14 V14
    have Z14 : n0 ≤ h14.size := Nat.le_trans Z13 (Keep.of_wr W14).1
    have K14 : Keep h0 h14 [] := K13.wr W14 (Or.inr sz_a10)
    obtain ⟨ys1, h_ys1⟩ : ∃ z, z = pre ys0 1 := ⟨_, rfl⟩
    have V14p : Arv Z h14 a10 ca10 .int (4 : Int32) (ys1.map Value.int) (.int (0 : Int32)) := by rw [h_ys1]; rw [show pre ys0 1 = ys0.set 2 ((ys0.getD 2 0) + (ys0.getD 1 0)) from rfl, List.map_set]; exact V14
    have l_ys1 : ys1.length = 4 := by rw [h_ys1, show pre ys0 1 = ys0.set 2 ((ys0.getD 2 0) + (ys0.getD 1 0)) from rfl, List.length_set]; exact l_ys0
    refine E_iinc (pc' := 83) (L' := #[.val (.ref b0), .val (.ref b1), .val (.int (3 : Int32)), .val (.ref a10), .val (.int (0 : Int32)), .val (.int (2 : Int32))]) cx st14 (1 : Int32) d1_80 rfl rfl rfl rfl ?_
    refine E_goto (pc' := 61) cx st14 d1_83 (by decide) (by decide) ?_
    refine E_iload (pc' := 63) cx st14 d1_61 rfl rfl ?_
    refine E_iloadN (pc' := 64) cx st14 d1_63 rfl rfl ?_
    refine E_icmp_geN (pc' := 67) cx st14 d1_64 rfl (by decide) ?_
    refine E_aloadN (pc' := 68) cx st14 d1_67 rfl rfl rfl ?_
    refine E_iload (pc' := 70) cx st14 d1_68 rfl rfl ?_
    refine E_iconst (pc' := 71) cx st14 (1 : Int32) d1_70 rfl rfl ?_
    refine E_iadd (pc' := 72) cx st14 d1_71 rfl ?_
    rw [show ((2 : Int32) + (1 : Int32)) = (3 : Int32) from by decide]
    refine E_dup2 (pc' := 73) cx st14 d1_72 rfl rfl rfl ?_
    refine E_iaload (pc' := 74) (x := (ys1.getD 3 0)) cx st14 V14p ⟨by decide, by decide⟩ (getD_int ys1 _ 0) d1_73 rfl ?_
    refine E_aloadN (pc' := 75) cx st14 d1_74 rfl rfl rfl ?_
    refine E_iload (pc' := 77) cx st14 d1_75 rfl rfl ?_
    refine E_iaload (pc' := 78) (x := (ys1.getD 2 0)) cx st14 V14p ⟨by decide, by decide⟩ (getD_int ys1 _ 0) d1_77 rfl ?_
    refine E_iadd (pc' := 79) cx st14 d1_78 rfl ?_
    refine E_iastore (pc' := 80) (i := 3) cx st14 V14p ⟨by decide, by decide⟩ rfl (by rw [List.length_map, l_ys1]; decide) g_a10 d1_79 rfl ?_
    intro T15 h15 st15 W15 V15
    have Z15 : n0 ≤ h15.size := Nat.le_trans Z14 (Keep.of_wr W15).1
    have K15 : Keep h0 h15 [] := K14.wr W15 (Or.inr sz_a10)
    obtain ⟨ys2, h_ys2⟩ : ∃ z, z = pre ys1 2 := ⟨_, rfl⟩
    have V15p : Arv Z h15 a10 ca10 .int (4 : Int32) (ys2.map Value.int) (.int (0 : Int32)) := by rw [h_ys2]; rw [show pre ys1 2 = ys1.set 3 ((ys1.getD 3 0) + (ys1.getD 2 0)) from rfl, List.map_set]; exact V15
    have l_ys2 : ys2.length = 4 := by rw [h_ys2, show pre ys1 2 = ys1.set 3 ((ys1.getD 3 0) + (ys1.getD 2 0)) from rfl, List.length_set]; exact l_ys1
    refine E_iinc (pc' := 83) (L' := #[.val (.ref b0), .val (.ref b1), .val (.int (3 : Int32)), .val (.ref a10), .val (.int (0 : Int32)), .val (.int (3 : Int32))]) cx st15 (1 : Int32) d1_80 rfl rfl rfl rfl ?_
    refine E_goto (pc' := 61) cx st15 d1_83 (by decide) (by decide) ?_
    refine E_iload (pc' := 63) cx st15 d1_61 rfl rfl ?_
    refine E_iloadN (pc' := 64) cx st15 d1_63 rfl rfl ?_
    refine E_icmp_geY (pc' := 86) cx st15 d1_64 (by decide) (by decide) (by decide) ?_
    refine E_aloadN (pc' := 87) cx st15 d1_86 rfl rfl rfl ?_
    refine E_areturn (t := (.array .int)) cx st15 d1_87 rfl rfl rfl rfl (by decide) (by decide) ?_
    refine ⟨a10, ca10, ys2, rfl, sz_a10, K15, V15p, fun q hq1 hq2 => ?_⟩
    obtain ⟨hq3, hq4⟩ := i32_small (i := q) (n := 4) ⟨hq1, lt_of_le_lit hq2⟩ (by decide)
    rw [h_ys2, h_ys1, h_ys0, h_xs0]
    have f := fin_3_0 ⟨q.toNatClampNeg, hq3⟩
    rw [← hq4] at f
    exact f
  · refine E_iloadN (pc' := 1) cx st d1_0 rfl rfl ?_
    refine E_iconst (pc' := 2) cx st (1 : Int32) d1_1 rfl rfl ?_
    refine E_iadd (pc' := 3) cx st d1_2 rfl ?_
    rw [show ((4 : Int32) + (1 : Int32)) = (5 : Int32) from by decide]
    refine E_newP (pc' := 5) (kc' := 1) (ks' := 5) (cap := 5) cx st (hw _ (List.mem_of_getElem? (i := 1) rfl)) d1_3 (by decide) (by decide) (by decide) (by decide) (by decide) (by decide) (by decide) rfl (ad := "[I") (by decide) ?_
    intro T16 h16 ca16 a16 q16 st16 E16 V16 X16
    have g_a16 : n0 ≤ a16 := by rw [q16]; exact Z0
    have ne_b0_a16 : b0 ≠ a16 := by rw [q16]; exact Nat.ne_of_lt VI.lt
    have ne_b1_a16 : b1 ≠ a16 := by rw [q16]; exact Nat.ne_of_lt VO.lt
    have sz_a16 : h0.size ≤ a16 := by rw [q16]; exact (Keep.refl h0 []).1
    have Z16 : n0 ≤ h16.size := Nat.le_trans Z0 E16.1
    have K16 : Keep h0 h16 [] := (Keep.refl h0 []).ext E16
    have V16p : Arv Z h16 a16 ca16 .int (5 : Int32) [(.int (0 : Int32)), (.int (0 : Int32)), (.int (0 : Int32)), (.int (0 : Int32)), (.int (0 : Int32))] (.int (0 : Int32)) := V16.pad (pad_rep [] (.int (0 : Int32)) 5)
    refine E_astoreN (pc' := 6) (L' := #[.val (.ref b0), .val (.ref b1), .val (.int (4 : Int32)), .val (.ref a16), .unset, .unset]) cx st16 d1_5 rfl rfl rfl ?_
    refine E_aloadN (pc' := 7) cx st16 d1_6 rfl rfl rfl ?_
    refine E_ifnonnullY (pc' := 15) cx st16 d1_7 (by decide) (by decide) ?_
    refine E_aloadN (pc' := 16) cx st16 d1_15 rfl rfl rfl ?_
    have V17 : Arv Z h16 b1 kO .int (0 : Int32) [] (.int (0 : Int32)) := (VO.ext E16)
    refine E_arraylength (pc' := 17) cx st16 V17 d1_16 rfl ?_
    refine E_istore (pc' := 19) (L' := #[.val (.ref b0), .val (.ref b1), .val (.int (4 : Int32)), .val (.ref a16), .val (.int (0 : Int32)), .unset]) cx st16 d1_17 rfl rfl ?_
    refine E_iconst (pc' := 20) cx st16 (0 : Int32) d1_19 rfl rfl ?_
    refine E_istore (pc' := 22) (L' := #[.val (.ref b0), .val (.ref b1), .val (.int (4 : Int32)), .val (.ref a16), .val (.int (0 : Int32)), .val (.int (0 : Int32))]) cx st16 d1_20 rfl rfl ?_
    refine E_iload (pc' := 24) cx st16 d1_22 rfl rfl ?_
    refine E_iload (pc' := 26) cx st16 d1_24 rfl rfl ?_
    have l_xs0 : ([0, 0, 0, 0, 0] : List Int32).length = 5 := rfl
    have V18 : Arv Z h16 a16 ca16 .int (5 : Int32) (([0, 0, 0, 0, 0] : List Int32).map Value.int) (.int (0 : Int32)) := V16p
    obtain ⟨xs0, h_xs0⟩ : ∃ z, z = ([0, 0, 0, 0, 0] : List Int32) := ⟨_, rfl⟩
    rw [← h_xs0] at l_xs0 V18
    refine E_icmp_geY (pc' := 58) cx st16 d1_26 (by decide) (by decide) (by decide) ?_
    refine E_iconst (pc' := 59) cx st16 (0 : Int32) d1_58 rfl rfl ?_
    refine E_istore (pc' := 61) (L' := #[.val (.ref b0), .val (.ref b1), .val (.int (4 : Int32)), .val (.ref a16), .val (.int (0 : Int32)), .val (.int (0 : Int32))]) cx st16 d1_59 rfl rfl ?_
    refine E_iload (pc' := 63) cx st16 d1_61 rfl rfl ?_
    refine E_iloadN (pc' := 64) cx st16 d1_63 rfl rfl ?_
    refine E_icmp_geN (pc' := 67) cx st16 d1_64 rfl (by decide) ?_
    refine E_aloadN (pc' := 68) cx st16 d1_67 rfl rfl rfl ?_
    refine E_iload (pc' := 70) cx st16 d1_68 rfl rfl ?_
    refine E_iconst (pc' := 71) cx st16 (1 : Int32) d1_70 rfl rfl ?_
    refine E_iadd (pc' := 72) cx st16 d1_71 rfl ?_
    rw [show ((0 : Int32) + (1 : Int32)) = (1 : Int32) from by decide]
    refine E_dup2 (pc' := 73) cx st16 d1_72 rfl rfl rfl ?_
    refine E_iaload (pc' := 74) (x := (xs0.getD 1 0)) cx st16 V18 ⟨by decide, by decide⟩ (getD_int xs0 _ 0) d1_73 rfl ?_
    refine E_aloadN (pc' := 75) cx st16 d1_74 rfl rfl rfl ?_
    refine E_iload (pc' := 77) cx st16 d1_75 rfl rfl ?_
    refine E_iaload (pc' := 78) (x := (xs0.getD 0 0)) cx st16 V18 ⟨by decide, by decide⟩ (getD_int xs0 _ 0) d1_77 rfl ?_
    refine E_iadd (pc' := 79) cx st16 d1_78 rfl ?_
    refine E_iastore (pc' := 80) (i := 1) cx st16 V18 ⟨by decide, by decide⟩ rfl (by rw [List.length_map, l_xs0]; decide) g_a16 d1_79 rfl ?_
    intro T19 h19 st19 W19 V19
    have Z19 : n0 ≤ h19.size := Nat.le_trans Z16 (Keep.of_wr W19).1
    have K19 : Keep h0 h19 [] := K16.wr W19 (Or.inr sz_a16)
    obtain ⟨ys0, h_ys0⟩ : ∃ z, z = pre xs0 0 := ⟨_, rfl⟩
    have V19p : Arv Z h19 a16 ca16 .int (5 : Int32) (ys0.map Value.int) (.int (0 : Int32)) := by rw [h_ys0]; rw [show pre xs0 0 = xs0.set 1 ((xs0.getD 1 0) + (xs0.getD 0 0)) from rfl, List.map_set]; exact V19
    have l_ys0 : ys0.length = 5 := by rw [h_ys0, show pre xs0 0 = xs0.set 1 ((xs0.getD 1 0) + (xs0.getD 0 0)) from rfl, List.length_set]; exact l_xs0
    refine E_iinc (pc' := 83) (L' := #[.val (.ref b0), .val (.ref b1), .val (.int (4 : Int32)), .val (.ref a16), .val (.int (0 : Int32)), .val (.int (1 : Int32))]) cx st19 (1 : Int32) d1_80 rfl rfl rfl rfl ?_
    refine E_goto (pc' := 61) cx st19 d1_83 (by decide) (by decide) ?_
    refine E_iload (pc' := 63) cx st19 d1_61 rfl rfl ?_
    refine E_iloadN (pc' := 64) cx st19 d1_63 rfl rfl ?_
    refine E_icmp_geN (pc' := 67) cx st19 d1_64 rfl (by decide) ?_
    refine E_aloadN (pc' := 68) cx st19 d1_67 rfl rfl rfl ?_
    refine E_iload (pc' := 70) cx st19 d1_68 rfl rfl ?_
    refine E_iconst (pc' := 71) cx st19 (1 : Int32) d1_70 rfl rfl ?_
    refine E_iadd (pc' := 72) cx st19 d1_71 rfl ?_
    rw [show ((1 : Int32) + (1 : Int32)) = (2 : Int32) from by decide]
    refine E_dup2 (pc' := 73) cx st19 d1_72 rfl rfl rfl ?_
    refine E_iaload (pc' := 74) (x := (ys0.getD 2 0)) cx st19 V19p ⟨by decide, by decide⟩ (getD_int ys0 _ 0) d1_73 rfl ?_
    refine E_aloadN (pc' := 75) cx st19 d1_74 rfl rfl rfl ?_
    refine E_iload (pc' := 77) cx st19 d1_75 rfl rfl ?_
    refine E_iaload (pc' := 78) (x := (ys0.getD 1 0)) cx st19 V19p ⟨by decide, by decide⟩ (getD_int ys0 _ 0) d1_77 rfl ?_
    refine E_iadd (pc' := 79) cx st19 d1_78 rfl ?_
    refine E_iastore (pc' := 80) (i := 2) cx st19 V19p ⟨by decide, by decide⟩ rfl (by rw [List.length_map, l_ys0]; decide) g_a16 d1_79 rfl ?_
    intro T20 h20 st20 W20 V20
    have Z20 : n0 ≤ h20.size := Nat.le_trans Z19 (Keep.of_wr W20).1
    have K20 : Keep h0 h20 [] := K19.wr W20 (Or.inr sz_a16)
    obtain ⟨ys1, h_ys1⟩ : ∃ z, z = pre ys0 1 := ⟨_, rfl⟩
    have V20p : Arv Z h20 a16 ca16 .int (5 : Int32) (ys1.map Value.int) (.int (0 : Int32)) := by rw [h_ys1]; rw [show pre ys0 1 = ys0.set 2 ((ys0.getD 2 0) + (ys0.getD 1 0)) from rfl, List.map_set]; exact V20
    have l_ys1 : ys1.length = 5 := by rw [h_ys1, show pre ys0 1 = ys0.set 2 ((ys0.getD 2 0) + (ys0.getD 1 0)) from rfl, List.length_set]; exact l_ys0
    refine E_iinc (pc' := 83) (L' := #[.val (.ref b0), .val (.ref b1), .val (.int (4 : Int32)), .val (.ref a16), .val (.int (0 : Int32)), .val (.int (2 : Int32))]) cx st20 (1 : Int32) d1_80 rfl rfl rfl rfl ?_
    refine E_goto (pc' := 61) cx st20 d1_83 (by decide) (by decide) ?_
    refine E_iload (pc' := 63) cx st20 d1_61 rfl rfl ?_
    refine E_iloadN (pc' := 64) cx st20 d1_63 rfl rfl ?_
    refine E_icmp_geN (pc' := 67) cx st20 d1_64 rfl (by decide) ?_
    refine E_aloadN (pc' := 68) cx st20 d1_67 rfl rfl rfl ?_
    refine E_iload (pc' := 70) cx st20 d1_68 rfl rfl ?_
    refine E_iconst (pc' := 71) cx st20 (1 : Int32) d1_70 rfl rfl ?_
    refine E_iadd (pc' := 72) cx st20 d1_71 rfl ?_
    rw [show ((2 : Int32) + (1 : Int32)) = (3 : Int32) from by decide]
    refine E_dup2 (pc' := 73) cx st20 d1_72 rfl rfl rfl ?_
    refine E_iaload (pc' := 74) (x := (ys1.getD 3 0)) cx st20 V20p ⟨by decide, by decide⟩ (getD_int ys1 _ 0) d1_73 rfl ?_
    refine E_aloadN (pc' := 75) cx st20 d1_74 rfl rfl rfl ?_
    refine E_iload (pc' := 77) cx st20 d1_75 rfl rfl ?_
    refine E_iaload (pc' := 78) (x := (ys1.getD 2 0)) cx st20 V20p ⟨by decide, by decide⟩ (getD_int ys1 _ 0) d1_77 rfl ?_
    refine E_iadd (pc' := 79) cx st20 d1_78 rfl ?_
    refine E_iastore (pc' := 80) (i := 3) cx st20 V20p ⟨by decide, by decide⟩ rfl (by rw [List.length_map, l_ys1]; decide) g_a16 d1_79 rfl ?_
    intro T21 h21 st21 W21 V21
    have Z21 : n0 ≤ h21.size := Nat.le_trans Z20 (Keep.of_wr W21).1
    have K21 : Keep h0 h21 [] := K20.wr W21 (Or.inr sz_a16)
    obtain ⟨ys2, h_ys2⟩ : ∃ z, z = pre ys1 2 := ⟨_, rfl⟩
    have V21p : Arv Z h21 a16 ca16 .int (5 : Int32) (ys2.map Value.int) (.int (0 : Int32)) := by rw [h_ys2]; rw [show pre ys1 2 = ys1.set 3 ((ys1.getD 3 0) + (ys1.getD 2 0)) from rfl, List.map_set]; exact V21
    have l_ys2 : ys2.length = 5 := by rw [h_ys2, show pre ys1 2 = ys1.set 3 ((ys1.getD 3 0) + (ys1.getD 2 0)) from rfl, List.length_set]; exact l_ys1
    refine E_iinc (pc' := 83) (L' := #[.val (.ref b0), .val (.ref b1), .val (.int (4 : Int32)), .val (.ref a16), .val (.int (0 : Int32)), .val (.int (3 : Int32))]) cx st21 (1 : Int32) d1_80 rfl rfl rfl rfl ?_
    refine E_goto (pc' := 61) cx st21 d1_83 (by decide) (by decide) ?_
    refine E_iload (pc' := 63) cx st21 d1_61 rfl rfl ?_
    refine E_iloadN (pc' := 64) cx st21 d1_63 rfl rfl ?_
    refine E_icmp_geN (pc' := 67) cx st21 d1_64 rfl (by decide) ?_
    refine E_aloadN (pc' := 68) cx st21 d1_67 rfl rfl rfl ?_
    refine E_iload (pc' := 70) cx st21 d1_68 rfl rfl ?_
    refine E_iconst (pc' := 71) cx st21 (1 : Int32) d1_70 rfl rfl ?_
    refine E_iadd (pc' := 72) cx st21 d1_71 rfl ?_
    rw [show ((3 : Int32) + (1 : Int32)) = (4 : Int32) from by decide]
    refine E_dup2 (pc' := 73) cx st21 d1_72 rfl rfl rfl ?_
    refine E_iaload (pc' := 74) (x := (ys2.getD 4 0)) cx st21 V21p ⟨by decide, by decide⟩ (getD_int ys2 _ 0) d1_73 rfl ?_
    refine E_aloadN (pc' := 75) cx st21 d1_74 rfl rfl rfl ?_
    refine E_iload (pc' := 77) cx st21 d1_75 rfl rfl ?_
    refine E_iaload (pc' := 78) (x := (ys2.getD 3 0)) cx st21 V21p ⟨by decide, by decide⟩ (getD_int ys2 _ 0) d1_77 rfl ?_
    refine E_iadd (pc' := 79) cx st21 d1_78 rfl ?_
    refine E_iastore (pc' := 80) (i := 4) cx st21 V21p ⟨by decide, by decide⟩ rfl (by rw [List.length_map, l_ys2]; decide) g_a16 d1_79 rfl ?_
    intro T22 h22 st22 W22 V22
    have Z22 : n0 ≤ h22.size := Nat.le_trans Z21 (Keep.of_wr W22).1
    have K22 : Keep h0 h22 [] := K21.wr W22 (Or.inr sz_a16)
    obtain ⟨ys3, h_ys3⟩ : ∃ z, z = pre ys2 3 := ⟨_, rfl⟩
    have V22p : Arv Z h22 a16 ca16 .int (5 : Int32) (ys3.map Value.int) (.int (0 : Int32)) := by rw [h_ys3]; rw [show pre ys2 3 = ys2.set 4 ((ys2.getD 4 0) + (ys2.getD 3 0)) from rfl, List.map_set]; exact V22
    have l_ys3 : ys3.length = 5 := by rw [h_ys3, show pre ys2 3 = ys2.set 4 ((ys2.getD 4 0) + (ys2.getD 3 0)) from rfl, List.length_set]; exact l_ys2
    refine E_iinc (pc' := 83) (L' := #[.val (.ref b0), .val (.ref b1), .val (.int (4 : Int32)), .val (.ref a16), .val (.int (0 : Int32)), .val (.int (4 : Int32))]) cx st22 (1 : Int32) d1_80 rfl rfl rfl rfl ?_
    refine E_goto (pc' := 61) cx st22 d1_83 (by decide) (by decide) ?_
    refine E_iload (pc' := 63) cx st22 d1_61 rfl rfl ?_
    refine E_iloadN (pc' := 64) cx st22 d1_63 rfl rfl ?_
    refine E_icmp_geY (pc' := 86) cx st22 d1_64 (by decide) (by decide) (by decide) ?_
    refine E_aloadN (pc' := 87) cx st22 d1_86 rfl rfl rfl ?_
    refine E_areturn (t := (.array .int)) cx st22 d1_87 rfl rfl rfl rfl (by decide) (by decide) ?_
    refine ⟨a16, ca16, ys3, rfl, sz_a16, K22, V22p, fun q hq1 hq2 => ?_⟩
    obtain ⟨hq3, hq4⟩ := i32_small (i := q) (n := 5) ⟨hq1, lt_of_le_lit hq2⟩ (by decide)
    rw [h_ys3, h_ys2, h_ys1, h_ys0, h_xs0]
    have f := fin_4_0 ⟨q.toNatClampNeg, hq3⟩
    rw [← hq4] at f
    exact f
theorem ef_1m2 (m : MethodId) (x0 : Addr) (x1 : Addr) (x2 : Int32) : entryFrame m #[(.ref x0), (.ref x1), (.int x2)] 6 = mkF m 0 #[.val (.ref x0), .val (.ref x1), .val (.int x2), .unset, .unset, .unset] [] := by first | (simp [entryFrame, mkF, argsToLocals, Value.category]; done) | rfl
set_option maxRecDepth 65536 in
set_option maxHeartbeats 40000000 in
theorem rm1m2 (l : Launch) (Z : State) (a0 : Array Value) (hw : ∀ d ∈ tables_1, d.before a0 Z = true) (b0 : Addr) (b1 : Addr) (P : Int32) (v0 : Int32) (v1 : Int32) (v2 : Int32) (k0 : Int32) (h0 : Heap) (n0 : Nat) (Z0 : n0 ≤ h0.size) (kI : ClassId) (VI : Arv Z h0 b0 kI .int (3 : Int32) [(.int v0), (.int v1), (.int v2)] (.int (0 : Int32))) (hP : P = 1 ∨ P = 2 ∨ P = 3 ∨ P = 4) (kO : ClassId) (VO : Arv Z h0 b1 kO .int (1 : Int32) [(.int k0)] (.int (0 : Int32))) (hk0 : ¬ k0 < 0 ∧ k0 < 3) (hb0 : ¬ ([v0, v1, v2].getD k0.toNatClampNeg 0) < 0 ∧ ([v0, v1, v2].getD k0.toNatClampNeg 0) < P) :
    Con l Z (⟨"org/querne/rdf/CountingSort", "starts", "([I[II)[I"⟩ : MethodName) prog_79_method_3_code 6 (some (.array .int)) ({ frames := 0, cells := 1, slots := 5, locals := 0 } : Room) #[(.ref b0), (.ref b1), (.int P)] h0 n0 (fun v h => ∃ (a : Addr) (k : ClassId) (rs : List Int32), v = some (.ref a) ∧ h0.size ≤ a ∧ Keep h0 h [] ∧ Arv Z h a k .int (P + 1) (rs.map Value.int) (.int (0 : Int32)) ∧ ∀ q : Int32, ¬ q < 0 → ¬ P < q → rs.getD q.toNatClampNeg 0 = bel q 1 ([v0, v1, v2].getD k0.toNatClampNeg 0) 0 0) := by
  refine Con.of (own := "org/querne/rdf/CountingSort") (name := "starts") (plainFor_of_name pn_1) (fun m => ef_1m2 m b0 b1 P) rfl rfl ?_
  intro p e s m below meth c T F S cx st
  rcases hP with rfl | rfl | rfl | rfl
  · refine E_iloadN (pc' := 1) cx st d1_0 rfl rfl ?_
    refine E_iconst (pc' := 2) cx st (1 : Int32) d1_1 rfl rfl ?_
    refine E_iadd (pc' := 3) cx st d1_2 rfl ?_
    rw [show ((1 : Int32) + (1 : Int32)) = (2 : Int32) from by decide]
    refine E_newP (pc' := 5) (kc' := 1) (ks' := 2) (cap := 2) cx st (hw _ (List.mem_of_getElem? (i := 1) rfl)) d1_3 (by decide) (by decide) (by decide) (by decide) (by decide) (by decide) (by decide) rfl (ad := "[I") (by decide) ?_
    intro T1 h1 ca1 a1 q1 st1 E1 V1 X1
    have g_a1 : n0 ≤ a1 := by rw [q1]; exact Z0
    have ne_b0_a1 : b0 ≠ a1 := by rw [q1]; exact Nat.ne_of_lt VI.lt
    have ne_b1_a1 : b1 ≠ a1 := by rw [q1]; exact Nat.ne_of_lt VO.lt
    have sz_a1 : h0.size ≤ a1 := by rw [q1]; exact (Keep.refl h0 []).1
    have Z1 : n0 ≤ h1.size := Nat.le_trans Z0 E1.1
    have K1 : Keep h0 h1 [] := (Keep.refl h0 []).ext E1
    have V1p : Arv Z h1 a1 ca1 .int (2 : Int32) [(.int (0 : Int32)), (.int (0 : Int32))] (.int (0 : Int32)) := V1.pad (pad_rep [] (.int (0 : Int32)) 2)
    refine E_astoreN (pc' := 6) (L' := #[.val (.ref b0), .val (.ref b1), .val (.int (1 : Int32)), .val (.ref a1), .unset, .unset]) cx st1 d1_5 rfl rfl rfl ?_
    refine E_aloadN (pc' := 7) cx st1 d1_6 rfl rfl rfl ?_
    refine E_ifnonnullY (pc' := 15) cx st1 d1_7 (by decide) (by decide) ?_
    refine E_aloadN (pc' := 16) cx st1 d1_15 rfl rfl rfl ?_
    have V2 : Arv Z h1 b1 kO .int (1 : Int32) [(.int k0)] (.int (0 : Int32)) := (VO.ext E1)
    refine E_arraylength (pc' := 17) cx st1 V2 d1_16 rfl ?_
    refine E_istore (pc' := 19) (L' := #[.val (.ref b0), .val (.ref b1), .val (.int (1 : Int32)), .val (.ref a1), .val (.int (1 : Int32)), .unset]) cx st1 d1_17 rfl rfl ?_
    refine E_iconst (pc' := 20) cx st1 (0 : Int32) d1_19 rfl rfl ?_
    refine E_istore (pc' := 22) (L' := #[.val (.ref b0), .val (.ref b1), .val (.int (1 : Int32)), .val (.ref a1), .val (.int (1 : Int32)), .val (.int (0 : Int32))]) cx st1 d1_20 rfl rfl ?_
    refine E_iload (pc' := 24) cx st1 d1_22 rfl rfl ?_
    refine E_iload (pc' := 26) cx st1 d1_24 rfl rfl ?_
    have l_xs0 : ([0, 0] : List Int32).length = 2 := rfl
    have V3 : Arv Z h1 a1 ca1 .int (2 : Int32) (([0, 0] : List Int32).map Value.int) (.int (0 : Int32)) := V1p
    obtain ⟨xs0, h_xs0⟩ : ∃ z, z = ([0, 0] : List Int32) := ⟨_, rfl⟩
    rw [← h_xs0] at l_xs0 V3
    refine E_icmp_geN (pc' := 29) cx st1 d1_26 rfl (by decide) ?_
    refine E_aloadN (pc' := 30) cx st1 d1_29 rfl rfl rfl ?_
    refine E_aloadN (pc' := 31) cx st1 d1_30 rfl rfl rfl ?_
    refine E_aloadN (pc' := 32) cx st1 d1_31 rfl rfl rfl ?_
    refine E_ifnonnullY (pc' := 40) cx st1 d1_32 (by decide) (by decide) ?_
    refine E_aloadN (pc' := 41) cx st1 d1_40 rfl rfl rfl ?_
    refine E_iload (pc' := 43) cx st1 d1_41 rfl rfl ?_
    refine E_iaload (pc' := 44) (x := k0) cx st1 V2 ⟨by decide, by decide⟩ rfl d1_43 rfl ?_
    have V4 : Arv Z h1 b0 kI .int (3 : Int32) [(.int v0), (.int v1), (.int v2)] (.int (0 : Int32)) := (VI.ext E1)
    refine E_iaload (pc' := 45) (x := ([v0, v1, v2].getD k0.toNatClampNeg 0)) cx st1 V4 hk0 (getD_int [v0, v1, v2] _ 0) d1_44 rfl ?_
    obtain ⟨hs0, hn0⟩ := i32_succ (n := 1) hb0 (by decide)
    have hm0 := (i32_small (n := 1) hb0 (by decide)).1
    refine E_iconst (pc' := 46) cx st1 (1 : Int32) d1_45 rfl rfl ?_
    refine E_iadd (pc' := 47) cx st1 d1_46 rfl ?_
    refine E_dup2 (pc' := 48) cx st1 d1_47 rfl rfl rfl ?_
    refine E_iaload (pc' := 49) (x := (xs0.getD (([v0, v1, v2].getD k0.toNatClampNeg 0) + (1 : Int32)).toNatClampNeg 0)) cx st1 V3 hs0 (getD_int xs0 _ 0) d1_48 rfl ?_
    refine E_iconst (pc' := 50) cx st1 (1 : Int32) d1_49 rfl rfl ?_
    refine E_iadd (pc' := 51) cx st1 d1_50 rfl ?_
    refine E_iastore (pc' := 52) (i := (([v0, v1, v2].getD k0.toNatClampNeg 0) + 1).toNatClampNeg) cx st1 V3 hs0 rfl (by rw [List.length_map, l_xs0, hn0]; omega) g_a1 d1_51 rfl ?_
    intro T5 h5 st5 W5 V5
    have Z5 : n0 ≤ h5.size := Nat.le_trans Z1 (Keep.of_wr W5).1
    have K5 : Keep h0 h5 [] := K1.wr W5 (Or.inr sz_a1)
    obtain ⟨xs1, h_xs1⟩ : ∃ z, z = inc xs0 ([v0, v1, v2].getD k0.toNatClampNeg 0) := ⟨_, rfl⟩
    have V5p : Arv Z h5 a1 ca1 .int (2 : Int32) (xs1.map Value.int) (.int (0 : Int32)) := by rw [h_xs1]; rw [show inc xs0 ([v0, v1, v2].getD k0.toNatClampNeg 0) = xs0.set (([v0, v1, v2].getD k0.toNatClampNeg 0) + 1).toNatClampNeg ((xs0.getD (([v0, v1, v2].getD k0.toNatClampNeg 0) + (1 : Int32)).toNatClampNeg 0) + (1 : Int32)) from rfl, List.map_set]; exact V5
    have l_xs1 : xs1.length = 2 := by rw [h_xs1, show inc xs0 ([v0, v1, v2].getD k0.toNatClampNeg 0) = xs0.set (([v0, v1, v2].getD k0.toNatClampNeg 0) + 1).toNatClampNeg ((xs0.getD (([v0, v1, v2].getD k0.toNatClampNeg 0) + (1 : Int32)).toNatClampNeg 0) + (1 : Int32)) from rfl, List.length_set]; exact l_xs0
    refine E_iinc (pc' := 55) (L' := #[.val (.ref b0), .val (.ref b1), .val (.int (1 : Int32)), .val (.ref a1), .val (.int (1 : Int32)), .val (.int (1 : Int32))]) cx st5 (1 : Int32) d1_52 rfl rfl rfl rfl ?_
    refine E_goto (pc' := 22) cx st5 d1_55 (by decide) (by decide) ?_
    refine E_iload (pc' := 24) cx st5 d1_22 rfl rfl ?_
    refine E_iload (pc' := 26) cx st5 d1_24 rfl rfl ?_
    refine E_icmp_geY (pc' := 58) cx st5 d1_26 (by decide) (by decide) (by decide) ?_
    refine E_iconst (pc' := 59) cx st5 (0 : Int32) d1_58 rfl rfl ?_
    refine E_istore (pc' := 61) (L' := #[.val (.ref b0), .val (.ref b1), .val (.int (1 : Int32)), .val (.ref a1), .val (.int (1 : Int32)), .val (.int (0 : Int32))]) cx st5 d1_59 rfl rfl ?_
    refine E_iload (pc' := 63) cx st5 d1_61 rfl rfl ?_
    refine E_iloadN (pc' := 64) cx st5 d1_63 rfl rfl ?_
    refine E_icmp_geN (pc' := 67) cx st5 d1_64 rfl (by decide) ?_
    refine E_aloadN (pc' := 68) cx st5 d1_67 rfl rfl rfl ?_
    refine E_iload (pc' := 70) cx st5 d1_68 rfl rfl ?_
    refine E_iconst (pc' := 71) cx st5 (1 : Int32) d1_70 rfl rfl ?_
    refine E_iadd (pc' := 72) cx st5 d1_71 rfl ?_
    rw [show ((0 : Int32) + (1 : Int32)) = (1 : Int32) from by decide]
    refine E_dup2 (pc' := 73) cx st5 d1_72 rfl rfl rfl ?_
    refine E_iaload (pc' := 74) (x := (xs1.getD 1 0)) cx st5 V5p ⟨by decide, by decide⟩ (getD_int xs1 _ 0) d1_73 rfl ?_
    refine E_aloadN (pc' := 75) cx st5 d1_74 rfl rfl rfl ?_
    refine E_iload (pc' := 77) cx st5 d1_75 rfl rfl ?_
    refine E_iaload (pc' := 78) (x := (xs1.getD 0 0)) cx st5 V5p ⟨by decide, by decide⟩ (getD_int xs1 _ 0) d1_77 rfl ?_
    refine E_iadd (pc' := 79) cx st5 d1_78 rfl ?_
    refine E_iastore (pc' := 80) (i := 1) cx st5 V5p ⟨by decide, by decide⟩ rfl (by rw [List.length_map, l_xs1]; decide) g_a1 d1_79 rfl ?_
    intro T6 h6 st6 W6 V6
    have Z6 : n0 ≤ h6.size := Nat.le_trans Z5 (Keep.of_wr W6).1
    have K6 : Keep h0 h6 [] := K5.wr W6 (Or.inr sz_a1)
    obtain ⟨ys0, h_ys0⟩ : ∃ z, z = pre xs1 0 := ⟨_, rfl⟩
    have V6p : Arv Z h6 a1 ca1 .int (2 : Int32) (ys0.map Value.int) (.int (0 : Int32)) := by rw [h_ys0]; rw [show pre xs1 0 = xs1.set 1 ((xs1.getD 1 0) + (xs1.getD 0 0)) from rfl, List.map_set]; exact V6
    have l_ys0 : ys0.length = 2 := by rw [h_ys0, show pre xs1 0 = xs1.set 1 ((xs1.getD 1 0) + (xs1.getD 0 0)) from rfl, List.length_set]; exact l_xs1
    refine E_iinc (pc' := 83) (L' := #[.val (.ref b0), .val (.ref b1), .val (.int (1 : Int32)), .val (.ref a1), .val (.int (1 : Int32)), .val (.int (1 : Int32))]) cx st6 (1 : Int32) d1_80 rfl rfl rfl rfl ?_
    refine E_goto (pc' := 61) cx st6 d1_83 (by decide) (by decide) ?_
    refine E_iload (pc' := 63) cx st6 d1_61 rfl rfl ?_
    refine E_iloadN (pc' := 64) cx st6 d1_63 rfl rfl ?_
    refine E_icmp_geY (pc' := 86) cx st6 d1_64 (by decide) (by decide) (by decide) ?_
    refine E_aloadN (pc' := 87) cx st6 d1_86 rfl rfl rfl ?_
    refine E_areturn (t := (.array .int)) cx st6 d1_87 rfl rfl rfl rfl (by decide) (by decide) ?_
    refine ⟨a1, ca1, ys0, rfl, sz_a1, K6, V6p, fun q hq1 hq2 => ?_⟩
    obtain ⟨hq3, hq4⟩ := i32_small (i := q) (n := 2) ⟨hq1, lt_of_le_lit hq2⟩ (by decide)
    rw [h_ys0, h_xs1, h_xs0]
    have f := fin_1_1 ⟨_, hm0⟩ ⟨q.toNatClampNeg, hq3⟩
    rw [← (i32_small (n := 1) hb0 (by decide)).2] at f
    rw [← hq4] at f
    exact f
  · refine E_iloadN (pc' := 1) cx st d1_0 rfl rfl ?_
    refine E_iconst (pc' := 2) cx st (1 : Int32) d1_1 rfl rfl ?_
    refine E_iadd (pc' := 3) cx st d1_2 rfl ?_
    rw [show ((2 : Int32) + (1 : Int32)) = (3 : Int32) from by decide]
    refine E_newP (pc' := 5) (kc' := 1) (ks' := 3) (cap := 3) cx st (hw _ (List.mem_of_getElem? (i := 1) rfl)) d1_3 (by decide) (by decide) (by decide) (by decide) (by decide) (by decide) (by decide) rfl (ad := "[I") (by decide) ?_
    intro T7 h7 ca7 a7 q7 st7 E7 V7 X7
    have g_a7 : n0 ≤ a7 := by rw [q7]; exact Z0
    have ne_b0_a7 : b0 ≠ a7 := by rw [q7]; exact Nat.ne_of_lt VI.lt
    have ne_b1_a7 : b1 ≠ a7 := by rw [q7]; exact Nat.ne_of_lt VO.lt
    have sz_a7 : h0.size ≤ a7 := by rw [q7]; exact (Keep.refl h0 []).1
    have Z7 : n0 ≤ h7.size := Nat.le_trans Z0 E7.1
    have K7 : Keep h0 h7 [] := (Keep.refl h0 []).ext E7
    have V7p : Arv Z h7 a7 ca7 .int (3 : Int32) [(.int (0 : Int32)), (.int (0 : Int32)), (.int (0 : Int32))] (.int (0 : Int32)) := V7.pad (pad_rep [] (.int (0 : Int32)) 3)
    refine E_astoreN (pc' := 6) (L' := #[.val (.ref b0), .val (.ref b1), .val (.int (2 : Int32)), .val (.ref a7), .unset, .unset]) cx st7 d1_5 rfl rfl rfl ?_
    refine E_aloadN (pc' := 7) cx st7 d1_6 rfl rfl rfl ?_
    refine E_ifnonnullY (pc' := 15) cx st7 d1_7 (by decide) (by decide) ?_
    refine E_aloadN (pc' := 16) cx st7 d1_15 rfl rfl rfl ?_
    have V8 : Arv Z h7 b1 kO .int (1 : Int32) [(.int k0)] (.int (0 : Int32)) := (VO.ext E7)
    refine E_arraylength (pc' := 17) cx st7 V8 d1_16 rfl ?_
    refine E_istore (pc' := 19) (L' := #[.val (.ref b0), .val (.ref b1), .val (.int (2 : Int32)), .val (.ref a7), .val (.int (1 : Int32)), .unset]) cx st7 d1_17 rfl rfl ?_
    refine E_iconst (pc' := 20) cx st7 (0 : Int32) d1_19 rfl rfl ?_
    refine E_istore (pc' := 22) (L' := #[.val (.ref b0), .val (.ref b1), .val (.int (2 : Int32)), .val (.ref a7), .val (.int (1 : Int32)), .val (.int (0 : Int32))]) cx st7 d1_20 rfl rfl ?_
    refine E_iload (pc' := 24) cx st7 d1_22 rfl rfl ?_
    refine E_iload (pc' := 26) cx st7 d1_24 rfl rfl ?_
    have l_xs0 : ([0, 0, 0] : List Int32).length = 3 := rfl
    have V9 : Arv Z h7 a7 ca7 .int (3 : Int32) (([0, 0, 0] : List Int32).map Value.int) (.int (0 : Int32)) := V7p
    obtain ⟨xs0, h_xs0⟩ : ∃ z, z = ([0, 0, 0] : List Int32) := ⟨_, rfl⟩
    rw [← h_xs0] at l_xs0 V9
    refine E_icmp_geN (pc' := 29) cx st7 d1_26 rfl (by decide) ?_
    refine E_aloadN (pc' := 30) cx st7 d1_29 rfl rfl rfl ?_
    refine E_aloadN (pc' := 31) cx st7 d1_30 rfl rfl rfl ?_
    refine E_aloadN (pc' := 32) cx st7 d1_31 rfl rfl rfl ?_
    refine E_ifnonnullY (pc' := 40) cx st7 d1_32 (by decide) (by decide) ?_
    refine E_aloadN (pc' := 41) cx st7 d1_40 rfl rfl rfl ?_
    refine E_iload (pc' := 43) cx st7 d1_41 rfl rfl ?_
    refine E_iaload (pc' := 44) (x := k0) cx st7 V8 ⟨by decide, by decide⟩ rfl d1_43 rfl ?_
    have V10 : Arv Z h7 b0 kI .int (3 : Int32) [(.int v0), (.int v1), (.int v2)] (.int (0 : Int32)) := (VI.ext E7)
    refine E_iaload (pc' := 45) (x := ([v0, v1, v2].getD k0.toNatClampNeg 0)) cx st7 V10 hk0 (getD_int [v0, v1, v2] _ 0) d1_44 rfl ?_
    obtain ⟨hs0, hn0⟩ := i32_succ (n := 2) hb0 (by decide)
    have hm0 := (i32_small (n := 2) hb0 (by decide)).1
    refine E_iconst (pc' := 46) cx st7 (1 : Int32) d1_45 rfl rfl ?_
    refine E_iadd (pc' := 47) cx st7 d1_46 rfl ?_
    refine E_dup2 (pc' := 48) cx st7 d1_47 rfl rfl rfl ?_
    refine E_iaload (pc' := 49) (x := (xs0.getD (([v0, v1, v2].getD k0.toNatClampNeg 0) + (1 : Int32)).toNatClampNeg 0)) cx st7 V9 hs0 (getD_int xs0 _ 0) d1_48 rfl ?_
    refine E_iconst (pc' := 50) cx st7 (1 : Int32) d1_49 rfl rfl ?_
    refine E_iadd (pc' := 51) cx st7 d1_50 rfl ?_
    refine E_iastore (pc' := 52) (i := (([v0, v1, v2].getD k0.toNatClampNeg 0) + 1).toNatClampNeg) cx st7 V9 hs0 rfl (by rw [List.length_map, l_xs0, hn0]; omega) g_a7 d1_51 rfl ?_
    intro T11 h11 st11 W11 V11
    have Z11 : n0 ≤ h11.size := Nat.le_trans Z7 (Keep.of_wr W11).1
    have K11 : Keep h0 h11 [] := K7.wr W11 (Or.inr sz_a7)
    obtain ⟨xs1, h_xs1⟩ : ∃ z, z = inc xs0 ([v0, v1, v2].getD k0.toNatClampNeg 0) := ⟨_, rfl⟩
    have V11p : Arv Z h11 a7 ca7 .int (3 : Int32) (xs1.map Value.int) (.int (0 : Int32)) := by rw [h_xs1]; rw [show inc xs0 ([v0, v1, v2].getD k0.toNatClampNeg 0) = xs0.set (([v0, v1, v2].getD k0.toNatClampNeg 0) + 1).toNatClampNeg ((xs0.getD (([v0, v1, v2].getD k0.toNatClampNeg 0) + (1 : Int32)).toNatClampNeg 0) + (1 : Int32)) from rfl, List.map_set]; exact V11
    have l_xs1 : xs1.length = 3 := by rw [h_xs1, show inc xs0 ([v0, v1, v2].getD k0.toNatClampNeg 0) = xs0.set (([v0, v1, v2].getD k0.toNatClampNeg 0) + 1).toNatClampNeg ((xs0.getD (([v0, v1, v2].getD k0.toNatClampNeg 0) + (1 : Int32)).toNatClampNeg 0) + (1 : Int32)) from rfl, List.length_set]; exact l_xs0
    refine E_iinc (pc' := 55) (L' := #[.val (.ref b0), .val (.ref b1), .val (.int (2 : Int32)), .val (.ref a7), .val (.int (1 : Int32)), .val (.int (1 : Int32))]) cx st11 (1 : Int32) d1_52 rfl rfl rfl rfl ?_
    refine E_goto (pc' := 22) cx st11 d1_55 (by decide) (by decide) ?_
    refine E_iload (pc' := 24) cx st11 d1_22 rfl rfl ?_
    refine E_iload (pc' := 26) cx st11 d1_24 rfl rfl ?_
    refine E_icmp_geY (pc' := 58) cx st11 d1_26 (by decide) (by decide) (by decide) ?_
    refine E_iconst (pc' := 59) cx st11 (0 : Int32) d1_58 rfl rfl ?_
    refine E_istore (pc' := 61) (L' := #[.val (.ref b0), .val (.ref b1), .val (.int (2 : Int32)), .val (.ref a7), .val (.int (1 : Int32)), .val (.int (0 : Int32))]) cx st11 d1_59 rfl rfl ?_
    refine E_iload (pc' := 63) cx st11 d1_61 rfl rfl ?_
    refine E_iloadN (pc' := 64) cx st11 d1_63 rfl rfl ?_
    refine E_icmp_geN (pc' := 67) cx st11 d1_64 rfl (by decide) ?_
    refine E_aloadN (pc' := 68) cx st11 d1_67 rfl rfl rfl ?_
    refine E_iload (pc' := 70) cx st11 d1_68 rfl rfl ?_
    refine E_iconst (pc' := 71) cx st11 (1 : Int32) d1_70 rfl rfl ?_
    refine E_iadd (pc' := 72) cx st11 d1_71 rfl ?_
    rw [show ((0 : Int32) + (1 : Int32)) = (1 : Int32) from by decide]
    refine E_dup2 (pc' := 73) cx st11 d1_72 rfl rfl rfl ?_
    refine E_iaload (pc' := 74) (x := (xs1.getD 1 0)) cx st11 V11p ⟨by decide, by decide⟩ (getD_int xs1 _ 0) d1_73 rfl ?_
    refine E_aloadN (pc' := 75) cx st11 d1_74 rfl rfl rfl ?_
    refine E_iload (pc' := 77) cx st11 d1_75 rfl rfl ?_
    refine E_iaload (pc' := 78) (x := (xs1.getD 0 0)) cx st11 V11p ⟨by decide, by decide⟩ (getD_int xs1 _ 0) d1_77 rfl ?_
    refine E_iadd (pc' := 79) cx st11 d1_78 rfl ?_
    refine E_iastore (pc' := 80) (i := 1) cx st11 V11p ⟨by decide, by decide⟩ rfl (by rw [List.length_map, l_xs1]; decide) g_a7 d1_79 rfl ?_
    intro T12 h12 st12 W12 V12
    have Z12 : n0 ≤ h12.size := Nat.le_trans Z11 (Keep.of_wr W12).1
    have K12 : Keep h0 h12 [] := K11.wr W12 (Or.inr sz_a7)
    obtain ⟨ys0, h_ys0⟩ : ∃ z, z = pre xs1 0 := ⟨_, rfl⟩
    have V12p : Arv Z h12 a7 ca7 .int (3 : Int32) (ys0.map Value.int) (.int (0 : Int32)) := by rw [h_ys0]; rw [show pre xs1 0 = xs1.set 1 ((xs1.getD 1 0) + (xs1.getD 0 0)) from rfl, List.map_set]; exact V12
    have l_ys0 : ys0.length = 3 := by rw [h_ys0, show pre xs1 0 = xs1.set 1 ((xs1.getD 1 0) + (xs1.getD 0 0)) from rfl, List.length_set]; exact l_xs1
    refine E_iinc (pc' := 83) (L' := #[.val (.ref b0), .val (.ref b1), .val (.int (2 : Int32)), .val (.ref a7), .val (.int (1 : Int32)), .val (.int (1 : Int32))]) cx st12 (1 : Int32) d1_80 rfl rfl rfl rfl ?_
    refine E_goto (pc' := 61) cx st12 d1_83 (by decide) (by decide) ?_
    refine E_iload (pc' := 63) cx st12 d1_61 rfl rfl ?_
    refine E_iloadN (pc' := 64) cx st12 d1_63 rfl rfl ?_
    refine E_icmp_geN (pc' := 67) cx st12 d1_64 rfl (by decide) ?_
    refine E_aloadN (pc' := 68) cx st12 d1_67 rfl rfl rfl ?_
    refine E_iload (pc' := 70) cx st12 d1_68 rfl rfl ?_
    refine E_iconst (pc' := 71) cx st12 (1 : Int32) d1_70 rfl rfl ?_
    refine E_iadd (pc' := 72) cx st12 d1_71 rfl ?_
    rw [show ((1 : Int32) + (1 : Int32)) = (2 : Int32) from by decide]
    refine E_dup2 (pc' := 73) cx st12 d1_72 rfl rfl rfl ?_
    refine E_iaload (pc' := 74) (x := (ys0.getD 2 0)) cx st12 V12p ⟨by decide, by decide⟩ (getD_int ys0 _ 0) d1_73 rfl ?_
    refine E_aloadN (pc' := 75) cx st12 d1_74 rfl rfl rfl ?_
    refine E_iload (pc' := 77) cx st12 d1_75 rfl rfl ?_
    refine E_iaload (pc' := 78) (x := (ys0.getD 1 0)) cx st12 V12p ⟨by decide, by decide⟩ (getD_int ys0 _ 0) d1_77 rfl ?_
    refine E_iadd (pc' := 79) cx st12 d1_78 rfl ?_
    refine E_iastore (pc' := 80) (i := 2) cx st12 V12p ⟨by decide, by decide⟩ rfl (by rw [List.length_map, l_ys0]; decide) g_a7 d1_79 rfl ?_
    intro T13 h13 st13 W13 V13
    have Z13 : n0 ≤ h13.size := Nat.le_trans Z12 (Keep.of_wr W13).1
    have K13 : Keep h0 h13 [] := K12.wr W13 (Or.inr sz_a7)
    obtain ⟨ys1, h_ys1⟩ : ∃ z, z = pre ys0 1 := ⟨_, rfl⟩
    have V13p : Arv Z h13 a7 ca7 .int (3 : Int32) (ys1.map Value.int) (.int (0 : Int32)) := by rw [h_ys1]; rw [show pre ys0 1 = ys0.set 2 ((ys0.getD 2 0) + (ys0.getD 1 0)) from rfl, List.map_set]; exact V13
    have l_ys1 : ys1.length = 3 := by rw [h_ys1, show pre ys0 1 = ys0.set 2 ((ys0.getD 2 0) + (ys0.getD 1 0)) from rfl, List.length_set]; exact l_ys0
    refine E_iinc (pc' := 83) (L' := #[.val (.ref b0), .val (.ref b1), .val (.int (2 : Int32)), .val (.ref a7), .val (.int (1 : Int32)), .val (.int (2 : Int32))]) cx st13 (1 : Int32) d1_80 rfl rfl rfl rfl ?_
    refine E_goto (pc' := 61) cx st13 d1_83 (by decide) (by decide) ?_
    refine E_iload (pc' := 63) cx st13 d1_61 rfl rfl ?_
    refine E_iloadN (pc' := 64) cx st13 d1_63 rfl rfl ?_
    refine E_icmp_geY (pc' := 86) cx st13 d1_64 (by decide) (by decide) (by decide) ?_
    refine E_aloadN (pc' := 87) cx st13 d1_86 rfl rfl rfl ?_
    refine E_areturn (t := (.array .int)) cx st13 d1_87 rfl rfl rfl rfl (by decide) (by decide) ?_
    refine ⟨a7, ca7, ys1, rfl, sz_a7, K13, V13p, fun q hq1 hq2 => ?_⟩
    obtain ⟨hq3, hq4⟩ := i32_small (i := q) (n := 3) ⟨hq1, lt_of_le_lit hq2⟩ (by decide)
    rw [h_ys1, h_ys0, h_xs1, h_xs0]
    have f := fin_2_1 ⟨_, hm0⟩ ⟨q.toNatClampNeg, hq3⟩
    rw [← (i32_small (n := 2) hb0 (by decide)).2] at f
    rw [← hq4] at f
    exact f
  · refine E_iloadN (pc' := 1) cx st d1_0 rfl rfl ?_
    refine E_iconst (pc' := 2) cx st (1 : Int32) d1_1 rfl rfl ?_
    refine E_iadd (pc' := 3) cx st d1_2 rfl ?_
    rw [show ((3 : Int32) + (1 : Int32)) = (4 : Int32) from by decide]
    refine E_newP (pc' := 5) (kc' := 1) (ks' := 4) (cap := 4) cx st (hw _ (List.mem_of_getElem? (i := 1) rfl)) d1_3 (by decide) (by decide) (by decide) (by decide) (by decide) (by decide) (by decide) rfl (ad := "[I") (by decide) ?_
    intro T14 h14 ca14 a14 q14 st14 E14 V14 X14
    have g_a14 : n0 ≤ a14 := by rw [q14]; exact Z0
    have ne_b0_a14 : b0 ≠ a14 := by rw [q14]; exact Nat.ne_of_lt VI.lt
    have ne_b1_a14 : b1 ≠ a14 := by rw [q14]; exact Nat.ne_of_lt VO.lt
    have sz_a14 : h0.size ≤ a14 := by rw [q14]; exact (Keep.refl h0 []).1
    have Z14 : n0 ≤ h14.size := Nat.le_trans Z0 E14.1
    have K14 : Keep h0 h14 [] := (Keep.refl h0 []).ext E14
    have V14p : Arv Z h14 a14 ca14 .int (4 : Int32) [(.int (0 : Int32)), (.int (0 : Int32)), (.int (0 : Int32)), (.int (0 : Int32))] (.int (0 : Int32)) := V14.pad (pad_rep [] (.int (0 : Int32)) 4)
    refine E_astoreN (pc' := 6) (L' := #[.val (.ref b0), .val (.ref b1), .val (.int (3 : Int32)), .val (.ref a14), .unset, .unset]) cx st14 d1_5 rfl rfl rfl ?_
    refine E_aloadN (pc' := 7) cx st14 d1_6 rfl rfl rfl ?_
    refine E_ifnonnullY (pc' := 15) cx st14 d1_7 (by decide) (by decide) ?_
    refine E_aloadN (pc' := 16) cx st14 d1_15 rfl rfl rfl ?_
    have V15 : Arv Z h14 b1 kO .int (1 : Int32) [(.int k0)] (.int (0 : Int32)) := (VO.ext E14)
    refine E_arraylength (pc' := 17) cx st14 V15 d1_16 rfl ?_
    refine E_istore (pc' := 19) (L' := #[.val (.ref b0), .val (.ref b1), .val (.int (3 : Int32)), .val (.ref a14), .val (.int (1 : Int32)), .unset]) cx st14 d1_17 rfl rfl ?_
    refine E_iconst (pc' := 20) cx st14 (0 : Int32) d1_19 rfl rfl ?_
    refine E_istore (pc' := 22) (L' := #[.val (.ref b0), .val (.ref b1), .val (.int (3 : Int32)), .val (.ref a14), .val (.int (1 : Int32)), .val (.int (0 : Int32))]) cx st14 d1_20 rfl rfl ?_
    refine E_iload (pc' := 24) cx st14 d1_22 rfl rfl ?_
    refine E_iload (pc' := 26) cx st14 d1_24 rfl rfl ?_
    have l_xs0 : ([0, 0, 0, 0] : List Int32).length = 4 := rfl
    have V16 : Arv Z h14 a14 ca14 .int (4 : Int32) (([0, 0, 0, 0] : List Int32).map Value.int) (.int (0 : Int32)) := V14p
    obtain ⟨xs0, h_xs0⟩ : ∃ z, z = ([0, 0, 0, 0] : List Int32) := ⟨_, rfl⟩
    rw [← h_xs0] at l_xs0 V16
    refine E_icmp_geN (pc' := 29) cx st14 d1_26 rfl (by decide) ?_
    refine E_aloadN (pc' := 30) cx st14 d1_29 rfl rfl rfl ?_
    refine E_aloadN (pc' := 31) cx st14 d1_30 rfl rfl rfl ?_
    refine E_aloadN (pc' := 32) cx st14 d1_31 rfl rfl rfl ?_
    refine E_ifnonnullY (pc' := 40) cx st14 d1_32 (by decide) (by decide) ?_
    refine E_aloadN (pc' := 41) cx st14 d1_40 rfl rfl rfl ?_
    refine E_iload (pc' := 43) cx st14 d1_41 rfl rfl ?_
    refine E_iaload (pc' := 44) (x := k0) cx st14 V15 ⟨by decide, by decide⟩ rfl d1_43 rfl ?_
    have V17 : Arv Z h14 b0 kI .int (3 : Int32) [(.int v0), (.int v1), (.int v2)] (.int (0 : Int32)) := (VI.ext E14)
    refine E_iaload (pc' := 45) (x := ([v0, v1, v2].getD k0.toNatClampNeg 0)) cx st14 V17 hk0 (getD_int [v0, v1, v2] _ 0) d1_44 rfl ?_
    obtain ⟨hs0, hn0⟩ := i32_succ (n := 3) hb0 (by decide)
    have hm0 := (i32_small (n := 3) hb0 (by decide)).1
    refine E_iconst (pc' := 46) cx st14 (1 : Int32) d1_45 rfl rfl ?_
    refine E_iadd (pc' := 47) cx st14 d1_46 rfl ?_
    refine E_dup2 (pc' := 48) cx st14 d1_47 rfl rfl rfl ?_
    refine E_iaload (pc' := 49) (x := (xs0.getD (([v0, v1, v2].getD k0.toNatClampNeg 0) + (1 : Int32)).toNatClampNeg 0)) cx st14 V16 hs0 (getD_int xs0 _ 0) d1_48 rfl ?_
    refine E_iconst (pc' := 50) cx st14 (1 : Int32) d1_49 rfl rfl ?_
    refine E_iadd (pc' := 51) cx st14 d1_50 rfl ?_
    refine E_iastore (pc' := 52) (i := (([v0, v1, v2].getD k0.toNatClampNeg 0) + 1).toNatClampNeg) cx st14 V16 hs0 rfl (by rw [List.length_map, l_xs0, hn0]; omega) g_a14 d1_51 rfl ?_
    intro T18 h18 st18 W18 V18
    have Z18 : n0 ≤ h18.size := Nat.le_trans Z14 (Keep.of_wr W18).1
    have K18 : Keep h0 h18 [] := K14.wr W18 (Or.inr sz_a14)
    obtain ⟨xs1, h_xs1⟩ : ∃ z, z = inc xs0 ([v0, v1, v2].getD k0.toNatClampNeg 0) := ⟨_, rfl⟩
    have V18p : Arv Z h18 a14 ca14 .int (4 : Int32) (xs1.map Value.int) (.int (0 : Int32)) := by rw [h_xs1]; rw [show inc xs0 ([v0, v1, v2].getD k0.toNatClampNeg 0) = xs0.set (([v0, v1, v2].getD k0.toNatClampNeg 0) + 1).toNatClampNeg ((xs0.getD (([v0, v1, v2].getD k0.toNatClampNeg 0) + (1 : Int32)).toNatClampNeg 0) + (1 : Int32)) from rfl, List.map_set]; exact V18
    have l_xs1 : xs1.length = 4 := by rw [h_xs1, show inc xs0 ([v0, v1, v2].getD k0.toNatClampNeg 0) = xs0.set (([v0, v1, v2].getD k0.toNatClampNeg 0) + 1).toNatClampNeg ((xs0.getD (([v0, v1, v2].getD k0.toNatClampNeg 0) + (1 : Int32)).toNatClampNeg 0) + (1 : Int32)) from rfl, List.length_set]; exact l_xs0
    refine E_iinc (pc' := 55) (L' := #[.val (.ref b0), .val (.ref b1), .val (.int (3 : Int32)), .val (.ref a14), .val (.int (1 : Int32)), .val (.int (1 : Int32))]) cx st18 (1 : Int32) d1_52 rfl rfl rfl rfl ?_
    refine E_goto (pc' := 22) cx st18 d1_55 (by decide) (by decide) ?_
    refine E_iload (pc' := 24) cx st18 d1_22 rfl rfl ?_
    refine E_iload (pc' := 26) cx st18 d1_24 rfl rfl ?_
    refine E_icmp_geY (pc' := 58) cx st18 d1_26 (by decide) (by decide) (by decide) ?_
    refine E_iconst (pc' := 59) cx st18 (0 : Int32) d1_58 rfl rfl ?_
    refine E_istore (pc' := 61) (L' := #[.val (.ref b0), .val (.ref b1), .val (.int (3 : Int32)), .val (.ref a14), .val (.int (1 : Int32)), .val (.int (0 : Int32))]) cx st18 d1_59 rfl rfl ?_
    refine E_iload (pc' := 63) cx st18 d1_61 rfl rfl ?_
    refine E_iloadN (pc' := 64) cx st18 d1_63 rfl rfl ?_
    refine E_icmp_geN (pc' := 67) cx st18 d1_64 rfl (by decide) ?_
    refine E_aloadN (pc' := 68) cx st18 d1_67 rfl rfl rfl ?_
    refine E_iload (pc' := 70) cx st18 d1_68 rfl rfl ?_
    refine E_iconst (pc' := 71) cx st18 (1 : Int32) d1_70 rfl rfl ?_
    refine E_iadd (pc' := 72) cx st18 d1_71 rfl ?_
    rw [show ((0 : Int32) + (1 : Int32)) = (1 : Int32) from by decide]
    refine E_dup2 (pc' := 73) cx st18 d1_72 rfl rfl rfl ?_
    refine E_iaload (pc' := 74) (x := (xs1.getD 1 0)) cx st18 V18p ⟨by decide, by decide⟩ (getD_int xs1 _ 0) d1_73 rfl ?_
    refine E_aloadN (pc' := 75) cx st18 d1_74 rfl rfl rfl ?_
    refine E_iload (pc' := 77) cx st18 d1_75 rfl rfl ?_
    refine E_iaload (pc' := 78) (x := (xs1.getD 0 0)) cx st18 V18p ⟨by decide, by decide⟩ (getD_int xs1 _ 0) d1_77 rfl ?_
    refine E_iadd (pc' := 79) cx st18 d1_78 rfl ?_
    refine E_iastore (pc' := 80) (i := 1) cx st18 V18p ⟨by decide, by decide⟩ rfl (by rw [List.length_map, l_xs1]; decide) g_a14 d1_79 rfl ?_
    intro T19 h19 st19 W19 V19
    have Z19 : n0 ≤ h19.size := Nat.le_trans Z18 (Keep.of_wr W19).1
    have K19 : Keep h0 h19 [] := K18.wr W19 (Or.inr sz_a14)
    obtain ⟨ys0, h_ys0⟩ : ∃ z, z = pre xs1 0 := ⟨_, rfl⟩
    have V19p : Arv Z h19 a14 ca14 .int (4 : Int32) (ys0.map Value.int) (.int (0 : Int32)) := by rw [h_ys0]; rw [show pre xs1 0 = xs1.set 1 ((xs1.getD 1 0) + (xs1.getD 0 0)) from rfl, List.map_set]; exact V19
    have l_ys0 : ys0.length = 4 := by rw [h_ys0, show pre xs1 0 = xs1.set 1 ((xs1.getD 1 0) + (xs1.getD 0 0)) from rfl, List.length_set]; exact l_xs1
    refine E_iinc (pc' := 83) (L' := #[.val (.ref b0), .val (.ref b1), .val (.int (3 : Int32)), .val (.ref a14), .val (.int (1 : Int32)), .val (.int (1 : Int32))]) cx st19 (1 : Int32) d1_80 rfl rfl rfl rfl ?_
    refine E_goto (pc' := 61) cx st19 d1_83 (by decide) (by decide) ?_
    refine E_iload (pc' := 63) cx st19 d1_61 rfl rfl ?_
    refine E_iloadN (pc' := 64) cx st19 d1_63 rfl rfl ?_
    refine E_icmp_geN (pc' := 67) cx st19 d1_64 rfl (by decide) ?_
    refine E_aloadN (pc' := 68) cx st19 d1_67 rfl rfl rfl ?_
    refine E_iload (pc' := 70) cx st19 d1_68 rfl rfl ?_
    refine E_iconst (pc' := 71) cx st19 (1 : Int32) d1_70 rfl rfl ?_
    refine E_iadd (pc' := 72) cx st19 d1_71 rfl ?_
    rw [show ((1 : Int32) + (1 : Int32)) = (2 : Int32) from by decide]
    refine E_dup2 (pc' := 73) cx st19 d1_72 rfl rfl rfl ?_
    refine E_iaload (pc' := 74) (x := (ys0.getD 2 0)) cx st19 V19p ⟨by decide, by decide⟩ (getD_int ys0 _ 0) d1_73 rfl ?_
    refine E_aloadN (pc' := 75) cx st19 d1_74 rfl rfl rfl ?_
    refine E_iload (pc' := 77) cx st19 d1_75 rfl rfl ?_
    refine E_iaload (pc' := 78) (x := (ys0.getD 1 0)) cx st19 V19p ⟨by decide, by decide⟩ (getD_int ys0 _ 0) d1_77 rfl ?_
    refine E_iadd (pc' := 79) cx st19 d1_78 rfl ?_
    refine E_iastore (pc' := 80) (i := 2) cx st19 V19p ⟨by decide, by decide⟩ rfl (by rw [List.length_map, l_ys0]; decide) g_a14 d1_79 rfl ?_
    intro T20 h20 st20 W20 V20
    have Z20 : n0 ≤ h20.size := Nat.le_trans Z19 (Keep.of_wr W20).1
    have K20 : Keep h0 h20 [] := K19.wr W20 (Or.inr sz_a14)
    obtain ⟨ys1, h_ys1⟩ : ∃ z, z = pre ys0 1 := ⟨_, rfl⟩
    have V20p : Arv Z h20 a14 ca14 .int (4 : Int32) (ys1.map Value.int) (.int (0 : Int32)) := by rw [h_ys1]; rw [show pre ys0 1 = ys0.set 2 ((ys0.getD 2 0) + (ys0.getD 1 0)) from rfl, List.map_set]; exact V20
    have l_ys1 : ys1.length = 4 := by rw [h_ys1, show pre ys0 1 = ys0.set 2 ((ys0.getD 2 0) + (ys0.getD 1 0)) from rfl, List.length_set]; exact l_ys0
    refine E_iinc (pc' := 83) (L' := #[.val (.ref b0), .val (.ref b1), .val (.int (3 : Int32)), .val (.ref a14), .val (.int (1 : Int32)), .val (.int (2 : Int32))]) cx st20 (1 : Int32) d1_80 rfl rfl rfl rfl ?_
    refine E_goto (pc' := 61) cx st20 d1_83 (by decide) (by decide) ?_
    refine E_iload (pc' := 63) cx st20 d1_61 rfl rfl ?_
    refine E_iloadN (pc' := 64) cx st20 d1_63 rfl rfl ?_
    refine E_icmp_geN (pc' := 67) cx st20 d1_64 rfl (by decide) ?_
    refine E_aloadN (pc' := 68) cx st20 d1_67 rfl rfl rfl ?_
    refine E_iload (pc' := 70) cx st20 d1_68 rfl rfl ?_
    refine E_iconst (pc' := 71) cx st20 (1 : Int32) d1_70 rfl rfl ?_
    refine E_iadd (pc' := 72) cx st20 d1_71 rfl ?_
    rw [show ((2 : Int32) + (1 : Int32)) = (3 : Int32) from by decide]
    refine E_dup2 (pc' := 73) cx st20 d1_72 rfl rfl rfl ?_
    refine E_iaload (pc' := 74) (x := (ys1.getD 3 0)) cx st20 V20p ⟨by decide, by decide⟩ (getD_int ys1 _ 0) d1_73 rfl ?_
    refine E_aloadN (pc' := 75) cx st20 d1_74 rfl rfl rfl ?_
    refine E_iload (pc' := 77) cx st20 d1_75 rfl rfl ?_
    refine E_iaload (pc' := 78) (x := (ys1.getD 2 0)) cx st20 V20p ⟨by decide, by decide⟩ (getD_int ys1 _ 0) d1_77 rfl ?_
    refine E_iadd (pc' := 79) cx st20 d1_78 rfl ?_
    refine E_iastore (pc' := 80) (i := 3) cx st20 V20p ⟨by decide, by decide⟩ rfl (by rw [List.length_map, l_ys1]; decide) g_a14 d1_79 rfl ?_
    intro T21 h21 st21 W21 V21
    have Z21 : n0 ≤ h21.size := Nat.le_trans Z20 (Keep.of_wr W21).1
    have K21 : Keep h0 h21 [] := K20.wr W21 (Or.inr sz_a14)
    obtain ⟨ys2, h_ys2⟩ : ∃ z, z = pre ys1 2 := ⟨_, rfl⟩
    have V21p : Arv Z h21 a14 ca14 .int (4 : Int32) (ys2.map Value.int) (.int (0 : Int32)) := by rw [h_ys2]; rw [show pre ys1 2 = ys1.set 3 ((ys1.getD 3 0) + (ys1.getD 2 0)) from rfl, List.map_set]; exact V21
    have l_ys2 : ys2.length = 4 := by rw [h_ys2, show pre ys1 2 = ys1.set 3 ((ys1.getD 3 0) + (ys1.getD 2 0)) from rfl, List.length_set]; exact l_ys1
    refine E_iinc (pc' := 83) (L' := #[.val (.ref b0), .val (.ref b1), .val (.int (3 : Int32)), .val (.ref a14), .val (.int (1 : Int32)), .val (.int (3 : Int32))]) cx st21 (1 : Int32) d1_80 rfl rfl rfl rfl ?_
    refine E_goto (pc' := 61) cx st21 d1_83 (by decide) (by decide) ?_
    refine E_iload (pc' := 63) cx st21 d1_61 rfl rfl ?_
    refine E_iloadN (pc' := 64) cx st21 d1_63 rfl rfl ?_
    refine E_icmp_geY (pc' := 86) cx st21 d1_64 (by decide) (by decide) (by decide) ?_
    refine E_aloadN (pc' := 87) cx st21 d1_86 rfl rfl rfl ?_
    refine E_areturn (t := (.array .int)) cx st21 d1_87 rfl rfl rfl rfl (by decide) (by decide) ?_
    refine ⟨a14, ca14, ys2, rfl, sz_a14, K21, V21p, fun q hq1 hq2 => ?_⟩
    obtain ⟨hq3, hq4⟩ := i32_small (i := q) (n := 4) ⟨hq1, lt_of_le_lit hq2⟩ (by decide)
    rw [h_ys2, h_ys1, h_ys0, h_xs1, h_xs0]
    have f := fin_3_1 ⟨_, hm0⟩ ⟨q.toNatClampNeg, hq3⟩
    rw [← (i32_small (n := 3) hb0 (by decide)).2] at f
    rw [← hq4] at f
    exact f
  · refine E_iloadN (pc' := 1) cx st d1_0 rfl rfl ?_
    refine E_iconst (pc' := 2) cx st (1 : Int32) d1_1 rfl rfl ?_
    refine E_iadd (pc' := 3) cx st d1_2 rfl ?_
    rw [show ((4 : Int32) + (1 : Int32)) = (5 : Int32) from by decide]
    refine E_newP (pc' := 5) (kc' := 1) (ks' := 5) (cap := 5) cx st (hw _ (List.mem_of_getElem? (i := 1) rfl)) d1_3 (by decide) (by decide) (by decide) (by decide) (by decide) (by decide) (by decide) rfl (ad := "[I") (by decide) ?_
    intro T22 h22 ca22 a22 q22 st22 E22 V22 X22
    have g_a22 : n0 ≤ a22 := by rw [q22]; exact Z0
    have ne_b0_a22 : b0 ≠ a22 := by rw [q22]; exact Nat.ne_of_lt VI.lt
    have ne_b1_a22 : b1 ≠ a22 := by rw [q22]; exact Nat.ne_of_lt VO.lt
    have sz_a22 : h0.size ≤ a22 := by rw [q22]; exact (Keep.refl h0 []).1
    have Z22 : n0 ≤ h22.size := Nat.le_trans Z0 E22.1
    have K22 : Keep h0 h22 [] := (Keep.refl h0 []).ext E22
    have V22p : Arv Z h22 a22 ca22 .int (5 : Int32) [(.int (0 : Int32)), (.int (0 : Int32)), (.int (0 : Int32)), (.int (0 : Int32)), (.int (0 : Int32))] (.int (0 : Int32)) := V22.pad (pad_rep [] (.int (0 : Int32)) 5)
    refine E_astoreN (pc' := 6) (L' := #[.val (.ref b0), .val (.ref b1), .val (.int (4 : Int32)), .val (.ref a22), .unset, .unset]) cx st22 d1_5 rfl rfl rfl ?_
    refine E_aloadN (pc' := 7) cx st22 d1_6 rfl rfl rfl ?_
    refine E_ifnonnullY (pc' := 15) cx st22 d1_7 (by decide) (by decide) ?_
    refine E_aloadN (pc' := 16) cx st22 d1_15 rfl rfl rfl ?_
    have V23 : Arv Z h22 b1 kO .int (1 : Int32) [(.int k0)] (.int (0 : Int32)) := (VO.ext E22)
    refine E_arraylength (pc' := 17) cx st22 V23 d1_16 rfl ?_
    refine E_istore (pc' := 19) (L' := #[.val (.ref b0), .val (.ref b1), .val (.int (4 : Int32)), .val (.ref a22), .val (.int (1 : Int32)), .unset]) cx st22 d1_17 rfl rfl ?_
    refine E_iconst (pc' := 20) cx st22 (0 : Int32) d1_19 rfl rfl ?_
    refine E_istore (pc' := 22) (L' := #[.val (.ref b0), .val (.ref b1), .val (.int (4 : Int32)), .val (.ref a22), .val (.int (1 : Int32)), .val (.int (0 : Int32))]) cx st22 d1_20 rfl rfl ?_
    refine E_iload (pc' := 24) cx st22 d1_22 rfl rfl ?_
    refine E_iload (pc' := 26) cx st22 d1_24 rfl rfl ?_
    have l_xs0 : ([0, 0, 0, 0, 0] : List Int32).length = 5 := rfl
    have V24 : Arv Z h22 a22 ca22 .int (5 : Int32) (([0, 0, 0, 0, 0] : List Int32).map Value.int) (.int (0 : Int32)) := V22p
    obtain ⟨xs0, h_xs0⟩ : ∃ z, z = ([0, 0, 0, 0, 0] : List Int32) := ⟨_, rfl⟩
    rw [← h_xs0] at l_xs0 V24
    refine E_icmp_geN (pc' := 29) cx st22 d1_26 rfl (by decide) ?_
    refine E_aloadN (pc' := 30) cx st22 d1_29 rfl rfl rfl ?_
    refine E_aloadN (pc' := 31) cx st22 d1_30 rfl rfl rfl ?_
    refine E_aloadN (pc' := 32) cx st22 d1_31 rfl rfl rfl ?_
    refine E_ifnonnullY (pc' := 40) cx st22 d1_32 (by decide) (by decide) ?_
    refine E_aloadN (pc' := 41) cx st22 d1_40 rfl rfl rfl ?_
    refine E_iload (pc' := 43) cx st22 d1_41 rfl rfl ?_
    refine E_iaload (pc' := 44) (x := k0) cx st22 V23 ⟨by decide, by decide⟩ rfl d1_43 rfl ?_
    have V25 : Arv Z h22 b0 kI .int (3 : Int32) [(.int v0), (.int v1), (.int v2)] (.int (0 : Int32)) := (VI.ext E22)
    refine E_iaload (pc' := 45) (x := ([v0, v1, v2].getD k0.toNatClampNeg 0)) cx st22 V25 hk0 (getD_int [v0, v1, v2] _ 0) d1_44 rfl ?_
    obtain ⟨hs0, hn0⟩ := i32_succ (n := 4) hb0 (by decide)
    have hm0 := (i32_small (n := 4) hb0 (by decide)).1
    refine E_iconst (pc' := 46) cx st22 (1 : Int32) d1_45 rfl rfl ?_
    refine E_iadd (pc' := 47) cx st22 d1_46 rfl ?_
    refine E_dup2 (pc' := 48) cx st22 d1_47 rfl rfl rfl ?_
    refine E_iaload (pc' := 49) (x := (xs0.getD (([v0, v1, v2].getD k0.toNatClampNeg 0) + (1 : Int32)).toNatClampNeg 0)) cx st22 V24 hs0 (getD_int xs0 _ 0) d1_48 rfl ?_
    refine E_iconst (pc' := 50) cx st22 (1 : Int32) d1_49 rfl rfl ?_
    refine E_iadd (pc' := 51) cx st22 d1_50 rfl ?_
    refine E_iastore (pc' := 52) (i := (([v0, v1, v2].getD k0.toNatClampNeg 0) + 1).toNatClampNeg) cx st22 V24 hs0 rfl (by rw [List.length_map, l_xs0, hn0]; omega) g_a22 d1_51 rfl ?_
    intro T26 h26 st26 W26 V26
    have Z26 : n0 ≤ h26.size := Nat.le_trans Z22 (Keep.of_wr W26).1
    have K26 : Keep h0 h26 [] := K22.wr W26 (Or.inr sz_a22)
    obtain ⟨xs1, h_xs1⟩ : ∃ z, z = inc xs0 ([v0, v1, v2].getD k0.toNatClampNeg 0) := ⟨_, rfl⟩
    have V26p : Arv Z h26 a22 ca22 .int (5 : Int32) (xs1.map Value.int) (.int (0 : Int32)) := by rw [h_xs1]; rw [show inc xs0 ([v0, v1, v2].getD k0.toNatClampNeg 0) = xs0.set (([v0, v1, v2].getD k0.toNatClampNeg 0) + 1).toNatClampNeg ((xs0.getD (([v0, v1, v2].getD k0.toNatClampNeg 0) + (1 : Int32)).toNatClampNeg 0) + (1 : Int32)) from rfl, List.map_set]; exact V26
    have l_xs1 : xs1.length = 5 := by rw [h_xs1, show inc xs0 ([v0, v1, v2].getD k0.toNatClampNeg 0) = xs0.set (([v0, v1, v2].getD k0.toNatClampNeg 0) + 1).toNatClampNeg ((xs0.getD (([v0, v1, v2].getD k0.toNatClampNeg 0) + (1 : Int32)).toNatClampNeg 0) + (1 : Int32)) from rfl, List.length_set]; exact l_xs0
    refine E_iinc (pc' := 55) (L' := #[.val (.ref b0), .val (.ref b1), .val (.int (4 : Int32)), .val (.ref a22), .val (.int (1 : Int32)), .val (.int (1 : Int32))]) cx st26 (1 : Int32) d1_52 rfl rfl rfl rfl ?_
    refine E_goto (pc' := 22) cx st26 d1_55 (by decide) (by decide) ?_
    refine E_iload (pc' := 24) cx st26 d1_22 rfl rfl ?_
    refine E_iload (pc' := 26) cx st26 d1_24 rfl rfl ?_
    refine E_icmp_geY (pc' := 58) cx st26 d1_26 (by decide) (by decide) (by decide) ?_
    refine E_iconst (pc' := 59) cx st26 (0 : Int32) d1_58 rfl rfl ?_
    refine E_istore (pc' := 61) (L' := #[.val (.ref b0), .val (.ref b1), .val (.int (4 : Int32)), .val (.ref a22), .val (.int (1 : Int32)), .val (.int (0 : Int32))]) cx st26 d1_59 rfl rfl ?_
    refine E_iload (pc' := 63) cx st26 d1_61 rfl rfl ?_
    refine E_iloadN (pc' := 64) cx st26 d1_63 rfl rfl ?_
    refine E_icmp_geN (pc' := 67) cx st26 d1_64 rfl (by decide) ?_
    refine E_aloadN (pc' := 68) cx st26 d1_67 rfl rfl rfl ?_
    refine E_iload (pc' := 70) cx st26 d1_68 rfl rfl ?_
    refine E_iconst (pc' := 71) cx st26 (1 : Int32) d1_70 rfl rfl ?_
    refine E_iadd (pc' := 72) cx st26 d1_71 rfl ?_
    rw [show ((0 : Int32) + (1 : Int32)) = (1 : Int32) from by decide]
    refine E_dup2 (pc' := 73) cx st26 d1_72 rfl rfl rfl ?_
    refine E_iaload (pc' := 74) (x := (xs1.getD 1 0)) cx st26 V26p ⟨by decide, by decide⟩ (getD_int xs1 _ 0) d1_73 rfl ?_
    refine E_aloadN (pc' := 75) cx st26 d1_74 rfl rfl rfl ?_
    refine E_iload (pc' := 77) cx st26 d1_75 rfl rfl ?_
    refine E_iaload (pc' := 78) (x := (xs1.getD 0 0)) cx st26 V26p ⟨by decide, by decide⟩ (getD_int xs1 _ 0) d1_77 rfl ?_
    refine E_iadd (pc' := 79) cx st26 d1_78 rfl ?_
    refine E_iastore (pc' := 80) (i := 1) cx st26 V26p ⟨by decide, by decide⟩ rfl (by rw [List.length_map, l_xs1]; decide) g_a22 d1_79 rfl ?_
    intro T27 h27 st27 W27 V27
    have Z27 : n0 ≤ h27.size := Nat.le_trans Z26 (Keep.of_wr W27).1
    have K27 : Keep h0 h27 [] := K26.wr W27 (Or.inr sz_a22)
    obtain ⟨ys0, h_ys0⟩ : ∃ z, z = pre xs1 0 := ⟨_, rfl⟩
    have V27p : Arv Z h27 a22 ca22 .int (5 : Int32) (ys0.map Value.int) (.int (0 : Int32)) := by rw [h_ys0]; rw [show pre xs1 0 = xs1.set 1 ((xs1.getD 1 0) + (xs1.getD 0 0)) from rfl, List.map_set]; exact V27
    have l_ys0 : ys0.length = 5 := by rw [h_ys0, show pre xs1 0 = xs1.set 1 ((xs1.getD 1 0) + (xs1.getD 0 0)) from rfl, List.length_set]; exact l_xs1
    refine E_iinc (pc' := 83) (L' := #[.val (.ref b0), .val (.ref b1), .val (.int (4 : Int32)), .val (.ref a22), .val (.int (1 : Int32)), .val (.int (1 : Int32))]) cx st27 (1 : Int32) d1_80 rfl rfl rfl rfl ?_
    refine E_goto (pc' := 61) cx st27 d1_83 (by decide) (by decide) ?_
    refine E_iload (pc' := 63) cx st27 d1_61 rfl rfl ?_
    refine E_iloadN (pc' := 64) cx st27 d1_63 rfl rfl ?_
    refine E_icmp_geN (pc' := 67) cx st27 d1_64 rfl (by decide) ?_
    refine E_aloadN (pc' := 68) cx st27 d1_67 rfl rfl rfl ?_
    refine E_iload (pc' := 70) cx st27 d1_68 rfl rfl ?_
    refine E_iconst (pc' := 71) cx st27 (1 : Int32) d1_70 rfl rfl ?_
    refine E_iadd (pc' := 72) cx st27 d1_71 rfl ?_
    rw [show ((1 : Int32) + (1 : Int32)) = (2 : Int32) from by decide]
    refine E_dup2 (pc' := 73) cx st27 d1_72 rfl rfl rfl ?_
    refine E_iaload (pc' := 74) (x := (ys0.getD 2 0)) cx st27 V27p ⟨by decide, by decide⟩ (getD_int ys0 _ 0) d1_73 rfl ?_
    refine E_aloadN (pc' := 75) cx st27 d1_74 rfl rfl rfl ?_
    refine E_iload (pc' := 77) cx st27 d1_75 rfl rfl ?_
    refine E_iaload (pc' := 78) (x := (ys0.getD 1 0)) cx st27 V27p ⟨by decide, by decide⟩ (getD_int ys0 _ 0) d1_77 rfl ?_
    refine E_iadd (pc' := 79) cx st27 d1_78 rfl ?_
    refine E_iastore (pc' := 80) (i := 2) cx st27 V27p ⟨by decide, by decide⟩ rfl (by rw [List.length_map, l_ys0]; decide) g_a22 d1_79 rfl ?_
    intro T28 h28 st28 W28 V28
    have Z28 : n0 ≤ h28.size := Nat.le_trans Z27 (Keep.of_wr W28).1
    have K28 : Keep h0 h28 [] := K27.wr W28 (Or.inr sz_a22)
    obtain ⟨ys1, h_ys1⟩ : ∃ z, z = pre ys0 1 := ⟨_, rfl⟩
    have V28p : Arv Z h28 a22 ca22 .int (5 : Int32) (ys1.map Value.int) (.int (0 : Int32)) := by rw [h_ys1]; rw [show pre ys0 1 = ys0.set 2 ((ys0.getD 2 0) + (ys0.getD 1 0)) from rfl, List.map_set]; exact V28
    have l_ys1 : ys1.length = 5 := by rw [h_ys1, show pre ys0 1 = ys0.set 2 ((ys0.getD 2 0) + (ys0.getD 1 0)) from rfl, List.length_set]; exact l_ys0
    refine E_iinc (pc' := 83) (L' := #[.val (.ref b0), .val (.ref b1), .val (.int (4 : Int32)), .val (.ref a22), .val (.int (1 : Int32)), .val (.int (2 : Int32))]) cx st28 (1 : Int32) d1_80 rfl rfl rfl rfl ?_
    refine E_goto (pc' := 61) cx st28 d1_83 (by decide) (by decide) ?_
    refine E_iload (pc' := 63) cx st28 d1_61 rfl rfl ?_
    refine E_iloadN (pc' := 64) cx st28 d1_63 rfl rfl ?_
    refine E_icmp_geN (pc' := 67) cx st28 d1_64 rfl (by decide) ?_
    refine E_aloadN (pc' := 68) cx st28 d1_67 rfl rfl rfl ?_
    refine E_iload (pc' := 70) cx st28 d1_68 rfl rfl ?_
    refine E_iconst (pc' := 71) cx st28 (1 : Int32) d1_70 rfl rfl ?_
    refine E_iadd (pc' := 72) cx st28 d1_71 rfl ?_
    rw [show ((2 : Int32) + (1 : Int32)) = (3 : Int32) from by decide]
    refine E_dup2 (pc' := 73) cx st28 d1_72 rfl rfl rfl ?_
    refine E_iaload (pc' := 74) (x := (ys1.getD 3 0)) cx st28 V28p ⟨by decide, by decide⟩ (getD_int ys1 _ 0) d1_73 rfl ?_
    refine E_aloadN (pc' := 75) cx st28 d1_74 rfl rfl rfl ?_
    refine E_iload (pc' := 77) cx st28 d1_75 rfl rfl ?_
    refine E_iaload (pc' := 78) (x := (ys1.getD 2 0)) cx st28 V28p ⟨by decide, by decide⟩ (getD_int ys1 _ 0) d1_77 rfl ?_
    refine E_iadd (pc' := 79) cx st28 d1_78 rfl ?_
    refine E_iastore (pc' := 80) (i := 3) cx st28 V28p ⟨by decide, by decide⟩ rfl (by rw [List.length_map, l_ys1]; decide) g_a22 d1_79 rfl ?_
    intro T29 h29 st29 W29 V29
    have Z29 : n0 ≤ h29.size := Nat.le_trans Z28 (Keep.of_wr W29).1
    have K29 : Keep h0 h29 [] := K28.wr W29 (Or.inr sz_a22)
    obtain ⟨ys2, h_ys2⟩ : ∃ z, z = pre ys1 2 := ⟨_, rfl⟩
    have V29p : Arv Z h29 a22 ca22 .int (5 : Int32) (ys2.map Value.int) (.int (0 : Int32)) := by rw [h_ys2]; rw [show pre ys1 2 = ys1.set 3 ((ys1.getD 3 0) + (ys1.getD 2 0)) from rfl, List.map_set]; exact V29
    have l_ys2 : ys2.length = 5 := by rw [h_ys2, show pre ys1 2 = ys1.set 3 ((ys1.getD 3 0) + (ys1.getD 2 0)) from rfl, List.length_set]; exact l_ys1
    refine E_iinc (pc' := 83) (L' := #[.val (.ref b0), .val (.ref b1), .val (.int (4 : Int32)), .val (.ref a22), .val (.int (1 : Int32)), .val (.int (3 : Int32))]) cx st29 (1 : Int32) d1_80 rfl rfl rfl rfl ?_
    refine E_goto (pc' := 61) cx st29 d1_83 (by decide) (by decide) ?_
    refine E_iload (pc' := 63) cx st29 d1_61 rfl rfl ?_
    refine E_iloadN (pc' := 64) cx st29 d1_63 rfl rfl ?_
    refine E_icmp_geN (pc' := 67) cx st29 d1_64 rfl (by decide) ?_
    refine E_aloadN (pc' := 68) cx st29 d1_67 rfl rfl rfl ?_
    refine E_iload (pc' := 70) cx st29 d1_68 rfl rfl ?_
    refine E_iconst (pc' := 71) cx st29 (1 : Int32) d1_70 rfl rfl ?_
    refine E_iadd (pc' := 72) cx st29 d1_71 rfl ?_
    rw [show ((3 : Int32) + (1 : Int32)) = (4 : Int32) from by decide]
    refine E_dup2 (pc' := 73) cx st29 d1_72 rfl rfl rfl ?_
    refine E_iaload (pc' := 74) (x := (ys2.getD 4 0)) cx st29 V29p ⟨by decide, by decide⟩ (getD_int ys2 _ 0) d1_73 rfl ?_
    refine E_aloadN (pc' := 75) cx st29 d1_74 rfl rfl rfl ?_
    refine E_iload (pc' := 77) cx st29 d1_75 rfl rfl ?_
    refine E_iaload (pc' := 78) (x := (ys2.getD 3 0)) cx st29 V29p ⟨by decide, by decide⟩ (getD_int ys2 _ 0) d1_77 rfl ?_
    refine E_iadd (pc' := 79) cx st29 d1_78 rfl ?_
    refine E_iastore (pc' := 80) (i := 4) cx st29 V29p ⟨by decide, by decide⟩ rfl (by rw [List.length_map, l_ys2]; decide) g_a22 d1_79 rfl ?_
    intro T30 h30 st30 W30 V30
    have Z30 : n0 ≤ h30.size := Nat.le_trans Z29 (Keep.of_wr W30).1
    have K30 : Keep h0 h30 [] := K29.wr W30 (Or.inr sz_a22)
    obtain ⟨ys3, h_ys3⟩ : ∃ z, z = pre ys2 3 := ⟨_, rfl⟩
    have V30p : Arv Z h30 a22 ca22 .int (5 : Int32) (ys3.map Value.int) (.int (0 : Int32)) := by rw [h_ys3]; rw [show pre ys2 3 = ys2.set 4 ((ys2.getD 4 0) + (ys2.getD 3 0)) from rfl, List.map_set]; exact V30
    have l_ys3 : ys3.length = 5 := by rw [h_ys3, show pre ys2 3 = ys2.set 4 ((ys2.getD 4 0) + (ys2.getD 3 0)) from rfl, List.length_set]; exact l_ys2
    refine E_iinc (pc' := 83) (L' := #[.val (.ref b0), .val (.ref b1), .val (.int (4 : Int32)), .val (.ref a22), .val (.int (1 : Int32)), .val (.int (4 : Int32))]) cx st30 (1 : Int32) d1_80 rfl rfl rfl rfl ?_
    refine E_goto (pc' := 61) cx st30 d1_83 (by decide) (by decide) ?_
    refine E_iload (pc' := 63) cx st30 d1_61 rfl rfl ?_
    refine E_iloadN (pc' := 64) cx st30 d1_63 rfl rfl ?_
    refine E_icmp_geY (pc' := 86) cx st30 d1_64 (by decide) (by decide) (by decide) ?_
    refine E_aloadN (pc' := 87) cx st30 d1_86 rfl rfl rfl ?_
    refine E_areturn (t := (.array .int)) cx st30 d1_87 rfl rfl rfl rfl (by decide) (by decide) ?_
    refine ⟨a22, ca22, ys3, rfl, sz_a22, K30, V30p, fun q hq1 hq2 => ?_⟩
    obtain ⟨hq3, hq4⟩ := i32_small (i := q) (n := 5) ⟨hq1, lt_of_le_lit hq2⟩ (by decide)
    rw [h_ys3, h_ys2, h_ys1, h_ys0, h_xs1, h_xs0]
    have f := fin_4_1 ⟨_, hm0⟩ ⟨q.toNatClampNeg, hq3⟩
    rw [← (i32_small (n := 4) hb0 (by decide)).2] at f
    rw [← hq4] at f
    exact f
theorem ef_1m3 (m : MethodId) (x0 : Addr) (x1 : Addr) (x2 : Int32) : entryFrame m #[(.ref x0), (.ref x1), (.int x2)] 6 = mkF m 0 #[.val (.ref x0), .val (.ref x1), .val (.int x2), .unset, .unset, .unset] [] := by first | (simp [entryFrame, mkF, argsToLocals, Value.category]; done) | rfl
set_option maxRecDepth 65536 in
set_option maxHeartbeats 40000000 in
theorem rm1m3 (l : Launch) (Z : State) (a0 : Array Value) (hw : ∀ d ∈ tables_1, d.before a0 Z = true) (b0 : Addr) (b1 : Addr) (P : Int32) (v0 : Int32) (v1 : Int32) (v2 : Int32) (k0 : Int32) (k1 : Int32) (k2 : Int32) (h0 : Heap) (n0 : Nat) (Z0 : n0 ≤ h0.size) (kI : ClassId) (VI : Arv Z h0 b0 kI .int (3 : Int32) [(.int v0), (.int v1), (.int v2)] (.int (0 : Int32))) (hP : P = 1 ∨ P = 2 ∨ P = 3 ∨ P = 4) (kO : ClassId) (VO : Arv Z h0 b1 kO .int (3 : Int32) [(.int k0), (.int k1), (.int k2)] (.int (0 : Int32))) (hk0 : ¬ k0 < 0 ∧ k0 < 3) (hb0 : ¬ ([v0, v1, v2].getD k0.toNatClampNeg 0) < 0 ∧ ([v0, v1, v2].getD k0.toNatClampNeg 0) < P) (hk1 : ¬ k1 < 0 ∧ k1 < 3) (hb1 : ¬ ([v0, v1, v2].getD k1.toNatClampNeg 0) < 0 ∧ ([v0, v1, v2].getD k1.toNatClampNeg 0) < P) (hk2 : ¬ k2 < 0 ∧ k2 < 3) (hb2 : ¬ ([v0, v1, v2].getD k2.toNatClampNeg 0) < 0 ∧ ([v0, v1, v2].getD k2.toNatClampNeg 0) < P) :
    Con l Z (⟨"org/querne/rdf/CountingSort", "starts", "([I[II)[I"⟩ : MethodName) prog_79_method_3_code 6 (some (.array .int)) ({ frames := 0, cells := 1, slots := 5, locals := 0 } : Room) #[(.ref b0), (.ref b1), (.int P)] h0 n0 (fun v h => ∃ (a : Addr) (k : ClassId) (rs : List Int32), v = some (.ref a) ∧ h0.size ≤ a ∧ Keep h0 h [] ∧ Arv Z h a k .int (P + 1) (rs.map Value.int) (.int (0 : Int32)) ∧ ∀ q : Int32, ¬ q < 0 → ¬ P < q → rs.getD q.toNatClampNeg 0 = bel q 3 ([v0, v1, v2].getD k0.toNatClampNeg 0) ([v0, v1, v2].getD k1.toNatClampNeg 0) ([v0, v1, v2].getD k2.toNatClampNeg 0)) := by
  refine Con.of (own := "org/querne/rdf/CountingSort") (name := "starts") (plainFor_of_name pn_1) (fun m => ef_1m3 m b0 b1 P) rfl rfl ?_
  intro p e s m below meth c T F S cx st
  rcases hP with rfl | rfl | rfl | rfl
  · refine E_iloadN (pc' := 1) cx st d1_0 rfl rfl ?_
    refine E_iconst (pc' := 2) cx st (1 : Int32) d1_1 rfl rfl ?_
    refine E_iadd (pc' := 3) cx st d1_2 rfl ?_
    rw [show ((1 : Int32) + (1 : Int32)) = (2 : Int32) from by decide]
    refine E_newP (pc' := 5) (kc' := 1) (ks' := 2) (cap := 2) cx st (hw _ (List.mem_of_getElem? (i := 1) rfl)) d1_3 (by decide) (by decide) (by decide) (by decide) (by decide) (by decide) (by decide) rfl (ad := "[I") (by decide) ?_
    intro T1 h1 ca1 a1 q1 st1 E1 V1 X1
    have g_a1 : n0 ≤ a1 := by rw [q1]; exact Z0
    have ne_b0_a1 : b0 ≠ a1 := by rw [q1]; exact Nat.ne_of_lt VI.lt
    have ne_b1_a1 : b1 ≠ a1 := by rw [q1]; exact Nat.ne_of_lt VO.lt
    have sz_a1 : h0.size ≤ a1 := by rw [q1]; exact (Keep.refl h0 []).1
    have Z1 : n0 ≤ h1.size := Nat.le_trans Z0 E1.1
    have K1 : Keep h0 h1 [] := (Keep.refl h0 []).ext E1
    have V1p : Arv Z h1 a1 ca1 .int (2 : Int32) [(.int (0 : Int32)), (.int (0 : Int32))] (.int (0 : Int32)) := V1.pad (pad_rep [] (.int (0 : Int32)) 2)
    refine E_astoreN (pc' := 6) (L' := #[.val (.ref b0), .val (.ref b1), .val (.int (1 : Int32)), .val (.ref a1), .unset, .unset]) cx st1 d1_5 rfl rfl rfl ?_
    refine E_aloadN (pc' := 7) cx st1 d1_6 rfl rfl rfl ?_
    refine E_ifnonnullY (pc' := 15) cx st1 d1_7 (by decide) (by decide) ?_
    refine E_aloadN (pc' := 16) cx st1 d1_15 rfl rfl rfl ?_
    have V2 : Arv Z h1 b1 kO .int (3 : Int32) [(.int k0), (.int k1), (.int k2)] (.int (0 : Int32)) := (VO.ext E1)
    refine E_arraylength (pc' := 17) cx st1 V2 d1_16 rfl ?_
    refine E_istore (pc' := 19) (L' := #[.val (.ref b0), .val (.ref b1), .val (.int (1 : Int32)), .val (.ref a1), .val (.int (3 : Int32)), .unset]) cx st1 d1_17 rfl rfl ?_
    refine E_iconst (pc' := 20) cx st1 (0 : Int32) d1_19 rfl rfl ?_
    refine E_istore (pc' := 22) (L' := #[.val (.ref b0), .val (.ref b1), .val (.int (1 : Int32)), .val (.ref a1), .val (.int (3 : Int32)), .val (.int (0 : Int32))]) cx st1 d1_20 rfl rfl ?_
    refine E_iload (pc' := 24) cx st1 d1_22 rfl rfl ?_
    refine E_iload (pc' := 26) cx st1 d1_24 rfl rfl ?_
    have l_xs0 : ([0, 0] : List Int32).length = 2 := rfl
    have V3 : Arv Z h1 a1 ca1 .int (2 : Int32) (([0, 0] : List Int32).map Value.int) (.int (0 : Int32)) := V1p
    obtain ⟨xs0, h_xs0⟩ : ∃ z, z = ([0, 0] : List Int32) := ⟨_, rfl⟩
    rw [← h_xs0] at l_xs0 V3
    refine E_icmp_geN (pc' := 29) cx st1 d1_26 rfl (by decide) ?_
    refine E_aloadN (pc' := 30) cx st1 d1_29 rfl rfl rfl ?_
    refine E_aloadN (pc' := 31) cx st1 d1_30 rfl rfl rfl ?_
    refine E_aloadN (pc' := 32) cx st1 d1_31 rfl rfl rfl ?_
    refine E_ifnonnullY (pc' := 40) cx st1 d1_32 (by decide) (by decide) ?_
    refine E_aloadN (pc' := 41) cx st1 d1_40 rfl rfl rfl ?_
    refine E_iload (pc' := 43) cx st1 d1_41 rfl rfl ?_
    refine E_iaload (pc' := 44) (x := k0) cx st1 V2 ⟨by decide, by decide⟩ rfl d1_43 rfl ?_
    have V4 : Arv Z h1 b0 kI .int (3 : Int32) [(.int v0), (.int v1), (.int v2)] (.int (0 : Int32)) := (VI.ext E1)
    refine E_iaload (pc' := 45) (x := ([v0, v1, v2].getD k0.toNatClampNeg 0)) cx st1 V4 hk0 (getD_int [v0, v1, v2] _ 0) d1_44 rfl ?_
    obtain ⟨hs0, hn0⟩ := i32_succ (n := 1) hb0 (by decide)
    have hm0 := (i32_small (n := 1) hb0 (by decide)).1
    refine E_iconst (pc' := 46) cx st1 (1 : Int32) d1_45 rfl rfl ?_
    refine E_iadd (pc' := 47) cx st1 d1_46 rfl ?_
    refine E_dup2 (pc' := 48) cx st1 d1_47 rfl rfl rfl ?_
    refine E_iaload (pc' := 49) (x := (xs0.getD (([v0, v1, v2].getD k0.toNatClampNeg 0) + (1 : Int32)).toNatClampNeg 0)) cx st1 V3 hs0 (getD_int xs0 _ 0) d1_48 rfl ?_
    refine E_iconst (pc' := 50) cx st1 (1 : Int32) d1_49 rfl rfl ?_
    refine E_iadd (pc' := 51) cx st1 d1_50 rfl ?_
    refine E_iastore (pc' := 52) (i := (([v0, v1, v2].getD k0.toNatClampNeg 0) + 1).toNatClampNeg) cx st1 V3 hs0 rfl (by rw [List.length_map, l_xs0, hn0]; omega) g_a1 d1_51 rfl ?_
    intro T5 h5 st5 W5 V5
    have Z5 : n0 ≤ h5.size := Nat.le_trans Z1 (Keep.of_wr W5).1
    have K5 : Keep h0 h5 [] := K1.wr W5 (Or.inr sz_a1)
    obtain ⟨xs1, h_xs1⟩ : ∃ z, z = inc xs0 ([v0, v1, v2].getD k0.toNatClampNeg 0) := ⟨_, rfl⟩
    have V5p : Arv Z h5 a1 ca1 .int (2 : Int32) (xs1.map Value.int) (.int (0 : Int32)) := by rw [h_xs1]; rw [show inc xs0 ([v0, v1, v2].getD k0.toNatClampNeg 0) = xs0.set (([v0, v1, v2].getD k0.toNatClampNeg 0) + 1).toNatClampNeg ((xs0.getD (([v0, v1, v2].getD k0.toNatClampNeg 0) + (1 : Int32)).toNatClampNeg 0) + (1 : Int32)) from rfl, List.map_set]; exact V5
    have l_xs1 : xs1.length = 2 := by rw [h_xs1, show inc xs0 ([v0, v1, v2].getD k0.toNatClampNeg 0) = xs0.set (([v0, v1, v2].getD k0.toNatClampNeg 0) + 1).toNatClampNeg ((xs0.getD (([v0, v1, v2].getD k0.toNatClampNeg 0) + (1 : Int32)).toNatClampNeg 0) + (1 : Int32)) from rfl, List.length_set]; exact l_xs0
    refine E_iinc (pc' := 55) (L' := #[.val (.ref b0), .val (.ref b1), .val (.int (1 : Int32)), .val (.ref a1), .val (.int (3 : Int32)), .val (.int (1 : Int32))]) cx st5 (1 : Int32) d1_52 rfl rfl rfl rfl ?_
    refine E_goto (pc' := 22) cx st5 d1_55 (by decide) (by decide) ?_
    refine E_iload (pc' := 24) cx st5 d1_22 rfl rfl ?_
    refine E_iload (pc' := 26) cx st5 d1_24 rfl rfl ?_
    refine E_icmp_geN (pc' := 29) cx st5 d1_26 rfl (by decide) ?_
    refine E_aloadN (pc' := 30) cx st5 d1_29 rfl rfl rfl ?_
    refine E_aloadN (pc' := 31) cx st5 d1_30 rfl rfl rfl ?_
    refine E_aloadN (pc' := 32) cx st5 d1_31 rfl rfl rfl ?_
    refine E_ifnonnullY (pc' := 40) cx st5 d1_32 (by decide) (by decide) ?_
    refine E_aloadN (pc' := 41) cx st5 d1_40 rfl rfl rfl ?_
    refine E_iload (pc' := 43) cx st5 d1_41 rfl rfl ?_
    have V6 : Arv Z h5 b1 kO .int (3 : Int32) [(.int k0), (.int k1), (.int k2)] (.int (0 : Int32)) := (V2.other W5 ne_b1_a1)
    refine E_iaload (pc' := 44) (x := k1) cx st5 V6 ⟨by decide, by decide⟩ rfl d1_43 rfl ?_
    have V7 : Arv Z h5 b0 kI .int (3 : Int32) [(.int v0), (.int v1), (.int v2)] (.int (0 : Int32)) := (V4.other W5 ne_b0_a1)
    refine E_iaload (pc' := 45) (x := ([v0, v1, v2].getD k1.toNatClampNeg 0)) cx st5 V7 hk1 (getD_int [v0, v1, v2] _ 0) d1_44 rfl ?_
    obtain ⟨hs1, hn1⟩ := i32_succ (n := 1) hb1 (by decide)
    have hm1 := (i32_small (n := 1) hb1 (by decide)).1
    refine E_iconst (pc' := 46) cx st5 (1 : Int32) d1_45 rfl rfl ?_
    refine E_iadd (pc' := 47) cx st5 d1_46 rfl ?_
    refine E_dup2 (pc' := 48) cx st5 d1_47 rfl rfl rfl ?_
    refine E_iaload (pc' := 49) (x := (xs1.getD (([v0, v1, v2].getD k1.toNatClampNeg 0) + (1 : Int32)).toNatClampNeg 0)) cx st5 V5p hs1 (getD_int xs1 _ 0) d1_48 rfl ?_
    refine E_iconst (pc' := 50) cx st5 (1 : Int32) d1_49 rfl rfl ?_
    refine E_iadd (pc' := 51) cx st5 d1_50 rfl ?_
    refine E_iastore (pc' := 52) (i := (([v0, v1, v2].getD k1.toNatClampNeg 0) + 1).toNatClampNeg) cx st5 V5p hs1 rfl (by rw [List.length_map, l_xs1, hn1]; omega) g_a1 d1_51 rfl ?_
    intro T8 h8 st8 W8 V8
    have Z8 : n0 ≤ h8.size := Nat.le_trans Z5 (Keep.of_wr W8).1
    have K8 : Keep h0 h8 [] := K5.wr W8 (Or.inr sz_a1)
    obtain ⟨xs2, h_xs2⟩ : ∃ z, z = inc xs1 ([v0, v1, v2].getD k1.toNatClampNeg 0) := ⟨_, rfl⟩
    have V8p : Arv Z h8 a1 ca1 .int (2 : Int32) (xs2.map Value.int) (.int (0 : Int32)) := by rw [h_xs2]; rw [show inc xs1 ([v0, v1, v2].getD k1.toNatClampNeg 0) = xs1.set (([v0, v1, v2].getD k1.toNatClampNeg 0) + 1).toNatClampNeg ((xs1.getD (([v0, v1, v2].getD k1.toNatClampNeg 0) + (1 : Int32)).toNatClampNeg 0) + (1 : Int32)) from rfl, List.map_set]; exact V8
    have l_xs2 : xs2.length = 2 := by rw [h_xs2, show inc xs1 ([v0, v1, v2].getD k1.toNatClampNeg 0) = xs1.set (([v0, v1, v2].getD k1.toNatClampNeg 0) + 1).toNatClampNeg ((xs1.getD (([v0, v1, v2].getD k1.toNatClampNeg 0) + (1 : Int32)).toNatClampNeg 0) + (1 : Int32)) from rfl, List.length_set]; exact l_xs1
    refine E_iinc (pc' := 55) (L' := #[.val (.ref b0), .val (.ref b1), .val (.int (1 : Int32)), .val (.ref a1), .val (.int (3 : Int32)), .val (.int (2 : Int32))]) cx st8 (1 : Int32) d1_52 rfl rfl rfl rfl ?_
    refine E_goto (pc' := 22) cx st8 d1_55 (by decide) (by decide) ?_
    refine E_iload (pc' := 24) cx st8 d1_22 rfl rfl ?_
    refine E_iload (pc' := 26) cx st8 d1_24 rfl rfl ?_
    refine E_icmp_geN (pc' := 29) cx st8 d1_26 rfl (by decide) ?_
    refine E_aloadN (pc' := 30) cx st8 d1_29 rfl rfl rfl ?_
    refine E_aloadN (pc' := 31) cx st8 d1_30 rfl rfl rfl ?_
    refine E_aloadN (pc' := 32) cx st8 d1_31 rfl rfl rfl ?_
    refine E_ifnonnullY (pc' := 40) cx st8 d1_32 (by decide) (by decide) ?_
    refine E_aloadN (pc' := 41) cx st8 d1_40 rfl rfl rfl ?_
    refine E_iload (pc' := 43) cx st8 d1_41 rfl rfl ?_
    have V9 : Arv Z h8 b1 kO .int (3 : Int32) [(.int k0), (.int k1), (.int k2)] (.int (0 : Int32)) := (V6.other W8 ne_b1_a1)
    refine E_iaload (pc' := 44) (x := k2) cx st8 V9 ⟨by decide, by decide⟩ rfl d1_43 rfl ?_
    have V10 : Arv Z h8 b0 kI .int (3 : Int32) [(.int v0), (.int v1), (.int v2)] (.int (0 : Int32)) := (V7.other W8 ne_b0_a1)
    refine E_iaload (pc' := 45) (x := ([v0, v1, v2].getD k2.toNatClampNeg 0)) cx st8 V10 hk2 (getD_int [v0, v1, v2] _ 0) d1_44 rfl ?_
    obtain ⟨hs2, hn2⟩ := i32_succ (n := 1) hb2 (by decide)
    have hm2 := (i32_small (n := 1) hb2 (by decide)).1
    refine E_iconst (pc' := 46) cx st8 (1 : Int32) d1_45 rfl rfl ?_
    refine E_iadd (pc' := 47) cx st8 d1_46 rfl ?_
    refine E_dup2 (pc' := 48) cx st8 d1_47 rfl rfl rfl ?_
    refine E_iaload (pc' := 49) (x := (xs2.getD (([v0, v1, v2].getD k2.toNatClampNeg 0) + (1 : Int32)).toNatClampNeg 0)) cx st8 V8p hs2 (getD_int xs2 _ 0) d1_48 rfl ?_
    refine E_iconst (pc' := 50) cx st8 (1 : Int32) d1_49 rfl rfl ?_
    refine E_iadd (pc' := 51) cx st8 d1_50 rfl ?_
    refine E_iastore (pc' := 52) (i := (([v0, v1, v2].getD k2.toNatClampNeg 0) + 1).toNatClampNeg) cx st8 V8p hs2 rfl (by rw [List.length_map, l_xs2, hn2]; omega) g_a1 d1_51 rfl ?_
    intro T11 h11 st11 W11 V11
    have Z11 : n0 ≤ h11.size := Nat.le_trans Z8 (Keep.of_wr W11).1
    have K11 : Keep h0 h11 [] := K8.wr W11 (Or.inr sz_a1)
    obtain ⟨xs3, h_xs3⟩ : ∃ z, z = inc xs2 ([v0, v1, v2].getD k2.toNatClampNeg 0) := ⟨_, rfl⟩
    have V11p : Arv Z h11 a1 ca1 .int (2 : Int32) (xs3.map Value.int) (.int (0 : Int32)) := by rw [h_xs3]; rw [show inc xs2 ([v0, v1, v2].getD k2.toNatClampNeg 0) = xs2.set (([v0, v1, v2].getD k2.toNatClampNeg 0) + 1).toNatClampNeg ((xs2.getD (([v0, v1, v2].getD k2.toNatClampNeg 0) + (1 : Int32)).toNatClampNeg 0) + (1 : Int32)) from rfl, List.map_set]; exact V11
    have l_xs3 : xs3.length = 2 := by rw [h_xs3, show inc xs2 ([v0, v1, v2].getD k2.toNatClampNeg 0) = xs2.set (([v0, v1, v2].getD k2.toNatClampNeg 0) + 1).toNatClampNeg ((xs2.getD (([v0, v1, v2].getD k2.toNatClampNeg 0) + (1 : Int32)).toNatClampNeg 0) + (1 : Int32)) from rfl, List.length_set]; exact l_xs2
    refine E_iinc (pc' := 55) (L' := #[.val (.ref b0), .val (.ref b1), .val (.int (1 : Int32)), .val (.ref a1), .val (.int (3 : Int32)), .val (.int (3 : Int32))]) cx st11 (1 : Int32) d1_52 rfl rfl rfl rfl ?_
    refine E_goto (pc' := 22) cx st11 d1_55 (by decide) (by decide) ?_
    refine E_iload (pc' := 24) cx st11 d1_22 rfl rfl ?_
    refine E_iload (pc' := 26) cx st11 d1_24 rfl rfl ?_
    refine E_icmp_geY (pc' := 58) cx st11 d1_26 (by decide) (by decide) (by decide) ?_
    refine E_iconst (pc' := 59) cx st11 (0 : Int32) d1_58 rfl rfl ?_
    refine E_istore (pc' := 61) (L' := #[.val (.ref b0), .val (.ref b1), .val (.int (1 : Int32)), .val (.ref a1), .val (.int (3 : Int32)), .val (.int (0 : Int32))]) cx st11 d1_59 rfl rfl ?_
    refine E_iload (pc' := 63) cx st11 d1_61 rfl rfl ?_
    refine E_iloadN (pc' := 64) cx st11 d1_63 rfl rfl ?_
    refine E_icmp_geN (pc' := 67) cx st11 d1_64 rfl (by decide) ?_
    refine E_aloadN (pc' := 68) cx st11 d1_67 rfl rfl rfl ?_
    refine E_iload (pc' := 70) cx st11 d1_68 rfl rfl ?_
    refine E_iconst (pc' := 71) cx st11 (1 : Int32) d1_70 rfl rfl ?_
    refine E_iadd (pc' := 72) cx st11 d1_71 rfl ?_
    rw [show ((0 : Int32) + (1 : Int32)) = (1 : Int32) from by decide]
    refine E_dup2 (pc' := 73) cx st11 d1_72 rfl rfl rfl ?_
    refine E_iaload (pc' := 74) (x := (xs3.getD 1 0)) cx st11 V11p ⟨by decide, by decide⟩ (getD_int xs3 _ 0) d1_73 rfl ?_
    refine E_aloadN (pc' := 75) cx st11 d1_74 rfl rfl rfl ?_
    refine E_iload (pc' := 77) cx st11 d1_75 rfl rfl ?_
    refine E_iaload (pc' := 78) (x := (xs3.getD 0 0)) cx st11 V11p ⟨by decide, by decide⟩ (getD_int xs3 _ 0) d1_77 rfl ?_
    refine E_iadd (pc' := 79) cx st11 d1_78 rfl ?_
    refine E_iastore (pc' := 80) (i := 1) cx st11 V11p ⟨by decide, by decide⟩ rfl (by rw [List.length_map, l_xs3]; decide) g_a1 d1_79 rfl ?_
    intro T12 h12 st12 W12 V12
    have Z12 : n0 ≤ h12.size := Nat.le_trans Z11 (Keep.of_wr W12).1
    have K12 : Keep h0 h12 [] := K11.wr W12 (Or.inr sz_a1)
    obtain ⟨ys0, h_ys0⟩ : ∃ z, z = pre xs3 0 := ⟨_, rfl⟩
    have V12p : Arv Z h12 a1 ca1 .int (2 : Int32) (ys0.map Value.int) (.int (0 : Int32)) := by rw [h_ys0]; rw [show pre xs3 0 = xs3.set 1 ((xs3.getD 1 0) + (xs3.getD 0 0)) from rfl, List.map_set]; exact V12
    have l_ys0 : ys0.length = 2 := by rw [h_ys0, show pre xs3 0 = xs3.set 1 ((xs3.getD 1 0) + (xs3.getD 0 0)) from rfl, List.length_set]; exact l_xs3
    refine E_iinc (pc' := 83) (L' := #[.val (.ref b0), .val (.ref b1), .val (.int (1 : Int32)), .val (.ref a1), .val (.int (3 : Int32)), .val (.int (1 : Int32))]) cx st12 (1 : Int32) d1_80 rfl rfl rfl rfl ?_
    refine E_goto (pc' := 61) cx st12 d1_83 (by decide) (by decide) ?_
    refine E_iload (pc' := 63) cx st12 d1_61 rfl rfl ?_
    refine E_iloadN (pc' := 64) cx st12 d1_63 rfl rfl ?_
    refine E_icmp_geY (pc' := 86) cx st12 d1_64 (by decide) (by decide) (by decide) ?_
    refine E_aloadN (pc' := 87) cx st12 d1_86 rfl rfl rfl ?_
    refine E_areturn (t := (.array .int)) cx st12 d1_87 rfl rfl rfl rfl (by decide) (by decide) ?_
    refine ⟨a1, ca1, ys0, rfl, sz_a1, K12, V12p, fun q hq1 hq2 => ?_⟩
    obtain ⟨hq3, hq4⟩ := i32_small (i := q) (n := 2) ⟨hq1, lt_of_le_lit hq2⟩ (by decide)
    rw [h_ys0, h_xs3, h_xs2, h_xs1, h_xs0]
    have f := fin_1_3 ⟨_, hm0⟩ ⟨_, hm1⟩ ⟨_, hm2⟩ ⟨q.toNatClampNeg, hq3⟩
    rw [← (i32_small (n := 1) hb0 (by decide)).2] at f
    rw [← (i32_small (n := 1) hb1 (by decide)).2] at f
    rw [← (i32_small (n := 1) hb2 (by decide)).2] at f
    rw [← hq4] at f
    exact f
  · refine E_iloadN (pc' := 1) cx st d1_0 rfl rfl ?_
    refine E_iconst (pc' := 2) cx st (1 : Int32) d1_1 rfl rfl ?_
    refine E_iadd (pc' := 3) cx st d1_2 rfl ?_
    rw [show ((2 : Int32) + (1 : Int32)) = (3 : Int32) from by decide]
    refine E_newP (pc' := 5) (kc' := 1) (ks' := 3) (cap := 3) cx st (hw _ (List.mem_of_getElem? (i := 1) rfl)) d1_3 (by decide) (by decide) (by decide) (by decide) (by decide) (by decide) (by decide) rfl (ad := "[I") (by decide) ?_
    intro T13 h13 ca13 a13 q13 st13 E13 V13 X13
    have g_a13 : n0 ≤ a13 := by rw [q13]; exact Z0
    have ne_b0_a13 : b0 ≠ a13 := by rw [q13]; exact Nat.ne_of_lt VI.lt
    have ne_b1_a13 : b1 ≠ a13 := by rw [q13]; exact Nat.ne_of_lt VO.lt
    have sz_a13 : h0.size ≤ a13 := by rw [q13]; exact (Keep.refl h0 []).1
    have Z13 : n0 ≤ h13.size := Nat.le_trans Z0 E13.1
    have K13 : Keep h0 h13 [] := (Keep.refl h0 []).ext E13
    have V13p : Arv Z h13 a13 ca13 .int (3 : Int32) [(.int (0 : Int32)), (.int (0 : Int32)), (.int (0 : Int32))] (.int (0 : Int32)) := V13.pad (pad_rep [] (.int (0 : Int32)) 3)
    refine E_astoreN (pc' := 6) (L' := #[.val (.ref b0), .val (.ref b1), .val (.int (2 : Int32)), .val (.ref a13), .unset, .unset]) cx st13 d1_5 rfl rfl rfl ?_
    refine E_aloadN (pc' := 7) cx st13 d1_6 rfl rfl rfl ?_
    refine E_ifnonnullY (pc' := 15) cx st13 d1_7 (by decide) (by decide) ?_
    refine E_aloadN (pc' := 16) cx st13 d1_15 rfl rfl rfl ?_
    have V14 : Arv Z h13 b1 kO .int (3 : Int32) [(.int k0), (.int k1), (.int k2)] (.int (0 : Int32)) := (VO.ext E13)
    refine E_arraylength (pc' := 17) cx st13 V14 d1_16 rfl ?_
    refine E_istore (pc' := 19) (L' := #[.val (.ref b0), .val (.ref b1), .val (.int (2 : Int32)), .val (.ref a13), .val (.int (3 : Int32)), .unset]) cx st13 d1_17 rfl rfl ?_
    refine E_iconst (pc' := 20) cx st13 (0 : Int32) d1_19 rfl rfl ?_
    refine E_istore (pc' := 22) (L' := #[.val (.ref b0), .val (.ref b1), .val (.int (2 : Int32)), .val (.ref a13), .val (.int (3 : Int32)), .val (.int (0 : Int32))]) cx st13 d1_20 rfl rfl ?_
    refine E_iload (pc' := 24) cx st13 d1_22 rfl rfl ?_
    refine E_iload (pc' := 26) cx st13 d1_24 rfl rfl ?_
    have l_xs0 : ([0, 0, 0] : List Int32).length = 3 := rfl
    have V15 : Arv Z h13 a13 ca13 .int (3 : Int32) (([0, 0, 0] : List Int32).map Value.int) (.int (0 : Int32)) := V13p
    obtain ⟨xs0, h_xs0⟩ : ∃ z, z = ([0, 0, 0] : List Int32) := ⟨_, rfl⟩
    rw [← h_xs0] at l_xs0 V15
    refine E_icmp_geN (pc' := 29) cx st13 d1_26 rfl (by decide) ?_
    refine E_aloadN (pc' := 30) cx st13 d1_29 rfl rfl rfl ?_
    refine E_aloadN (pc' := 31) cx st13 d1_30 rfl rfl rfl ?_
    refine E_aloadN (pc' := 32) cx st13 d1_31 rfl rfl rfl ?_
    refine E_ifnonnullY (pc' := 40) cx st13 d1_32 (by decide) (by decide) ?_
    refine E_aloadN (pc' := 41) cx st13 d1_40 rfl rfl rfl ?_
    refine E_iload (pc' := 43) cx st13 d1_41 rfl rfl ?_
    refine E_iaload (pc' := 44) (x := k0) cx st13 V14 ⟨by decide, by decide⟩ rfl d1_43 rfl ?_
    have V16 : Arv Z h13 b0 kI .int (3 : Int32) [(.int v0), (.int v1), (.int v2)] (.int (0 : Int32)) := (VI.ext E13)
    refine E_iaload (pc' := 45) (x := ([v0, v1, v2].getD k0.toNatClampNeg 0)) cx st13 V16 hk0 (getD_int [v0, v1, v2] _ 0) d1_44 rfl ?_
    obtain ⟨hs0, hn0⟩ := i32_succ (n := 2) hb0 (by decide)
    have hm0 := (i32_small (n := 2) hb0 (by decide)).1
    refine E_iconst (pc' := 46) cx st13 (1 : Int32) d1_45 rfl rfl ?_
    refine E_iadd (pc' := 47) cx st13 d1_46 rfl ?_
    refine E_dup2 (pc' := 48) cx st13 d1_47 rfl rfl rfl ?_
    refine E_iaload (pc' := 49) (x := (xs0.getD (([v0, v1, v2].getD k0.toNatClampNeg 0) + (1 : Int32)).toNatClampNeg 0)) cx st13 V15 hs0 (getD_int xs0 _ 0) d1_48 rfl ?_
    refine E_iconst (pc' := 50) cx st13 (1 : Int32) d1_49 rfl rfl ?_
    refine E_iadd (pc' := 51) cx st13 d1_50 rfl ?_
    refine E_iastore (pc' := 52) (i := (([v0, v1, v2].getD k0.toNatClampNeg 0) + 1).toNatClampNeg) cx st13 V15 hs0 rfl (by rw [List.length_map, l_xs0, hn0]; omega) g_a13 d1_51 rfl ?_
    intro T17 h17 st17 W17 V17
    have Z17 : n0 ≤ h17.size := Nat.le_trans Z13 (Keep.of_wr W17).1
    have K17 : Keep h0 h17 [] := K13.wr W17 (Or.inr sz_a13)
    obtain ⟨xs1, h_xs1⟩ : ∃ z, z = inc xs0 ([v0, v1, v2].getD k0.toNatClampNeg 0) := ⟨_, rfl⟩
    have V17p : Arv Z h17 a13 ca13 .int (3 : Int32) (xs1.map Value.int) (.int (0 : Int32)) := by rw [h_xs1]; rw [show inc xs0 ([v0, v1, v2].getD k0.toNatClampNeg 0) = xs0.set (([v0, v1, v2].getD k0.toNatClampNeg 0) + 1).toNatClampNeg ((xs0.getD (([v0, v1, v2].getD k0.toNatClampNeg 0) + (1 : Int32)).toNatClampNeg 0) + (1 : Int32)) from rfl, List.map_set]; exact V17
    have l_xs1 : xs1.length = 3 := by rw [h_xs1, show inc xs0 ([v0, v1, v2].getD k0.toNatClampNeg 0) = xs0.set (([v0, v1, v2].getD k0.toNatClampNeg 0) + 1).toNatClampNeg ((xs0.getD (([v0, v1, v2].getD k0.toNatClampNeg 0) + (1 : Int32)).toNatClampNeg 0) + (1 : Int32)) from rfl, List.length_set]; exact l_xs0
    refine E_iinc (pc' := 55) (L' := #[.val (.ref b0), .val (.ref b1), .val (.int (2 : Int32)), .val (.ref a13), .val (.int (3 : Int32)), .val (.int (1 : Int32))]) cx st17 (1 : Int32) d1_52 rfl rfl rfl rfl ?_
    refine E_goto (pc' := 22) cx st17 d1_55 (by decide) (by decide) ?_
    refine E_iload (pc' := 24) cx st17 d1_22 rfl rfl ?_
    refine E_iload (pc' := 26) cx st17 d1_24 rfl rfl ?_
    refine E_icmp_geN (pc' := 29) cx st17 d1_26 rfl (by decide) ?_
    refine E_aloadN (pc' := 30) cx st17 d1_29 rfl rfl rfl ?_
    refine E_aloadN (pc' := 31) cx st17 d1_30 rfl rfl rfl ?_
    refine E_aloadN (pc' := 32) cx st17 d1_31 rfl rfl rfl ?_
    refine E_ifnonnullY (pc' := 40) cx st17 d1_32 (by decide) (by decide) ?_
    refine E_aloadN (pc' := 41) cx st17 d1_40 rfl rfl rfl ?_
    refine E_iload (pc' := 43) cx st17 d1_41 rfl rfl ?_
    have V18 : Arv Z h17 b1 kO .int (3 : Int32) [(.int k0), (.int k1), (.int k2)] (.int (0 : Int32)) := (V14.other W17 ne_b1_a13)
    refine E_iaload (pc' := 44) (x := k1) cx st17 V18 ⟨by decide, by decide⟩ rfl d1_43 rfl ?_
    have V19 : Arv Z h17 b0 kI .int (3 : Int32) [(.int v0), (.int v1), (.int v2)] (.int (0 : Int32)) := (V16.other W17 ne_b0_a13)
    refine E_iaload (pc' := 45) (x := ([v0, v1, v2].getD k1.toNatClampNeg 0)) cx st17 V19 hk1 (getD_int [v0, v1, v2] _ 0) d1_44 rfl ?_
    obtain ⟨hs1, hn1⟩ := i32_succ (n := 2) hb1 (by decide)
    have hm1 := (i32_small (n := 2) hb1 (by decide)).1
    refine E_iconst (pc' := 46) cx st17 (1 : Int32) d1_45 rfl rfl ?_
    refine E_iadd (pc' := 47) cx st17 d1_46 rfl ?_
    refine E_dup2 (pc' := 48) cx st17 d1_47 rfl rfl rfl ?_
    refine E_iaload (pc' := 49) (x := (xs1.getD (([v0, v1, v2].getD k1.toNatClampNeg 0) + (1 : Int32)).toNatClampNeg 0)) cx st17 V17p hs1 (getD_int xs1 _ 0) d1_48 rfl ?_
    refine E_iconst (pc' := 50) cx st17 (1 : Int32) d1_49 rfl rfl ?_
    refine E_iadd (pc' := 51) cx st17 d1_50 rfl ?_
    refine E_iastore (pc' := 52) (i := (([v0, v1, v2].getD k1.toNatClampNeg 0) + 1).toNatClampNeg) cx st17 V17p hs1 rfl (by rw [List.length_map, l_xs1, hn1]; omega) g_a13 d1_51 rfl ?_
    intro T20 h20 st20 W20 V20
    have Z20 : n0 ≤ h20.size := Nat.le_trans Z17 (Keep.of_wr W20).1
    have K20 : Keep h0 h20 [] := K17.wr W20 (Or.inr sz_a13)
    obtain ⟨xs2, h_xs2⟩ : ∃ z, z = inc xs1 ([v0, v1, v2].getD k1.toNatClampNeg 0) := ⟨_, rfl⟩
    have V20p : Arv Z h20 a13 ca13 .int (3 : Int32) (xs2.map Value.int) (.int (0 : Int32)) := by rw [h_xs2]; rw [show inc xs1 ([v0, v1, v2].getD k1.toNatClampNeg 0) = xs1.set (([v0, v1, v2].getD k1.toNatClampNeg 0) + 1).toNatClampNeg ((xs1.getD (([v0, v1, v2].getD k1.toNatClampNeg 0) + (1 : Int32)).toNatClampNeg 0) + (1 : Int32)) from rfl, List.map_set]; exact V20
    have l_xs2 : xs2.length = 3 := by rw [h_xs2, show inc xs1 ([v0, v1, v2].getD k1.toNatClampNeg 0) = xs1.set (([v0, v1, v2].getD k1.toNatClampNeg 0) + 1).toNatClampNeg ((xs1.getD (([v0, v1, v2].getD k1.toNatClampNeg 0) + (1 : Int32)).toNatClampNeg 0) + (1 : Int32)) from rfl, List.length_set]; exact l_xs1
    refine E_iinc (pc' := 55) (L' := #[.val (.ref b0), .val (.ref b1), .val (.int (2 : Int32)), .val (.ref a13), .val (.int (3 : Int32)), .val (.int (2 : Int32))]) cx st20 (1 : Int32) d1_52 rfl rfl rfl rfl ?_
    refine E_goto (pc' := 22) cx st20 d1_55 (by decide) (by decide) ?_
    refine E_iload (pc' := 24) cx st20 d1_22 rfl rfl ?_
    refine E_iload (pc' := 26) cx st20 d1_24 rfl rfl ?_
    refine E_icmp_geN (pc' := 29) cx st20 d1_26 rfl (by decide) ?_
    refine E_aloadN (pc' := 30) cx st20 d1_29 rfl rfl rfl ?_
    refine E_aloadN (pc' := 31) cx st20 d1_30 rfl rfl rfl ?_
    refine E_aloadN (pc' := 32) cx st20 d1_31 rfl rfl rfl ?_
    refine E_ifnonnullY (pc' := 40) cx st20 d1_32 (by decide) (by decide) ?_
    refine E_aloadN (pc' := 41) cx st20 d1_40 rfl rfl rfl ?_
    refine E_iload (pc' := 43) cx st20 d1_41 rfl rfl ?_
    have V21 : Arv Z h20 b1 kO .int (3 : Int32) [(.int k0), (.int k1), (.int k2)] (.int (0 : Int32)) := (V18.other W20 ne_b1_a13)
    refine E_iaload (pc' := 44) (x := k2) cx st20 V21 ⟨by decide, by decide⟩ rfl d1_43 rfl ?_
    have V22 : Arv Z h20 b0 kI .int (3 : Int32) [(.int v0), (.int v1), (.int v2)] (.int (0 : Int32)) := (V19.other W20 ne_b0_a13)
    refine E_iaload (pc' := 45) (x := ([v0, v1, v2].getD k2.toNatClampNeg 0)) cx st20 V22 hk2 (getD_int [v0, v1, v2] _ 0) d1_44 rfl ?_
    obtain ⟨hs2, hn2⟩ := i32_succ (n := 2) hb2 (by decide)
    have hm2 := (i32_small (n := 2) hb2 (by decide)).1
    refine E_iconst (pc' := 46) cx st20 (1 : Int32) d1_45 rfl rfl ?_
    refine E_iadd (pc' := 47) cx st20 d1_46 rfl ?_
    refine E_dup2 (pc' := 48) cx st20 d1_47 rfl rfl rfl ?_
    refine E_iaload (pc' := 49) (x := (xs2.getD (([v0, v1, v2].getD k2.toNatClampNeg 0) + (1 : Int32)).toNatClampNeg 0)) cx st20 V20p hs2 (getD_int xs2 _ 0) d1_48 rfl ?_
    refine E_iconst (pc' := 50) cx st20 (1 : Int32) d1_49 rfl rfl ?_
    refine E_iadd (pc' := 51) cx st20 d1_50 rfl ?_
    refine E_iastore (pc' := 52) (i := (([v0, v1, v2].getD k2.toNatClampNeg 0) + 1).toNatClampNeg) cx st20 V20p hs2 rfl (by rw [List.length_map, l_xs2, hn2]; omega) g_a13 d1_51 rfl ?_
    intro T23 h23 st23 W23 V23
    have Z23 : n0 ≤ h23.size := Nat.le_trans Z20 (Keep.of_wr W23).1
    have K23 : Keep h0 h23 [] := K20.wr W23 (Or.inr sz_a13)
    obtain ⟨xs3, h_xs3⟩ : ∃ z, z = inc xs2 ([v0, v1, v2].getD k2.toNatClampNeg 0) := ⟨_, rfl⟩
    have V23p : Arv Z h23 a13 ca13 .int (3 : Int32) (xs3.map Value.int) (.int (0 : Int32)) := by rw [h_xs3]; rw [show inc xs2 ([v0, v1, v2].getD k2.toNatClampNeg 0) = xs2.set (([v0, v1, v2].getD k2.toNatClampNeg 0) + 1).toNatClampNeg ((xs2.getD (([v0, v1, v2].getD k2.toNatClampNeg 0) + (1 : Int32)).toNatClampNeg 0) + (1 : Int32)) from rfl, List.map_set]; exact V23
    have l_xs3 : xs3.length = 3 := by rw [h_xs3, show inc xs2 ([v0, v1, v2].getD k2.toNatClampNeg 0) = xs2.set (([v0, v1, v2].getD k2.toNatClampNeg 0) + 1).toNatClampNeg ((xs2.getD (([v0, v1, v2].getD k2.toNatClampNeg 0) + (1 : Int32)).toNatClampNeg 0) + (1 : Int32)) from rfl, List.length_set]; exact l_xs2
    refine E_iinc (pc' := 55) (L' := #[.val (.ref b0), .val (.ref b1), .val (.int (2 : Int32)), .val (.ref a13), .val (.int (3 : Int32)), .val (.int (3 : Int32))]) cx st23 (1 : Int32) d1_52 rfl rfl rfl rfl ?_
    refine E_goto (pc' := 22) cx st23 d1_55 (by decide) (by decide) ?_
    refine E_iload (pc' := 24) cx st23 d1_22 rfl rfl ?_
    refine E_iload (pc' := 26) cx st23 d1_24 rfl rfl ?_
    refine E_icmp_geY (pc' := 58) cx st23 d1_26 (by decide) (by decide) (by decide) ?_
    refine E_iconst (pc' := 59) cx st23 (0 : Int32) d1_58 rfl rfl ?_
    refine E_istore (pc' := 61) (L' := #[.val (.ref b0), .val (.ref b1), .val (.int (2 : Int32)), .val (.ref a13), .val (.int (3 : Int32)), .val (.int (0 : Int32))]) cx st23 d1_59 rfl rfl ?_
    refine E_iload (pc' := 63) cx st23 d1_61 rfl rfl ?_
    refine E_iloadN (pc' := 64) cx st23 d1_63 rfl rfl ?_
    refine E_icmp_geN (pc' := 67) cx st23 d1_64 rfl (by decide) ?_
    refine E_aloadN (pc' := 68) cx st23 d1_67 rfl rfl rfl ?_
    refine E_iload (pc' := 70) cx st23 d1_68 rfl rfl ?_
    refine E_iconst (pc' := 71) cx st23 (1 : Int32) d1_70 rfl rfl ?_
    refine E_iadd (pc' := 72) cx st23 d1_71 rfl ?_
    rw [show ((0 : Int32) + (1 : Int32)) = (1 : Int32) from by decide]
    refine E_dup2 (pc' := 73) cx st23 d1_72 rfl rfl rfl ?_
    refine E_iaload (pc' := 74) (x := (xs3.getD 1 0)) cx st23 V23p ⟨by decide, by decide⟩ (getD_int xs3 _ 0) d1_73 rfl ?_
    refine E_aloadN (pc' := 75) cx st23 d1_74 rfl rfl rfl ?_
    refine E_iload (pc' := 77) cx st23 d1_75 rfl rfl ?_
    refine E_iaload (pc' := 78) (x := (xs3.getD 0 0)) cx st23 V23p ⟨by decide, by decide⟩ (getD_int xs3 _ 0) d1_77 rfl ?_
    refine E_iadd (pc' := 79) cx st23 d1_78 rfl ?_
    refine E_iastore (pc' := 80) (i := 1) cx st23 V23p ⟨by decide, by decide⟩ rfl (by rw [List.length_map, l_xs3]; decide) g_a13 d1_79 rfl ?_
    intro T24 h24 st24 W24 V24
    have Z24 : n0 ≤ h24.size := Nat.le_trans Z23 (Keep.of_wr W24).1
    have K24 : Keep h0 h24 [] := K23.wr W24 (Or.inr sz_a13)
    obtain ⟨ys0, h_ys0⟩ : ∃ z, z = pre xs3 0 := ⟨_, rfl⟩
    have V24p : Arv Z h24 a13 ca13 .int (3 : Int32) (ys0.map Value.int) (.int (0 : Int32)) := by rw [h_ys0]; rw [show pre xs3 0 = xs3.set 1 ((xs3.getD 1 0) + (xs3.getD 0 0)) from rfl, List.map_set]; exact V24
    have l_ys0 : ys0.length = 3 := by rw [h_ys0, show pre xs3 0 = xs3.set 1 ((xs3.getD 1 0) + (xs3.getD 0 0)) from rfl, List.length_set]; exact l_xs3
    refine E_iinc (pc' := 83) (L' := #[.val (.ref b0), .val (.ref b1), .val (.int (2 : Int32)), .val (.ref a13), .val (.int (3 : Int32)), .val (.int (1 : Int32))]) cx st24 (1 : Int32) d1_80 rfl rfl rfl rfl ?_
    refine E_goto (pc' := 61) cx st24 d1_83 (by decide) (by decide) ?_
    refine E_iload (pc' := 63) cx st24 d1_61 rfl rfl ?_
    refine E_iloadN (pc' := 64) cx st24 d1_63 rfl rfl ?_
    refine E_icmp_geN (pc' := 67) cx st24 d1_64 rfl (by decide) ?_
    refine E_aloadN (pc' := 68) cx st24 d1_67 rfl rfl rfl ?_
    refine E_iload (pc' := 70) cx st24 d1_68 rfl rfl ?_
    refine E_iconst (pc' := 71) cx st24 (1 : Int32) d1_70 rfl rfl ?_
    refine E_iadd (pc' := 72) cx st24 d1_71 rfl ?_
    rw [show ((1 : Int32) + (1 : Int32)) = (2 : Int32) from by decide]
    refine E_dup2 (pc' := 73) cx st24 d1_72 rfl rfl rfl ?_
    refine E_iaload (pc' := 74) (x := (ys0.getD 2 0)) cx st24 V24p ⟨by decide, by decide⟩ (getD_int ys0 _ 0) d1_73 rfl ?_
    refine E_aloadN (pc' := 75) cx st24 d1_74 rfl rfl rfl ?_
    refine E_iload (pc' := 77) cx st24 d1_75 rfl rfl ?_
    refine E_iaload (pc' := 78) (x := (ys0.getD 1 0)) cx st24 V24p ⟨by decide, by decide⟩ (getD_int ys0 _ 0) d1_77 rfl ?_
    refine E_iadd (pc' := 79) cx st24 d1_78 rfl ?_
    refine E_iastore (pc' := 80) (i := 2) cx st24 V24p ⟨by decide, by decide⟩ rfl (by rw [List.length_map, l_ys0]; decide) g_a13 d1_79 rfl ?_
    intro T25 h25 st25 W25 V25
    have Z25 : n0 ≤ h25.size := Nat.le_trans Z24 (Keep.of_wr W25).1
    have K25 : Keep h0 h25 [] := K24.wr W25 (Or.inr sz_a13)
    obtain ⟨ys1, h_ys1⟩ : ∃ z, z = pre ys0 1 := ⟨_, rfl⟩
    have V25p : Arv Z h25 a13 ca13 .int (3 : Int32) (ys1.map Value.int) (.int (0 : Int32)) := by rw [h_ys1]; rw [show pre ys0 1 = ys0.set 2 ((ys0.getD 2 0) + (ys0.getD 1 0)) from rfl, List.map_set]; exact V25
    have l_ys1 : ys1.length = 3 := by rw [h_ys1, show pre ys0 1 = ys0.set 2 ((ys0.getD 2 0) + (ys0.getD 1 0)) from rfl, List.length_set]; exact l_ys0
    refine E_iinc (pc' := 83) (L' := #[.val (.ref b0), .val (.ref b1), .val (.int (2 : Int32)), .val (.ref a13), .val (.int (3 : Int32)), .val (.int (2 : Int32))]) cx st25 (1 : Int32) d1_80 rfl rfl rfl rfl ?_
    refine E_goto (pc' := 61) cx st25 d1_83 (by decide) (by decide) ?_
    refine E_iload (pc' := 63) cx st25 d1_61 rfl rfl ?_
    refine E_iloadN (pc' := 64) cx st25 d1_63 rfl rfl ?_
    refine E_icmp_geY (pc' := 86) cx st25 d1_64 (by decide) (by decide) (by decide) ?_
    refine E_aloadN (pc' := 87) cx st25 d1_86 rfl rfl rfl ?_
    refine E_areturn (t := (.array .int)) cx st25 d1_87 rfl rfl rfl rfl (by decide) (by decide) ?_
    refine ⟨a13, ca13, ys1, rfl, sz_a13, K25, V25p, fun q hq1 hq2 => ?_⟩
    obtain ⟨hq3, hq4⟩ := i32_small (i := q) (n := 3) ⟨hq1, lt_of_le_lit hq2⟩ (by decide)
    rw [h_ys1, h_ys0, h_xs3, h_xs2, h_xs1, h_xs0]
    have f := fin_2_3 ⟨_, hm0⟩ ⟨_, hm1⟩ ⟨_, hm2⟩ ⟨q.toNatClampNeg, hq3⟩
    rw [← (i32_small (n := 2) hb0 (by decide)).2] at f
    rw [← (i32_small (n := 2) hb1 (by decide)).2] at f
    rw [← (i32_small (n := 2) hb2 (by decide)).2] at f
    rw [← hq4] at f
    exact f
  · refine E_iloadN (pc' := 1) cx st d1_0 rfl rfl ?_
    refine E_iconst (pc' := 2) cx st (1 : Int32) d1_1 rfl rfl ?_
    refine E_iadd (pc' := 3) cx st d1_2 rfl ?_
    rw [show ((3 : Int32) + (1 : Int32)) = (4 : Int32) from by decide]
    refine E_newP (pc' := 5) (kc' := 1) (ks' := 4) (cap := 4) cx st (hw _ (List.mem_of_getElem? (i := 1) rfl)) d1_3 (by decide) (by decide) (by decide) (by decide) (by decide) (by decide) (by decide) rfl (ad := "[I") (by decide) ?_
    intro T26 h26 ca26 a26 q26 st26 E26 V26 X26
    have g_a26 : n0 ≤ a26 := by rw [q26]; exact Z0
    have ne_b0_a26 : b0 ≠ a26 := by rw [q26]; exact Nat.ne_of_lt VI.lt
    have ne_b1_a26 : b1 ≠ a26 := by rw [q26]; exact Nat.ne_of_lt VO.lt
    have sz_a26 : h0.size ≤ a26 := by rw [q26]; exact (Keep.refl h0 []).1
    have Z26 : n0 ≤ h26.size := Nat.le_trans Z0 E26.1
    have K26 : Keep h0 h26 [] := (Keep.refl h0 []).ext E26
    have V26p : Arv Z h26 a26 ca26 .int (4 : Int32) [(.int (0 : Int32)), (.int (0 : Int32)), (.int (0 : Int32)), (.int (0 : Int32))] (.int (0 : Int32)) := V26.pad (pad_rep [] (.int (0 : Int32)) 4)
    refine E_astoreN (pc' := 6) (L' := #[.val (.ref b0), .val (.ref b1), .val (.int (3 : Int32)), .val (.ref a26), .unset, .unset]) cx st26 d1_5 rfl rfl rfl ?_
    refine E_aloadN (pc' := 7) cx st26 d1_6 rfl rfl rfl ?_
    refine E_ifnonnullY (pc' := 15) cx st26 d1_7 (by decide) (by decide) ?_
    refine E_aloadN (pc' := 16) cx st26 d1_15 rfl rfl rfl ?_
    have V27 : Arv Z h26 b1 kO .int (3 : Int32) [(.int k0), (.int k1), (.int k2)] (.int (0 : Int32)) := (VO.ext E26)
    refine E_arraylength (pc' := 17) cx st26 V27 d1_16 rfl ?_
    refine E_istore (pc' := 19) (L' := #[.val (.ref b0), .val (.ref b1), .val (.int (3 : Int32)), .val (.ref a26), .val (.int (3 : Int32)), .unset]) cx st26 d1_17 rfl rfl ?_
    refine E_iconst (pc' := 20) cx st26 (0 : Int32) d1_19 rfl rfl ?_
    refine E_istore (pc' := 22) (L' := #[.val (.ref b0), .val (.ref b1), .val (.int (3 : Int32)), .val (.ref a26), .val (.int (3 : Int32)), .val (.int (0 : Int32))]) cx st26 d1_20 rfl rfl ?_
    refine E_iload (pc' := 24) cx st26 d1_22 rfl rfl ?_
    refine E_iload (pc' := 26) cx st26 d1_24 rfl rfl ?_
    have l_xs0 : ([0, 0, 0, 0] : List Int32).length = 4 := rfl
    have V28 : Arv Z h26 a26 ca26 .int (4 : Int32) (([0, 0, 0, 0] : List Int32).map Value.int) (.int (0 : Int32)) := V26p
    obtain ⟨xs0, h_xs0⟩ : ∃ z, z = ([0, 0, 0, 0] : List Int32) := ⟨_, rfl⟩
    rw [← h_xs0] at l_xs0 V28
    refine E_icmp_geN (pc' := 29) cx st26 d1_26 rfl (by decide) ?_
    refine E_aloadN (pc' := 30) cx st26 d1_29 rfl rfl rfl ?_
    refine E_aloadN (pc' := 31) cx st26 d1_30 rfl rfl rfl ?_
    refine E_aloadN (pc' := 32) cx st26 d1_31 rfl rfl rfl ?_
    refine E_ifnonnullY (pc' := 40) cx st26 d1_32 (by decide) (by decide) ?_
    refine E_aloadN (pc' := 41) cx st26 d1_40 rfl rfl rfl ?_
    refine E_iload (pc' := 43) cx st26 d1_41 rfl rfl ?_
    refine E_iaload (pc' := 44) (x := k0) cx st26 V27 ⟨by decide, by decide⟩ rfl d1_43 rfl ?_
    have V29 : Arv Z h26 b0 kI .int (3 : Int32) [(.int v0), (.int v1), (.int v2)] (.int (0 : Int32)) := (VI.ext E26)
    refine E_iaload (pc' := 45) (x := ([v0, v1, v2].getD k0.toNatClampNeg 0)) cx st26 V29 hk0 (getD_int [v0, v1, v2] _ 0) d1_44 rfl ?_
    obtain ⟨hs0, hn0⟩ := i32_succ (n := 3) hb0 (by decide)
    have hm0 := (i32_small (n := 3) hb0 (by decide)).1
    refine E_iconst (pc' := 46) cx st26 (1 : Int32) d1_45 rfl rfl ?_
    refine E_iadd (pc' := 47) cx st26 d1_46 rfl ?_
    refine E_dup2 (pc' := 48) cx st26 d1_47 rfl rfl rfl ?_
    refine E_iaload (pc' := 49) (x := (xs0.getD (([v0, v1, v2].getD k0.toNatClampNeg 0) + (1 : Int32)).toNatClampNeg 0)) cx st26 V28 hs0 (getD_int xs0 _ 0) d1_48 rfl ?_
    refine E_iconst (pc' := 50) cx st26 (1 : Int32) d1_49 rfl rfl ?_
    refine E_iadd (pc' := 51) cx st26 d1_50 rfl ?_
    refine E_iastore (pc' := 52) (i := (([v0, v1, v2].getD k0.toNatClampNeg 0) + 1).toNatClampNeg) cx st26 V28 hs0 rfl (by rw [List.length_map, l_xs0, hn0]; omega) g_a26 d1_51 rfl ?_
    intro T30 h30 st30 W30 V30
    have Z30 : n0 ≤ h30.size := Nat.le_trans Z26 (Keep.of_wr W30).1
    have K30 : Keep h0 h30 [] := K26.wr W30 (Or.inr sz_a26)
    obtain ⟨xs1, h_xs1⟩ : ∃ z, z = inc xs0 ([v0, v1, v2].getD k0.toNatClampNeg 0) := ⟨_, rfl⟩
    have V30p : Arv Z h30 a26 ca26 .int (4 : Int32) (xs1.map Value.int) (.int (0 : Int32)) := by rw [h_xs1]; rw [show inc xs0 ([v0, v1, v2].getD k0.toNatClampNeg 0) = xs0.set (([v0, v1, v2].getD k0.toNatClampNeg 0) + 1).toNatClampNeg ((xs0.getD (([v0, v1, v2].getD k0.toNatClampNeg 0) + (1 : Int32)).toNatClampNeg 0) + (1 : Int32)) from rfl, List.map_set]; exact V30
    have l_xs1 : xs1.length = 4 := by rw [h_xs1, show inc xs0 ([v0, v1, v2].getD k0.toNatClampNeg 0) = xs0.set (([v0, v1, v2].getD k0.toNatClampNeg 0) + 1).toNatClampNeg ((xs0.getD (([v0, v1, v2].getD k0.toNatClampNeg 0) + (1 : Int32)).toNatClampNeg 0) + (1 : Int32)) from rfl, List.length_set]; exact l_xs0
    refine E_iinc (pc' := 55) (L' := #[.val (.ref b0), .val (.ref b1), .val (.int (3 : Int32)), .val (.ref a26), .val (.int (3 : Int32)), .val (.int (1 : Int32))]) cx st30 (1 : Int32) d1_52 rfl rfl rfl rfl ?_
    refine E_goto (pc' := 22) cx st30 d1_55 (by decide) (by decide) ?_
    refine E_iload (pc' := 24) cx st30 d1_22 rfl rfl ?_
    refine E_iload (pc' := 26) cx st30 d1_24 rfl rfl ?_
    refine E_icmp_geN (pc' := 29) cx st30 d1_26 rfl (by decide) ?_
    refine E_aloadN (pc' := 30) cx st30 d1_29 rfl rfl rfl ?_
    refine E_aloadN (pc' := 31) cx st30 d1_30 rfl rfl rfl ?_
    refine E_aloadN (pc' := 32) cx st30 d1_31 rfl rfl rfl ?_
    refine E_ifnonnullY (pc' := 40) cx st30 d1_32 (by decide) (by decide) ?_
    refine E_aloadN (pc' := 41) cx st30 d1_40 rfl rfl rfl ?_
    refine E_iload (pc' := 43) cx st30 d1_41 rfl rfl ?_
    have V31 : Arv Z h30 b1 kO .int (3 : Int32) [(.int k0), (.int k1), (.int k2)] (.int (0 : Int32)) := (V27.other W30 ne_b1_a26)
    refine E_iaload (pc' := 44) (x := k1) cx st30 V31 ⟨by decide, by decide⟩ rfl d1_43 rfl ?_
    have V32 : Arv Z h30 b0 kI .int (3 : Int32) [(.int v0), (.int v1), (.int v2)] (.int (0 : Int32)) := (V29.other W30 ne_b0_a26)
    refine E_iaload (pc' := 45) (x := ([v0, v1, v2].getD k1.toNatClampNeg 0)) cx st30 V32 hk1 (getD_int [v0, v1, v2] _ 0) d1_44 rfl ?_
    obtain ⟨hs1, hn1⟩ := i32_succ (n := 3) hb1 (by decide)
    have hm1 := (i32_small (n := 3) hb1 (by decide)).1
    refine E_iconst (pc' := 46) cx st30 (1 : Int32) d1_45 rfl rfl ?_
    refine E_iadd (pc' := 47) cx st30 d1_46 rfl ?_
    refine E_dup2 (pc' := 48) cx st30 d1_47 rfl rfl rfl ?_
    refine E_iaload (pc' := 49) (x := (xs1.getD (([v0, v1, v2].getD k1.toNatClampNeg 0) + (1 : Int32)).toNatClampNeg 0)) cx st30 V30p hs1 (getD_int xs1 _ 0) d1_48 rfl ?_
    refine E_iconst (pc' := 50) cx st30 (1 : Int32) d1_49 rfl rfl ?_
    refine E_iadd (pc' := 51) cx st30 d1_50 rfl ?_
    refine E_iastore (pc' := 52) (i := (([v0, v1, v2].getD k1.toNatClampNeg 0) + 1).toNatClampNeg) cx st30 V30p hs1 rfl (by rw [List.length_map, l_xs1, hn1]; omega) g_a26 d1_51 rfl ?_
    intro T33 h33 st33 W33 V33
    have Z33 : n0 ≤ h33.size := Nat.le_trans Z30 (Keep.of_wr W33).1
    have K33 : Keep h0 h33 [] := K30.wr W33 (Or.inr sz_a26)
    obtain ⟨xs2, h_xs2⟩ : ∃ z, z = inc xs1 ([v0, v1, v2].getD k1.toNatClampNeg 0) := ⟨_, rfl⟩
    have V33p : Arv Z h33 a26 ca26 .int (4 : Int32) (xs2.map Value.int) (.int (0 : Int32)) := by rw [h_xs2]; rw [show inc xs1 ([v0, v1, v2].getD k1.toNatClampNeg 0) = xs1.set (([v0, v1, v2].getD k1.toNatClampNeg 0) + 1).toNatClampNeg ((xs1.getD (([v0, v1, v2].getD k1.toNatClampNeg 0) + (1 : Int32)).toNatClampNeg 0) + (1 : Int32)) from rfl, List.map_set]; exact V33
    have l_xs2 : xs2.length = 4 := by rw [h_xs2, show inc xs1 ([v0, v1, v2].getD k1.toNatClampNeg 0) = xs1.set (([v0, v1, v2].getD k1.toNatClampNeg 0) + 1).toNatClampNeg ((xs1.getD (([v0, v1, v2].getD k1.toNatClampNeg 0) + (1 : Int32)).toNatClampNeg 0) + (1 : Int32)) from rfl, List.length_set]; exact l_xs1
    refine E_iinc (pc' := 55) (L' := #[.val (.ref b0), .val (.ref b1), .val (.int (3 : Int32)), .val (.ref a26), .val (.int (3 : Int32)), .val (.int (2 : Int32))]) cx st33 (1 : Int32) d1_52 rfl rfl rfl rfl ?_
    refine E_goto (pc' := 22) cx st33 d1_55 (by decide) (by decide) ?_
    refine E_iload (pc' := 24) cx st33 d1_22 rfl rfl ?_
    refine E_iload (pc' := 26) cx st33 d1_24 rfl rfl ?_
    refine E_icmp_geN (pc' := 29) cx st33 d1_26 rfl (by decide) ?_
    refine E_aloadN (pc' := 30) cx st33 d1_29 rfl rfl rfl ?_
    refine E_aloadN (pc' := 31) cx st33 d1_30 rfl rfl rfl ?_
    refine E_aloadN (pc' := 32) cx st33 d1_31 rfl rfl rfl ?_
    refine E_ifnonnullY (pc' := 40) cx st33 d1_32 (by decide) (by decide) ?_
    refine E_aloadN (pc' := 41) cx st33 d1_40 rfl rfl rfl ?_
    refine E_iload (pc' := 43) cx st33 d1_41 rfl rfl ?_
    have V34 : Arv Z h33 b1 kO .int (3 : Int32) [(.int k0), (.int k1), (.int k2)] (.int (0 : Int32)) := (V31.other W33 ne_b1_a26)
    refine E_iaload (pc' := 44) (x := k2) cx st33 V34 ⟨by decide, by decide⟩ rfl d1_43 rfl ?_
    have V35 : Arv Z h33 b0 kI .int (3 : Int32) [(.int v0), (.int v1), (.int v2)] (.int (0 : Int32)) := (V32.other W33 ne_b0_a26)
    refine E_iaload (pc' := 45) (x := ([v0, v1, v2].getD k2.toNatClampNeg 0)) cx st33 V35 hk2 (getD_int [v0, v1, v2] _ 0) d1_44 rfl ?_
    obtain ⟨hs2, hn2⟩ := i32_succ (n := 3) hb2 (by decide)
    have hm2 := (i32_small (n := 3) hb2 (by decide)).1
    refine E_iconst (pc' := 46) cx st33 (1 : Int32) d1_45 rfl rfl ?_
    refine E_iadd (pc' := 47) cx st33 d1_46 rfl ?_
    refine E_dup2 (pc' := 48) cx st33 d1_47 rfl rfl rfl ?_
    refine E_iaload (pc' := 49) (x := (xs2.getD (([v0, v1, v2].getD k2.toNatClampNeg 0) + (1 : Int32)).toNatClampNeg 0)) cx st33 V33p hs2 (getD_int xs2 _ 0) d1_48 rfl ?_
    refine E_iconst (pc' := 50) cx st33 (1 : Int32) d1_49 rfl rfl ?_
    refine E_iadd (pc' := 51) cx st33 d1_50 rfl ?_
    refine E_iastore (pc' := 52) (i := (([v0, v1, v2].getD k2.toNatClampNeg 0) + 1).toNatClampNeg) cx st33 V33p hs2 rfl (by rw [List.length_map, l_xs2, hn2]; omega) g_a26 d1_51 rfl ?_
    intro T36 h36 st36 W36 V36
    have Z36 : n0 ≤ h36.size := Nat.le_trans Z33 (Keep.of_wr W36).1
    have K36 : Keep h0 h36 [] := K33.wr W36 (Or.inr sz_a26)
    obtain ⟨xs3, h_xs3⟩ : ∃ z, z = inc xs2 ([v0, v1, v2].getD k2.toNatClampNeg 0) := ⟨_, rfl⟩
    have V36p : Arv Z h36 a26 ca26 .int (4 : Int32) (xs3.map Value.int) (.int (0 : Int32)) := by rw [h_xs3]; rw [show inc xs2 ([v0, v1, v2].getD k2.toNatClampNeg 0) = xs2.set (([v0, v1, v2].getD k2.toNatClampNeg 0) + 1).toNatClampNeg ((xs2.getD (([v0, v1, v2].getD k2.toNatClampNeg 0) + (1 : Int32)).toNatClampNeg 0) + (1 : Int32)) from rfl, List.map_set]; exact V36
    have l_xs3 : xs3.length = 4 := by rw [h_xs3, show inc xs2 ([v0, v1, v2].getD k2.toNatClampNeg 0) = xs2.set (([v0, v1, v2].getD k2.toNatClampNeg 0) + 1).toNatClampNeg ((xs2.getD (([v0, v1, v2].getD k2.toNatClampNeg 0) + (1 : Int32)).toNatClampNeg 0) + (1 : Int32)) from rfl, List.length_set]; exact l_xs2
    refine E_iinc (pc' := 55) (L' := #[.val (.ref b0), .val (.ref b1), .val (.int (3 : Int32)), .val (.ref a26), .val (.int (3 : Int32)), .val (.int (3 : Int32))]) cx st36 (1 : Int32) d1_52 rfl rfl rfl rfl ?_
    refine E_goto (pc' := 22) cx st36 d1_55 (by decide) (by decide) ?_
    refine E_iload (pc' := 24) cx st36 d1_22 rfl rfl ?_
    refine E_iload (pc' := 26) cx st36 d1_24 rfl rfl ?_
    refine E_icmp_geY (pc' := 58) cx st36 d1_26 (by decide) (by decide) (by decide) ?_
    refine E_iconst (pc' := 59) cx st36 (0 : Int32) d1_58 rfl rfl ?_
    refine E_istore (pc' := 61) (L' := #[.val (.ref b0), .val (.ref b1), .val (.int (3 : Int32)), .val (.ref a26), .val (.int (3 : Int32)), .val (.int (0 : Int32))]) cx st36 d1_59 rfl rfl ?_
    refine E_iload (pc' := 63) cx st36 d1_61 rfl rfl ?_
    refine E_iloadN (pc' := 64) cx st36 d1_63 rfl rfl ?_
    refine E_icmp_geN (pc' := 67) cx st36 d1_64 rfl (by decide) ?_
    refine E_aloadN (pc' := 68) cx st36 d1_67 rfl rfl rfl ?_
    refine E_iload (pc' := 70) cx st36 d1_68 rfl rfl ?_
    refine E_iconst (pc' := 71) cx st36 (1 : Int32) d1_70 rfl rfl ?_
    refine E_iadd (pc' := 72) cx st36 d1_71 rfl ?_
    rw [show ((0 : Int32) + (1 : Int32)) = (1 : Int32) from by decide]
    refine E_dup2 (pc' := 73) cx st36 d1_72 rfl rfl rfl ?_
    refine E_iaload (pc' := 74) (x := (xs3.getD 1 0)) cx st36 V36p ⟨by decide, by decide⟩ (getD_int xs3 _ 0) d1_73 rfl ?_
    refine E_aloadN (pc' := 75) cx st36 d1_74 rfl rfl rfl ?_
    refine E_iload (pc' := 77) cx st36 d1_75 rfl rfl ?_
    refine E_iaload (pc' := 78) (x := (xs3.getD 0 0)) cx st36 V36p ⟨by decide, by decide⟩ (getD_int xs3 _ 0) d1_77 rfl ?_
    refine E_iadd (pc' := 79) cx st36 d1_78 rfl ?_
    refine E_iastore (pc' := 80) (i := 1) cx st36 V36p ⟨by decide, by decide⟩ rfl (by rw [List.length_map, l_xs3]; decide) g_a26 d1_79 rfl ?_
    intro T37 h37 st37 W37 V37
    have Z37 : n0 ≤ h37.size := Nat.le_trans Z36 (Keep.of_wr W37).1
    have K37 : Keep h0 h37 [] := K36.wr W37 (Or.inr sz_a26)
    obtain ⟨ys0, h_ys0⟩ : ∃ z, z = pre xs3 0 := ⟨_, rfl⟩
    have V37p : Arv Z h37 a26 ca26 .int (4 : Int32) (ys0.map Value.int) (.int (0 : Int32)) := by rw [h_ys0]; rw [show pre xs3 0 = xs3.set 1 ((xs3.getD 1 0) + (xs3.getD 0 0)) from rfl, List.map_set]; exact V37
    have l_ys0 : ys0.length = 4 := by rw [h_ys0, show pre xs3 0 = xs3.set 1 ((xs3.getD 1 0) + (xs3.getD 0 0)) from rfl, List.length_set]; exact l_xs3
    refine E_iinc (pc' := 83) (L' := #[.val (.ref b0), .val (.ref b1), .val (.int (3 : Int32)), .val (.ref a26), .val (.int (3 : Int32)), .val (.int (1 : Int32))]) cx st37 (1 : Int32) d1_80 rfl rfl rfl rfl ?_
    refine E_goto (pc' := 61) cx st37 d1_83 (by decide) (by decide) ?_
    refine E_iload (pc' := 63) cx st37 d1_61 rfl rfl ?_
    refine E_iloadN (pc' := 64) cx st37 d1_63 rfl rfl ?_
    refine E_icmp_geN (pc' := 67) cx st37 d1_64 rfl (by decide) ?_
    refine E_aloadN (pc' := 68) cx st37 d1_67 rfl rfl rfl ?_
    refine E_iload (pc' := 70) cx st37 d1_68 rfl rfl ?_
    refine E_iconst (pc' := 71) cx st37 (1 : Int32) d1_70 rfl rfl ?_
    refine E_iadd (pc' := 72) cx st37 d1_71 rfl ?_
    rw [show ((1 : Int32) + (1 : Int32)) = (2 : Int32) from by decide]
    refine E_dup2 (pc' := 73) cx st37 d1_72 rfl rfl rfl ?_
    refine E_iaload (pc' := 74) (x := (ys0.getD 2 0)) cx st37 V37p ⟨by decide, by decide⟩ (getD_int ys0 _ 0) d1_73 rfl ?_
    refine E_aloadN (pc' := 75) cx st37 d1_74 rfl rfl rfl ?_
    refine E_iload (pc' := 77) cx st37 d1_75 rfl rfl ?_
    refine E_iaload (pc' := 78) (x := (ys0.getD 1 0)) cx st37 V37p ⟨by decide, by decide⟩ (getD_int ys0 _ 0) d1_77 rfl ?_
    refine E_iadd (pc' := 79) cx st37 d1_78 rfl ?_
    refine E_iastore (pc' := 80) (i := 2) cx st37 V37p ⟨by decide, by decide⟩ rfl (by rw [List.length_map, l_ys0]; decide) g_a26 d1_79 rfl ?_
    intro T38 h38 st38 W38 V38
    have Z38 : n0 ≤ h38.size := Nat.le_trans Z37 (Keep.of_wr W38).1
    have K38 : Keep h0 h38 [] := K37.wr W38 (Or.inr sz_a26)
    obtain ⟨ys1, h_ys1⟩ : ∃ z, z = pre ys0 1 := ⟨_, rfl⟩
    have V38p : Arv Z h38 a26 ca26 .int (4 : Int32) (ys1.map Value.int) (.int (0 : Int32)) := by rw [h_ys1]; rw [show pre ys0 1 = ys0.set 2 ((ys0.getD 2 0) + (ys0.getD 1 0)) from rfl, List.map_set]; exact V38
    have l_ys1 : ys1.length = 4 := by rw [h_ys1, show pre ys0 1 = ys0.set 2 ((ys0.getD 2 0) + (ys0.getD 1 0)) from rfl, List.length_set]; exact l_ys0
    refine E_iinc (pc' := 83) (L' := #[.val (.ref b0), .val (.ref b1), .val (.int (3 : Int32)), .val (.ref a26), .val (.int (3 : Int32)), .val (.int (2 : Int32))]) cx st38 (1 : Int32) d1_80 rfl rfl rfl rfl ?_
    refine E_goto (pc' := 61) cx st38 d1_83 (by decide) (by decide) ?_
    refine E_iload (pc' := 63) cx st38 d1_61 rfl rfl ?_
    refine E_iloadN (pc' := 64) cx st38 d1_63 rfl rfl ?_
    refine E_icmp_geN (pc' := 67) cx st38 d1_64 rfl (by decide) ?_
    refine E_aloadN (pc' := 68) cx st38 d1_67 rfl rfl rfl ?_
    refine E_iload (pc' := 70) cx st38 d1_68 rfl rfl ?_
    refine E_iconst (pc' := 71) cx st38 (1 : Int32) d1_70 rfl rfl ?_
    refine E_iadd (pc' := 72) cx st38 d1_71 rfl ?_
    rw [show ((2 : Int32) + (1 : Int32)) = (3 : Int32) from by decide]
    refine E_dup2 (pc' := 73) cx st38 d1_72 rfl rfl rfl ?_
    refine E_iaload (pc' := 74) (x := (ys1.getD 3 0)) cx st38 V38p ⟨by decide, by decide⟩ (getD_int ys1 _ 0) d1_73 rfl ?_
    refine E_aloadN (pc' := 75) cx st38 d1_74 rfl rfl rfl ?_
    refine E_iload (pc' := 77) cx st38 d1_75 rfl rfl ?_
    refine E_iaload (pc' := 78) (x := (ys1.getD 2 0)) cx st38 V38p ⟨by decide, by decide⟩ (getD_int ys1 _ 0) d1_77 rfl ?_
    refine E_iadd (pc' := 79) cx st38 d1_78 rfl ?_
    refine E_iastore (pc' := 80) (i := 3) cx st38 V38p ⟨by decide, by decide⟩ rfl (by rw [List.length_map, l_ys1]; decide) g_a26 d1_79 rfl ?_
    intro T39 h39 st39 W39 V39
    have Z39 : n0 ≤ h39.size := Nat.le_trans Z38 (Keep.of_wr W39).1
    have K39 : Keep h0 h39 [] := K38.wr W39 (Or.inr sz_a26)
    obtain ⟨ys2, h_ys2⟩ : ∃ z, z = pre ys1 2 := ⟨_, rfl⟩
    have V39p : Arv Z h39 a26 ca26 .int (4 : Int32) (ys2.map Value.int) (.int (0 : Int32)) := by rw [h_ys2]; rw [show pre ys1 2 = ys1.set 3 ((ys1.getD 3 0) + (ys1.getD 2 0)) from rfl, List.map_set]; exact V39
    have l_ys2 : ys2.length = 4 := by rw [h_ys2, show pre ys1 2 = ys1.set 3 ((ys1.getD 3 0) + (ys1.getD 2 0)) from rfl, List.length_set]; exact l_ys1
    refine E_iinc (pc' := 83) (L' := #[.val (.ref b0), .val (.ref b1), .val (.int (3 : Int32)), .val (.ref a26), .val (.int (3 : Int32)), .val (.int (3 : Int32))]) cx st39 (1 : Int32) d1_80 rfl rfl rfl rfl ?_
    refine E_goto (pc' := 61) cx st39 d1_83 (by decide) (by decide) ?_
    refine E_iload (pc' := 63) cx st39 d1_61 rfl rfl ?_
    refine E_iloadN (pc' := 64) cx st39 d1_63 rfl rfl ?_
    refine E_icmp_geY (pc' := 86) cx st39 d1_64 (by decide) (by decide) (by decide) ?_
    refine E_aloadN (pc' := 87) cx st39 d1_86 rfl rfl rfl ?_
    refine E_areturn (t := (.array .int)) cx st39 d1_87 rfl rfl rfl rfl (by decide) (by decide) ?_
    refine ⟨a26, ca26, ys2, rfl, sz_a26, K39, V39p, fun q hq1 hq2 => ?_⟩
    obtain ⟨hq3, hq4⟩ := i32_small (i := q) (n := 4) ⟨hq1, lt_of_le_lit hq2⟩ (by decide)
    rw [h_ys2, h_ys1, h_ys0, h_xs3, h_xs2, h_xs1, h_xs0]
    have f := fin_3_3 ⟨_, hm0⟩ ⟨_, hm1⟩ ⟨_, hm2⟩ ⟨q.toNatClampNeg, hq3⟩
    rw [← (i32_small (n := 3) hb0 (by decide)).2] at f
    rw [← (i32_small (n := 3) hb1 (by decide)).2] at f
    rw [← (i32_small (n := 3) hb2 (by decide)).2] at f
    rw [← hq4] at f
    exact f
  · refine E_iloadN (pc' := 1) cx st d1_0 rfl rfl ?_
    refine E_iconst (pc' := 2) cx st (1 : Int32) d1_1 rfl rfl ?_
    refine E_iadd (pc' := 3) cx st d1_2 rfl ?_
    rw [show ((4 : Int32) + (1 : Int32)) = (5 : Int32) from by decide]
    refine E_newP (pc' := 5) (kc' := 1) (ks' := 5) (cap := 5) cx st (hw _ (List.mem_of_getElem? (i := 1) rfl)) d1_3 (by decide) (by decide) (by decide) (by decide) (by decide) (by decide) (by decide) rfl (ad := "[I") (by decide) ?_
    intro T40 h40 ca40 a40 q40 st40 E40 V40 X40
    have g_a40 : n0 ≤ a40 := by rw [q40]; exact Z0
    have ne_b0_a40 : b0 ≠ a40 := by rw [q40]; exact Nat.ne_of_lt VI.lt
    have ne_b1_a40 : b1 ≠ a40 := by rw [q40]; exact Nat.ne_of_lt VO.lt
    have sz_a40 : h0.size ≤ a40 := by rw [q40]; exact (Keep.refl h0 []).1
    have Z40 : n0 ≤ h40.size := Nat.le_trans Z0 E40.1
    have K40 : Keep h0 h40 [] := (Keep.refl h0 []).ext E40
    have V40p : Arv Z h40 a40 ca40 .int (5 : Int32) [(.int (0 : Int32)), (.int (0 : Int32)), (.int (0 : Int32)), (.int (0 : Int32)), (.int (0 : Int32))] (.int (0 : Int32)) := V40.pad (pad_rep [] (.int (0 : Int32)) 5)
    refine E_astoreN (pc' := 6) (L' := #[.val (.ref b0), .val (.ref b1), .val (.int (4 : Int32)), .val (.ref a40), .unset, .unset]) cx st40 d1_5 rfl rfl rfl ?_
    refine E_aloadN (pc' := 7) cx st40 d1_6 rfl rfl rfl ?_
    refine E_ifnonnullY (pc' := 15) cx st40 d1_7 (by decide) (by decide) ?_
    refine E_aloadN (pc' := 16) cx st40 d1_15 rfl rfl rfl ?_
    have V41 : Arv Z h40 b1 kO .int (3 : Int32) [(.int k0), (.int k1), (.int k2)] (.int (0 : Int32)) := (VO.ext E40)
    refine E_arraylength (pc' := 17) cx st40 V41 d1_16 rfl ?_
    refine E_istore (pc' := 19) (L' := #[.val (.ref b0), .val (.ref b1), .val (.int (4 : Int32)), .val (.ref a40), .val (.int (3 : Int32)), .unset]) cx st40 d1_17 rfl rfl ?_
    refine E_iconst (pc' := 20) cx st40 (0 : Int32) d1_19 rfl rfl ?_
    refine E_istore (pc' := 22) (L' := #[.val (.ref b0), .val (.ref b1), .val (.int (4 : Int32)), .val (.ref a40), .val (.int (3 : Int32)), .val (.int (0 : Int32))]) cx st40 d1_20 rfl rfl ?_
    refine E_iload (pc' := 24) cx st40 d1_22 rfl rfl ?_
    refine E_iload (pc' := 26) cx st40 d1_24 rfl rfl ?_
    have l_xs0 : ([0, 0, 0, 0, 0] : List Int32).length = 5 := rfl
    have V42 : Arv Z h40 a40 ca40 .int (5 : Int32) (([0, 0, 0, 0, 0] : List Int32).map Value.int) (.int (0 : Int32)) := V40p
    obtain ⟨xs0, h_xs0⟩ : ∃ z, z = ([0, 0, 0, 0, 0] : List Int32) := ⟨_, rfl⟩
    rw [← h_xs0] at l_xs0 V42
    refine E_icmp_geN (pc' := 29) cx st40 d1_26 rfl (by decide) ?_
    refine E_aloadN (pc' := 30) cx st40 d1_29 rfl rfl rfl ?_
    refine E_aloadN (pc' := 31) cx st40 d1_30 rfl rfl rfl ?_
    refine E_aloadN (pc' := 32) cx st40 d1_31 rfl rfl rfl ?_
    refine E_ifnonnullY (pc' := 40) cx st40 d1_32 (by decide) (by decide) ?_
    refine E_aloadN (pc' := 41) cx st40 d1_40 rfl rfl rfl ?_
    refine E_iload (pc' := 43) cx st40 d1_41 rfl rfl ?_
    refine E_iaload (pc' := 44) (x := k0) cx st40 V41 ⟨by decide, by decide⟩ rfl d1_43 rfl ?_
    have V43 : Arv Z h40 b0 kI .int (3 : Int32) [(.int v0), (.int v1), (.int v2)] (.int (0 : Int32)) := (VI.ext E40)
    refine E_iaload (pc' := 45) (x := ([v0, v1, v2].getD k0.toNatClampNeg 0)) cx st40 V43 hk0 (getD_int [v0, v1, v2] _ 0) d1_44 rfl ?_
    obtain ⟨hs0, hn0⟩ := i32_succ (n := 4) hb0 (by decide)
    have hm0 := (i32_small (n := 4) hb0 (by decide)).1
    refine E_iconst (pc' := 46) cx st40 (1 : Int32) d1_45 rfl rfl ?_
    refine E_iadd (pc' := 47) cx st40 d1_46 rfl ?_
    refine E_dup2 (pc' := 48) cx st40 d1_47 rfl rfl rfl ?_
    refine E_iaload (pc' := 49) (x := (xs0.getD (([v0, v1, v2].getD k0.toNatClampNeg 0) + (1 : Int32)).toNatClampNeg 0)) cx st40 V42 hs0 (getD_int xs0 _ 0) d1_48 rfl ?_
    refine E_iconst (pc' := 50) cx st40 (1 : Int32) d1_49 rfl rfl ?_
    refine E_iadd (pc' := 51) cx st40 d1_50 rfl ?_
    refine E_iastore (pc' := 52) (i := (([v0, v1, v2].getD k0.toNatClampNeg 0) + 1).toNatClampNeg) cx st40 V42 hs0 rfl (by rw [List.length_map, l_xs0, hn0]; omega) g_a40 d1_51 rfl ?_
    intro T44 h44 st44 W44 V44
    have Z44 : n0 ≤ h44.size := Nat.le_trans Z40 (Keep.of_wr W44).1
    have K44 : Keep h0 h44 [] := K40.wr W44 (Or.inr sz_a40)
    obtain ⟨xs1, h_xs1⟩ : ∃ z, z = inc xs0 ([v0, v1, v2].getD k0.toNatClampNeg 0) := ⟨_, rfl⟩
    have V44p : Arv Z h44 a40 ca40 .int (5 : Int32) (xs1.map Value.int) (.int (0 : Int32)) := by rw [h_xs1]; rw [show inc xs0 ([v0, v1, v2].getD k0.toNatClampNeg 0) = xs0.set (([v0, v1, v2].getD k0.toNatClampNeg 0) + 1).toNatClampNeg ((xs0.getD (([v0, v1, v2].getD k0.toNatClampNeg 0) + (1 : Int32)).toNatClampNeg 0) + (1 : Int32)) from rfl, List.map_set]; exact V44
    have l_xs1 : xs1.length = 5 := by rw [h_xs1, show inc xs0 ([v0, v1, v2].getD k0.toNatClampNeg 0) = xs0.set (([v0, v1, v2].getD k0.toNatClampNeg 0) + 1).toNatClampNeg ((xs0.getD (([v0, v1, v2].getD k0.toNatClampNeg 0) + (1 : Int32)).toNatClampNeg 0) + (1 : Int32)) from rfl, List.length_set]; exact l_xs0
    refine E_iinc (pc' := 55) (L' := #[.val (.ref b0), .val (.ref b1), .val (.int (4 : Int32)), .val (.ref a40), .val (.int (3 : Int32)), .val (.int (1 : Int32))]) cx st44 (1 : Int32) d1_52 rfl rfl rfl rfl ?_
    refine E_goto (pc' := 22) cx st44 d1_55 (by decide) (by decide) ?_
    refine E_iload (pc' := 24) cx st44 d1_22 rfl rfl ?_
    refine E_iload (pc' := 26) cx st44 d1_24 rfl rfl ?_
    refine E_icmp_geN (pc' := 29) cx st44 d1_26 rfl (by decide) ?_
    refine E_aloadN (pc' := 30) cx st44 d1_29 rfl rfl rfl ?_
    refine E_aloadN (pc' := 31) cx st44 d1_30 rfl rfl rfl ?_
    refine E_aloadN (pc' := 32) cx st44 d1_31 rfl rfl rfl ?_
    refine E_ifnonnullY (pc' := 40) cx st44 d1_32 (by decide) (by decide) ?_
    refine E_aloadN (pc' := 41) cx st44 d1_40 rfl rfl rfl ?_
    refine E_iload (pc' := 43) cx st44 d1_41 rfl rfl ?_
    have V45 : Arv Z h44 b1 kO .int (3 : Int32) [(.int k0), (.int k1), (.int k2)] (.int (0 : Int32)) := (V41.other W44 ne_b1_a40)
    refine E_iaload (pc' := 44) (x := k1) cx st44 V45 ⟨by decide, by decide⟩ rfl d1_43 rfl ?_
    have V46 : Arv Z h44 b0 kI .int (3 : Int32) [(.int v0), (.int v1), (.int v2)] (.int (0 : Int32)) := (V43.other W44 ne_b0_a40)
    refine E_iaload (pc' := 45) (x := ([v0, v1, v2].getD k1.toNatClampNeg 0)) cx st44 V46 hk1 (getD_int [v0, v1, v2] _ 0) d1_44 rfl ?_
    obtain ⟨hs1, hn1⟩ := i32_succ (n := 4) hb1 (by decide)
    have hm1 := (i32_small (n := 4) hb1 (by decide)).1
    refine E_iconst (pc' := 46) cx st44 (1 : Int32) d1_45 rfl rfl ?_
    refine E_iadd (pc' := 47) cx st44 d1_46 rfl ?_
    refine E_dup2 (pc' := 48) cx st44 d1_47 rfl rfl rfl ?_
    refine E_iaload (pc' := 49) (x := (xs1.getD (([v0, v1, v2].getD k1.toNatClampNeg 0) + (1 : Int32)).toNatClampNeg 0)) cx st44 V44p hs1 (getD_int xs1 _ 0) d1_48 rfl ?_
    refine E_iconst (pc' := 50) cx st44 (1 : Int32) d1_49 rfl rfl ?_
    refine E_iadd (pc' := 51) cx st44 d1_50 rfl ?_
    refine E_iastore (pc' := 52) (i := (([v0, v1, v2].getD k1.toNatClampNeg 0) + 1).toNatClampNeg) cx st44 V44p hs1 rfl (by rw [List.length_map, l_xs1, hn1]; omega) g_a40 d1_51 rfl ?_
    intro T47 h47 st47 W47 V47
    have Z47 : n0 ≤ h47.size := Nat.le_trans Z44 (Keep.of_wr W47).1
    have K47 : Keep h0 h47 [] := K44.wr W47 (Or.inr sz_a40)
    obtain ⟨xs2, h_xs2⟩ : ∃ z, z = inc xs1 ([v0, v1, v2].getD k1.toNatClampNeg 0) := ⟨_, rfl⟩
    have V47p : Arv Z h47 a40 ca40 .int (5 : Int32) (xs2.map Value.int) (.int (0 : Int32)) := by rw [h_xs2]; rw [show inc xs1 ([v0, v1, v2].getD k1.toNatClampNeg 0) = xs1.set (([v0, v1, v2].getD k1.toNatClampNeg 0) + 1).toNatClampNeg ((xs1.getD (([v0, v1, v2].getD k1.toNatClampNeg 0) + (1 : Int32)).toNatClampNeg 0) + (1 : Int32)) from rfl, List.map_set]; exact V47
    have l_xs2 : xs2.length = 5 := by rw [h_xs2, show inc xs1 ([v0, v1, v2].getD k1.toNatClampNeg 0) = xs1.set (([v0, v1, v2].getD k1.toNatClampNeg 0) + 1).toNatClampNeg ((xs1.getD (([v0, v1, v2].getD k1.toNatClampNeg 0) + (1 : Int32)).toNatClampNeg 0) + (1 : Int32)) from rfl, List.length_set]; exact l_xs1
    refine E_iinc (pc' := 55) (L' := #[.val (.ref b0), .val (.ref b1), .val (.int (4 : Int32)), .val (.ref a40), .val (.int (3 : Int32)), .val (.int (2 : Int32))]) cx st47 (1 : Int32) d1_52 rfl rfl rfl rfl ?_
    refine E_goto (pc' := 22) cx st47 d1_55 (by decide) (by decide) ?_
    refine E_iload (pc' := 24) cx st47 d1_22 rfl rfl ?_
    refine E_iload (pc' := 26) cx st47 d1_24 rfl rfl ?_
    refine E_icmp_geN (pc' := 29) cx st47 d1_26 rfl (by decide) ?_
    refine E_aloadN (pc' := 30) cx st47 d1_29 rfl rfl rfl ?_
    refine E_aloadN (pc' := 31) cx st47 d1_30 rfl rfl rfl ?_
    refine E_aloadN (pc' := 32) cx st47 d1_31 rfl rfl rfl ?_
    refine E_ifnonnullY (pc' := 40) cx st47 d1_32 (by decide) (by decide) ?_
    refine E_aloadN (pc' := 41) cx st47 d1_40 rfl rfl rfl ?_
    refine E_iload (pc' := 43) cx st47 d1_41 rfl rfl ?_
    have V48 : Arv Z h47 b1 kO .int (3 : Int32) [(.int k0), (.int k1), (.int k2)] (.int (0 : Int32)) := (V45.other W47 ne_b1_a40)
    refine E_iaload (pc' := 44) (x := k2) cx st47 V48 ⟨by decide, by decide⟩ rfl d1_43 rfl ?_
    have V49 : Arv Z h47 b0 kI .int (3 : Int32) [(.int v0), (.int v1), (.int v2)] (.int (0 : Int32)) := (V46.other W47 ne_b0_a40)
    refine E_iaload (pc' := 45) (x := ([v0, v1, v2].getD k2.toNatClampNeg 0)) cx st47 V49 hk2 (getD_int [v0, v1, v2] _ 0) d1_44 rfl ?_
    obtain ⟨hs2, hn2⟩ := i32_succ (n := 4) hb2 (by decide)
    have hm2 := (i32_small (n := 4) hb2 (by decide)).1
    refine E_iconst (pc' := 46) cx st47 (1 : Int32) d1_45 rfl rfl ?_
    refine E_iadd (pc' := 47) cx st47 d1_46 rfl ?_
    refine E_dup2 (pc' := 48) cx st47 d1_47 rfl rfl rfl ?_
    refine E_iaload (pc' := 49) (x := (xs2.getD (([v0, v1, v2].getD k2.toNatClampNeg 0) + (1 : Int32)).toNatClampNeg 0)) cx st47 V47p hs2 (getD_int xs2 _ 0) d1_48 rfl ?_
    refine E_iconst (pc' := 50) cx st47 (1 : Int32) d1_49 rfl rfl ?_
    refine E_iadd (pc' := 51) cx st47 d1_50 rfl ?_
    refine E_iastore (pc' := 52) (i := (([v0, v1, v2].getD k2.toNatClampNeg 0) + 1).toNatClampNeg) cx st47 V47p hs2 rfl (by rw [List.length_map, l_xs2, hn2]; omega) g_a40 d1_51 rfl ?_
    intro T50 h50 st50 W50 V50
    have Z50 : n0 ≤ h50.size := Nat.le_trans Z47 (Keep.of_wr W50).1
    have K50 : Keep h0 h50 [] := K47.wr W50 (Or.inr sz_a40)
    obtain ⟨xs3, h_xs3⟩ : ∃ z, z = inc xs2 ([v0, v1, v2].getD k2.toNatClampNeg 0) := ⟨_, rfl⟩
    have V50p : Arv Z h50 a40 ca40 .int (5 : Int32) (xs3.map Value.int) (.int (0 : Int32)) := by rw [h_xs3]; rw [show inc xs2 ([v0, v1, v2].getD k2.toNatClampNeg 0) = xs2.set (([v0, v1, v2].getD k2.toNatClampNeg 0) + 1).toNatClampNeg ((xs2.getD (([v0, v1, v2].getD k2.toNatClampNeg 0) + (1 : Int32)).toNatClampNeg 0) + (1 : Int32)) from rfl, List.map_set]; exact V50
    have l_xs3 : xs3.length = 5 := by rw [h_xs3, show inc xs2 ([v0, v1, v2].getD k2.toNatClampNeg 0) = xs2.set (([v0, v1, v2].getD k2.toNatClampNeg 0) + 1).toNatClampNeg ((xs2.getD (([v0, v1, v2].getD k2.toNatClampNeg 0) + (1 : Int32)).toNatClampNeg 0) + (1 : Int32)) from rfl, List.length_set]; exact l_xs2
    refine E_iinc (pc' := 55) (L' := #[.val (.ref b0), .val (.ref b1), .val (.int (4 : Int32)), .val (.ref a40), .val (.int (3 : Int32)), .val (.int (3 : Int32))]) cx st50 (1 : Int32) d1_52 rfl rfl rfl rfl ?_
    refine E_goto (pc' := 22) cx st50 d1_55 (by decide) (by decide) ?_
    refine E_iload (pc' := 24) cx st50 d1_22 rfl rfl ?_
    refine E_iload (pc' := 26) cx st50 d1_24 rfl rfl ?_
    refine E_icmp_geY (pc' := 58) cx st50 d1_26 (by decide) (by decide) (by decide) ?_
    refine E_iconst (pc' := 59) cx st50 (0 : Int32) d1_58 rfl rfl ?_
    refine E_istore (pc' := 61) (L' := #[.val (.ref b0), .val (.ref b1), .val (.int (4 : Int32)), .val (.ref a40), .val (.int (3 : Int32)), .val (.int (0 : Int32))]) cx st50 d1_59 rfl rfl ?_
    refine E_iload (pc' := 63) cx st50 d1_61 rfl rfl ?_
    refine E_iloadN (pc' := 64) cx st50 d1_63 rfl rfl ?_
    refine E_icmp_geN (pc' := 67) cx st50 d1_64 rfl (by decide) ?_
    refine E_aloadN (pc' := 68) cx st50 d1_67 rfl rfl rfl ?_
    refine E_iload (pc' := 70) cx st50 d1_68 rfl rfl ?_
    refine E_iconst (pc' := 71) cx st50 (1 : Int32) d1_70 rfl rfl ?_
    refine E_iadd (pc' := 72) cx st50 d1_71 rfl ?_
    rw [show ((0 : Int32) + (1 : Int32)) = (1 : Int32) from by decide]
    refine E_dup2 (pc' := 73) cx st50 d1_72 rfl rfl rfl ?_
    refine E_iaload (pc' := 74) (x := (xs3.getD 1 0)) cx st50 V50p ⟨by decide, by decide⟩ (getD_int xs3 _ 0) d1_73 rfl ?_
    refine E_aloadN (pc' := 75) cx st50 d1_74 rfl rfl rfl ?_
    refine E_iload (pc' := 77) cx st50 d1_75 rfl rfl ?_
    refine E_iaload (pc' := 78) (x := (xs3.getD 0 0)) cx st50 V50p ⟨by decide, by decide⟩ (getD_int xs3 _ 0) d1_77 rfl ?_
    refine E_iadd (pc' := 79) cx st50 d1_78 rfl ?_
    refine E_iastore (pc' := 80) (i := 1) cx st50 V50p ⟨by decide, by decide⟩ rfl (by rw [List.length_map, l_xs3]; decide) g_a40 d1_79 rfl ?_
    intro T51 h51 st51 W51 V51
    have Z51 : n0 ≤ h51.size := Nat.le_trans Z50 (Keep.of_wr W51).1
    have K51 : Keep h0 h51 [] := K50.wr W51 (Or.inr sz_a40)
    obtain ⟨ys0, h_ys0⟩ : ∃ z, z = pre xs3 0 := ⟨_, rfl⟩
    have V51p : Arv Z h51 a40 ca40 .int (5 : Int32) (ys0.map Value.int) (.int (0 : Int32)) := by rw [h_ys0]; rw [show pre xs3 0 = xs3.set 1 ((xs3.getD 1 0) + (xs3.getD 0 0)) from rfl, List.map_set]; exact V51
    have l_ys0 : ys0.length = 5 := by rw [h_ys0, show pre xs3 0 = xs3.set 1 ((xs3.getD 1 0) + (xs3.getD 0 0)) from rfl, List.length_set]; exact l_xs3
    refine E_iinc (pc' := 83) (L' := #[.val (.ref b0), .val (.ref b1), .val (.int (4 : Int32)), .val (.ref a40), .val (.int (3 : Int32)), .val (.int (1 : Int32))]) cx st51 (1 : Int32) d1_80 rfl rfl rfl rfl ?_
    refine E_goto (pc' := 61) cx st51 d1_83 (by decide) (by decide) ?_
    refine E_iload (pc' := 63) cx st51 d1_61 rfl rfl ?_
    refine E_iloadN (pc' := 64) cx st51 d1_63 rfl rfl ?_
    refine E_icmp_geN (pc' := 67) cx st51 d1_64 rfl (by decide) ?_
    refine E_aloadN (pc' := 68) cx st51 d1_67 rfl rfl rfl ?_
    refine E_iload (pc' := 70) cx st51 d1_68 rfl rfl ?_
    refine E_iconst (pc' := 71) cx st51 (1 : Int32) d1_70 rfl rfl ?_
    refine E_iadd (pc' := 72) cx st51 d1_71 rfl ?_
    rw [show ((1 : Int32) + (1 : Int32)) = (2 : Int32) from by decide]
    refine E_dup2 (pc' := 73) cx st51 d1_72 rfl rfl rfl ?_
    refine E_iaload (pc' := 74) (x := (ys0.getD 2 0)) cx st51 V51p ⟨by decide, by decide⟩ (getD_int ys0 _ 0) d1_73 rfl ?_
    refine E_aloadN (pc' := 75) cx st51 d1_74 rfl rfl rfl ?_
    refine E_iload (pc' := 77) cx st51 d1_75 rfl rfl ?_
    refine E_iaload (pc' := 78) (x := (ys0.getD 1 0)) cx st51 V51p ⟨by decide, by decide⟩ (getD_int ys0 _ 0) d1_77 rfl ?_
    refine E_iadd (pc' := 79) cx st51 d1_78 rfl ?_
    refine E_iastore (pc' := 80) (i := 2) cx st51 V51p ⟨by decide, by decide⟩ rfl (by rw [List.length_map, l_ys0]; decide) g_a40 d1_79 rfl ?_
    intro T52 h52 st52 W52 V52
    have Z52 : n0 ≤ h52.size := Nat.le_trans Z51 (Keep.of_wr W52).1
    have K52 : Keep h0 h52 [] := K51.wr W52 (Or.inr sz_a40)
    obtain ⟨ys1, h_ys1⟩ : ∃ z, z = pre ys0 1 := ⟨_, rfl⟩
    have V52p : Arv Z h52 a40 ca40 .int (5 : Int32) (ys1.map Value.int) (.int (0 : Int32)) := by rw [h_ys1]; rw [show pre ys0 1 = ys0.set 2 ((ys0.getD 2 0) + (ys0.getD 1 0)) from rfl, List.map_set]; exact V52
    have l_ys1 : ys1.length = 5 := by rw [h_ys1, show pre ys0 1 = ys0.set 2 ((ys0.getD 2 0) + (ys0.getD 1 0)) from rfl, List.length_set]; exact l_ys0
    refine E_iinc (pc' := 83) (L' := #[.val (.ref b0), .val (.ref b1), .val (.int (4 : Int32)), .val (.ref a40), .val (.int (3 : Int32)), .val (.int (2 : Int32))]) cx st52 (1 : Int32) d1_80 rfl rfl rfl rfl ?_
    refine E_goto (pc' := 61) cx st52 d1_83 (by decide) (by decide) ?_
    refine E_iload (pc' := 63) cx st52 d1_61 rfl rfl ?_
    refine E_iloadN (pc' := 64) cx st52 d1_63 rfl rfl ?_
    refine E_icmp_geN (pc' := 67) cx st52 d1_64 rfl (by decide) ?_
    refine E_aloadN (pc' := 68) cx st52 d1_67 rfl rfl rfl ?_
    refine E_iload (pc' := 70) cx st52 d1_68 rfl rfl ?_
    refine E_iconst (pc' := 71) cx st52 (1 : Int32) d1_70 rfl rfl ?_
    refine E_iadd (pc' := 72) cx st52 d1_71 rfl ?_
    rw [show ((2 : Int32) + (1 : Int32)) = (3 : Int32) from by decide]
    refine E_dup2 (pc' := 73) cx st52 d1_72 rfl rfl rfl ?_
    refine E_iaload (pc' := 74) (x := (ys1.getD 3 0)) cx st52 V52p ⟨by decide, by decide⟩ (getD_int ys1 _ 0) d1_73 rfl ?_
    refine E_aloadN (pc' := 75) cx st52 d1_74 rfl rfl rfl ?_
    refine E_iload (pc' := 77) cx st52 d1_75 rfl rfl ?_
    refine E_iaload (pc' := 78) (x := (ys1.getD 2 0)) cx st52 V52p ⟨by decide, by decide⟩ (getD_int ys1 _ 0) d1_77 rfl ?_
    refine E_iadd (pc' := 79) cx st52 d1_78 rfl ?_
    refine E_iastore (pc' := 80) (i := 3) cx st52 V52p ⟨by decide, by decide⟩ rfl (by rw [List.length_map, l_ys1]; decide) g_a40 d1_79 rfl ?_
    intro T53 h53 st53 W53 V53
    have Z53 : n0 ≤ h53.size := Nat.le_trans Z52 (Keep.of_wr W53).1
    have K53 : Keep h0 h53 [] := K52.wr W53 (Or.inr sz_a40)
    obtain ⟨ys2, h_ys2⟩ : ∃ z, z = pre ys1 2 := ⟨_, rfl⟩
    have V53p : Arv Z h53 a40 ca40 .int (5 : Int32) (ys2.map Value.int) (.int (0 : Int32)) := by rw [h_ys2]; rw [show pre ys1 2 = ys1.set 3 ((ys1.getD 3 0) + (ys1.getD 2 0)) from rfl, List.map_set]; exact V53
    have l_ys2 : ys2.length = 5 := by rw [h_ys2, show pre ys1 2 = ys1.set 3 ((ys1.getD 3 0) + (ys1.getD 2 0)) from rfl, List.length_set]; exact l_ys1
    refine E_iinc (pc' := 83) (L' := #[.val (.ref b0), .val (.ref b1), .val (.int (4 : Int32)), .val (.ref a40), .val (.int (3 : Int32)), .val (.int (3 : Int32))]) cx st53 (1 : Int32) d1_80 rfl rfl rfl rfl ?_
    refine E_goto (pc' := 61) cx st53 d1_83 (by decide) (by decide) ?_
    refine E_iload (pc' := 63) cx st53 d1_61 rfl rfl ?_
    refine E_iloadN (pc' := 64) cx st53 d1_63 rfl rfl ?_
    refine E_icmp_geN (pc' := 67) cx st53 d1_64 rfl (by decide) ?_
    refine E_aloadN (pc' := 68) cx st53 d1_67 rfl rfl rfl ?_
    refine E_iload (pc' := 70) cx st53 d1_68 rfl rfl ?_
    refine E_iconst (pc' := 71) cx st53 (1 : Int32) d1_70 rfl rfl ?_
    refine E_iadd (pc' := 72) cx st53 d1_71 rfl ?_
    rw [show ((3 : Int32) + (1 : Int32)) = (4 : Int32) from by decide]
    refine E_dup2 (pc' := 73) cx st53 d1_72 rfl rfl rfl ?_
    refine E_iaload (pc' := 74) (x := (ys2.getD 4 0)) cx st53 V53p ⟨by decide, by decide⟩ (getD_int ys2 _ 0) d1_73 rfl ?_
    refine E_aloadN (pc' := 75) cx st53 d1_74 rfl rfl rfl ?_
    refine E_iload (pc' := 77) cx st53 d1_75 rfl rfl ?_
    refine E_iaload (pc' := 78) (x := (ys2.getD 3 0)) cx st53 V53p ⟨by decide, by decide⟩ (getD_int ys2 _ 0) d1_77 rfl ?_
    refine E_iadd (pc' := 79) cx st53 d1_78 rfl ?_
    refine E_iastore (pc' := 80) (i := 4) cx st53 V53p ⟨by decide, by decide⟩ rfl (by rw [List.length_map, l_ys2]; decide) g_a40 d1_79 rfl ?_
    intro T54 h54 st54 W54 V54
    have Z54 : n0 ≤ h54.size := Nat.le_trans Z53 (Keep.of_wr W54).1
    have K54 : Keep h0 h54 [] := K53.wr W54 (Or.inr sz_a40)
    obtain ⟨ys3, h_ys3⟩ : ∃ z, z = pre ys2 3 := ⟨_, rfl⟩
    have V54p : Arv Z h54 a40 ca40 .int (5 : Int32) (ys3.map Value.int) (.int (0 : Int32)) := by rw [h_ys3]; rw [show pre ys2 3 = ys2.set 4 ((ys2.getD 4 0) + (ys2.getD 3 0)) from rfl, List.map_set]; exact V54
    have l_ys3 : ys3.length = 5 := by rw [h_ys3, show pre ys2 3 = ys2.set 4 ((ys2.getD 4 0) + (ys2.getD 3 0)) from rfl, List.length_set]; exact l_ys2
    refine E_iinc (pc' := 83) (L' := #[.val (.ref b0), .val (.ref b1), .val (.int (4 : Int32)), .val (.ref a40), .val (.int (3 : Int32)), .val (.int (4 : Int32))]) cx st54 (1 : Int32) d1_80 rfl rfl rfl rfl ?_
    refine E_goto (pc' := 61) cx st54 d1_83 (by decide) (by decide) ?_
    refine E_iload (pc' := 63) cx st54 d1_61 rfl rfl ?_
    refine E_iloadN (pc' := 64) cx st54 d1_63 rfl rfl ?_
    refine E_icmp_geY (pc' := 86) cx st54 d1_64 (by decide) (by decide) (by decide) ?_
    refine E_aloadN (pc' := 87) cx st54 d1_86 rfl rfl rfl ?_
    refine E_areturn (t := (.array .int)) cx st54 d1_87 rfl rfl rfl rfl (by decide) (by decide) ?_
    refine ⟨a40, ca40, ys3, rfl, sz_a40, K54, V54p, fun q hq1 hq2 => ?_⟩
    obtain ⟨hq3, hq4⟩ := i32_small (i := q) (n := 5) ⟨hq1, lt_of_le_lit hq2⟩ (by decide)
    rw [h_ys3, h_ys2, h_ys1, h_ys0, h_xs3, h_xs2, h_xs1, h_xs0]
    have f := fin_4_3 ⟨_, hm0⟩ ⟨_, hm1⟩ ⟨_, hm2⟩ ⟨q.toNatClampNeg, hq3⟩
    rw [← (i32_small (n := 4) hb0 (by decide)).2] at f
    rw [← (i32_small (n := 4) hb1 (by decide)).2] at f
    rw [← (i32_small (n := 4) hb2 (by decide)).2] at f
    rw [← hq4] at f
    exact f
theorem P14 (p : Int32) : (1 + (p &&& 3) = 1 ∨ 1 + (p &&& 3) = 2 ∨ 1 + (p &&& 3) = 3 ∨ 1 + (p &&& 3) = (4 : Int32)) := by
  have h := c_mask p 3 2 (by decide) (by decide)
  have e : (1 + (p &&& 3)).toInt = 1 + p.toInt % 4 := by
    rw [Jvm.Free.XT.add32, h]
    · rfl
    · rw [h]; show -2 ^ 31 ≤ 1 + _ ∧ 1 + _ < 2 ^ 31; omega
  have k1 : (1 : Int32).toInt = 1 := rfl
  have k2 : (2 : Int32).toInt = 2 := rfl
  have k3 : (3 : Int32).toInt = 3 := rfl
  have k4 : (4 : Int32).toInt = 4 := rfl
  simp only [← Int32.toInt_inj, e, k1, k2, k3, k4]; omega
theorem M03 (p : Int32) : ((p &&& 3) = 0 ∨ (p &&& 3) = 1 ∨ (p &&& 3) = 2 ∨ (p &&& 3) = (3 : Int32)) := by
  have h := c_mask p 3 2 (by decide) (by decide)
  have k0 : (0 : Int32).toInt = 0 := rfl
  have k1 : (1 : Int32).toInt = 1 := rfl
  have k2 : (2 : Int32).toInt = 2 := rfl
  have k3 : (3 : Int32).toInt = 3 := rfl
  simp only [← Int32.toInt_inj, h, k0, k1, k2, k3]; omega
theorem vP (x P : Int32) (hP : P = 1 ∨ P = 2 ∨ P = 3 ∨ P = 4) : ¬ ((x &&& 2147483647) % P) < 0 ∧ ((x &&& 2147483647) % P) < P := by
  have h := (c_and x 2147483647 (by decide)).1
  rcases hP with rfl | rfl | rfl | rfl
  · exact i32_rem _ 1 h (by decide) (by decide)
  · exact i32_rem _ 2 h (by decide) (by decide)
  · exact i32_rem _ 3 h (by decide) (by decide)
  · exact i32_rem _ 4 h (by decide) (by decide)
theorem k3 (x : Int32) : ¬ ((x &&& 255) % 3) < 0 ∧ ((x &&& 255) % 3) < 3 := i32_rem _ 3 (c_and x 255 (by decide)).1 (by decide) (by decide)
theorem get3 {P v0 v1 v2 k : Int32} (hk : ¬ k < 0 ∧ k < 3) (h0 : ¬ v0 < 0 ∧ v0 < P) (h1 : ¬ v1 < 0 ∧ v1 < P) (h2 : ¬ v2 < 0 ∧ v2 < P) : ¬ ([v0, v1, v2].getD k.toNatClampNeg 0) < 0 ∧ ([v0, v1, v2].getD k.toNatClampNeg 0) < P := by
  have q := (i32_small (n := 3) hk (by decide)).1
  generalize k.toNatClampNeg = i at q
  match i, q with
  | 0, _ => exact h0
  | 1, _ => exact h1
  | 2, _ => exact h2
theorem atq {P q : Int32} (hP : P = 1 ∨ P = 2 ∨ P = 3 ∨ P = 4) (h0 : ¬ q < 0) (h1 : ¬ P < q) : ¬ q < 0 ∧ q < P + 1 := by
  rcases hP with rfl | rfl | rfl | rfl <;> exact ⟨h0, lt_of_le_lit h1⟩
theorem ef_0 (m : MethodId) (x0 : Int32) (x1 : Int32) (x2 : Int32) (x3 : Int32) (x4 : Int32) (x5 : Int32) : entryFrame m #[(.int x0), (.int x1), (.int x2), (.int x3), (.int x4), (.int x5)] maxLocals = mkF m 0 #[.val (.int x0), .val (.int x1), .val (.int x2), .val (.int x3), .val (.int x4), .val (.int x5), .unset, .unset, .unset, .unset, .unset, .unset, .unset, .unset, .unset, .unset, .unset, .unset, .unset, .unset, .unset, .unset, .unset, .unset, .unset] [] := by first | (simp [entryFrame, mkF, argsToLocals, Value.category, maxLocals]; done) | rfl
theorem pd_1 : parseMethodDescriptor "([I[II)[I" = some ⟨[(.array .int), (.array .int), .int], some (.array .int)⟩ := by decide +kernel
theorem pd_2 : parseMethodDescriptor "([IIIIIII)Z" = some ⟨[(.array .int), .int, .int, .int, .int, .int, .int], some .boolean⟩ := by decide +kernel
set_option maxRecDepth 65536 in
set_option maxHeartbeats 40000000 in
theorem rm0 (l : Launch) (Z : State) (a0 : Array Value) (hw : ∀ d ∈ tables_1, d.before a0 Z = true) (p0 : Int32) (p1 : Int32) (p2 : Int32) (p3 : Int32) (p4 : Int32) (p5 : Int32) (h0 : Heap) (n0 : Nat) (Z0 : n0 ≤ h0.size) :
    Con l Z x code maxLocals ret room_1 #[(.int p0), (.int p1), (.int p2), (.int p3), (.int p4), (.int p5)] h0 n0 (fun v h => v = some (.int 1)) := by
  refine Con.of (own := "org/querne/rdf/CountingSortStartsPinLaw") (name := "law") (plainFor_of_name pn_0) (fun m => ef_0 m p0 p1 p2 p3 p4 p5) rfl rfl ?_
  intro p e s m below meth c T F S cx st
  refine E_iconst (pc' := 1) cx st (1 : Int32) at_0 rfl rfl ?_
  refine E_iloadN (pc' := 2) cx st at_1 rfl rfl ?_
  refine E_iconst (pc' := 3) cx st (3 : Int32) at_2 rfl rfl ?_
  refine E_iand (pc' := 4) cx st at_3 rfl ?_
  refine E_iadd (pc' := 5) cx st at_4 rfl ?_
  generalize hu1 : ((1 : Int32) + (p0 &&& (3 : Int32))) = u1
  refine E_istore (pc' := 7) (L' := #[.val (.int p0), .val (.int p1), .val (.int p2), .val (.int p3), .val (.int p4), .val (.int p5), .val (.int u1), .unset, .unset, .unset, .unset, .unset, .unset, .unset, .unset, .unset, .unset, .unset, .unset, .unset, .unset, .unset, .unset, .unset, .unset]) cx st at_5 rfl rfl ?_
  refine E_iloadN (pc' := 8) cx st at_7 rfl rfl ?_
  refine E_ldc (pc' := 10) (v := (2147483647 : Int32)) cx st (hw _ (List.mem_of_getElem? (i := 0) rfl)) at_8 rfl ?_
  refine E_iand (pc' := 11) cx st at_10 rfl ?_
  have hP := P14 p0
  rw [hu1] at hP
  have hPz : u1 ≠ 0 := by rcases hP with rfl | rfl | rfl | rfl <;> decide
  refine E_iload (pc' := 13) cx st at_11 rfl rfl ?_
  refine E_irem (pc' := 14) cx st at_13 hPz rfl ?_
  generalize hu2 : ((p1 &&& (2147483647 : Int32)) % u1) = u2
  refine E_istore (pc' := 16) (L' := #[.val (.int p0), .val (.int p1), .val (.int p2), .val (.int p3), .val (.int p4), .val (.int p5), .val (.int u1), .val (.int u2), .unset, .unset, .unset, .unset, .unset, .unset, .unset, .unset, .unset, .unset, .unset, .unset, .unset, .unset, .unset, .unset, .unset]) cx st at_14 rfl rfl ?_
  refine E_iloadN (pc' := 17) cx st at_16 rfl rfl ?_
  refine E_ldc (pc' := 19) (v := (2147483647 : Int32)) cx st (hw _ (List.mem_of_getElem? (i := 0) rfl)) at_17 rfl ?_
  refine E_iand (pc' := 20) cx st at_19 rfl ?_
  refine E_iload (pc' := 22) cx st at_20 rfl rfl ?_
  refine E_irem (pc' := 23) cx st at_22 hPz rfl ?_
  generalize hu3 : ((p2 &&& (2147483647 : Int32)) % u1) = u3
  refine E_istore (pc' := 25) (L' := #[.val (.int p0), .val (.int p1), .val (.int p2), .val (.int p3), .val (.int p4), .val (.int p5), .val (.int u1), .val (.int u2), .val (.int u3), .unset, .unset, .unset, .unset, .unset, .unset, .unset, .unset, .unset, .unset, .unset, .unset, .unset, .unset, .unset, .unset]) cx st at_23 rfl rfl ?_
  refine E_iloadN (pc' := 26) cx st at_25 rfl rfl ?_
  refine E_ldc (pc' := 28) (v := (2147483647 : Int32)) cx st (hw _ (List.mem_of_getElem? (i := 0) rfl)) at_26 rfl ?_
  refine E_iand (pc' := 29) cx st at_28 rfl ?_
  refine E_iload (pc' := 31) cx st at_29 rfl rfl ?_
  refine E_irem (pc' := 32) cx st at_31 hPz rfl ?_
  generalize hu4 : ((p3 &&& (2147483647 : Int32)) % u1) = u4
  refine E_istore (pc' := 34) (L' := #[.val (.int p0), .val (.int p1), .val (.int p2), .val (.int p3), .val (.int p4), .val (.int p5), .val (.int u1), .val (.int u2), .val (.int u3), .val (.int u4), .unset, .unset, .unset, .unset, .unset, .unset, .unset, .unset, .unset, .unset, .unset, .unset, .unset, .unset, .unset]) cx st at_32 rfl rfl ?_
  refine E_iconst (pc' := 35) cx st (3 : Int32) at_34 rfl rfl ?_
  refine E_newP (pc' := 37) (kc' := 1) (ks' := 3) (cap := 3) cx st (hw _ (List.mem_of_getElem? (i := 1) rfl)) at_35 (by decide) (by decide) (by decide) (by decide) (by decide) (by decide) (by decide) rfl (ad := "[I") (by decide) ?_
  intro T5 h5 ca5 a5 q5 st5 E5 V5 X5
  have g_a5 : n0 ≤ a5 := by rw [q5]; exact Z0
  have Z5 : n0 ≤ h5.size := Nat.le_trans Z0 E5.1
  have V5p : Arv Z h5 a5 ca5 .int (3 : Int32) [(.int (0 : Int32)), (.int (0 : Int32)), (.int (0 : Int32))] (.int (0 : Int32)) := V5.pad (pad_rep [] (.int (0 : Int32)) 3)
  refine E_dup (pc' := 38) cx st5 at_37 rfl rfl ?_
  refine E_iconst (pc' := 39) cx st5 (0 : Int32) at_38 rfl rfl ?_
  refine E_iload (pc' := 41) cx st5 at_39 rfl rfl ?_
  refine E_iastore (pc' := 42) (i := 0) cx st5 V5p ⟨by decide, by decide⟩ rfl (Nat.le_of_ble_eq_true rfl) g_a5 at_41 rfl ?_
  intro T6 h6 st6 W6 V6
  have Z6 : n0 ≤ h6.size := Nat.le_trans Z5 (Keep.of_wr W6).1
  have V6p : Arv Z h6 a5 ca5 .int (3 : Int32) [(.int u2), (.int (0 : Int32)), (.int (0 : Int32))] (.int (0 : Int32)) := V6
  refine E_dup (pc' := 43) cx st6 at_42 rfl rfl ?_
  refine E_iconst (pc' := 44) cx st6 (1 : Int32) at_43 rfl rfl ?_
  refine E_iload (pc' := 46) cx st6 at_44 rfl rfl ?_
  refine E_iastore (pc' := 47) (i := 1) cx st6 V6p ⟨by decide, by decide⟩ rfl (Nat.le_of_ble_eq_true rfl) g_a5 at_46 rfl ?_
  intro T7 h7 st7 W7 V7
  have Z7 : n0 ≤ h7.size := Nat.le_trans Z6 (Keep.of_wr W7).1
  have V7p : Arv Z h7 a5 ca5 .int (3 : Int32) [(.int u2), (.int u3), (.int (0 : Int32))] (.int (0 : Int32)) := V7
  refine E_dup (pc' := 48) cx st7 at_47 rfl rfl ?_
  refine E_iconst (pc' := 49) cx st7 (2 : Int32) at_48 rfl rfl ?_
  refine E_iload (pc' := 51) cx st7 at_49 rfl rfl ?_
  refine E_iastore (pc' := 52) (i := 2) cx st7 V7p ⟨by decide, by decide⟩ rfl (Nat.le_of_ble_eq_true rfl) g_a5 at_51 rfl ?_
  intro T8 h8 st8 W8 V8
  have Z8 : n0 ≤ h8.size := Nat.le_trans Z7 (Keep.of_wr W8).1
  have V8p : Arv Z h8 a5 ca5 .int (3 : Int32) [(.int u2), (.int u3), (.int u4)] (.int (0 : Int32)) := V8
  refine E_astore (pc' := 54) (L' := #[.val (.int p0), .val (.int p1), .val (.int p2), .val (.int p3), .val (.int p4), .val (.int p5), .val (.int u1), .val (.int u2), .val (.int u3), .val (.int u4), .val (.ref a5), .unset, .unset, .unset, .unset, .unset, .unset, .unset, .unset, .unset, .unset, .unset, .unset, .unset, .unset]) cx st8 at_52 rfl rfl rfl ?_
  refine E_iload (pc' := 56) cx st8 at_54 rfl rfl ?_
  refine E_sipush (pc' := 59) cx st8 (255 : Int32) at_56 rfl rfl ?_
  refine E_iand (pc' := 60) cx st8 at_59 rfl ?_
  refine E_iconst (pc' := 61) cx st8 (3 : Int32) at_60 rfl rfl ?_
  refine E_irem (pc' := 62) cx st8 at_61 (by decide) rfl ?_
  generalize hu9 : ((p4 &&& (255 : Int32)) % (3 : Int32)) = u9
  refine E_istore (pc' := 64) (L' := #[.val (.int p0), .val (.int p1), .val (.int p2), .val (.int p3), .val (.int p4), .val (.int p5), .val (.int u1), .val (.int u2), .val (.int u3), .val (.int u4), .val (.ref a5), .val (.int u9), .unset, .unset, .unset, .unset, .unset, .unset, .unset, .unset, .unset, .unset, .unset, .unset, .unset]) cx st8 at_62 rfl rfl ?_
  refine E_iload (pc' := 66) cx st8 at_64 rfl rfl ?_
  refine E_bipush (pc' := 68) cx st8 (8 : Int32) at_66 rfl rfl ?_
  refine E_iushr (pc' := 69) cx st8 at_68 rfl ?_
  refine E_sipush (pc' := 72) cx st8 (255 : Int32) at_69 rfl rfl ?_
  refine E_iand (pc' := 73) cx st8 at_72 rfl ?_
  refine E_iconst (pc' := 74) cx st8 (3 : Int32) at_73 rfl rfl ?_
  refine E_irem (pc' := 75) cx st8 at_74 (by decide) rfl ?_
  generalize hu10 : ((((p4.toUInt32 >>> ((8 : Int32) &&& 31).toUInt32).toInt32) &&& (255 : Int32)) % (3 : Int32)) = u10
  refine E_istore (pc' := 77) (L' := #[.val (.int p0), .val (.int p1), .val (.int p2), .val (.int p3), .val (.int p4), .val (.int p5), .val (.int u1), .val (.int u2), .val (.int u3), .val (.int u4), .val (.ref a5), .val (.int u9), .val (.int u10), .unset, .unset, .unset, .unset, .unset, .unset, .unset, .unset, .unset, .unset, .unset, .unset]) cx st8 at_75 rfl rfl ?_
  refine E_iload (pc' := 79) cx st8 at_77 rfl rfl ?_
  refine E_bipush (pc' := 81) cx st8 (16 : Int32) at_79 rfl rfl ?_
  refine E_iushr (pc' := 82) cx st8 at_81 rfl ?_
  refine E_sipush (pc' := 85) cx st8 (255 : Int32) at_82 rfl rfl ?_
  refine E_iand (pc' := 86) cx st8 at_85 rfl ?_
  refine E_iconst (pc' := 87) cx st8 (3 : Int32) at_86 rfl rfl ?_
  refine E_irem (pc' := 88) cx st8 at_87 (by decide) rfl ?_
  generalize hu11 : ((((p4.toUInt32 >>> ((16 : Int32) &&& 31).toUInt32).toInt32) &&& (255 : Int32)) % (3 : Int32)) = u11
  refine E_istore (pc' := 90) (L' := #[.val (.int p0), .val (.int p1), .val (.int p2), .val (.int p3), .val (.int p4), .val (.int p5), .val (.int u1), .val (.int u2), .val (.int u3), .val (.int u4), .val (.ref a5), .val (.int u9), .val (.int u10), .val (.int u11), .unset, .unset, .unset, .unset, .unset, .unset, .unset, .unset, .unset, .unset, .unset]) cx st8 at_88 rfl rfl ?_
  refine E_iconst (pc' := 91) cx st8 (0 : Int32) at_90 rfl rfl ?_
  refine E_newP (pc' := 93) (kc' := 2) (ks' := 3) (cap := 0) cx st8 (hw _ (List.mem_of_getElem? (i := 1) rfl)) at_91 (by decide) (by decide) (by decide) (by decide) (by decide) (by decide) (by decide) rfl (ad := "[I") (by decide) ?_
  intro T12 h12 ca12 a12 q12 st12 E12 V12 X12
  have g_a12 : n0 ≤ a12 := by rw [q12]; exact Z8
  have ne_a5_a12 : a5 ≠ a12 := by rw [q12]; exact Nat.ne_of_lt V8p.lt
  have Z12 : n0 ≤ h12.size := Nat.le_trans Z8 E12.1
  have V12p : Arv Z h12 a12 ca12 .int (0 : Int32) [] (.int (0 : Int32)) := V12.pad (pad_rep [] (.int (0 : Int32)) 0)
  refine E_astore (pc' := 95) (L' := #[.val (.int p0), .val (.int p1), .val (.int p2), .val (.int p3), .val (.int p4), .val (.int p5), .val (.int u1), .val (.int u2), .val (.int u3), .val (.int u4), .val (.ref a5), .val (.int u9), .val (.int u10), .val (.int u11), .val (.ref a12), .unset, .unset, .unset, .unset, .unset, .unset, .unset, .unset, .unset, .unset]) cx st12 at_93 rfl rfl rfl ?_
  refine E_iconst (pc' := 96) cx st12 (1 : Int32) at_95 rfl rfl ?_
  have V13 : Arv Z h12 a5 ca5 .int (3 : Int32) [(.int u2), (.int u3), (.int u4)] (.int (0 : Int32)) := (V8p.ext E12)
  refine E_newP (pc' := 98) (kc' := 3) (ks' := 4) (cap := 1) cx st12 (hw _ (List.mem_of_getElem? (i := 1) rfl)) at_96 (by decide) (by decide) (by decide) (by decide) (by decide) (by decide) (by decide) rfl (ad := "[I") (by decide) ?_
  intro T14 h14 ca14 a14 q14 st14 E14 V14 X14
  have g_a14 : n0 ≤ a14 := by rw [q14]; exact Z12
  have ne_a5_a14 : a5 ≠ a14 := by rw [q14]; exact Nat.ne_of_lt V13.lt
  have ne_a12_a14 : a12 ≠ a14 := by rw [q14]; exact Nat.ne_of_lt V12p.lt
  have Z14 : n0 ≤ h14.size := Nat.le_trans Z12 E14.1
  have V14p : Arv Z h14 a14 ca14 .int (1 : Int32) [(.int (0 : Int32))] (.int (0 : Int32)) := V14.pad (pad_rep [] (.int (0 : Int32)) 1)
  refine E_dup (pc' := 99) cx st14 at_98 rfl rfl ?_
  refine E_iconst (pc' := 100) cx st14 (0 : Int32) at_99 rfl rfl ?_
  refine E_iload (pc' := 102) cx st14 at_100 rfl rfl ?_
  refine E_iastore (pc' := 103) (i := 0) cx st14 V14p ⟨by decide, by decide⟩ rfl (Nat.le_of_ble_eq_true rfl) g_a14 at_102 rfl ?_
  intro T15 h15 st15 W15 V15
  have Z15 : n0 ≤ h15.size := Nat.le_trans Z14 (Keep.of_wr W15).1
  have V15p : Arv Z h15 a14 ca14 .int (1 : Int32) [(.int u9)] (.int (0 : Int32)) := V15
  refine E_astore (pc' := 105) (L' := #[.val (.int p0), .val (.int p1), .val (.int p2), .val (.int p3), .val (.int p4), .val (.int p5), .val (.int u1), .val (.int u2), .val (.int u3), .val (.int u4), .val (.ref a5), .val (.int u9), .val (.int u10), .val (.int u11), .val (.ref a12), .val (.ref a14), .unset, .unset, .unset, .unset, .unset, .unset, .unset, .unset, .unset]) cx st15 at_103 rfl rfl rfl ?_
  refine E_iconst (pc' := 106) cx st15 (3 : Int32) at_105 rfl rfl ?_
  have V16 : Arv Z h15 a5 ca5 .int (3 : Int32) [(.int u2), (.int u3), (.int u4)] (.int (0 : Int32)) := ((V13.ext E14).other W15 ne_a5_a14)
  have V17 : Arv Z h15 a12 ca12 .int (0 : Int32) [] (.int (0 : Int32)) := ((V12p.ext E14).other W15 ne_a12_a14)
  refine E_newP (pc' := 108) (kc' := 4) (ks' := 7) (cap := 3) cx st15 (hw _ (List.mem_of_getElem? (i := 1) rfl)) at_106 (by decide) (by decide) (by decide) (by decide) (by decide) (by decide) (by decide) rfl (ad := "[I") (by decide) ?_
  intro T18 h18 ca18 a18 q18 st18 E18 V18 X18
  have g_a18 : n0 ≤ a18 := by rw [q18]; exact Z15
  have ne_a5_a18 : a5 ≠ a18 := by rw [q18]; exact Nat.ne_of_lt V16.lt
  have ne_a12_a18 : a12 ≠ a18 := by rw [q18]; exact Nat.ne_of_lt V17.lt
  have ne_a14_a18 : a14 ≠ a18 := by rw [q18]; exact Nat.ne_of_lt V15p.lt
  have Z18 : n0 ≤ h18.size := Nat.le_trans Z15 E18.1
  have V18p : Arv Z h18 a18 ca18 .int (3 : Int32) [(.int (0 : Int32)), (.int (0 : Int32)), (.int (0 : Int32))] (.int (0 : Int32)) := V18.pad (pad_rep [] (.int (0 : Int32)) 3)
  refine E_dup (pc' := 109) cx st18 at_108 rfl rfl ?_
  refine E_iconst (pc' := 110) cx st18 (0 : Int32) at_109 rfl rfl ?_
  refine E_iload (pc' := 112) cx st18 at_110 rfl rfl ?_
  refine E_iastore (pc' := 113) (i := 0) cx st18 V18p ⟨by decide, by decide⟩ rfl (Nat.le_of_ble_eq_true rfl) g_a18 at_112 rfl ?_
  intro T19 h19 st19 W19 V19
  have Z19 : n0 ≤ h19.size := Nat.le_trans Z18 (Keep.of_wr W19).1
  have V19p : Arv Z h19 a18 ca18 .int (3 : Int32) [(.int u9), (.int (0 : Int32)), (.int (0 : Int32))] (.int (0 : Int32)) := V19
  refine E_dup (pc' := 114) cx st19 at_113 rfl rfl ?_
  refine E_iconst (pc' := 115) cx st19 (1 : Int32) at_114 rfl rfl ?_
  refine E_iload (pc' := 117) cx st19 at_115 rfl rfl ?_
  refine E_iastore (pc' := 118) (i := 1) cx st19 V19p ⟨by decide, by decide⟩ rfl (Nat.le_of_ble_eq_true rfl) g_a18 at_117 rfl ?_
  intro T20 h20 st20 W20 V20
  have Z20 : n0 ≤ h20.size := Nat.le_trans Z19 (Keep.of_wr W20).1
  have V20p : Arv Z h20 a18 ca18 .int (3 : Int32) [(.int u9), (.int u10), (.int (0 : Int32))] (.int (0 : Int32)) := V20
  refine E_dup (pc' := 119) cx st20 at_118 rfl rfl ?_
  refine E_iconst (pc' := 120) cx st20 (2 : Int32) at_119 rfl rfl ?_
  refine E_iload (pc' := 122) cx st20 at_120 rfl rfl ?_
  refine E_iastore (pc' := 123) (i := 2) cx st20 V20p ⟨by decide, by decide⟩ rfl (Nat.le_of_ble_eq_true rfl) g_a18 at_122 rfl ?_
  intro T21 h21 st21 W21 V21
  have Z21 : n0 ≤ h21.size := Nat.le_trans Z20 (Keep.of_wr W21).1
  have V21p : Arv Z h21 a18 ca18 .int (3 : Int32) [(.int u9), (.int u10), (.int u11)] (.int (0 : Int32)) := V21
  refine E_astore (pc' := 125) (L' := #[.val (.int p0), .val (.int p1), .val (.int p2), .val (.int p3), .val (.int p4), .val (.int p5), .val (.int u1), .val (.int u2), .val (.int u3), .val (.int u4), .val (.ref a5), .val (.int u9), .val (.int u10), .val (.int u11), .val (.ref a12), .val (.ref a14), .val (.ref a18), .unset, .unset, .unset, .unset, .unset, .unset, .unset, .unset]) cx st21 at_123 rfl rfl rfl ?_
  refine E_iload (pc' := 127) cx st21 at_125 rfl rfl ?_
  refine E_iconst (pc' := 128) cx st21 (3 : Int32) at_127 rfl rfl ?_
  refine E_iand (pc' := 129) cx st21 at_128 rfl ?_
  generalize hu22 : (p5 &&& (3 : Int32)) = u22
  refine E_istore (pc' := 131) (L' := #[.val (.int p0), .val (.int p1), .val (.int p2), .val (.int p3), .val (.int p4), .val (.int p5), .val (.int u1), .val (.int u2), .val (.int u3), .val (.int u4), .val (.ref a5), .val (.int u9), .val (.int u10), .val (.int u11), .val (.ref a12), .val (.ref a14), .val (.ref a18), .val (.int u22), .unset, .unset, .unset, .unset, .unset, .unset, .unset]) cx st21 at_129 rfl rfl ?_
  refine E_iconst (pc' := 132) cx st21 (0 : Int32) at_131 rfl rfl ?_
  refine E_istore (pc' := 134) (L' := #[.val (.int p0), .val (.int p1), .val (.int p2), .val (.int p3), .val (.int p4), .val (.int p5), .val (.int u1), .val (.int u2), .val (.int u3), .val (.int u4), .val (.ref a5), .val (.int u9), .val (.int u10), .val (.int u11), .val (.ref a12), .val (.ref a14), .val (.ref a18), .val (.int u22), .unset, .unset, .val (.int (0 : Int32)), .unset, .unset, .unset, .unset]) cx st21 at_132 rfl rfl ?_
  refine E_iconst (pc' := 135) cx st21 (0 : Int32) at_134 rfl rfl ?_
  refine E_istore (pc' := 137) (L' := #[.val (.int p0), .val (.int p1), .val (.int p2), .val (.int p3), .val (.int p4), .val (.int p5), .val (.int u1), .val (.int u2), .val (.int u3), .val (.int u4), .val (.ref a5), .val (.int u9), .val (.int u10), .val (.int u11), .val (.ref a12), .val (.ref a14), .val (.ref a18), .val (.int u22), .unset, .unset, .val (.int (0 : Int32)), .val (.int (0 : Int32)), .unset, .unset, .unset]) cx st21 at_135 rfl rfl ?_
  refine E_iconst (pc' := 138) cx st21 (0 : Int32) at_137 rfl rfl ?_
  refine E_istore (pc' := 140) (L' := #[.val (.int p0), .val (.int p1), .val (.int p2), .val (.int p3), .val (.int p4), .val (.int p5), .val (.int u1), .val (.int u2), .val (.int u3), .val (.int u4), .val (.ref a5), .val (.int u9), .val (.int u10), .val (.int u11), .val (.ref a12), .val (.ref a14), .val (.ref a18), .val (.int u22), .unset, .unset, .val (.int (0 : Int32)), .val (.int (0 : Int32)), .val (.int (0 : Int32)), .unset, .unset]) cx st21 at_138 rfl rfl ?_
  have hb0 := vP p1 u1 hP
  rw [hu2] at hb0
  have hk0 := k3 p4
  rw [hu9] at hk0
  have hb1 := vP p2 u1 hP
  rw [hu3] at hb1
  have hk1 := k3 ((p4.toUInt32 >>> ((8 : Int32) &&& 31).toUInt32).toInt32)
  rw [hu10] at hk1
  have hb2 := vP p3 u1 hP
  rw [hu4] at hb2
  have hk2 := k3 ((p4.toUInt32 >>> ((16 : Int32) &&& 31).toUInt32).toInt32)
  rw [hu11] at hk2
  have hw0 := get3 hk0 hb0 hb1 hb2
  have hw1 := get3 hk1 hb0 hb1 hb2
  have hw2 := get3 hk2 hb0 hb1 hb2
  have hm := M03 p5
  rw [hu22] at hm
  rcases hm with rfl | rfl | rfl | rfl
  · refine E_iload (pc' := 142) cx st21 at_140 rfl rfl ?_
    refine E_if_neN (pc' := 145) cx st21 at_142 rfl (by decide) ?_
    refine E_aconst_null (pc' := 146) cx st21 at_145 rfl ?_
    refine E_astore (pc' := 148) (L' := #[.val (.int p0), .val (.int p1), .val (.int p2), .val (.int p3), .val (.int p4), .val (.int p5), .val (.int u1), .val (.int u2), .val (.int u3), .val (.int u4), .val (.ref a5), .val (.int u9), .val (.int u10), .val (.int u11), .val (.ref a12), .val (.ref a14), .val (.ref a18), .val (.int (0 : Int32)), .val .null, .unset, .val (.int (0 : Int32)), .val (.int (0 : Int32)), .val (.int (0 : Int32)), .unset, .unset]) cx st21 at_146 rfl rfl rfl ?_
    refine E_iconst (pc' := 149) cx st21 (3 : Int32) at_148 rfl rfl ?_
    refine E_istore (pc' := 151) (L' := #[.val (.int p0), .val (.int p1), .val (.int p2), .val (.int p3), .val (.int p4), .val (.int p5), .val (.int u1), .val (.int u2), .val (.int u3), .val (.int u4), .val (.ref a5), .val (.int u9), .val (.int u10), .val (.int u11), .val (.ref a12), .val (.ref a14), .val (.ref a18), .val (.int (0 : Int32)), .val .null, .val (.int (3 : Int32)), .val (.int (0 : Int32)), .val (.int (0 : Int32)), .val (.int (0 : Int32)), .unset, .unset]) cx st21 at_149 rfl rfl ?_
    refine E_iload (pc' := 153) cx st21 at_151 rfl rfl ?_
    refine E_istore (pc' := 155) (L' := #[.val (.int p0), .val (.int p1), .val (.int p2), .val (.int p3), .val (.int p4), .val (.int p5), .val (.int u1), .val (.int u2), .val (.int u3), .val (.int u4), .val (.ref a5), .val (.int u9), .val (.int u10), .val (.int u11), .val (.ref a12), .val (.ref a14), .val (.ref a18), .val (.int (0 : Int32)), .val .null, .val (.int (3 : Int32)), .val (.int u2), .val (.int (0 : Int32)), .val (.int (0 : Int32)), .unset, .unset]) cx st21 at_153 rfl rfl ?_
    refine E_iload (pc' := 157) cx st21 at_155 rfl rfl ?_
    refine E_istore (pc' := 159) (L' := #[.val (.int p0), .val (.int p1), .val (.int p2), .val (.int p3), .val (.int p4), .val (.int p5), .val (.int u1), .val (.int u2), .val (.int u3), .val (.int u4), .val (.ref a5), .val (.int u9), .val (.int u10), .val (.int u11), .val (.ref a12), .val (.ref a14), .val (.ref a18), .val (.int (0 : Int32)), .val .null, .val (.int (3 : Int32)), .val (.int u2), .val (.int u3), .val (.int (0 : Int32)), .unset, .unset]) cx st21 at_157 rfl rfl ?_
    refine E_iload (pc' := 161) cx st21 at_159 rfl rfl ?_
    refine E_istore (pc' := 163) (L' := #[.val (.int p0), .val (.int p1), .val (.int p2), .val (.int p3), .val (.int p4), .val (.int p5), .val (.int u1), .val (.int u2), .val (.int u3), .val (.int u4), .val (.ref a5), .val (.int u9), .val (.int u10), .val (.int u11), .val (.ref a12), .val (.ref a14), .val (.ref a18), .val (.int (0 : Int32)), .val .null, .val (.int (3 : Int32)), .val (.int u2), .val (.int u3), .val (.int u4), .unset, .unset]) cx st21 at_161 rfl rfl ?_
    refine E_goto (pc' := 233) cx st21 at_163 (by decide) (by decide) ?_
    refine E_aload (pc' := 235) cx st21 at_233 rfl rfl rfl ?_
    refine E_aload (pc' := 237) cx st21 at_235 rfl rfl rfl ?_
    refine E_iload (pc' := 239) cx st21 at_237 rfl rfl ?_
    have V23 : Arv Z h21 a5 ca5 .int (3 : Int32) [(.int u2), (.int u3), (.int u4)] (.int (0 : Int32)) := ((((V16.ext E18).other W19 ne_a5_a18).other W20 ne_a5_a18).other W21 ne_a5_a18)
    have V24 : Arv Z h21 a12 ca12 .int (0 : Int32) [] (.int (0 : Int32)) := ((((V17.ext E18).other W19 ne_a12_a18).other W20 ne_a12_a18).other W21 ne_a12_a18)
    have V25 : Arv Z h21 a14 ca14 .int (1 : Int32) [(.int u9)] (.int (0 : Int32)) := ((((V15p.ext E18).other W19 ne_a14_a18).other W20 ne_a14_a18).other W21 ne_a14_a18)
    refine E_callS (pc' := 242) (kc' := 5) (ks' := 12) (W := 0) (argsL := [(.ref a5), .null, (.int u1)]) cx st21 [] (rm1m0 l Z a0 hw a5 u1 u2 u3 u4 h21 n0 Z21 ca5 V23 hP hb0 hb1 hb2) (hw _ (List.mem_of_getElem? (i := 2) rfl)) (hw _ (List.mem_of_getElem? (i := 3) rfl)) (hw _ (List.mem_of_getElem? (i := 4) rfl)) (hw _ (List.mem_of_getElem? (i := 5) rfl)) at_239 rfl rfl (lenOf pd_1 rfl) (Nat.le_of_eq rfl) (by decide) (by decide) (by decide) (by decide) (by decide) (by decide) (by decide) rfl ?_
    intro v26 T26 h26 st26 hq26
    obtain ⟨r, kr, rs, rfl, hsz, K26, VR, hR⟩ := hq26
    have ne_a5_r : a5 ≠ r := Nat.ne_of_lt (Nat.lt_of_lt_of_le V23.lt hsz)
    have ne_a12_r : a12 ≠ r := Nat.ne_of_lt (Nat.lt_of_lt_of_le V24.lt hsz)
    have ne_a14_r : a14 ≠ r := Nat.ne_of_lt (Nat.lt_of_lt_of_le V25.lt hsz)
    have ne_a18_r : a18 ≠ r := Nat.ne_of_lt (Nat.lt_of_lt_of_le V21p.lt hsz)
    have Z26 : n0 ≤ h26.size := Nat.le_trans Z21 K26.1
    refine E_astore (pc' := 244) (L' := #[.val (.int p0), .val (.int p1), .val (.int p2), .val (.int p3), .val (.int p4), .val (.int p5), .val (.int u1), .val (.int u2), .val (.int u3), .val (.int u4), .val (.ref a5), .val (.int u9), .val (.int u10), .val (.int u11), .val (.ref a12), .val (.ref a14), .val (.ref a18), .val (.int (0 : Int32)), .val .null, .val (.int (3 : Int32)), .val (.int u2), .val (.int u3), .val (.int u4), .val (.ref r), .unset]) cx st26 at_242 rfl rfl rfl ?_
    refine E_aload (pc' := 246) cx st26 at_244 rfl rfl rfl ?_
    refine E_ifnullN (pc' := 249) cx st26 at_246 rfl ?_
    refine E_aload (pc' := 251) cx st26 at_249 rfl rfl rfl ?_
    refine E_arraylength (pc' := 252) cx st26 VR at_251 rfl ?_
    refine E_iload (pc' := 254) cx st26 at_252 rfl rfl ?_
    refine E_iconst (pc' := 255) cx st26 (1 : Int32) at_254 rfl rfl ?_
    refine E_iadd (pc' := 256) cx st26 at_255 rfl ?_
    refine E_icmp_eqY (pc' := 261) cx st26 at_256 (by decide) (by decide) rfl ?_
    refine E_aload (pc' := 263) cx st26 at_261 rfl rfl rfl ?_
    refine E_iconst (pc' := 264) cx st26 (0 : Int32) at_263 rfl rfl ?_
    have V27 : Arv Z h26 a5 ca5 .int (3 : Int32) [(.int u2), (.int u3), (.int u4)] (.int (0 : Int32)) := (V23.keep K26 nin0)
    refine E_iaload (pc' := 265) (x := u2) cx st26 V27 ⟨by decide, by decide⟩ rfl at_264 rfl ?_
    refine E_iload (pc' := 267) cx st26 at_265 rfl rfl ?_
    refine E_icmp_neN (pc' := 270) cx st26 at_267 rfl rfl ?_
    refine E_aload (pc' := 272) cx st26 at_270 rfl rfl rfl ?_
    refine E_iconst (pc' := 273) cx st26 (1 : Int32) at_272 rfl rfl ?_
    refine E_iaload (pc' := 274) (x := u3) cx st26 V27 ⟨by decide, by decide⟩ rfl at_273 rfl ?_
    refine E_iload (pc' := 276) cx st26 at_274 rfl rfl ?_
    refine E_icmp_neN (pc' := 279) cx st26 at_276 rfl rfl ?_
    refine E_aload (pc' := 281) cx st26 at_279 rfl rfl rfl ?_
    refine E_iconst (pc' := 282) cx st26 (2 : Int32) at_281 rfl rfl ?_
    refine E_iaload (pc' := 283) (x := u4) cx st26 V27 ⟨by decide, by decide⟩ rfl at_282 rfl ?_
    refine E_iload (pc' := 285) cx st26 at_283 rfl rfl ?_
    refine E_icmp_neN (pc' := 288) cx st26 at_285 rfl rfl ?_
    refine E_aload (pc' := 290) cx st26 at_288 rfl rfl rfl ?_
    refine E_iconst (pc' := 291) cx st26 (0 : Int32) at_290 rfl rfl ?_
    have V28 : Arv Z h26 a18 ca18 .int (3 : Int32) [(.int u9), (.int u10), (.int u11)] (.int (0 : Int32)) := (V21p.keep K26 nin0)
    refine E_iaload (pc' := 292) (x := u9) cx st26 V28 ⟨by decide, by decide⟩ rfl at_291 rfl ?_
    refine E_iload (pc' := 294) cx st26 at_292 rfl rfl ?_
    refine E_icmp_neN (pc' := 297) cx st26 at_294 rfl rfl ?_
    refine E_aload (pc' := 299) cx st26 at_297 rfl rfl rfl ?_
    refine E_iconst (pc' := 300) cx st26 (1 : Int32) at_299 rfl rfl ?_
    refine E_iaload (pc' := 301) (x := u10) cx st26 V28 ⟨by decide, by decide⟩ rfl at_300 rfl ?_
    refine E_iload (pc' := 303) cx st26 at_301 rfl rfl ?_
    refine E_icmp_neN (pc' := 306) cx st26 at_303 rfl rfl ?_
    refine E_aload (pc' := 308) cx st26 at_306 rfl rfl rfl ?_
    refine E_iconst (pc' := 309) cx st26 (2 : Int32) at_308 rfl rfl ?_
    refine E_iaload (pc' := 310) (x := u11) cx st26 V28 ⟨by decide, by decide⟩ rfl at_309 rfl ?_
    refine E_iload (pc' := 312) cx st26 at_310 rfl rfl ?_
    refine E_icmp_neN (pc' := 315) cx st26 at_312 rfl rfl ?_
    refine E_aload (pc' := 317) cx st26 at_315 rfl rfl rfl ?_
    refine E_iconst (pc' := 318) cx st26 (0 : Int32) at_317 rfl rfl ?_
    have V29 : Arv Z h26 a14 ca14 .int (1 : Int32) [(.int u9)] (.int (0 : Int32)) := (V25.keep K26 nin0)
    refine E_iaload (pc' := 319) (x := u9) cx st26 V29 ⟨by decide, by decide⟩ rfl at_318 rfl ?_
    refine E_iload (pc' := 321) cx st26 at_319 rfl rfl ?_
    refine E_icmp_neN (pc' := 324) cx st26 at_321 rfl rfl ?_
    refine E_iconst (pc' := 325) cx st26 (1 : Int32) at_324 rfl rfl ?_
    refine E_goto (pc' := 329) cx st26 at_325 (by decide) (by decide) ?_
    refine E_istore (pc' := 331) (L' := #[.val (.int p0), .val (.int p1), .val (.int p2), .val (.int p3), .val (.int p4), .val (.int p5), .val (.int u1), .val (.int u2), .val (.int u3), .val (.int u4), .val (.ref a5), .val (.int u9), .val (.int u10), .val (.int u11), .val (.ref a12), .val (.ref a14), .val (.ref a18), .val (.int (0 : Int32)), .val .null, .val (.int (3 : Int32)), .val (.int u2), .val (.int u3), .val (.int u4), .val (.ref r), .val (.int (1 : Int32))]) cx st26 at_329 rfl rfl ?_
    refine E_iload (pc' := 333) cx st26 at_331 rfl rfl ?_
    refine E_if_eqN (pc' := 336) cx st26 at_333 rfl (by decide) ?_
    refine E_aload (pc' := 338) cx st26 at_336 rfl rfl rfl ?_
    refine E_iconst (pc' := 339) cx st26 (0 : Int32) at_338 rfl rfl ?_
    refine E_iload (pc' := 341) cx st26 at_339 rfl rfl ?_
    refine E_iload (pc' := 343) cx st26 at_341 rfl rfl ?_
    refine E_iload (pc' := 345) cx st26 at_343 rfl rfl ?_
    refine E_iload (pc' := 347) cx st26 at_345 rfl rfl ?_
    refine E_iload (pc' := 349) cx st26 at_347 rfl rfl ?_
    refine E_callS (pc' := 352) (kc' := 5) (ks' := 12) (W := 0) (argsL := [(.ref r), (.int (0 : Int32)), (.int u1), (.int (3 : Int32)), (.int u2), (.int u3), (.int u4)]) cx st26 [] (rm2 l Z a0 hw r (0 : Int32) u1 (3 : Int32) u2 u3 u4 h26 n0 Z26 kr (u1 + 1) rs VR (fun hq => ⟨atq hP (by decide) hq, hR (0 : Int32) (by decide) hq⟩)) (hw _ (List.mem_of_getElem? (i := 6) rfl)) (hw _ (List.mem_of_getElem? (i := 7) rfl)) (hw _ (List.mem_of_getElem? (i := 8) rfl)) (hw _ (List.mem_of_getElem? (i := 9) rfl)) at_349 rfl rfl (lenOf pd_2 rfl) (Nat.le_of_eq rfl) (by decide) (by decide) (by decide) (by decide) (by decide) (by decide) (by decide) rfl ?_
    intro v30 T30 h30 st30 hq30
    obtain ⟨rfl, hh30⟩ := hq30
    rw [hh30] at st30
    refine E_if_eqN (pc' := 355) cx st30 at_352 rfl (by decide) ?_
    refine E_aload (pc' := 357) cx st30 at_355 rfl rfl rfl ?_
    refine E_iconst (pc' := 358) cx st30 (1 : Int32) at_357 rfl rfl ?_
    refine E_iload (pc' := 360) cx st30 at_358 rfl rfl ?_
    refine E_iload (pc' := 362) cx st30 at_360 rfl rfl ?_
    refine E_iload (pc' := 364) cx st30 at_362 rfl rfl ?_
    refine E_iload (pc' := 366) cx st30 at_364 rfl rfl ?_
    refine E_iload (pc' := 368) cx st30 at_366 rfl rfl ?_
    refine E_callS (pc' := 371) (kc' := 5) (ks' := 12) (W := 0) (argsL := [(.ref r), (.int (1 : Int32)), (.int u1), (.int (3 : Int32)), (.int u2), (.int u3), (.int u4)]) cx st30 [] (rm2 l Z a0 hw r (1 : Int32) u1 (3 : Int32) u2 u3 u4 h26 n0 Z26 kr (u1 + 1) rs VR (fun hq => ⟨atq hP (by decide) hq, hR (1 : Int32) (by decide) hq⟩)) (hw _ (List.mem_of_getElem? (i := 6) rfl)) (hw _ (List.mem_of_getElem? (i := 7) rfl)) (hw _ (List.mem_of_getElem? (i := 8) rfl)) (hw _ (List.mem_of_getElem? (i := 9) rfl)) at_368 rfl rfl (lenOf pd_2 rfl) (Nat.le_of_eq rfl) (by decide) (by decide) (by decide) (by decide) (by decide) (by decide) (by decide) rfl ?_
    intro v31 T31 h31 st31 hq31
    obtain ⟨rfl, hh31⟩ := hq31
    rw [hh31] at st31
    refine E_if_eqN (pc' := 374) cx st31 at_371 rfl (by decide) ?_
    refine E_aload (pc' := 376) cx st31 at_374 rfl rfl rfl ?_
    refine E_iconst (pc' := 377) cx st31 (2 : Int32) at_376 rfl rfl ?_
    refine E_iload (pc' := 379) cx st31 at_377 rfl rfl ?_
    refine E_iload (pc' := 381) cx st31 at_379 rfl rfl ?_
    refine E_iload (pc' := 383) cx st31 at_381 rfl rfl ?_
    refine E_iload (pc' := 385) cx st31 at_383 rfl rfl ?_
    refine E_iload (pc' := 387) cx st31 at_385 rfl rfl ?_
    refine E_callS (pc' := 390) (kc' := 5) (ks' := 12) (W := 0) (argsL := [(.ref r), (.int (2 : Int32)), (.int u1), (.int (3 : Int32)), (.int u2), (.int u3), (.int u4)]) cx st31 [] (rm2 l Z a0 hw r (2 : Int32) u1 (3 : Int32) u2 u3 u4 h26 n0 Z26 kr (u1 + 1) rs VR (fun hq => ⟨atq hP (by decide) hq, hR (2 : Int32) (by decide) hq⟩)) (hw _ (List.mem_of_getElem? (i := 6) rfl)) (hw _ (List.mem_of_getElem? (i := 7) rfl)) (hw _ (List.mem_of_getElem? (i := 8) rfl)) (hw _ (List.mem_of_getElem? (i := 9) rfl)) at_387 rfl rfl (lenOf pd_2 rfl) (Nat.le_of_eq rfl) (by decide) (by decide) (by decide) (by decide) (by decide) (by decide) (by decide) rfl ?_
    intro v32 T32 h32 st32 hq32
    obtain ⟨rfl, hh32⟩ := hq32
    rw [hh32] at st32
    refine E_if_eqN (pc' := 393) cx st32 at_390 rfl (by decide) ?_
    refine E_aload (pc' := 395) cx st32 at_393 rfl rfl rfl ?_
    refine E_iconst (pc' := 396) cx st32 (3 : Int32) at_395 rfl rfl ?_
    refine E_iload (pc' := 398) cx st32 at_396 rfl rfl ?_
    refine E_iload (pc' := 400) cx st32 at_398 rfl rfl ?_
    refine E_iload (pc' := 402) cx st32 at_400 rfl rfl ?_
    refine E_iload (pc' := 404) cx st32 at_402 rfl rfl ?_
    refine E_iload (pc' := 406) cx st32 at_404 rfl rfl ?_
    refine E_callS (pc' := 409) (kc' := 5) (ks' := 12) (W := 0) (argsL := [(.ref r), (.int (3 : Int32)), (.int u1), (.int (3 : Int32)), (.int u2), (.int u3), (.int u4)]) cx st32 [] (rm2 l Z a0 hw r (3 : Int32) u1 (3 : Int32) u2 u3 u4 h26 n0 Z26 kr (u1 + 1) rs VR (fun hq => ⟨atq hP (by decide) hq, hR (3 : Int32) (by decide) hq⟩)) (hw _ (List.mem_of_getElem? (i := 6) rfl)) (hw _ (List.mem_of_getElem? (i := 7) rfl)) (hw _ (List.mem_of_getElem? (i := 8) rfl)) (hw _ (List.mem_of_getElem? (i := 9) rfl)) at_406 rfl rfl (lenOf pd_2 rfl) (Nat.le_of_eq rfl) (by decide) (by decide) (by decide) (by decide) (by decide) (by decide) (by decide) rfl ?_
    intro v33 T33 h33 st33 hq33
    obtain ⟨rfl, hh33⟩ := hq33
    rw [hh33] at st33
    refine E_if_eqN (pc' := 412) cx st33 at_409 rfl (by decide) ?_
    refine E_aload (pc' := 414) cx st33 at_412 rfl rfl rfl ?_
    refine E_iconst (pc' := 415) cx st33 (4 : Int32) at_414 rfl rfl ?_
    refine E_iload (pc' := 417) cx st33 at_415 rfl rfl ?_
    refine E_iload (pc' := 419) cx st33 at_417 rfl rfl ?_
    refine E_iload (pc' := 421) cx st33 at_419 rfl rfl ?_
    refine E_iload (pc' := 423) cx st33 at_421 rfl rfl ?_
    refine E_iload (pc' := 425) cx st33 at_423 rfl rfl ?_
    refine E_callS (pc' := 428) (kc' := 5) (ks' := 12) (W := 0) (argsL := [(.ref r), (.int (4 : Int32)), (.int u1), (.int (3 : Int32)), (.int u2), (.int u3), (.int u4)]) cx st33 [] (rm2 l Z a0 hw r (4 : Int32) u1 (3 : Int32) u2 u3 u4 h26 n0 Z26 kr (u1 + 1) rs VR (fun hq => ⟨atq hP (by decide) hq, hR (4 : Int32) (by decide) hq⟩)) (hw _ (List.mem_of_getElem? (i := 6) rfl)) (hw _ (List.mem_of_getElem? (i := 7) rfl)) (hw _ (List.mem_of_getElem? (i := 8) rfl)) (hw _ (List.mem_of_getElem? (i := 9) rfl)) at_425 rfl rfl (lenOf pd_2 rfl) (Nat.le_of_eq rfl) (by decide) (by decide) (by decide) (by decide) (by decide) (by decide) (by decide) rfl ?_
    intro v34 T34 h34 st34 hq34
    obtain ⟨rfl, hh34⟩ := hq34
    rw [hh34] at st34
    refine E_if_eqN (pc' := 431) cx st34 at_428 rfl (by decide) ?_
    refine E_iconst (pc' := 432) cx st34 (1 : Int32) at_431 rfl rfl ?_
    refine E_goto (pc' := 436) cx st34 at_432 (by decide) (by decide) ?_
    refine E_ireturn (t := .boolean) cx st34 at_436 rfl (by simp) rfl (by decide) (by decide) ?_
    exact rfl
  · refine E_iload (pc' := 142) cx st21 at_140 rfl rfl ?_
    refine E_if_neY (pc' := 166) cx st21 at_142 (by decide) (by decide) (by decide) ?_
    refine E_iload (pc' := 168) cx st21 at_166 rfl rfl ?_
    refine E_iconst (pc' := 169) cx st21 (1 : Int32) at_168 rfl rfl ?_
    refine E_icmp_neN (pc' := 172) cx st21 at_169 rfl (by decide) ?_
    refine E_aload (pc' := 174) cx st21 at_172 rfl rfl rfl ?_
    refine E_astore (pc' := 176) (L' := #[.val (.int p0), .val (.int p1), .val (.int p2), .val (.int p3), .val (.int p4), .val (.int p5), .val (.int u1), .val (.int u2), .val (.int u3), .val (.int u4), .val (.ref a5), .val (.int u9), .val (.int u10), .val (.int u11), .val (.ref a12), .val (.ref a14), .val (.ref a18), .val (.int (1 : Int32)), .val (.ref a12), .unset, .val (.int (0 : Int32)), .val (.int (0 : Int32)), .val (.int (0 : Int32)), .unset, .unset]) cx st21 at_174 rfl rfl rfl ?_
    refine E_iconst (pc' := 177) cx st21 (0 : Int32) at_176 rfl rfl ?_
    refine E_istore (pc' := 179) (L' := #[.val (.int p0), .val (.int p1), .val (.int p2), .val (.int p3), .val (.int p4), .val (.int p5), .val (.int u1), .val (.int u2), .val (.int u3), .val (.int u4), .val (.ref a5), .val (.int u9), .val (.int u10), .val (.int u11), .val (.ref a12), .val (.ref a14), .val (.ref a18), .val (.int (1 : Int32)), .val (.ref a12), .val (.int (0 : Int32)), .val (.int (0 : Int32)), .val (.int (0 : Int32)), .val (.int (0 : Int32)), .unset, .unset]) cx st21 at_177 rfl rfl ?_
    refine E_goto (pc' := 233) cx st21 at_179 (by decide) (by decide) ?_
    refine E_aload (pc' := 235) cx st21 at_233 rfl rfl rfl ?_
    refine E_aload (pc' := 237) cx st21 at_235 rfl rfl rfl ?_
    refine E_iload (pc' := 239) cx st21 at_237 rfl rfl ?_
    have V35 : Arv Z h21 a5 ca5 .int (3 : Int32) [(.int u2), (.int u3), (.int u4)] (.int (0 : Int32)) := ((((V16.ext E18).other W19 ne_a5_a18).other W20 ne_a5_a18).other W21 ne_a5_a18)
    have V36 : Arv Z h21 a12 ca12 .int (0 : Int32) [] (.int (0 : Int32)) := ((((V17.ext E18).other W19 ne_a12_a18).other W20 ne_a12_a18).other W21 ne_a12_a18)
    have V37 : Arv Z h21 a14 ca14 .int (1 : Int32) [(.int u9)] (.int (0 : Int32)) := ((((V15p.ext E18).other W19 ne_a14_a18).other W20 ne_a14_a18).other W21 ne_a14_a18)
    refine E_callS (pc' := 242) (kc' := 5) (ks' := 12) (W := 0) (argsL := [(.ref a5), (.ref a12), (.int u1)]) cx st21 [] (rm1m1 l Z a0 hw a5 a12 u1 u2 u3 u4 h21 n0 Z21 ca5 V35 hP ca12 V36) (hw _ (List.mem_of_getElem? (i := 2) rfl)) (hw _ (List.mem_of_getElem? (i := 3) rfl)) (hw _ (List.mem_of_getElem? (i := 4) rfl)) (hw _ (List.mem_of_getElem? (i := 5) rfl)) at_239 rfl rfl (lenOf pd_1 rfl) (Nat.le_of_eq rfl) (by decide) (by decide) (by decide) (by decide) (by decide) (by decide) (by decide) rfl ?_
    intro v38 T38 h38 st38 hq38
    obtain ⟨r, kr, rs, rfl, hsz, K38, VR, hR⟩ := hq38
    have ne_a5_r : a5 ≠ r := Nat.ne_of_lt (Nat.lt_of_lt_of_le V35.lt hsz)
    have ne_a12_r : a12 ≠ r := Nat.ne_of_lt (Nat.lt_of_lt_of_le V36.lt hsz)
    have ne_a14_r : a14 ≠ r := Nat.ne_of_lt (Nat.lt_of_lt_of_le V37.lt hsz)
    have ne_a18_r : a18 ≠ r := Nat.ne_of_lt (Nat.lt_of_lt_of_le V21p.lt hsz)
    have Z38 : n0 ≤ h38.size := Nat.le_trans Z21 K38.1
    refine E_astore (pc' := 244) (L' := #[.val (.int p0), .val (.int p1), .val (.int p2), .val (.int p3), .val (.int p4), .val (.int p5), .val (.int u1), .val (.int u2), .val (.int u3), .val (.int u4), .val (.ref a5), .val (.int u9), .val (.int u10), .val (.int u11), .val (.ref a12), .val (.ref a14), .val (.ref a18), .val (.int (1 : Int32)), .val (.ref a12), .val (.int (0 : Int32)), .val (.int (0 : Int32)), .val (.int (0 : Int32)), .val (.int (0 : Int32)), .val (.ref r), .unset]) cx st38 at_242 rfl rfl rfl ?_
    refine E_aload (pc' := 246) cx st38 at_244 rfl rfl rfl ?_
    refine E_ifnullN (pc' := 249) cx st38 at_246 rfl ?_
    refine E_aload (pc' := 251) cx st38 at_249 rfl rfl rfl ?_
    refine E_arraylength (pc' := 252) cx st38 VR at_251 rfl ?_
    refine E_iload (pc' := 254) cx st38 at_252 rfl rfl ?_
    refine E_iconst (pc' := 255) cx st38 (1 : Int32) at_254 rfl rfl ?_
    refine E_iadd (pc' := 256) cx st38 at_255 rfl ?_
    refine E_icmp_eqY (pc' := 261) cx st38 at_256 (by decide) (by decide) rfl ?_
    refine E_aload (pc' := 263) cx st38 at_261 rfl rfl rfl ?_
    refine E_iconst (pc' := 264) cx st38 (0 : Int32) at_263 rfl rfl ?_
    have V39 : Arv Z h38 a5 ca5 .int (3 : Int32) [(.int u2), (.int u3), (.int u4)] (.int (0 : Int32)) := (V35.keep K38 nin0)
    refine E_iaload (pc' := 265) (x := u2) cx st38 V39 ⟨by decide, by decide⟩ rfl at_264 rfl ?_
    refine E_iload (pc' := 267) cx st38 at_265 rfl rfl ?_
    refine E_icmp_neN (pc' := 270) cx st38 at_267 rfl rfl ?_
    refine E_aload (pc' := 272) cx st38 at_270 rfl rfl rfl ?_
    refine E_iconst (pc' := 273) cx st38 (1 : Int32) at_272 rfl rfl ?_
    refine E_iaload (pc' := 274) (x := u3) cx st38 V39 ⟨by decide, by decide⟩ rfl at_273 rfl ?_
    refine E_iload (pc' := 276) cx st38 at_274 rfl rfl ?_
    refine E_icmp_neN (pc' := 279) cx st38 at_276 rfl rfl ?_
    refine E_aload (pc' := 281) cx st38 at_279 rfl rfl rfl ?_
    refine E_iconst (pc' := 282) cx st38 (2 : Int32) at_281 rfl rfl ?_
    refine E_iaload (pc' := 283) (x := u4) cx st38 V39 ⟨by decide, by decide⟩ rfl at_282 rfl ?_
    refine E_iload (pc' := 285) cx st38 at_283 rfl rfl ?_
    refine E_icmp_neN (pc' := 288) cx st38 at_285 rfl rfl ?_
    refine E_aload (pc' := 290) cx st38 at_288 rfl rfl rfl ?_
    refine E_iconst (pc' := 291) cx st38 (0 : Int32) at_290 rfl rfl ?_
    have V40 : Arv Z h38 a18 ca18 .int (3 : Int32) [(.int u9), (.int u10), (.int u11)] (.int (0 : Int32)) := (V21p.keep K38 nin0)
    refine E_iaload (pc' := 292) (x := u9) cx st38 V40 ⟨by decide, by decide⟩ rfl at_291 rfl ?_
    refine E_iload (pc' := 294) cx st38 at_292 rfl rfl ?_
    refine E_icmp_neN (pc' := 297) cx st38 at_294 rfl rfl ?_
    refine E_aload (pc' := 299) cx st38 at_297 rfl rfl rfl ?_
    refine E_iconst (pc' := 300) cx st38 (1 : Int32) at_299 rfl rfl ?_
    refine E_iaload (pc' := 301) (x := u10) cx st38 V40 ⟨by decide, by decide⟩ rfl at_300 rfl ?_
    refine E_iload (pc' := 303) cx st38 at_301 rfl rfl ?_
    refine E_icmp_neN (pc' := 306) cx st38 at_303 rfl rfl ?_
    refine E_aload (pc' := 308) cx st38 at_306 rfl rfl rfl ?_
    refine E_iconst (pc' := 309) cx st38 (2 : Int32) at_308 rfl rfl ?_
    refine E_iaload (pc' := 310) (x := u11) cx st38 V40 ⟨by decide, by decide⟩ rfl at_309 rfl ?_
    refine E_iload (pc' := 312) cx st38 at_310 rfl rfl ?_
    refine E_icmp_neN (pc' := 315) cx st38 at_312 rfl rfl ?_
    refine E_aload (pc' := 317) cx st38 at_315 rfl rfl rfl ?_
    refine E_iconst (pc' := 318) cx st38 (0 : Int32) at_317 rfl rfl ?_
    have V41 : Arv Z h38 a14 ca14 .int (1 : Int32) [(.int u9)] (.int (0 : Int32)) := (V37.keep K38 nin0)
    refine E_iaload (pc' := 319) (x := u9) cx st38 V41 ⟨by decide, by decide⟩ rfl at_318 rfl ?_
    refine E_iload (pc' := 321) cx st38 at_319 rfl rfl ?_
    refine E_icmp_neN (pc' := 324) cx st38 at_321 rfl rfl ?_
    refine E_iconst (pc' := 325) cx st38 (1 : Int32) at_324 rfl rfl ?_
    refine E_goto (pc' := 329) cx st38 at_325 (by decide) (by decide) ?_
    refine E_istore (pc' := 331) (L' := #[.val (.int p0), .val (.int p1), .val (.int p2), .val (.int p3), .val (.int p4), .val (.int p5), .val (.int u1), .val (.int u2), .val (.int u3), .val (.int u4), .val (.ref a5), .val (.int u9), .val (.int u10), .val (.int u11), .val (.ref a12), .val (.ref a14), .val (.ref a18), .val (.int (1 : Int32)), .val (.ref a12), .val (.int (0 : Int32)), .val (.int (0 : Int32)), .val (.int (0 : Int32)), .val (.int (0 : Int32)), .val (.ref r), .val (.int (1 : Int32))]) cx st38 at_329 rfl rfl ?_
    refine E_iload (pc' := 333) cx st38 at_331 rfl rfl ?_
    refine E_if_eqN (pc' := 336) cx st38 at_333 rfl (by decide) ?_
    refine E_aload (pc' := 338) cx st38 at_336 rfl rfl rfl ?_
    refine E_iconst (pc' := 339) cx st38 (0 : Int32) at_338 rfl rfl ?_
    refine E_iload (pc' := 341) cx st38 at_339 rfl rfl ?_
    refine E_iload (pc' := 343) cx st38 at_341 rfl rfl ?_
    refine E_iload (pc' := 345) cx st38 at_343 rfl rfl ?_
    refine E_iload (pc' := 347) cx st38 at_345 rfl rfl ?_
    refine E_iload (pc' := 349) cx st38 at_347 rfl rfl ?_
    refine E_callS (pc' := 352) (kc' := 5) (ks' := 12) (W := 0) (argsL := [(.ref r), (.int (0 : Int32)), (.int u1), (.int (0 : Int32)), (.int (0 : Int32)), (.int (0 : Int32)), (.int (0 : Int32))]) cx st38 [] (rm2 l Z a0 hw r (0 : Int32) u1 (0 : Int32) (0 : Int32) (0 : Int32) (0 : Int32) h38 n0 Z38 kr (u1 + 1) rs VR (fun hq => ⟨atq hP (by decide) hq, hR (0 : Int32) (by decide) hq⟩)) (hw _ (List.mem_of_getElem? (i := 6) rfl)) (hw _ (List.mem_of_getElem? (i := 7) rfl)) (hw _ (List.mem_of_getElem? (i := 8) rfl)) (hw _ (List.mem_of_getElem? (i := 9) rfl)) at_349 rfl rfl (lenOf pd_2 rfl) (Nat.le_of_eq rfl) (by decide) (by decide) (by decide) (by decide) (by decide) (by decide) (by decide) rfl ?_
    intro v42 T42 h42 st42 hq42
    obtain ⟨rfl, hh42⟩ := hq42
    rw [hh42] at st42
    refine E_if_eqN (pc' := 355) cx st42 at_352 rfl (by decide) ?_
    refine E_aload (pc' := 357) cx st42 at_355 rfl rfl rfl ?_
    refine E_iconst (pc' := 358) cx st42 (1 : Int32) at_357 rfl rfl ?_
    refine E_iload (pc' := 360) cx st42 at_358 rfl rfl ?_
    refine E_iload (pc' := 362) cx st42 at_360 rfl rfl ?_
    refine E_iload (pc' := 364) cx st42 at_362 rfl rfl ?_
    refine E_iload (pc' := 366) cx st42 at_364 rfl rfl ?_
    refine E_iload (pc' := 368) cx st42 at_366 rfl rfl ?_
    refine E_callS (pc' := 371) (kc' := 5) (ks' := 12) (W := 0) (argsL := [(.ref r), (.int (1 : Int32)), (.int u1), (.int (0 : Int32)), (.int (0 : Int32)), (.int (0 : Int32)), (.int (0 : Int32))]) cx st42 [] (rm2 l Z a0 hw r (1 : Int32) u1 (0 : Int32) (0 : Int32) (0 : Int32) (0 : Int32) h38 n0 Z38 kr (u1 + 1) rs VR (fun hq => ⟨atq hP (by decide) hq, hR (1 : Int32) (by decide) hq⟩)) (hw _ (List.mem_of_getElem? (i := 6) rfl)) (hw _ (List.mem_of_getElem? (i := 7) rfl)) (hw _ (List.mem_of_getElem? (i := 8) rfl)) (hw _ (List.mem_of_getElem? (i := 9) rfl)) at_368 rfl rfl (lenOf pd_2 rfl) (Nat.le_of_eq rfl) (by decide) (by decide) (by decide) (by decide) (by decide) (by decide) (by decide) rfl ?_
    intro v43 T43 h43 st43 hq43
    obtain ⟨rfl, hh43⟩ := hq43
    rw [hh43] at st43
    refine E_if_eqN (pc' := 374) cx st43 at_371 rfl (by decide) ?_
    refine E_aload (pc' := 376) cx st43 at_374 rfl rfl rfl ?_
    refine E_iconst (pc' := 377) cx st43 (2 : Int32) at_376 rfl rfl ?_
    refine E_iload (pc' := 379) cx st43 at_377 rfl rfl ?_
    refine E_iload (pc' := 381) cx st43 at_379 rfl rfl ?_
    refine E_iload (pc' := 383) cx st43 at_381 rfl rfl ?_
    refine E_iload (pc' := 385) cx st43 at_383 rfl rfl ?_
    refine E_iload (pc' := 387) cx st43 at_385 rfl rfl ?_
    refine E_callS (pc' := 390) (kc' := 5) (ks' := 12) (W := 0) (argsL := [(.ref r), (.int (2 : Int32)), (.int u1), (.int (0 : Int32)), (.int (0 : Int32)), (.int (0 : Int32)), (.int (0 : Int32))]) cx st43 [] (rm2 l Z a0 hw r (2 : Int32) u1 (0 : Int32) (0 : Int32) (0 : Int32) (0 : Int32) h38 n0 Z38 kr (u1 + 1) rs VR (fun hq => ⟨atq hP (by decide) hq, hR (2 : Int32) (by decide) hq⟩)) (hw _ (List.mem_of_getElem? (i := 6) rfl)) (hw _ (List.mem_of_getElem? (i := 7) rfl)) (hw _ (List.mem_of_getElem? (i := 8) rfl)) (hw _ (List.mem_of_getElem? (i := 9) rfl)) at_387 rfl rfl (lenOf pd_2 rfl) (Nat.le_of_eq rfl) (by decide) (by decide) (by decide) (by decide) (by decide) (by decide) (by decide) rfl ?_
    intro v44 T44 h44 st44 hq44
    obtain ⟨rfl, hh44⟩ := hq44
    rw [hh44] at st44
    refine E_if_eqN (pc' := 393) cx st44 at_390 rfl (by decide) ?_
    refine E_aload (pc' := 395) cx st44 at_393 rfl rfl rfl ?_
    refine E_iconst (pc' := 396) cx st44 (3 : Int32) at_395 rfl rfl ?_
    refine E_iload (pc' := 398) cx st44 at_396 rfl rfl ?_
    refine E_iload (pc' := 400) cx st44 at_398 rfl rfl ?_
    refine E_iload (pc' := 402) cx st44 at_400 rfl rfl ?_
    refine E_iload (pc' := 404) cx st44 at_402 rfl rfl ?_
    refine E_iload (pc' := 406) cx st44 at_404 rfl rfl ?_
    refine E_callS (pc' := 409) (kc' := 5) (ks' := 12) (W := 0) (argsL := [(.ref r), (.int (3 : Int32)), (.int u1), (.int (0 : Int32)), (.int (0 : Int32)), (.int (0 : Int32)), (.int (0 : Int32))]) cx st44 [] (rm2 l Z a0 hw r (3 : Int32) u1 (0 : Int32) (0 : Int32) (0 : Int32) (0 : Int32) h38 n0 Z38 kr (u1 + 1) rs VR (fun hq => ⟨atq hP (by decide) hq, hR (3 : Int32) (by decide) hq⟩)) (hw _ (List.mem_of_getElem? (i := 6) rfl)) (hw _ (List.mem_of_getElem? (i := 7) rfl)) (hw _ (List.mem_of_getElem? (i := 8) rfl)) (hw _ (List.mem_of_getElem? (i := 9) rfl)) at_406 rfl rfl (lenOf pd_2 rfl) (Nat.le_of_eq rfl) (by decide) (by decide) (by decide) (by decide) (by decide) (by decide) (by decide) rfl ?_
    intro v45 T45 h45 st45 hq45
    obtain ⟨rfl, hh45⟩ := hq45
    rw [hh45] at st45
    refine E_if_eqN (pc' := 412) cx st45 at_409 rfl (by decide) ?_
    refine E_aload (pc' := 414) cx st45 at_412 rfl rfl rfl ?_
    refine E_iconst (pc' := 415) cx st45 (4 : Int32) at_414 rfl rfl ?_
    refine E_iload (pc' := 417) cx st45 at_415 rfl rfl ?_
    refine E_iload (pc' := 419) cx st45 at_417 rfl rfl ?_
    refine E_iload (pc' := 421) cx st45 at_419 rfl rfl ?_
    refine E_iload (pc' := 423) cx st45 at_421 rfl rfl ?_
    refine E_iload (pc' := 425) cx st45 at_423 rfl rfl ?_
    refine E_callS (pc' := 428) (kc' := 5) (ks' := 12) (W := 0) (argsL := [(.ref r), (.int (4 : Int32)), (.int u1), (.int (0 : Int32)), (.int (0 : Int32)), (.int (0 : Int32)), (.int (0 : Int32))]) cx st45 [] (rm2 l Z a0 hw r (4 : Int32) u1 (0 : Int32) (0 : Int32) (0 : Int32) (0 : Int32) h38 n0 Z38 kr (u1 + 1) rs VR (fun hq => ⟨atq hP (by decide) hq, hR (4 : Int32) (by decide) hq⟩)) (hw _ (List.mem_of_getElem? (i := 6) rfl)) (hw _ (List.mem_of_getElem? (i := 7) rfl)) (hw _ (List.mem_of_getElem? (i := 8) rfl)) (hw _ (List.mem_of_getElem? (i := 9) rfl)) at_425 rfl rfl (lenOf pd_2 rfl) (Nat.le_of_eq rfl) (by decide) (by decide) (by decide) (by decide) (by decide) (by decide) (by decide) rfl ?_
    intro v46 T46 h46 st46 hq46
    obtain ⟨rfl, hh46⟩ := hq46
    rw [hh46] at st46
    refine E_if_eqN (pc' := 431) cx st46 at_428 rfl (by decide) ?_
    refine E_iconst (pc' := 432) cx st46 (1 : Int32) at_431 rfl rfl ?_
    refine E_goto (pc' := 436) cx st46 at_432 (by decide) (by decide) ?_
    refine E_ireturn (t := .boolean) cx st46 at_436 rfl (by simp) rfl (by decide) (by decide) ?_
    exact rfl
  · refine E_iload (pc' := 142) cx st21 at_140 rfl rfl ?_
    refine E_if_neY (pc' := 166) cx st21 at_142 (by decide) (by decide) (by decide) ?_
    refine E_iload (pc' := 168) cx st21 at_166 rfl rfl ?_
    refine E_iconst (pc' := 169) cx st21 (1 : Int32) at_168 rfl rfl ?_
    refine E_icmp_neY (pc' := 182) cx st21 at_169 (by decide) (by decide) (by decide) ?_
    refine E_iload (pc' := 184) cx st21 at_182 rfl rfl ?_
    refine E_iconst (pc' := 185) cx st21 (2 : Int32) at_184 rfl rfl ?_
    refine E_icmp_neN (pc' := 188) cx st21 at_185 rfl (by decide) ?_
    refine E_aload (pc' := 190) cx st21 at_188 rfl rfl rfl ?_
    refine E_astore (pc' := 192) (L' := #[.val (.int p0), .val (.int p1), .val (.int p2), .val (.int p3), .val (.int p4), .val (.int p5), .val (.int u1), .val (.int u2), .val (.int u3), .val (.int u4), .val (.ref a5), .val (.int u9), .val (.int u10), .val (.int u11), .val (.ref a12), .val (.ref a14), .val (.ref a18), .val (.int (2 : Int32)), .val (.ref a14), .unset, .val (.int (0 : Int32)), .val (.int (0 : Int32)), .val (.int (0 : Int32)), .unset, .unset]) cx st21 at_190 rfl rfl rfl ?_
    refine E_iconst (pc' := 193) cx st21 (1 : Int32) at_192 rfl rfl ?_
    refine E_istore (pc' := 195) (L' := #[.val (.int p0), .val (.int p1), .val (.int p2), .val (.int p3), .val (.int p4), .val (.int p5), .val (.int u1), .val (.int u2), .val (.int u3), .val (.int u4), .val (.ref a5), .val (.int u9), .val (.int u10), .val (.int u11), .val (.ref a12), .val (.ref a14), .val (.ref a18), .val (.int (2 : Int32)), .val (.ref a14), .val (.int (1 : Int32)), .val (.int (0 : Int32)), .val (.int (0 : Int32)), .val (.int (0 : Int32)), .unset, .unset]) cx st21 at_193 rfl rfl ?_
    refine E_aload (pc' := 197) cx st21 at_195 rfl rfl rfl ?_
    refine E_iload (pc' := 199) cx st21 at_197 rfl rfl ?_
    have V47 : Arv Z h21 a5 ca5 .int (3 : Int32) [(.int u2), (.int u3), (.int u4)] (.int (0 : Int32)) := ((((V16.ext E18).other W19 ne_a5_a18).other W20 ne_a5_a18).other W21 ne_a5_a18)
    refine E_iaload (pc' := 200) (x := ([u2, u3, u4].getD u9.toNatClampNeg 0)) cx st21 V47 hk0 (getD_int [u2, u3, u4] _ 0) at_199 rfl ?_
    refine E_istore (pc' := 202) (L' := #[.val (.int p0), .val (.int p1), .val (.int p2), .val (.int p3), .val (.int p4), .val (.int p5), .val (.int u1), .val (.int u2), .val (.int u3), .val (.int u4), .val (.ref a5), .val (.int u9), .val (.int u10), .val (.int u11), .val (.ref a12), .val (.ref a14), .val (.ref a18), .val (.int (2 : Int32)), .val (.ref a14), .val (.int (1 : Int32)), .val (.int ([u2, u3, u4].getD u9.toNatClampNeg 0)), .val (.int (0 : Int32)), .val (.int (0 : Int32)), .unset, .unset]) cx st21 at_200 rfl rfl ?_
    refine E_goto (pc' := 233) cx st21 at_202 (by decide) (by decide) ?_
    refine E_aload (pc' := 235) cx st21 at_233 rfl rfl rfl ?_
    refine E_aload (pc' := 237) cx st21 at_235 rfl rfl rfl ?_
    refine E_iload (pc' := 239) cx st21 at_237 rfl rfl ?_
    have V48 : Arv Z h21 a14 ca14 .int (1 : Int32) [(.int u9)] (.int (0 : Int32)) := ((((V15p.ext E18).other W19 ne_a14_a18).other W20 ne_a14_a18).other W21 ne_a14_a18)
    have V49 : Arv Z h21 a12 ca12 .int (0 : Int32) [] (.int (0 : Int32)) := ((((V17.ext E18).other W19 ne_a12_a18).other W20 ne_a12_a18).other W21 ne_a12_a18)
    refine E_callS (pc' := 242) (kc' := 5) (ks' := 12) (W := 0) (argsL := [(.ref a5), (.ref a14), (.int u1)]) cx st21 [] (rm1m2 l Z a0 hw a5 a14 u1 u2 u3 u4 u9 h21 n0 Z21 ca5 V47 hP ca14 V48 hk0 hw0) (hw _ (List.mem_of_getElem? (i := 2) rfl)) (hw _ (List.mem_of_getElem? (i := 3) rfl)) (hw _ (List.mem_of_getElem? (i := 4) rfl)) (hw _ (List.mem_of_getElem? (i := 5) rfl)) at_239 rfl rfl (lenOf pd_1 rfl) (Nat.le_of_eq rfl) (by decide) (by decide) (by decide) (by decide) (by decide) (by decide) (by decide) rfl ?_
    intro v50 T50 h50 st50 hq50
    obtain ⟨r, kr, rs, rfl, hsz, K50, VR, hR⟩ := hq50
    have ne_a5_r : a5 ≠ r := Nat.ne_of_lt (Nat.lt_of_lt_of_le V47.lt hsz)
    have ne_a12_r : a12 ≠ r := Nat.ne_of_lt (Nat.lt_of_lt_of_le V49.lt hsz)
    have ne_a14_r : a14 ≠ r := Nat.ne_of_lt (Nat.lt_of_lt_of_le V48.lt hsz)
    have ne_a18_r : a18 ≠ r := Nat.ne_of_lt (Nat.lt_of_lt_of_le V21p.lt hsz)
    have Z50 : n0 ≤ h50.size := Nat.le_trans Z21 K50.1
    refine E_astore (pc' := 244) (L' := #[.val (.int p0), .val (.int p1), .val (.int p2), .val (.int p3), .val (.int p4), .val (.int p5), .val (.int u1), .val (.int u2), .val (.int u3), .val (.int u4), .val (.ref a5), .val (.int u9), .val (.int u10), .val (.int u11), .val (.ref a12), .val (.ref a14), .val (.ref a18), .val (.int (2 : Int32)), .val (.ref a14), .val (.int (1 : Int32)), .val (.int ([u2, u3, u4].getD u9.toNatClampNeg 0)), .val (.int (0 : Int32)), .val (.int (0 : Int32)), .val (.ref r), .unset]) cx st50 at_242 rfl rfl rfl ?_
    refine E_aload (pc' := 246) cx st50 at_244 rfl rfl rfl ?_
    refine E_ifnullN (pc' := 249) cx st50 at_246 rfl ?_
    refine E_aload (pc' := 251) cx st50 at_249 rfl rfl rfl ?_
    refine E_arraylength (pc' := 252) cx st50 VR at_251 rfl ?_
    refine E_iload (pc' := 254) cx st50 at_252 rfl rfl ?_
    refine E_iconst (pc' := 255) cx st50 (1 : Int32) at_254 rfl rfl ?_
    refine E_iadd (pc' := 256) cx st50 at_255 rfl ?_
    refine E_icmp_eqY (pc' := 261) cx st50 at_256 (by decide) (by decide) rfl ?_
    refine E_aload (pc' := 263) cx st50 at_261 rfl rfl rfl ?_
    refine E_iconst (pc' := 264) cx st50 (0 : Int32) at_263 rfl rfl ?_
    have V51 : Arv Z h50 a5 ca5 .int (3 : Int32) [(.int u2), (.int u3), (.int u4)] (.int (0 : Int32)) := (V47.keep K50 nin0)
    refine E_iaload (pc' := 265) (x := u2) cx st50 V51 ⟨by decide, by decide⟩ rfl at_264 rfl ?_
    refine E_iload (pc' := 267) cx st50 at_265 rfl rfl ?_
    refine E_icmp_neN (pc' := 270) cx st50 at_267 rfl rfl ?_
    refine E_aload (pc' := 272) cx st50 at_270 rfl rfl rfl ?_
    refine E_iconst (pc' := 273) cx st50 (1 : Int32) at_272 rfl rfl ?_
    refine E_iaload (pc' := 274) (x := u3) cx st50 V51 ⟨by decide, by decide⟩ rfl at_273 rfl ?_
    refine E_iload (pc' := 276) cx st50 at_274 rfl rfl ?_
    refine E_icmp_neN (pc' := 279) cx st50 at_276 rfl rfl ?_
    refine E_aload (pc' := 281) cx st50 at_279 rfl rfl rfl ?_
    refine E_iconst (pc' := 282) cx st50 (2 : Int32) at_281 rfl rfl ?_
    refine E_iaload (pc' := 283) (x := u4) cx st50 V51 ⟨by decide, by decide⟩ rfl at_282 rfl ?_
    refine E_iload (pc' := 285) cx st50 at_283 rfl rfl ?_
    refine E_icmp_neN (pc' := 288) cx st50 at_285 rfl rfl ?_
    refine E_aload (pc' := 290) cx st50 at_288 rfl rfl rfl ?_
    refine E_iconst (pc' := 291) cx st50 (0 : Int32) at_290 rfl rfl ?_
    have V52 : Arv Z h50 a18 ca18 .int (3 : Int32) [(.int u9), (.int u10), (.int u11)] (.int (0 : Int32)) := (V21p.keep K50 nin0)
    refine E_iaload (pc' := 292) (x := u9) cx st50 V52 ⟨by decide, by decide⟩ rfl at_291 rfl ?_
    refine E_iload (pc' := 294) cx st50 at_292 rfl rfl ?_
    refine E_icmp_neN (pc' := 297) cx st50 at_294 rfl rfl ?_
    refine E_aload (pc' := 299) cx st50 at_297 rfl rfl rfl ?_
    refine E_iconst (pc' := 300) cx st50 (1 : Int32) at_299 rfl rfl ?_
    refine E_iaload (pc' := 301) (x := u10) cx st50 V52 ⟨by decide, by decide⟩ rfl at_300 rfl ?_
    refine E_iload (pc' := 303) cx st50 at_301 rfl rfl ?_
    refine E_icmp_neN (pc' := 306) cx st50 at_303 rfl rfl ?_
    refine E_aload (pc' := 308) cx st50 at_306 rfl rfl rfl ?_
    refine E_iconst (pc' := 309) cx st50 (2 : Int32) at_308 rfl rfl ?_
    refine E_iaload (pc' := 310) (x := u11) cx st50 V52 ⟨by decide, by decide⟩ rfl at_309 rfl ?_
    refine E_iload (pc' := 312) cx st50 at_310 rfl rfl ?_
    refine E_icmp_neN (pc' := 315) cx st50 at_312 rfl rfl ?_
    refine E_aload (pc' := 317) cx st50 at_315 rfl rfl rfl ?_
    refine E_iconst (pc' := 318) cx st50 (0 : Int32) at_317 rfl rfl ?_
    have V53 : Arv Z h50 a14 ca14 .int (1 : Int32) [(.int u9)] (.int (0 : Int32)) := (V48.keep K50 nin0)
    refine E_iaload (pc' := 319) (x := u9) cx st50 V53 ⟨by decide, by decide⟩ rfl at_318 rfl ?_
    refine E_iload (pc' := 321) cx st50 at_319 rfl rfl ?_
    refine E_icmp_neN (pc' := 324) cx st50 at_321 rfl rfl ?_
    refine E_iconst (pc' := 325) cx st50 (1 : Int32) at_324 rfl rfl ?_
    refine E_goto (pc' := 329) cx st50 at_325 (by decide) (by decide) ?_
    refine E_istore (pc' := 331) (L' := #[.val (.int p0), .val (.int p1), .val (.int p2), .val (.int p3), .val (.int p4), .val (.int p5), .val (.int u1), .val (.int u2), .val (.int u3), .val (.int u4), .val (.ref a5), .val (.int u9), .val (.int u10), .val (.int u11), .val (.ref a12), .val (.ref a14), .val (.ref a18), .val (.int (2 : Int32)), .val (.ref a14), .val (.int (1 : Int32)), .val (.int ([u2, u3, u4].getD u9.toNatClampNeg 0)), .val (.int (0 : Int32)), .val (.int (0 : Int32)), .val (.ref r), .val (.int (1 : Int32))]) cx st50 at_329 rfl rfl ?_
    refine E_iload (pc' := 333) cx st50 at_331 rfl rfl ?_
    refine E_if_eqN (pc' := 336) cx st50 at_333 rfl (by decide) ?_
    refine E_aload (pc' := 338) cx st50 at_336 rfl rfl rfl ?_
    refine E_iconst (pc' := 339) cx st50 (0 : Int32) at_338 rfl rfl ?_
    refine E_iload (pc' := 341) cx st50 at_339 rfl rfl ?_
    refine E_iload (pc' := 343) cx st50 at_341 rfl rfl ?_
    refine E_iload (pc' := 345) cx st50 at_343 rfl rfl ?_
    refine E_iload (pc' := 347) cx st50 at_345 rfl rfl ?_
    refine E_iload (pc' := 349) cx st50 at_347 rfl rfl ?_
    refine E_callS (pc' := 352) (kc' := 5) (ks' := 12) (W := 0) (argsL := [(.ref r), (.int (0 : Int32)), (.int u1), (.int (1 : Int32)), (.int ([u2, u3, u4].getD u9.toNatClampNeg 0)), (.int (0 : Int32)), (.int (0 : Int32))]) cx st50 [] (rm2 l Z a0 hw r (0 : Int32) u1 (1 : Int32) ([u2, u3, u4].getD u9.toNatClampNeg 0) (0 : Int32) (0 : Int32) h50 n0 Z50 kr (u1 + 1) rs VR (fun hq => ⟨atq hP (by decide) hq, hR (0 : Int32) (by decide) hq⟩)) (hw _ (List.mem_of_getElem? (i := 6) rfl)) (hw _ (List.mem_of_getElem? (i := 7) rfl)) (hw _ (List.mem_of_getElem? (i := 8) rfl)) (hw _ (List.mem_of_getElem? (i := 9) rfl)) at_349 rfl rfl (lenOf pd_2 rfl) (Nat.le_of_eq rfl) (by decide) (by decide) (by decide) (by decide) (by decide) (by decide) (by decide) rfl ?_
    intro v54 T54 h54 st54 hq54
    obtain ⟨rfl, hh54⟩ := hq54
    rw [hh54] at st54
    refine E_if_eqN (pc' := 355) cx st54 at_352 rfl (by decide) ?_
    refine E_aload (pc' := 357) cx st54 at_355 rfl rfl rfl ?_
    refine E_iconst (pc' := 358) cx st54 (1 : Int32) at_357 rfl rfl ?_
    refine E_iload (pc' := 360) cx st54 at_358 rfl rfl ?_
    refine E_iload (pc' := 362) cx st54 at_360 rfl rfl ?_
    refine E_iload (pc' := 364) cx st54 at_362 rfl rfl ?_
    refine E_iload (pc' := 366) cx st54 at_364 rfl rfl ?_
    refine E_iload (pc' := 368) cx st54 at_366 rfl rfl ?_
    refine E_callS (pc' := 371) (kc' := 5) (ks' := 12) (W := 0) (argsL := [(.ref r), (.int (1 : Int32)), (.int u1), (.int (1 : Int32)), (.int ([u2, u3, u4].getD u9.toNatClampNeg 0)), (.int (0 : Int32)), (.int (0 : Int32))]) cx st54 [] (rm2 l Z a0 hw r (1 : Int32) u1 (1 : Int32) ([u2, u3, u4].getD u9.toNatClampNeg 0) (0 : Int32) (0 : Int32) h50 n0 Z50 kr (u1 + 1) rs VR (fun hq => ⟨atq hP (by decide) hq, hR (1 : Int32) (by decide) hq⟩)) (hw _ (List.mem_of_getElem? (i := 6) rfl)) (hw _ (List.mem_of_getElem? (i := 7) rfl)) (hw _ (List.mem_of_getElem? (i := 8) rfl)) (hw _ (List.mem_of_getElem? (i := 9) rfl)) at_368 rfl rfl (lenOf pd_2 rfl) (Nat.le_of_eq rfl) (by decide) (by decide) (by decide) (by decide) (by decide) (by decide) (by decide) rfl ?_
    intro v55 T55 h55 st55 hq55
    obtain ⟨rfl, hh55⟩ := hq55
    rw [hh55] at st55
    refine E_if_eqN (pc' := 374) cx st55 at_371 rfl (by decide) ?_
    refine E_aload (pc' := 376) cx st55 at_374 rfl rfl rfl ?_
    refine E_iconst (pc' := 377) cx st55 (2 : Int32) at_376 rfl rfl ?_
    refine E_iload (pc' := 379) cx st55 at_377 rfl rfl ?_
    refine E_iload (pc' := 381) cx st55 at_379 rfl rfl ?_
    refine E_iload (pc' := 383) cx st55 at_381 rfl rfl ?_
    refine E_iload (pc' := 385) cx st55 at_383 rfl rfl ?_
    refine E_iload (pc' := 387) cx st55 at_385 rfl rfl ?_
    refine E_callS (pc' := 390) (kc' := 5) (ks' := 12) (W := 0) (argsL := [(.ref r), (.int (2 : Int32)), (.int u1), (.int (1 : Int32)), (.int ([u2, u3, u4].getD u9.toNatClampNeg 0)), (.int (0 : Int32)), (.int (0 : Int32))]) cx st55 [] (rm2 l Z a0 hw r (2 : Int32) u1 (1 : Int32) ([u2, u3, u4].getD u9.toNatClampNeg 0) (0 : Int32) (0 : Int32) h50 n0 Z50 kr (u1 + 1) rs VR (fun hq => ⟨atq hP (by decide) hq, hR (2 : Int32) (by decide) hq⟩)) (hw _ (List.mem_of_getElem? (i := 6) rfl)) (hw _ (List.mem_of_getElem? (i := 7) rfl)) (hw _ (List.mem_of_getElem? (i := 8) rfl)) (hw _ (List.mem_of_getElem? (i := 9) rfl)) at_387 rfl rfl (lenOf pd_2 rfl) (Nat.le_of_eq rfl) (by decide) (by decide) (by decide) (by decide) (by decide) (by decide) (by decide) rfl ?_
    intro v56 T56 h56 st56 hq56
    obtain ⟨rfl, hh56⟩ := hq56
    rw [hh56] at st56
    refine E_if_eqN (pc' := 393) cx st56 at_390 rfl (by decide) ?_
    refine E_aload (pc' := 395) cx st56 at_393 rfl rfl rfl ?_
    refine E_iconst (pc' := 396) cx st56 (3 : Int32) at_395 rfl rfl ?_
    refine E_iload (pc' := 398) cx st56 at_396 rfl rfl ?_
    refine E_iload (pc' := 400) cx st56 at_398 rfl rfl ?_
    refine E_iload (pc' := 402) cx st56 at_400 rfl rfl ?_
    refine E_iload (pc' := 404) cx st56 at_402 rfl rfl ?_
    refine E_iload (pc' := 406) cx st56 at_404 rfl rfl ?_
    refine E_callS (pc' := 409) (kc' := 5) (ks' := 12) (W := 0) (argsL := [(.ref r), (.int (3 : Int32)), (.int u1), (.int (1 : Int32)), (.int ([u2, u3, u4].getD u9.toNatClampNeg 0)), (.int (0 : Int32)), (.int (0 : Int32))]) cx st56 [] (rm2 l Z a0 hw r (3 : Int32) u1 (1 : Int32) ([u2, u3, u4].getD u9.toNatClampNeg 0) (0 : Int32) (0 : Int32) h50 n0 Z50 kr (u1 + 1) rs VR (fun hq => ⟨atq hP (by decide) hq, hR (3 : Int32) (by decide) hq⟩)) (hw _ (List.mem_of_getElem? (i := 6) rfl)) (hw _ (List.mem_of_getElem? (i := 7) rfl)) (hw _ (List.mem_of_getElem? (i := 8) rfl)) (hw _ (List.mem_of_getElem? (i := 9) rfl)) at_406 rfl rfl (lenOf pd_2 rfl) (Nat.le_of_eq rfl) (by decide) (by decide) (by decide) (by decide) (by decide) (by decide) (by decide) rfl ?_
    intro v57 T57 h57 st57 hq57
    obtain ⟨rfl, hh57⟩ := hq57
    rw [hh57] at st57
    refine E_if_eqN (pc' := 412) cx st57 at_409 rfl (by decide) ?_
    refine E_aload (pc' := 414) cx st57 at_412 rfl rfl rfl ?_
    refine E_iconst (pc' := 415) cx st57 (4 : Int32) at_414 rfl rfl ?_
    refine E_iload (pc' := 417) cx st57 at_415 rfl rfl ?_
    refine E_iload (pc' := 419) cx st57 at_417 rfl rfl ?_
    refine E_iload (pc' := 421) cx st57 at_419 rfl rfl ?_
    refine E_iload (pc' := 423) cx st57 at_421 rfl rfl ?_
    refine E_iload (pc' := 425) cx st57 at_423 rfl rfl ?_
    refine E_callS (pc' := 428) (kc' := 5) (ks' := 12) (W := 0) (argsL := [(.ref r), (.int (4 : Int32)), (.int u1), (.int (1 : Int32)), (.int ([u2, u3, u4].getD u9.toNatClampNeg 0)), (.int (0 : Int32)), (.int (0 : Int32))]) cx st57 [] (rm2 l Z a0 hw r (4 : Int32) u1 (1 : Int32) ([u2, u3, u4].getD u9.toNatClampNeg 0) (0 : Int32) (0 : Int32) h50 n0 Z50 kr (u1 + 1) rs VR (fun hq => ⟨atq hP (by decide) hq, hR (4 : Int32) (by decide) hq⟩)) (hw _ (List.mem_of_getElem? (i := 6) rfl)) (hw _ (List.mem_of_getElem? (i := 7) rfl)) (hw _ (List.mem_of_getElem? (i := 8) rfl)) (hw _ (List.mem_of_getElem? (i := 9) rfl)) at_425 rfl rfl (lenOf pd_2 rfl) (Nat.le_of_eq rfl) (by decide) (by decide) (by decide) (by decide) (by decide) (by decide) (by decide) rfl ?_
    intro v58 T58 h58 st58 hq58
    obtain ⟨rfl, hh58⟩ := hq58
    rw [hh58] at st58
    refine E_if_eqN (pc' := 431) cx st58 at_428 rfl (by decide) ?_
    refine E_iconst (pc' := 432) cx st58 (1 : Int32) at_431 rfl rfl ?_
    refine E_goto (pc' := 436) cx st58 at_432 (by decide) (by decide) ?_
    refine E_ireturn (t := .boolean) cx st58 at_436 rfl (by simp) rfl (by decide) (by decide) ?_
    exact rfl
  · refine E_iload (pc' := 142) cx st21 at_140 rfl rfl ?_
    refine E_if_neY (pc' := 166) cx st21 at_142 (by decide) (by decide) (by decide) ?_
    refine E_iload (pc' := 168) cx st21 at_166 rfl rfl ?_
    refine E_iconst (pc' := 169) cx st21 (1 : Int32) at_168 rfl rfl ?_
    refine E_icmp_neY (pc' := 182) cx st21 at_169 (by decide) (by decide) (by decide) ?_
    refine E_iload (pc' := 184) cx st21 at_182 rfl rfl ?_
    refine E_iconst (pc' := 185) cx st21 (2 : Int32) at_184 rfl rfl ?_
    refine E_icmp_neY (pc' := 205) cx st21 at_185 (by decide) (by decide) (by decide) ?_
    refine E_aload (pc' := 207) cx st21 at_205 rfl rfl rfl ?_
    refine E_astore (pc' := 209) (L' := #[.val (.int p0), .val (.int p1), .val (.int p2), .val (.int p3), .val (.int p4), .val (.int p5), .val (.int u1), .val (.int u2), .val (.int u3), .val (.int u4), .val (.ref a5), .val (.int u9), .val (.int u10), .val (.int u11), .val (.ref a12), .val (.ref a14), .val (.ref a18), .val (.int (3 : Int32)), .val (.ref a18), .unset, .val (.int (0 : Int32)), .val (.int (0 : Int32)), .val (.int (0 : Int32)), .unset, .unset]) cx st21 at_207 rfl rfl rfl ?_
    refine E_iconst (pc' := 210) cx st21 (3 : Int32) at_209 rfl rfl ?_
    refine E_istore (pc' := 212) (L' := #[.val (.int p0), .val (.int p1), .val (.int p2), .val (.int p3), .val (.int p4), .val (.int p5), .val (.int u1), .val (.int u2), .val (.int u3), .val (.int u4), .val (.ref a5), .val (.int u9), .val (.int u10), .val (.int u11), .val (.ref a12), .val (.ref a14), .val (.ref a18), .val (.int (3 : Int32)), .val (.ref a18), .val (.int (3 : Int32)), .val (.int (0 : Int32)), .val (.int (0 : Int32)), .val (.int (0 : Int32)), .unset, .unset]) cx st21 at_210 rfl rfl ?_
    refine E_aload (pc' := 214) cx st21 at_212 rfl rfl rfl ?_
    refine E_iload (pc' := 216) cx st21 at_214 rfl rfl ?_
    have V59 : Arv Z h21 a5 ca5 .int (3 : Int32) [(.int u2), (.int u3), (.int u4)] (.int (0 : Int32)) := ((((V16.ext E18).other W19 ne_a5_a18).other W20 ne_a5_a18).other W21 ne_a5_a18)
    refine E_iaload (pc' := 217) (x := ([u2, u3, u4].getD u9.toNatClampNeg 0)) cx st21 V59 hk0 (getD_int [u2, u3, u4] _ 0) at_216 rfl ?_
    refine E_istore (pc' := 219) (L' := #[.val (.int p0), .val (.int p1), .val (.int p2), .val (.int p3), .val (.int p4), .val (.int p5), .val (.int u1), .val (.int u2), .val (.int u3), .val (.int u4), .val (.ref a5), .val (.int u9), .val (.int u10), .val (.int u11), .val (.ref a12), .val (.ref a14), .val (.ref a18), .val (.int (3 : Int32)), .val (.ref a18), .val (.int (3 : Int32)), .val (.int ([u2, u3, u4].getD u9.toNatClampNeg 0)), .val (.int (0 : Int32)), .val (.int (0 : Int32)), .unset, .unset]) cx st21 at_217 rfl rfl ?_
    refine E_aload (pc' := 221) cx st21 at_219 rfl rfl rfl ?_
    refine E_iload (pc' := 223) cx st21 at_221 rfl rfl ?_
    refine E_iaload (pc' := 224) (x := ([u2, u3, u4].getD u10.toNatClampNeg 0)) cx st21 V59 hk1 (getD_int [u2, u3, u4] _ 0) at_223 rfl ?_
    refine E_istore (pc' := 226) (L' := #[.val (.int p0), .val (.int p1), .val (.int p2), .val (.int p3), .val (.int p4), .val (.int p5), .val (.int u1), .val (.int u2), .val (.int u3), .val (.int u4), .val (.ref a5), .val (.int u9), .val (.int u10), .val (.int u11), .val (.ref a12), .val (.ref a14), .val (.ref a18), .val (.int (3 : Int32)), .val (.ref a18), .val (.int (3 : Int32)), .val (.int ([u2, u3, u4].getD u9.toNatClampNeg 0)), .val (.int ([u2, u3, u4].getD u10.toNatClampNeg 0)), .val (.int (0 : Int32)), .unset, .unset]) cx st21 at_224 rfl rfl ?_
    refine E_aload (pc' := 228) cx st21 at_226 rfl rfl rfl ?_
    refine E_iload (pc' := 230) cx st21 at_228 rfl rfl ?_
    refine E_iaload (pc' := 231) (x := ([u2, u3, u4].getD u11.toNatClampNeg 0)) cx st21 V59 hk2 (getD_int [u2, u3, u4] _ 0) at_230 rfl ?_
    refine E_istore (pc' := 233) (L' := #[.val (.int p0), .val (.int p1), .val (.int p2), .val (.int p3), .val (.int p4), .val (.int p5), .val (.int u1), .val (.int u2), .val (.int u3), .val (.int u4), .val (.ref a5), .val (.int u9), .val (.int u10), .val (.int u11), .val (.ref a12), .val (.ref a14), .val (.ref a18), .val (.int (3 : Int32)), .val (.ref a18), .val (.int (3 : Int32)), .val (.int ([u2, u3, u4].getD u9.toNatClampNeg 0)), .val (.int ([u2, u3, u4].getD u10.toNatClampNeg 0)), .val (.int ([u2, u3, u4].getD u11.toNatClampNeg 0)), .unset, .unset]) cx st21 at_231 rfl rfl ?_
    refine E_aload (pc' := 235) cx st21 at_233 rfl rfl rfl ?_
    refine E_aload (pc' := 237) cx st21 at_235 rfl rfl rfl ?_
    refine E_iload (pc' := 239) cx st21 at_237 rfl rfl ?_
    have V60 : Arv Z h21 a12 ca12 .int (0 : Int32) [] (.int (0 : Int32)) := ((((V17.ext E18).other W19 ne_a12_a18).other W20 ne_a12_a18).other W21 ne_a12_a18)
    have V61 : Arv Z h21 a14 ca14 .int (1 : Int32) [(.int u9)] (.int (0 : Int32)) := ((((V15p.ext E18).other W19 ne_a14_a18).other W20 ne_a14_a18).other W21 ne_a14_a18)
    refine E_callS (pc' := 242) (kc' := 5) (ks' := 12) (W := 0) (argsL := [(.ref a5), (.ref a18), (.int u1)]) cx st21 [] (rm1m3 l Z a0 hw a5 a18 u1 u2 u3 u4 u9 u10 u11 h21 n0 Z21 ca5 V59 hP ca18 V21p hk0 hw0 hk1 hw1 hk2 hw2) (hw _ (List.mem_of_getElem? (i := 2) rfl)) (hw _ (List.mem_of_getElem? (i := 3) rfl)) (hw _ (List.mem_of_getElem? (i := 4) rfl)) (hw _ (List.mem_of_getElem? (i := 5) rfl)) at_239 rfl rfl (lenOf pd_1 rfl) (Nat.le_of_eq rfl) (by decide) (by decide) (by decide) (by decide) (by decide) (by decide) (by decide) rfl ?_
    intro v62 T62 h62 st62 hq62
    obtain ⟨r, kr, rs, rfl, hsz, K62, VR, hR⟩ := hq62
    have ne_a5_r : a5 ≠ r := Nat.ne_of_lt (Nat.lt_of_lt_of_le V59.lt hsz)
    have ne_a12_r : a12 ≠ r := Nat.ne_of_lt (Nat.lt_of_lt_of_le V60.lt hsz)
    have ne_a14_r : a14 ≠ r := Nat.ne_of_lt (Nat.lt_of_lt_of_le V61.lt hsz)
    have ne_a18_r : a18 ≠ r := Nat.ne_of_lt (Nat.lt_of_lt_of_le V21p.lt hsz)
    have Z62 : n0 ≤ h62.size := Nat.le_trans Z21 K62.1
    refine E_astore (pc' := 244) (L' := #[.val (.int p0), .val (.int p1), .val (.int p2), .val (.int p3), .val (.int p4), .val (.int p5), .val (.int u1), .val (.int u2), .val (.int u3), .val (.int u4), .val (.ref a5), .val (.int u9), .val (.int u10), .val (.int u11), .val (.ref a12), .val (.ref a14), .val (.ref a18), .val (.int (3 : Int32)), .val (.ref a18), .val (.int (3 : Int32)), .val (.int ([u2, u3, u4].getD u9.toNatClampNeg 0)), .val (.int ([u2, u3, u4].getD u10.toNatClampNeg 0)), .val (.int ([u2, u3, u4].getD u11.toNatClampNeg 0)), .val (.ref r), .unset]) cx st62 at_242 rfl rfl rfl ?_
    refine E_aload (pc' := 246) cx st62 at_244 rfl rfl rfl ?_
    refine E_ifnullN (pc' := 249) cx st62 at_246 rfl ?_
    refine E_aload (pc' := 251) cx st62 at_249 rfl rfl rfl ?_
    refine E_arraylength (pc' := 252) cx st62 VR at_251 rfl ?_
    refine E_iload (pc' := 254) cx st62 at_252 rfl rfl ?_
    refine E_iconst (pc' := 255) cx st62 (1 : Int32) at_254 rfl rfl ?_
    refine E_iadd (pc' := 256) cx st62 at_255 rfl ?_
    refine E_icmp_eqY (pc' := 261) cx st62 at_256 (by decide) (by decide) rfl ?_
    refine E_aload (pc' := 263) cx st62 at_261 rfl rfl rfl ?_
    refine E_iconst (pc' := 264) cx st62 (0 : Int32) at_263 rfl rfl ?_
    have V63 : Arv Z h62 a5 ca5 .int (3 : Int32) [(.int u2), (.int u3), (.int u4)] (.int (0 : Int32)) := (V59.keep K62 nin0)
    refine E_iaload (pc' := 265) (x := u2) cx st62 V63 ⟨by decide, by decide⟩ rfl at_264 rfl ?_
    refine E_iload (pc' := 267) cx st62 at_265 rfl rfl ?_
    refine E_icmp_neN (pc' := 270) cx st62 at_267 rfl rfl ?_
    refine E_aload (pc' := 272) cx st62 at_270 rfl rfl rfl ?_
    refine E_iconst (pc' := 273) cx st62 (1 : Int32) at_272 rfl rfl ?_
    refine E_iaload (pc' := 274) (x := u3) cx st62 V63 ⟨by decide, by decide⟩ rfl at_273 rfl ?_
    refine E_iload (pc' := 276) cx st62 at_274 rfl rfl ?_
    refine E_icmp_neN (pc' := 279) cx st62 at_276 rfl rfl ?_
    refine E_aload (pc' := 281) cx st62 at_279 rfl rfl rfl ?_
    refine E_iconst (pc' := 282) cx st62 (2 : Int32) at_281 rfl rfl ?_
    refine E_iaload (pc' := 283) (x := u4) cx st62 V63 ⟨by decide, by decide⟩ rfl at_282 rfl ?_
    refine E_iload (pc' := 285) cx st62 at_283 rfl rfl ?_
    refine E_icmp_neN (pc' := 288) cx st62 at_285 rfl rfl ?_
    refine E_aload (pc' := 290) cx st62 at_288 rfl rfl rfl ?_
    refine E_iconst (pc' := 291) cx st62 (0 : Int32) at_290 rfl rfl ?_
    have V64 : Arv Z h62 a18 ca18 .int (3 : Int32) [(.int u9), (.int u10), (.int u11)] (.int (0 : Int32)) := (V21p.keep K62 nin0)
    refine E_iaload (pc' := 292) (x := u9) cx st62 V64 ⟨by decide, by decide⟩ rfl at_291 rfl ?_
    refine E_iload (pc' := 294) cx st62 at_292 rfl rfl ?_
    refine E_icmp_neN (pc' := 297) cx st62 at_294 rfl rfl ?_
    refine E_aload (pc' := 299) cx st62 at_297 rfl rfl rfl ?_
    refine E_iconst (pc' := 300) cx st62 (1 : Int32) at_299 rfl rfl ?_
    refine E_iaload (pc' := 301) (x := u10) cx st62 V64 ⟨by decide, by decide⟩ rfl at_300 rfl ?_
    refine E_iload (pc' := 303) cx st62 at_301 rfl rfl ?_
    refine E_icmp_neN (pc' := 306) cx st62 at_303 rfl rfl ?_
    refine E_aload (pc' := 308) cx st62 at_306 rfl rfl rfl ?_
    refine E_iconst (pc' := 309) cx st62 (2 : Int32) at_308 rfl rfl ?_
    refine E_iaload (pc' := 310) (x := u11) cx st62 V64 ⟨by decide, by decide⟩ rfl at_309 rfl ?_
    refine E_iload (pc' := 312) cx st62 at_310 rfl rfl ?_
    refine E_icmp_neN (pc' := 315) cx st62 at_312 rfl rfl ?_
    refine E_aload (pc' := 317) cx st62 at_315 rfl rfl rfl ?_
    refine E_iconst (pc' := 318) cx st62 (0 : Int32) at_317 rfl rfl ?_
    have V65 : Arv Z h62 a14 ca14 .int (1 : Int32) [(.int u9)] (.int (0 : Int32)) := (V61.keep K62 nin0)
    refine E_iaload (pc' := 319) (x := u9) cx st62 V65 ⟨by decide, by decide⟩ rfl at_318 rfl ?_
    refine E_iload (pc' := 321) cx st62 at_319 rfl rfl ?_
    refine E_icmp_neN (pc' := 324) cx st62 at_321 rfl rfl ?_
    refine E_iconst (pc' := 325) cx st62 (1 : Int32) at_324 rfl rfl ?_
    refine E_goto (pc' := 329) cx st62 at_325 (by decide) (by decide) ?_
    refine E_istore (pc' := 331) (L' := #[.val (.int p0), .val (.int p1), .val (.int p2), .val (.int p3), .val (.int p4), .val (.int p5), .val (.int u1), .val (.int u2), .val (.int u3), .val (.int u4), .val (.ref a5), .val (.int u9), .val (.int u10), .val (.int u11), .val (.ref a12), .val (.ref a14), .val (.ref a18), .val (.int (3 : Int32)), .val (.ref a18), .val (.int (3 : Int32)), .val (.int ([u2, u3, u4].getD u9.toNatClampNeg 0)), .val (.int ([u2, u3, u4].getD u10.toNatClampNeg 0)), .val (.int ([u2, u3, u4].getD u11.toNatClampNeg 0)), .val (.ref r), .val (.int (1 : Int32))]) cx st62 at_329 rfl rfl ?_
    refine E_iload (pc' := 333) cx st62 at_331 rfl rfl ?_
    refine E_if_eqN (pc' := 336) cx st62 at_333 rfl (by decide) ?_
    refine E_aload (pc' := 338) cx st62 at_336 rfl rfl rfl ?_
    refine E_iconst (pc' := 339) cx st62 (0 : Int32) at_338 rfl rfl ?_
    refine E_iload (pc' := 341) cx st62 at_339 rfl rfl ?_
    refine E_iload (pc' := 343) cx st62 at_341 rfl rfl ?_
    refine E_iload (pc' := 345) cx st62 at_343 rfl rfl ?_
    refine E_iload (pc' := 347) cx st62 at_345 rfl rfl ?_
    refine E_iload (pc' := 349) cx st62 at_347 rfl rfl ?_
    refine E_callS (pc' := 352) (kc' := 5) (ks' := 12) (W := 0) (argsL := [(.ref r), (.int (0 : Int32)), (.int u1), (.int (3 : Int32)), (.int ([u2, u3, u4].getD u9.toNatClampNeg 0)), (.int ([u2, u3, u4].getD u10.toNatClampNeg 0)), (.int ([u2, u3, u4].getD u11.toNatClampNeg 0))]) cx st62 [] (rm2 l Z a0 hw r (0 : Int32) u1 (3 : Int32) ([u2, u3, u4].getD u9.toNatClampNeg 0) ([u2, u3, u4].getD u10.toNatClampNeg 0) ([u2, u3, u4].getD u11.toNatClampNeg 0) h62 n0 Z62 kr (u1 + 1) rs VR (fun hq => ⟨atq hP (by decide) hq, hR (0 : Int32) (by decide) hq⟩)) (hw _ (List.mem_of_getElem? (i := 6) rfl)) (hw _ (List.mem_of_getElem? (i := 7) rfl)) (hw _ (List.mem_of_getElem? (i := 8) rfl)) (hw _ (List.mem_of_getElem? (i := 9) rfl)) at_349 rfl rfl (lenOf pd_2 rfl) (Nat.le_of_eq rfl) (by decide) (by decide) (by decide) (by decide) (by decide) (by decide) (by decide) rfl ?_
    intro v66 T66 h66 st66 hq66
    obtain ⟨rfl, hh66⟩ := hq66
    rw [hh66] at st66
    refine E_if_eqN (pc' := 355) cx st66 at_352 rfl (by decide) ?_
    refine E_aload (pc' := 357) cx st66 at_355 rfl rfl rfl ?_
    refine E_iconst (pc' := 358) cx st66 (1 : Int32) at_357 rfl rfl ?_
    refine E_iload (pc' := 360) cx st66 at_358 rfl rfl ?_
    refine E_iload (pc' := 362) cx st66 at_360 rfl rfl ?_
    refine E_iload (pc' := 364) cx st66 at_362 rfl rfl ?_
    refine E_iload (pc' := 366) cx st66 at_364 rfl rfl ?_
    refine E_iload (pc' := 368) cx st66 at_366 rfl rfl ?_
    refine E_callS (pc' := 371) (kc' := 5) (ks' := 12) (W := 0) (argsL := [(.ref r), (.int (1 : Int32)), (.int u1), (.int (3 : Int32)), (.int ([u2, u3, u4].getD u9.toNatClampNeg 0)), (.int ([u2, u3, u4].getD u10.toNatClampNeg 0)), (.int ([u2, u3, u4].getD u11.toNatClampNeg 0))]) cx st66 [] (rm2 l Z a0 hw r (1 : Int32) u1 (3 : Int32) ([u2, u3, u4].getD u9.toNatClampNeg 0) ([u2, u3, u4].getD u10.toNatClampNeg 0) ([u2, u3, u4].getD u11.toNatClampNeg 0) h62 n0 Z62 kr (u1 + 1) rs VR (fun hq => ⟨atq hP (by decide) hq, hR (1 : Int32) (by decide) hq⟩)) (hw _ (List.mem_of_getElem? (i := 6) rfl)) (hw _ (List.mem_of_getElem? (i := 7) rfl)) (hw _ (List.mem_of_getElem? (i := 8) rfl)) (hw _ (List.mem_of_getElem? (i := 9) rfl)) at_368 rfl rfl (lenOf pd_2 rfl) (Nat.le_of_eq rfl) (by decide) (by decide) (by decide) (by decide) (by decide) (by decide) (by decide) rfl ?_
    intro v67 T67 h67 st67 hq67
    obtain ⟨rfl, hh67⟩ := hq67
    rw [hh67] at st67
    refine E_if_eqN (pc' := 374) cx st67 at_371 rfl (by decide) ?_
    refine E_aload (pc' := 376) cx st67 at_374 rfl rfl rfl ?_
    refine E_iconst (pc' := 377) cx st67 (2 : Int32) at_376 rfl rfl ?_
    refine E_iload (pc' := 379) cx st67 at_377 rfl rfl ?_
    refine E_iload (pc' := 381) cx st67 at_379 rfl rfl ?_
    refine E_iload (pc' := 383) cx st67 at_381 rfl rfl ?_
    refine E_iload (pc' := 385) cx st67 at_383 rfl rfl ?_
    refine E_iload (pc' := 387) cx st67 at_385 rfl rfl ?_
    refine E_callS (pc' := 390) (kc' := 5) (ks' := 12) (W := 0) (argsL := [(.ref r), (.int (2 : Int32)), (.int u1), (.int (3 : Int32)), (.int ([u2, u3, u4].getD u9.toNatClampNeg 0)), (.int ([u2, u3, u4].getD u10.toNatClampNeg 0)), (.int ([u2, u3, u4].getD u11.toNatClampNeg 0))]) cx st67 [] (rm2 l Z a0 hw r (2 : Int32) u1 (3 : Int32) ([u2, u3, u4].getD u9.toNatClampNeg 0) ([u2, u3, u4].getD u10.toNatClampNeg 0) ([u2, u3, u4].getD u11.toNatClampNeg 0) h62 n0 Z62 kr (u1 + 1) rs VR (fun hq => ⟨atq hP (by decide) hq, hR (2 : Int32) (by decide) hq⟩)) (hw _ (List.mem_of_getElem? (i := 6) rfl)) (hw _ (List.mem_of_getElem? (i := 7) rfl)) (hw _ (List.mem_of_getElem? (i := 8) rfl)) (hw _ (List.mem_of_getElem? (i := 9) rfl)) at_387 rfl rfl (lenOf pd_2 rfl) (Nat.le_of_eq rfl) (by decide) (by decide) (by decide) (by decide) (by decide) (by decide) (by decide) rfl ?_
    intro v68 T68 h68 st68 hq68
    obtain ⟨rfl, hh68⟩ := hq68
    rw [hh68] at st68
    refine E_if_eqN (pc' := 393) cx st68 at_390 rfl (by decide) ?_
    refine E_aload (pc' := 395) cx st68 at_393 rfl rfl rfl ?_
    refine E_iconst (pc' := 396) cx st68 (3 : Int32) at_395 rfl rfl ?_
    refine E_iload (pc' := 398) cx st68 at_396 rfl rfl ?_
    refine E_iload (pc' := 400) cx st68 at_398 rfl rfl ?_
    refine E_iload (pc' := 402) cx st68 at_400 rfl rfl ?_
    refine E_iload (pc' := 404) cx st68 at_402 rfl rfl ?_
    refine E_iload (pc' := 406) cx st68 at_404 rfl rfl ?_
    refine E_callS (pc' := 409) (kc' := 5) (ks' := 12) (W := 0) (argsL := [(.ref r), (.int (3 : Int32)), (.int u1), (.int (3 : Int32)), (.int ([u2, u3, u4].getD u9.toNatClampNeg 0)), (.int ([u2, u3, u4].getD u10.toNatClampNeg 0)), (.int ([u2, u3, u4].getD u11.toNatClampNeg 0))]) cx st68 [] (rm2 l Z a0 hw r (3 : Int32) u1 (3 : Int32) ([u2, u3, u4].getD u9.toNatClampNeg 0) ([u2, u3, u4].getD u10.toNatClampNeg 0) ([u2, u3, u4].getD u11.toNatClampNeg 0) h62 n0 Z62 kr (u1 + 1) rs VR (fun hq => ⟨atq hP (by decide) hq, hR (3 : Int32) (by decide) hq⟩)) (hw _ (List.mem_of_getElem? (i := 6) rfl)) (hw _ (List.mem_of_getElem? (i := 7) rfl)) (hw _ (List.mem_of_getElem? (i := 8) rfl)) (hw _ (List.mem_of_getElem? (i := 9) rfl)) at_406 rfl rfl (lenOf pd_2 rfl) (Nat.le_of_eq rfl) (by decide) (by decide) (by decide) (by decide) (by decide) (by decide) (by decide) rfl ?_
    intro v69 T69 h69 st69 hq69
    obtain ⟨rfl, hh69⟩ := hq69
    rw [hh69] at st69
    refine E_if_eqN (pc' := 412) cx st69 at_409 rfl (by decide) ?_
    refine E_aload (pc' := 414) cx st69 at_412 rfl rfl rfl ?_
    refine E_iconst (pc' := 415) cx st69 (4 : Int32) at_414 rfl rfl ?_
    refine E_iload (pc' := 417) cx st69 at_415 rfl rfl ?_
    refine E_iload (pc' := 419) cx st69 at_417 rfl rfl ?_
    refine E_iload (pc' := 421) cx st69 at_419 rfl rfl ?_
    refine E_iload (pc' := 423) cx st69 at_421 rfl rfl ?_
    refine E_iload (pc' := 425) cx st69 at_423 rfl rfl ?_
    refine E_callS (pc' := 428) (kc' := 5) (ks' := 12) (W := 0) (argsL := [(.ref r), (.int (4 : Int32)), (.int u1), (.int (3 : Int32)), (.int ([u2, u3, u4].getD u9.toNatClampNeg 0)), (.int ([u2, u3, u4].getD u10.toNatClampNeg 0)), (.int ([u2, u3, u4].getD u11.toNatClampNeg 0))]) cx st69 [] (rm2 l Z a0 hw r (4 : Int32) u1 (3 : Int32) ([u2, u3, u4].getD u9.toNatClampNeg 0) ([u2, u3, u4].getD u10.toNatClampNeg 0) ([u2, u3, u4].getD u11.toNatClampNeg 0) h62 n0 Z62 kr (u1 + 1) rs VR (fun hq => ⟨atq hP (by decide) hq, hR (4 : Int32) (by decide) hq⟩)) (hw _ (List.mem_of_getElem? (i := 6) rfl)) (hw _ (List.mem_of_getElem? (i := 7) rfl)) (hw _ (List.mem_of_getElem? (i := 8) rfl)) (hw _ (List.mem_of_getElem? (i := 9) rfl)) at_425 rfl rfl (lenOf pd_2 rfl) (Nat.le_of_eq rfl) (by decide) (by decide) (by decide) (by decide) (by decide) (by decide) (by decide) rfl ?_
    intro v70 T70 h70 st70 hq70
    obtain ⟨rfl, hh70⟩ := hq70
    rw [hh70] at st70
    refine E_if_eqN (pc' := 431) cx st70 at_428 rfl (by decide) ?_
    refine E_iconst (pc' := 432) cx st70 (1 : Int32) at_431 rfl rfl ?_
    refine E_goto (pc' := 436) cx st70 at_432 (by decide) (by decide) ?_
    refine E_ireturn (t := .boolean) cx st70 at_436 rfl (by simp) rfl (by decide) (by decide) ?_
    exact rfl
set_option maxRecDepth 65536 in
set_option maxHeartbeats 40000000 in
theorem comes_1 {Post : Tables → Env → Array Value → State → Outcome → State → Prop} (hpost : ∀ tb e args s v u, (limb_1_1.after args s (.returned v) u = true ∧ limb_1_2.after args s (.returned v) u = true ∧ True) → FrameEnd s (.returned v) u (Jvm.fieldLocs frame_1_writes args s ++ Jvm.arrayLocs frame_1_arrays args s ++ Jvm.staticLocs frame_1_statics s) 24 128 → Post tb e args s (.returned v) u) :
    ArmFor flags0 classFile x code maxLocals ret World_1 tables_1 room_1 Calls_1 rest_1 Pre_1 Post := by
  intro l hfl _ _ p e ha hc hk s m args below hf hA hF happ hP
  obtain ⟨hcalls, hrest, hpre⟩ := hP
  obtain ⟨-, -, -, hnamed, -, -, -, hat⟩ := (Spec.applies_iff hf).mp happ
  obtain ⟨hg, hn⟩ := and_e (Cond.before_iff.mp (show (Jvm.Cond.and given_1 narrow_1).before args s = true from hpre))
  obtain ⟨g0, hg⟩ := and_e hg
  obtain ⟨ga0, hg⟩ := and_e hg
  obtain ⟨ga1, hg⟩ := and_e hg
  obtain ⟨ga2, hg⟩ := and_e hg
  obtain ⟨ga3, hg⟩ := and_e hg
  obtain ⟨ga4, hg⟩ := and_e hg
  have ga5 := hg
  obtain ⟨w0, w1, w2, w3, w4, w5, rfl⟩ : ∃ w0 w1 w2 w3 w4 w5 : Value, args = #[w0, w1, w2, w3, w4, w5] := by
    have hs : args.size = 6 := by simpa [Cond.value, given_1] using g0
    obtain ⟨L⟩ := args
    match L, hs with
    | [w0, w1, w2, w3, w4, w5], _ => exact ⟨w0, w1, w2, w3, w4, w5, rfl⟩
  have hw := fun d (hd : d ∈ tables_1) => atoms_spec (ws := Jvm.Cond.code x code maxLocals ret :: tables_1) hat d (List.mem_cons_of_mem _ hd)
  obtain ⟨i0, ei0⟩ := is_v ga0
  obtain rfl : w0 = (.int i0) := Option.some.inj ei0
  obtain ⟨i1, ei1⟩ := is_v ga1
  obtain rfl : w1 = (.int i1) := Option.some.inj ei1
  obtain ⟨i2, ei2⟩ := is_v ga2
  obtain rfl : w2 = (.int i2) := Option.some.inj ei2
  obtain ⟨i3, ei3⟩ := is_v ga3
  obtain rfl : w3 = (.int i3) := Option.some.inj ei3
  obtain ⟨i4, ei4⟩ := is_v ga4
  obtain rfl : w4 = (.int i4) := Option.some.inj ei4
  obtain ⟨i5, ei5⟩ := is_v ga5
  obtain rfl : w5 = (.int i5) := Option.some.inj ei5
  obtain ⟨n, o, h1, h2, h3, _, L, rfl, ⟨N, rfl⟩, hq⟩ := rm0 l s _ hw i0 i1 i2 i3 i4 i5 s.heap s.heap.size (Nat.le_refl _) tables_1 p e ha hc hk s m _ below hf ((Spec.applies_iff_loose hf).mp happ).1 ⟨rfl, State.Warmed39.refl s, rfl⟩ trivial
  refine ⟨n, _, h1, h2, h3, hpost _ _ _ _ _ _ ⟨Cond.after_iff.mpr rfl, Cond.after_iff.mpr (eq_i res_at (Term.int_eval (1)) rfl), trivial⟩ ⟨hq.1, hq.2.1, (hq.2.2.sift fun y hy => Or.inr (N y hy)).mono (by decide) (by decide)⟩⟩
theorem main_1_1 : Claimed_1_1 := comes_1 fun _ _ _ _ _ _ h hF => ⟨h.1, hF⟩
theorem main_1_2 : Claimed_1_2 := comes_1 fun _ _ _ _ _ _ h hF => ⟨h.2.1, hF⟩
end Jvm.Pilot.@@N@@
namespace Jvm.Pilot.@@N@@
open Jvm Jvm.ClassFile Sem Op Lib Jvm.Free Jvm.Stand Jvm.Pilot.@@N@@.Jvm.D
/-! MADE BY PROGRAM (witnessworld.py) out of the Statement's table words and the real class files: 9 classes; the members and pool entries that the words name. The judged class is class 1, her method 3. -/
namespace start1
open Jvm.ClassFile
def u (s : String) : CpInfo := .utf8 (stringToUtf16 s)
/-- a pool by its gaps: so many unusable entries, then the entry; so many at the end -/
def gap : Nat → List CpInfo → List CpInfo
  | 0, r => r
  | n + 1, r => .unusable :: gap n r
def poolList (es : List (Nat × CpInfo)) (last : Nat) : List CpInfo := es.foldr (fun e r => gap e.1 (e.2 :: r)) (gap last [])
def pool (es : List (Nat × CpInfo)) (last : Nat) : Array CpInfo := ⟨poolList es last⟩
def fileOf (pool : Array CpInfo) (this : Nat) (attrs : Array Attribute := #[]) (ms : Array MethodInfo := #[]) (fl : Nat := 33) (sup : Nat := 0) (ifs : Array Nat := #[]) (fds : Array FieldInfo := #[]) : ClassFile where
  minorVersion := 0
  majorVersion := 65
  constantPool := pool
  accessFlags := fl
  thisClass := this
  superClass := sup
  interfaces := ifs
  fields := fds
  methods := ms
  attributes := attrs
def plain (name : String) (sup : Option ClassId) : Class where
  name := name
  kind := .ordinary
  loader := none
  accessFlags := 33
  super := sup
  interfaces := #[]
  cf := none
  fields := #[]
  methods := #[]
  instanceTypes := #[]
  staticTypes := #[]
  resolved := #[]
  callSites := []
  init := .initialized
  statics := none
  mirror := none

def pool0 : Array CpInfo := pool [(5, u "<init>"), (0, u "()V"), (1, .class_ 10), (1, u "java/lang/Object")] 113

def k0m0 : Method := { name := "<init>", desc := "()V", sig := { parameters := [], returnType := none }, accessFlags := 1, code := none }
/-- java/lang/Object -/
def k0 : Class := { plain "java/lang/Object" none with
  accessFlags := 33
  interfaces := #[]
  cf := some (fileOf pool0 8 #[] #[{ accessFlags := 1, nameIndex := 5, descriptorIndex := 6, attributes := #[] }] 33 0 #[] #[])
  fields := #[]
  methods := #[k0m0]
  instanceTypes := #[]
  staticTypes := #[]
  resolved := Array.replicate 124 none
  statics := none }

def pool1 : Array CpInfo := pool [(2, .class_ 4), (1, u "java/lang/Object"), (0, u "<init>"), (0, u "()V"), (0, .methodref 8 9), (0, .class_ 10), (0, .nameAndType 11 12), (0, u "org/querne/rdf/CountingSortStartsPinLaw"), (0, u "below"), (0, u "(IIIII)I"), (0, .integer 2147483647), (0, .methodref 15 16), (0, .class_ 17), (0, .nameAndType 18 19), (0, u "org/querne/rdf/CountingSort"), (0, u "starts"), (0, u "([I[II)[I"), (0, .methodref 8 21), (0, .nameAndType 22 23), (0, u "at"), (0, u "([IIIIIII)Z"), (3, u "law"), (0, u "(IIIIII)Z")] 4

def k1m0 : Method := { name := "<init>", desc := "()V", sig := { parameters := [], returnType := none }, accessFlags := 2, code := none }
def k1c1 : Code := { maxStack := 2, maxLocals := 6, code := method_2_code, exceptionTable := #[], attributes := #[] }
def k1m1 : Method := { name := "below", desc := "(IIIII)I", sig := { parameters := [.int, .int, .int, .int, .int], returnType := some .int }, accessFlags := 10, code := some k1c1 }
def k1c2 : Code := { maxStack := 6, maxLocals := 7, code := method_3_code, exceptionTable := #[], attributes := #[] }
def k1m2 : Method := { name := "at", desc := "([IIIIIII)Z", sig := { parameters := [(.array .int), .int, .int, .int, .int, .int, .int], returnType := some .boolean }, accessFlags := 10, code := some k1c2 }
def k1c3 : Code := { maxStack := 7, maxLocals := 25, code := code, exceptionTable := #[], attributes := #[] }
def k1m3 : Method := { name := "law", desc := "(IIIIII)Z", sig := { parameters := [.int, .int, .int, .int, .int, .int], returnType := some .boolean }, accessFlags := 9, code := some k1c3 }
/-- org/querne/rdf/CountingSortStartsPinLaw -/
def k1 : Class := { plain "org/querne/rdf/CountingSortStartsPinLaw" (some 0) with
  accessFlags := 49
  interfaces := #[]
  cf := some (fileOf pool1 8 #[] #[{ accessFlags := 2, nameIndex := 5, descriptorIndex := 6, attributes := #[] }, { accessFlags := 10, nameIndex := 11, descriptorIndex := 12, attributes := #[] }, { accessFlags := 10, nameIndex := 22, descriptorIndex := 23, attributes := #[] }, { accessFlags := 9, nameIndex := 27, descriptorIndex := 28, attributes := #[] }] 49 2 #[] #[])
  fields := #[]
  methods := #[k1m0, k1m1, k1m2, k1m3]
  instanceTypes := #[]
  staticTypes := #[]
  resolved := Array.replicate 33 none
  statics := none }

def pool2 : Array CpInfo := pool [(2, .class_ 4), (1, u "java/lang/Object"), (0, u "<init>"), (0, u "()V"), (29, .class_ 38), (1, u "org/querne/rdf/CountingSort"), (0, u "starts"), (0, u "([I[II)[I")] 34

def k2m0 : Method := { name := "<init>", desc := "()V", sig := { parameters := [], returnType := none }, accessFlags := 2, code := none }
def k2c1 : Code := { maxStack := 5, maxLocals := 6, code := prog_79_method_3_code, exceptionTable := #[], attributes := #[] }
def k2m1 : Method := { name := "starts", desc := "([I[II)[I", sig := { parameters := [(.array .int), (.array .int), .int], returnType := some (.array .int) }, accessFlags := 8, code := some k2c1 }
/-- org/querne/rdf/CountingSort -/
def k2 : Class := { plain "org/querne/rdf/CountingSort" (some 0) with
  accessFlags := 48
  interfaces := #[]
  cf := some (fileOf pool2 36 #[] #[{ accessFlags := 2, nameIndex := 5, descriptorIndex := 6, attributes := #[] }, { accessFlags := 8, nameIndex := 39, descriptorIndex := 40, attributes := #[] }] 48 2 #[] #[])
  fields := #[]
  methods := #[k2m0, k2m1]
  instanceTypes := #[]
  staticTypes := #[]
  resolved := Array.replicate 75 none
  statics := none }

def pool3 : Array CpInfo := pool [(1, u "java/lang/Cloneable"), (0, .class_ 1), (0, u "java/lang/Object"), (0, .class_ 3)] 3

/-- java/lang/Cloneable -/
def k3 : Class := { plain "java/lang/Cloneable" (some 0) with
  accessFlags := 1537
  interfaces := #[]
  cf := some (fileOf pool3 2 #[] #[] 1537 4 #[] #[])
  fields := #[]
  methods := #[]
  instanceTypes := #[]
  staticTypes := #[]
  resolved := Array.replicate 8 none
  statics := none }

def pool4 : Array CpInfo := pool [(1, u "java/io/Serializable"), (0, .class_ 1), (0, u "java/lang/Object"), (0, .class_ 3)] 3

/-- java/io/Serializable -/
def k4 : Class := { plain "java/io/Serializable" (some 0) with
  accessFlags := 1537
  interfaces := #[]
  cf := some (fileOf pool4 2 #[] #[] 1537 4 #[] #[])
  fields := #[]
  methods := #[]
  instanceTypes := #[]
  staticTypes := #[]
  resolved := Array.replicate 8 none
  statics := none }

/-- the primitive byte -/
def k5 : Class := { plain "byte" none with kind := .primitive 'B', accessFlags := 0x411 }
/-- [B -/
def k6 : Class := { plain "[B" (some 0) with kind := .array 5 .byte, interfaces := #[3, 4], accessFlags := 1041 }

/-- the primitive int -/
def k7 : Class := { plain "int" none with kind := .primitive 'I', accessFlags := 0x411 }
/-- [I -/
def k8 : Class := { plain "[I" (some 0) with kind := .array 7 .int, interfaces := #[3, 4], accessFlags := 1041 }

def heap : Heap := #[]
def classes : Array Class := #[k0, k1, k2, k3, k4, k5, k6, k7, k8]
def interned : List (Array UInt16 × Addr) := []
def slotsUsed : Nat := 0
def theMethod : MethodId := ⟨1, 3⟩
def args0 : Array Value := #[.int 5, .int 7, .int 9, .int 3, .int 4, .int 2]
def aboutOver (below : List Frame) : State where
  vm := { classes := classes, interned := interned.toArray }
  heap := heap
  slotsUsed := slotsUsed
  threads := #[{ frames := .invoking theMethod args0 :: below }]
def below0 : List Frame := [.native { method := ⟨0, 0⟩, args := #[] }]
def about1 : State := aboutOver below0
def p0 : Program := .bare "" "" ""
def e0 : Env := launch0.env 0 0 0
theorem w_frames : about1.frames = Frame.invoking theMethod args0 :: below0 := rfl
set_option maxRecDepth 65536 in
theorem w_args : argsFit about1.vm theMethod args0 = true := by decide +kernel
set_option maxRecDepth 65536 in
theorem w_heap : heapFits about1 = true := by decide +kernel
set_option maxRecDepth 65536 in
theorem w_runnable : about1.curStatus? = some .runnable := by decide +kernel
set_option maxRecDepth 65536 in
theorem w_alone : about1.alone = true := by decide +kernel
set_option maxRecDepth 65536 in
theorem w_named : about1.methodNamed? x = some theMethod := by decide +kernel
set_option maxRecDepth 65536 in
theorem w_hears : about1.hears theMethod below0 = true := by decide +kernel
set_option maxRecDepth 65536 in
theorem w_ripe : about1.ripe theMethod args0 below0 = true := by decide +kernel
theorem w_running : about1.status = .running := rfl
set_option maxRecDepth 65536 in
theorem w_room : about1.hasRoom e0.platform room_1 = true :=
  launch0.hasRoom_least _ room_1 (by decide +kernel) (by decide +kernel) (by decide +kernel) (by decide +kernel) (by decide +kernel) (by decide +kernel)
theorem allAtoms_all (ts : List Jvm.Cond) (a : Array Jvm.Value) (st : Jvm.State) : (allAtoms ts).before a st = ts.all (fun c => c.before a st) := by
  induction ts with
  | nil => rfl
  | cons c t ih =>
    show (Jvm.Cond.and c (allAtoms t)).before a st = _
    rw [Jvm.Cond.before_and, ih, List.all_cons]
def words1 : List Jvm.Cond := Jvm.Cond.code x code maxLocals ret :: tables_1
/-- a 'code' word, met by the world's own term for the bytes: nothing is compared byte by byte -/
theorem code_word {y : MethodName} {bytes : ByteArray} {mx : Nat} {rt : Option FieldType} {a : Array Value} {s : State} {m : MethodId} {meth : Method} {c : Code} (h1 : s.methodNamed? y = some m) (h2 : s.vm.method? m = some meth) (h3 : meth.code = some c) (h4 : c.code = bytes)
    (h5 : (c.maxLocals == mx && c.exceptionTable.isEmpty && decide (c.maxStack ≤ mostOperands) && decide (meth.sig.returnType = rt) && !meth.locks && decide (parseMethodDescriptor y.desc = some meth.sig)) = true) : (Jvm.Cond.code y bytes mx rt).before a s = true := by
  simp only [Bool.and_eq_true, beq_iff_eq, Bool.not_eq_true', decide_eq_true_eq] at h5
  obtain ⟨⟨⟨⟨⟨g1, g2⟩, g3⟩, g4⟩, g5⟩, g6⟩ := h5
  simp [Cond.before, Cond.holds, Cond.value, h1, h2, h3, h4, g1, g2, g3, g4, g5, g6]
def isCode : Jvm.Cond → Bool
  | .code _ _ _ _ => true
  | _ => false
theorem all_split {L : List Jvm.Cond} {P : Jvm.Cond → Bool} (h1 : L.all (fun c => isCode c || P c) = true) (h2 : ∀ c ∈ L.filter isCode, P c = true) : L.all P = true := by
  refine List.all_eq_true.mpr fun c hc => ?_
  have h := List.all_eq_true.mp h1 c hc
  rcases Bool.eq_false_or_eq_true (isCode c) with hi | hi
  · exact h2 c (List.mem_filter.mpr ⟨hc, hi⟩)
  · simpa [hi] using h
set_option maxRecDepth 65536 in
theorem w_c0 : (Jvm.Cond.code x code maxLocals ret).before args0 about1 = true := code_word (m := ⟨1, 3⟩) (meth := k1m3) (c := k1c3) (by decide +kernel) rfl rfl rfl (by decide +kernel)
set_option maxRecDepth 65536 in
theorem w_c1 : (Jvm.Cond.code ({ cls := "org/querne/rdf/CountingSort", name := "starts", desc := "([I[II)[I" } : Jvm.MethodName) prog_79_method_3_code (6 : Nat) (Option.some (Jvm.ClassFile.FieldType.array Jvm.ClassFile.FieldType.int))).before args0 about1 = true := code_word (m := ⟨2, 1⟩) (meth := k2m1) (c := k2c1) (by decide +kernel) rfl rfl rfl (by decide +kernel)
set_option maxRecDepth 65536 in
theorem w_c2 : (Jvm.Cond.code ({ cls := "org/querne/rdf/CountingSortStartsPinLaw", name := "at", desc := "([IIIIIII)Z" } : Jvm.MethodName) method_3_code (7 : Nat) (Option.some Jvm.ClassFile.FieldType.boolean)).before args0 about1 = true := code_word (m := ⟨1, 2⟩) (meth := k1m2) (c := k1c2) (by decide +kernel) rfl rfl rfl (by decide +kernel)
set_option maxRecDepth 65536 in
theorem w_c3 : (Jvm.Cond.code ({ cls := "org/querne/rdf/CountingSortStartsPinLaw", name := "below", desc := "(IIIII)I" } : Jvm.MethodName) method_2_code (6 : Nat) (Option.some Jvm.ClassFile.FieldType.int)).before args0 about1 = true := code_word (m := ⟨1, 1⟩) (meth := k1m1) (c := k1c1) (by decide +kernel) rfl rfl rfl (by decide +kernel)
def codes1 : List Jvm.Cond := [Jvm.Cond.code x code maxLocals ret, Jvm.Cond.code ({ cls := "org/querne/rdf/CountingSort", name := "starts", desc := "([I[II)[I" } : Jvm.MethodName) prog_79_method_3_code (6 : Nat) (Option.some (Jvm.ClassFile.FieldType.array Jvm.ClassFile.FieldType.int)), Jvm.Cond.code ({ cls := "org/querne/rdf/CountingSortStartsPinLaw", name := "at", desc := "([IIIIIII)Z" } : Jvm.MethodName) method_3_code (7 : Nat) (Option.some Jvm.ClassFile.FieldType.boolean), Jvm.Cond.code ({ cls := "org/querne/rdf/CountingSortStartsPinLaw", name := "below", desc := "(IIIII)I" } : Jvm.MethodName) method_2_code (6 : Nat) (Option.some Jvm.ClassFile.FieldType.int)]
set_option maxRecDepth 65536 in
theorem codes_eq : words1.filter isCode = codes1 := rfl
theorem w_codes : ∀ c ∈ words1.filter isCode, c.before args0 about1 = true := by
  rw [codes_eq]
  intro c hc
  simp only [codes1, List.mem_cons, List.not_mem_nil, or_false] at hc
  rcases hc with rfl | rfl | rfl | rfl
  · exact w_c0
  · exact w_c1
  · exact w_c2
  · exact w_c3
set_option maxRecDepth 65536 in
theorem w_t1 : words1.all (fun c => isCode c || c.before args0 about1) = true := by decide +kernel
theorem w_tables : (allAtoms (Jvm.Cond.code x code maxLocals ret :: tables_1)).before args0 about1 = true := by
  rw [allAtoms_all]
  show words1.all (fun c => c.before args0 about1) = true
  refine all_split ?_ w_codes
  rw [w_t1]
set_option maxRecDepth 65536 in
theorem w_case : (Jvm.Cond.and given_1 narrow_1).before args0 about1 = true := by decide +kernel
theorem w_applies : (headSpec (Jvm.Cond.code x code maxLocals ret :: tables_1) room_1).applies x e0.platform about1 = true :=
  (Spec.applies_iff w_frames).mpr ⟨w_running, w_runnable, w_alone, w_named, w_hears, w_ripe, w_room, w_tables⟩
theorem atStart : AtStart classFile x code maxLocals ret World_1 tables_1 room_1 Calls_1 rest_1 Pre_1 launch0 p0 e0 about1 theMethod args0 below0 :=
  ⟨lists_1, trivial, launch0.admits_env _ _ _, launch0.least_env, fairChoices_fair.cas, fairChoices_fair.clock, w_frames, w_args, w_heap, w_applies, trivial, trivial, w_case⟩
end start1
theorem witness_1 : WitnessClaimed_1 := ⟨start1.p0, start1.e0, start1.about1, start1.theMethod, start1.args0, start1.below0, start1.atStart⟩
end Jvm.Pilot.@@N@@
