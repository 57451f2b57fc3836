import JvmDerived
import JvmDerived.Pilot.@@N@@Statement
import JvmDerived.Pilot.@@N@@Code
set_option linter.unusedVariables false
set_option linter.unusedSimpArgs false
namespace Jvm.Pilot.@@N@@
open Jvm Jvm.ClassFile Sem Op Lib Jvm.Free Jvm.Stand Jvm.LawKit Jvm.RoadKit Bundle Jvm.Pilot.@@N@@.Jvm.D
section OwnKit
/-- where a walk of this body ends: it has returned, wrote nothing below n0, and Q holds of what it returned and of the heap -/
def Ends (n0 : Nat) (p : Program) (e : Env) (s : State) (below : List Frame) (R : Room) (Q : Option Value → Heap → Prop) (T : State) (g : JFrame) : Prop :=
  ∃ s₂ o, Steps p.tables e below (T.setTop g) s₂ ∧ s₂.status = .running ∧ Ended s₂ below o ∧ ∃ v L, o = .returned v ∧ (Fr n0 L ∧ Q v s₂.heap) ∧ FrameEnd s o s₂ L R.cells R.slots
/-- the walk stands at T over the heap h, having made at most kc cells of ks slots -/
def St (l : Launch) (n0 : Nat) (p : Program) (e : Env) (R : Room) (s : State) (m : MethodId) (args : Array Value) (below : List Frame) (meth : Method) (c : Code) (kc ks : Nat) (T : State) (h : Heap) : Prop :=
  ∃ locs cells slots, Stand p l e R s m args below meth c T locs cells slots ∧ T.heap = h ∧ Fr n0 locs ∧ cells ≤ kc ∧ slots ≤ ks
def Cx (l : Launch) (Z : State) (n0 : Nat) (p : Program) (e : Env) (R : Room) (s : State) (m : MethodId) (args : Array Value) (below : List Frame) (meth : Method) (c : Code) (bytes : ByteArray) (ml : Nat) (own name : String) (rt : Option FieldType) (Q : Option Value → Heap → Prop) (F : State → JFrame → Prop) (S : Nat → Nat → State → Heap → Prop) : Prop :=
  (p.tables.exec = Jvm.exec ∧ Z.Warmed39 s.vm ∧ c.code = bytes ∧ c.maxLocals = ml) ∧ (s.vm.findClass own = some m.cls ∧ meth.name = name ∧ meth.sig.returnType = rt ∧ meth.locks = false) ∧ F = Ends n0 p e s below R Q ∧ S = St l n0 p e R s m args below meth c
/-- a body's contract -/
def Con (l : Launch) (Z : State) (y : MethodName) (bytes : ByteArray) (ml : Nat) (rt : Option FieldType) (R : Room) (args : Array Value) (h0 : Heap) (n0 : Nat) (Q : Option Value → Heap → Prop) : Prop :=
  ∀ ws : List Jvm.Cond, MetFree l y (head1 (Jvm.Cond.code y bytes ml rt :: ws) R) (fun a U => a = args ∧ Z.Warmed39 U.vm ∧ U.heap = h0) (fun _ _ _ _ _ => True) (fun _ U o U' => ∃ v L, o = .returned v ∧ (Fr n0 L ∧ Q v U'.heap) ∧ FrameEnd U o U' L R.cells R.slots)
variable {l : Launch} {Z : State} {n0 : Nat} {p : Program} {e : Env} {R : Room} {s : State} {m : MethodId} {args : Array Value} {below : List Frame} {meth : Method} {c : Code} {bytes : ByteArray} {ml : Nat} {own name : String} {rt : Option FieldType} {Q : Option Value → Heap → Prop} {F : State → JFrame → Prop} {S : Nat → Nat → State → Heap → Prop}
variable {a0 : Array Value} {T T' : State} {h h' : Heap} {kc ks kc' ks' pc pc' : Nat} {L L' : Array Slot} {rest : List Value}
theorem Con.of {y : MethodName} {h0 : Heap} {Ls : Array Slot} (hpn : plainFor y = true) (hef : ∀ m, entryFrame m args ml = mkF m 0 Ls []) (ho : y.cls = own) (hn : y.name = name)
    (H : ∀ (p : Program) (e : Env) (s : State) (m : MethodId) (below : List Frame) (meth : Method) (c : Code) (T : State) (F : State → JFrame → Prop) (S : Nat → Nat → State → Heap → Prop), Cx l Z n0 p e R s m args below meth c bytes ml own name rt Q F S → S 0 0 T h0 → F T (mkF m 0 Ls [])) :
    Con l Z y bytes ml rt R args h0 n0 Q := by
  intro ws
  refine MetFree.of_bodySF hpn hisR ?_
  intro p e s m args below meth c s₁ Bd hml0 hP hK
  obtain ⟨rfl, hZ, hh⟩ := hP
  have e0 : s₁.heap = h0 := by rw [← hh, Bd.state]; rfl
  obtain ⟨s₂, o, q1, q2, q3, q4⟩ := H p e s m below meth c s₁ _ _ ⟨⟨Bd.exec, hZ, Bd.bytes, hml0⟩, ⟨by rw [← ho]; exact findClass_of_methodNamed Bd.named, by rw [← hn]; exact (name_of_methodNamed Bd.named Bd.method).1, Bd.returns, Bd.notSynchronized⟩, rfl, rfl⟩ ⟨[], 0, 0, Stand.of_body Bd, e0, Fr.nil n0, Nat.le_refl _, Nat.le_refl _⟩
  exact ⟨s₂, o, castTop (hef m) q1, q2, q3, q4⟩
theorem Cx.step (cx : Cx l Z n0 p e R s m args below meth c bytes ml own name rt Q F S) {g g' : JFrame} (st : ∀ t, Steps p.tables e below (T'.setTop g') t → Steps p.tables e below (T.setTop g) t) (k : F T' g') : F T g := by
  obtain ⟨-, -, rfl, -⟩ := cx
  obtain ⟨s₂, o, q1, q⟩ := k
  exact ⟨s₂, o, st _ q1, q⟩
theorem Cx.at (cx : Cx l Z n0 p e R s m args below meth c bytes ml own name rt Q F S) (st : S kc ks T h) : At T m c below := by
  obtain ⟨-, -, -, rfl⟩ := cx
  obtain ⟨_, _, _, X, -⟩ := st
  exact X.here
theorem Cx.open (cx : Cx l Z n0 p e R s m args below meth c bytes ml own name rt Q F S) (st : S kc ks T h) : ∃ locs cells slots, Stand p l e R s m args below meth c T locs cells slots ∧ T.heap = h ∧ Fr n0 locs ∧ cells ≤ kc ∧ slots ≤ ks := by
  obtain ⟨-, -, -, rfl⟩ := cx
  exact st
theorem Cx.mono (cx : Cx l Z n0 p e R s m args below meth c bytes ml own name rt Q F S) (st : S kc ks T h) (h1 : kc ≤ kc') (h2 : ks ≤ ks') : S kc' ks' T h := by
  obtain ⟨-, -, -, rfl⟩ := cx
  obtain ⟨a, b, d, X, q1, q2, q3, q4⟩ := st
  exact ⟨a, b, d, X, q1, q2, Nat.le_trans q3 h1, Nat.le_trans q4 h2⟩
theorem Cx.dec (cx : Cx l Z n0 p e R s m args below meth c bytes ml own name rt Q F S) {r : Except DecodeError (Instr × Nat)} (hd : decode bytes pc = r) : decode c.code pc = r := hb cx.1.2.2.1 hd
/-- leaving the method -/
theorem Cx.fin (cx : Cx l Z n0 p e R s m args below meth c bytes ml own name rt Q F S) (st : S kc ks T h) {v : Option Value} {g : JFrame} (hv : rt = none → v = none) (hk : kc ≤ R.cells) (hs : ks ≤ R.slots)
    (go : ∀ fs locs cells slots, Stand p l e R s m args below meth c T locs cells slots → (∀ (f : JFrame) (acts : List Action), f.method = m → f.locked = none → f.entered = [] → (doReturn e (T.setTop f) acts v).1 = T.setFrames fs) → Steps p.tables e below (T.setTop g) (T.setFrames fs)) (hQ : Q v h) : F T g := by
  obtain ⟨c1, ⟨c5, c6, c7, c8⟩, rfl, rfl⟩ := cx
  obtain ⟨locs, cells, slots, X, q1, q2, q3, q4⟩ := st
  obtain ⟨fs, hr, hrun, hended, hW, hsame⟩ := X.leave (v := v) (fun q => hv (c7.symm.trans q)) c8
  refine ⟨_, _, go fs _ _ _ X hr, hrun, hended, v, locs, rfl, ⟨q2, ?_⟩, ⟨_, rfl⟩, hW, hsame.mono (Nat.le_trans q3 hk) (Nat.le_trans q4 hs)⟩
  show Q v T.heap
  rw [q1]; exact hQ
theorem E_iadd (cx : Cx l Z n0 p e R s m args below meth c bytes ml own name rt Q F S) (st : S kc ks T h) {x y : Int32} (hd : decode bytes pc = .ok (.iadd, 1))  (hp : pc + 1 = pc') (k : F T (mkF m pc' L (.int (x + y) :: rest))) : F T (mkF m pc L (.int y :: .int x :: rest)) := by
  subst hp; exact cx.step (fun _ q => XS.iadd (cx.at st) cx.1.1 rfl (cx.dec hd) rfl q) k
theorem E_isub (cx : Cx l Z n0 p e R s m args below meth c bytes ml own name rt Q F S) (st : S kc ks T h) {x y : Int32} (hd : decode bytes pc = .ok (.isub, 1))  (hp : pc + 1 = pc') (k : F T (mkF m pc' L (.int (x - y) :: rest))) : F T (mkF m pc L (.int y :: .int x :: rest)) := by
  subst hp; exact cx.step (fun _ q => XS.isub (cx.at st) cx.1.1 rfl (cx.dec hd) rfl q) k
theorem E_imul (cx : Cx l Z n0 p e R s m args below meth c bytes ml own name rt Q F S) (st : S kc ks T h) {x y : Int32} (hd : decode bytes pc = .ok (.imul, 1))  (hp : pc + 1 = pc') (k : F T (mkF m pc' L (.int (x * y) :: rest))) : F T (mkF m pc L (.int y :: .int x :: rest)) := by
  subst hp; exact cx.step (fun _ q => XS.imul (cx.at st) cx.1.1 rfl (cx.dec hd) rfl q) k
theorem E_iand (cx : Cx l Z n0 p e R s m args below meth c bytes ml own name rt Q F S) (st : S kc ks T h) {x y : Int32} (hd : decode bytes pc = .ok (.iand, 1))  (hp : pc + 1 = pc') (k : F T (mkF m pc' L (.int (x &&& y) :: rest))) : F T (mkF m pc L (.int y :: .int x :: rest)) := by
  subst hp; exact cx.step (fun _ q => XS.iand (cx.at st) cx.1.1 rfl (cx.dec hd) rfl q) k
theorem E_ior (cx : Cx l Z n0 p e R s m args below meth c bytes ml own name rt Q F S) (st : S kc ks T h) {x y : Int32} (hd : decode bytes pc = .ok (.ior, 1))  (hp : pc + 1 = pc') (k : F T (mkF m pc' L (.int (x ||| y) :: rest))) : F T (mkF m pc L (.int y :: .int x :: rest)) := by
  subst hp; exact cx.step (fun _ q => XS.ior (cx.at st) cx.1.1 rfl (cx.dec hd) rfl q) k
theorem E_ixor (cx : Cx l Z n0 p e R s m args below meth c bytes ml own name rt Q F S) (st : S kc ks T h) {x y : Int32} (hd : decode bytes pc = .ok (.ixor, 1))  (hp : pc + 1 = pc') (k : F T (mkF m pc' L (.int (x ^^^ y) :: rest))) : F T (mkF m pc L (.int y :: .int x :: rest)) := by
  subst hp; exact cx.step (fun _ q => XS.ixor (cx.at st) cx.1.1 rfl (cx.dec hd) rfl q) k
theorem E_ladd (cx : Cx l Z n0 p e R s m args below meth c bytes ml own name rt Q F S) (st : S kc ks T h) {x y : Int64} (hd : decode bytes pc = .ok (.ladd, 1))  (hp : pc + 1 = pc') (k : F T (mkF m pc' L (.long (x + y) :: rest))) : F T (mkF m pc L (.long y :: .long x :: rest)) := by
  subst hp; exact cx.step (fun _ q => XS.ladd (cx.at st) cx.1.1 rfl (cx.dec hd) rfl q) k
theorem E_lsub (cx : Cx l Z n0 p e R s m args below meth c bytes ml own name rt Q F S) (st : S kc ks T h) {x y : Int64} (hd : decode bytes pc = .ok (.lsub, 1))  (hp : pc + 1 = pc') (k : F T (mkF m pc' L (.long (x - y) :: rest))) : F T (mkF m pc L (.long y :: .long x :: rest)) := by
  subst hp; exact cx.step (fun _ q => XS.lsub (cx.at st) cx.1.1 rfl (cx.dec hd) rfl q) k
theorem E_lmul (cx : Cx l Z n0 p e R s m args below meth c bytes ml own name rt Q F S) (st : S kc ks T h) {x y : Int64} (hd : decode bytes pc = .ok (.lmul, 1))  (hp : pc + 1 = pc') (k : F T (mkF m pc' L (.long (x * y) :: rest))) : F T (mkF m pc L (.long y :: .long x :: rest)) := by
  subst hp; exact cx.step (fun _ q => XS.lmul (cx.at st) cx.1.1 rfl (cx.dec hd) rfl q) k
theorem E_land (cx : Cx l Z n0 p e R s m args below meth c bytes ml own name rt Q F S) (st : S kc ks T h) {x y : Int64} (hd : decode bytes pc = .ok (.land, 1))  (hp : pc + 1 = pc') (k : F T (mkF m pc' L (.long (x &&& y) :: rest))) : F T (mkF m pc L (.long y :: .long x :: rest)) := by
  subst hp; exact cx.step (fun _ q => XS.land (cx.at st) cx.1.1 rfl (cx.dec hd) rfl q) k
theorem E_lor (cx : Cx l Z n0 p e R s m args below meth c bytes ml own name rt Q F S) (st : S kc ks T h) {x y : Int64} (hd : decode bytes pc = .ok (.lor, 1))  (hp : pc + 1 = pc') (k : F T (mkF m pc' L (.long (x ||| y) :: rest))) : F T (mkF m pc L (.long y :: .long x :: rest)) := by
  subst hp; exact cx.step (fun _ q => XS.lor (cx.at st) cx.1.1 rfl (cx.dec hd) rfl q) k
theorem E_lxor (cx : Cx l Z n0 p e R s m args below meth c bytes ml own name rt Q F S) (st : S kc ks T h) {x y : Int64} (hd : decode bytes pc = .ok (.lxor, 1))  (hp : pc + 1 = pc') (k : F T (mkF m pc' L (.long (x ^^^ y) :: rest))) : F T (mkF m pc L (.long y :: .long x :: rest)) := by
  subst hp; exact cx.step (fun _ q => XS.lxor (cx.at st) cx.1.1 rfl (cx.dec hd) rfl q) k
theorem E_idiv (cx : Cx l Z n0 p e R s m args below meth c bytes ml own name rt Q F S) (st : S kc ks T h) {x y : Int32} (hd : decode bytes pc = .ok (.idiv, 1)) (hz : y ≠ 0) (hp : pc + 1 = pc') (k : F T (mkF m pc' L (.int (x / y) :: rest))) : F T (mkF m pc L (.int y :: .int x :: rest)) := by
  subst hp; exact cx.step (fun _ q => XS.idiv (cx.at st) cx.1.1 rfl (cx.dec hd) rfl hz q) k
theorem E_ldiv (cx : Cx l Z n0 p e R s m args below meth c bytes ml own name rt Q F S) (st : S kc ks T h) {x y : Int64} (hd : decode bytes pc = .ok (.ldiv, 1)) (hz : y ≠ 0) (hp : pc + 1 = pc') (k : F T (mkF m pc' L (.long (x / y) :: rest))) : F T (mkF m pc L (.long y :: .long x :: rest)) := by
  subst hp; exact cx.step (fun _ q => XS.ldiv (cx.at st) cx.1.1 rfl (cx.dec hd) rfl hz q) k
theorem E_ishl (cx : Cx l Z n0 p e R s m args below meth c bytes ml own name rt Q F S) (st : S kc ks T h) {x y : Int32} (hd : decode bytes pc = .ok (.ishl, 1))  (hp : pc + 1 = pc') (k : F T (mkF m pc' L (.int (x <<< (y &&& 31)) :: rest))) : F T (mkF m pc L (.int y :: .int x :: rest)) := by
  subst hp; exact cx.step (fun _ q => XS.ishl (cx.at st) cx.1.1 rfl (cx.dec hd) rfl q) k
theorem E_ishr (cx : Cx l Z n0 p e R s m args below meth c bytes ml own name rt Q F S) (st : S kc ks T h) {x y : Int32} (hd : decode bytes pc = .ok (.ishr, 1))  (hp : pc + 1 = pc') (k : F T (mkF m pc' L (.int (x >>> (y &&& 31)) :: rest))) : F T (mkF m pc L (.int y :: .int x :: rest)) := by
  subst hp; exact cx.step (fun _ q => XS.ishr (cx.at st) cx.1.1 rfl (cx.dec hd) rfl q) k
theorem E_iushr (cx : Cx l Z n0 p e R s m args below meth c bytes ml own name rt Q F S) (st : S kc ks T h) {x y : Int32} (hd : decode bytes pc = .ok (.iushr, 1))  (hp : pc + 1 = pc') (k : F T (mkF m pc' L (.int ((x.toUInt32 >>> (y &&& 31).toUInt32).toInt32) :: rest))) : F T (mkF m pc L (.int y :: .int x :: rest)) := by
  subst hp; exact cx.step (fun _ q => XS.iushr (cx.at st) cx.1.1 rfl (cx.dec hd) rfl q) k
theorem E_lshl (cx : Cx l Z n0 p e R s m args below meth c bytes ml own name rt Q F S) (st : S kc ks T h) {x : Int64} {y : Int32} (hd : decode bytes pc = .ok (.lshl, 1))  (hp : pc + 1 = pc') (k : F T (mkF m pc' L (.long (x <<< (y &&& 0x3f).toInt64) :: rest))) : F T (mkF m pc L (.int y :: .long x :: rest)) := by
  subst hp; exact cx.step (fun _ q => XS.lshl (cx.at st) cx.1.1 rfl (cx.dec hd) rfl q) k
theorem E_lshr (cx : Cx l Z n0 p e R s m args below meth c bytes ml own name rt Q F S) (st : S kc ks T h) {x : Int64} {y : Int32} (hd : decode bytes pc = .ok (.lshr, 1))  (hp : pc + 1 = pc') (k : F T (mkF m pc' L (.long (x >>> (y &&& 0x3f).toInt64) :: rest))) : F T (mkF m pc L (.int y :: .long x :: rest)) := by
  subst hp; exact cx.step (fun _ q => XS.lshr (cx.at st) cx.1.1 rfl (cx.dec hd) rfl q) k
theorem E_lushr (cx : Cx l Z n0 p e R s m args below meth c bytes ml own name rt Q F S) (st : S kc ks T h) {x : Int64} {y : Int32} (hd : decode bytes pc = .ok (.lushr, 1))  (hp : pc + 1 = pc') (k : F T (mkF m pc' L (.long ((x.toUInt64 >>> (y &&& 0x3f).toInt64.toUInt64).toInt64) :: rest))) : F T (mkF m pc L (.int y :: .long x :: rest)) := by
  subst hp; exact cx.step (fun _ q => XS.lushr (cx.at st) cx.1.1 rfl (cx.dec hd) rfl q) k
theorem E_ineg (cx : Cx l Z n0 p e R s m args below meth c bytes ml own name rt Q F S) (st : S kc ks T h) {x : Int32} (hd : decode bytes pc = .ok (.ineg, 1))  (hp : pc + 1 = pc') (k : F T (mkF m pc' L (.int (-x) :: rest))) : F T (mkF m pc L (.int x :: rest)) := by
  subst hp; exact cx.step (fun _ q => XS.ineg (cx.at st) cx.1.1 rfl (cx.dec hd) rfl q) k
theorem E_lneg (cx : Cx l Z n0 p e R s m args below meth c bytes ml own name rt Q F S) (st : S kc ks T h) {x : Int64} (hd : decode bytes pc = .ok (.lneg, 1))  (hp : pc + 1 = pc') (k : F T (mkF m pc' L (.long (-x) :: rest))) : F T (mkF m pc L (.long x :: rest)) := by
  subst hp; exact cx.step (fun _ q => XS.lneg (cx.at st) cx.1.1 rfl (cx.dec hd) rfl q) k
theorem E_i2l (cx : Cx l Z n0 p e R s m args below meth c bytes ml own name rt Q F S) (st : S kc ks T h) {x : Int32} (hd : decode bytes pc = .ok (.i2l, 1))  (hp : pc + 1 = pc') (k : F T (mkF m pc' L (.long (x.toInt64) :: rest))) : F T (mkF m pc L (.int x :: rest)) := by
  subst hp; exact cx.step (fun _ q => XS.i2l (cx.at st) cx.1.1 rfl (cx.dec hd) rfl q) k
theorem E_l2i (cx : Cx l Z n0 p e R s m args below meth c bytes ml own name rt Q F S) (st : S kc ks T h) {x : Int64} (hd : decode bytes pc = .ok (.l2i, 1))  (hp : pc + 1 = pc') (k : F T (mkF m pc' L (.int (x.toInt32) :: rest))) : F T (mkF m pc L (.long x :: rest)) := by
  subst hp; exact cx.step (fun _ q => XS.l2i (cx.at st) cx.1.1 rfl (cx.dec hd) rfl q) k
theorem E_lcmp (cx : Cx l Z n0 p e R s m args below meth c bytes ml own name rt Q F S) (st : S kc ks T h) {x y : Int64} (hd : decode bytes pc = .ok (.lcmp, 1))  (hp : pc + 1 = pc') (k : F T (mkF m pc' L (.int (lcmpW x y) :: rest))) : F T (mkF m pc L (.long y :: .long x :: rest)) := by
  subst hp; exact cx.step (fun _ q => XS.lcmp (cx.at st) cx.1.1 rfl (cx.dec hd) rfl q) k
theorem E_pop (cx : Cx l Z n0 p e R s m args below meth c bytes ml own name rt Q F S) (st : S kc ks T h) {x : Value} (hd : decode bytes pc = .ok (.pop, 1)) (hc : x.category = 1) (hp : pc + 1 = pc') (k : F T (mkF m pc' L (rest))) : F T (mkF m pc L (x :: rest)) := by
  subst hp; exact cx.step (fun _ q => XS.pop (cx.at st) cx.1.1 rfl (cx.dec hd) rfl hc q) k
theorem E_dup (cx : Cx l Z n0 p e R s m args below meth c bytes ml own name rt Q F S) (st : S kc ks T h) {x : Value} (hd : decode bytes pc = .ok (.dup, 1)) (hc : x.category = 1) (hp : pc + 1 = pc') (k : F T (mkF m pc' L (x :: x :: rest))) : F T (mkF m pc L (x :: rest)) := by
  subst hp; exact cx.step (fun _ q => XS.dup (cx.at st) cx.1.1 rfl (cx.dec hd) rfl hc q) k
theorem E_dup_x1 (cx : Cx l Z n0 p e R s m args below meth c bytes ml own name rt Q F S) (st : S kc ks T h) {x y : Value} (hd : decode bytes pc = .ok (.dup_x1, 1)) (hc : x.category = 1) (hc2 : y.category = 1) (hp : pc + 1 = pc') (k : F T (mkF m pc' L (x :: y :: x :: rest))) : F T (mkF m pc L (x :: y :: rest)) := by
  subst hp; exact cx.step (fun _ q => XS.dupX1 (cx.at st) cx.1.1 rfl (cx.dec hd) rfl hc hc2 q) k
theorem E_aconst_null (cx : Cx l Z n0 p e R s m args below meth c bytes ml own name rt Q F S) (st : S kc ks T h)  (hd : decode bytes pc = .ok (.aconst_null, 1))  (hp : pc + 1 = pc') (k : F T (mkF m pc' L (.null :: rest))) : F T (mkF m pc L (rest)) := by
  subst hp; exact cx.step (fun _ q => XS.aconstNull (cx.at st) cx.1.1 rfl (cx.dec hd)  q) k
theorem E_iloadN (cx : Cx l Z n0 p e R s m args below meth c bytes ml own name rt Q F S) (st : S kc ks T h) {j : Fin 4} {x : Int32} (hd : decode bytes pc = .ok (.iload_n j, 1)) (hl : L[j.val]? = some (.val (.int x)))  (hp : pc + 1 = pc') (k : F T (mkF m pc' L (.int x :: rest))) : F T (mkF m pc L (rest)) := by
  subst hp; exact cx.step (fun _ q => XS.iloadN (cx.at st) cx.1.1 rfl (cx.dec hd) hl q) k
theorem E_istoreN (cx : Cx l Z n0 p e R s m args below meth c bytes ml own name rt Q F S) (st : S kc ks T h) {j : Fin 4} {x : Int32} (hd : decode bytes pc = .ok (.istore_n j, 1))  (hl : storeLocals L j.val (.int x) = some L') (hp : pc + 1 = pc') (k : F T (mkF m pc' L' (rest))) : F T (mkF m pc L (.int x :: rest)) := by
  subst hp; exact cx.step (fun _ q => XS.istoreN (cx.at st) cx.1.1 rfl (cx.dec hd) rfl hl q) k
theorem E_iload (cx : Cx l Z n0 p e R s m args below meth c bytes ml own name rt Q F S) (st : S kc ks T h) {j : Nat} {x : Int32} (hd : decode bytes pc = .ok (.iload j, 2)) (hl : L[j]? = some (.val (.int x)))  (hp : pc + 2 = pc') (k : F T (mkF m pc' L (.int x :: rest))) : F T (mkF m pc L (rest)) := by
  subst hp; exact cx.step (fun _ q => XS.iload (cx.at st) cx.1.1 rfl (cx.dec hd) hl q) k
theorem E_istore (cx : Cx l Z n0 p e R s m args below meth c bytes ml own name rt Q F S) (st : S kc ks T h) {j : Nat} {x : Int32} (hd : decode bytes pc = .ok (.istore j, 2))  (hl : storeLocals L j (.int x) = some L') (hp : pc + 2 = pc') (k : F T (mkF m pc' L' (rest))) : F T (mkF m pc L (.int x :: rest)) := by
  subst hp; exact cx.step (fun _ q => XS.istore (cx.at st) cx.1.1 rfl (cx.dec hd) rfl hl q) k
theorem E_lloadN (cx : Cx l Z n0 p e R s m args below meth c bytes ml own name rt Q F S) (st : S kc ks T h) {j : Fin 4} {x : Int64} (hd : decode bytes pc = .ok (.lload_n j, 1)) (hl : L[j.val]? = some (.val (.long x)))  (hp : pc + 1 = pc') (k : F T (mkF m pc' L (.long x :: rest))) : F T (mkF m pc L (rest)) := by
  subst hp; exact cx.step (fun _ q => XS.lloadN (cx.at st) cx.1.1 rfl (cx.dec hd) hl q) k
theorem E_lstoreN (cx : Cx l Z n0 p e R s m args below meth c bytes ml own name rt Q F S) (st : S kc ks T h) {j : Fin 4} {x : Int64} (hd : decode bytes pc = .ok (.lstore_n j, 1))  (hl : storeLocals L j.val (.long x) = some L') (hp : pc + 1 = pc') (k : F T (mkF m pc' L' (rest))) : F T (mkF m pc L (.long x :: rest)) := by
  subst hp; exact cx.step (fun _ q => XS.lstoreN (cx.at st) cx.1.1 rfl (cx.dec hd) rfl hl q) k
theorem E_lload (cx : Cx l Z n0 p e R s m args below meth c bytes ml own name rt Q F S) (st : S kc ks T h) {j : Nat} {x : Int64} (hd : decode bytes pc = .ok (.lload j, 2)) (hl : L[j]? = some (.val (.long x)))  (hp : pc + 2 = pc') (k : F T (mkF m pc' L (.long x :: rest))) : F T (mkF m pc L (rest)) := by
  subst hp; exact cx.step (fun _ q => XS.lload (cx.at st) cx.1.1 rfl (cx.dec hd) hl q) k
theorem E_lstore (cx : Cx l Z n0 p e R s m args below meth c bytes ml own name rt Q F S) (st : S kc ks T h) {j : Nat} {x : Int64} (hd : decode bytes pc = .ok (.lstore j, 2))  (hl : storeLocals L j (.long x) = some L') (hp : pc + 2 = pc') (k : F T (mkF m pc' L' (rest))) : F T (mkF m pc L (.long x :: rest)) := by
  subst hp; exact cx.step (fun _ q => XS.lstore (cx.at st) cx.1.1 rfl (cx.dec hd) rfl hl q) k
theorem E_aloadN (cx : Cx l Z n0 p e R s m args below meth c bytes ml own name rt Q F S) (st : S kc ks T h) {j : Fin 4} {x : Value} (hd : decode bytes pc = .ok (.aload_n j, 1)) (hl : L[j.val]? = some (.val (x))) (hv : x.isRef = true) (hp : pc + 1 = pc') (k : F T (mkF m pc' L (x :: rest))) : F T (mkF m pc L (rest)) := by
  subst hp; exact cx.step (fun _ q => XS.aloadN (cx.at st) cx.1.1 rfl (cx.dec hd) hl hv q) k
theorem E_astoreN (cx : Cx l Z n0 p e R s m args below meth c bytes ml own name rt Q F S) (st : S kc ks T h) {j : Fin 4} {x : Value} (hd : decode bytes pc = .ok (.astore_n j, 1)) (hv : x.isRef = true) (hl : storeLocals L j.val (x) = some L') (hp : pc + 1 = pc') (k : F T (mkF m pc' L' (rest))) : F T (mkF m pc L (x :: rest)) := by
  subst hp; exact cx.step (fun _ q => XS.astoreN (cx.at st) cx.1.1 rfl (cx.dec hd) rfl hv hl q) k
theorem E_aload (cx : Cx l Z n0 p e R s m args below meth c bytes ml own name rt Q F S) (st : S kc ks T h) {j : Nat} {x : Value} (hd : decode bytes pc = .ok (.aload j, 2)) (hl : L[j]? = some (.val (x))) (hv : x.isRef = true) (hp : pc + 2 = pc') (k : F T (mkF m pc' L (x :: rest))) : F T (mkF m pc L (rest)) := by
  subst hp; exact cx.step (fun _ q => XS.aload (cx.at st) cx.1.1 rfl (cx.dec hd) hl hv q) k
theorem E_astore (cx : Cx l Z n0 p e R s m args below meth c bytes ml own name rt Q F S) (st : S kc ks T h) {j : Nat} {x : Value} (hd : decode bytes pc = .ok (.astore j, 2)) (hv : x.isRef = true) (hl : storeLocals L j (x) = some L') (hp : pc + 2 = pc') (k : F T (mkF m pc' L' (rest))) : F T (mkF m pc L (x :: rest)) := by
  subst hp; exact cx.step (fun _ q => XS.astore (cx.at st) cx.1.1 rfl (cx.dec hd) rfl hv hl q) k
theorem E_iinc (cx : Cx l Z n0 p e R s m args below meth c bytes ml own name rt Q F S) (st : S kc ks T h) {j : Nat} {cst : Int} {x : Int32} (v : Int32) (hd : decode bytes pc = .ok (.iinc j cst, 3)) (hv : Int32.ofInt cst = v) (hl : L[j]? = some (.val (.int x))) (hl' : storeLocals L j (.int (x + v)) = some L') (hp : pc + 3 = pc') (k : F T (mkF m pc' L' rest)) : F T (mkF m pc L rest) := by
  subst hp hv; exact cx.step (fun _ q => XS.iinc (cx.at st) cx.1.1 rfl (cx.dec hd) hl hl' q) k
theorem E_iconst (cx : Cx l Z n0 p e R s m args below meth c bytes ml own name rt Q F S) (st : S kc ks T h) {i : Int} (v : Int32) (hd : decode bytes pc = .ok (.iconst i, 1)) (hv : Int32.ofInt i = v) (hp : pc + 1 = pc') (k : F T (mkF m pc' L (.int v :: rest))) : F T (mkF m pc L rest) := by
  subst hp hv; exact cx.step (fun _ q => XS.iconst (cx.at st) cx.1.1 rfl (cx.dec hd) q) k
theorem E_bipush (cx : Cx l Z n0 p e R s m args below meth c bytes ml own name rt Q F S) (st : S kc ks T h) {i : Int} (v : Int32) (hd : decode bytes pc = .ok (.bipush i, 2)) (hv : (Int8.ofInt i).toInt32 = v) (hp : pc + 2 = pc') (k : F T (mkF m pc' L (.int v :: rest))) : F T (mkF m pc L rest) := by
  subst hp hv; exact cx.step (fun _ q => XS.bipush (cx.at st) cx.1.1 rfl (cx.dec hd) q) k
theorem E_sipush (cx : Cx l Z n0 p e R s m args below meth c bytes ml own name rt Q F S) (st : S kc ks T h) {i : Int} (v : Int32) (hd : decode bytes pc = .ok (.sipush i, 3)) (hv : (Int16.ofInt i).toInt32 = v) (hp : pc + 3 = pc') (k : F T (mkF m pc' L (.int v :: rest))) : F T (mkF m pc L rest) := by
  subst hp hv; exact cx.step (fun _ q => XS.sipush (cx.at st) cx.1.1 rfl (cx.dec hd) q) k
theorem E_lconst (cx : Cx l Z n0 p e R s m args below meth c bytes ml own name rt Q F S) (st : S kc ks T h) {i : Fin 2} (v : Int64) (hd : decode bytes pc = .ok (.lconst i, 1)) (hv : Int64.ofNat i = v) (hp : pc + 1 = pc') (k : F T (mkF m pc' L (.long v :: rest))) : F T (mkF m pc L rest) := by
  subst hp hv; exact cx.step (fun _ q => XS.lconst (cx.at st) cx.1.1 rfl (cx.dec hd) q) k
theorem E_goto (cx : Cx l Z n0 p e R s m args below meth c bytes ml own name rt Q F S) (st : S kc ks T h) {o : Int} (hd : decode bytes pc = .ok (.goto o, 3)) (ho : 0 ≤ (pc : Int) + o) (hp : ((pc : Int) + o).toNat = pc') (k : F T (mkF m pc' L rest)) : F T (mkF m pc L rest) :=
  cx.step (fun _ q => XS.goto (cx.at st) cx.1.1 rfl (pc0 := pc) rfl (cx.dec hd) ho hp q) k
theorem E_irem (cx : Cx l Z n0 p e R s m args below meth c bytes ml own name rt Q F S) (st : S kc ks T h) {x y : Int32} (hd : decode bytes pc = .ok (.irem, 1)) (hz : y ≠ 0) (hp : pc + 1 = pc') (k : F T (mkF m pc' L (.int (x % y) :: rest))) : F T (mkF m pc L (.int y :: .int x :: rest)) := by
  subst hp
  obtain ⟨_, _, _, X, -⟩ := cx.open st
  exact cx.step (fun _ q => iremM X cx.1.1 rfl (cx.dec hd) rfl hz q) k
theorem E_icmp_ltY (cx : Cx l Z n0 p e R s m args below meth c bytes ml own name rt Q F S) (st : S kc ks T h) {x y : Int32} {o : Int} (hd : decode bytes pc = .ok (.if_icmp .lt o, 3)) (ho : 0 ≤ (pc : Int) + o) (hp : ((pc : Int) + o).toNat = pc') (c1 : x < y) (k : F T (mkF m pc' L rest)) : F T (mkF m pc L (.int y :: .int x :: rest)) :=
  cx.step (fun _ q => XS.icmpYes (cx.at st) cx.1.1 rfl (pc0 := pc) rfl (cx.dec hd) rfl (tlt c1).1 ho hp q) k
theorem E_icmp_ltN (cx : Cx l Z n0 p e R s m args below meth c bytes ml own name rt Q F S) (st : S kc ks T h) {x y : Int32} {o : Int} (hd : decode bytes pc = .ok (.if_icmp .lt o, 3)) (hp : pc + 3 = pc') (c1 : ¬ (x < y)) (k : F T (mkF m pc' L rest)) : F T (mkF m pc L (.int y :: .int x :: rest)) := by
  subst hp; exact cx.step (fun _ q => XS.icmpNo (cx.at st) cx.1.1 rfl (cx.dec hd) rfl (flt c1).1 q) k
theorem E_if_ltY (cx : Cx l Z n0 p e R s m args below meth c bytes ml own name rt Q F S) (st : S kc ks T h) {x : Int32} {o : Int} (hd : decode bytes pc = .ok (.ifCond .lt o, 3)) (ho : 0 ≤ (pc : Int) + o) (hp : ((pc : Int) + o).toNat = pc') (c1 : x < 0) (k : F T (mkF m pc' L rest)) : F T (mkF m pc L (.int x :: rest)) :=
  cx.step (fun _ q => XS.ifYes (cx.at st) cx.1.1 rfl (pc0 := pc) rfl (cx.dec hd) rfl ((if0 _ _).trans (tlt c1).1) ho hp q) k
theorem E_if_ltN (cx : Cx l Z n0 p e R s m args below meth c bytes ml own name rt Q F S) (st : S kc ks T h) {x : Int32} {o : Int} (hd : decode bytes pc = .ok (.ifCond .lt o, 3)) (hp : pc + 3 = pc') (c1 : ¬ (x < 0)) (k : F T (mkF m pc' L rest)) : F T (mkF m pc L (.int x :: rest)) := by
  subst hp; exact cx.step (fun _ q => XS.ifNo (cx.at st) cx.1.1 rfl (cx.dec hd) rfl ((if0 _ _).trans (flt c1).1) q) k
theorem E_icmp_geY (cx : Cx l Z n0 p e R s m args below meth c bytes ml own name rt Q F S) (st : S kc ks T h) {x y : Int32} {o : Int} (hd : decode bytes pc = .ok (.if_icmp .ge o, 3)) (ho : 0 ≤ (pc : Int) + o) (hp : ((pc : Int) + o).toNat = pc') (c1 : ¬ (x < y)) (k : F T (mkF m pc' L rest)) : F T (mkF m pc L (.int y :: .int x :: rest)) :=
  cx.step (fun _ q => XS.icmpYes (cx.at st) cx.1.1 rfl (pc0 := pc) rfl (cx.dec hd) rfl (flt c1).2.1 ho hp q) k
theorem E_icmp_geN (cx : Cx l Z n0 p e R s m args below meth c bytes ml own name rt Q F S) (st : S kc ks T h) {x y : Int32} {o : Int} (hd : decode bytes pc = .ok (.if_icmp .ge o, 3)) (hp : pc + 3 = pc') (c1 : x < y) (k : F T (mkF m pc' L rest)) : F T (mkF m pc L (.int y :: .int x :: rest)) := by
  subst hp; exact cx.step (fun _ q => XS.icmpNo (cx.at st) cx.1.1 rfl (cx.dec hd) rfl (tlt c1).2.1 q) k
theorem E_if_geY (cx : Cx l Z n0 p e R s m args below meth c bytes ml own name rt Q F S) (st : S kc ks T h) {x : Int32} {o : Int} (hd : decode bytes pc = .ok (.ifCond .ge o, 3)) (ho : 0 ≤ (pc : Int) + o) (hp : ((pc : Int) + o).toNat = pc') (c1 : ¬ (x < 0)) (k : F T (mkF m pc' L rest)) : F T (mkF m pc L (.int x :: rest)) :=
  cx.step (fun _ q => XS.ifYes (cx.at st) cx.1.1 rfl (pc0 := pc) rfl (cx.dec hd) rfl ((if0 _ _).trans (flt c1).2.1) ho hp q) k
theorem E_if_geN (cx : Cx l Z n0 p e R s m args below meth c bytes ml own name rt Q F S) (st : S kc ks T h) {x : Int32} {o : Int} (hd : decode bytes pc = .ok (.ifCond .ge o, 3)) (hp : pc + 3 = pc') (c1 : x < 0) (k : F T (mkF m pc' L rest)) : F T (mkF m pc L (.int x :: rest)) := by
  subst hp; exact cx.step (fun _ q => XS.ifNo (cx.at st) cx.1.1 rfl (cx.dec hd) rfl ((if0 _ _).trans (tlt c1).2.1) q) k
theorem E_icmp_gtY (cx : Cx l Z n0 p e R s m args below meth c bytes ml own name rt Q F S) (st : S kc ks T h) {x y : Int32} {o : Int} (hd : decode bytes pc = .ok (.if_icmp .gt o, 3)) (ho : 0 ≤ (pc : Int) + o) (hp : ((pc : Int) + o).toNat = pc') (c1 : y < x) (k : F T (mkF m pc' L rest)) : F T (mkF m pc L (.int y :: .int x :: rest)) :=
  cx.step (fun _ q => XS.icmpYes (cx.at st) cx.1.1 rfl (pc0 := pc) rfl (cx.dec hd) rfl (tlt c1).2.2.1 ho hp q) k
theorem E_icmp_gtN (cx : Cx l Z n0 p e R s m args below meth c bytes ml own name rt Q F S) (st : S kc ks T h) {x y : Int32} {o : Int} (hd : decode bytes pc = .ok (.if_icmp .gt o, 3)) (hp : pc + 3 = pc') (c1 : ¬ (y < x)) (k : F T (mkF m pc' L rest)) : F T (mkF m pc L (.int y :: .int x :: rest)) := by
  subst hp; exact cx.step (fun _ q => XS.icmpNo (cx.at st) cx.1.1 rfl (cx.dec hd) rfl (flt c1).2.2.1 q) k
theorem E_if_gtY (cx : Cx l Z n0 p e R s m args below meth c bytes ml own name rt Q F S) (st : S kc ks T h) {x : Int32} {o : Int} (hd : decode bytes pc = .ok (.ifCond .gt o, 3)) (ho : 0 ≤ (pc : Int) + o) (hp : ((pc : Int) + o).toNat = pc') (c1 : 0 < x) (k : F T (mkF m pc' L rest)) : F T (mkF m pc L (.int x :: rest)) :=
  cx.step (fun _ q => XS.ifYes (cx.at st) cx.1.1 rfl (pc0 := pc) rfl (cx.dec hd) rfl ((if0 _ _).trans (tlt c1).2.2.1) ho hp q) k
theorem E_if_gtN (cx : Cx l Z n0 p e R s m args below meth c bytes ml own name rt Q F S) (st : S kc ks T h) {x : Int32} {o : Int} (hd : decode bytes pc = .ok (.ifCond .gt o, 3)) (hp : pc + 3 = pc') (c1 : ¬ (0 < x)) (k : F T (mkF m pc' L rest)) : F T (mkF m pc L (.int x :: rest)) := by
  subst hp; exact cx.step (fun _ q => XS.ifNo (cx.at st) cx.1.1 rfl (cx.dec hd) rfl ((if0 _ _).trans (flt c1).2.2.1) q) k
theorem E_icmp_leY (cx : Cx l Z n0 p e R s m args below meth c bytes ml own name rt Q F S) (st : S kc ks T h) {x y : Int32} {o : Int} (hd : decode bytes pc = .ok (.if_icmp .le o, 3)) (ho : 0 ≤ (pc : Int) + o) (hp : ((pc : Int) + o).toNat = pc') (c1 : ¬ (y < x)) (k : F T (mkF m pc' L rest)) : F T (mkF m pc L (.int y :: .int x :: rest)) :=
  cx.step (fun _ q => XS.icmpYes (cx.at st) cx.1.1 rfl (pc0 := pc) rfl (cx.dec hd) rfl (flt c1).2.2.2 ho hp q) k
theorem E_icmp_leN (cx : Cx l Z n0 p e R s m args below meth c bytes ml own name rt Q F S) (st : S kc ks T h) {x y : Int32} {o : Int} (hd : decode bytes pc = .ok (.if_icmp .le o, 3)) (hp : pc + 3 = pc') (c1 : y < x) (k : F T (mkF m pc' L rest)) : F T (mkF m pc L (.int y :: .int x :: rest)) := by
  subst hp; exact cx.step (fun _ q => XS.icmpNo (cx.at st) cx.1.1 rfl (cx.dec hd) rfl (tlt c1).2.2.2 q) k
theorem E_if_leY (cx : Cx l Z n0 p e R s m args below meth c bytes ml own name rt Q F S) (st : S kc ks T h) {x : Int32} {o : Int} (hd : decode bytes pc = .ok (.ifCond .le o, 3)) (ho : 0 ≤ (pc : Int) + o) (hp : ((pc : Int) + o).toNat = pc') (c1 : ¬ (0 < x)) (k : F T (mkF m pc' L rest)) : F T (mkF m pc L (.int x :: rest)) :=
  cx.step (fun _ q => XS.ifYes (cx.at st) cx.1.1 rfl (pc0 := pc) rfl (cx.dec hd) rfl ((if0 _ _).trans (flt c1).2.2.2) ho hp q) k
theorem E_if_leN (cx : Cx l Z n0 p e R s m args below meth c bytes ml own name rt Q F S) (st : S kc ks T h) {x : Int32} {o : Int} (hd : decode bytes pc = .ok (.ifCond .le o, 3)) (hp : pc + 3 = pc') (c1 : 0 < x) (k : F T (mkF m pc' L rest)) : F T (mkF m pc L (.int x :: rest)) := by
  subst hp; exact cx.step (fun _ q => XS.ifNo (cx.at st) cx.1.1 rfl (cx.dec hd) rfl ((if0 _ _).trans (tlt c1).2.2.2) q) k
theorem E_icmp_eqY (cx : Cx l Z n0 p e R s m args below meth c bytes ml own name rt Q F S) (st : S kc ks T h) {x y : Int32} {o : Int} (hd : decode bytes pc = .ok (.if_icmp .eq o, 3)) (ho : 0 ≤ (pc : Int) + o) (hp : ((pc : Int) + o).toNat = pc') (c1 : x = y) (k : F T (mkF m pc' L rest)) : F T (mkF m pc L (.int y :: .int x :: rest)) :=
  cx.step (fun _ q => XS.icmpYes (cx.at st) cx.1.1 rfl (pc0 := pc) rfl (cx.dec hd) rfl (teq c1).1 ho hp q) k
theorem E_icmp_eqN (cx : Cx l Z n0 p e R s m args below meth c bytes ml own name rt Q F S) (st : S kc ks T h) {x y : Int32} {o : Int} (hd : decode bytes pc = .ok (.if_icmp .eq o, 3)) (hp : pc + 3 = pc') (c1 : ¬ (x = y)) (k : F T (mkF m pc' L rest)) : F T (mkF m pc L (.int y :: .int x :: rest)) := by
  subst hp; exact cx.step (fun _ q => XS.icmpNo (cx.at st) cx.1.1 rfl (cx.dec hd) rfl (feq c1).1 q) k
theorem E_if_eqY (cx : Cx l Z n0 p e R s m args below meth c bytes ml own name rt Q F S) (st : S kc ks T h) {x : Int32} {o : Int} (hd : decode bytes pc = .ok (.ifCond .eq o, 3)) (ho : 0 ≤ (pc : Int) + o) (hp : ((pc : Int) + o).toNat = pc') (c1 : x = 0) (k : F T (mkF m pc' L rest)) : F T (mkF m pc L (.int x :: rest)) :=
  cx.step (fun _ q => XS.ifYes (cx.at st) cx.1.1 rfl (pc0 := pc) rfl (cx.dec hd) rfl ((if0 _ _).trans (teq c1).1) ho hp q) k
theorem E_if_eqN (cx : Cx l Z n0 p e R s m args below meth c bytes ml own name rt Q F S) (st : S kc ks T h) {x : Int32} {o : Int} (hd : decode bytes pc = .ok (.ifCond .eq o, 3)) (hp : pc + 3 = pc') (c1 : ¬ (x = 0)) (k : F T (mkF m pc' L rest)) : F T (mkF m pc L (.int x :: rest)) := by
  subst hp; exact cx.step (fun _ q => XS.ifNo (cx.at st) cx.1.1 rfl (cx.dec hd) rfl ((if0 _ _).trans (feq c1).1) q) k
theorem E_icmp_neY (cx : Cx l Z n0 p e R s m args below meth c bytes ml own name rt Q F S) (st : S kc ks T h) {x y : Int32} {o : Int} (hd : decode bytes pc = .ok (.if_icmp .ne o, 3)) (ho : 0 ≤ (pc : Int) + o) (hp : ((pc : Int) + o).toNat = pc') (c1 : ¬ (x = y)) (k : F T (mkF m pc' L rest)) : F T (mkF m pc L (.int y :: .int x :: rest)) :=
  cx.step (fun _ q => XS.icmpYes (cx.at st) cx.1.1 rfl (pc0 := pc) rfl (cx.dec hd) rfl (feq c1).2 ho hp q) k
theorem E_icmp_neN (cx : Cx l Z n0 p e R s m args below meth c bytes ml own name rt Q F S) (st : S kc ks T h) {x y : Int32} {o : Int} (hd : decode bytes pc = .ok (.if_icmp .ne o, 3)) (hp : pc + 3 = pc') (c1 : x = y) (k : F T (mkF m pc' L rest)) : F T (mkF m pc L (.int y :: .int x :: rest)) := by
  subst hp; exact cx.step (fun _ q => XS.icmpNo (cx.at st) cx.1.1 rfl (cx.dec hd) rfl (teq c1).2 q) k
theorem E_if_neY (cx : Cx l Z n0 p e R s m args below meth c bytes ml own name rt Q F S) (st : S kc ks T h) {x : Int32} {o : Int} (hd : decode bytes pc = .ok (.ifCond .ne o, 3)) (ho : 0 ≤ (pc : Int) + o) (hp : ((pc : Int) + o).toNat = pc') (c1 : ¬ (x = 0)) (k : F T (mkF m pc' L rest)) : F T (mkF m pc L (.int x :: rest)) :=
  cx.step (fun _ q => XS.ifYes (cx.at st) cx.1.1 rfl (pc0 := pc) rfl (cx.dec hd) rfl ((if0 _ _).trans (feq c1).2) ho hp q) k
theorem E_if_neN (cx : Cx l Z n0 p e R s m args below meth c bytes ml own name rt Q F S) (st : S kc ks T h) {x : Int32} {o : Int} (hd : decode bytes pc = .ok (.ifCond .ne o, 3)) (hp : pc + 3 = pc') (c1 : x = 0) (k : F T (mkF m pc' L rest)) : F T (mkF m pc L (.int x :: rest)) := by
  subst hp; exact cx.step (fun _ q => XS.ifNo (cx.at st) cx.1.1 rfl (cx.dec hd) rfl ((if0 _ _).trans (teq c1).2) q) k
theorem E_lif_ltY (cx : Cx l Z n0 p e R s m args below meth c bytes ml own name rt Q F S) (st : S kc ks T h) {x y : Int64} {o : Int} (hd : decode bytes pc = .ok (.lcmp, 1)) (hd2 : decode bytes (pc + 1) = .ok (.ifCond .lt o, 3)) (ho : 0 ≤ ((pc + 1 : Nat) : Int) + o) (hp : (((pc + 1 : Nat) : Int) + o).toNat = pc') (c1 : x < y) (k : F T (mkF m pc' L rest)) : F T (mkF m pc L (.long y :: .long x :: rest)) :=
  E_lcmp cx st hd rfl (E_if_ltY cx st hd2 ho hp ((lw_lt x y).mpr c1) k)
theorem E_lif_ltN (cx : Cx l Z n0 p e R s m args below meth c bytes ml own name rt Q F S) (st : S kc ks T h) {x y : Int64} {o : Int} (hd : decode bytes pc = .ok (.lcmp, 1)) (hd2 : decode bytes (pc + 1) = .ok (.ifCond .lt o, 3)) (hp : pc + 4 = pc') (c1 : ¬ (x < y)) (k : F T (mkF m pc' L rest)) : F T (mkF m pc L (.long y :: .long x :: rest)) :=
  E_lcmp cx st hd rfl (E_if_ltN cx st hd2 hp (fun z => c1 ((lw_lt x y).mp z)) k)
theorem E_lif_geY (cx : Cx l Z n0 p e R s m args below meth c bytes ml own name rt Q F S) (st : S kc ks T h) {x y : Int64} {o : Int} (hd : decode bytes pc = .ok (.lcmp, 1)) (hd2 : decode bytes (pc + 1) = .ok (.ifCond .ge o, 3)) (ho : 0 ≤ ((pc + 1 : Nat) : Int) + o) (hp : (((pc + 1 : Nat) : Int) + o).toNat = pc') (c1 : ¬ (x < y)) (k : F T (mkF m pc' L rest)) : F T (mkF m pc L (.long y :: .long x :: rest)) :=
  E_lcmp cx st hd rfl (E_if_geY cx st hd2 ho hp (fun z => c1 ((lw_lt x y).mp z)) k)
theorem E_lif_geN (cx : Cx l Z n0 p e R s m args below meth c bytes ml own name rt Q F S) (st : S kc ks T h) {x y : Int64} {o : Int} (hd : decode bytes pc = .ok (.lcmp, 1)) (hd2 : decode bytes (pc + 1) = .ok (.ifCond .ge o, 3)) (hp : pc + 4 = pc') (c1 : x < y) (k : F T (mkF m pc' L rest)) : F T (mkF m pc L (.long y :: .long x :: rest)) :=
  E_lcmp cx st hd rfl (E_if_geN cx st hd2 hp ((lw_lt x y).mpr c1) k)
theorem E_lif_gtY (cx : Cx l Z n0 p e R s m args below meth c bytes ml own name rt Q F S) (st : S kc ks T h) {x y : Int64} {o : Int} (hd : decode bytes pc = .ok (.lcmp, 1)) (hd2 : decode bytes (pc + 1) = .ok (.ifCond .gt o, 3)) (ho : 0 ≤ ((pc + 1 : Nat) : Int) + o) (hp : (((pc + 1 : Nat) : Int) + o).toNat = pc') (c1 : y < x) (k : F T (mkF m pc' L rest)) : F T (mkF m pc L (.long y :: .long x :: rest)) :=
  E_lcmp cx st hd rfl (E_if_gtY cx st hd2 ho hp ((lw_gt x y).mpr c1) k)
theorem E_lif_gtN (cx : Cx l Z n0 p e R s m args below meth c bytes ml own name rt Q F S) (st : S kc ks T h) {x y : Int64} {o : Int} (hd : decode bytes pc = .ok (.lcmp, 1)) (hd2 : decode bytes (pc + 1) = .ok (.ifCond .gt o, 3)) (hp : pc + 4 = pc') (c1 : ¬ (y < x)) (k : F T (mkF m pc' L rest)) : F T (mkF m pc L (.long y :: .long x :: rest)) :=
  E_lcmp cx st hd rfl (E_if_gtN cx st hd2 hp (fun z => c1 ((lw_gt x y).mp z)) k)
theorem E_lif_leY (cx : Cx l Z n0 p e R s m args below meth c bytes ml own name rt Q F S) (st : S kc ks T h) {x y : Int64} {o : Int} (hd : decode bytes pc = .ok (.lcmp, 1)) (hd2 : decode bytes (pc + 1) = .ok (.ifCond .le o, 3)) (ho : 0 ≤ ((pc + 1 : Nat) : Int) + o) (hp : (((pc + 1 : Nat) : Int) + o).toNat = pc') (c1 : ¬ (y < x)) (k : F T (mkF m pc' L rest)) : F T (mkF m pc L (.long y :: .long x :: rest)) :=
  E_lcmp cx st hd rfl (E_if_leY cx st hd2 ho hp (fun z => c1 ((lw_gt x y).mp z)) k)
theorem E_lif_leN (cx : Cx l Z n0 p e R s m args below meth c bytes ml own name rt Q F S) (st : S kc ks T h) {x y : Int64} {o : Int} (hd : decode bytes pc = .ok (.lcmp, 1)) (hd2 : decode bytes (pc + 1) = .ok (.ifCond .le o, 3)) (hp : pc + 4 = pc') (c1 : y < x) (k : F T (mkF m pc' L rest)) : F T (mkF m pc L (.long y :: .long x :: rest)) :=
  E_lcmp cx st hd rfl (E_if_leN cx st hd2 hp ((lw_gt x y).mpr c1) k)
theorem E_lif_eqY (cx : Cx l Z n0 p e R s m args below meth c bytes ml own name rt Q F S) (st : S kc ks T h) {x y : Int64} {o : Int} (hd : decode bytes pc = .ok (.lcmp, 1)) (hd2 : decode bytes (pc + 1) = .ok (.ifCond .eq o, 3)) (ho : 0 ≤ ((pc + 1 : Nat) : Int) + o) (hp : (((pc + 1 : Nat) : Int) + o).toNat = pc') (c1 : x = y) (k : F T (mkF m pc' L rest)) : F T (mkF m pc L (.long y :: .long x :: rest)) :=
  E_lcmp cx st hd rfl (E_if_eqY cx st hd2 ho hp ((lw_eq x y).mpr c1) k)
theorem E_lif_eqN (cx : Cx l Z n0 p e R s m args below meth c bytes ml own name rt Q F S) (st : S kc ks T h) {x y : Int64} {o : Int} (hd : decode bytes pc = .ok (.lcmp, 1)) (hd2 : decode bytes (pc + 1) = .ok (.ifCond .eq o, 3)) (hp : pc + 4 = pc') (c1 : ¬ (x = y)) (k : F T (mkF m pc' L rest)) : F T (mkF m pc L (.long y :: .long x :: rest)) :=
  E_lcmp cx st hd rfl (E_if_eqN cx st hd2 hp (fun z => c1 ((lw_eq x y).mp z)) k)
theorem E_lif_neY (cx : Cx l Z n0 p e R s m args below meth c bytes ml own name rt Q F S) (st : S kc ks T h) {x y : Int64} {o : Int} (hd : decode bytes pc = .ok (.lcmp, 1)) (hd2 : decode bytes (pc + 1) = .ok (.ifCond .ne o, 3)) (ho : 0 ≤ ((pc + 1 : Nat) : Int) + o) (hp : (((pc + 1 : Nat) : Int) + o).toNat = pc') (c1 : ¬ (x = y)) (k : F T (mkF m pc' L rest)) : F T (mkF m pc L (.long y :: .long x :: rest)) :=
  E_lcmp cx st hd rfl (E_if_neY cx st hd2 ho hp (fun z => c1 ((lw_eq x y).mp z)) k)
theorem E_lif_neN (cx : Cx l Z n0 p e R s m args below meth c bytes ml own name rt Q F S) (st : S kc ks T h) {x y : Int64} {o : Int} (hd : decode bytes pc = .ok (.lcmp, 1)) (hd2 : decode bytes (pc + 1) = .ok (.ifCond .ne o, 3)) (hp : pc + 4 = pc') (c1 : x = y) (k : F T (mkF m pc' L rest)) : F T (mkF m pc L (.long y :: .long x :: rest)) :=
  E_lcmp cx st hd rfl (E_if_neN cx st hd2 hp ((lw_eq x y).mpr c1) k)
theorem E_ifnullY (cx : Cx l Z n0 p e R s m args below meth c bytes ml own name rt Q F S) (st : S kc ks T h) {o : Int} (hd : decode bytes pc = .ok (.ifnull o, 3)) (ho : 0 ≤ (pc : Int) + o) (hp : ((pc : Int) + o).toNat = pc') (k : F T (mkF m pc' L rest)) : F T (mkF m pc L (.null :: rest)) :=
  cx.step (fun _ q => XS.ifnullYes (cx.at st) cx.1.1 rfl (pc0 := pc) rfl (cx.dec hd) rfl ho hp q) k
theorem E_ifnullN (cx : Cx l Z n0 p e R s m args below meth c bytes ml own name rt Q F S) (st : S kc ks T h) {b : Addr} {o : Int} (hd : decode bytes pc = .ok (.ifnull o, 3)) (hp : pc + 3 = pc') (k : F T (mkF m pc' L rest)) : F T (mkF m pc L (.ref b :: rest)) := by
  subst hp; exact cx.step (fun _ q => XS.ifnullNo (cx.at st) cx.1.1 rfl (cx.dec hd) rfl q) k
theorem E_ifnonnullY (cx : Cx l Z n0 p e R s m args below meth c bytes ml own name rt Q F S) (st : S kc ks T h) {b : Addr} {o : Int} (hd : decode bytes pc = .ok (.ifnonnull o, 3)) (ho : 0 ≤ (pc : Int) + o) (hp : ((pc : Int) + o).toNat = pc') (k : F T (mkF m pc' L rest)) : F T (mkF m pc L (.ref b :: rest)) :=
  cx.step (fun _ q => XS.ifnonnullYes (cx.at st) cx.1.1 rfl (pc0 := pc) rfl (cx.dec hd) rfl ho hp q) k
theorem E_ifnonnullN (cx : Cx l Z n0 p e R s m args below meth c bytes ml own name rt Q F S) (st : S kc ks T h) {o : Int} (hd : decode bytes pc = .ok (.ifnonnull o, 3)) (hp : pc + 3 = pc') (k : F T (mkF m pc' L rest)) : F T (mkF m pc L (.null :: rest)) := by
  subst hp; exact cx.step (fun _ q => XS.ifnonnullNo (cx.at st) cx.1.1 rfl (cx.dec hd) rfl q) k
theorem E_dup2 (cx : Cx l Z n0 p e R s m args below meth c bytes ml own name rt Q F S) (st : S kc ks T h) {x y : Value} (hd : decode bytes pc = .ok (.dup2, 1)) (hc : x.category = 1) (hc2 : y.category = 1) (hp : pc + 1 = pc') (k : F T (mkF m pc' L (x :: y :: x :: y :: rest))) : F T (mkF m pc L (x :: y :: rest)) := by
  subst hp; exact cx.step (fun _ q => Jvm.Free.XT.dup2 (cx.at st) cx.1.1 rfl (cx.dec hd) rfl hc hc2 q) k
theorem E_dup2L (cx : Cx l Z n0 p e R s m args below meth c bytes ml own name rt Q F S) (st : S kc ks T h) {x : Int64} (hd : decode bytes pc = .ok (.dup2, 1)) (hp : pc + 1 = pc') (k : F T (mkF m pc' L (.long x :: .long x :: rest))) : F T (mkF m pc L (.long x :: rest)) := by
  subst hp; exact cx.step (fun _ q => Jvm.Free.XT.dup2L (cx.at st) cx.1.1 rfl (cx.dec hd) rfl q) k
theorem E_ldc (cx : Cx l Z n0 p e R s m args below meth c bytes ml own name rt Q F S) (st : S kc ks T h) {i : Nat} {v : Int32} (w : (Jvm.Cond.constant own i v).before a0 Z = true) (hd : decode bytes pc = .ok (.ldc i, 2)) (hp : pc + 2 = pc') (k : F T (mkF m pc' L (.int v :: rest))) : F T (mkF m pc L rest) := by
  subst hp
  obtain ⟨_, _, _, X, -⟩ := cx.open st
  exact cx.step (fun t q => X.ldcInt cx.1.1 cx.2.1.1 (mvT cx.1.2.1 w) (g := mkF m pc L rest) rfl (cx.dec hd) t q) k
theorem E_ldc_w (cx : Cx l Z n0 p e R s m args below meth c bytes ml own name rt Q F S) (st : S kc ks T h) {i : Nat} {v : Int32} (w : (Jvm.Cond.constant own i v).before a0 Z = true) (hd : decode bytes pc = .ok (.ldc_w i, 3)) (hp : pc + 3 = pc') (k : F T (mkF m pc' L (.int v :: rest))) : F T (mkF m pc L rest) := by
  subst hp
  obtain ⟨_, _, _, X, -⟩ := cx.open st
  exact cx.step (fun t q => X.ldcwInt cx.1.1 cx.2.1.1 (mvT cx.1.2.1 w) (g := mkF m pc L rest) rfl (cx.dec hd) t q) k
theorem E_ldc2_w (cx : Cx l Z n0 p e R s m args below meth c bytes ml own name rt Q F S) (st : S kc ks T h) {i : Nat} {v : Int64} (w : (Jvm.Cond.constantLong own i v).before a0 Z = true) (hd : decode bytes pc = .ok (.ldc2_w i, 3)) (hp : pc + 3 = pc') (k : F T (mkF m pc' L (.long v :: rest))) : F T (mkF m pc L rest) := by
  subst hp
  obtain ⟨_, _, _, X, -⟩ := cx.open st
  exact cx.step (fun t q => X.ldc2Long cx.1.1 cx.2.1.1 (mvT cx.1.2.1 w) (g := mkF m pc L rest) rfl (cx.dec hd) t q) k
theorem E_ireturn (cx : Cx l Z n0 p e R s m args below meth c bytes ml own name rt Q F S) (st : S kc ks T h) {x : Int32} {t : FieldType} (hd : decode bytes pc = .ok (.ireturn, 1)) (hrt : rt = some t) (ht : t = .int ∨ t = .boolean ∨ t = .byte ∨ t = .char ∨ t = .short) (hn : narrow t (.int x) = .int x) (hk : kc ≤ R.cells) (hs : ks ≤ R.slots) (hQ : Q (some (.int x)) h) : F T (mkF m pc L (.int x :: rest)) :=
  cx.fin st (fun q => by rw [hrt] at q; cases q) hk hs (fun fs _ _ _ X hr => retOut X cx.1.1 (cx.2.1.2.2.1.trans hrt) hn (Or.inl ⟨rfl, ht, x, rfl⟩) (cx.dec hd) hr) hQ
theorem E_lreturn (cx : Cx l Z n0 p e R s m args below meth c bytes ml own name rt Q F S) (st : S kc ks T h) {x : Int64} (hd : decode bytes pc = .ok (.lreturn, 1)) (hrt : rt = some .long) (hk : kc ≤ R.cells) (hs : ks ≤ R.slots) (hQ : Q (some (.long x)) h) : F T (mkF m pc L (.long x :: rest)) :=
  cx.fin st (fun q => by rw [hrt] at q; cases q) hk hs (fun fs _ _ _ X hr => retOut X cx.1.1 (cx.2.1.2.2.1.trans hrt) rfl (Or.inr (Or.inl ⟨rfl, rfl, x, rfl⟩)) (cx.dec hd) hr) hQ
theorem E_areturn (cx : Cx l Z n0 p e R s m args below meth c bytes ml own name rt Q F S) (st : S kc ks T h) {x : Value} {t : FieldType} (hd : decode bytes pc = .ok (.areturn, 1)) (hrt : rt = some t) (ht : t.isReference = true) (hn : narrow t x = x) (hx : x.isRef = true) (hk : kc ≤ R.cells) (hs : ks ≤ R.slots) (hQ : Q (some x) h) : F T (mkF m pc L (x :: rest)) :=
  cx.fin st (fun q => by rw [hrt] at q; cases q) hk hs (fun fs _ _ _ X hr => retOut X cx.1.1 (cx.2.1.2.2.1.trans hrt) hn (Or.inr (Or.inr (Or.inr (Or.inr ⟨rfl, ht, hx⟩)))) (cx.dec hd) hr) hQ
theorem E_return (cx : Cx l Z n0 p e R s m args below meth c bytes ml own name rt Q F S) (st : S kc ks T h) (hd : decode bytes pc = .ok (.return_, 1)) (hrt : rt = none) (hk : kc ≤ R.cells) (hs : ks ≤ R.slots) (hQ : Q none h) : F T (mkF m pc L []) :=
  cx.fin st (fun _ => rfl) hk hs (fun fs _ _ _ X hr => X.returnOut cx.1.1 (cx.2.1.2.2.1.trans hrt) (cx.dec hd) hr) hQ
theorem narrow01 {x : Int32} (q : x = 0 ∨ x = 1) : narrow .boolean (.int x) = .int x := by rcases q with rfl | rfl <;> rfl
theorem E_callS (cx : Cx l Z n0 p e R s m args below meth c bytes ml own name rt Q F S) (st : S kc ks T h) {y : MethodName} {bytes' : ByteArray} {ml' : Nat} {rt' : Option FieldType} {rm : Room} {argsL : List Value} {Q' : Option Value → Heap → Prop} {idx W : Nat} {stk : List Value} (rest : List Value)
    (K : Con l Z y bytes' ml' rt' rm argsL.toArray h n0 Q') (w1 : (Jvm.Cond.methodLink own idx y).before a0 Z = true) (w2 : (Jvm.Cond.static y).before a0 Z = true) (w3 : (Jvm.Cond.initialized y.cls).before a0 Z = true) (w4 : (Jvm.Cond.code y bytes' ml' rt').before a0 Z = true)
    (hd : decode bytes pc = .ok (.invokestatic idx, 3)) (hstk : stk = argsL.reverse ++ rest) (hL : L.size = ml) (hlen : ∀ sig, parseMethodDescriptor y.desc = some sig → argsL.length = sig.parameters.length) (hW : (rest.map fun v => v.category).sum ≤ W)
    (hy : y.cls ≠ "java/lang/invoke/MethodHandle" ∧ y.cls ≠ "java/lang/invoke/VarHandle") (hf : rm.frames + 1 ≤ R.frames) (hlo : W + (ml' + 11) + rm.locals ≤ R.locals) (hc : kc + rm.cells ≤ kc') (hs : ks + rm.slots ≤ ks') (hc' : kc' ≤ R.cells) (hs' : ks' ≤ R.slots) (hp : pc + 3 = pc')
    (k : ∀ v T' h', S kc' ks' T' h' → Q' v h' → F T' (mkF m pc' L (v.toList ++ rest))) : F T (mkF m pc L stk) := by
  subst hp
  obtain ⟨locs, cells, slots, X, q1, q2, q3, q4⟩ := cx.open st
  have hZ := cx.1.2.1
  obtain ⟨v, _, ⟨T₁, L₁, k₁, n₁⟩, -, X₁, ⟨Lc, hQ, e1, e2, e3⟩, stp⟩ := Jvm.LawKit.callS X cx.1.1 (y := y) cx.2.1.1 (mvT hZ w1) (mvT hZ w2) (mvT hZ w3) (mvT hZ w4) hy (backOf (W := W) (Q := fun v h L => Fr n0 L ∧ Q' v h) (K []) hZ w4 w3 hf hlo) (g := mkF m pc L stk) rfl (hL.trans cx.1.2.2.2.symm) (argsL := argsL) (rest := rest) hlen hstk (by show 2 * 0 + _ ≤ _; omega) (cx.dec hd) (fun _ _ => ⟨rfl, q1, by dsimp only [Pt.cells]; omega, by dsimp only [Pt.slots]; omega⟩)
  dsimp only [Pt.U, Pt.locs, Pt.cells, Pt.slots] at X₁ e1 e2 e3 stp hQ
  subst e1 e2 e3
  refine cx.step stp (k v T₁ T₁.heap ?_ hQ.2)
  obtain ⟨-, -, -, rfl⟩ := cx
  exact ⟨_, _, _, X₁, rfl, Fr.app q2 hQ.1, by omega, by omega⟩

theorem E_newP (cx : Cx l Z n0 p e R s m args below meth c bytes ml own name rt Q F S) (st : S kc ks T h) {aty : ArrayType} {n : Int32} {cap : Nat} (w : (Jvm.Cond.arrayClass (newarray.typeOf aty)).before a0 Z = true) (hd : decode bytes pc = .ok (.newarray aty, 2)) (hn : ¬ n < 0) (hcap : n.toNatClampNeg ≤ cap) (hb : cap * 8 ≤ 536870912) (hc : kc + 1 ≤ kc') (hs : ks + cap ≤ ks') (hc' : kc' ≤ R.cells) (hs' : ks' ≤ R.slots) (hp : pc + 2 = pc') {ad : String} (had : "[" ++ (newarray.typeOf aty).toString = ad)
    (k : ∀ T' h' cA a, a = h.size → S kc' ks' T' h' → Ext h h' → Arv Z h' a cA (newarray.typeOf aty) n [] (defaultValue (newarray.typeOf aty)) → Exa Z h' a ad → F T' (mkF m pc' L (.ref a :: rest))) : F T (mkF m pc L (.int n :: rest)) := by
  subst hp
  obtain ⟨locs, cells, slots, X, q1, q2, q3, q4⟩ := cx.open st
  obtain ⟨T', h', cA, X', e', E, A, E2, stp⟩ := newPE X cx.1.1 cx.1.2.1 w q1 (g := mkF m pc L (.int n :: rest)) rfl (cx.dec hd) rfl hn (cap := cap) hcap hb (by omega) (by omega) had
  refine cx.step stp (k T' h' cA h.size rfl ?_ E (Arv.new A hn) E2)
  obtain ⟨-, -, -, rfl⟩ := cx
  exact ⟨_, _, _, X', e', q2, by omega, by omega⟩
theorem getD_int (xs : List Int32) (k : Nat) (d : Int32) : (xs.map Value.int).getD k (.int d) = .int (xs.getD k d) := by
  simp only [List.getD_eq_getElem?_getD, List.getElem?_map]
  cases xs[k]? <;> rfl
theorem getD_long (xs : List Int64) (k : Nat) (d : Int64) : (xs.map Value.long).getD k (.long d) = .long (xs.getD k d) := by
  simp only [List.getD_eq_getElem?_getD, List.getElem?_map]
  cases xs[k]? <;> rfl
theorem i32_small {i : Int32} {n : Nat} (h : ¬ i < 0 ∧ i < Int32.ofNat n) (hn : n < 2147483648) : i.toNatClampNeg < n ∧ i = Int32.ofNat i.toNatClampNeg := by
  obtain ⟨h1, h2⟩ := h
  have e1 := rng32 i
  rw [Int32.lt_iff_toInt_lt] at h1 h2
  have k1 : (0 : Int32).toInt = 0 := rfl
  have k2 : (Int32.ofNat n).toInt = n := Int32.toInt_ofNat_of_lt hn
  rw [k1] at h1; rw [k2] at h2
  have e2 : i.toNatClampNeg = i.toInt.toNat := rfl
  refine ⟨by omega, ?_⟩
  apply Int32.toInt_inj.mp
  rw [Int32.toInt_ofNat_of_lt (by omega)]; omega
theorem i32_rem (k : Int32) (n : Nat) (hk : 0 ≤ k.toInt) (h0 : 0 < n) (hn : n < 2147483648) : ¬ (k % Int32.ofNat n) < 0 ∧ (k % Int32.ofNat n) < Int32.ofNat n := by
  have k2 : (Int32.ofNat n).toInt = n := Int32.toInt_ofNat_of_lt hn
  have r := (c_irem k (Int32.ofNat n) n k2).1 hk
  have q1 := Int.emod_nonneg k.toInt (by omega : (n : Int) ≠ 0)
  have q2 := Int.emod_lt_of_pos k.toInt (by omega : (0 : Int) < n)
  have k1 : (0 : Int32).toInt = 0 := rfl
  rw [Int32.lt_iff_toInt_lt, Int32.lt_iff_toInt_lt, k1, k2, r]
  omega
theorem i32_succ {w : Int32} {n : Nat} (h : ¬ w < 0 ∧ w < Int32.ofNat n) (hn : n < 2147483647) : (¬ (w + 1) < 0 ∧ (w + 1) < Int32.ofNat (n + 1)) ∧ (w + 1).toNatClampNeg = w.toNatClampNeg + 1 := by
  obtain ⟨h1, h2⟩ := h
  have e1 := rng32 w
  rw [Int32.lt_iff_toInt_lt] at h1 h2
  have k1 : (0 : Int32).toInt = 0 := rfl
  have k3 : (1 : Int32).toInt = 1 := rfl
  have k2 : (Int32.ofNat n).toInt = n := Int32.toInt_ofNat_of_lt (by omega)
  have k4 : (Int32.ofNat (n + 1)).toInt = ((n + 1 : Nat) : Int) := Int32.toInt_ofNat_of_lt (by omega)
  rw [k1] at h1; rw [k2] at h2
  have e : (w + 1).toInt = w.toInt + 1 := by
    rw [Jvm.Free.XT.add32, k3]; rw [k3]; exact ⟨by omega, by omega⟩
  refine ⟨?_, ?_⟩
  · rw [Int32.lt_iff_toInt_lt, Int32.lt_iff_toInt_lt, k1, k4, e]; omega
  · show (w + 1).toInt.toNat = w.toInt.toNat + 1
    rw [e]; omega
theorem idx_of {n j : Int32} (h1 : ¬ j < 0) (h2 : j < n) : ¬ j < 0 ∧ j < n := ⟨h1, h2⟩
theorem E_iaload (cx : Cx l Z n0 p e R s m args below meth c bytes ml own name rt Q F S) (st : S kc ks T h) {a : Addr} {kA : ClassId} {n j x : Int32} {vs : List Value} {dv : Value} (V : Arv Z h a kA .int n vs dv) (hj : ¬ j < 0 ∧ j < n) (hv : vs.getD j.toNatClampNeg dv = .int x) (hd : decode bytes pc = .ok (.iaload, 1)) (hp : pc + 1 = pc') (k : F T (mkF m pc' L (.int x :: rest))) : F T (mkF m pc L (.int j :: .ref a :: rest)) := by
  subst hp
  obtain ⟨_, _, _, X, q1, -⟩ := cx.open st
  obtain ⟨cl, A, -, S1, N1, H1, G1⟩ := V
  have hin := inb_of S1 hj
  exact cx.step (fun t q => X.iaload cx.1.1 (j := j) (v := .int x) (by rw [q1]; exact A.1) (State.isArrayOf_alike cx.1.2.1.alike A.2.1) A.2.2 hin (H1.at hin hv) (g := mkF m pc L (.int j :: .ref a :: rest)) rfl rfl (cx.dec hd) t q) k
theorem E_laload (cx : Cx l Z n0 p e R s m args below meth c bytes ml own name rt Q F S) (st : S kc ks T h) {a : Addr} {kA : ClassId} {n j : Int32} {x : Int64} {vs : List Value} {dv : Value} (V : Arv Z h a kA .long n vs dv) (hj : ¬ j < 0 ∧ j < n) (hv : vs.getD j.toNatClampNeg dv = .long x) (hd : decode bytes pc = .ok (.laload, 1)) (hp : pc + 1 = pc') (k : F T (mkF m pc' L (.long x :: rest))) : F T (mkF m pc L (.int j :: .ref a :: rest)) := by
  subst hp
  obtain ⟨_, _, _, X, q1, -⟩ := cx.open st
  obtain ⟨cl, A, -, S1, N1, H1, G1⟩ := V
  have hin := inb_of S1 hj
  exact cx.step (fun t q => X.laload cx.1.1 (j := j) (v := .long x) (by rw [q1]; exact A.1) (State.isArrayOf_alike cx.1.2.1.alike A.2.1) A.2.2 hin (H1.at hin hv) (g := mkF m pc L (.int j :: .ref a :: rest)) rfl rfl (cx.dec hd) t q) k
theorem E_iastore (cx : Cx l Z n0 p e R s m args below meth c bytes ml own name rt Q F S) (st : S kc ks T h) {a : Addr} {kA : ClassId} {n j x : Int32} {vs : List Value} {dv : Value} {i : Nat} (V : Arv Z h a kA .int n vs dv) (hj : ¬ j < 0 ∧ j < n) (hi : j.toNatClampNeg = i) (hlt : i < vs.length) (g : n0 ≤ a) (hd : decode bytes pc = .ok (.iastore, 1)) (hp : pc + 1 = pc')
    (k : ∀ T' h', S kc ks T' h' → Wr h h' a i (.int x) → Arv Z h' a kA .int n (vs.set i (.int x)) dv → F T' (mkF m pc' L rest)) : F T (mkF m pc L (.int x :: .int j :: .ref a :: rest)) := by
  subst hp hi
  obtain ⟨_, _, _, X, q1, q2, q3, q4⟩ := cx.open st
  obtain ⟨cl, A, e1, S1, N1, H1, G1⟩ := V
  obtain ⟨T', h', X', e', W, stp⟩ := Jvm.RoadKit.stI X cx.1.1 cx.1.2.1 q1 A (j := j) (x := x) (inb_of S1 hj) (g := mkF m pc L (.int x :: .int j :: .ref a :: rest)) rfl rfl (cx.dec hd)
  refine cx.step stp (k T' h' ?_ W (Arv.set A e1 S1 N1 H1 G1 rfl W _ rfl hlt))
  obtain ⟨-, -, -, rfl⟩ := cx
  exact ⟨_, _, _, X', e', Fr.snoc X' q2 g, q3, q4⟩
theorem E_lastore (cx : Cx l Z n0 p e R s m args below meth c bytes ml own name rt Q F S) (st : S kc ks T h) {a : Addr} {kA : ClassId} {n j : Int32} {x : Int64} {vs : List Value} {dv : Value} {i : Nat} (V : Arv Z h a kA .long n vs dv) (hj : ¬ j < 0 ∧ j < n) (hi : j.toNatClampNeg = i) (hlt : i < vs.length) (g : n0 ≤ a) (hd : decode bytes pc = .ok (.lastore, 1)) (hp : pc + 1 = pc')
    (k : ∀ T' h', S kc ks T' h' → Wr h h' a i (.long x) → Arv Z h' a kA .long n (vs.set i (.long x)) dv → F T' (mkF m pc' L rest)) : F T (mkF m pc L (.long x :: .int j :: .ref a :: rest)) := by
  subst hp hi
  obtain ⟨_, _, _, X, q1, q2, q3, q4⟩ := cx.open st
  obtain ⟨cl, A, e1, S1, N1, H1, G1⟩ := V
  obtain ⟨T', h', X', e', W, stp⟩ := Jvm.RoadKit.stJ X cx.1.1 cx.1.2.1 q1 A (j := j) (x := x) (inb_of S1 hj) (g := mkF m pc L (.long x :: .int j :: .ref a :: rest)) rfl rfl (cx.dec hd)
  refine cx.step stp (k T' h' ?_ W (Arv.set A e1 S1 N1 H1 G1 rfl W _ rfl hlt))
  obtain ⟨-, -, -, rfl⟩ := cx
  exact ⟨_, _, _, X', e', Fr.snoc X' q2 g, q3, q4⟩
theorem E_arraylength (cx : Cx l Z n0 p e R s m args below meth c bytes ml own name rt Q F S) (st : S kc ks T h) {a : Addr} {kA : ClassId} {n : Int32} {ty : FieldType} {vs : List Value} {dv : Value} (V : Arv Z h a kA ty n vs dv) (hd : decode bytes pc = .ok (.arraylength, 1)) (hp : pc + 1 = pc') (k : F T (mkF m pc' L (.int n :: rest))) : F T (mkF m pc L (.ref a :: rest)) := by
  subst hp
  obtain ⟨_, _, _, X, q1, -⟩ := cx.open st
  obtain ⟨cl, A, -, S1, N1, H1, G1⟩ := V
  refine cx.step (fun t q => X.arraylength cx.1.1 (by rw [q1]; exact A.1) (State.isArrayOf_alike cx.1.2.1.alike A.2.1) (g := mkF m pc L (.ref a :: rest)) rfl rfl (cx.dec hd) t ?_) k
  rw [len_of S1 N1]; exact q

theorem E_new (cx : Cx l Z n0 p e R s m args below meth c bytes ml own name rt Q F S) (st : S kc ks T h) {C : String} {idx n : Nat} (w1 : (Jvm.Cond.classLink own idx C).before a0 Z = true) (w2 : (Jvm.Cond.instantiable C n).before a0 Z = true) (w3 : (Jvm.Cond.initialized C).before a0 Z = true) (hd : decode bytes pc = .ok (.new idx, 3)) (hc : kc + 1 ≤ kc') (hs : ks + n ≤ ks') (hc' : kc' ≤ R.cells) (hs' : ks' ≤ R.slots) (hp : pc + 3 = pc')
    (k : ∀ T' h' a, a = h.size → S kc' ks' T' h' → Ext h h' → Exa Z h' a C → (∀ {O nm d : String} {ty : FieldType}, Laid Z a0 C O nm d → parseFieldDescriptor d = some ty → Fld Z h' a O nm d (defaultValue ty)) → F T' (mkF m pc' L (.ref a :: rest))) : F T (mkF m pc L rest) := by
  subst hp
  obtain ⟨locs, cells, slots, X, q1, q2, q3, q4⟩ := cx.open st
  obtain ⟨T', h', X', e', E, A, D, -, stp⟩ := newO X cx.1.1 cx.1.2.1 cx.2.1.1 w1 w2 w3 q1 (g := mkF m pc L rest) rfl (cx.dec hd) (by omega) (by omega)
  refine cx.step stp (k T' h' h.size rfl ?_ E A D)
  obtain ⟨-, -, -, rfl⟩ := cx
  exact ⟨_, _, _, X', e', q2, by omega, by omega⟩
theorem E_initO (cx : Cx l Z n0 p e R s m args below meth c bytes ml own name rt Q F S) (st : S kc ks T h) {a : Addr} {idx W : Nat} (w1 : (Jvm.Cond.methodLink own idx Lib.objectInit).before a0 Z = true) (w2 : (Jvm.Cond.instanceMethod Lib.objectInit).before a0 Z = true) (w3 : (Jvm.Cond.code Lib.objectInit ⟨#[0xb1]⟩ 1 none).before a0 Z = true) (hd : decode bytes pc = .ok (.invokespecial idx, 3)) (hL : L.size = ml) (hf : 1 ≤ R.frames) (hW : (rest.map fun v => v.category).sum ≤ W) (hl : W + 12 ≤ R.locals) (hp : pc + 3 = pc')
    (k : ∀ T', S kc ks T' h → F T' (mkF m pc' L rest)) : F T (mkF m pc L (.ref a :: rest)) := by
  subst hp
  obtain ⟨locs, cells, slots, X, q1, q2, q3, q4⟩ := cx.open st
  obtain ⟨T', X', e', stp⟩ := initO X cx.1.1 cx.1.2.1 cx.2.1.1 w1 w2 w3 q1 (g := mkF m pc L (.ref a :: rest)) rfl (hL.trans cx.1.2.2.2.symm) rfl (cx.dec hd) hf (W := W) (by show 2 * 0 + _ ≤ _; omega) hl
  refine cx.step stp (k T' ?_)
  obtain ⟨-, -, -, rfl⟩ := cx
  exact ⟨_, _, _, X', e', q2, q3, q4⟩
theorem E_getfield (cx : Cx l Z n0 p e R s m args below meth c bytes ml own name rt Q F S) (st : S kc ks T h) {a : Addr} {v : Value} {C n d : String} {idx : Nat} (w : (Jvm.Cond.fieldLink own idx C n d).before a0 Z = true) (G : Fld Z h a C n d v) (hd : decode bytes pc = .ok (.getfield idx, 3)) (hp : pc + 3 = pc')
    (k : ∀ T', S kc ks T' h → F T' (mkF m pc' L (v :: rest))) : F T (mkF m pc L (.ref a :: rest)) := by
  subst hp
  obtain ⟨locs, cells, slots, X, q1, q2, q3, q4⟩ := cx.open st
  obtain ⟨T', X', e', stp⟩ := getF X cx.1.1 cx.1.2.1 cx.2.1.1 (host := "") (Or.inl w) Via.refl q1 G (g := mkF m pc L (.ref a :: rest)) rfl rfl (cx.dec hd)
  refine cx.step stp (k T' ?_)
  obtain ⟨-, -, -, rfl⟩ := cx
  exact ⟨_, _, _, X', e', q2, q3, q4⟩
theorem E_putfield (cx : Cx l Z n0 p e R s m args below meth c bytes ml own name rt Q F S) (st : S kc ks T h) {a : Addr} {v old : Value} {C O n d : String} {idx kk : Nat} {ty : FieldType} (w : (Jvm.Cond.fieldLink own idx O n d).before a0 Z = true) (G : Fld Z h a O n d old) (E : Exa Z h a C) (La : (Jvm.Cond.lays C O n d).before a0 Z = true ∨ ((Jvm.Cond.laysFinal C O n d).before a0 Z = true ∧ own = O ∧ name = "<init>")) (wi : (Jvm.Cond.instantiable C kk).before a0 Z = true)
    (hty : parseFieldDescriptor d = some ty) (hn : narrow ty v = v) (hf : fits ty v = true) (ga : n0 ≤ a) (hd : decode bytes pc = .ok (.putfield idx, 3)) (hp : pc + 3 = pc')
    (k : ∀ T' h', S kc ks T' h' → Wr h h' a (Jvm.RoadKit.slotOf Z O n d) v → F T' (mkF m pc' L rest)) : F T (mkF m pc L (v :: .ref a :: rest)) := by
  subst hp
  obtain ⟨locs, cells, slots, X, q1, q2, q3, q4⟩ := cx.open st
  obtain ⟨T', h', X', e', W, stp⟩ := putF X cx.1.1 cx.1.2.1 cx.2.1.1 (host := "") (Or.inl w) Via.refl q1 G E (La.imp id fun z => ⟨z.1, z.2.1, cx.2.1.2.1.trans z.2.2⟩) wi hty hn hf (g := mkF m pc L (v :: .ref a :: rest)) rfl rfl (cx.dec hd)
  refine cx.step stp (k T' h' ?_ W)
  obtain ⟨-, -, -, rfl⟩ := cx
  exact ⟨_, _, _, X', e', Fr.snoc X' q2 ga, q3, q4⟩
theorem E_callI (cx : Cx l Z n0 p e R s m args below meth c bytes ml own name rt Q F S) (st : S kc ks T h) {y : MethodName} {bytes' : ByteArray} {ml' : Nat} {rm : Room} {a : Addr} {argsL : List Value} {Q' : Option Value → Heap → Prop} {idx W : Nat} {stk : List Value} (rest : List Value)
    (K : Con l Z y bytes' ml' none rm (.ref a :: argsL).toArray h n0 Q') (hy1 : y.name = "<init>") (w1 : (Jvm.Cond.methodLink own idx y).before a0 Z = true) (w2 : (Jvm.Cond.instanceMethod y).before a0 Z = true) (w3 : (Jvm.Cond.initialized y.cls).before a0 Z = true) (w4 : (Jvm.Cond.code y bytes' ml' none).before a0 Z = true)
    (hd : decode bytes pc = .ok (.invokespecial idx, 3)) (hstk : stk = argsL.reverse ++ .ref a :: rest) (hL : L.size = ml) (hlen : ∀ sig, parseMethodDescriptor y.desc = some sig → argsL.length = sig.parameters.length) (hW : (rest.map fun v => v.category).sum ≤ W)
    (hy : y.cls ≠ "java/lang/invoke/MethodHandle" ∧ y.cls ≠ "java/lang/invoke/VarHandle") (hf : rm.frames + 1 ≤ R.frames) (hlo : W + (ml' + 11) + rm.locals ≤ R.locals) (hc : kc + rm.cells ≤ kc') (hs : ks + rm.slots ≤ ks') (hc' : kc' ≤ R.cells) (hs' : ks' ≤ R.slots) (hp : pc + 3 = pc')
    (k : ∀ v T' h', S kc' ks' T' h' → Q' v h' → F T' (mkF m pc' L (v.toList ++ rest))) : F T (mkF m pc L stk) := by
  subst hp
  obtain ⟨locs, cells, slots, X, q1, q2, q3, q4⟩ := cx.open st
  have hZ := cx.1.2.1
  obtain ⟨v, _, ⟨T₁, L₁, k₁, n₁⟩, -, X₁, ⟨Lc, hQ, e1, e2, e3⟩, stp⟩ := X.specialBack cx.1.1 (y := y) hy1 cx.2.1.1 (mvT hZ w1) (mvT hZ w2) (mvT hZ w4) hy (backOf (W := W) (Q := fun v h L => Fr n0 L ∧ Q' v h) (K []) hZ w4 w3 hf hlo) (g := mkF m pc L stk) rfl (hL.trans cx.1.2.2.2.symm) (Steps.refl _) (a := a) (argsL := argsL) (rest := rest) hlen hstk (by show 2 * 0 + _ ≤ _; omega) (cx.dec hd) (fun _ _ => ⟨rfl, q1, by dsimp only [Pt.cells]; omega, by dsimp only [Pt.slots]; omega⟩)
  dsimp only [Pt.U, Pt.locs, Pt.cells, Pt.slots] at X₁ e1 e2 e3 stp hQ
  subst e1 e2 e3
  refine cx.step (fun _ q => stp.trans q) (k v T₁ T₁.heap ?_ hQ.2)
  obtain ⟨-, -, -, rfl⟩ := cx
  exact ⟨_, _, _, X₁, rfl, Fr.app q2 hQ.1, by omega, by omega⟩
theorem E_callV (cx : Cx l Z n0 p e R s m args below meth c bytes ml own name rt Q F S) (st : S kc ks T h) {y : MethodName} {bytes' : ByteArray} {ml' : Nat} {rt' : Option FieldType} {rm : Room} {a : Addr} {argsL : List Value} {Q' : Option Value → Heap → Prop} {idx W : Nat} {stk : List Value} (rest : List Value)
    (K : Con l Z y bytes' ml' rt' rm (.ref a :: argsL).toArray h n0 Q') (E : Exa Z h a y.cls) (w1 : (Jvm.Cond.methodLink own idx y).before a0 Z = true) (w5 : (Jvm.Cond.declares y).before a0 Z = true) (w6 : (Jvm.Cond.selects y.cls y y).before a0 Z = true) (w2 : (Jvm.Cond.instanceMethod y).before a0 Z = true) (w3 : (Jvm.Cond.initialized y.cls).before a0 Z = true) (w4 : (Jvm.Cond.code y bytes' ml' rt').before a0 Z = true)
    (hd : decode bytes pc = .ok (.invokevirtual idx, 3)) (hstk : stk = argsL.reverse ++ .ref a :: rest) (hL : L.size = ml) (hlen : ∀ sig, parseMethodDescriptor y.desc = some sig → argsL.length = sig.parameters.length) (hW : (rest.map fun v => v.category).sum ≤ W)
    (hy : y.cls ≠ "java/lang/invoke/MethodHandle" ∧ y.cls ≠ "java/lang/invoke/VarHandle") (hf : rm.frames + 1 ≤ R.frames) (hlo : W + (ml' + 11) + rm.locals ≤ R.locals) (hc : kc + rm.cells ≤ kc') (hs : ks + rm.slots ≤ ks') (hc' : kc' ≤ R.cells) (hs' : ks' ≤ R.slots) (hp : pc + 3 = pc')
    (k : ∀ v T' h', S kc' ks' T' h' → Q' v h' → F T' (mkF m pc' L (v.toList ++ rest))) : F T (mkF m pc L stk) := by
  subst hp
  obtain ⟨locs, cells, slots, X, q1, q2, q3, q4⟩ := cx.open st
  have hZ := cx.1.2.1
  obtain ⟨cq, kq, qa, qb, qc⟩ := isOf hZ q1 E
  obtain ⟨v, _, ⟨T₁, L₁, k₁, n₁⟩, -, X₁, ⟨Lc, hQ, e1, e2, e3⟩, stp⟩ := X.virtualBack cx.1.1 (y := y) (z := y) cx.2.1.1 (mvT hZ w1) (mvT hZ w5) (notFace_of_selects (args := #[]) (mvT hZ w6)) (mvT hZ w6) (mvT hZ w2) hy (backOf (W := W) (Q := fun v h L => Fr n0 L ∧ Q' v h) (K []) hZ w4 w3 hf hlo) qa qc (g := mkF m pc L stk) rfl (hL.trans cx.1.2.2.2.symm) (Steps.refl _) (argsL := argsL) (rest := rest) hlen hstk (by show 2 * 0 + _ ≤ _; omega) (cx.dec hd) (fun _ _ => ⟨rfl, q1, by dsimp only [Pt.cells]; omega, by dsimp only [Pt.slots]; omega⟩)
  dsimp only [Pt.U, Pt.locs, Pt.cells, Pt.slots] at X₁ e1 e2 e3 stp hQ
  subst e1 e2 e3
  refine cx.step (fun _ q => stp.trans q) (k v T₁ T₁.heap ?_ hQ.2)
  obtain ⟨-, -, -, rfl⟩ := cx
  exact ⟨_, _, _, X₁, rfl, Fr.app q2 hQ.1, by omega, by omega⟩
theorem E_callP (cx : Cx l Z n0 p e R s m args below meth c bytes ml own name rt Q F S) (st : S kc ks T h) {y : MethodName} {bytes' : ByteArray} {ml' : Nat} {rt' : Option FieldType} {rm : Room} {a : Addr} {argsL : List Value} {Q' : Option Value → Heap → Prop} {idx W : Nat} {stk : List Value} (rest : List Value)
    (K : Con l Z y bytes' ml' rt' rm (.ref a :: argsL).toArray h n0 Q') (E : Exa Z h a y.cls) (w1 : (Jvm.Cond.methodLink own idx y).before a0 Z = true) (w5 : (Jvm.Cond.privateMethod y).before a0 Z = true) (w6 : (Jvm.Cond.selects y.cls y y).before a0 Z = true) (w2 : (Jvm.Cond.instanceMethod y).before a0 Z = true) (w3 : (Jvm.Cond.initialized y.cls).before a0 Z = true) (w4 : (Jvm.Cond.code y bytes' ml' rt').before a0 Z = true)
    (hd : decode bytes pc = .ok (.invokevirtual idx, 3)) (hstk : stk = argsL.reverse ++ .ref a :: rest) (hL : L.size = ml) (hlen : ∀ sig, parseMethodDescriptor y.desc = some sig → argsL.length = sig.parameters.length) (hW : (rest.map fun v => v.category).sum ≤ W)
    (hy : y.cls ≠ "java/lang/invoke/MethodHandle" ∧ y.cls ≠ "java/lang/invoke/VarHandle") (hf : rm.frames + 1 ≤ R.frames) (hlo : W + (ml' + 11) + rm.locals ≤ R.locals) (hc : kc + rm.cells ≤ kc') (hs : ks + rm.slots ≤ ks') (hc' : kc' ≤ R.cells) (hs' : ks' ≤ R.slots) (hp : pc + 3 = pc')
    (k : ∀ v T' h', S kc' ks' T' h' → Q' v h' → F T' (mkF m pc' L (v.toList ++ rest))) : F T (mkF m pc L stk) := by
  subst hp
  obtain ⟨locs, cells, slots, X, q1, q2, q3, q4⟩ := cx.open st
  have hZ := cx.1.2.1
  obtain ⟨cq, qa, qb⟩ := E.cell
  obtain ⟨v, _, ⟨T₁, L₁, k₁, n₁⟩, -, X₁, ⟨Lc, hQ, e1, e2, e3⟩, stp⟩ := X.privateBack cx.1.1 (y := y) cx.2.1.1 (mvT hZ w1) (mvT hZ w2) (mvT hZ w6) (Cond.privateMethod_at (mvP hZ w5 (args := #[]))) (mvT hZ w4) hy (backOf (W := W) (Q := fun v h L => Fr n0 L ∧ Q' v h) (K []) hZ w4 w3 hf hlo) (g := mkF m pc L stk) rfl (hL.trans cx.1.2.2.2.symm) (Steps.refl _) (a := a) (by rw [q1]; exact qa) qb (argsL := argsL) (rest := rest) hlen hstk (by show 2 * 0 + _ ≤ _; omega) (cx.dec hd) (fun _ _ => ⟨rfl, q1, by dsimp only [Pt.cells]; omega, by dsimp only [Pt.slots]; omega⟩)
  dsimp only [Pt.U, Pt.locs, Pt.cells, Pt.slots] at X₁ e1 e2 e3 stp hQ
  subst e1 e2 e3
  refine cx.step (fun _ q => stp.trans q) (k v T₁ T₁.heap ?_ hQ.2)
  obtain ⟨-, -, -, rfl⟩ := cx
  exact ⟨_, _, _, X₁, rfl, Fr.app q2 hQ.1, by omega, by omega⟩
theorem E_clone (cx : Cx l Z n0 p e R s m args below meth c bytes ml own name rt Q F S) (st : S kc ks T h) {a : Addr} {ad : String} {idx W cap : Nat} {kA : ClassId} {z : Int32} {vs : List Value} {dv : Value} {ty : FieldType} (V : Arv Z h a kA ty z vs dv) (E : Exa Z h a ad)
    (w1 : (Jvm.Cond.methodLink own idx ⟨ad, "clone", "()Ljava/lang/Object;"⟩).before a0 Z = true) (w2 : (Jvm.Cond.sameMethod ad "java/lang/Object" "clone" "()Ljava/lang/Object;").before a0 Z = true) (w3 : (Jvm.Cond.native ⟨"java/lang/Object", "clone", "()Ljava/lang/Object;"⟩).before a0 Z = true)
    (w4 : (Jvm.Cond.instanceMethod ⟨"java/lang/Object", "clone", "()Ljava/lang/Object;"⟩).before a0 Z = true) (w5 : (Jvm.Cond.selects ad ⟨ad, "clone", "()Ljava/lang/Object;"⟩ ⟨"java/lang/Object", "clone", "()Ljava/lang/Object;"⟩).before a0 Z = true) (w6 : (Jvm.Cond.castable ad "java/lang/Cloneable").before a0 Z = true)
    (hd : decode bytes pc = .ok (.invokevirtual idx, 3)) (hL : L.size = ml) (hf : 1 ≤ R.frames) (hW : (rest.map fun v => v.category).sum ≤ W) (hlo : W + 14 ≤ R.locals) (hcap : z.toNatClampNeg ≤ cap) (hc : kc + 1 ≤ kc') (hs : ks + cap ≤ ks') (hc' : kc' ≤ R.cells) (hs' : ks' ≤ R.slots) (hp : pc + 3 = pc')
    (k : ∀ T' h' b, b = h.size → S kc' ks' T' h' → Ext h h' → Arv Z h' b kA ty z vs dv → Exa Z h' b ad → F T' (mkF m pc' L (.ref b :: rest))) : F T (mkF m pc L (.ref a :: rest)) := by
  subst hp
  obtain ⟨locs, cells, slots, X, q1, q2, q3, q4⟩ := cx.open st
  obtain ⟨cl, A, e1, S1, e3, H, G⟩ := V
  have FC : FitC Z cl := fitC_of A fun i hi v hv => by rw [H i hi] at hv; cases hv; exact G i hi
  obtain ⟨T', h', X', e', ex, A', E', stp⟩ := cloneA X cx.1.1 cx.1.2.1 cx.2.1.1 w1 w2 w3 w4 w5 w6 q1 A E FC (g := mkF m pc L (.ref a :: rest)) rfl (hL.trans cx.1.2.2.2.symm) rfl (cx.dec hd) hf (W := W) (cap := cap) (by show 2 * 0 + _ ≤ _; omega) hlo (by rw [S1]; exact hcap) (by omega) (by omega)
  refine cx.step stp (k T' h' h.size rfl ?_ ex ⟨cloneOf cl, A', e1, S1, e3, H, G⟩ E')
  obtain ⟨-, -, -, rfl⟩ := cx
  exact ⟨_, _, _, X', e', q2, by omega, by omega⟩
theorem E_checkcast (cx : Cx l Z n0 p e R s m args below meth c bytes ml own name rt Q F S) (st : S kc ks T h) {a : Addr} {C : String} {idx : Nat} (w : (Jvm.Cond.classLink own idx C).before a0 Z = true) (I : Ins Z h a C true) (hd : decode bytes pc = .ok (.checkcast idx, 3)) (hp : pc + 3 = pc')
    (k : ∀ T', S kc ks T' h → F T' (mkF m pc' L (.ref a :: rest))) : F T (mkF m pc L (.ref a :: rest)) := by
  subst hp
  obtain ⟨locs, cells, slots, X, q1, q2, q3, q4⟩ := cx.open st
  obtain ⟨T', X', e', stp⟩ := castY X cx.1.1 cx.1.2.1 cx.2.1.1 w q1 I (g := mkF m pc L (.ref a :: rest)) rfl rfl (cx.dec hd)
  refine cx.step stp (k T' ?_)
  obtain ⟨-, -, -, rfl⟩ := cx
  exact ⟨_, _, _, X', e', q2, q3, q4⟩
theorem E_aaload (cx : Cx l Z n0 p e R s m args below meth c bytes ml own name rt Q F S) (st : S kc ks T h) {a : Addr} {kA : ClassId} {n j : Int32} {ty : FieldType} {v : Value} {vs : List Value} {dv : Value} (V : Arv Z h a kA ty n vs dv) (hty : ty.isReference = true) (hj : ¬ j < 0 ∧ j < n) (hv : vs.getD j.toNatClampNeg dv = v) (hd : decode bytes pc = .ok (.aaload, 1)) (hp : pc + 1 = pc') (k : F T (mkF m pc' L (v :: rest))) : F T (mkF m pc L (.int j :: .ref a :: rest)) := by
  subst hp
  obtain ⟨_, _, _, X, q1, -⟩ := cx.open st
  obtain ⟨cl, A, -, S1, N1, H1, G1⟩ := V
  have hin := inb_of S1 hj
  exact cx.step (fun t q => X.aaload cx.1.1 (j := j) (v := v) (by rw [q1]; exact A.1) (State.isArrayOf_alike cx.1.2.1.alike A.2.1) hty A.2.2 hin (H1.at hin hv) (g := mkF m pc L (.int j :: .ref a :: rest)) rfl rfl (cx.dec hd) t q) k
theorem E_aastore (cx : Cx l Z n0 p e R s m args below meth c bytes ml own name rt Q F S) (st : S kc ks T h) {a : Addr} {kA : ClassId} {n j : Int32} {ty : FieldType} {v : Value} {vs : List Value} {dv : Value} {i : Nat} (V : Arv Z h a kA ty n vs dv) (hty : ty.isReference = true) (hst : Sto Z h a v) (hfv : fits ty v = true) (hj : ¬ j < 0 ∧ j < n) (hi : j.toNatClampNeg = i) (hlt : i < vs.length) (g : n0 ≤ a) (hd : decode bytes pc = .ok (.aastore, 1)) (hp : pc + 1 = pc')
    (k : ∀ T' h', S kc ks T' h' → Wr h h' a i v → Arv Z h' a kA ty n (vs.set i v) dv → F T' (mkF m pc' L rest)) : F T (mkF m pc L (v :: .int j :: .ref a :: rest)) := by
  subst hp hi
  obtain ⟨_, _, _, X, q1, q2, q3, q4⟩ := cx.open st
  obtain ⟨cl, A, e1, S1, N1, H1, G1⟩ := V
  obtain ⟨T', h', X', e', W, stp⟩ := Jvm.RoadKit.stR X cx.1.1 cx.1.2.1 q1 A (j := j) (inb_of S1 hj) hty hst (g := mkF m pc L (v :: .int j :: .ref a :: rest)) rfl rfl (cx.dec hd)
  refine cx.step stp (k T' h' ?_ W (Arv.set A e1 S1 N1 H1 G1 hfv W _ rfl hlt))
  obtain ⟨-, -, -, rfl⟩ := cx
  exact ⟨_, _, _, X', e', Fr.snoc X' q2 g, q3, q4⟩
theorem E_arraycopy (cx : Cx l Z n0 p e R s m args below meth c bytes ml own name rt Q F S) (st : S kc ks T h) {a b : Addr} {kA kB : ClassId} {ty : FieldType} {z z' sp dp nn : Int32} {vs vd us : List Value} {dv dd : Value} {idx W : Nat} (A : Arv Z h a kA ty z vs dv) (B : Arv Z h b kB ty z' vd dd) (hty : refKind ty = false)
    (w1 : (Jvm.Cond.methodLink own idx Jvm.Stand.acN).before a0 Z = true) (w2 : (Jvm.Cond.native Jvm.Stand.acN).before a0 Z = true) (w3 : (Jvm.Cond.static Jvm.Stand.acN).before a0 Z = true) (w4 : (Jvm.Cond.initialized "java/lang/System").before a0 Z = true)
    (h1 : ¬ sp < 0) (h2 : ¬ dp < 0) (h3 : ¬ nn < 0) (h4 : sp.toNatClampNeg + nn.toNatClampNeg ≤ z.toNatClampNeg) (h5 : dp.toNatClampNeg + nn.toNatClampNeg ≤ z'.toNatClampNeg) (hus : us = (List.range nn.toNatClampNeg).map fun i => vs.getD (sp.toNatClampNeg + i) dv) (hl : dp.toNatClampNeg + nn.toNatClampNeg ≤ vd.length) (ge : n0 ≤ b)
    (hd : decode bytes pc = .ok (.invokestatic idx, 3)) (hL : L.size = ml) (hf : 1 ≤ R.frames) (hW : (rest.map fun v => v.category).sum ≤ W) (hlo : W + (nativeFrameWords "java/lang/System" "arraycopy" 5 + 11) ≤ R.locals) (hp : pc + 3 = pc')
    (k : ∀ T' h', S kc ks T' h' → Keep h h' [b] → Arv Z h' b kB ty z' (vd.take dp.toNatClampNeg ++ us ++ vd.drop (dp.toNatClampNeg + nn.toNatClampNeg)) dd → F T' (mkF m pc' L rest)) : F T (mkF m pc L (.int nn :: .int dp :: .ref b :: .int sp :: .ref a :: rest)) := by
  subst hp
  obtain ⟨locs, cells, slots, X, q1, q2, q3, q4⟩ := cx.open st
  obtain ⟨T', h', L', X', e', N', K', B', stp⟩ := cpA X cx.1.1 cx.1.2.1 cx.2.1.1 w1 w2 w3 w4 q1 A B (Or.inl ⟨rfl, hty⟩) h1 h2 h3 h4 h5 hus hl q2 ge (g := mkF m pc L (.int nn :: .int dp :: .ref b :: .int sp :: .ref a :: rest)) rfl (hL.trans cx.1.2.2.2.symm) rfl (cx.dec hd) hf (W := W) (by show 2 * 0 + _ ≤ _; omega) hlo
  refine cx.step stp (k T' h' ?_ K' B')
  obtain ⟨-, -, -, rfl⟩ := cx
  exact ⟨_, _, _, X', e', N', q3, q4⟩
theorem E_grid (cx : Cx l Z n0 p e R s m args below meth c bytes ml own name rt Q F S) (st : S kc ks T h) {ty : FieldType} {C ad : String} {idx : Nat} {n j : Int32} {N cap : Nat} (hC : (FieldType.array ty).toString = C) (had : "[" ++ C = ad) (w1 : (Jvm.Cond.classLink own idx ad).before a0 Z = true) (w2 : (Jvm.Cond.arrayOver (.array ty)).before a0 Z = true) (w3 : (Jvm.Cond.arrayClass ty).before a0 Z = true) (hd : decode bytes pc = .ok (.multianewarray idx 2, 4))
    (hn : ¬ n < 0) (hj : ¬ j < 0) (hN : n.toNatClampNeg = N) (hcap : j.toNatClampNeg ≤ cap) (hb : cap * 8 ≤ 536870912) (hb1 : N ≤ 1000) (hdf : fits ty (defaultValue ty) = true) (hdd : (defaultValue ty).isDefault = true) (hc : kc + (1 + N) ≤ kc') (hs : ks + (N + N * cap) ≤ ks') (hc' : kc' ≤ R.cells) (hs' : ks' ≤ R.slots) (hp : pc + 4 = pc')
    (k : ∀ T' h' cA cB, S kc' ks' T' h' → Ext h h' → Arv Z h' h.size cA (.array ty) n (((List.range N).map fun i => h.size + 1 + i).map .ref) .null → (∀ i, i < N → Arv Z h' (h.size + 1 + i) cB ty j [] (defaultValue ty)) → F T' (mkF m pc' L (.ref h.size :: rest))) : F T (mkF m pc L (.int j :: .int n :: rest)) := by
  subst hp
  obtain ⟨locs, cells, slots, X, q1, q2, q3, q4⟩ := cx.open st
  obtain ⟨T', h', cA, cB, X', e', E, A, -, -, D, stp⟩ := gridM X cx.1.1 cx.1.2.1 cx.2.1.1 hC had w1 w2 w3 q1 (g := mkF m pc L (.int j :: .int n :: rest)) rfl (cx.dec hd) rfl hn hj hN rfl (cap := cap) hcap hb hb1 hdf hdd (by omega) (by omega)
  refine cx.step stp (k T' h' cA cB ?_ E A fun i hi => Arv.new (D i _ (by simp [hi])).1 hj)
  obtain ⟨-, -, -, rfl⟩ := cx
  exact ⟨_, _, _, X', e', q2, by omega, by omega⟩
end OwnKit
theorem d1_0 : decode method_2_code 0 = .ok (.iload_n 0, 1) := by decide +kernel
theorem d1_1 : decode method_2_code 1 = .ok (.iload_n 1, 1) := by decide +kernel
theorem d1_2 : decode method_2_code 2 = .ok (.if_icmp .ge 7, 3) := by decide +kernel
theorem d1_5 : decode method_2_code 5 = .ok (.iload_n 0, 1) := by decide +kernel
theorem d1_6 : decode method_2_code 6 = .ok (.goto 6, 3) := by decide +kernel
theorem d1_9 : decode method_2_code 9 = .ok (.iload_n 0, 1) := by decide +kernel
theorem d1_10 : decode method_2_code 10 = .ok (.iconst 1, 1) := by decide +kernel
theorem d1_11 : decode method_2_code 11 = .ok (.iadd, 1) := by decide +kernel
theorem d1_12 : decode method_2_code 12 = .ok (.ireturn, 1) := by decide +kernel
theorem pn_0 : plainName "org/querne/sparql/SeedMergeOpenPinLaw" = true := by first | (simp [plainName, overriddenIn]; done) | decide +kernel
theorem ef_1 (m : MethodId) (x0 : Int32) (x1 : Int32) : entryFrame m #[(.int x0), (.int x1)] 2 = mkF m 0 #[.val (.int x0), .val (.int x1)] [] := by first | (simp [entryFrame, mkF, argsToLocals, Value.category]; done) | rfl
def rst (p0 : Int32) (p1 : Int32) : Int32 := (if p0 < p1 then p0 else (p0 + (1 : Int32)))
set_option maxRecDepth 65536 in
set_option maxHeartbeats 40000000 in
theorem rm1 (l : Launch) (Z : State) (a0 : Array Value) (hw : ∀ d ∈ tables_1, d.before a0 Z = true) (p0 : Int32) (p1 : Int32) (h0 : Heap) (n0 : Nat) (Z0 : n0 ≤ h0.size) :
    Con l Z (⟨"org/querne/sparql/SeedMergeOpenPinLaw", "rest", "(II)I"⟩ : MethodName) method_2_code 2 (some .int) ({ frames := 0, cells := 0, slots := 0, locals := 0 } : Room) #[(.int p0), (.int p1)] h0 n0 (fun v h => v = some (.int (rst p0 p1)) ∧ h = h0) := by
  refine Con.of (own := "org/querne/sparql/SeedMergeOpenPinLaw") (name := "rest") (plainFor_of_name pn_0) (fun m => ef_1 m p0 p1) rfl rfl ?_
  intro p e s m below meth c T F S cx st
  refine E_iloadN (pc' := 1) cx st d1_0 rfl rfl ?_
  refine E_iloadN (pc' := 2) cx st d1_1 rfl rfl ?_
  by_cases c1 : p0 < p1
  · refine E_icmp_geN (pc' := 5) cx st d1_2 rfl c1 ?_
    refine E_iloadN (pc' := 6) cx st d1_5 rfl rfl ?_
    refine E_goto (pc' := 12) cx st d1_6 (by decide) (by decide) ?_
    refine E_ireturn (t := .int) cx st d1_12 rfl (by simp) rfl (by decide) (by decide) ?_
    exact ⟨by unfold rst; rw [if_pos c1], rfl⟩
  · refine E_icmp_geY (pc' := 9) cx st d1_2 (by decide) (by decide) c1 ?_
    refine E_iloadN (pc' := 10) cx st d1_9 rfl rfl ?_
    refine E_iconst (pc' := 11) cx st (1 : Int32) d1_10 rfl rfl ?_
    refine E_iadd (pc' := 12) cx st d1_11 rfl ?_
    refine E_ireturn (t := .int) cx st d1_12 rfl (by simp) rfl (by decide) (by decide) ?_
    exact ⟨by unfold rst; rw [if_neg c1], rfl⟩
theorem d2_0 : decode method_3_code 0 = .ok (.iload_n 0, 1) := by decide +kernel
theorem d2_1 : decode method_3_code 1 = .ok (.iload_n 1, 1) := by decide +kernel
theorem d2_2 : decode method_3_code 2 = .ok (.iushr, 1) := by decide +kernel
theorem d2_3 : decode method_3_code 3 = .ok (.iconst 1, 1) := by decide +kernel
theorem d2_4 : decode method_3_code 4 = .ok (.iand, 1) := by decide +kernel
theorem d2_5 : decode method_3_code 5 = .ok (.ifCond .eq 7, 3) := by decide +kernel
theorem d2_8 : decode method_3_code 8 = .ok (.iconst (-1), 1) := by decide +kernel
theorem d2_9 : decode method_3_code 9 = .ok (.goto 4, 3) := by decide +kernel
theorem d2_12 : decode method_3_code 12 = .ok (.iload_n 2, 1) := by decide +kernel
theorem d2_13 : decode method_3_code 13 = .ok (.ireturn, 1) := by decide +kernel
theorem ef_2 (m : MethodId) (x0 : Int32) (x1 : Int32) (x2 : Int32) : entryFrame m #[(.int x0), (.int x1), (.int x2)] 3 = mkF m 0 #[.val (.int x0), .val (.int x1), .val (.int x2)] [] := by first | (simp [entryFrame, mkF, argsToLocals, Value.category]; done) | rfl
def drw (p0 : Int32) (p1 : Int32) (p2 : Int32) : Int32 := (if (((p0.toUInt32 >>> (p1 &&& 31).toUInt32).toInt32) &&& (1 : Int32)) = (0 : Int32) then p2 else (-1 : Int32))
set_option maxRecDepth 65536 in
set_option maxHeartbeats 40000000 in
theorem rm2 (l : Launch) (Z : State) (a0 : Array Value) (hw : ∀ d ∈ tables_1, d.before a0 Z = true) (p0 : Int32) (p1 : Int32) (p2 : Int32) (h0 : Heap) (n0 : Nat) (Z0 : n0 ≤ h0.size) :
    Con l Z (⟨"org/querne/sparql/SeedMergeOpenPinLaw", "drawn", "(III)I"⟩ : MethodName) method_3_code 3 (some .int) ({ frames := 0, cells := 0, slots := 0, locals := 0 } : Room) #[(.int p0), (.int p1), (.int p2)] h0 n0 (fun v h => v = some (.int (drw p0 p1 p2)) ∧ h = h0) := by
  refine Con.of (own := "org/querne/sparql/SeedMergeOpenPinLaw") (name := "drawn") (plainFor_of_name pn_0) (fun m => ef_2 m p0 p1 p2) rfl rfl ?_
  intro p e s m below meth c T F S cx st
  refine E_iloadN (pc' := 1) cx st d2_0 rfl rfl ?_
  refine E_iloadN (pc' := 2) cx st d2_1 rfl rfl ?_
  refine E_iushr (pc' := 3) cx st d2_2 rfl ?_
  refine E_iconst (pc' := 4) cx st (1 : Int32) d2_3 rfl rfl ?_
  refine E_iand (pc' := 5) cx st d2_4 rfl ?_
  by_cases c1 : (((p0.toUInt32 >>> (p1 &&& 31).toUInt32).toInt32) &&& (1 : Int32)) = (0 : Int32)
  · refine E_if_eqY (pc' := 12) cx st d2_5 (by decide) (by decide) c1 ?_
    refine E_iloadN (pc' := 13) cx st d2_12 rfl rfl ?_
    refine E_ireturn (t := .int) cx st d2_13 rfl (by simp) rfl (by decide) (by decide) ?_
    exact ⟨by unfold drw; rw [if_pos c1], rfl⟩
  · refine E_if_eqN (pc' := 8) cx st d2_5 rfl c1 ?_
    refine E_iconst (pc' := 9) cx st (-1 : Int32) d2_8 rfl rfl ?_
    refine E_goto (pc' := 13) cx st d2_9 (by decide) (by decide) ?_
    refine E_ireturn (t := .int) cx st d2_13 rfl (by simp) rfl (by decide) (by decide) ?_
    exact ⟨by unfold drw; rw [if_neg c1], rfl⟩
theorem d3_0 : decode prog_348_method_1_code 0 = .ok (.aload_n 0, 1) := by decide +kernel
theorem d3_1 : decode prog_348_method_1_code 1 = .ok (.invokespecial 1, 3) := by decide +kernel
theorem d3_4 : decode prog_348_method_1_code 4 = .ok (.aload_n 0, 1) := by decide +kernel
theorem d3_5 : decode prog_348_method_1_code 5 = .ok (.aload_n 1, 1) := by decide +kernel
theorem d3_6 : decode prog_348_method_1_code 6 = .ok (.putfield 7, 3) := by decide +kernel
theorem d3_9 : decode prog_348_method_1_code 9 = .ok (.aload_n 0, 1) := by decide +kernel
theorem d3_10 : decode prog_348_method_1_code 10 = .ok (.aload_n 1, 1) := by decide +kernel
theorem d3_11 : decode prog_348_method_1_code 11 = .ok (.arraylength, 1) := by decide +kernel
theorem d3_12 : decode prog_348_method_1_code 12 = .ok (.newarray .int, 2) := by decide +kernel
theorem d3_14 : decode prog_348_method_1_code 14 = .ok (.putfield 13, 3) := by decide +kernel
theorem d3_17 : decode prog_348_method_1_code 17 = .ok (.aload_n 0, 1) := by decide +kernel
theorem d3_18 : decode prog_348_method_1_code 18 = .ok (.aload_n 1, 1) := by decide +kernel
theorem d3_19 : decode prog_348_method_1_code 19 = .ok (.arraylength, 1) := by decide +kernel
theorem d3_20 : decode prog_348_method_1_code 20 = .ok (.newarray .int, 2) := by decide +kernel
theorem d3_22 : decode prog_348_method_1_code 22 = .ok (.putfield 16, 3) := by decide +kernel
theorem d3_25 : decode prog_348_method_1_code 25 = .ok (.return_, 1) := by decide +kernel
theorem pn_1 : plainName "org/querne/sparql/SeedMerge" = true := by first | (simp [plainName, overriddenIn]; done) | decide +kernel
theorem ef_3 (m : MethodId) (x0 : Addr) (x1 : Addr) : entryFrame m #[(.ref x0), (.ref x1)] 2 = mkF m 0 #[.val (.ref x0), .val (.ref x1)] [] := by first | (simp [entryFrame, mkF, argsToLocals, Value.category]; done) | rfl
set_option maxRecDepth 65536 in
set_option maxHeartbeats 40000000 in
theorem rm3 (l : Launch) (Z : State) (a0 : Array Value) (hw : ∀ d ∈ tables_1, d.before a0 Z = true) (o1 : Addr) (a1 : Addr) (x0 : Int32) (x1 : Int32) (x2 : Int32) (h0 : Heap) (n0 : Nat) (Z0 : n0 ≤ h0.size) (kA : ClassId) (g_o1 : n0 ≤ o1) (hne : o1 ≠ a1) (X0 : Exa Z h0 o1 "org/querne/sparql/SeedMerge") (F1 : Fld Z h0 o1 "org/querne/sparql/SeedMerge" "slots" "[I" .null) (F2 : Fld Z h0 o1 "org/querne/sparql/SeedMerge" "seedColumns" "[I" .null) (F3 : Fld Z h0 o1 "org/querne/sparql/SeedMerge" "merged" "[I" .null) (F4 : Fld Z h0 o1 "org/querne/sparql/SeedMerge" "seed" "[I" .null) (F5 : Fld Z h0 o1 "org/querne/sparql/SeedMerge" "seedColumnCount" "I" (.int (0 : Int32))) (F6 : Fld Z h0 o1 "org/querne/sparql/SeedMerge" "mergedCount" "I" (.int (0 : Int32))) (V0 : Arv Z h0 a1 kA .int (3 : Int32) [(.int x0), (.int x1), (.int x2)] (.int (0 : Int32))) :
    Con l Z (⟨"org/querne/sparql/SeedMerge", "<init>", "([I)V"⟩ : MethodName) prog_348_method_1_code 2 none ({ frames := 1, cells := 2, slots := 6, locals := 12 } : Room) #[(.ref o1), (.ref a1)] h0 n0 (fun v h => v = none ∧ Keep h0 h [o1] ∧ ∃ (bc bm : Addr) (k1 k2 : ClassId), Fld Z h o1 "org/querne/sparql/SeedMerge" "slots" "[I" (.ref a1) ∧ Fld Z h o1 "org/querne/sparql/SeedMerge" "seedColumns" "[I" (.ref bc) ∧ Fld Z h o1 "org/querne/sparql/SeedMerge" "merged" "[I" (.ref bm) ∧ Fld Z h o1 "org/querne/sparql/SeedMerge" "seed" "[I" .null ∧ Fld Z h o1 "org/querne/sparql/SeedMerge" "seedColumnCount" "I" (.int (0 : Int32)) ∧ Fld Z h o1 "org/querne/sparql/SeedMerge" "mergedCount" "I" (.int (0 : Int32)) ∧ Arv Z h bc k1 .int (3 : Int32) [(.int (0 : Int32)), (.int (0 : Int32)), (.int (0 : Int32))] (.int (0 : Int32)) ∧ Arv Z h bm k2 .int (3 : Int32) [(.int (0 : Int32)), (.int (0 : Int32)), (.int (0 : Int32))] (.int (0 : Int32)) ∧ h0.size ≤ bc ∧ h0.size ≤ bm ∧ bc ≠ bm) := by
  refine Con.of (own := "org/querne/sparql/SeedMerge") (name := "<init>") (plainFor_of_name pn_1) (fun m => ef_3 m o1 a1) rfl rfl ?_
  intro p e s m below meth c T F S cx st
  refine E_aloadN (pc' := 1) cx st d3_0 rfl rfl rfl ?_
  refine E_initO (pc' := 4) (W := 0) cx st (hw _ (List.mem_of_getElem? (i := 16) rfl)) (hw _ (List.mem_of_getElem? (i := 17) rfl)) (hw _ (List.mem_of_getElem? (i := 18) rfl)) d3_1 rfl (by decide) (Nat.le_of_eq rfl) (by decide) rfl ?_
  intro T1 st1
  refine E_aloadN (pc' := 5) cx st1 d3_4 rfl rfl rfl ?_
  refine E_aloadN (pc' := 6) cx st1 d3_5 rfl rfl rfl ?_
  refine E_putfield (pc' := 9) (ty := (.array .int)) cx st1 (hw _ (List.mem_of_getElem? (i := 19) rfl)) F1 X0 (Or.inr ⟨(hw _ (List.mem_of_getElem? (i := 20) rfl)), rfl, rfl⟩) (hw _ (List.mem_of_getElem? (i := 11) rfl)) (by decide) rfl rfl g_o1 d3_6 rfl ?_
  intro T2 h2 st2 W2
  have Z2 : n0 ≤ h2.size := Nat.le_trans Z0 (Keep.of_wr W2).1
  have K2 : Keep h0 h2 [o1] := (Keep.refl h0 [o1]).wr W2 (Or.inl (List.mem_of_getElem? (i := 0) rfl))
  have G2w : Fld Z h2 o1 "org/querne/sparql/SeedMerge" "slots" "[I" (.ref a1) := F1.same W2
  refine E_aloadN (pc' := 10) cx st2 d3_9 rfl rfl rfl ?_
  refine E_aloadN (pc' := 11) cx st2 d3_10 rfl rfl rfl ?_
  have V3 : Arv Z h2 a1 kA .int (3 : Int32) [(.int x0), (.int x1), (.int x2)] (.int (0 : Int32)) := (V0.other W2 (Ne.symm hne))
  refine E_arraylength (pc' := 12) cx st2 V3 d3_11 rfl ?_
  have X4 : Exa Z h2 o1 "org/querne/sparql/SeedMerge" := (X0.wr W2)
  refine E_newP (pc' := 14) (kc' := 1) (ks' := 3) (cap := 3) cx st2 (hw _ (List.mem_of_getElem? (i := 0) rfl)) d3_12 (by decide) (by decide) (by decide) (by decide) (by decide) (by decide) (by decide) rfl (ad := "[I") (by decide) ?_
  intro T5 h5 ca5 ar5 eq5 st5 E5 V5 X5
  have g_ar5 : n0 ≤ ar5 := by rw [eq5]; exact Z2
  have ne_o1_ar5 : o1 ≠ ar5 := by rw [eq5]; exact Nat.ne_of_lt X4.lt
  have ne_a1_ar5 : a1 ≠ ar5 := by rw [eq5]; exact Nat.ne_of_lt V3.lt
  have sz_ar5 : h0.size ≤ ar5 := by rw [eq5]; exact K2.1
  have Z5 : n0 ≤ h5.size := Nat.le_trans Z2 E5.1
  have K5 : Keep h0 h5 [o1] := K2.ext E5
  have V5p : Arv Z h5 ar5 ca5 .int (3 : Int32) [(.int (0 : Int32)), (.int (0 : Int32)), (.int (0 : Int32))] (.int (0 : Int32)) := V5.pad (pad_rep [] (.int (0 : Int32)) 3)
  have G6 : Fld Z h5 o1 "org/querne/sparql/SeedMerge" "seedColumns" "[I" .null := ((F2.other W2 (Or.inr (slot_ne (Or.inr (hw _ (List.mem_of_getElem? (i := 22) rfl))) (Or.inr (hw _ (List.mem_of_getElem? (i := 20) rfl))) (by decide) (t := (.array .int)) (t' := (.array .int)) (by decide) (by decide)))).ext E5)
  have X7 : Exa Z h5 o1 "org/querne/sparql/SeedMerge" := (X4.ext E5)
  refine E_putfield (pc' := 17) (ty := (.array .int)) cx st5 (hw _ (List.mem_of_getElem? (i := 21) rfl)) G6 X7 (Or.inr ⟨(hw _ (List.mem_of_getElem? (i := 22) rfl)), rfl, rfl⟩) (hw _ (List.mem_of_getElem? (i := 11) rfl)) (by decide) rfl rfl g_o1 d3_14 rfl ?_
  intro T8 h8 st8 W8
  have Z8 : n0 ≤ h8.size := Nat.le_trans Z5 (Keep.of_wr W8).1
  have K8 : Keep h0 h8 [o1] := K5.wr W8 (Or.inl (List.mem_of_getElem? (i := 0) rfl))
  have G8w : Fld Z h8 o1 "org/querne/sparql/SeedMerge" "seedColumns" "[I" (.ref ar5) := G6.same W8
  refine E_aloadN (pc' := 18) cx st8 d3_17 rfl rfl rfl ?_
  refine E_aloadN (pc' := 19) cx st8 d3_18 rfl rfl rfl ?_
  have V9 : Arv Z h8 a1 kA .int (3 : Int32) [(.int x0), (.int x1), (.int x2)] (.int (0 : Int32)) := ((V3.ext E5).other W8 (Ne.symm hne))
  refine E_arraylength (pc' := 20) cx st8 V9 d3_19 rfl ?_
  have X10 : Exa Z h8 o1 "org/querne/sparql/SeedMerge" := (X7.wr W8)
  have V11 : Arv Z h8 ar5 ca5 .int (3 : Int32) [(.int (0 : Int32)), (.int (0 : Int32)), (.int (0 : Int32))] (.int (0 : Int32)) := (V5p.other W8 (Ne.symm ne_o1_ar5))
  refine E_newP (pc' := 22) (kc' := 2) (ks' := 6) (cap := 3) cx st8 (hw _ (List.mem_of_getElem? (i := 0) rfl)) d3_20 (by decide) (by decide) (by decide) (by decide) (by decide) (by decide) (by decide) rfl (ad := "[I") (by decide) ?_
  intro T12 h12 ca12 ar12 eq12 st12 E12 V12 X12
  have g_ar12 : n0 ≤ ar12 := by rw [eq12]; exact Z8
  have ne_o1_ar12 : o1 ≠ ar12 := by rw [eq12]; exact Nat.ne_of_lt X10.lt
  have ne_a1_ar12 : a1 ≠ ar12 := by rw [eq12]; exact Nat.ne_of_lt V9.lt
  have ne_ar5_ar12 : ar5 ≠ ar12 := by rw [eq12]; exact Nat.ne_of_lt V11.lt
  have sz_ar12 : h0.size ≤ ar12 := by rw [eq12]; exact K8.1
  have Z12 : n0 ≤ h12.size := Nat.le_trans Z8 E12.1
  have K12 : Keep h0 h12 [o1] := K8.ext E12
  have V12p : Arv Z h12 ar12 ca12 .int (3 : Int32) [(.int (0 : Int32)), (.int (0 : Int32)), (.int (0 : Int32))] (.int (0 : Int32)) := V12.pad (pad_rep [] (.int (0 : Int32)) 3)
  have G13 : Fld Z h12 o1 "org/querne/sparql/SeedMerge" "merged" "[I" .null := ((((F3.other W2 (Or.inr (slot_ne (Or.inr (hw _ (List.mem_of_getElem? (i := 24) rfl))) (Or.inr (hw _ (List.mem_of_getElem? (i := 20) rfl))) (by decide) (t := (.array .int)) (t' := (.array .int)) (by decide) (by decide)))).ext E5).other W8 (Or.inr (slot_ne (Or.inr (hw _ (List.mem_of_getElem? (i := 24) rfl))) (Or.inr (hw _ (List.mem_of_getElem? (i := 22) rfl))) (by decide) (t := (.array .int)) (t' := (.array .int)) (by decide) (by decide)))).ext E12)
  have X14 : Exa Z h12 o1 "org/querne/sparql/SeedMerge" := (X10.ext E12)
  refine E_putfield (pc' := 25) (ty := (.array .int)) cx st12 (hw _ (List.mem_of_getElem? (i := 23) rfl)) G13 X14 (Or.inr ⟨(hw _ (List.mem_of_getElem? (i := 24) rfl)), rfl, rfl⟩) (hw _ (List.mem_of_getElem? (i := 11) rfl)) (by decide) rfl rfl g_o1 d3_22 rfl ?_
  intro T15 h15 st15 W15
  have Z15 : n0 ≤ h15.size := Nat.le_trans Z12 (Keep.of_wr W15).1
  have K15 : Keep h0 h15 [o1] := K12.wr W15 (Or.inl (List.mem_of_getElem? (i := 0) rfl))
  have G15w : Fld Z h15 o1 "org/querne/sparql/SeedMerge" "merged" "[I" (.ref ar12) := G13.same W15
  have G16 : Fld Z h15 o1 "org/querne/sparql/SeedMerge" "slots" "[I" (.ref a1) := ((((G2w.ext E5).other W8 (Or.inr (slot_ne (Or.inr (hw _ (List.mem_of_getElem? (i := 20) rfl))) (Or.inr (hw _ (List.mem_of_getElem? (i := 22) rfl))) (by decide) (t := (.array .int)) (t' := (.array .int)) (by decide) (by decide)))).ext E12).other W15 (Or.inr (slot_ne (Or.inr (hw _ (List.mem_of_getElem? (i := 20) rfl))) (Or.inr (hw _ (List.mem_of_getElem? (i := 24) rfl))) (by decide) (t := (.array .int)) (t' := (.array .int)) (by decide) (by decide))))
  have G17 : Fld Z h15 o1 "org/querne/sparql/SeedMerge" "seedColumns" "[I" (.ref ar5) := ((G8w.ext E12).other W15 (Or.inr (slot_ne (Or.inr (hw _ (List.mem_of_getElem? (i := 22) rfl))) (Or.inr (hw _ (List.mem_of_getElem? (i := 24) rfl))) (by decide) (t := (.array .int)) (t' := (.array .int)) (by decide) (by decide))))
  have G18 : Fld Z h15 o1 "org/querne/sparql/SeedMerge" "seed" "[I" .null := (((((F4.other W2 (Or.inr (slot_ne (Or.inl (hw _ (List.mem_of_getElem? (i := 31) rfl))) (Or.inr (hw _ (List.mem_of_getElem? (i := 20) rfl))) (by decide) (t := (.array .int)) (t' := (.array .int)) (by decide) (by decide)))).ext E5).other W8 (Or.inr (slot_ne (Or.inl (hw _ (List.mem_of_getElem? (i := 31) rfl))) (Or.inr (hw _ (List.mem_of_getElem? (i := 22) rfl))) (by decide) (t := (.array .int)) (t' := (.array .int)) (by decide) (by decide)))).ext E12).other W15 (Or.inr (slot_ne (Or.inl (hw _ (List.mem_of_getElem? (i := 31) rfl))) (Or.inr (hw _ (List.mem_of_getElem? (i := 24) rfl))) (by decide) (t := (.array .int)) (t' := (.array .int)) (by decide) (by decide))))
  have G19 : Fld Z h15 o1 "org/querne/sparql/SeedMerge" "seedColumnCount" "I" (.int (0 : Int32)) := (((((F5.other W2 (Or.inr (slot_ne (Or.inl (hw _ (List.mem_of_getElem? (i := 35) rfl))) (Or.inr (hw _ (List.mem_of_getElem? (i := 20) rfl))) (by decide) (t := .int) (t' := (.array .int)) (by decide) (by decide)))).ext E5).other W8 (Or.inr (slot_ne (Or.inl (hw _ (List.mem_of_getElem? (i := 35) rfl))) (Or.inr (hw _ (List.mem_of_getElem? (i := 22) rfl))) (by decide) (t := .int) (t' := (.array .int)) (by decide) (by decide)))).ext E12).other W15 (Or.inr (slot_ne (Or.inl (hw _ (List.mem_of_getElem? (i := 35) rfl))) (Or.inr (hw _ (List.mem_of_getElem? (i := 24) rfl))) (by decide) (t := .int) (t' := (.array .int)) (by decide) (by decide))))
  have G20 : Fld Z h15 o1 "org/querne/sparql/SeedMerge" "mergedCount" "I" (.int (0 : Int32)) := (((((F6.other W2 (Or.inr (slot_ne (Or.inl (hw _ (List.mem_of_getElem? (i := 33) rfl))) (Or.inr (hw _ (List.mem_of_getElem? (i := 20) rfl))) (by decide) (t := .int) (t' := (.array .int)) (by decide) (by decide)))).ext E5).other W8 (Or.inr (slot_ne (Or.inl (hw _ (List.mem_of_getElem? (i := 33) rfl))) (Or.inr (hw _ (List.mem_of_getElem? (i := 22) rfl))) (by decide) (t := .int) (t' := (.array .int)) (by decide) (by decide)))).ext E12).other W15 (Or.inr (slot_ne (Or.inl (hw _ (List.mem_of_getElem? (i := 33) rfl))) (Or.inr (hw _ (List.mem_of_getElem? (i := 24) rfl))) (by decide) (t := .int) (t' := (.array .int)) (by decide) (by decide))))
  have V21 : Arv Z h15 ar5 ca5 .int (3 : Int32) [(.int (0 : Int32)), (.int (0 : Int32)), (.int (0 : Int32))] (.int (0 : Int32)) := ((V11.ext E12).other W15 (Ne.symm ne_o1_ar5))
  have V22 : Arv Z h15 ar12 ca12 .int (3 : Int32) [(.int (0 : Int32)), (.int (0 : Int32)), (.int (0 : Int32))] (.int (0 : Int32)) := (V12p.other W15 (Ne.symm ne_o1_ar12))
  refine E_return cx st15 d3_25 rfl (by decide) (by decide) ?_
  exact ⟨rfl, K15, ar5, ar12, ca5, ca12, G16, G17, G15w, G18, G19, G20, V21, V22, sz_ar5, sz_ar12, ne_ar5_ar12⟩
def oc (e0 e1 e2 : Bool) : List Int32 := (if e0 then [] else [0]) ++ (if e1 then [] else [1]) ++ (if e2 then [] else [2])
theorem d5_0 : decode prog_348_method_2_code 0 = .ok (.aload_n 0, 1) := by decide +kernel
theorem d5_1 : decode prog_348_method_2_code 1 = .ok (.aload_n 1, 1) := by decide +kernel
theorem d5_2 : decode prog_348_method_2_code 2 = .ok (.putfield 19, 3) := by decide +kernel
theorem d5_5 : decode prog_348_method_2_code 5 = .ok (.aload_n 0, 1) := by decide +kernel
theorem d5_6 : decode prog_348_method_2_code 6 = .ok (.iconst 0, 1) := by decide +kernel
theorem d5_7 : decode prog_348_method_2_code 7 = .ok (.putfield 22, 3) := by decide +kernel
theorem d5_10 : decode prog_348_method_2_code 10 = .ok (.aload_n 0, 1) := by decide +kernel
theorem d5_11 : decode prog_348_method_2_code 11 = .ok (.iconst 0, 1) := by decide +kernel
theorem d5_12 : decode prog_348_method_2_code 12 = .ok (.putfield 26, 3) := by decide +kernel
theorem d5_15 : decode prog_348_method_2_code 15 = .ok (.iconst 0, 1) := by decide +kernel
theorem d5_16 : decode prog_348_method_2_code 16 = .ok (.istore_n 2, 1) := by decide +kernel
theorem d5_17 : decode prog_348_method_2_code 17 = .ok (.iload_n 2, 1) := by decide +kernel
theorem d5_18 : decode prog_348_method_2_code 18 = .ok (.aload_n 0, 1) := by decide +kernel
theorem d5_19 : decode prog_348_method_2_code 19 = .ok (.getfield 7, 3) := by decide +kernel
theorem d5_22 : decode prog_348_method_2_code 22 = .ok (.arraylength, 1) := by decide +kernel
theorem d5_23 : decode prog_348_method_2_code 23 = .ok (.if_icmp .ge 38, 3) := by decide +kernel
theorem d5_26 : decode prog_348_method_2_code 26 = .ok (.aload_n 1, 1) := by decide +kernel
theorem d5_27 : decode prog_348_method_2_code 27 = .ok (.aload_n 0, 1) := by decide +kernel
theorem d5_28 : decode prog_348_method_2_code 28 = .ok (.getfield 7, 3) := by decide +kernel
theorem d5_31 : decode prog_348_method_2_code 31 = .ok (.iload_n 2, 1) := by decide +kernel
theorem d5_32 : decode prog_348_method_2_code 32 = .ok (.iaload, 1) := by decide +kernel
theorem d5_33 : decode prog_348_method_2_code 33 = .ok (.iaload, 1) := by decide +kernel
theorem d5_34 : decode prog_348_method_2_code 34 = .ok (.iconst (-1), 1) := by decide +kernel
theorem d5_35 : decode prog_348_method_2_code 35 = .ok (.if_icmp .eq 20, 3) := by decide +kernel
theorem d5_38 : decode prog_348_method_2_code 38 = .ok (.aload_n 0, 1) := by decide +kernel
theorem d5_39 : decode prog_348_method_2_code 39 = .ok (.getfield 13, 3) := by decide +kernel
theorem d5_42 : decode prog_348_method_2_code 42 = .ok (.aload_n 0, 1) := by decide +kernel
theorem d5_43 : decode prog_348_method_2_code 43 = .ok (.dup, 1) := by decide +kernel
theorem d5_44 : decode prog_348_method_2_code 44 = .ok (.getfield 26, 3) := by decide +kernel
theorem d5_47 : decode prog_348_method_2_code 47 = .ok (.dup_x1, 1) := by decide +kernel
theorem d5_48 : decode prog_348_method_2_code 48 = .ok (.iconst 1, 1) := by decide +kernel
theorem d5_49 : decode prog_348_method_2_code 49 = .ok (.iadd, 1) := by decide +kernel
theorem d5_50 : decode prog_348_method_2_code 50 = .ok (.putfield 26, 3) := by decide +kernel
theorem d5_53 : decode prog_348_method_2_code 53 = .ok (.iload_n 2, 1) := by decide +kernel
theorem d5_54 : decode prog_348_method_2_code 54 = .ok (.iastore, 1) := by decide +kernel
theorem d5_55 : decode prog_348_method_2_code 55 = .ok (.iinc 2 1, 3) := by decide +kernel
theorem d5_58 : decode prog_348_method_2_code 58 = .ok (.goto (-41), 3) := by decide +kernel
theorem d5_61 : decode prog_348_method_2_code 61 = .ok (.return_, 1) := by decide +kernel
theorem ef_5 (m : MethodId) (x0 : Addr) (x1 : Addr) : entryFrame m #[(.ref x0), (.ref x1)] 3 = mkF m 0 #[.val (.ref x0), .val (.ref x1), .unset] [] := by first | (simp [entryFrame, mkF, argsToLocals, Value.category]; done) | rfl
set_option maxRecDepth 65536 in
set_option maxHeartbeats 40000000 in
theorem rm5 (l : Launch) (Z : State) (a0 : Array Value) (hw : ∀ d ∈ tables_1, d.before a0 Z = true) (o1 : Addr) (b1 : Addr) (sl : Addr) (sc : Addr) (mg : Addr) (x0 : Int32) (x1 : Int32) (x2 : Int32) (d0 : Int32) (d1 : Int32) (d2 : Int32) (d3 : Int32) (z0 : Int32) (z1 : Int32) (z2 : Int32) (mc : Int32) (cc : Int32) (h0 : Heap) (n0 : Nat) (Z0 : n0 ≤ h0.size) (us : Value) (kS kB kC : ClassId) (g_o1 : n0 ≤ o1) (g_sc : n0 ≤ sc) (n1 : o1 ≠ b1) (n2 : o1 ≠ sl) (n3 : o1 ≠ sc) (n4 : sc ≠ b1) (n5 : sc ≠ sl) (X0 : Exa Z h0 o1 "org/querne/sparql/SeedMerge") (F1 : Fld Z h0 o1 "org/querne/sparql/SeedMerge" "slots" "[I" (.ref sl)) (F2 : Fld Z h0 o1 "org/querne/sparql/SeedMerge" "seed" "[I" us) (F3 : Fld Z h0 o1 "org/querne/sparql/SeedMerge" "seedColumns" "[I" (.ref sc)) (F4 : Fld Z h0 o1 "org/querne/sparql/SeedMerge" "merged" "[I" (.ref mg)) (F5 : Fld Z h0 o1 "org/querne/sparql/SeedMerge" "mergedCount" "I" (.int mc)) (F6 : Fld Z h0 o1 "org/querne/sparql/SeedMerge" "seedColumnCount" "I" (.int cc)) (VS : Arv Z h0 sl kS .int (3 : Int32) [(.int x0), (.int x1), (.int x2)] (.int (0 : Int32))) (VB : Arv Z h0 b1 kB .int (4 : Int32) [(.int d0), (.int d1), (.int d2), (.int d3)] (.int (0 : Int32))) (VC : Arv Z h0 sc kC .int (3 : Int32) [(.int z0), (.int z1), (.int z2)] (.int (0 : Int32))) (hx0 : ¬ x0 < 0 ∧ x0 < 4) (hx1 : ¬ x1 < 0 ∧ x1 < 4) (hx2 : ¬ x2 < 0 ∧ x2 < 4) :
    Con l Z (⟨"org/querne/sparql/SeedMerge", "open", "([I)V"⟩ : MethodName) prog_348_method_2_code 3 none ({ frames := 0, cells := 0, slots := 0, locals := 0 } : Room) #[(.ref o1), (.ref b1)] h0 n0 (fun v h => v = none ∧ Keep h0 h [o1, sc] ∧ Fld Z h o1 "org/querne/sparql/SeedMerge" "slots" "[I" (.ref sl) ∧ Fld Z h o1 "org/querne/sparql/SeedMerge" "seed" "[I" (.ref b1) ∧ Fld Z h o1 "org/querne/sparql/SeedMerge" "seedColumns" "[I" (.ref sc) ∧ Fld Z h o1 "org/querne/sparql/SeedMerge" "merged" "[I" (.ref mg) ∧ Fld Z h o1 "org/querne/sparql/SeedMerge" "mergedCount" "I" (.int (0 : Int32)) ∧ ∃ n y0 y1 y2 : Int32, Fld Z h o1 "org/querne/sparql/SeedMerge" "seedColumnCount" "I" (.int n) ∧ Arv Z h sc kC .int (3 : Int32) [(.int y0), (.int y1), (.int y2)] (.int (0 : Int32)) ∧ n = Int32.ofNat (oc (decide (([d0, d1, d2, d3].getD x0.toNatClampNeg 0) = (-1 : Int32))) (decide (([d0, d1, d2, d3].getD x1.toNatClampNeg 0) = (-1 : Int32))) (decide (([d0, d1, d2, d3].getD x2.toNatClampNeg 0) = (-1 : Int32)))).length ∧ [y0, y1, y2].take (oc (decide (([d0, d1, d2, d3].getD x0.toNatClampNeg 0) = (-1 : Int32))) (decide (([d0, d1, d2, d3].getD x1.toNatClampNeg 0) = (-1 : Int32))) (decide (([d0, d1, d2, d3].getD x2.toNatClampNeg 0) = (-1 : Int32)))).length = (oc (decide (([d0, d1, d2, d3].getD x0.toNatClampNeg 0) = (-1 : Int32))) (decide (([d0, d1, d2, d3].getD x1.toNatClampNeg 0) = (-1 : Int32))) (decide (([d0, d1, d2, d3].getD x2.toNatClampNeg 0) = (-1 : Int32))))) := by
  refine Con.of (own := "org/querne/sparql/SeedMerge") (name := "open") (plainFor_of_name pn_1) (fun m => ef_5 m o1 b1) rfl rfl ?_
  intro p e s m below meth c T F S cx st
  refine E_aloadN (pc' := 1) cx st d5_0 rfl rfl rfl ?_
  refine E_aloadN (pc' := 2) cx st d5_1 rfl rfl rfl ?_
  refine E_putfield (pc' := 5) (ty := (.array .int)) cx st (hw _ (List.mem_of_getElem? (i := 30) rfl)) F2 X0 (Or.inl (hw _ (List.mem_of_getElem? (i := 31) rfl))) (hw _ (List.mem_of_getElem? (i := 11) rfl)) (by decide) rfl rfl g_o1 d5_2 rfl ?_
  intro T1 h1 st1 W1
  have Z1 : n0 ≤ h1.size := Nat.le_trans Z0 (Keep.of_wr W1).1
  have K1 : Keep h0 h1 [o1, sc] := (Keep.refl h0 [o1, sc]).wr W1 (Or.inl (List.mem_of_getElem? (i := 0) rfl))
  have G1w : Fld Z h1 o1 "org/querne/sparql/SeedMerge" "seed" "[I" (.ref b1) := F2.same W1
  refine E_aloadN (pc' := 6) cx st1 d5_5 rfl rfl rfl ?_
  refine E_iconst (pc' := 7) cx st1 (0 : Int32) d5_6 rfl rfl ?_
  have G2 : Fld Z h1 o1 "org/querne/sparql/SeedMerge" "mergedCount" "I" (.int mc) := (F5.other W1 (Or.inr (slot_ne (Or.inl (hw _ (List.mem_of_getElem? (i := 33) rfl))) (Or.inl (hw _ (List.mem_of_getElem? (i := 31) rfl))) (by decide) (t := .int) (t' := (.array .int)) (by decide) (by decide))))
  have X3 : Exa Z h1 o1 "org/querne/sparql/SeedMerge" := (X0.wr W1)
  refine E_putfield (pc' := 10) (ty := .int) cx st1 (hw _ (List.mem_of_getElem? (i := 32) rfl)) G2 X3 (Or.inl (hw _ (List.mem_of_getElem? (i := 33) rfl))) (hw _ (List.mem_of_getElem? (i := 11) rfl)) (by decide) rfl rfl g_o1 d5_7 rfl ?_
  intro T4 h4 st4 W4
  have Z4 : n0 ≤ h4.size := Nat.le_trans Z1 (Keep.of_wr W4).1
  have K4 : Keep h0 h4 [o1, sc] := K1.wr W4 (Or.inl (List.mem_of_getElem? (i := 0) rfl))
  have G4w : Fld Z h4 o1 "org/querne/sparql/SeedMerge" "mergedCount" "I" (.int (0 : Int32)) := G2.same W4
  refine E_aloadN (pc' := 11) cx st4 d5_10 rfl rfl rfl ?_
  refine E_iconst (pc' := 12) cx st4 (0 : Int32) d5_11 rfl rfl ?_
  have G5 : Fld Z h4 o1 "org/querne/sparql/SeedMerge" "seedColumnCount" "I" (.int cc) := ((F6.other W1 (Or.inr (slot_ne (Or.inl (hw _ (List.mem_of_getElem? (i := 35) rfl))) (Or.inl (hw _ (List.mem_of_getElem? (i := 31) rfl))) (by decide) (t := .int) (t' := (.array .int)) (by decide) (by decide)))).other W4 (Or.inr (slot_ne (Or.inl (hw _ (List.mem_of_getElem? (i := 35) rfl))) (Or.inl (hw _ (List.mem_of_getElem? (i := 33) rfl))) (by decide) (t := .int) (t' := .int) (by decide) (by decide))))
  have X6 : Exa Z h4 o1 "org/querne/sparql/SeedMerge" := (X3.wr W4)
  refine E_putfield (pc' := 15) (ty := .int) cx st4 (hw _ (List.mem_of_getElem? (i := 34) rfl)) G5 X6 (Or.inl (hw _ (List.mem_of_getElem? (i := 35) rfl))) (hw _ (List.mem_of_getElem? (i := 11) rfl)) (by decide) rfl rfl g_o1 d5_12 rfl ?_
  intro T7 h7 st7 W7
  have Z7 : n0 ≤ h7.size := Nat.le_trans Z4 (Keep.of_wr W7).1
  have K7 : Keep h0 h7 [o1, sc] := K4.wr W7 (Or.inl (List.mem_of_getElem? (i := 0) rfl))
  have G7w : Fld Z h7 o1 "org/querne/sparql/SeedMerge" "seedColumnCount" "I" (.int (0 : Int32)) := G5.same W7
  refine E_iconst (pc' := 16) cx st7 (0 : Int32) d5_15 rfl rfl ?_
  refine E_istoreN (pc' := 17) (L' := #[.val (.ref o1), .val (.ref b1), .val (.int (0 : Int32))]) cx st7 d5_16 rfl rfl ?_
  refine E_iloadN (pc' := 18) cx st7 d5_17 rfl rfl ?_
  refine E_aloadN (pc' := 19) cx st7 d5_18 rfl rfl rfl ?_
  have G8 : Fld Z h7 o1 "org/querne/sparql/SeedMerge" "slots" "[I" (.ref sl) := (((F1.other W1 (Or.inr (slot_ne (Or.inr (hw _ (List.mem_of_getElem? (i := 20) rfl))) (Or.inl (hw _ (List.mem_of_getElem? (i := 31) rfl))) (by decide) (t := (.array .int)) (t' := (.array .int)) (by decide) (by decide)))).other W4 (Or.inr (slot_ne (Or.inr (hw _ (List.mem_of_getElem? (i := 20) rfl))) (Or.inl (hw _ (List.mem_of_getElem? (i := 33) rfl))) (by decide) (t := (.array .int)) (t' := .int) (by decide) (by decide)))).other W7 (Or.inr (slot_ne (Or.inr (hw _ (List.mem_of_getElem? (i := 20) rfl))) (Or.inl (hw _ (List.mem_of_getElem? (i := 35) rfl))) (by decide) (t := (.array .int)) (t' := .int) (by decide) (by decide))))
  refine E_getfield (pc' := 22) cx st7 (hw _ (List.mem_of_getElem? (i := 19) rfl)) G8 d5_19 rfl ?_
  intro T9 st9
  have V10 : Arv Z h7 sl kS .int (3 : Int32) [(.int x0), (.int x1), (.int x2)] (.int (0 : Int32)) := (((VS.other W1 (Ne.symm n2)).other W4 (Ne.symm n2)).other W7 (Ne.symm n2))
  refine E_arraylength (pc' := 23) cx st9 V10 d5_22 rfl ?_
  refine E_icmp_geN (pc' := 26) cx st9 d5_23 rfl (by decide) ?_
  refine E_aloadN (pc' := 27) cx st9 d5_26 rfl rfl rfl ?_
  refine E_aloadN (pc' := 28) cx st9 d5_27 rfl rfl rfl ?_
  refine E_getfield (pc' := 31) cx st9 (hw _ (List.mem_of_getElem? (i := 19) rfl)) G8 d5_28 rfl ?_
  intro T11 st11
  refine E_iloadN (pc' := 32) cx st11 d5_31 rfl rfl ?_
  refine E_iaload (pc' := 33) (x := x0) cx st11 V10 ⟨by decide, by decide⟩ rfl d5_32 rfl ?_
  have V12 : Arv Z h7 b1 kB .int (4 : Int32) [(.int d0), (.int d1), (.int d2), (.int d3)] (.int (0 : Int32)) := (((VB.other W1 (Ne.symm n1)).other W4 (Ne.symm n1)).other W7 (Ne.symm n1))
  refine E_iaload (pc' := 34) (x := ([d0, d1, d2, d3].getD x0.toNatClampNeg 0)) cx st11 V12 hx0 (getD_int [d0, d1, d2, d3] _ 0) d5_33 rfl ?_
  refine E_iconst (pc' := 35) cx st11 (-1 : Int32) d5_34 rfl rfl ?_
  by_cases c13 : ([d0, d1, d2, d3].getD x0.toNatClampNeg 0) = (-1 : Int32)
  · refine E_icmp_eqY (pc' := 55) cx st11 d5_35 (by decide) (by decide) c13 ?_
    refine E_iinc (pc' := 58) (L' := #[.val (.ref o1), .val (.ref b1), .val (.int (1 : Int32))]) cx st11 (1 : Int32) d5_55 rfl rfl rfl rfl ?_
    refine E_goto (pc' := 17) cx st11 d5_58 (by decide) (by decide) ?_
    refine E_iloadN (pc' := 18) cx st11 d5_17 rfl rfl ?_
    refine E_aloadN (pc' := 19) cx st11 d5_18 rfl rfl rfl ?_
    refine E_getfield (pc' := 22) cx st11 (hw _ (List.mem_of_getElem? (i := 19) rfl)) G8 d5_19 rfl ?_
    intro T14 st14
    refine E_arraylength (pc' := 23) cx st14 V10 d5_22 rfl ?_
    refine E_icmp_geN (pc' := 26) cx st14 d5_23 rfl (by decide) ?_
    refine E_aloadN (pc' := 27) cx st14 d5_26 rfl rfl rfl ?_
    refine E_aloadN (pc' := 28) cx st14 d5_27 rfl rfl rfl ?_
    refine E_getfield (pc' := 31) cx st14 (hw _ (List.mem_of_getElem? (i := 19) rfl)) G8 d5_28 rfl ?_
    intro T15 st15
    refine E_iloadN (pc' := 32) cx st15 d5_31 rfl rfl ?_
    refine E_iaload (pc' := 33) (x := x1) cx st15 V10 ⟨by decide, by decide⟩ rfl d5_32 rfl ?_
    refine E_iaload (pc' := 34) (x := ([d0, d1, d2, d3].getD x1.toNatClampNeg 0)) cx st15 V12 hx1 (getD_int [d0, d1, d2, d3] _ 0) d5_33 rfl ?_
    refine E_iconst (pc' := 35) cx st15 (-1 : Int32) d5_34 rfl rfl ?_
    by_cases c16 : ([d0, d1, d2, d3].getD x1.toNatClampNeg 0) = (-1 : Int32)
    · refine E_icmp_eqY (pc' := 55) cx st15 d5_35 (by decide) (by decide) c16 ?_
      refine E_iinc (pc' := 58) (L' := #[.val (.ref o1), .val (.ref b1), .val (.int (2 : Int32))]) cx st15 (1 : Int32) d5_55 rfl rfl rfl rfl ?_
      refine E_goto (pc' := 17) cx st15 d5_58 (by decide) (by decide) ?_
      refine E_iloadN (pc' := 18) cx st15 d5_17 rfl rfl ?_
      refine E_aloadN (pc' := 19) cx st15 d5_18 rfl rfl rfl ?_
      refine E_getfield (pc' := 22) cx st15 (hw _ (List.mem_of_getElem? (i := 19) rfl)) G8 d5_19 rfl ?_
      intro T17 st17
      refine E_arraylength (pc' := 23) cx st17 V10 d5_22 rfl ?_
      refine E_icmp_geN (pc' := 26) cx st17 d5_23 rfl (by decide) ?_
      refine E_aloadN (pc' := 27) cx st17 d5_26 rfl rfl rfl ?_
      refine E_aloadN (pc' := 28) cx st17 d5_27 rfl rfl rfl ?_
      refine E_getfield (pc' := 31) cx st17 (hw _ (List.mem_of_getElem? (i := 19) rfl)) G8 d5_28 rfl ?_
      intro T18 st18
      refine E_iloadN (pc' := 32) cx st18 d5_31 rfl rfl ?_
      refine E_iaload (pc' := 33) (x := x2) cx st18 V10 ⟨by decide, by decide⟩ rfl d5_32 rfl ?_
      refine E_iaload (pc' := 34) (x := ([d0, d1, d2, d3].getD x2.toNatClampNeg 0)) cx st18 V12 hx2 (getD_int [d0, d1, d2, d3] _ 0) d5_33 rfl ?_
      refine E_iconst (pc' := 35) cx st18 (-1 : Int32) d5_34 rfl rfl ?_
      by_cases c19 : ([d0, d1, d2, d3].getD x2.toNatClampNeg 0) = (-1 : Int32)
      · refine E_icmp_eqY (pc' := 55) cx st18 d5_35 (by decide) (by decide) c19 ?_
        refine E_iinc (pc' := 58) (L' := #[.val (.ref o1), .val (.ref b1), .val (.int (3 : Int32))]) cx st18 (1 : Int32) d5_55 rfl rfl rfl rfl ?_
        refine E_goto (pc' := 17) cx st18 d5_58 (by decide) (by decide) ?_
        refine E_iloadN (pc' := 18) cx st18 d5_17 rfl rfl ?_
        refine E_aloadN (pc' := 19) cx st18 d5_18 rfl rfl rfl ?_
        refine E_getfield (pc' := 22) cx st18 (hw _ (List.mem_of_getElem? (i := 19) rfl)) G8 d5_19 rfl ?_
        intro T20 st20
        refine E_arraylength (pc' := 23) cx st20 V10 d5_22 rfl ?_
        refine E_icmp_geY (pc' := 61) cx st20 d5_23 (by decide) (by decide) (by decide) ?_
        have G21 : Fld Z h7 o1 "org/querne/sparql/SeedMerge" "seed" "[I" (.ref b1) := ((G1w.other W4 (Or.inr (slot_ne (Or.inl (hw _ (List.mem_of_getElem? (i := 31) rfl))) (Or.inl (hw _ (List.mem_of_getElem? (i := 33) rfl))) (by decide) (t := (.array .int)) (t' := .int) (by decide) (by decide)))).other W7 (Or.inr (slot_ne (Or.inl (hw _ (List.mem_of_getElem? (i := 31) rfl))) (Or.inl (hw _ (List.mem_of_getElem? (i := 35) rfl))) (by decide) (t := (.array .int)) (t' := .int) (by decide) (by decide))))
        have G22 : Fld Z h7 o1 "org/querne/sparql/SeedMerge" "seedColumns" "[I" (.ref sc) := (((F3.other W1 (Or.inr (slot_ne (Or.inr (hw _ (List.mem_of_getElem? (i := 22) rfl))) (Or.inl (hw _ (List.mem_of_getElem? (i := 31) rfl))) (by decide) (t := (.array .int)) (t' := (.array .int)) (by decide) (by decide)))).other W4 (Or.inr (slot_ne (Or.inr (hw _ (List.mem_of_getElem? (i := 22) rfl))) (Or.inl (hw _ (List.mem_of_getElem? (i := 33) rfl))) (by decide) (t := (.array .int)) (t' := .int) (by decide) (by decide)))).other W7 (Or.inr (slot_ne (Or.inr (hw _ (List.mem_of_getElem? (i := 22) rfl))) (Or.inl (hw _ (List.mem_of_getElem? (i := 35) rfl))) (by decide) (t := (.array .int)) (t' := .int) (by decide) (by decide))))
        have G23 : Fld Z h7 o1 "org/querne/sparql/SeedMerge" "merged" "[I" (.ref mg) := (((F4.other W1 (Or.inr (slot_ne (Or.inr (hw _ (List.mem_of_getElem? (i := 24) rfl))) (Or.inl (hw _ (List.mem_of_getElem? (i := 31) rfl))) (by decide) (t := (.array .int)) (t' := (.array .int)) (by decide) (by decide)))).other W4 (Or.inr (slot_ne (Or.inr (hw _ (List.mem_of_getElem? (i := 24) rfl))) (Or.inl (hw _ (List.mem_of_getElem? (i := 33) rfl))) (by decide) (t := (.array .int)) (t' := .int) (by decide) (by decide)))).other W7 (Or.inr (slot_ne (Or.inr (hw _ (List.mem_of_getElem? (i := 24) rfl))) (Or.inl (hw _ (List.mem_of_getElem? (i := 35) rfl))) (by decide) (t := (.array .int)) (t' := .int) (by decide) (by decide))))
        have G24 : Fld Z h7 o1 "org/querne/sparql/SeedMerge" "mergedCount" "I" (.int (0 : Int32)) := (G4w.other W7 (Or.inr (slot_ne (Or.inl (hw _ (List.mem_of_getElem? (i := 33) rfl))) (Or.inl (hw _ (List.mem_of_getElem? (i := 35) rfl))) (by decide) (t := .int) (t' := .int) (by decide) (by decide))))
        have V25 : Arv Z h7 sc kC .int (3 : Int32) [(.int z0), (.int z1), (.int z2)] (.int (0 : Int32)) := (((VC.other W1 (Ne.symm n3)).other W4 (Ne.symm n3)).other W7 (Ne.symm n3))
        refine E_return cx st20 d5_61 rfl (by decide) (by decide) ?_
        refine ⟨rfl, K7, G8, G21, G22, G23, G24, (0 : Int32), z0, z1, z2, G7w, V25, ?_⟩
        rw [decide_eq_true c13, decide_eq_true c16, decide_eq_true c19]
        exact ⟨rfl, rfl⟩
      · refine E_icmp_eqN (pc' := 38) cx st18 d5_35 rfl c19 ?_
        refine E_aloadN (pc' := 39) cx st18 d5_38 rfl rfl rfl ?_
        have G26 : Fld Z h7 o1 "org/querne/sparql/SeedMerge" "seedColumns" "[I" (.ref sc) := (((F3.other W1 (Or.inr (slot_ne (Or.inr (hw _ (List.mem_of_getElem? (i := 22) rfl))) (Or.inl (hw _ (List.mem_of_getElem? (i := 31) rfl))) (by decide) (t := (.array .int)) (t' := (.array .int)) (by decide) (by decide)))).other W4 (Or.inr (slot_ne (Or.inr (hw _ (List.mem_of_getElem? (i := 22) rfl))) (Or.inl (hw _ (List.mem_of_getElem? (i := 33) rfl))) (by decide) (t := (.array .int)) (t' := .int) (by decide) (by decide)))).other W7 (Or.inr (slot_ne (Or.inr (hw _ (List.mem_of_getElem? (i := 22) rfl))) (Or.inl (hw _ (List.mem_of_getElem? (i := 35) rfl))) (by decide) (t := (.array .int)) (t' := .int) (by decide) (by decide))))
        refine E_getfield (pc' := 42) cx st18 (hw _ (List.mem_of_getElem? (i := 21) rfl)) G26 d5_39 rfl ?_
        intro T27 st27
        refine E_aloadN (pc' := 43) cx st27 d5_42 rfl rfl rfl ?_
        refine E_dup (pc' := 44) cx st27 d5_43 rfl rfl ?_
        refine E_getfield (pc' := 47) cx st27 (hw _ (List.mem_of_getElem? (i := 34) rfl)) G7w d5_44 rfl ?_
        intro T28 st28
        refine E_dup_x1 (pc' := 48) cx st28 d5_47 rfl rfl rfl ?_
        refine E_iconst (pc' := 49) cx st28 (1 : Int32) d5_48 rfl rfl ?_
        refine E_iadd (pc' := 50) cx st28 d5_49 rfl ?_
        rw [show ((0 : Int32) + (1 : Int32)) = (1 : Int32) from by decide]
        have X29 : Exa Z h7 o1 "org/querne/sparql/SeedMerge" := (X6.wr W7)
        refine E_putfield (pc' := 53) (ty := .int) cx st28 (hw _ (List.mem_of_getElem? (i := 34) rfl)) G7w X29 (Or.inl (hw _ (List.mem_of_getElem? (i := 35) rfl))) (hw _ (List.mem_of_getElem? (i := 11) rfl)) (by decide) rfl rfl g_o1 d5_50 rfl ?_
        intro T30 h30 st30 W30
        have Z30 : n0 ≤ h30.size := Nat.le_trans Z7 (Keep.of_wr W30).1
        have K30 : Keep h0 h30 [o1, sc] := K7.wr W30 (Or.inl (List.mem_of_getElem? (i := 0) rfl))
        have G30w : Fld Z h30 o1 "org/querne/sparql/SeedMerge" "seedColumnCount" "I" (.int (1 : Int32)) := G7w.same W30
        refine E_iloadN (pc' := 54) cx st30 d5_53 rfl rfl ?_
        have V31 : Arv Z h30 sc kC .int (3 : Int32) [(.int z0), (.int z1), (.int z2)] (.int (0 : Int32)) := ((((VC.other W1 (Ne.symm n3)).other W4 (Ne.symm n3)).other W7 (Ne.symm n3)).other W30 (Ne.symm n3))
        refine E_iastore (pc' := 55) (i := 0) cx st30 V31 ⟨by decide, by decide⟩ rfl (Nat.le_of_ble_eq_true rfl) g_sc d5_54 rfl ?_
        intro T32 h32 st32 W32 V32
        have Z32 : n0 ≤ h32.size := Nat.le_trans Z30 (Keep.of_wr W32).1
        have K32 : Keep h0 h32 [o1, sc] := K30.wr W32 (Or.inl (List.mem_of_getElem? (i := 1) rfl))
        have V32p : Arv Z h32 sc kC .int (3 : Int32) [(.int (2 : Int32)), (.int z1), (.int z2)] (.int (0 : Int32)) := V32
        refine E_iinc (pc' := 58) (L' := #[.val (.ref o1), .val (.ref b1), .val (.int (3 : Int32))]) cx st32 (1 : Int32) d5_55 rfl rfl rfl rfl ?_
        refine E_goto (pc' := 17) cx st32 d5_58 (by decide) (by decide) ?_
        refine E_iloadN (pc' := 18) cx st32 d5_17 rfl rfl ?_
        refine E_aloadN (pc' := 19) cx st32 d5_18 rfl rfl rfl ?_
        have G33 : Fld Z h32 o1 "org/querne/sparql/SeedMerge" "slots" "[I" (.ref sl) := ((G8.other W30 (Or.inr (slot_ne (Or.inr (hw _ (List.mem_of_getElem? (i := 20) rfl))) (Or.inl (hw _ (List.mem_of_getElem? (i := 35) rfl))) (by decide) (t := (.array .int)) (t' := .int) (by decide) (by decide)))).other W32 (Or.inl n3))
        refine E_getfield (pc' := 22) cx st32 (hw _ (List.mem_of_getElem? (i := 19) rfl)) G33 d5_19 rfl ?_
        intro T34 st34
        have V35 : Arv Z h32 sl kS .int (3 : Int32) [(.int x0), (.int x1), (.int x2)] (.int (0 : Int32)) := ((V10.other W30 (Ne.symm n2)).other W32 (Ne.symm n5))
        refine E_arraylength (pc' := 23) cx st34 V35 d5_22 rfl ?_
        refine E_icmp_geY (pc' := 61) cx st34 d5_23 (by decide) (by decide) (by decide) ?_
        have G36 : Fld Z h32 o1 "org/querne/sparql/SeedMerge" "seed" "[I" (.ref b1) := ((((G1w.other W4 (Or.inr (slot_ne (Or.inl (hw _ (List.mem_of_getElem? (i := 31) rfl))) (Or.inl (hw _ (List.mem_of_getElem? (i := 33) rfl))) (by decide) (t := (.array .int)) (t' := .int) (by decide) (by decide)))).other W7 (Or.inr (slot_ne (Or.inl (hw _ (List.mem_of_getElem? (i := 31) rfl))) (Or.inl (hw _ (List.mem_of_getElem? (i := 35) rfl))) (by decide) (t := (.array .int)) (t' := .int) (by decide) (by decide)))).other W30 (Or.inr (slot_ne (Or.inl (hw _ (List.mem_of_getElem? (i := 31) rfl))) (Or.inl (hw _ (List.mem_of_getElem? (i := 35) rfl))) (by decide) (t := (.array .int)) (t' := .int) (by decide) (by decide)))).other W32 (Or.inl n3))
        have G37 : Fld Z h32 o1 "org/querne/sparql/SeedMerge" "seedColumns" "[I" (.ref sc) := ((G26.other W30 (Or.inr (slot_ne (Or.inr (hw _ (List.mem_of_getElem? (i := 22) rfl))) (Or.inl (hw _ (List.mem_of_getElem? (i := 35) rfl))) (by decide) (t := (.array .int)) (t' := .int) (by decide) (by decide)))).other W32 (Or.inl n3))
        have G38 : Fld Z h32 o1 "org/querne/sparql/SeedMerge" "merged" "[I" (.ref mg) := (((((F4.other W1 (Or.inr (slot_ne (Or.inr (hw _ (List.mem_of_getElem? (i := 24) rfl))) (Or.inl (hw _ (List.mem_of_getElem? (i := 31) rfl))) (by decide) (t := (.array .int)) (t' := (.array .int)) (by decide) (by decide)))).other W4 (Or.inr (slot_ne (Or.inr (hw _ (List.mem_of_getElem? (i := 24) rfl))) (Or.inl (hw _ (List.mem_of_getElem? (i := 33) rfl))) (by decide) (t := (.array .int)) (t' := .int) (by decide) (by decide)))).other W7 (Or.inr (slot_ne (Or.inr (hw _ (List.mem_of_getElem? (i := 24) rfl))) (Or.inl (hw _ (List.mem_of_getElem? (i := 35) rfl))) (by decide) (t := (.array .int)) (t' := .int) (by decide) (by decide)))).other W30 (Or.inr (slot_ne (Or.inr (hw _ (List.mem_of_getElem? (i := 24) rfl))) (Or.inl (hw _ (List.mem_of_getElem? (i := 35) rfl))) (by decide) (t := (.array .int)) (t' := .int) (by decide) (by decide)))).other W32 (Or.inl n3))
        have G39 : Fld Z h32 o1 "org/querne/sparql/SeedMerge" "mergedCount" "I" (.int (0 : Int32)) := (((G4w.other W7 (Or.inr (slot_ne (Or.inl (hw _ (List.mem_of_getElem? (i := 33) rfl))) (Or.inl (hw _ (List.mem_of_getElem? (i := 35) rfl))) (by decide) (t := .int) (t' := .int) (by decide) (by decide)))).other W30 (Or.inr (slot_ne (Or.inl (hw _ (List.mem_of_getElem? (i := 33) rfl))) (Or.inl (hw _ (List.mem_of_getElem? (i := 35) rfl))) (by decide) (t := .int) (t' := .int) (by decide) (by decide)))).other W32 (Or.inl n3))
        have G40 : Fld Z h32 o1 "org/querne/sparql/SeedMerge" "seedColumnCount" "I" (.int (1 : Int32)) := (G30w.other W32 (Or.inl n3))
        refine E_return cx st34 d5_61 rfl (by decide) (by decide) ?_
        refine ⟨rfl, K32, G33, G36, G37, G38, G39, (1 : Int32), (2 : Int32), z1, z2, G40, V32p, ?_⟩
        rw [decide_eq_true c13, decide_eq_true c16, decide_eq_false c19]
        exact ⟨rfl, rfl⟩
    · refine E_icmp_eqN (pc' := 38) cx st15 d5_35 rfl c16 ?_
      refine E_aloadN (pc' := 39) cx st15 d5_38 rfl rfl rfl ?_
      have G41 : Fld Z h7 o1 "org/querne/sparql/SeedMerge" "seedColumns" "[I" (.ref sc) := (((F3.other W1 (Or.inr (slot_ne (Or.inr (hw _ (List.mem_of_getElem? (i := 22) rfl))) (Or.inl (hw _ (List.mem_of_getElem? (i := 31) rfl))) (by decide) (t := (.array .int)) (t' := (.array .int)) (by decide) (by decide)))).other W4 (Or.inr (slot_ne (Or.inr (hw _ (List.mem_of_getElem? (i := 22) rfl))) (Or.inl (hw _ (List.mem_of_getElem? (i := 33) rfl))) (by decide) (t := (.array .int)) (t' := .int) (by decide) (by decide)))).other W7 (Or.inr (slot_ne (Or.inr (hw _ (List.mem_of_getElem? (i := 22) rfl))) (Or.inl (hw _ (List.mem_of_getElem? (i := 35) rfl))) (by decide) (t := (.array .int)) (t' := .int) (by decide) (by decide))))
      refine E_getfield (pc' := 42) cx st15 (hw _ (List.mem_of_getElem? (i := 21) rfl)) G41 d5_39 rfl ?_
      intro T42 st42
      refine E_aloadN (pc' := 43) cx st42 d5_42 rfl rfl rfl ?_
      refine E_dup (pc' := 44) cx st42 d5_43 rfl rfl ?_
      refine E_getfield (pc' := 47) cx st42 (hw _ (List.mem_of_getElem? (i := 34) rfl)) G7w d5_44 rfl ?_
      intro T43 st43
      refine E_dup_x1 (pc' := 48) cx st43 d5_47 rfl rfl rfl ?_
      refine E_iconst (pc' := 49) cx st43 (1 : Int32) d5_48 rfl rfl ?_
      refine E_iadd (pc' := 50) cx st43 d5_49 rfl ?_
      rw [show ((0 : Int32) + (1 : Int32)) = (1 : Int32) from by decide]
      have X44 : Exa Z h7 o1 "org/querne/sparql/SeedMerge" := (X6.wr W7)
      refine E_putfield (pc' := 53) (ty := .int) cx st43 (hw _ (List.mem_of_getElem? (i := 34) rfl)) G7w X44 (Or.inl (hw _ (List.mem_of_getElem? (i := 35) rfl))) (hw _ (List.mem_of_getElem? (i := 11) rfl)) (by decide) rfl rfl g_o1 d5_50 rfl ?_
      intro T45 h45 st45 W45
      have Z45 : n0 ≤ h45.size := Nat.le_trans Z7 (Keep.of_wr W45).1
      have K45 : Keep h0 h45 [o1, sc] := K7.wr W45 (Or.inl (List.mem_of_getElem? (i := 0) rfl))
      have G45w : Fld Z h45 o1 "org/querne/sparql/SeedMerge" "seedColumnCount" "I" (.int (1 : Int32)) := G7w.same W45
      refine E_iloadN (pc' := 54) cx st45 d5_53 rfl rfl ?_
      have V46 : Arv Z h45 sc kC .int (3 : Int32) [(.int z0), (.int z1), (.int z2)] (.int (0 : Int32)) := ((((VC.other W1 (Ne.symm n3)).other W4 (Ne.symm n3)).other W7 (Ne.symm n3)).other W45 (Ne.symm n3))
      refine E_iastore (pc' := 55) (i := 0) cx st45 V46 ⟨by decide, by decide⟩ rfl (Nat.le_of_ble_eq_true rfl) g_sc d5_54 rfl ?_
      intro T47 h47 st47 W47 V47
      have Z47 : n0 ≤ h47.size := Nat.le_trans Z45 (Keep.of_wr W47).1
      have K47 : Keep h0 h47 [o1, sc] := K45.wr W47 (Or.inl (List.mem_of_getElem? (i := 1) rfl))
      have V47p : Arv Z h47 sc kC .int (3 : Int32) [(.int (1 : Int32)), (.int z1), (.int z2)] (.int (0 : Int32)) := V47
      refine E_iinc (pc' := 58) (L' := #[.val (.ref o1), .val (.ref b1), .val (.int (2 : Int32))]) cx st47 (1 : Int32) d5_55 rfl rfl rfl rfl ?_
      refine E_goto (pc' := 17) cx st47 d5_58 (by decide) (by decide) ?_
      refine E_iloadN (pc' := 18) cx st47 d5_17 rfl rfl ?_
      refine E_aloadN (pc' := 19) cx st47 d5_18 rfl rfl rfl ?_
      have G48 : Fld Z h47 o1 "org/querne/sparql/SeedMerge" "slots" "[I" (.ref sl) := ((G8.other W45 (Or.inr (slot_ne (Or.inr (hw _ (List.mem_of_getElem? (i := 20) rfl))) (Or.inl (hw _ (List.mem_of_getElem? (i := 35) rfl))) (by decide) (t := (.array .int)) (t' := .int) (by decide) (by decide)))).other W47 (Or.inl n3))
      refine E_getfield (pc' := 22) cx st47 (hw _ (List.mem_of_getElem? (i := 19) rfl)) G48 d5_19 rfl ?_
      intro T49 st49
      have V50 : Arv Z h47 sl kS .int (3 : Int32) [(.int x0), (.int x1), (.int x2)] (.int (0 : Int32)) := ((V10.other W45 (Ne.symm n2)).other W47 (Ne.symm n5))
      refine E_arraylength (pc' := 23) cx st49 V50 d5_22 rfl ?_
      refine E_icmp_geN (pc' := 26) cx st49 d5_23 rfl (by decide) ?_
      refine E_aloadN (pc' := 27) cx st49 d5_26 rfl rfl rfl ?_
      refine E_aloadN (pc' := 28) cx st49 d5_27 rfl rfl rfl ?_
      refine E_getfield (pc' := 31) cx st49 (hw _ (List.mem_of_getElem? (i := 19) rfl)) G48 d5_28 rfl ?_
      intro T51 st51
      refine E_iloadN (pc' := 32) cx st51 d5_31 rfl rfl ?_
      refine E_iaload (pc' := 33) (x := x2) cx st51 V50 ⟨by decide, by decide⟩ rfl d5_32 rfl ?_
      have V52 : Arv Z h47 b1 kB .int (4 : Int32) [(.int d0), (.int d1), (.int d2), (.int d3)] (.int (0 : Int32)) := ((V12.other W45 (Ne.symm n1)).other W47 (Ne.symm n4))
      refine E_iaload (pc' := 34) (x := ([d0, d1, d2, d3].getD x2.toNatClampNeg 0)) cx st51 V52 hx2 (getD_int [d0, d1, d2, d3] _ 0) d5_33 rfl ?_
      refine E_iconst (pc' := 35) cx st51 (-1 : Int32) d5_34 rfl rfl ?_
      by_cases c53 : ([d0, d1, d2, d3].getD x2.toNatClampNeg 0) = (-1 : Int32)
      · refine E_icmp_eqY (pc' := 55) cx st51 d5_35 (by decide) (by decide) c53 ?_
        refine E_iinc (pc' := 58) (L' := #[.val (.ref o1), .val (.ref b1), .val (.int (3 : Int32))]) cx st51 (1 : Int32) d5_55 rfl rfl rfl rfl ?_
        refine E_goto (pc' := 17) cx st51 d5_58 (by decide) (by decide) ?_
        refine E_iloadN (pc' := 18) cx st51 d5_17 rfl rfl ?_
        refine E_aloadN (pc' := 19) cx st51 d5_18 rfl rfl rfl ?_
        refine E_getfield (pc' := 22) cx st51 (hw _ (List.mem_of_getElem? (i := 19) rfl)) G48 d5_19 rfl ?_
        intro T54 st54
        refine E_arraylength (pc' := 23) cx st54 V50 d5_22 rfl ?_
        refine E_icmp_geY (pc' := 61) cx st54 d5_23 (by decide) (by decide) (by decide) ?_
        have G55 : Fld Z h47 o1 "org/querne/sparql/SeedMerge" "seed" "[I" (.ref b1) := ((((G1w.other W4 (Or.inr (slot_ne (Or.inl (hw _ (List.mem_of_getElem? (i := 31) rfl))) (Or.inl (hw _ (List.mem_of_getElem? (i := 33) rfl))) (by decide) (t := (.array .int)) (t' := .int) (by decide) (by decide)))).other W7 (Or.inr (slot_ne (Or.inl (hw _ (List.mem_of_getElem? (i := 31) rfl))) (Or.inl (hw _ (List.mem_of_getElem? (i := 35) rfl))) (by decide) (t := (.array .int)) (t' := .int) (by decide) (by decide)))).other W45 (Or.inr (slot_ne (Or.inl (hw _ (List.mem_of_getElem? (i := 31) rfl))) (Or.inl (hw _ (List.mem_of_getElem? (i := 35) rfl))) (by decide) (t := (.array .int)) (t' := .int) (by decide) (by decide)))).other W47 (Or.inl n3))
        have G56 : Fld Z h47 o1 "org/querne/sparql/SeedMerge" "seedColumns" "[I" (.ref sc) := ((G41.other W45 (Or.inr (slot_ne (Or.inr (hw _ (List.mem_of_getElem? (i := 22) rfl))) (Or.inl (hw _ (List.mem_of_getElem? (i := 35) rfl))) (by decide) (t := (.array .int)) (t' := .int) (by decide) (by decide)))).other W47 (Or.inl n3))
        have G57 : Fld Z h47 o1 "org/querne/sparql/SeedMerge" "merged" "[I" (.ref mg) := (((((F4.other W1 (Or.inr (slot_ne (Or.inr (hw _ (List.mem_of_getElem? (i := 24) rfl))) (Or.inl (hw _ (List.mem_of_getElem? (i := 31) rfl))) (by decide) (t := (.array .int)) (t' := (.array .int)) (by decide) (by decide)))).other W4 (Or.inr (slot_ne (Or.inr (hw _ (List.mem_of_getElem? (i := 24) rfl))) (Or.inl (hw _ (List.mem_of_getElem? (i := 33) rfl))) (by decide) (t := (.array .int)) (t' := .int) (by decide) (by decide)))).other W7 (Or.inr (slot_ne (Or.inr (hw _ (List.mem_of_getElem? (i := 24) rfl))) (Or.inl (hw _ (List.mem_of_getElem? (i := 35) rfl))) (by decide) (t := (.array .int)) (t' := .int) (by decide) (by decide)))).other W45 (Or.inr (slot_ne (Or.inr (hw _ (List.mem_of_getElem? (i := 24) rfl))) (Or.inl (hw _ (List.mem_of_getElem? (i := 35) rfl))) (by decide) (t := (.array .int)) (t' := .int) (by decide) (by decide)))).other W47 (Or.inl n3))
        have G58 : Fld Z h47 o1 "org/querne/sparql/SeedMerge" "mergedCount" "I" (.int (0 : Int32)) := (((G4w.other W7 (Or.inr (slot_ne (Or.inl (hw _ (List.mem_of_getElem? (i := 33) rfl))) (Or.inl (hw _ (List.mem_of_getElem? (i := 35) rfl))) (by decide) (t := .int) (t' := .int) (by decide) (by decide)))).other W45 (Or.inr (slot_ne (Or.inl (hw _ (List.mem_of_getElem? (i := 33) rfl))) (Or.inl (hw _ (List.mem_of_getElem? (i := 35) rfl))) (by decide) (t := .int) (t' := .int) (by decide) (by decide)))).other W47 (Or.inl n3))
        have G59 : Fld Z h47 o1 "org/querne/sparql/SeedMerge" "seedColumnCount" "I" (.int (1 : Int32)) := (G45w.other W47 (Or.inl n3))
        refine E_return cx st54 d5_61 rfl (by decide) (by decide) ?_
        refine ⟨rfl, K47, G48, G55, G56, G57, G58, (1 : Int32), (1 : Int32), z1, z2, G59, V47p, ?_⟩
        rw [decide_eq_true c13, decide_eq_false c16, decide_eq_true c53]
        exact ⟨rfl, rfl⟩
      · refine E_icmp_eqN (pc' := 38) cx st51 d5_35 rfl c53 ?_
        refine E_aloadN (pc' := 39) cx st51 d5_38 rfl rfl rfl ?_
        have G60 : Fld Z h47 o1 "org/querne/sparql/SeedMerge" "seedColumns" "[I" (.ref sc) := ((G41.other W45 (Or.inr (slot_ne (Or.inr (hw _ (List.mem_of_getElem? (i := 22) rfl))) (Or.inl (hw _ (List.mem_of_getElem? (i := 35) rfl))) (by decide) (t := (.array .int)) (t' := .int) (by decide) (by decide)))).other W47 (Or.inl n3))
        refine E_getfield (pc' := 42) cx st51 (hw _ (List.mem_of_getElem? (i := 21) rfl)) G60 d5_39 rfl ?_
        intro T61 st61
        refine E_aloadN (pc' := 43) cx st61 d5_42 rfl rfl rfl ?_
        refine E_dup (pc' := 44) cx st61 d5_43 rfl rfl ?_
        have G62 : Fld Z h47 o1 "org/querne/sparql/SeedMerge" "seedColumnCount" "I" (.int (1 : Int32)) := (G45w.other W47 (Or.inl n3))
        refine E_getfield (pc' := 47) cx st61 (hw _ (List.mem_of_getElem? (i := 34) rfl)) G62 d5_44 rfl ?_
        intro T63 st63
        refine E_dup_x1 (pc' := 48) cx st63 d5_47 rfl rfl rfl ?_
        refine E_iconst (pc' := 49) cx st63 (1 : Int32) d5_48 rfl rfl ?_
        refine E_iadd (pc' := 50) cx st63 d5_49 rfl ?_
        rw [show ((1 : Int32) + (1 : Int32)) = (2 : Int32) from by decide]
        have X64 : Exa Z h47 o1 "org/querne/sparql/SeedMerge" := ((X44.wr W45).wr W47)
        refine E_putfield (pc' := 53) (ty := .int) cx st63 (hw _ (List.mem_of_getElem? (i := 34) rfl)) G62 X64 (Or.inl (hw _ (List.mem_of_getElem? (i := 35) rfl))) (hw _ (List.mem_of_getElem? (i := 11) rfl)) (by decide) rfl rfl g_o1 d5_50 rfl ?_
        intro T65 h65 st65 W65
        have Z65 : n0 ≤ h65.size := Nat.le_trans Z47 (Keep.of_wr W65).1
        have K65 : Keep h0 h65 [o1, sc] := K47.wr W65 (Or.inl (List.mem_of_getElem? (i := 0) rfl))
        have G65w : Fld Z h65 o1 "org/querne/sparql/SeedMerge" "seedColumnCount" "I" (.int (2 : Int32)) := G62.same W65
        refine E_iloadN (pc' := 54) cx st65 d5_53 rfl rfl ?_
        have V66 : Arv Z h65 sc kC .int (3 : Int32) [(.int (1 : Int32)), (.int z1), (.int z2)] (.int (0 : Int32)) := (V47p.other W65 (Ne.symm n3))
        refine E_iastore (pc' := 55) (i := 1) cx st65 V66 ⟨by decide, by decide⟩ rfl (Nat.le_of_ble_eq_true rfl) g_sc d5_54 rfl ?_
        intro T67 h67 st67 W67 V67
        have Z67 : n0 ≤ h67.size := Nat.le_trans Z65 (Keep.of_wr W67).1
        have K67 : Keep h0 h67 [o1, sc] := K65.wr W67 (Or.inl (List.mem_of_getElem? (i := 1) rfl))
        have V67p : Arv Z h67 sc kC .int (3 : Int32) [(.int (1 : Int32)), (.int (2 : Int32)), (.int z2)] (.int (0 : Int32)) := V67
        refine E_iinc (pc' := 58) (L' := #[.val (.ref o1), .val (.ref b1), .val (.int (3 : Int32))]) cx st67 (1 : Int32) d5_55 rfl rfl rfl rfl ?_
        refine E_goto (pc' := 17) cx st67 d5_58 (by decide) (by decide) ?_
        refine E_iloadN (pc' := 18) cx st67 d5_17 rfl rfl ?_
        refine E_aloadN (pc' := 19) cx st67 d5_18 rfl rfl rfl ?_
        have G68 : Fld Z h67 o1 "org/querne/sparql/SeedMerge" "slots" "[I" (.ref sl) := ((G48.other W65 (Or.inr (slot_ne (Or.inr (hw _ (List.mem_of_getElem? (i := 20) rfl))) (Or.inl (hw _ (List.mem_of_getElem? (i := 35) rfl))) (by decide) (t := (.array .int)) (t' := .int) (by decide) (by decide)))).other W67 (Or.inl n3))
        refine E_getfield (pc' := 22) cx st67 (hw _ (List.mem_of_getElem? (i := 19) rfl)) G68 d5_19 rfl ?_
        intro T69 st69
        have V70 : Arv Z h67 sl kS .int (3 : Int32) [(.int x0), (.int x1), (.int x2)] (.int (0 : Int32)) := ((V50.other W65 (Ne.symm n2)).other W67 (Ne.symm n5))
        refine E_arraylength (pc' := 23) cx st69 V70 d5_22 rfl ?_
        refine E_icmp_geY (pc' := 61) cx st69 d5_23 (by decide) (by decide) (by decide) ?_
        have G71 : Fld Z h67 o1 "org/querne/sparql/SeedMerge" "seed" "[I" (.ref b1) := ((((((G1w.other W4 (Or.inr (slot_ne (Or.inl (hw _ (List.mem_of_getElem? (i := 31) rfl))) (Or.inl (hw _ (List.mem_of_getElem? (i := 33) rfl))) (by decide) (t := (.array .int)) (t' := .int) (by decide) (by decide)))).other W7 (Or.inr (slot_ne (Or.inl (hw _ (List.mem_of_getElem? (i := 31) rfl))) (Or.inl (hw _ (List.mem_of_getElem? (i := 35) rfl))) (by decide) (t := (.array .int)) (t' := .int) (by decide) (by decide)))).other W45 (Or.inr (slot_ne (Or.inl (hw _ (List.mem_of_getElem? (i := 31) rfl))) (Or.inl (hw _ (List.mem_of_getElem? (i := 35) rfl))) (by decide) (t := (.array .int)) (t' := .int) (by decide) (by decide)))).other W47 (Or.inl n3)).other W65 (Or.inr (slot_ne (Or.inl (hw _ (List.mem_of_getElem? (i := 31) rfl))) (Or.inl (hw _ (List.mem_of_getElem? (i := 35) rfl))) (by decide) (t := (.array .int)) (t' := .int) (by decide) (by decide)))).other W67 (Or.inl n3))
        have G72 : Fld Z h67 o1 "org/querne/sparql/SeedMerge" "seedColumns" "[I" (.ref sc) := ((G60.other W65 (Or.inr (slot_ne (Or.inr (hw _ (List.mem_of_getElem? (i := 22) rfl))) (Or.inl (hw _ (List.mem_of_getElem? (i := 35) rfl))) (by decide) (t := (.array .int)) (t' := .int) (by decide) (by decide)))).other W67 (Or.inl n3))
        have G73 : Fld Z h67 o1 "org/querne/sparql/SeedMerge" "merged" "[I" (.ref mg) := (((((((F4.other W1 (Or.inr (slot_ne (Or.inr (hw _ (List.mem_of_getElem? (i := 24) rfl))) (Or.inl (hw _ (List.mem_of_getElem? (i := 31) rfl))) (by decide) (t := (.array .int)) (t' := (.array .int)) (by decide) (by decide)))).other W4 (Or.inr (slot_ne (Or.inr (hw _ (List.mem_of_getElem? (i := 24) rfl))) (Or.inl (hw _ (List.mem_of_getElem? (i := 33) rfl))) (by decide) (t := (.array .int)) (t' := .int) (by decide) (by decide)))).other W7 (Or.inr (slot_ne (Or.inr (hw _ (List.mem_of_getElem? (i := 24) rfl))) (Or.inl (hw _ (List.mem_of_getElem? (i := 35) rfl))) (by decide) (t := (.array .int)) (t' := .int) (by decide) (by decide)))).other W45 (Or.inr (slot_ne (Or.inr (hw _ (List.mem_of_getElem? (i := 24) rfl))) (Or.inl (hw _ (List.mem_of_getElem? (i := 35) rfl))) (by decide) (t := (.array .int)) (t' := .int) (by decide) (by decide)))).other W47 (Or.inl n3)).other W65 (Or.inr (slot_ne (Or.inr (hw _ (List.mem_of_getElem? (i := 24) rfl))) (Or.inl (hw _ (List.mem_of_getElem? (i := 35) rfl))) (by decide) (t := (.array .int)) (t' := .int) (by decide) (by decide)))).other W67 (Or.inl n3))
        have G74 : Fld Z h67 o1 "org/querne/sparql/SeedMerge" "mergedCount" "I" (.int (0 : Int32)) := (((((G4w.other W7 (Or.inr (slot_ne (Or.inl (hw _ (List.mem_of_getElem? (i := 33) rfl))) (Or.inl (hw _ (List.mem_of_getElem? (i := 35) rfl))) (by decide) (t := .int) (t' := .int) (by decide) (by decide)))).other W45 (Or.inr (slot_ne (Or.inl (hw _ (List.mem_of_getElem? (i := 33) rfl))) (Or.inl (hw _ (List.mem_of_getElem? (i := 35) rfl))) (by decide) (t := .int) (t' := .int) (by decide) (by decide)))).other W47 (Or.inl n3)).other W65 (Or.inr (slot_ne (Or.inl (hw _ (List.mem_of_getElem? (i := 33) rfl))) (Or.inl (hw _ (List.mem_of_getElem? (i := 35) rfl))) (by decide) (t := .int) (t' := .int) (by decide) (by decide)))).other W67 (Or.inl n3))
        have G75 : Fld Z h67 o1 "org/querne/sparql/SeedMerge" "seedColumnCount" "I" (.int (2 : Int32)) := (G65w.other W67 (Or.inl n3))
        refine E_return cx st69 d5_61 rfl (by decide) (by decide) ?_
        refine ⟨rfl, K67, G68, G71, G72, G73, G74, (2 : Int32), (1 : Int32), (2 : Int32), z2, G75, V67p, ?_⟩
        rw [decide_eq_true c13, decide_eq_false c16, decide_eq_false c53]
        exact ⟨rfl, rfl⟩
  · refine E_icmp_eqN (pc' := 38) cx st11 d5_35 rfl c13 ?_
    refine E_aloadN (pc' := 39) cx st11 d5_38 rfl rfl rfl ?_
    have G76 : Fld Z h7 o1 "org/querne/sparql/SeedMerge" "seedColumns" "[I" (.ref sc) := (((F3.other W1 (Or.inr (slot_ne (Or.inr (hw _ (List.mem_of_getElem? (i := 22) rfl))) (Or.inl (hw _ (List.mem_of_getElem? (i := 31) rfl))) (by decide) (t := (.array .int)) (t' := (.array .int)) (by decide) (by decide)))).other W4 (Or.inr (slot_ne (Or.inr (hw _ (List.mem_of_getElem? (i := 22) rfl))) (Or.inl (hw _ (List.mem_of_getElem? (i := 33) rfl))) (by decide) (t := (.array .int)) (t' := .int) (by decide) (by decide)))).other W7 (Or.inr (slot_ne (Or.inr (hw _ (List.mem_of_getElem? (i := 22) rfl))) (Or.inl (hw _ (List.mem_of_getElem? (i := 35) rfl))) (by decide) (t := (.array .int)) (t' := .int) (by decide) (by decide))))
    refine E_getfield (pc' := 42) cx st11 (hw _ (List.mem_of_getElem? (i := 21) rfl)) G76 d5_39 rfl ?_
    intro T77 st77
    refine E_aloadN (pc' := 43) cx st77 d5_42 rfl rfl rfl ?_
    refine E_dup (pc' := 44) cx st77 d5_43 rfl rfl ?_
    refine E_getfield (pc' := 47) cx st77 (hw _ (List.mem_of_getElem? (i := 34) rfl)) G7w d5_44 rfl ?_
    intro T78 st78
    refine E_dup_x1 (pc' := 48) cx st78 d5_47 rfl rfl rfl ?_
    refine E_iconst (pc' := 49) cx st78 (1 : Int32) d5_48 rfl rfl ?_
    refine E_iadd (pc' := 50) cx st78 d5_49 rfl ?_
    rw [show ((0 : Int32) + (1 : Int32)) = (1 : Int32) from by decide]
    have X79 : Exa Z h7 o1 "org/querne/sparql/SeedMerge" := (X6.wr W7)
    refine E_putfield (pc' := 53) (ty := .int) cx st78 (hw _ (List.mem_of_getElem? (i := 34) rfl)) G7w X79 (Or.inl (hw _ (List.mem_of_getElem? (i := 35) rfl))) (hw _ (List.mem_of_getElem? (i := 11) rfl)) (by decide) rfl rfl g_o1 d5_50 rfl ?_
    intro T80 h80 st80 W80
    have Z80 : n0 ≤ h80.size := Nat.le_trans Z7 (Keep.of_wr W80).1
    have K80 : Keep h0 h80 [o1, sc] := K7.wr W80 (Or.inl (List.mem_of_getElem? (i := 0) rfl))
    have G80w : Fld Z h80 o1 "org/querne/sparql/SeedMerge" "seedColumnCount" "I" (.int (1 : Int32)) := G7w.same W80
    refine E_iloadN (pc' := 54) cx st80 d5_53 rfl rfl ?_
    have V81 : Arv Z h80 sc kC .int (3 : Int32) [(.int z0), (.int z1), (.int z2)] (.int (0 : Int32)) := ((((VC.other W1 (Ne.symm n3)).other W4 (Ne.symm n3)).other W7 (Ne.symm n3)).other W80 (Ne.symm n3))
    refine E_iastore (pc' := 55) (i := 0) cx st80 V81 ⟨by decide, by decide⟩ rfl (Nat.le_of_ble_eq_true rfl) g_sc d5_54 rfl ?_
    intro T82 h82 st82 W82 V82
    have Z82 : n0 ≤ h82.size := Nat.le_trans Z80 (Keep.of_wr W82).1
    have K82 : Keep h0 h82 [o1, sc] := K80.wr W82 (Or.inl (List.mem_of_getElem? (i := 1) rfl))
    have V82p : Arv Z h82 sc kC .int (3 : Int32) [(.int (0 : Int32)), (.int z1), (.int z2)] (.int (0 : Int32)) := V82
    refine E_iinc (pc' := 58) (L' := #[.val (.ref o1), .val (.ref b1), .val (.int (1 : Int32))]) cx st82 (1 : Int32) d5_55 rfl rfl rfl rfl ?_
    refine E_goto (pc' := 17) cx st82 d5_58 (by decide) (by decide) ?_
    refine E_iloadN (pc' := 18) cx st82 d5_17 rfl rfl ?_
    refine E_aloadN (pc' := 19) cx st82 d5_18 rfl rfl rfl ?_
    have G83 : Fld Z h82 o1 "org/querne/sparql/SeedMerge" "slots" "[I" (.ref sl) := ((G8.other W80 (Or.inr (slot_ne (Or.inr (hw _ (List.mem_of_getElem? (i := 20) rfl))) (Or.inl (hw _ (List.mem_of_getElem? (i := 35) rfl))) (by decide) (t := (.array .int)) (t' := .int) (by decide) (by decide)))).other W82 (Or.inl n3))
    refine E_getfield (pc' := 22) cx st82 (hw _ (List.mem_of_getElem? (i := 19) rfl)) G83 d5_19 rfl ?_
    intro T84 st84
    have V85 : Arv Z h82 sl kS .int (3 : Int32) [(.int x0), (.int x1), (.int x2)] (.int (0 : Int32)) := ((V10.other W80 (Ne.symm n2)).other W82 (Ne.symm n5))
    refine E_arraylength (pc' := 23) cx st84 V85 d5_22 rfl ?_
    refine E_icmp_geN (pc' := 26) cx st84 d5_23 rfl (by decide) ?_
    refine E_aloadN (pc' := 27) cx st84 d5_26 rfl rfl rfl ?_
    refine E_aloadN (pc' := 28) cx st84 d5_27 rfl rfl rfl ?_
    refine E_getfield (pc' := 31) cx st84 (hw _ (List.mem_of_getElem? (i := 19) rfl)) G83 d5_28 rfl ?_
    intro T86 st86
    refine E_iloadN (pc' := 32) cx st86 d5_31 rfl rfl ?_
    refine E_iaload (pc' := 33) (x := x1) cx st86 V85 ⟨by decide, by decide⟩ rfl d5_32 rfl ?_
    have V87 : Arv Z h82 b1 kB .int (4 : Int32) [(.int d0), (.int d1), (.int d2), (.int d3)] (.int (0 : Int32)) := ((V12.other W80 (Ne.symm n1)).other W82 (Ne.symm n4))
    refine E_iaload (pc' := 34) (x := ([d0, d1, d2, d3].getD x1.toNatClampNeg 0)) cx st86 V87 hx1 (getD_int [d0, d1, d2, d3] _ 0) d5_33 rfl ?_
    refine E_iconst (pc' := 35) cx st86 (-1 : Int32) d5_34 rfl rfl ?_
    by_cases c88 : ([d0, d1, d2, d3].getD x1.toNatClampNeg 0) = (-1 : Int32)
    · refine E_icmp_eqY (pc' := 55) cx st86 d5_35 (by decide) (by decide) c88 ?_
      refine E_iinc (pc' := 58) (L' := #[.val (.ref o1), .val (.ref b1), .val (.int (2 : Int32))]) cx st86 (1 : Int32) d5_55 rfl rfl rfl rfl ?_
      refine E_goto (pc' := 17) cx st86 d5_58 (by decide) (by decide) ?_
      refine E_iloadN (pc' := 18) cx st86 d5_17 rfl rfl ?_
      refine E_aloadN (pc' := 19) cx st86 d5_18 rfl rfl rfl ?_
      refine E_getfield (pc' := 22) cx st86 (hw _ (List.mem_of_getElem? (i := 19) rfl)) G83 d5_19 rfl ?_
      intro T89 st89
      refine E_arraylength (pc' := 23) cx st89 V85 d5_22 rfl ?_
      refine E_icmp_geN (pc' := 26) cx st89 d5_23 rfl (by decide) ?_
      refine E_aloadN (pc' := 27) cx st89 d5_26 rfl rfl rfl ?_
      refine E_aloadN (pc' := 28) cx st89 d5_27 rfl rfl rfl ?_
      refine E_getfield (pc' := 31) cx st89 (hw _ (List.mem_of_getElem? (i := 19) rfl)) G83 d5_28 rfl ?_
      intro T90 st90
      refine E_iloadN (pc' := 32) cx st90 d5_31 rfl rfl ?_
      refine E_iaload (pc' := 33) (x := x2) cx st90 V85 ⟨by decide, by decide⟩ rfl d5_32 rfl ?_
      refine E_iaload (pc' := 34) (x := ([d0, d1, d2, d3].getD x2.toNatClampNeg 0)) cx st90 V87 hx2 (getD_int [d0, d1, d2, d3] _ 0) d5_33 rfl ?_
      refine E_iconst (pc' := 35) cx st90 (-1 : Int32) d5_34 rfl rfl ?_
      by_cases c91 : ([d0, d1, d2, d3].getD x2.toNatClampNeg 0) = (-1 : Int32)
      · refine E_icmp_eqY (pc' := 55) cx st90 d5_35 (by decide) (by decide) c91 ?_
        refine E_iinc (pc' := 58) (L' := #[.val (.ref o1), .val (.ref b1), .val (.int (3 : Int32))]) cx st90 (1 : Int32) d5_55 rfl rfl rfl rfl ?_
        refine E_goto (pc' := 17) cx st90 d5_58 (by decide) (by decide) ?_
        refine E_iloadN (pc' := 18) cx st90 d5_17 rfl rfl ?_
        refine E_aloadN (pc' := 19) cx st90 d5_18 rfl rfl rfl ?_
        refine E_getfield (pc' := 22) cx st90 (hw _ (List.mem_of_getElem? (i := 19) rfl)) G83 d5_19 rfl ?_
        intro T92 st92
        refine E_arraylength (pc' := 23) cx st92 V85 d5_22 rfl ?_
        refine E_icmp_geY (pc' := 61) cx st92 d5_23 (by decide) (by decide) (by decide) ?_
        have G93 : Fld Z h82 o1 "org/querne/sparql/SeedMerge" "seed" "[I" (.ref b1) := ((((G1w.other W4 (Or.inr (slot_ne (Or.inl (hw _ (List.mem_of_getElem? (i := 31) rfl))) (Or.inl (hw _ (List.mem_of_getElem? (i := 33) rfl))) (by decide) (t := (.array .int)) (t' := .int) (by decide) (by decide)))).other W7 (Or.inr (slot_ne (Or.inl (hw _ (List.mem_of_getElem? (i := 31) rfl))) (Or.inl (hw _ (List.mem_of_getElem? (i := 35) rfl))) (by decide) (t := (.array .int)) (t' := .int) (by decide) (by decide)))).other W80 (Or.inr (slot_ne (Or.inl (hw _ (List.mem_of_getElem? (i := 31) rfl))) (Or.inl (hw _ (List.mem_of_getElem? (i := 35) rfl))) (by decide) (t := (.array .int)) (t' := .int) (by decide) (by decide)))).other W82 (Or.inl n3))
        have G94 : Fld Z h82 o1 "org/querne/sparql/SeedMerge" "seedColumns" "[I" (.ref sc) := ((G76.other W80 (Or.inr (slot_ne (Or.inr (hw _ (List.mem_of_getElem? (i := 22) rfl))) (Or.inl (hw _ (List.mem_of_getElem? (i := 35) rfl))) (by decide) (t := (.array .int)) (t' := .int) (by decide) (by decide)))).other W82 (Or.inl n3))
        have G95 : Fld Z h82 o1 "org/querne/sparql/SeedMerge" "merged" "[I" (.ref mg) := (((((F4.other W1 (Or.inr (slot_ne (Or.inr (hw _ (List.mem_of_getElem? (i := 24) rfl))) (Or.inl (hw _ (List.mem_of_getElem? (i := 31) rfl))) (by decide) (t := (.array .int)) (t' := (.array .int)) (by decide) (by decide)))).other W4 (Or.inr (slot_ne (Or.inr (hw _ (List.mem_of_getElem? (i := 24) rfl))) (Or.inl (hw _ (List.mem_of_getElem? (i := 33) rfl))) (by decide) (t := (.array .int)) (t' := .int) (by decide) (by decide)))).other W7 (Or.inr (slot_ne (Or.inr (hw _ (List.mem_of_getElem? (i := 24) rfl))) (Or.inl (hw _ (List.mem_of_getElem? (i := 35) rfl))) (by decide) (t := (.array .int)) (t' := .int) (by decide) (by decide)))).other W80 (Or.inr (slot_ne (Or.inr (hw _ (List.mem_of_getElem? (i := 24) rfl))) (Or.inl (hw _ (List.mem_of_getElem? (i := 35) rfl))) (by decide) (t := (.array .int)) (t' := .int) (by decide) (by decide)))).other W82 (Or.inl n3))
        have G96 : Fld Z h82 o1 "org/querne/sparql/SeedMerge" "mergedCount" "I" (.int (0 : Int32)) := (((G4w.other W7 (Or.inr (slot_ne (Or.inl (hw _ (List.mem_of_getElem? (i := 33) rfl))) (Or.inl (hw _ (List.mem_of_getElem? (i := 35) rfl))) (by decide) (t := .int) (t' := .int) (by decide) (by decide)))).other W80 (Or.inr (slot_ne (Or.inl (hw _ (List.mem_of_getElem? (i := 33) rfl))) (Or.inl (hw _ (List.mem_of_getElem? (i := 35) rfl))) (by decide) (t := .int) (t' := .int) (by decide) (by decide)))).other W82 (Or.inl n3))
        have G97 : Fld Z h82 o1 "org/querne/sparql/SeedMerge" "seedColumnCount" "I" (.int (1 : Int32)) := (G80w.other W82 (Or.inl n3))
        refine E_return cx st92 d5_61 rfl (by decide) (by decide) ?_
        refine ⟨rfl, K82, G83, G93, G94, G95, G96, (1 : Int32), (0 : Int32), z1, z2, G97, V82p, ?_⟩
        rw [decide_eq_false c13, decide_eq_true c88, decide_eq_true c91]
        exact ⟨rfl, rfl⟩
      · refine E_icmp_eqN (pc' := 38) cx st90 d5_35 rfl c91 ?_
        refine E_aloadN (pc' := 39) cx st90 d5_38 rfl rfl rfl ?_
        have G98 : Fld Z h82 o1 "org/querne/sparql/SeedMerge" "seedColumns" "[I" (.ref sc) := ((G76.other W80 (Or.inr (slot_ne (Or.inr (hw _ (List.mem_of_getElem? (i := 22) rfl))) (Or.inl (hw _ (List.mem_of_getElem? (i := 35) rfl))) (by decide) (t := (.array .int)) (t' := .int) (by decide) (by decide)))).other W82 (Or.inl n3))
        refine E_getfield (pc' := 42) cx st90 (hw _ (List.mem_of_getElem? (i := 21) rfl)) G98 d5_39 rfl ?_
        intro T99 st99
        refine E_aloadN (pc' := 43) cx st99 d5_42 rfl rfl rfl ?_
        refine E_dup (pc' := 44) cx st99 d5_43 rfl rfl ?_
        have G100 : Fld Z h82 o1 "org/querne/sparql/SeedMerge" "seedColumnCount" "I" (.int (1 : Int32)) := (G80w.other W82 (Or.inl n3))
        refine E_getfield (pc' := 47) cx st99 (hw _ (List.mem_of_getElem? (i := 34) rfl)) G100 d5_44 rfl ?_
        intro T101 st101
        refine E_dup_x1 (pc' := 48) cx st101 d5_47 rfl rfl rfl ?_
        refine E_iconst (pc' := 49) cx st101 (1 : Int32) d5_48 rfl rfl ?_
        refine E_iadd (pc' := 50) cx st101 d5_49 rfl ?_
        rw [show ((1 : Int32) + (1 : Int32)) = (2 : Int32) from by decide]
        have X102 : Exa Z h82 o1 "org/querne/sparql/SeedMerge" := ((X79.wr W80).wr W82)
        refine E_putfield (pc' := 53) (ty := .int) cx st101 (hw _ (List.mem_of_getElem? (i := 34) rfl)) G100 X102 (Or.inl (hw _ (List.mem_of_getElem? (i := 35) rfl))) (hw _ (List.mem_of_getElem? (i := 11) rfl)) (by decide) rfl rfl g_o1 d5_50 rfl ?_
        intro T103 h103 st103 W103
        have Z103 : n0 ≤ h103.size := Nat.le_trans Z82 (Keep.of_wr W103).1
        have K103 : Keep h0 h103 [o1, sc] := K82.wr W103 (Or.inl (List.mem_of_getElem? (i := 0) rfl))
        have G103w : Fld Z h103 o1 "org/querne/sparql/SeedMerge" "seedColumnCount" "I" (.int (2 : Int32)) := G100.same W103
        refine E_iloadN (pc' := 54) cx st103 d5_53 rfl rfl ?_
        have V104 : Arv Z h103 sc kC .int (3 : Int32) [(.int (0 : Int32)), (.int z1), (.int z2)] (.int (0 : Int32)) := (V82p.other W103 (Ne.symm n3))
        refine E_iastore (pc' := 55) (i := 1) cx st103 V104 ⟨by decide, by decide⟩ rfl (Nat.le_of_ble_eq_true rfl) g_sc d5_54 rfl ?_
        intro T105 h105 st105 W105 V105
        have Z105 : n0 ≤ h105.size := Nat.le_trans Z103 (Keep.of_wr W105).1
        have K105 : Keep h0 h105 [o1, sc] := K103.wr W105 (Or.inl (List.mem_of_getElem? (i := 1) rfl))
        have V105p : Arv Z h105 sc kC .int (3 : Int32) [(.int (0 : Int32)), (.int (2 : Int32)), (.int z2)] (.int (0 : Int32)) := V105
        refine E_iinc (pc' := 58) (L' := #[.val (.ref o1), .val (.ref b1), .val (.int (3 : Int32))]) cx st105 (1 : Int32) d5_55 rfl rfl rfl rfl ?_
        refine E_goto (pc' := 17) cx st105 d5_58 (by decide) (by decide) ?_
        refine E_iloadN (pc' := 18) cx st105 d5_17 rfl rfl ?_
        refine E_aloadN (pc' := 19) cx st105 d5_18 rfl rfl rfl ?_
        have G106 : Fld Z h105 o1 "org/querne/sparql/SeedMerge" "slots" "[I" (.ref sl) := ((G83.other W103 (Or.inr (slot_ne (Or.inr (hw _ (List.mem_of_getElem? (i := 20) rfl))) (Or.inl (hw _ (List.mem_of_getElem? (i := 35) rfl))) (by decide) (t := (.array .int)) (t' := .int) (by decide) (by decide)))).other W105 (Or.inl n3))
        refine E_getfield (pc' := 22) cx st105 (hw _ (List.mem_of_getElem? (i := 19) rfl)) G106 d5_19 rfl ?_
        intro T107 st107
        have V108 : Arv Z h105 sl kS .int (3 : Int32) [(.int x0), (.int x1), (.int x2)] (.int (0 : Int32)) := ((V85.other W103 (Ne.symm n2)).other W105 (Ne.symm n5))
        refine E_arraylength (pc' := 23) cx st107 V108 d5_22 rfl ?_
        refine E_icmp_geY (pc' := 61) cx st107 d5_23 (by decide) (by decide) (by decide) ?_
        have G109 : Fld Z h105 o1 "org/querne/sparql/SeedMerge" "seed" "[I" (.ref b1) := ((((((G1w.other W4 (Or.inr (slot_ne (Or.inl (hw _ (List.mem_of_getElem? (i := 31) rfl))) (Or.inl (hw _ (List.mem_of_getElem? (i := 33) rfl))) (by decide) (t := (.array .int)) (t' := .int) (by decide) (by decide)))).other W7 (Or.inr (slot_ne (Or.inl (hw _ (List.mem_of_getElem? (i := 31) rfl))) (Or.inl (hw _ (List.mem_of_getElem? (i := 35) rfl))) (by decide) (t := (.array .int)) (t' := .int) (by decide) (by decide)))).other W80 (Or.inr (slot_ne (Or.inl (hw _ (List.mem_of_getElem? (i := 31) rfl))) (Or.inl (hw _ (List.mem_of_getElem? (i := 35) rfl))) (by decide) (t := (.array .int)) (t' := .int) (by decide) (by decide)))).other W82 (Or.inl n3)).other W103 (Or.inr (slot_ne (Or.inl (hw _ (List.mem_of_getElem? (i := 31) rfl))) (Or.inl (hw _ (List.mem_of_getElem? (i := 35) rfl))) (by decide) (t := (.array .int)) (t' := .int) (by decide) (by decide)))).other W105 (Or.inl n3))
        have G110 : Fld Z h105 o1 "org/querne/sparql/SeedMerge" "seedColumns" "[I" (.ref sc) := ((G98.other W103 (Or.inr (slot_ne (Or.inr (hw _ (List.mem_of_getElem? (i := 22) rfl))) (Or.inl (hw _ (List.mem_of_getElem? (i := 35) rfl))) (by decide) (t := (.array .int)) (t' := .int) (by decide) (by decide)))).other W105 (Or.inl n3))
        have G111 : Fld Z h105 o1 "org/querne/sparql/SeedMerge" "merged" "[I" (.ref mg) := (((((((F4.other W1 (Or.inr (slot_ne (Or.inr (hw _ (List.mem_of_getElem? (i := 24) rfl))) (Or.inl (hw _ (List.mem_of_getElem? (i := 31) rfl))) (by decide) (t := (.array .int)) (t' := (.array .int)) (by decide) (by decide)))).other W4 (Or.inr (slot_ne (Or.inr (hw _ (List.mem_of_getElem? (i := 24) rfl))) (Or.inl (hw _ (List.mem_of_getElem? (i := 33) rfl))) (by decide) (t := (.array .int)) (t' := .int) (by decide) (by decide)))).other W7 (Or.inr (slot_ne (Or.inr (hw _ (List.mem_of_getElem? (i := 24) rfl))) (Or.inl (hw _ (List.mem_of_getElem? (i := 35) rfl))) (by decide) (t := (.array .int)) (t' := .int) (by decide) (by decide)))).other W80 (Or.inr (slot_ne (Or.inr (hw _ (List.mem_of_getElem? (i := 24) rfl))) (Or.inl (hw _ (List.mem_of_getElem? (i := 35) rfl))) (by decide) (t := (.array .int)) (t' := .int) (by decide) (by decide)))).other W82 (Or.inl n3)).other W103 (Or.inr (slot_ne (Or.inr (hw _ (List.mem_of_getElem? (i := 24) rfl))) (Or.inl (hw _ (List.mem_of_getElem? (i := 35) rfl))) (by decide) (t := (.array .int)) (t' := .int) (by decide) (by decide)))).other W105 (Or.inl n3))
        have G112 : Fld Z h105 o1 "org/querne/sparql/SeedMerge" "mergedCount" "I" (.int (0 : Int32)) := (((((G4w.other W7 (Or.inr (slot_ne (Or.inl (hw _ (List.mem_of_getElem? (i := 33) rfl))) (Or.inl (hw _ (List.mem_of_getElem? (i := 35) rfl))) (by decide) (t := .int) (t' := .int) (by decide) (by decide)))).other W80 (Or.inr (slot_ne (Or.inl (hw _ (List.mem_of_getElem? (i := 33) rfl))) (Or.inl (hw _ (List.mem_of_getElem? (i := 35) rfl))) (by decide) (t := .int) (t' := .int) (by decide) (by decide)))).other W82 (Or.inl n3)).other W103 (Or.inr (slot_ne (Or.inl (hw _ (List.mem_of_getElem? (i := 33) rfl))) (Or.inl (hw _ (List.mem_of_getElem? (i := 35) rfl))) (by decide) (t := .int) (t' := .int) (by decide) (by decide)))).other W105 (Or.inl n3))
        have G113 : Fld Z h105 o1 "org/querne/sparql/SeedMerge" "seedColumnCount" "I" (.int (2 : Int32)) := (G103w.other W105 (Or.inl n3))
        refine E_return cx st107 d5_61 rfl (by decide) (by decide) ?_
        refine ⟨rfl, K105, G106, G109, G110, G111, G112, (2 : Int32), (0 : Int32), (2 : Int32), z2, G113, V105p, ?_⟩
        rw [decide_eq_false c13, decide_eq_true c88, decide_eq_false c91]
        exact ⟨rfl, rfl⟩
    · refine E_icmp_eqN (pc' := 38) cx st86 d5_35 rfl c88 ?_
      refine E_aloadN (pc' := 39) cx st86 d5_38 rfl rfl rfl ?_
      have G114 : Fld Z h82 o1 "org/querne/sparql/SeedMerge" "seedColumns" "[I" (.ref sc) := ((G76.other W80 (Or.inr (slot_ne (Or.inr (hw _ (List.mem_of_getElem? (i := 22) rfl))) (Or.inl (hw _ (List.mem_of_getElem? (i := 35) rfl))) (by decide) (t := (.array .int)) (t' := .int) (by decide) (by decide)))).other W82 (Or.inl n3))
      refine E_getfield (pc' := 42) cx st86 (hw _ (List.mem_of_getElem? (i := 21) rfl)) G114 d5_39 rfl ?_
      intro T115 st115
      refine E_aloadN (pc' := 43) cx st115 d5_42 rfl rfl rfl ?_
      refine E_dup (pc' := 44) cx st115 d5_43 rfl rfl ?_
      have G116 : Fld Z h82 o1 "org/querne/sparql/SeedMerge" "seedColumnCount" "I" (.int (1 : Int32)) := (G80w.other W82 (Or.inl n3))
      refine E_getfield (pc' := 47) cx st115 (hw _ (List.mem_of_getElem? (i := 34) rfl)) G116 d5_44 rfl ?_
      intro T117 st117
      refine E_dup_x1 (pc' := 48) cx st117 d5_47 rfl rfl rfl ?_
      refine E_iconst (pc' := 49) cx st117 (1 : Int32) d5_48 rfl rfl ?_
      refine E_iadd (pc' := 50) cx st117 d5_49 rfl ?_
      rw [show ((1 : Int32) + (1 : Int32)) = (2 : Int32) from by decide]
      have X118 : Exa Z h82 o1 "org/querne/sparql/SeedMerge" := ((X79.wr W80).wr W82)
      refine E_putfield (pc' := 53) (ty := .int) cx st117 (hw _ (List.mem_of_getElem? (i := 34) rfl)) G116 X118 (Or.inl (hw _ (List.mem_of_getElem? (i := 35) rfl))) (hw _ (List.mem_of_getElem? (i := 11) rfl)) (by decide) rfl rfl g_o1 d5_50 rfl ?_
      intro T119 h119 st119 W119
      have Z119 : n0 ≤ h119.size := Nat.le_trans Z82 (Keep.of_wr W119).1
      have K119 : Keep h0 h119 [o1, sc] := K82.wr W119 (Or.inl (List.mem_of_getElem? (i := 0) rfl))
      have G119w : Fld Z h119 o1 "org/querne/sparql/SeedMerge" "seedColumnCount" "I" (.int (2 : Int32)) := G116.same W119
      refine E_iloadN (pc' := 54) cx st119 d5_53 rfl rfl ?_
      have V120 : Arv Z h119 sc kC .int (3 : Int32) [(.int (0 : Int32)), (.int z1), (.int z2)] (.int (0 : Int32)) := (V82p.other W119 (Ne.symm n3))
      refine E_iastore (pc' := 55) (i := 1) cx st119 V120 ⟨by decide, by decide⟩ rfl (Nat.le_of_ble_eq_true rfl) g_sc d5_54 rfl ?_
      intro T121 h121 st121 W121 V121
      have Z121 : n0 ≤ h121.size := Nat.le_trans Z119 (Keep.of_wr W121).1
      have K121 : Keep h0 h121 [o1, sc] := K119.wr W121 (Or.inl (List.mem_of_getElem? (i := 1) rfl))
      have V121p : Arv Z h121 sc kC .int (3 : Int32) [(.int (0 : Int32)), (.int (1 : Int32)), (.int z2)] (.int (0 : Int32)) := V121
      refine E_iinc (pc' := 58) (L' := #[.val (.ref o1), .val (.ref b1), .val (.int (2 : Int32))]) cx st121 (1 : Int32) d5_55 rfl rfl rfl rfl ?_
      refine E_goto (pc' := 17) cx st121 d5_58 (by decide) (by decide) ?_
      refine E_iloadN (pc' := 18) cx st121 d5_17 rfl rfl ?_
      refine E_aloadN (pc' := 19) cx st121 d5_18 rfl rfl rfl ?_
      have G122 : Fld Z h121 o1 "org/querne/sparql/SeedMerge" "slots" "[I" (.ref sl) := ((G83.other W119 (Or.inr (slot_ne (Or.inr (hw _ (List.mem_of_getElem? (i := 20) rfl))) (Or.inl (hw _ (List.mem_of_getElem? (i := 35) rfl))) (by decide) (t := (.array .int)) (t' := .int) (by decide) (by decide)))).other W121 (Or.inl n3))
      refine E_getfield (pc' := 22) cx st121 (hw _ (List.mem_of_getElem? (i := 19) rfl)) G122 d5_19 rfl ?_
      intro T123 st123
      have V124 : Arv Z h121 sl kS .int (3 : Int32) [(.int x0), (.int x1), (.int x2)] (.int (0 : Int32)) := ((V85.other W119 (Ne.symm n2)).other W121 (Ne.symm n5))
      refine E_arraylength (pc' := 23) cx st123 V124 d5_22 rfl ?_
      refine E_icmp_geN (pc' := 26) cx st123 d5_23 rfl (by decide) ?_
      refine E_aloadN (pc' := 27) cx st123 d5_26 rfl rfl rfl ?_
      refine E_aloadN (pc' := 28) cx st123 d5_27 rfl rfl rfl ?_
      refine E_getfield (pc' := 31) cx st123 (hw _ (List.mem_of_getElem? (i := 19) rfl)) G122 d5_28 rfl ?_
      intro T125 st125
      refine E_iloadN (pc' := 32) cx st125 d5_31 rfl rfl ?_
      refine E_iaload (pc' := 33) (x := x2) cx st125 V124 ⟨by decide, by decide⟩ rfl d5_32 rfl ?_
      have V126 : Arv Z h121 b1 kB .int (4 : Int32) [(.int d0), (.int d1), (.int d2), (.int d3)] (.int (0 : Int32)) := ((V87.other W119 (Ne.symm n1)).other W121 (Ne.symm n4))
      refine E_iaload (pc' := 34) (x := ([d0, d1, d2, d3].getD x2.toNatClampNeg 0)) cx st125 V126 hx2 (getD_int [d0, d1, d2, d3] _ 0) d5_33 rfl ?_
      refine E_iconst (pc' := 35) cx st125 (-1 : Int32) d5_34 rfl rfl ?_
      by_cases c127 : ([d0, d1, d2, d3].getD x2.toNatClampNeg 0) = (-1 : Int32)
      · refine E_icmp_eqY (pc' := 55) cx st125 d5_35 (by decide) (by decide) c127 ?_
        refine E_iinc (pc' := 58) (L' := #[.val (.ref o1), .val (.ref b1), .val (.int (3 : Int32))]) cx st125 (1 : Int32) d5_55 rfl rfl rfl rfl ?_
        refine E_goto (pc' := 17) cx st125 d5_58 (by decide) (by decide) ?_
        refine E_iloadN (pc' := 18) cx st125 d5_17 rfl rfl ?_
        refine E_aloadN (pc' := 19) cx st125 d5_18 rfl rfl rfl ?_
        refine E_getfield (pc' := 22) cx st125 (hw _ (List.mem_of_getElem? (i := 19) rfl)) G122 d5_19 rfl ?_
        intro T128 st128
        refine E_arraylength (pc' := 23) cx st128 V124 d5_22 rfl ?_
        refine E_icmp_geY (pc' := 61) cx st128 d5_23 (by decide) (by decide) (by decide) ?_
        have G129 : Fld Z h121 o1 "org/querne/sparql/SeedMerge" "seed" "[I" (.ref b1) := ((((((G1w.other W4 (Or.inr (slot_ne (Or.inl (hw _ (List.mem_of_getElem? (i := 31) rfl))) (Or.inl (hw _ (List.mem_of_getElem? (i := 33) rfl))) (by decide) (t := (.array .int)) (t' := .int) (by decide) (by decide)))).other W7 (Or.inr (slot_ne (Or.inl (hw _ (List.mem_of_getElem? (i := 31) rfl))) (Or.inl (hw _ (List.mem_of_getElem? (i := 35) rfl))) (by decide) (t := (.array .int)) (t' := .int) (by decide) (by decide)))).other W80 (Or.inr (slot_ne (Or.inl (hw _ (List.mem_of_getElem? (i := 31) rfl))) (Or.inl (hw _ (List.mem_of_getElem? (i := 35) rfl))) (by decide) (t := (.array .int)) (t' := .int) (by decide) (by decide)))).other W82 (Or.inl n3)).other W119 (Or.inr (slot_ne (Or.inl (hw _ (List.mem_of_getElem? (i := 31) rfl))) (Or.inl (hw _ (List.mem_of_getElem? (i := 35) rfl))) (by decide) (t := (.array .int)) (t' := .int) (by decide) (by decide)))).other W121 (Or.inl n3))
        have G130 : Fld Z h121 o1 "org/querne/sparql/SeedMerge" "seedColumns" "[I" (.ref sc) := ((G114.other W119 (Or.inr (slot_ne (Or.inr (hw _ (List.mem_of_getElem? (i := 22) rfl))) (Or.inl (hw _ (List.mem_of_getElem? (i := 35) rfl))) (by decide) (t := (.array .int)) (t' := .int) (by decide) (by decide)))).other W121 (Or.inl n3))
        have G131 : Fld Z h121 o1 "org/querne/sparql/SeedMerge" "merged" "[I" (.ref mg) := (((((((F4.other W1 (Or.inr (slot_ne (Or.inr (hw _ (List.mem_of_getElem? (i := 24) rfl))) (Or.inl (hw _ (List.mem_of_getElem? (i := 31) rfl))) (by decide) (t := (.array .int)) (t' := (.array .int)) (by decide) (by decide)))).other W4 (Or.inr (slot_ne (Or.inr (hw _ (List.mem_of_getElem? (i := 24) rfl))) (Or.inl (hw _ (List.mem_of_getElem? (i := 33) rfl))) (by decide) (t := (.array .int)) (t' := .int) (by decide) (by decide)))).other W7 (Or.inr (slot_ne (Or.inr (hw _ (List.mem_of_getElem? (i := 24) rfl))) (Or.inl (hw _ (List.mem_of_getElem? (i := 35) rfl))) (by decide) (t := (.array .int)) (t' := .int) (by decide) (by decide)))).other W80 (Or.inr (slot_ne (Or.inr (hw _ (List.mem_of_getElem? (i := 24) rfl))) (Or.inl (hw _ (List.mem_of_getElem? (i := 35) rfl))) (by decide) (t := (.array .int)) (t' := .int) (by decide) (by decide)))).other W82 (Or.inl n3)).other W119 (Or.inr (slot_ne (Or.inr (hw _ (List.mem_of_getElem? (i := 24) rfl))) (Or.inl (hw _ (List.mem_of_getElem? (i := 35) rfl))) (by decide) (t := (.array .int)) (t' := .int) (by decide) (by decide)))).other W121 (Or.inl n3))
        have G132 : Fld Z h121 o1 "org/querne/sparql/SeedMerge" "mergedCount" "I" (.int (0 : Int32)) := (((((G4w.other W7 (Or.inr (slot_ne (Or.inl (hw _ (List.mem_of_getElem? (i := 33) rfl))) (Or.inl (hw _ (List.mem_of_getElem? (i := 35) rfl))) (by decide) (t := .int) (t' := .int) (by decide) (by decide)))).other W80 (Or.inr (slot_ne (Or.inl (hw _ (List.mem_of_getElem? (i := 33) rfl))) (Or.inl (hw _ (List.mem_of_getElem? (i := 35) rfl))) (by decide) (t := .int) (t' := .int) (by decide) (by decide)))).other W82 (Or.inl n3)).other W119 (Or.inr (slot_ne (Or.inl (hw _ (List.mem_of_getElem? (i := 33) rfl))) (Or.inl (hw _ (List.mem_of_getElem? (i := 35) rfl))) (by decide) (t := .int) (t' := .int) (by decide) (by decide)))).other W121 (Or.inl n3))
        have G133 : Fld Z h121 o1 "org/querne/sparql/SeedMerge" "seedColumnCount" "I" (.int (2 : Int32)) := (G119w.other W121 (Or.inl n3))
        refine E_return cx st128 d5_61 rfl (by decide) (by decide) ?_
        refine ⟨rfl, K121, G122, G129, G130, G131, G132, (2 : Int32), (0 : Int32), (1 : Int32), z2, G133, V121p, ?_⟩
        rw [decide_eq_false c13, decide_eq_false c88, decide_eq_true c127]
        exact ⟨rfl, rfl⟩
      · refine E_icmp_eqN (pc' := 38) cx st125 d5_35 rfl c127 ?_
        refine E_aloadN (pc' := 39) cx st125 d5_38 rfl rfl rfl ?_
        have G134 : Fld Z h121 o1 "org/querne/sparql/SeedMerge" "seedColumns" "[I" (.ref sc) := ((G114.other W119 (Or.inr (slot_ne (Or.inr (hw _ (List.mem_of_getElem? (i := 22) rfl))) (Or.inl (hw _ (List.mem_of_getElem? (i := 35) rfl))) (by decide) (t := (.array .int)) (t' := .int) (by decide) (by decide)))).other W121 (Or.inl n3))
        refine E_getfield (pc' := 42) cx st125 (hw _ (List.mem_of_getElem? (i := 21) rfl)) G134 d5_39 rfl ?_
        intro T135 st135
        refine E_aloadN (pc' := 43) cx st135 d5_42 rfl rfl rfl ?_
        refine E_dup (pc' := 44) cx st135 d5_43 rfl rfl ?_
        have G136 : Fld Z h121 o1 "org/querne/sparql/SeedMerge" "seedColumnCount" "I" (.int (2 : Int32)) := (G119w.other W121 (Or.inl n3))
        refine E_getfield (pc' := 47) cx st135 (hw _ (List.mem_of_getElem? (i := 34) rfl)) G136 d5_44 rfl ?_
        intro T137 st137
        refine E_dup_x1 (pc' := 48) cx st137 d5_47 rfl rfl rfl ?_
        refine E_iconst (pc' := 49) cx st137 (1 : Int32) d5_48 rfl rfl ?_
        refine E_iadd (pc' := 50) cx st137 d5_49 rfl ?_
        rw [show ((2 : Int32) + (1 : Int32)) = (3 : Int32) from by decide]
        have X138 : Exa Z h121 o1 "org/querne/sparql/SeedMerge" := ((X118.wr W119).wr W121)
        refine E_putfield (pc' := 53) (ty := .int) cx st137 (hw _ (List.mem_of_getElem? (i := 34) rfl)) G136 X138 (Or.inl (hw _ (List.mem_of_getElem? (i := 35) rfl))) (hw _ (List.mem_of_getElem? (i := 11) rfl)) (by decide) rfl rfl g_o1 d5_50 rfl ?_
        intro T139 h139 st139 W139
        have Z139 : n0 ≤ h139.size := Nat.le_trans Z121 (Keep.of_wr W139).1
        have K139 : Keep h0 h139 [o1, sc] := K121.wr W139 (Or.inl (List.mem_of_getElem? (i := 0) rfl))
        have G139w : Fld Z h139 o1 "org/querne/sparql/SeedMerge" "seedColumnCount" "I" (.int (3 : Int32)) := G136.same W139
        refine E_iloadN (pc' := 54) cx st139 d5_53 rfl rfl ?_
        have V140 : Arv Z h139 sc kC .int (3 : Int32) [(.int (0 : Int32)), (.int (1 : Int32)), (.int z2)] (.int (0 : Int32)) := (V121p.other W139 (Ne.symm n3))
        refine E_iastore (pc' := 55) (i := 2) cx st139 V140 ⟨by decide, by decide⟩ rfl (Nat.le_of_ble_eq_true rfl) g_sc d5_54 rfl ?_
        intro T141 h141 st141 W141 V141
        have Z141 : n0 ≤ h141.size := Nat.le_trans Z139 (Keep.of_wr W141).1
        have K141 : Keep h0 h141 [o1, sc] := K139.wr W141 (Or.inl (List.mem_of_getElem? (i := 1) rfl))
        have V141p : Arv Z h141 sc kC .int (3 : Int32) [(.int (0 : Int32)), (.int (1 : Int32)), (.int (2 : Int32))] (.int (0 : Int32)) := V141
        refine E_iinc (pc' := 58) (L' := #[.val (.ref o1), .val (.ref b1), .val (.int (3 : Int32))]) cx st141 (1 : Int32) d5_55 rfl rfl rfl rfl ?_
        refine E_goto (pc' := 17) cx st141 d5_58 (by decide) (by decide) ?_
        refine E_iloadN (pc' := 18) cx st141 d5_17 rfl rfl ?_
        refine E_aloadN (pc' := 19) cx st141 d5_18 rfl rfl rfl ?_
        have G142 : Fld Z h141 o1 "org/querne/sparql/SeedMerge" "slots" "[I" (.ref sl) := ((G122.other W139 (Or.inr (slot_ne (Or.inr (hw _ (List.mem_of_getElem? (i := 20) rfl))) (Or.inl (hw _ (List.mem_of_getElem? (i := 35) rfl))) (by decide) (t := (.array .int)) (t' := .int) (by decide) (by decide)))).other W141 (Or.inl n3))
        refine E_getfield (pc' := 22) cx st141 (hw _ (List.mem_of_getElem? (i := 19) rfl)) G142 d5_19 rfl ?_
        intro T143 st143
        have V144 : Arv Z h141 sl kS .int (3 : Int32) [(.int x0), (.int x1), (.int x2)] (.int (0 : Int32)) := ((V124.other W139 (Ne.symm n2)).other W141 (Ne.symm n5))
        refine E_arraylength (pc' := 23) cx st143 V144 d5_22 rfl ?_
        refine E_icmp_geY (pc' := 61) cx st143 d5_23 (by decide) (by decide) (by decide) ?_
        have G145 : Fld Z h141 o1 "org/querne/sparql/SeedMerge" "seed" "[I" (.ref b1) := ((((((((G1w.other W4 (Or.inr (slot_ne (Or.inl (hw _ (List.mem_of_getElem? (i := 31) rfl))) (Or.inl (hw _ (List.mem_of_getElem? (i := 33) rfl))) (by decide) (t := (.array .int)) (t' := .int) (by decide) (by decide)))).other W7 (Or.inr (slot_ne (Or.inl (hw _ (List.mem_of_getElem? (i := 31) rfl))) (Or.inl (hw _ (List.mem_of_getElem? (i := 35) rfl))) (by decide) (t := (.array .int)) (t' := .int) (by decide) (by decide)))).other W80 (Or.inr (slot_ne (Or.inl (hw _ (List.mem_of_getElem? (i := 31) rfl))) (Or.inl (hw _ (List.mem_of_getElem? (i := 35) rfl))) (by decide) (t := (.array .int)) (t' := .int) (by decide) (by decide)))).other W82 (Or.inl n3)).other W119 (Or.inr (slot_ne (Or.inl (hw _ (List.mem_of_getElem? (i := 31) rfl))) (Or.inl (hw _ (List.mem_of_getElem? (i := 35) rfl))) (by decide) (t := (.array .int)) (t' := .int) (by decide) (by decide)))).other W121 (Or.inl n3)).other W139 (Or.inr (slot_ne (Or.inl (hw _ (List.mem_of_getElem? (i := 31) rfl))) (Or.inl (hw _ (List.mem_of_getElem? (i := 35) rfl))) (by decide) (t := (.array .int)) (t' := .int) (by decide) (by decide)))).other W141 (Or.inl n3))
        have G146 : Fld Z h141 o1 "org/querne/sparql/SeedMerge" "seedColumns" "[I" (.ref sc) := ((G134.other W139 (Or.inr (slot_ne (Or.inr (hw _ (List.mem_of_getElem? (i := 22) rfl))) (Or.inl (hw _ (List.mem_of_getElem? (i := 35) rfl))) (by decide) (t := (.array .int)) (t' := .int) (by decide) (by decide)))).other W141 (Or.inl n3))
        have G147 : Fld Z h141 o1 "org/querne/sparql/SeedMerge" "merged" "[I" (.ref mg) := (((((((((F4.other W1 (Or.inr (slot_ne (Or.inr (hw _ (List.mem_of_getElem? (i := 24) rfl))) (Or.inl (hw _ (List.mem_of_getElem? (i := 31) rfl))) (by decide) (t := (.array .int)) (t' := (.array .int)) (by decide) (by decide)))).other W4 (Or.inr (slot_ne (Or.inr (hw _ (List.mem_of_getElem? (i := 24) rfl))) (Or.inl (hw _ (List.mem_of_getElem? (i := 33) rfl))) (by decide) (t := (.array .int)) (t' := .int) (by decide) (by decide)))).other W7 (Or.inr (slot_ne (Or.inr (hw _ (List.mem_of_getElem? (i := 24) rfl))) (Or.inl (hw _ (List.mem_of_getElem? (i := 35) rfl))) (by decide) (t := (.array .int)) (t' := .int) (by decide) (by decide)))).other W80 (Or.inr (slot_ne (Or.inr (hw _ (List.mem_of_getElem? (i := 24) rfl))) (Or.inl (hw _ (List.mem_of_getElem? (i := 35) rfl))) (by decide) (t := (.array .int)) (t' := .int) (by decide) (by decide)))).other W82 (Or.inl n3)).other W119 (Or.inr (slot_ne (Or.inr (hw _ (List.mem_of_getElem? (i := 24) rfl))) (Or.inl (hw _ (List.mem_of_getElem? (i := 35) rfl))) (by decide) (t := (.array .int)) (t' := .int) (by decide) (by decide)))).other W121 (Or.inl n3)).other W139 (Or.inr (slot_ne (Or.inr (hw _ (List.mem_of_getElem? (i := 24) rfl))) (Or.inl (hw _ (List.mem_of_getElem? (i := 35) rfl))) (by decide) (t := (.array .int)) (t' := .int) (by decide) (by decide)))).other W141 (Or.inl n3))
        have G148 : Fld Z h141 o1 "org/querne/sparql/SeedMerge" "mergedCount" "I" (.int (0 : Int32)) := (((((((G4w.other W7 (Or.inr (slot_ne (Or.inl (hw _ (List.mem_of_getElem? (i := 33) rfl))) (Or.inl (hw _ (List.mem_of_getElem? (i := 35) rfl))) (by decide) (t := .int) (t' := .int) (by decide) (by decide)))).other W80 (Or.inr (slot_ne (Or.inl (hw _ (List.mem_of_getElem? (i := 33) rfl))) (Or.inl (hw _ (List.mem_of_getElem? (i := 35) rfl))) (by decide) (t := .int) (t' := .int) (by decide) (by decide)))).other W82 (Or.inl n3)).other W119 (Or.inr (slot_ne (Or.inl (hw _ (List.mem_of_getElem? (i := 33) rfl))) (Or.inl (hw _ (List.mem_of_getElem? (i := 35) rfl))) (by decide) (t := .int) (t' := .int) (by decide) (by decide)))).other W121 (Or.inl n3)).other W139 (Or.inr (slot_ne (Or.inl (hw _ (List.mem_of_getElem? (i := 33) rfl))) (Or.inl (hw _ (List.mem_of_getElem? (i := 35) rfl))) (by decide) (t := .int) (t' := .int) (by decide) (by decide)))).other W141 (Or.inl n3))
        have G149 : Fld Z h141 o1 "org/querne/sparql/SeedMerge" "seedColumnCount" "I" (.int (3 : Int32)) := (G139w.other W141 (Or.inl n3))
        refine E_return cx st143 d5_61 rfl (by decide) (by decide) ?_
        refine ⟨rfl, K141, G142, G145, G146, G147, G148, (3 : Int32), (0 : Int32), (1 : Int32), (2 : Int32), G149, V141p, ?_⟩
        rw [decide_eq_false c13, decide_eq_false c88, decide_eq_false c127]
        exact ⟨rfl, rfl⟩
theorem d6_0 : decode prog_348_method_8_code 0 = .ok (.iconst 0, 1) := by decide +kernel
theorem d6_1 : decode prog_348_method_8_code 1 = .ok (.istore_n 3, 1) := by decide +kernel
theorem d6_2 : decode prog_348_method_8_code 2 = .ok (.iload_n 3, 1) := by decide +kernel
theorem d6_3 : decode prog_348_method_8_code 3 = .ok (.aload_n 0, 1) := by decide +kernel
theorem d6_4 : decode prog_348_method_8_code 4 = .ok (.getfield 7, 3) := by decide +kernel
theorem d6_7 : decode prog_348_method_8_code 7 = .ok (.arraylength, 1) := by decide +kernel
theorem d6_8 : decode prog_348_method_8_code 8 = .ok (.if_icmp .ge 68, 3) := by decide +kernel
theorem d6_11 : decode prog_348_method_8_code 11 = .ok (.aload_n 1, 1) := by decide +kernel
theorem d6_12 : decode prog_348_method_8_code 12 = .ok (.iload_n 3, 1) := by decide +kernel
theorem d6_13 : decode prog_348_method_8_code 13 = .ok (.aaload, 1) := by decide +kernel
theorem d6_14 : decode prog_348_method_8_code 14 = .ok (.iload_n 2, 1) := by decide +kernel
theorem d6_15 : decode prog_348_method_8_code 15 = .ok (.iaload, 1) := by decide +kernel
theorem d6_16 : decode prog_348_method_8_code 16 = .ok (.istore 4, 2) := by decide +kernel
theorem d6_18 : decode prog_348_method_8_code 18 = .ok (.aload_n 0, 1) := by decide +kernel
theorem d6_19 : decode prog_348_method_8_code 19 = .ok (.getfield 7, 3) := by decide +kernel
theorem d6_22 : decode prog_348_method_8_code 22 = .ok (.iload_n 3, 1) := by decide +kernel
theorem d6_23 : decode prog_348_method_8_code 23 = .ok (.iaload, 1) := by decide +kernel
theorem d6_24 : decode prog_348_method_8_code 24 = .ok (.istore 5, 2) := by decide +kernel
theorem d6_26 : decode prog_348_method_8_code 26 = .ok (.iload 4, 2) := by decide +kernel
theorem d6_28 : decode prog_348_method_8_code 28 = .ok (.iconst (-1), 1) := by decide +kernel
theorem d6_29 : decode prog_348_method_8_code 29 = .ok (.if_icmp .eq 41, 3) := by decide +kernel
theorem d6_32 : decode prog_348_method_8_code 32 = .ok (.aload_n 0, 1) := by decide +kernel
theorem d6_33 : decode prog_348_method_8_code 33 = .ok (.getfield 19, 3) := by decide +kernel
theorem d6_36 : decode prog_348_method_8_code 36 = .ok (.iload 5, 2) := by decide +kernel
theorem d6_38 : decode prog_348_method_8_code 38 = .ok (.iaload, 1) := by decide +kernel
theorem d6_39 : decode prog_348_method_8_code 39 = .ok (.iconst (-1), 1) := by decide +kernel
theorem d6_40 : decode prog_348_method_8_code 40 = .ok (.if_icmp .ne 30, 3) := by decide +kernel
theorem d6_43 : decode prog_348_method_8_code 43 = .ok (.aload_n 0, 1) := by decide +kernel
theorem d6_44 : decode prog_348_method_8_code 44 = .ok (.getfield 19, 3) := by decide +kernel
theorem d6_47 : decode prog_348_method_8_code 47 = .ok (.iload 5, 2) := by decide +kernel
theorem d6_49 : decode prog_348_method_8_code 49 = .ok (.iload 4, 2) := by decide +kernel
theorem d6_51 : decode prog_348_method_8_code 51 = .ok (.iastore, 1) := by decide +kernel
theorem d6_52 : decode prog_348_method_8_code 52 = .ok (.aload_n 0, 1) := by decide +kernel
theorem d6_53 : decode prog_348_method_8_code 53 = .ok (.getfield 16, 3) := by decide +kernel
theorem d6_56 : decode prog_348_method_8_code 56 = .ok (.aload_n 0, 1) := by decide +kernel
theorem d6_57 : decode prog_348_method_8_code 57 = .ok (.dup, 1) := by decide +kernel
theorem d6_58 : decode prog_348_method_8_code 58 = .ok (.getfield 22, 3) := by decide +kernel
theorem d6_61 : decode prog_348_method_8_code 61 = .ok (.dup_x1, 1) := by decide +kernel
theorem d6_62 : decode prog_348_method_8_code 62 = .ok (.iconst 1, 1) := by decide +kernel
theorem d6_63 : decode prog_348_method_8_code 63 = .ok (.iadd, 1) := by decide +kernel
theorem d6_64 : decode prog_348_method_8_code 64 = .ok (.putfield 22, 3) := by decide +kernel
theorem d6_67 : decode prog_348_method_8_code 67 = .ok (.iload 5, 2) := by decide +kernel
theorem d6_69 : decode prog_348_method_8_code 69 = .ok (.iastore, 1) := by decide +kernel
theorem d6_70 : decode prog_348_method_8_code 70 = .ok (.iinc 3 1, 3) := by decide +kernel
theorem d6_73 : decode prog_348_method_8_code 73 = .ok (.goto (-71), 3) := by decide +kernel
theorem d6_76 : decode prog_348_method_8_code 76 = .ok (.return_, 1) := by decide +kernel
theorem ef_6 (m : MethodId) (x0 : Addr) (x1 : Addr) (x2 : Int32) : entryFrame m #[(.ref x0), (.ref x1), (.int x2)] 6 = mkF m 0 #[.val (.ref x0), .val (.ref x1), .val (.int x2), .unset, .unset, .unset] [] := by first | (simp [entryFrame, mkF, argsToLocals, Value.category]; done) | rfl
set_option maxRecDepth 65536 in
set_option maxHeartbeats 40000000 in
theorem rm6 (l : Launch) (Z : State) (a0 : Array Value) (hw : ∀ d ∈ tables_1, d.before a0 Z = true) (o1 : Addr) (gr : Addr) (r0 : Addr) (r1 : Addr) (r2 : Addr) (sl : Addr) (sd : Addr) (sc : Addr) (mg : Addr) (y0 : Int32) (y1 : Int32) (y2 : Int32) (x0 : Int32) (x1 : Int32) (x2 : Int32) (d0 : Int32) (d1 : Int32) (d2 : Int32) (d3 : Int32) (z0 : Int32) (z1 : Int32) (z2 : Int32) (cc : Int32) (h0 : Heap) (n0 : Nat) (Z0 : n0 ≤ h0.size) (kG kR kS kD kM : ClassId) (g_o1 : n0 ≤ o1) (g_sd : n0 ≤ sd) (g_mg : n0 ≤ mg) (n_o1_sd : o1 ≠ sd) (n_o1_mg : o1 ≠ mg) (n_sd_mg : sd ≠ mg) (n_o1_gr : o1 ≠ gr) (n_o1_r0 : o1 ≠ r0) (n_o1_r1 : o1 ≠ r1) (n_o1_r2 : o1 ≠ r2) (n_o1_sl : o1 ≠ sl) (n_sd_gr : sd ≠ gr) (n_sd_r0 : sd ≠ r0) (n_sd_r1 : sd ≠ r1) (n_sd_r2 : sd ≠ r2) (n_sd_sl : sd ≠ sl) (n_mg_gr : mg ≠ gr) (n_mg_r0 : mg ≠ r0) (n_mg_r1 : mg ≠ r1) (n_mg_r2 : mg ≠ r2) (n_mg_sl : mg ≠ sl) (X0 : Exa Z h0 o1 "org/querne/sparql/SeedMerge") (F1 : Fld Z h0 o1 "org/querne/sparql/SeedMerge" "slots" "[I" (.ref sl)) (F2 : Fld Z h0 o1 "org/querne/sparql/SeedMerge" "seed" "[I" (.ref sd)) (F3 : Fld Z h0 o1 "org/querne/sparql/SeedMerge" "seedColumns" "[I" (.ref sc)) (F4 : Fld Z h0 o1 "org/querne/sparql/SeedMerge" "merged" "[I" (.ref mg)) (F5 : Fld Z h0 o1 "org/querne/sparql/SeedMerge" "seedColumnCount" "I" (.int cc)) (F6 : Fld Z h0 o1 "org/querne/sparql/SeedMerge" "mergedCount" "I" (.int (0 : Int32))) (VG : Arv Z h0 gr kG (.array .int) (3 : Int32) [(.ref r0), (.ref r1), (.ref r2)] .null) (VR0 : Arv Z h0 r0 kR .int (1 : Int32) [(.int y0)] (.int (0 : Int32))) (VR1 : Arv Z h0 r1 kR .int (1 : Int32) [(.int y1)] (.int (0 : Int32))) (VR2 : Arv Z h0 r2 kR .int (1 : Int32) [(.int y2)] (.int (0 : Int32))) (VS : Arv Z h0 sl kS .int (3 : Int32) [(.int x0), (.int x1), (.int x2)] (.int (0 : Int32))) (VD : Arv Z h0 sd kD .int (4 : Int32) [(.int d0), (.int d1), (.int d2), (.int d3)] (.int (0 : Int32))) (VM : Arv Z h0 mg kM .int (3 : Int32) [(.int z0), (.int z1), (.int z2)] (.int (0 : Int32))) (hx0 : ¬ x0 < 0 ∧ x0 < 4) (hy0 : ¬ y0 = (-1 : Int32)) (hx1 : ¬ x1 < 0 ∧ x1 < 4) (hy1 : ¬ y1 = (-1 : Int32)) (hx2 : ¬ x2 < 0 ∧ x2 < 4) (hy2 : ¬ y2 = (-1 : Int32)) :
    Con l Z (⟨"org/querne/sparql/SeedMerge", "merge", "([[II)V"⟩ : MethodName) prog_348_method_8_code 6 none ({ frames := 0, cells := 0, slots := 0, locals := 0 } : Room) #[(.ref o1), (.ref gr), (.int (0 : Int32))] h0 n0 (fun v h => v = none ∧ Keep h0 h [o1, sd, mg] ∧ Fld Z h o1 "org/querne/sparql/SeedMerge" "slots" "[I" (.ref sl) ∧ Fld Z h o1 "org/querne/sparql/SeedMerge" "seed" "[I" (.ref sd) ∧ Fld Z h o1 "org/querne/sparql/SeedMerge" "seedColumns" "[I" (.ref sc) ∧ Fld Z h o1 "org/querne/sparql/SeedMerge" "merged" "[I" (.ref mg) ∧ Fld Z h o1 "org/querne/sparql/SeedMerge" "seedColumnCount" "I" (.int cc) ∧ ∃ (mc : Int32) (es : List Int32) (w0 w1 w2 : Int32), Fld Z h o1 "org/querne/sparql/SeedMerge" "mergedCount" "I" (.int mc) ∧ es.length = 4 ∧ Arv Z h sd kD .int (4 : Int32) (es.map Value.int) (.int (0 : Int32)) ∧ Arv Z h mg kM .int (3 : Int32) [(.int w0), (.int w1), (.int w2)] (.int (0 : Int32))) := by
  refine Con.of (own := "org/querne/sparql/SeedMerge") (name := "merge") (plainFor_of_name pn_1) (fun m => ef_6 m o1 gr (0 : Int32)) rfl rfl ?_
  intro p e s m below meth c T F S cx st
  obtain ⟨es0, h_es0⟩ : ∃ z, z = ([d0, d1, d2, d3] : List Int32) := ⟨_, rfl⟩
  have l_es0 : es0.length = 4 := by rw [h_es0]; rfl
  have VDm : Arv Z h0 sd kD .int (4 : Int32) (es0.map Value.int) (.int (0 : Int32)) := by rw [h_es0]; exact VD
  refine E_iconst (pc' := 1) cx st (0 : Int32) d6_0 rfl rfl ?_
  refine E_istoreN (pc' := 2) (L' := #[.val (.ref o1), .val (.ref gr), .val (.int (0 : Int32)), .val (.int (0 : Int32)), .unset, .unset]) cx st d6_1 rfl rfl ?_
  refine E_iloadN (pc' := 3) cx st d6_2 rfl rfl ?_
  refine E_aloadN (pc' := 4) cx st d6_3 rfl rfl rfl ?_
  refine E_getfield (pc' := 7) cx st (hw _ (List.mem_of_getElem? (i := 19) rfl)) F1 d6_4 rfl ?_
  intro T1 st1
  refine E_arraylength (pc' := 8) cx st1 VS d6_7 rfl ?_
  refine E_icmp_geN (pc' := 11) cx st1 d6_8 rfl (by decide) ?_
  refine E_aloadN (pc' := 12) cx st1 d6_11 rfl rfl rfl ?_
  refine E_iloadN (pc' := 13) cx st1 d6_12 rfl rfl ?_
  refine E_aaload (pc' := 14) cx st1 VG rfl ⟨by decide, by decide⟩ rfl d6_13 rfl ?_
  refine E_iloadN (pc' := 15) cx st1 d6_14 rfl rfl ?_
  refine E_iaload (pc' := 16) (x := y0) cx st1 VR0 ⟨by decide, by decide⟩ rfl d6_15 rfl ?_
  refine E_istore (pc' := 18) (L' := #[.val (.ref o1), .val (.ref gr), .val (.int (0 : Int32)), .val (.int (0 : Int32)), .val (.int y0), .unset]) cx st1 d6_16 rfl rfl ?_
  refine E_aloadN (pc' := 19) cx st1 d6_18 rfl rfl rfl ?_
  refine E_getfield (pc' := 22) cx st1 (hw _ (List.mem_of_getElem? (i := 19) rfl)) F1 d6_19 rfl ?_
  intro T2 st2
  refine E_iloadN (pc' := 23) cx st2 d6_22 rfl rfl ?_
  refine E_iaload (pc' := 24) (x := x0) cx st2 VS ⟨by decide, by decide⟩ rfl d6_23 rfl ?_
  refine E_istore (pc' := 26) (L' := #[.val (.ref o1), .val (.ref gr), .val (.int (0 : Int32)), .val (.int (0 : Int32)), .val (.int y0), .val (.int x0)]) cx st2 d6_24 rfl rfl ?_
  refine E_iload (pc' := 28) cx st2 d6_26 rfl rfl ?_
  refine E_iconst (pc' := 29) cx st2 (-1 : Int32) d6_28 rfl rfl ?_
  refine E_icmp_eqN (pc' := 32) cx st2 d6_29 rfl hy0 ?_
  refine E_aloadN (pc' := 33) cx st2 d6_32 rfl rfl rfl ?_
  refine E_getfield (pc' := 36) cx st2 (hw _ (List.mem_of_getElem? (i := 30) rfl)) F2 d6_33 rfl ?_
  intro T3 st3
  refine E_iload (pc' := 38) cx st3 d6_36 rfl rfl ?_
  refine E_iaload (pc' := 39) (x := (es0.getD x0.toNatClampNeg 0)) cx st3 VDm hx0 (getD_int es0 _ 0) d6_38 rfl ?_
  refine E_iconst (pc' := 40) cx st3 (-1 : Int32) d6_39 rfl rfl ?_
  by_cases c4 : (es0.getD x0.toNatClampNeg 0) = (-1 : Int32)
  · refine E_icmp_neN (pc' := 43) cx st3 d6_40 rfl c4 ?_
    refine E_aloadN (pc' := 44) cx st3 d6_43 rfl rfl rfl ?_
    refine E_getfield (pc' := 47) cx st3 (hw _ (List.mem_of_getElem? (i := 30) rfl)) F2 d6_44 rfl ?_
    intro T5 st5
    refine E_iload (pc' := 49) cx st5 d6_47 rfl rfl ?_
    refine E_iload (pc' := 51) cx st5 d6_49 rfl rfl ?_
    refine E_iastore (pc' := 52) (i := x0.toNatClampNeg) cx st5 VDm hx0 rfl (by rw [List.length_map, l_es0]; exact (i32_small (n := 4) hx0 (by decide)).1) g_sd d6_51 rfl ?_
    intro T7 h7 st7 W7 V7
    have Z7 : n0 ≤ h7.size := Nat.le_trans Z0 (Keep.of_wr W7).1
    have K7 : Keep h0 h7 [o1, sd, mg] := (Keep.refl h0 [o1, sd, mg]).wr W7 (Or.inl (List.mem_of_getElem? (i := 1) rfl))
    obtain ⟨es6, h_es6⟩ : ∃ z, z = es0.set x0.toNatClampNeg y0 := ⟨_, rfl⟩
    have V7p : Arv Z h7 sd kD .int (4 : Int32) (es6.map Value.int) (.int (0 : Int32)) := by rw [h_es6]; rw [show es0.set x0.toNatClampNeg y0 = es0.set x0.toNatClampNeg y0 from rfl, List.map_set]; exact V7
    have l_es6 : es6.length = 4 := by rw [h_es6, show es0.set x0.toNatClampNeg y0 = es0.set x0.toNatClampNeg y0 from rfl, List.length_set]; exact l_es0
    refine E_aloadN (pc' := 53) cx st7 d6_52 rfl rfl rfl ?_
    have G8 : Fld Z h7 o1 "org/querne/sparql/SeedMerge" "merged" "[I" (.ref mg) := (F4.other W7 (Or.inl n_o1_sd))
    refine E_getfield (pc' := 56) cx st7 (hw _ (List.mem_of_getElem? (i := 23) rfl)) G8 d6_53 rfl ?_
    intro T9 st9
    refine E_aloadN (pc' := 57) cx st9 d6_56 rfl rfl rfl ?_
    refine E_dup (pc' := 58) cx st9 d6_57 rfl rfl ?_
    have G10 : Fld Z h7 o1 "org/querne/sparql/SeedMerge" "mergedCount" "I" (.int (0 : Int32)) := (F6.other W7 (Or.inl n_o1_sd))
    refine E_getfield (pc' := 61) cx st9 (hw _ (List.mem_of_getElem? (i := 32) rfl)) G10 d6_58 rfl ?_
    intro T11 st11
    refine E_dup_x1 (pc' := 62) cx st11 d6_61 rfl rfl rfl ?_
    refine E_iconst (pc' := 63) cx st11 (1 : Int32) d6_62 rfl rfl ?_
    refine E_iadd (pc' := 64) cx st11 d6_63 rfl ?_
    rw [show ((0 : Int32) + (1 : Int32)) = (1 : Int32) from by decide]
    have X12 : Exa Z h7 o1 "org/querne/sparql/SeedMerge" := (X0.wr W7)
    refine E_putfield (pc' := 67) (ty := .int) cx st11 (hw _ (List.mem_of_getElem? (i := 32) rfl)) G10 X12 (Or.inl (hw _ (List.mem_of_getElem? (i := 33) rfl))) (hw _ (List.mem_of_getElem? (i := 11) rfl)) (by decide) rfl rfl g_o1 d6_64 rfl ?_
    intro T13 h13 st13 W13
    have Z13 : n0 ≤ h13.size := Nat.le_trans Z7 (Keep.of_wr W13).1
    have K13 : Keep h0 h13 [o1, sd, mg] := K7.wr W13 (Or.inl (List.mem_of_getElem? (i := 0) rfl))
    have G13w : Fld Z h13 o1 "org/querne/sparql/SeedMerge" "mergedCount" "I" (.int (1 : Int32)) := G10.same W13
    refine E_iload (pc' := 69) cx st13 d6_67 rfl rfl ?_
    have V14 : Arv Z h13 mg kM .int (3 : Int32) [(.int z0), (.int z1), (.int z2)] (.int (0 : Int32)) := ((VM.other W7 (Ne.symm n_sd_mg)).other W13 (Ne.symm n_o1_mg))
    refine E_iastore (pc' := 70) (i := 0) cx st13 V14 ⟨by decide, by decide⟩ rfl (Nat.le_of_ble_eq_true rfl) g_mg d6_69 rfl ?_
    intro T15 h15 st15 W15 V15
    have Z15 : n0 ≤ h15.size := Nat.le_trans Z13 (Keep.of_wr W15).1
    have K15 : Keep h0 h15 [o1, sd, mg] := K13.wr W15 (Or.inl (List.mem_of_getElem? (i := 2) rfl))
    have V15p : Arv Z h15 mg kM .int (3 : Int32) [(.int x0), (.int z1), (.int z2)] (.int (0 : Int32)) := V15
    refine E_iinc (pc' := 73) (L' := #[.val (.ref o1), .val (.ref gr), .val (.int (0 : Int32)), .val (.int (1 : Int32)), .val (.int y0), .val (.int x0)]) cx st15 (1 : Int32) d6_70 rfl rfl rfl rfl ?_
    refine E_goto (pc' := 2) cx st15 d6_73 (by decide) (by decide) ?_
    refine E_iloadN (pc' := 3) cx st15 d6_2 rfl rfl ?_
    refine E_aloadN (pc' := 4) cx st15 d6_3 rfl rfl rfl ?_
    have G16 : Fld Z h15 o1 "org/querne/sparql/SeedMerge" "slots" "[I" (.ref sl) := (((F1.other W7 (Or.inl n_o1_sd)).other W13 (Or.inr (slot_ne (Or.inr (hw _ (List.mem_of_getElem? (i := 20) rfl))) (Or.inl (hw _ (List.mem_of_getElem? (i := 33) rfl))) (by decide) (t := (.array .int)) (t' := .int) (by decide) (by decide)))).other W15 (Or.inl n_o1_mg))
    refine E_getfield (pc' := 7) cx st15 (hw _ (List.mem_of_getElem? (i := 19) rfl)) G16 d6_4 rfl ?_
    intro T17 st17
    have V18 : Arv Z h15 sl kS .int (3 : Int32) [(.int x0), (.int x1), (.int x2)] (.int (0 : Int32)) := (((VS.other W7 (Ne.symm n_sd_sl)).other W13 (Ne.symm n_o1_sl)).other W15 (Ne.symm n_mg_sl))
    refine E_arraylength (pc' := 8) cx st17 V18 d6_7 rfl ?_
    refine E_icmp_geN (pc' := 11) cx st17 d6_8 rfl (by decide) ?_
    refine E_aloadN (pc' := 12) cx st17 d6_11 rfl rfl rfl ?_
    refine E_iloadN (pc' := 13) cx st17 d6_12 rfl rfl ?_
    have V19 : Arv Z h15 gr kG (.array .int) (3 : Int32) [(.ref r0), (.ref r1), (.ref r2)] .null := (((VG.other W7 (Ne.symm n_sd_gr)).other W13 (Ne.symm n_o1_gr)).other W15 (Ne.symm n_mg_gr))
    refine E_aaload (pc' := 14) cx st17 V19 rfl ⟨by decide, by decide⟩ rfl d6_13 rfl ?_
    refine E_iloadN (pc' := 15) cx st17 d6_14 rfl rfl ?_
    have V20 : Arv Z h15 r1 kR .int (1 : Int32) [(.int y1)] (.int (0 : Int32)) := (((VR1.other W7 (Ne.symm n_sd_r1)).other W13 (Ne.symm n_o1_r1)).other W15 (Ne.symm n_mg_r1))
    refine E_iaload (pc' := 16) (x := y1) cx st17 V20 ⟨by decide, by decide⟩ rfl d6_15 rfl ?_
    refine E_istore (pc' := 18) (L' := #[.val (.ref o1), .val (.ref gr), .val (.int (0 : Int32)), .val (.int (1 : Int32)), .val (.int y1), .val (.int x0)]) cx st17 d6_16 rfl rfl ?_
    refine E_aloadN (pc' := 19) cx st17 d6_18 rfl rfl rfl ?_
    refine E_getfield (pc' := 22) cx st17 (hw _ (List.mem_of_getElem? (i := 19) rfl)) G16 d6_19 rfl ?_
    intro T21 st21
    refine E_iloadN (pc' := 23) cx st21 d6_22 rfl rfl ?_
    refine E_iaload (pc' := 24) (x := x1) cx st21 V18 ⟨by decide, by decide⟩ rfl d6_23 rfl ?_
    refine E_istore (pc' := 26) (L' := #[.val (.ref o1), .val (.ref gr), .val (.int (0 : Int32)), .val (.int (1 : Int32)), .val (.int y1), .val (.int x1)]) cx st21 d6_24 rfl rfl ?_
    refine E_iload (pc' := 28) cx st21 d6_26 rfl rfl ?_
    refine E_iconst (pc' := 29) cx st21 (-1 : Int32) d6_28 rfl rfl ?_
    refine E_icmp_eqN (pc' := 32) cx st21 d6_29 rfl hy1 ?_
    refine E_aloadN (pc' := 33) cx st21 d6_32 rfl rfl rfl ?_
    have G22 : Fld Z h15 o1 "org/querne/sparql/SeedMerge" "seed" "[I" (.ref sd) := (((F2.other W7 (Or.inl n_o1_sd)).other W13 (Or.inr (slot_ne (Or.inl (hw _ (List.mem_of_getElem? (i := 31) rfl))) (Or.inl (hw _ (List.mem_of_getElem? (i := 33) rfl))) (by decide) (t := (.array .int)) (t' := .int) (by decide) (by decide)))).other W15 (Or.inl n_o1_mg))
    refine E_getfield (pc' := 36) cx st21 (hw _ (List.mem_of_getElem? (i := 30) rfl)) G22 d6_33 rfl ?_
    intro T23 st23
    refine E_iload (pc' := 38) cx st23 d6_36 rfl rfl ?_
    have V24 : Arv Z h15 sd kD .int (4 : Int32) (es6.map Value.int) (.int (0 : Int32)) := ((V7p.other W13 (Ne.symm n_o1_sd)).other W15 n_sd_mg)
    refine E_iaload (pc' := 39) (x := (es6.getD x1.toNatClampNeg 0)) cx st23 V24 hx1 (getD_int es6 _ 0) d6_38 rfl ?_
    refine E_iconst (pc' := 40) cx st23 (-1 : Int32) d6_39 rfl rfl ?_
    by_cases c25 : (es6.getD x1.toNatClampNeg 0) = (-1 : Int32)
    · refine E_icmp_neN (pc' := 43) cx st23 d6_40 rfl c25 ?_
      refine E_aloadN (pc' := 44) cx st23 d6_43 rfl rfl rfl ?_
      refine E_getfield (pc' := 47) cx st23 (hw _ (List.mem_of_getElem? (i := 30) rfl)) G22 d6_44 rfl ?_
      intro T26 st26
      refine E_iload (pc' := 49) cx st26 d6_47 rfl rfl ?_
      refine E_iload (pc' := 51) cx st26 d6_49 rfl rfl ?_
      refine E_iastore (pc' := 52) (i := x1.toNatClampNeg) cx st26 V24 hx1 rfl (by rw [List.length_map, l_es6]; exact (i32_small (n := 4) hx1 (by decide)).1) g_sd d6_51 rfl ?_
      intro T28 h28 st28 W28 V28
      have Z28 : n0 ≤ h28.size := Nat.le_trans Z15 (Keep.of_wr W28).1
      have K28 : Keep h0 h28 [o1, sd, mg] := K15.wr W28 (Or.inl (List.mem_of_getElem? (i := 1) rfl))
      obtain ⟨es27, h_es27⟩ : ∃ z, z = es6.set x1.toNatClampNeg y1 := ⟨_, rfl⟩
      have V28p : Arv Z h28 sd kD .int (4 : Int32) (es27.map Value.int) (.int (0 : Int32)) := by rw [h_es27]; rw [show es6.set x1.toNatClampNeg y1 = es6.set x1.toNatClampNeg y1 from rfl, List.map_set]; exact V28
      have l_es27 : es27.length = 4 := by rw [h_es27, show es6.set x1.toNatClampNeg y1 = es6.set x1.toNatClampNeg y1 from rfl, List.length_set]; exact l_es6
      refine E_aloadN (pc' := 53) cx st28 d6_52 rfl rfl rfl ?_
      have G29 : Fld Z h28 o1 "org/querne/sparql/SeedMerge" "merged" "[I" (.ref mg) := (((G8.other W13 (Or.inr (slot_ne (Or.inr (hw _ (List.mem_of_getElem? (i := 24) rfl))) (Or.inl (hw _ (List.mem_of_getElem? (i := 33) rfl))) (by decide) (t := (.array .int)) (t' := .int) (by decide) (by decide)))).other W15 (Or.inl n_o1_mg)).other W28 (Or.inl n_o1_sd))
      refine E_getfield (pc' := 56) cx st28 (hw _ (List.mem_of_getElem? (i := 23) rfl)) G29 d6_53 rfl ?_
      intro T30 st30
      refine E_aloadN (pc' := 57) cx st30 d6_56 rfl rfl rfl ?_
      refine E_dup (pc' := 58) cx st30 d6_57 rfl rfl ?_
      have G31 : Fld Z h28 o1 "org/querne/sparql/SeedMerge" "mergedCount" "I" (.int (1 : Int32)) := ((G13w.other W15 (Or.inl n_o1_mg)).other W28 (Or.inl n_o1_sd))
      refine E_getfield (pc' := 61) cx st30 (hw _ (List.mem_of_getElem? (i := 32) rfl)) G31 d6_58 rfl ?_
      intro T32 st32
      refine E_dup_x1 (pc' := 62) cx st32 d6_61 rfl rfl rfl ?_
      refine E_iconst (pc' := 63) cx st32 (1 : Int32) d6_62 rfl rfl ?_
      refine E_iadd (pc' := 64) cx st32 d6_63 rfl ?_
      rw [show ((1 : Int32) + (1 : Int32)) = (2 : Int32) from by decide]
      have X33 : Exa Z h28 o1 "org/querne/sparql/SeedMerge" := (((X12.wr W13).wr W15).wr W28)
      refine E_putfield (pc' := 67) (ty := .int) cx st32 (hw _ (List.mem_of_getElem? (i := 32) rfl)) G31 X33 (Or.inl (hw _ (List.mem_of_getElem? (i := 33) rfl))) (hw _ (List.mem_of_getElem? (i := 11) rfl)) (by decide) rfl rfl g_o1 d6_64 rfl ?_
      intro T34 h34 st34 W34
      have Z34 : n0 ≤ h34.size := Nat.le_trans Z28 (Keep.of_wr W34).1
      have K34 : Keep h0 h34 [o1, sd, mg] := K28.wr W34 (Or.inl (List.mem_of_getElem? (i := 0) rfl))
      have G34w : Fld Z h34 o1 "org/querne/sparql/SeedMerge" "mergedCount" "I" (.int (2 : Int32)) := G31.same W34
      refine E_iload (pc' := 69) cx st34 d6_67 rfl rfl ?_
      have V35 : Arv Z h34 mg kM .int (3 : Int32) [(.int x0), (.int z1), (.int z2)] (.int (0 : Int32)) := ((V15p.other W28 (Ne.symm n_sd_mg)).other W34 (Ne.symm n_o1_mg))
      refine E_iastore (pc' := 70) (i := 1) cx st34 V35 ⟨by decide, by decide⟩ rfl (Nat.le_of_ble_eq_true rfl) g_mg d6_69 rfl ?_
      intro T36 h36 st36 W36 V36
      have Z36 : n0 ≤ h36.size := Nat.le_trans Z34 (Keep.of_wr W36).1
      have K36 : Keep h0 h36 [o1, sd, mg] := K34.wr W36 (Or.inl (List.mem_of_getElem? (i := 2) rfl))
      have V36p : Arv Z h36 mg kM .int (3 : Int32) [(.int x0), (.int x1), (.int z2)] (.int (0 : Int32)) := V36
      refine E_iinc (pc' := 73) (L' := #[.val (.ref o1), .val (.ref gr), .val (.int (0 : Int32)), .val (.int (2 : Int32)), .val (.int y1), .val (.int x1)]) cx st36 (1 : Int32) d6_70 rfl rfl rfl rfl ?_
      refine E_goto (pc' := 2) cx st36 d6_73 (by decide) (by decide) ?_
      refine E_iloadN (pc' := 3) cx st36 d6_2 rfl rfl ?_
      refine E_aloadN (pc' := 4) cx st36 d6_3 rfl rfl rfl ?_
      have G37 : Fld Z h36 o1 "org/querne/sparql/SeedMerge" "slots" "[I" (.ref sl) := (((G16.other W28 (Or.inl n_o1_sd)).other W34 (Or.inr (slot_ne (Or.inr (hw _ (List.mem_of_getElem? (i := 20) rfl))) (Or.inl (hw _ (List.mem_of_getElem? (i := 33) rfl))) (by decide) (t := (.array .int)) (t' := .int) (by decide) (by decide)))).other W36 (Or.inl n_o1_mg))
      refine E_getfield (pc' := 7) cx st36 (hw _ (List.mem_of_getElem? (i := 19) rfl)) G37 d6_4 rfl ?_
      intro T38 st38
      have V39 : Arv Z h36 sl kS .int (3 : Int32) [(.int x0), (.int x1), (.int x2)] (.int (0 : Int32)) := (((V18.other W28 (Ne.symm n_sd_sl)).other W34 (Ne.symm n_o1_sl)).other W36 (Ne.symm n_mg_sl))
      refine E_arraylength (pc' := 8) cx st38 V39 d6_7 rfl ?_
      refine E_icmp_geN (pc' := 11) cx st38 d6_8 rfl (by decide) ?_
      refine E_aloadN (pc' := 12) cx st38 d6_11 rfl rfl rfl ?_
      refine E_iloadN (pc' := 13) cx st38 d6_12 rfl rfl ?_
      have V40 : Arv Z h36 gr kG (.array .int) (3 : Int32) [(.ref r0), (.ref r1), (.ref r2)] .null := (((V19.other W28 (Ne.symm n_sd_gr)).other W34 (Ne.symm n_o1_gr)).other W36 (Ne.symm n_mg_gr))
      refine E_aaload (pc' := 14) cx st38 V40 rfl ⟨by decide, by decide⟩ rfl d6_13 rfl ?_
      refine E_iloadN (pc' := 15) cx st38 d6_14 rfl rfl ?_
      have V41 : Arv Z h36 r2 kR .int (1 : Int32) [(.int y2)] (.int (0 : Int32)) := ((((((VR2.other W7 (Ne.symm n_sd_r2)).other W13 (Ne.symm n_o1_r2)).other W15 (Ne.symm n_mg_r2)).other W28 (Ne.symm n_sd_r2)).other W34 (Ne.symm n_o1_r2)).other W36 (Ne.symm n_mg_r2))
      refine E_iaload (pc' := 16) (x := y2) cx st38 V41 ⟨by decide, by decide⟩ rfl d6_15 rfl ?_
      refine E_istore (pc' := 18) (L' := #[.val (.ref o1), .val (.ref gr), .val (.int (0 : Int32)), .val (.int (2 : Int32)), .val (.int y2), .val (.int x1)]) cx st38 d6_16 rfl rfl ?_
      refine E_aloadN (pc' := 19) cx st38 d6_18 rfl rfl rfl ?_
      refine E_getfield (pc' := 22) cx st38 (hw _ (List.mem_of_getElem? (i := 19) rfl)) G37 d6_19 rfl ?_
      intro T42 st42
      refine E_iloadN (pc' := 23) cx st42 d6_22 rfl rfl ?_
      refine E_iaload (pc' := 24) (x := x2) cx st42 V39 ⟨by decide, by decide⟩ rfl d6_23 rfl ?_
      refine E_istore (pc' := 26) (L' := #[.val (.ref o1), .val (.ref gr), .val (.int (0 : Int32)), .val (.int (2 : Int32)), .val (.int y2), .val (.int x2)]) cx st42 d6_24 rfl rfl ?_
      refine E_iload (pc' := 28) cx st42 d6_26 rfl rfl ?_
      refine E_iconst (pc' := 29) cx st42 (-1 : Int32) d6_28 rfl rfl ?_
      refine E_icmp_eqN (pc' := 32) cx st42 d6_29 rfl hy2 ?_
      refine E_aloadN (pc' := 33) cx st42 d6_32 rfl rfl rfl ?_
      have G43 : Fld Z h36 o1 "org/querne/sparql/SeedMerge" "seed" "[I" (.ref sd) := (((G22.other W28 (Or.inl n_o1_sd)).other W34 (Or.inr (slot_ne (Or.inl (hw _ (List.mem_of_getElem? (i := 31) rfl))) (Or.inl (hw _ (List.mem_of_getElem? (i := 33) rfl))) (by decide) (t := (.array .int)) (t' := .int) (by decide) (by decide)))).other W36 (Or.inl n_o1_mg))
      refine E_getfield (pc' := 36) cx st42 (hw _ (List.mem_of_getElem? (i := 30) rfl)) G43 d6_33 rfl ?_
      intro T44 st44
      refine E_iload (pc' := 38) cx st44 d6_36 rfl rfl ?_
      have V45 : Arv Z h36 sd kD .int (4 : Int32) (es27.map Value.int) (.int (0 : Int32)) := ((V28p.other W34 (Ne.symm n_o1_sd)).other W36 n_sd_mg)
      refine E_iaload (pc' := 39) (x := (es27.getD x2.toNatClampNeg 0)) cx st44 V45 hx2 (getD_int es27 _ 0) d6_38 rfl ?_
      refine E_iconst (pc' := 40) cx st44 (-1 : Int32) d6_39 rfl rfl ?_
      by_cases c46 : (es27.getD x2.toNatClampNeg 0) = (-1 : Int32)
      · refine E_icmp_neN (pc' := 43) cx st44 d6_40 rfl c46 ?_
        refine E_aloadN (pc' := 44) cx st44 d6_43 rfl rfl rfl ?_
        refine E_getfield (pc' := 47) cx st44 (hw _ (List.mem_of_getElem? (i := 30) rfl)) G43 d6_44 rfl ?_
        intro T47 st47
        refine E_iload (pc' := 49) cx st47 d6_47 rfl rfl ?_
        refine E_iload (pc' := 51) cx st47 d6_49 rfl rfl ?_
        refine E_iastore (pc' := 52) (i := x2.toNatClampNeg) cx st47 V45 hx2 rfl (by rw [List.length_map, l_es27]; exact (i32_small (n := 4) hx2 (by decide)).1) g_sd d6_51 rfl ?_
        intro T49 h49 st49 W49 V49
        have Z49 : n0 ≤ h49.size := Nat.le_trans Z36 (Keep.of_wr W49).1
        have K49 : Keep h0 h49 [o1, sd, mg] := K36.wr W49 (Or.inl (List.mem_of_getElem? (i := 1) rfl))
        obtain ⟨es48, h_es48⟩ : ∃ z, z = es27.set x2.toNatClampNeg y2 := ⟨_, rfl⟩
        have V49p : Arv Z h49 sd kD .int (4 : Int32) (es48.map Value.int) (.int (0 : Int32)) := by rw [h_es48]; rw [show es27.set x2.toNatClampNeg y2 = es27.set x2.toNatClampNeg y2 from rfl, List.map_set]; exact V49
        have l_es48 : es48.length = 4 := by rw [h_es48, show es27.set x2.toNatClampNeg y2 = es27.set x2.toNatClampNeg y2 from rfl, List.length_set]; exact l_es27
        refine E_aloadN (pc' := 53) cx st49 d6_52 rfl rfl rfl ?_
        have G50 : Fld Z h49 o1 "org/querne/sparql/SeedMerge" "merged" "[I" (.ref mg) := (((G29.other W34 (Or.inr (slot_ne (Or.inr (hw _ (List.mem_of_getElem? (i := 24) rfl))) (Or.inl (hw _ (List.mem_of_getElem? (i := 33) rfl))) (by decide) (t := (.array .int)) (t' := .int) (by decide) (by decide)))).other W36 (Or.inl n_o1_mg)).other W49 (Or.inl n_o1_sd))
        refine E_getfield (pc' := 56) cx st49 (hw _ (List.mem_of_getElem? (i := 23) rfl)) G50 d6_53 rfl ?_
        intro T51 st51
        refine E_aloadN (pc' := 57) cx st51 d6_56 rfl rfl rfl ?_
        refine E_dup (pc' := 58) cx st51 d6_57 rfl rfl ?_
        have G52 : Fld Z h49 o1 "org/querne/sparql/SeedMerge" "mergedCount" "I" (.int (2 : Int32)) := ((G34w.other W36 (Or.inl n_o1_mg)).other W49 (Or.inl n_o1_sd))
        refine E_getfield (pc' := 61) cx st51 (hw _ (List.mem_of_getElem? (i := 32) rfl)) G52 d6_58 rfl ?_
        intro T53 st53
        refine E_dup_x1 (pc' := 62) cx st53 d6_61 rfl rfl rfl ?_
        refine E_iconst (pc' := 63) cx st53 (1 : Int32) d6_62 rfl rfl ?_
        refine E_iadd (pc' := 64) cx st53 d6_63 rfl ?_
        rw [show ((2 : Int32) + (1 : Int32)) = (3 : Int32) from by decide]
        have X54 : Exa Z h49 o1 "org/querne/sparql/SeedMerge" := (((X33.wr W34).wr W36).wr W49)
        refine E_putfield (pc' := 67) (ty := .int) cx st53 (hw _ (List.mem_of_getElem? (i := 32) rfl)) G52 X54 (Or.inl (hw _ (List.mem_of_getElem? (i := 33) rfl))) (hw _ (List.mem_of_getElem? (i := 11) rfl)) (by decide) rfl rfl g_o1 d6_64 rfl ?_
        intro T55 h55 st55 W55
        have Z55 : n0 ≤ h55.size := Nat.le_trans Z49 (Keep.of_wr W55).1
        have K55 : Keep h0 h55 [o1, sd, mg] := K49.wr W55 (Or.inl (List.mem_of_getElem? (i := 0) rfl))
        have G55w : Fld Z h55 o1 "org/querne/sparql/SeedMerge" "mergedCount" "I" (.int (3 : Int32)) := G52.same W55
        refine E_iload (pc' := 69) cx st55 d6_67 rfl rfl ?_
        have V56 : Arv Z h55 mg kM .int (3 : Int32) [(.int x0), (.int x1), (.int z2)] (.int (0 : Int32)) := ((V36p.other W49 (Ne.symm n_sd_mg)).other W55 (Ne.symm n_o1_mg))
        refine E_iastore (pc' := 70) (i := 2) cx st55 V56 ⟨by decide, by decide⟩ rfl (Nat.le_of_ble_eq_true rfl) g_mg d6_69 rfl ?_
        intro T57 h57 st57 W57 V57
        have Z57 : n0 ≤ h57.size := Nat.le_trans Z55 (Keep.of_wr W57).1
        have K57 : Keep h0 h57 [o1, sd, mg] := K55.wr W57 (Or.inl (List.mem_of_getElem? (i := 2) rfl))
        have V57p : Arv Z h57 mg kM .int (3 : Int32) [(.int x0), (.int x1), (.int x2)] (.int (0 : Int32)) := V57
        refine E_iinc (pc' := 73) (L' := #[.val (.ref o1), .val (.ref gr), .val (.int (0 : Int32)), .val (.int (3 : Int32)), .val (.int y2), .val (.int x2)]) cx st57 (1 : Int32) d6_70 rfl rfl rfl rfl ?_
        refine E_goto (pc' := 2) cx st57 d6_73 (by decide) (by decide) ?_
        refine E_iloadN (pc' := 3) cx st57 d6_2 rfl rfl ?_
        refine E_aloadN (pc' := 4) cx st57 d6_3 rfl rfl rfl ?_
        have G58 : Fld Z h57 o1 "org/querne/sparql/SeedMerge" "slots" "[I" (.ref sl) := (((G37.other W49 (Or.inl n_o1_sd)).other W55 (Or.inr (slot_ne (Or.inr (hw _ (List.mem_of_getElem? (i := 20) rfl))) (Or.inl (hw _ (List.mem_of_getElem? (i := 33) rfl))) (by decide) (t := (.array .int)) (t' := .int) (by decide) (by decide)))).other W57 (Or.inl n_o1_mg))
        refine E_getfield (pc' := 7) cx st57 (hw _ (List.mem_of_getElem? (i := 19) rfl)) G58 d6_4 rfl ?_
        intro T59 st59
        have V60 : Arv Z h57 sl kS .int (3 : Int32) [(.int x0), (.int x1), (.int x2)] (.int (0 : Int32)) := (((V39.other W49 (Ne.symm n_sd_sl)).other W55 (Ne.symm n_o1_sl)).other W57 (Ne.symm n_mg_sl))
        refine E_arraylength (pc' := 8) cx st59 V60 d6_7 rfl ?_
        refine E_icmp_geY (pc' := 76) cx st59 d6_8 (by decide) (by decide) (by decide) ?_
        have G61 : Fld Z h57 o1 "org/querne/sparql/SeedMerge" "seed" "[I" (.ref sd) := (((G43.other W49 (Or.inl n_o1_sd)).other W55 (Or.inr (slot_ne (Or.inl (hw _ (List.mem_of_getElem? (i := 31) rfl))) (Or.inl (hw _ (List.mem_of_getElem? (i := 33) rfl))) (by decide) (t := (.array .int)) (t' := .int) (by decide) (by decide)))).other W57 (Or.inl n_o1_mg))
        have G62 : Fld Z h57 o1 "org/querne/sparql/SeedMerge" "seedColumns" "[I" (.ref sc) := (((((((((F3.other W7 (Or.inl n_o1_sd)).other W13 (Or.inr (slot_ne (Or.inr (hw _ (List.mem_of_getElem? (i := 22) rfl))) (Or.inl (hw _ (List.mem_of_getElem? (i := 33) rfl))) (by decide) (t := (.array .int)) (t' := .int) (by decide) (by decide)))).other W15 (Or.inl n_o1_mg)).other W28 (Or.inl n_o1_sd)).other W34 (Or.inr (slot_ne (Or.inr (hw _ (List.mem_of_getElem? (i := 22) rfl))) (Or.inl (hw _ (List.mem_of_getElem? (i := 33) rfl))) (by decide) (t := (.array .int)) (t' := .int) (by decide) (by decide)))).other W36 (Or.inl n_o1_mg)).other W49 (Or.inl n_o1_sd)).other W55 (Or.inr (slot_ne (Or.inr (hw _ (List.mem_of_getElem? (i := 22) rfl))) (Or.inl (hw _ (List.mem_of_getElem? (i := 33) rfl))) (by decide) (t := (.array .int)) (t' := .int) (by decide) (by decide)))).other W57 (Or.inl n_o1_mg))
        have G63 : Fld Z h57 o1 "org/querne/sparql/SeedMerge" "merged" "[I" (.ref mg) := ((G50.other W55 (Or.inr (slot_ne (Or.inr (hw _ (List.mem_of_getElem? (i := 24) rfl))) (Or.inl (hw _ (List.mem_of_getElem? (i := 33) rfl))) (by decide) (t := (.array .int)) (t' := .int) (by decide) (by decide)))).other W57 (Or.inl n_o1_mg))
        have G64 : Fld Z h57 o1 "org/querne/sparql/SeedMerge" "seedColumnCount" "I" (.int cc) := (((((((((F5.other W7 (Or.inl n_o1_sd)).other W13 (Or.inr (slot_ne (Or.inl (hw _ (List.mem_of_getElem? (i := 35) rfl))) (Or.inl (hw _ (List.mem_of_getElem? (i := 33) rfl))) (by decide) (t := .int) (t' := .int) (by decide) (by decide)))).other W15 (Or.inl n_o1_mg)).other W28 (Or.inl n_o1_sd)).other W34 (Or.inr (slot_ne (Or.inl (hw _ (List.mem_of_getElem? (i := 35) rfl))) (Or.inl (hw _ (List.mem_of_getElem? (i := 33) rfl))) (by decide) (t := .int) (t' := .int) (by decide) (by decide)))).other W36 (Or.inl n_o1_mg)).other W49 (Or.inl n_o1_sd)).other W55 (Or.inr (slot_ne (Or.inl (hw _ (List.mem_of_getElem? (i := 35) rfl))) (Or.inl (hw _ (List.mem_of_getElem? (i := 33) rfl))) (by decide) (t := .int) (t' := .int) (by decide) (by decide)))).other W57 (Or.inl n_o1_mg))
        have G65 : Fld Z h57 o1 "org/querne/sparql/SeedMerge" "mergedCount" "I" (.int (3 : Int32)) := (G55w.other W57 (Or.inl n_o1_mg))
        have V66 : Arv Z h57 sd kD .int (4 : Int32) (es48.map Value.int) (.int (0 : Int32)) := ((V49p.other W55 (Ne.symm n_o1_sd)).other W57 n_sd_mg)
        refine E_return cx st59 d6_76 rfl (by decide) (by decide) ?_
        exact ⟨rfl, K57, G58, G61, G62, G63, G64, (3 : Int32), es48, x0, x1, x2, G65, l_es48, V66, V57p⟩
      · refine E_icmp_neY (pc' := 70) cx st44 d6_40 (by decide) (by decide) c46 ?_
        refine E_iinc (pc' := 73) (L' := #[.val (.ref o1), .val (.ref gr), .val (.int (0 : Int32)), .val (.int (3 : Int32)), .val (.int y2), .val (.int x2)]) cx st44 (1 : Int32) d6_70 rfl rfl rfl rfl ?_
        refine E_goto (pc' := 2) cx st44 d6_73 (by decide) (by decide) ?_
        refine E_iloadN (pc' := 3) cx st44 d6_2 rfl rfl ?_
        refine E_aloadN (pc' := 4) cx st44 d6_3 rfl rfl rfl ?_
        refine E_getfield (pc' := 7) cx st44 (hw _ (List.mem_of_getElem? (i := 19) rfl)) G37 d6_4 rfl ?_
        intro T67 st67
        refine E_arraylength (pc' := 8) cx st67 V39 d6_7 rfl ?_
        refine E_icmp_geY (pc' := 76) cx st67 d6_8 (by decide) (by decide) (by decide) ?_
        have G68 : Fld Z h36 o1 "org/querne/sparql/SeedMerge" "seedColumns" "[I" (.ref sc) := ((((((F3.other W7 (Or.inl n_o1_sd)).other W13 (Or.inr (slot_ne (Or.inr (hw _ (List.mem_of_getElem? (i := 22) rfl))) (Or.inl (hw _ (List.mem_of_getElem? (i := 33) rfl))) (by decide) (t := (.array .int)) (t' := .int) (by decide) (by decide)))).other W15 (Or.inl n_o1_mg)).other W28 (Or.inl n_o1_sd)).other W34 (Or.inr (slot_ne (Or.inr (hw _ (List.mem_of_getElem? (i := 22) rfl))) (Or.inl (hw _ (List.mem_of_getElem? (i := 33) rfl))) (by decide) (t := (.array .int)) (t' := .int) (by decide) (by decide)))).other W36 (Or.inl n_o1_mg))
        have G69 : Fld Z h36 o1 "org/querne/sparql/SeedMerge" "merged" "[I" (.ref mg) := ((G29.other W34 (Or.inr (slot_ne (Or.inr (hw _ (List.mem_of_getElem? (i := 24) rfl))) (Or.inl (hw _ (List.mem_of_getElem? (i := 33) rfl))) (by decide) (t := (.array .int)) (t' := .int) (by decide) (by decide)))).other W36 (Or.inl n_o1_mg))
        have G70 : Fld Z h36 o1 "org/querne/sparql/SeedMerge" "seedColumnCount" "I" (.int cc) := ((((((F5.other W7 (Or.inl n_o1_sd)).other W13 (Or.inr (slot_ne (Or.inl (hw _ (List.mem_of_getElem? (i := 35) rfl))) (Or.inl (hw _ (List.mem_of_getElem? (i := 33) rfl))) (by decide) (t := .int) (t' := .int) (by decide) (by decide)))).other W15 (Or.inl n_o1_mg)).other W28 (Or.inl n_o1_sd)).other W34 (Or.inr (slot_ne (Or.inl (hw _ (List.mem_of_getElem? (i := 35) rfl))) (Or.inl (hw _ (List.mem_of_getElem? (i := 33) rfl))) (by decide) (t := .int) (t' := .int) (by decide) (by decide)))).other W36 (Or.inl n_o1_mg))
        have G71 : Fld Z h36 o1 "org/querne/sparql/SeedMerge" "mergedCount" "I" (.int (2 : Int32)) := (G34w.other W36 (Or.inl n_o1_mg))
        refine E_return cx st67 d6_76 rfl (by decide) (by decide) ?_
        exact ⟨rfl, K36, G37, G43, G68, G69, G70, (2 : Int32), es27, x0, x1, z2, G71, l_es27, V45, V36p⟩
    · refine E_icmp_neY (pc' := 70) cx st23 d6_40 (by decide) (by decide) c25 ?_
      refine E_iinc (pc' := 73) (L' := #[.val (.ref o1), .val (.ref gr), .val (.int (0 : Int32)), .val (.int (2 : Int32)), .val (.int y1), .val (.int x1)]) cx st23 (1 : Int32) d6_70 rfl rfl rfl rfl ?_
      refine E_goto (pc' := 2) cx st23 d6_73 (by decide) (by decide) ?_
      refine E_iloadN (pc' := 3) cx st23 d6_2 rfl rfl ?_
      refine E_aloadN (pc' := 4) cx st23 d6_3 rfl rfl rfl ?_
      refine E_getfield (pc' := 7) cx st23 (hw _ (List.mem_of_getElem? (i := 19) rfl)) G16 d6_4 rfl ?_
      intro T72 st72
      refine E_arraylength (pc' := 8) cx st72 V18 d6_7 rfl ?_
      refine E_icmp_geN (pc' := 11) cx st72 d6_8 rfl (by decide) ?_
      refine E_aloadN (pc' := 12) cx st72 d6_11 rfl rfl rfl ?_
      refine E_iloadN (pc' := 13) cx st72 d6_12 rfl rfl ?_
      refine E_aaload (pc' := 14) cx st72 V19 rfl ⟨by decide, by decide⟩ rfl d6_13 rfl ?_
      refine E_iloadN (pc' := 15) cx st72 d6_14 rfl rfl ?_
      have V73 : Arv Z h15 r2 kR .int (1 : Int32) [(.int y2)] (.int (0 : Int32)) := (((VR2.other W7 (Ne.symm n_sd_r2)).other W13 (Ne.symm n_o1_r2)).other W15 (Ne.symm n_mg_r2))
      refine E_iaload (pc' := 16) (x := y2) cx st72 V73 ⟨by decide, by decide⟩ rfl d6_15 rfl ?_
      refine E_istore (pc' := 18) (L' := #[.val (.ref o1), .val (.ref gr), .val (.int (0 : Int32)), .val (.int (2 : Int32)), .val (.int y2), .val (.int x1)]) cx st72 d6_16 rfl rfl ?_
      refine E_aloadN (pc' := 19) cx st72 d6_18 rfl rfl rfl ?_
      refine E_getfield (pc' := 22) cx st72 (hw _ (List.mem_of_getElem? (i := 19) rfl)) G16 d6_19 rfl ?_
      intro T74 st74
      refine E_iloadN (pc' := 23) cx st74 d6_22 rfl rfl ?_
      refine E_iaload (pc' := 24) (x := x2) cx st74 V18 ⟨by decide, by decide⟩ rfl d6_23 rfl ?_
      refine E_istore (pc' := 26) (L' := #[.val (.ref o1), .val (.ref gr), .val (.int (0 : Int32)), .val (.int (2 : Int32)), .val (.int y2), .val (.int x2)]) cx st74 d6_24 rfl rfl ?_
      refine E_iload (pc' := 28) cx st74 d6_26 rfl rfl ?_
      refine E_iconst (pc' := 29) cx st74 (-1 : Int32) d6_28 rfl rfl ?_
      refine E_icmp_eqN (pc' := 32) cx st74 d6_29 rfl hy2 ?_
      refine E_aloadN (pc' := 33) cx st74 d6_32 rfl rfl rfl ?_
      refine E_getfield (pc' := 36) cx st74 (hw _ (List.mem_of_getElem? (i := 30) rfl)) G22 d6_33 rfl ?_
      intro T75 st75
      refine E_iload (pc' := 38) cx st75 d6_36 rfl rfl ?_
      refine E_iaload (pc' := 39) (x := (es6.getD x2.toNatClampNeg 0)) cx st75 V24 hx2 (getD_int es6 _ 0) d6_38 rfl ?_
      refine E_iconst (pc' := 40) cx st75 (-1 : Int32) d6_39 rfl rfl ?_
      by_cases c76 : (es6.getD x2.toNatClampNeg 0) = (-1 : Int32)
      · refine E_icmp_neN (pc' := 43) cx st75 d6_40 rfl c76 ?_
        refine E_aloadN (pc' := 44) cx st75 d6_43 rfl rfl rfl ?_
        refine E_getfield (pc' := 47) cx st75 (hw _ (List.mem_of_getElem? (i := 30) rfl)) G22 d6_44 rfl ?_
        intro T77 st77
        refine E_iload (pc' := 49) cx st77 d6_47 rfl rfl ?_
        refine E_iload (pc' := 51) cx st77 d6_49 rfl rfl ?_
        refine E_iastore (pc' := 52) (i := x2.toNatClampNeg) cx st77 V24 hx2 rfl (by rw [List.length_map, l_es6]; exact (i32_small (n := 4) hx2 (by decide)).1) g_sd d6_51 rfl ?_
        intro T79 h79 st79 W79 V79
        have Z79 : n0 ≤ h79.size := Nat.le_trans Z15 (Keep.of_wr W79).1
        have K79 : Keep h0 h79 [o1, sd, mg] := K15.wr W79 (Or.inl (List.mem_of_getElem? (i := 1) rfl))
        obtain ⟨es78, h_es78⟩ : ∃ z, z = es6.set x2.toNatClampNeg y2 := ⟨_, rfl⟩
        have V79p : Arv Z h79 sd kD .int (4 : Int32) (es78.map Value.int) (.int (0 : Int32)) := by rw [h_es78]; rw [show es6.set x2.toNatClampNeg y2 = es6.set x2.toNatClampNeg y2 from rfl, List.map_set]; exact V79
        have l_es78 : es78.length = 4 := by rw [h_es78, show es6.set x2.toNatClampNeg y2 = es6.set x2.toNatClampNeg y2 from rfl, List.length_set]; exact l_es6
        refine E_aloadN (pc' := 53) cx st79 d6_52 rfl rfl rfl ?_
        have G80 : Fld Z h79 o1 "org/querne/sparql/SeedMerge" "merged" "[I" (.ref mg) := (((G8.other W13 (Or.inr (slot_ne (Or.inr (hw _ (List.mem_of_getElem? (i := 24) rfl))) (Or.inl (hw _ (List.mem_of_getElem? (i := 33) rfl))) (by decide) (t := (.array .int)) (t' := .int) (by decide) (by decide)))).other W15 (Or.inl n_o1_mg)).other W79 (Or.inl n_o1_sd))
        refine E_getfield (pc' := 56) cx st79 (hw _ (List.mem_of_getElem? (i := 23) rfl)) G80 d6_53 rfl ?_
        intro T81 st81
        refine E_aloadN (pc' := 57) cx st81 d6_56 rfl rfl rfl ?_
        refine E_dup (pc' := 58) cx st81 d6_57 rfl rfl ?_
        have G82 : Fld Z h79 o1 "org/querne/sparql/SeedMerge" "mergedCount" "I" (.int (1 : Int32)) := ((G13w.other W15 (Or.inl n_o1_mg)).other W79 (Or.inl n_o1_sd))
        refine E_getfield (pc' := 61) cx st81 (hw _ (List.mem_of_getElem? (i := 32) rfl)) G82 d6_58 rfl ?_
        intro T83 st83
        refine E_dup_x1 (pc' := 62) cx st83 d6_61 rfl rfl rfl ?_
        refine E_iconst (pc' := 63) cx st83 (1 : Int32) d6_62 rfl rfl ?_
        refine E_iadd (pc' := 64) cx st83 d6_63 rfl ?_
        rw [show ((1 : Int32) + (1 : Int32)) = (2 : Int32) from by decide]
        have X84 : Exa Z h79 o1 "org/querne/sparql/SeedMerge" := (((X12.wr W13).wr W15).wr W79)
        refine E_putfield (pc' := 67) (ty := .int) cx st83 (hw _ (List.mem_of_getElem? (i := 32) rfl)) G82 X84 (Or.inl (hw _ (List.mem_of_getElem? (i := 33) rfl))) (hw _ (List.mem_of_getElem? (i := 11) rfl)) (by decide) rfl rfl g_o1 d6_64 rfl ?_
        intro T85 h85 st85 W85
        have Z85 : n0 ≤ h85.size := Nat.le_trans Z79 (Keep.of_wr W85).1
        have K85 : Keep h0 h85 [o1, sd, mg] := K79.wr W85 (Or.inl (List.mem_of_getElem? (i := 0) rfl))
        have G85w : Fld Z h85 o1 "org/querne/sparql/SeedMerge" "mergedCount" "I" (.int (2 : Int32)) := G82.same W85
        refine E_iload (pc' := 69) cx st85 d6_67 rfl rfl ?_
        have V86 : Arv Z h85 mg kM .int (3 : Int32) [(.int x0), (.int z1), (.int z2)] (.int (0 : Int32)) := ((V15p.other W79 (Ne.symm n_sd_mg)).other W85 (Ne.symm n_o1_mg))
        refine E_iastore (pc' := 70) (i := 1) cx st85 V86 ⟨by decide, by decide⟩ rfl (Nat.le_of_ble_eq_true rfl) g_mg d6_69 rfl ?_
        intro T87 h87 st87 W87 V87
        have Z87 : n0 ≤ h87.size := Nat.le_trans Z85 (Keep.of_wr W87).1
        have K87 : Keep h0 h87 [o1, sd, mg] := K85.wr W87 (Or.inl (List.mem_of_getElem? (i := 2) rfl))
        have V87p : Arv Z h87 mg kM .int (3 : Int32) [(.int x0), (.int x2), (.int z2)] (.int (0 : Int32)) := V87
        refine E_iinc (pc' := 73) (L' := #[.val (.ref o1), .val (.ref gr), .val (.int (0 : Int32)), .val (.int (3 : Int32)), .val (.int y2), .val (.int x2)]) cx st87 (1 : Int32) d6_70 rfl rfl rfl rfl ?_
        refine E_goto (pc' := 2) cx st87 d6_73 (by decide) (by decide) ?_
        refine E_iloadN (pc' := 3) cx st87 d6_2 rfl rfl ?_
        refine E_aloadN (pc' := 4) cx st87 d6_3 rfl rfl rfl ?_
        have G88 : Fld Z h87 o1 "org/querne/sparql/SeedMerge" "slots" "[I" (.ref sl) := (((G16.other W79 (Or.inl n_o1_sd)).other W85 (Or.inr (slot_ne (Or.inr (hw _ (List.mem_of_getElem? (i := 20) rfl))) (Or.inl (hw _ (List.mem_of_getElem? (i := 33) rfl))) (by decide) (t := (.array .int)) (t' := .int) (by decide) (by decide)))).other W87 (Or.inl n_o1_mg))
        refine E_getfield (pc' := 7) cx st87 (hw _ (List.mem_of_getElem? (i := 19) rfl)) G88 d6_4 rfl ?_
        intro T89 st89
        have V90 : Arv Z h87 sl kS .int (3 : Int32) [(.int x0), (.int x1), (.int x2)] (.int (0 : Int32)) := (((V18.other W79 (Ne.symm n_sd_sl)).other W85 (Ne.symm n_o1_sl)).other W87 (Ne.symm n_mg_sl))
        refine E_arraylength (pc' := 8) cx st89 V90 d6_7 rfl ?_
        refine E_icmp_geY (pc' := 76) cx st89 d6_8 (by decide) (by decide) (by decide) ?_
        have G91 : Fld Z h87 o1 "org/querne/sparql/SeedMerge" "seed" "[I" (.ref sd) := (((G22.other W79 (Or.inl n_o1_sd)).other W85 (Or.inr (slot_ne (Or.inl (hw _ (List.mem_of_getElem? (i := 31) rfl))) (Or.inl (hw _ (List.mem_of_getElem? (i := 33) rfl))) (by decide) (t := (.array .int)) (t' := .int) (by decide) (by decide)))).other W87 (Or.inl n_o1_mg))
        have G92 : Fld Z h87 o1 "org/querne/sparql/SeedMerge" "seedColumns" "[I" (.ref sc) := ((((((F3.other W7 (Or.inl n_o1_sd)).other W13 (Or.inr (slot_ne (Or.inr (hw _ (List.mem_of_getElem? (i := 22) rfl))) (Or.inl (hw _ (List.mem_of_getElem? (i := 33) rfl))) (by decide) (t := (.array .int)) (t' := .int) (by decide) (by decide)))).other W15 (Or.inl n_o1_mg)).other W79 (Or.inl n_o1_sd)).other W85 (Or.inr (slot_ne (Or.inr (hw _ (List.mem_of_getElem? (i := 22) rfl))) (Or.inl (hw _ (List.mem_of_getElem? (i := 33) rfl))) (by decide) (t := (.array .int)) (t' := .int) (by decide) (by decide)))).other W87 (Or.inl n_o1_mg))
        have G93 : Fld Z h87 o1 "org/querne/sparql/SeedMerge" "merged" "[I" (.ref mg) := ((G80.other W85 (Or.inr (slot_ne (Or.inr (hw _ (List.mem_of_getElem? (i := 24) rfl))) (Or.inl (hw _ (List.mem_of_getElem? (i := 33) rfl))) (by decide) (t := (.array .int)) (t' := .int) (by decide) (by decide)))).other W87 (Or.inl n_o1_mg))
        have G94 : Fld Z h87 o1 "org/querne/sparql/SeedMerge" "seedColumnCount" "I" (.int cc) := ((((((F5.other W7 (Or.inl n_o1_sd)).other W13 (Or.inr (slot_ne (Or.inl (hw _ (List.mem_of_getElem? (i := 35) rfl))) (Or.inl (hw _ (List.mem_of_getElem? (i := 33) rfl))) (by decide) (t := .int) (t' := .int) (by decide) (by decide)))).other W15 (Or.inl n_o1_mg)).other W79 (Or.inl n_o1_sd)).other W85 (Or.inr (slot_ne (Or.inl (hw _ (List.mem_of_getElem? (i := 35) rfl))) (Or.inl (hw _ (List.mem_of_getElem? (i := 33) rfl))) (by decide) (t := .int) (t' := .int) (by decide) (by decide)))).other W87 (Or.inl n_o1_mg))
        have G95 : Fld Z h87 o1 "org/querne/sparql/SeedMerge" "mergedCount" "I" (.int (2 : Int32)) := (G85w.other W87 (Or.inl n_o1_mg))
        have V96 : Arv Z h87 sd kD .int (4 : Int32) (es78.map Value.int) (.int (0 : Int32)) := ((V79p.other W85 (Ne.symm n_o1_sd)).other W87 n_sd_mg)
        refine E_return cx st89 d6_76 rfl (by decide) (by decide) ?_
        exact ⟨rfl, K87, G88, G91, G92, G93, G94, (2 : Int32), es78, x0, x2, z2, G95, l_es78, V96, V87p⟩
      · refine E_icmp_neY (pc' := 70) cx st75 d6_40 (by decide) (by decide) c76 ?_
        refine E_iinc (pc' := 73) (L' := #[.val (.ref o1), .val (.ref gr), .val (.int (0 : Int32)), .val (.int (3 : Int32)), .val (.int y2), .val (.int x2)]) cx st75 (1 : Int32) d6_70 rfl rfl rfl rfl ?_
        refine E_goto (pc' := 2) cx st75 d6_73 (by decide) (by decide) ?_
        refine E_iloadN (pc' := 3) cx st75 d6_2 rfl rfl ?_
        refine E_aloadN (pc' := 4) cx st75 d6_3 rfl rfl rfl ?_
        refine E_getfield (pc' := 7) cx st75 (hw _ (List.mem_of_getElem? (i := 19) rfl)) G16 d6_4 rfl ?_
        intro T97 st97
        refine E_arraylength (pc' := 8) cx st97 V18 d6_7 rfl ?_
        refine E_icmp_geY (pc' := 76) cx st97 d6_8 (by decide) (by decide) (by decide) ?_
        have G98 : Fld Z h15 o1 "org/querne/sparql/SeedMerge" "seedColumns" "[I" (.ref sc) := (((F3.other W7 (Or.inl n_o1_sd)).other W13 (Or.inr (slot_ne (Or.inr (hw _ (List.mem_of_getElem? (i := 22) rfl))) (Or.inl (hw _ (List.mem_of_getElem? (i := 33) rfl))) (by decide) (t := (.array .int)) (t' := .int) (by decide) (by decide)))).other W15 (Or.inl n_o1_mg))
        have G99 : Fld Z h15 o1 "org/querne/sparql/SeedMerge" "merged" "[I" (.ref mg) := ((G8.other W13 (Or.inr (slot_ne (Or.inr (hw _ (List.mem_of_getElem? (i := 24) rfl))) (Or.inl (hw _ (List.mem_of_getElem? (i := 33) rfl))) (by decide) (t := (.array .int)) (t' := .int) (by decide) (by decide)))).other W15 (Or.inl n_o1_mg))
        have G100 : Fld Z h15 o1 "org/querne/sparql/SeedMerge" "seedColumnCount" "I" (.int cc) := (((F5.other W7 (Or.inl n_o1_sd)).other W13 (Or.inr (slot_ne (Or.inl (hw _ (List.mem_of_getElem? (i := 35) rfl))) (Or.inl (hw _ (List.mem_of_getElem? (i := 33) rfl))) (by decide) (t := .int) (t' := .int) (by decide) (by decide)))).other W15 (Or.inl n_o1_mg))
        have G101 : Fld Z h15 o1 "org/querne/sparql/SeedMerge" "mergedCount" "I" (.int (1 : Int32)) := (G13w.other W15 (Or.inl n_o1_mg))
        refine E_return cx st97 d6_76 rfl (by decide) (by decide) ?_
        exact ⟨rfl, K15, G16, G22, G98, G99, G100, (1 : Int32), es6, x0, z1, z2, G101, l_es6, V24, V15p⟩
  · refine E_icmp_neY (pc' := 70) cx st3 d6_40 (by decide) (by decide) c4 ?_
    refine E_iinc (pc' := 73) (L' := #[.val (.ref o1), .val (.ref gr), .val (.int (0 : Int32)), .val (.int (1 : Int32)), .val (.int y0), .val (.int x0)]) cx st3 (1 : Int32) d6_70 rfl rfl rfl rfl ?_
    refine E_goto (pc' := 2) cx st3 d6_73 (by decide) (by decide) ?_
    refine E_iloadN (pc' := 3) cx st3 d6_2 rfl rfl ?_
    refine E_aloadN (pc' := 4) cx st3 d6_3 rfl rfl rfl ?_
    refine E_getfield (pc' := 7) cx st3 (hw _ (List.mem_of_getElem? (i := 19) rfl)) F1 d6_4 rfl ?_
    intro T102 st102
    refine E_arraylength (pc' := 8) cx st102 VS d6_7 rfl ?_
    refine E_icmp_geN (pc' := 11) cx st102 d6_8 rfl (by decide) ?_
    refine E_aloadN (pc' := 12) cx st102 d6_11 rfl rfl rfl ?_
    refine E_iloadN (pc' := 13) cx st102 d6_12 rfl rfl ?_
    refine E_aaload (pc' := 14) cx st102 VG rfl ⟨by decide, by decide⟩ rfl d6_13 rfl ?_
    refine E_iloadN (pc' := 15) cx st102 d6_14 rfl rfl ?_
    refine E_iaload (pc' := 16) (x := y1) cx st102 VR1 ⟨by decide, by decide⟩ rfl d6_15 rfl ?_
    refine E_istore (pc' := 18) (L' := #[.val (.ref o1), .val (.ref gr), .val (.int (0 : Int32)), .val (.int (1 : Int32)), .val (.int y1), .val (.int x0)]) cx st102 d6_16 rfl rfl ?_
    refine E_aloadN (pc' := 19) cx st102 d6_18 rfl rfl rfl ?_
    refine E_getfield (pc' := 22) cx st102 (hw _ (List.mem_of_getElem? (i := 19) rfl)) F1 d6_19 rfl ?_
    intro T103 st103
    refine E_iloadN (pc' := 23) cx st103 d6_22 rfl rfl ?_
    refine E_iaload (pc' := 24) (x := x1) cx st103 VS ⟨by decide, by decide⟩ rfl d6_23 rfl ?_
    refine E_istore (pc' := 26) (L' := #[.val (.ref o1), .val (.ref gr), .val (.int (0 : Int32)), .val (.int (1 : Int32)), .val (.int y1), .val (.int x1)]) cx st103 d6_24 rfl rfl ?_
    refine E_iload (pc' := 28) cx st103 d6_26 rfl rfl ?_
    refine E_iconst (pc' := 29) cx st103 (-1 : Int32) d6_28 rfl rfl ?_
    refine E_icmp_eqN (pc' := 32) cx st103 d6_29 rfl hy1 ?_
    refine E_aloadN (pc' := 33) cx st103 d6_32 rfl rfl rfl ?_
    refine E_getfield (pc' := 36) cx st103 (hw _ (List.mem_of_getElem? (i := 30) rfl)) F2 d6_33 rfl ?_
    intro T104 st104
    refine E_iload (pc' := 38) cx st104 d6_36 rfl rfl ?_
    refine E_iaload (pc' := 39) (x := (es0.getD x1.toNatClampNeg 0)) cx st104 VDm hx1 (getD_int es0 _ 0) d6_38 rfl ?_
    refine E_iconst (pc' := 40) cx st104 (-1 : Int32) d6_39 rfl rfl ?_
    by_cases c105 : (es0.getD x1.toNatClampNeg 0) = (-1 : Int32)
    · refine E_icmp_neN (pc' := 43) cx st104 d6_40 rfl c105 ?_
      refine E_aloadN (pc' := 44) cx st104 d6_43 rfl rfl rfl ?_
      refine E_getfield (pc' := 47) cx st104 (hw _ (List.mem_of_getElem? (i := 30) rfl)) F2 d6_44 rfl ?_
      intro T106 st106
      refine E_iload (pc' := 49) cx st106 d6_47 rfl rfl ?_
      refine E_iload (pc' := 51) cx st106 d6_49 rfl rfl ?_
      refine E_iastore (pc' := 52) (i := x1.toNatClampNeg) cx st106 VDm hx1 rfl (by rw [List.length_map, l_es0]; exact (i32_small (n := 4) hx1 (by decide)).1) g_sd d6_51 rfl ?_
      intro T108 h108 st108 W108 V108
      have Z108 : n0 ≤ h108.size := Nat.le_trans Z0 (Keep.of_wr W108).1
      have K108 : Keep h0 h108 [o1, sd, mg] := (Keep.refl h0 [o1, sd, mg]).wr W108 (Or.inl (List.mem_of_getElem? (i := 1) rfl))
      obtain ⟨es107, h_es107⟩ : ∃ z, z = es0.set x1.toNatClampNeg y1 := ⟨_, rfl⟩
      have V108p : Arv Z h108 sd kD .int (4 : Int32) (es107.map Value.int) (.int (0 : Int32)) := by rw [h_es107]; rw [show es0.set x1.toNatClampNeg y1 = es0.set x1.toNatClampNeg y1 from rfl, List.map_set]; exact V108
      have l_es107 : es107.length = 4 := by rw [h_es107, show es0.set x1.toNatClampNeg y1 = es0.set x1.toNatClampNeg y1 from rfl, List.length_set]; exact l_es0
      refine E_aloadN (pc' := 53) cx st108 d6_52 rfl rfl rfl ?_
      have G109 : Fld Z h108 o1 "org/querne/sparql/SeedMerge" "merged" "[I" (.ref mg) := (F4.other W108 (Or.inl n_o1_sd))
      refine E_getfield (pc' := 56) cx st108 (hw _ (List.mem_of_getElem? (i := 23) rfl)) G109 d6_53 rfl ?_
      intro T110 st110
      refine E_aloadN (pc' := 57) cx st110 d6_56 rfl rfl rfl ?_
      refine E_dup (pc' := 58) cx st110 d6_57 rfl rfl ?_
      have G111 : Fld Z h108 o1 "org/querne/sparql/SeedMerge" "mergedCount" "I" (.int (0 : Int32)) := (F6.other W108 (Or.inl n_o1_sd))
      refine E_getfield (pc' := 61) cx st110 (hw _ (List.mem_of_getElem? (i := 32) rfl)) G111 d6_58 rfl ?_
      intro T112 st112
      refine E_dup_x1 (pc' := 62) cx st112 d6_61 rfl rfl rfl ?_
      refine E_iconst (pc' := 63) cx st112 (1 : Int32) d6_62 rfl rfl ?_
      refine E_iadd (pc' := 64) cx st112 d6_63 rfl ?_
      rw [show ((0 : Int32) + (1 : Int32)) = (1 : Int32) from by decide]
      have X113 : Exa Z h108 o1 "org/querne/sparql/SeedMerge" := (X0.wr W108)
      refine E_putfield (pc' := 67) (ty := .int) cx st112 (hw _ (List.mem_of_getElem? (i := 32) rfl)) G111 X113 (Or.inl (hw _ (List.mem_of_getElem? (i := 33) rfl))) (hw _ (List.mem_of_getElem? (i := 11) rfl)) (by decide) rfl rfl g_o1 d6_64 rfl ?_
      intro T114 h114 st114 W114
      have Z114 : n0 ≤ h114.size := Nat.le_trans Z108 (Keep.of_wr W114).1
      have K114 : Keep h0 h114 [o1, sd, mg] := K108.wr W114 (Or.inl (List.mem_of_getElem? (i := 0) rfl))
      have G114w : Fld Z h114 o1 "org/querne/sparql/SeedMerge" "mergedCount" "I" (.int (1 : Int32)) := G111.same W114
      refine E_iload (pc' := 69) cx st114 d6_67 rfl rfl ?_
      have V115 : Arv Z h114 mg kM .int (3 : Int32) [(.int z0), (.int z1), (.int z2)] (.int (0 : Int32)) := ((VM.other W108 (Ne.symm n_sd_mg)).other W114 (Ne.symm n_o1_mg))
      refine E_iastore (pc' := 70) (i := 0) cx st114 V115 ⟨by decide, by decide⟩ rfl (Nat.le_of_ble_eq_true rfl) g_mg d6_69 rfl ?_
      intro T116 h116 st116 W116 V116
      have Z116 : n0 ≤ h116.size := Nat.le_trans Z114 (Keep.of_wr W116).1
      have K116 : Keep h0 h116 [o1, sd, mg] := K114.wr W116 (Or.inl (List.mem_of_getElem? (i := 2) rfl))
      have V116p : Arv Z h116 mg kM .int (3 : Int32) [(.int x1), (.int z1), (.int z2)] (.int (0 : Int32)) := V116
      refine E_iinc (pc' := 73) (L' := #[.val (.ref o1), .val (.ref gr), .val (.int (0 : Int32)), .val (.int (2 : Int32)), .val (.int y1), .val (.int x1)]) cx st116 (1 : Int32) d6_70 rfl rfl rfl rfl ?_
      refine E_goto (pc' := 2) cx st116 d6_73 (by decide) (by decide) ?_
      refine E_iloadN (pc' := 3) cx st116 d6_2 rfl rfl ?_
      refine E_aloadN (pc' := 4) cx st116 d6_3 rfl rfl rfl ?_
      have G117 : Fld Z h116 o1 "org/querne/sparql/SeedMerge" "slots" "[I" (.ref sl) := (((F1.other W108 (Or.inl n_o1_sd)).other W114 (Or.inr (slot_ne (Or.inr (hw _ (List.mem_of_getElem? (i := 20) rfl))) (Or.inl (hw _ (List.mem_of_getElem? (i := 33) rfl))) (by decide) (t := (.array .int)) (t' := .int) (by decide) (by decide)))).other W116 (Or.inl n_o1_mg))
      refine E_getfield (pc' := 7) cx st116 (hw _ (List.mem_of_getElem? (i := 19) rfl)) G117 d6_4 rfl ?_
      intro T118 st118
      have V119 : Arv Z h116 sl kS .int (3 : Int32) [(.int x0), (.int x1), (.int x2)] (.int (0 : Int32)) := (((VS.other W108 (Ne.symm n_sd_sl)).other W114 (Ne.symm n_o1_sl)).other W116 (Ne.symm n_mg_sl))
      refine E_arraylength (pc' := 8) cx st118 V119 d6_7 rfl ?_
      refine E_icmp_geN (pc' := 11) cx st118 d6_8 rfl (by decide) ?_
      refine E_aloadN (pc' := 12) cx st118 d6_11 rfl rfl rfl ?_
      refine E_iloadN (pc' := 13) cx st118 d6_12 rfl rfl ?_
      have V120 : Arv Z h116 gr kG (.array .int) (3 : Int32) [(.ref r0), (.ref r1), (.ref r2)] .null := (((VG.other W108 (Ne.symm n_sd_gr)).other W114 (Ne.symm n_o1_gr)).other W116 (Ne.symm n_mg_gr))
      refine E_aaload (pc' := 14) cx st118 V120 rfl ⟨by decide, by decide⟩ rfl d6_13 rfl ?_
      refine E_iloadN (pc' := 15) cx st118 d6_14 rfl rfl ?_
      have V121 : Arv Z h116 r2 kR .int (1 : Int32) [(.int y2)] (.int (0 : Int32)) := (((VR2.other W108 (Ne.symm n_sd_r2)).other W114 (Ne.symm n_o1_r2)).other W116 (Ne.symm n_mg_r2))
      refine E_iaload (pc' := 16) (x := y2) cx st118 V121 ⟨by decide, by decide⟩ rfl d6_15 rfl ?_
      refine E_istore (pc' := 18) (L' := #[.val (.ref o1), .val (.ref gr), .val (.int (0 : Int32)), .val (.int (2 : Int32)), .val (.int y2), .val (.int x1)]) cx st118 d6_16 rfl rfl ?_
      refine E_aloadN (pc' := 19) cx st118 d6_18 rfl rfl rfl ?_
      refine E_getfield (pc' := 22) cx st118 (hw _ (List.mem_of_getElem? (i := 19) rfl)) G117 d6_19 rfl ?_
      intro T122 st122
      refine E_iloadN (pc' := 23) cx st122 d6_22 rfl rfl ?_
      refine E_iaload (pc' := 24) (x := x2) cx st122 V119 ⟨by decide, by decide⟩ rfl d6_23 rfl ?_
      refine E_istore (pc' := 26) (L' := #[.val (.ref o1), .val (.ref gr), .val (.int (0 : Int32)), .val (.int (2 : Int32)), .val (.int y2), .val (.int x2)]) cx st122 d6_24 rfl rfl ?_
      refine E_iload (pc' := 28) cx st122 d6_26 rfl rfl ?_
      refine E_iconst (pc' := 29) cx st122 (-1 : Int32) d6_28 rfl rfl ?_
      refine E_icmp_eqN (pc' := 32) cx st122 d6_29 rfl hy2 ?_
      refine E_aloadN (pc' := 33) cx st122 d6_32 rfl rfl rfl ?_
      have G123 : Fld Z h116 o1 "org/querne/sparql/SeedMerge" "seed" "[I" (.ref sd) := (((F2.other W108 (Or.inl n_o1_sd)).other W114 (Or.inr (slot_ne (Or.inl (hw _ (List.mem_of_getElem? (i := 31) rfl))) (Or.inl (hw _ (List.mem_of_getElem? (i := 33) rfl))) (by decide) (t := (.array .int)) (t' := .int) (by decide) (by decide)))).other W116 (Or.inl n_o1_mg))
      refine E_getfield (pc' := 36) cx st122 (hw _ (List.mem_of_getElem? (i := 30) rfl)) G123 d6_33 rfl ?_
      intro T124 st124
      refine E_iload (pc' := 38) cx st124 d6_36 rfl rfl ?_
      have V125 : Arv Z h116 sd kD .int (4 : Int32) (es107.map Value.int) (.int (0 : Int32)) := ((V108p.other W114 (Ne.symm n_o1_sd)).other W116 n_sd_mg)
      refine E_iaload (pc' := 39) (x := (es107.getD x2.toNatClampNeg 0)) cx st124 V125 hx2 (getD_int es107 _ 0) d6_38 rfl ?_
      refine E_iconst (pc' := 40) cx st124 (-1 : Int32) d6_39 rfl rfl ?_
      by_cases c126 : (es107.getD x2.toNatClampNeg 0) = (-1 : Int32)
      · refine E_icmp_neN (pc' := 43) cx st124 d6_40 rfl c126 ?_
        refine E_aloadN (pc' := 44) cx st124 d6_43 rfl rfl rfl ?_
        refine E_getfield (pc' := 47) cx st124 (hw _ (List.mem_of_getElem? (i := 30) rfl)) G123 d6_44 rfl ?_
        intro T127 st127
        refine E_iload (pc' := 49) cx st127 d6_47 rfl rfl ?_
        refine E_iload (pc' := 51) cx st127 d6_49 rfl rfl ?_
        refine E_iastore (pc' := 52) (i := x2.toNatClampNeg) cx st127 V125 hx2 rfl (by rw [List.length_map, l_es107]; exact (i32_small (n := 4) hx2 (by decide)).1) g_sd d6_51 rfl ?_
        intro T129 h129 st129 W129 V129
        have Z129 : n0 ≤ h129.size := Nat.le_trans Z116 (Keep.of_wr W129).1
        have K129 : Keep h0 h129 [o1, sd, mg] := K116.wr W129 (Or.inl (List.mem_of_getElem? (i := 1) rfl))
        obtain ⟨es128, h_es128⟩ : ∃ z, z = es107.set x2.toNatClampNeg y2 := ⟨_, rfl⟩
        have V129p : Arv Z h129 sd kD .int (4 : Int32) (es128.map Value.int) (.int (0 : Int32)) := by rw [h_es128]; rw [show es107.set x2.toNatClampNeg y2 = es107.set x2.toNatClampNeg y2 from rfl, List.map_set]; exact V129
        have l_es128 : es128.length = 4 := by rw [h_es128, show es107.set x2.toNatClampNeg y2 = es107.set x2.toNatClampNeg y2 from rfl, List.length_set]; exact l_es107
        refine E_aloadN (pc' := 53) cx st129 d6_52 rfl rfl rfl ?_
        have G130 : Fld Z h129 o1 "org/querne/sparql/SeedMerge" "merged" "[I" (.ref mg) := (((G109.other W114 (Or.inr (slot_ne (Or.inr (hw _ (List.mem_of_getElem? (i := 24) rfl))) (Or.inl (hw _ (List.mem_of_getElem? (i := 33) rfl))) (by decide) (t := (.array .int)) (t' := .int) (by decide) (by decide)))).other W116 (Or.inl n_o1_mg)).other W129 (Or.inl n_o1_sd))
        refine E_getfield (pc' := 56) cx st129 (hw _ (List.mem_of_getElem? (i := 23) rfl)) G130 d6_53 rfl ?_
        intro T131 st131
        refine E_aloadN (pc' := 57) cx st131 d6_56 rfl rfl rfl ?_
        refine E_dup (pc' := 58) cx st131 d6_57 rfl rfl ?_
        have G132 : Fld Z h129 o1 "org/querne/sparql/SeedMerge" "mergedCount" "I" (.int (1 : Int32)) := ((G114w.other W116 (Or.inl n_o1_mg)).other W129 (Or.inl n_o1_sd))
        refine E_getfield (pc' := 61) cx st131 (hw _ (List.mem_of_getElem? (i := 32) rfl)) G132 d6_58 rfl ?_
        intro T133 st133
        refine E_dup_x1 (pc' := 62) cx st133 d6_61 rfl rfl rfl ?_
        refine E_iconst (pc' := 63) cx st133 (1 : Int32) d6_62 rfl rfl ?_
        refine E_iadd (pc' := 64) cx st133 d6_63 rfl ?_
        rw [show ((1 : Int32) + (1 : Int32)) = (2 : Int32) from by decide]
        have X134 : Exa Z h129 o1 "org/querne/sparql/SeedMerge" := (((X113.wr W114).wr W116).wr W129)
        refine E_putfield (pc' := 67) (ty := .int) cx st133 (hw _ (List.mem_of_getElem? (i := 32) rfl)) G132 X134 (Or.inl (hw _ (List.mem_of_getElem? (i := 33) rfl))) (hw _ (List.mem_of_getElem? (i := 11) rfl)) (by decide) rfl rfl g_o1 d6_64 rfl ?_
        intro T135 h135 st135 W135
        have Z135 : n0 ≤ h135.size := Nat.le_trans Z129 (Keep.of_wr W135).1
        have K135 : Keep h0 h135 [o1, sd, mg] := K129.wr W135 (Or.inl (List.mem_of_getElem? (i := 0) rfl))
        have G135w : Fld Z h135 o1 "org/querne/sparql/SeedMerge" "mergedCount" "I" (.int (2 : Int32)) := G132.same W135
        refine E_iload (pc' := 69) cx st135 d6_67 rfl rfl ?_
        have V136 : Arv Z h135 mg kM .int (3 : Int32) [(.int x1), (.int z1), (.int z2)] (.int (0 : Int32)) := ((V116p.other W129 (Ne.symm n_sd_mg)).other W135 (Ne.symm n_o1_mg))
        refine E_iastore (pc' := 70) (i := 1) cx st135 V136 ⟨by decide, by decide⟩ rfl (Nat.le_of_ble_eq_true rfl) g_mg d6_69 rfl ?_
        intro T137 h137 st137 W137 V137
        have Z137 : n0 ≤ h137.size := Nat.le_trans Z135 (Keep.of_wr W137).1
        have K137 : Keep h0 h137 [o1, sd, mg] := K135.wr W137 (Or.inl (List.mem_of_getElem? (i := 2) rfl))
        have V137p : Arv Z h137 mg kM .int (3 : Int32) [(.int x1), (.int x2), (.int z2)] (.int (0 : Int32)) := V137
        refine E_iinc (pc' := 73) (L' := #[.val (.ref o1), .val (.ref gr), .val (.int (0 : Int32)), .val (.int (3 : Int32)), .val (.int y2), .val (.int x2)]) cx st137 (1 : Int32) d6_70 rfl rfl rfl rfl ?_
        refine E_goto (pc' := 2) cx st137 d6_73 (by decide) (by decide) ?_
        refine E_iloadN (pc' := 3) cx st137 d6_2 rfl rfl ?_
        refine E_aloadN (pc' := 4) cx st137 d6_3 rfl rfl rfl ?_
        have G138 : Fld Z h137 o1 "org/querne/sparql/SeedMerge" "slots" "[I" (.ref sl) := (((G117.other W129 (Or.inl n_o1_sd)).other W135 (Or.inr (slot_ne (Or.inr (hw _ (List.mem_of_getElem? (i := 20) rfl))) (Or.inl (hw _ (List.mem_of_getElem? (i := 33) rfl))) (by decide) (t := (.array .int)) (t' := .int) (by decide) (by decide)))).other W137 (Or.inl n_o1_mg))
        refine E_getfield (pc' := 7) cx st137 (hw _ (List.mem_of_getElem? (i := 19) rfl)) G138 d6_4 rfl ?_
        intro T139 st139
        have V140 : Arv Z h137 sl kS .int (3 : Int32) [(.int x0), (.int x1), (.int x2)] (.int (0 : Int32)) := (((V119.other W129 (Ne.symm n_sd_sl)).other W135 (Ne.symm n_o1_sl)).other W137 (Ne.symm n_mg_sl))
        refine E_arraylength (pc' := 8) cx st139 V140 d6_7 rfl ?_
        refine E_icmp_geY (pc' := 76) cx st139 d6_8 (by decide) (by decide) (by decide) ?_
        have G141 : Fld Z h137 o1 "org/querne/sparql/SeedMerge" "seed" "[I" (.ref sd) := (((G123.other W129 (Or.inl n_o1_sd)).other W135 (Or.inr (slot_ne (Or.inl (hw _ (List.mem_of_getElem? (i := 31) rfl))) (Or.inl (hw _ (List.mem_of_getElem? (i := 33) rfl))) (by decide) (t := (.array .int)) (t' := .int) (by decide) (by decide)))).other W137 (Or.inl n_o1_mg))
        have G142 : Fld Z h137 o1 "org/querne/sparql/SeedMerge" "seedColumns" "[I" (.ref sc) := ((((((F3.other W108 (Or.inl n_o1_sd)).other W114 (Or.inr (slot_ne (Or.inr (hw _ (List.mem_of_getElem? (i := 22) rfl))) (Or.inl (hw _ (List.mem_of_getElem? (i := 33) rfl))) (by decide) (t := (.array .int)) (t' := .int) (by decide) (by decide)))).other W116 (Or.inl n_o1_mg)).other W129 (Or.inl n_o1_sd)).other W135 (Or.inr (slot_ne (Or.inr (hw _ (List.mem_of_getElem? (i := 22) rfl))) (Or.inl (hw _ (List.mem_of_getElem? (i := 33) rfl))) (by decide) (t := (.array .int)) (t' := .int) (by decide) (by decide)))).other W137 (Or.inl n_o1_mg))
        have G143 : Fld Z h137 o1 "org/querne/sparql/SeedMerge" "merged" "[I" (.ref mg) := ((G130.other W135 (Or.inr (slot_ne (Or.inr (hw _ (List.mem_of_getElem? (i := 24) rfl))) (Or.inl (hw _ (List.mem_of_getElem? (i := 33) rfl))) (by decide) (t := (.array .int)) (t' := .int) (by decide) (by decide)))).other W137 (Or.inl n_o1_mg))
        have G144 : Fld Z h137 o1 "org/querne/sparql/SeedMerge" "seedColumnCount" "I" (.int cc) := ((((((F5.other W108 (Or.inl n_o1_sd)).other W114 (Or.inr (slot_ne (Or.inl (hw _ (List.mem_of_getElem? (i := 35) rfl))) (Or.inl (hw _ (List.mem_of_getElem? (i := 33) rfl))) (by decide) (t := .int) (t' := .int) (by decide) (by decide)))).other W116 (Or.inl n_o1_mg)).other W129 (Or.inl n_o1_sd)).other W135 (Or.inr (slot_ne (Or.inl (hw _ (List.mem_of_getElem? (i := 35) rfl))) (Or.inl (hw _ (List.mem_of_getElem? (i := 33) rfl))) (by decide) (t := .int) (t' := .int) (by decide) (by decide)))).other W137 (Or.inl n_o1_mg))
        have G145 : Fld Z h137 o1 "org/querne/sparql/SeedMerge" "mergedCount" "I" (.int (2 : Int32)) := (G135w.other W137 (Or.inl n_o1_mg))
        have V146 : Arv Z h137 sd kD .int (4 : Int32) (es128.map Value.int) (.int (0 : Int32)) := ((V129p.other W135 (Ne.symm n_o1_sd)).other W137 n_sd_mg)
        refine E_return cx st139 d6_76 rfl (by decide) (by decide) ?_
        exact ⟨rfl, K137, G138, G141, G142, G143, G144, (2 : Int32), es128, x1, x2, z2, G145, l_es128, V146, V137p⟩
      · refine E_icmp_neY (pc' := 70) cx st124 d6_40 (by decide) (by decide) c126 ?_
        refine E_iinc (pc' := 73) (L' := #[.val (.ref o1), .val (.ref gr), .val (.int (0 : Int32)), .val (.int (3 : Int32)), .val (.int y2), .val (.int x2)]) cx st124 (1 : Int32) d6_70 rfl rfl rfl rfl ?_
        refine E_goto (pc' := 2) cx st124 d6_73 (by decide) (by decide) ?_
        refine E_iloadN (pc' := 3) cx st124 d6_2 rfl rfl ?_
        refine E_aloadN (pc' := 4) cx st124 d6_3 rfl rfl rfl ?_
        refine E_getfield (pc' := 7) cx st124 (hw _ (List.mem_of_getElem? (i := 19) rfl)) G117 d6_4 rfl ?_
        intro T147 st147
        refine E_arraylength (pc' := 8) cx st147 V119 d6_7 rfl ?_
        refine E_icmp_geY (pc' := 76) cx st147 d6_8 (by decide) (by decide) (by decide) ?_
        have G148 : Fld Z h116 o1 "org/querne/sparql/SeedMerge" "seedColumns" "[I" (.ref sc) := (((F3.other W108 (Or.inl n_o1_sd)).other W114 (Or.inr (slot_ne (Or.inr (hw _ (List.mem_of_getElem? (i := 22) rfl))) (Or.inl (hw _ (List.mem_of_getElem? (i := 33) rfl))) (by decide) (t := (.array .int)) (t' := .int) (by decide) (by decide)))).other W116 (Or.inl n_o1_mg))
        have G149 : Fld Z h116 o1 "org/querne/sparql/SeedMerge" "merged" "[I" (.ref mg) := ((G109.other W114 (Or.inr (slot_ne (Or.inr (hw _ (List.mem_of_getElem? (i := 24) rfl))) (Or.inl (hw _ (List.mem_of_getElem? (i := 33) rfl))) (by decide) (t := (.array .int)) (t' := .int) (by decide) (by decide)))).other W116 (Or.inl n_o1_mg))
        have G150 : Fld Z h116 o1 "org/querne/sparql/SeedMerge" "seedColumnCount" "I" (.int cc) := (((F5.other W108 (Or.inl n_o1_sd)).other W114 (Or.inr (slot_ne (Or.inl (hw _ (List.mem_of_getElem? (i := 35) rfl))) (Or.inl (hw _ (List.mem_of_getElem? (i := 33) rfl))) (by decide) (t := .int) (t' := .int) (by decide) (by decide)))).other W116 (Or.inl n_o1_mg))
        have G151 : Fld Z h116 o1 "org/querne/sparql/SeedMerge" "mergedCount" "I" (.int (1 : Int32)) := (G114w.other W116 (Or.inl n_o1_mg))
        refine E_return cx st147 d6_76 rfl (by decide) (by decide) ?_
        exact ⟨rfl, K116, G117, G123, G148, G149, G150, (1 : Int32), es107, x1, z1, z2, G151, l_es107, V125, V116p⟩
    · refine E_icmp_neY (pc' := 70) cx st104 d6_40 (by decide) (by decide) c105 ?_
      refine E_iinc (pc' := 73) (L' := #[.val (.ref o1), .val (.ref gr), .val (.int (0 : Int32)), .val (.int (2 : Int32)), .val (.int y1), .val (.int x1)]) cx st104 (1 : Int32) d6_70 rfl rfl rfl rfl ?_
      refine E_goto (pc' := 2) cx st104 d6_73 (by decide) (by decide) ?_
      refine E_iloadN (pc' := 3) cx st104 d6_2 rfl rfl ?_
      refine E_aloadN (pc' := 4) cx st104 d6_3 rfl rfl rfl ?_
      refine E_getfield (pc' := 7) cx st104 (hw _ (List.mem_of_getElem? (i := 19) rfl)) F1 d6_4 rfl ?_
      intro T152 st152
      refine E_arraylength (pc' := 8) cx st152 VS d6_7 rfl ?_
      refine E_icmp_geN (pc' := 11) cx st152 d6_8 rfl (by decide) ?_
      refine E_aloadN (pc' := 12) cx st152 d6_11 rfl rfl rfl ?_
      refine E_iloadN (pc' := 13) cx st152 d6_12 rfl rfl ?_
      refine E_aaload (pc' := 14) cx st152 VG rfl ⟨by decide, by decide⟩ rfl d6_13 rfl ?_
      refine E_iloadN (pc' := 15) cx st152 d6_14 rfl rfl ?_
      refine E_iaload (pc' := 16) (x := y2) cx st152 VR2 ⟨by decide, by decide⟩ rfl d6_15 rfl ?_
      refine E_istore (pc' := 18) (L' := #[.val (.ref o1), .val (.ref gr), .val (.int (0 : Int32)), .val (.int (2 : Int32)), .val (.int y2), .val (.int x1)]) cx st152 d6_16 rfl rfl ?_
      refine E_aloadN (pc' := 19) cx st152 d6_18 rfl rfl rfl ?_
      refine E_getfield (pc' := 22) cx st152 (hw _ (List.mem_of_getElem? (i := 19) rfl)) F1 d6_19 rfl ?_
      intro T153 st153
      refine E_iloadN (pc' := 23) cx st153 d6_22 rfl rfl ?_
      refine E_iaload (pc' := 24) (x := x2) cx st153 VS ⟨by decide, by decide⟩ rfl d6_23 rfl ?_
      refine E_istore (pc' := 26) (L' := #[.val (.ref o1), .val (.ref gr), .val (.int (0 : Int32)), .val (.int (2 : Int32)), .val (.int y2), .val (.int x2)]) cx st153 d6_24 rfl rfl ?_
      refine E_iload (pc' := 28) cx st153 d6_26 rfl rfl ?_
      refine E_iconst (pc' := 29) cx st153 (-1 : Int32) d6_28 rfl rfl ?_
      refine E_icmp_eqN (pc' := 32) cx st153 d6_29 rfl hy2 ?_
      refine E_aloadN (pc' := 33) cx st153 d6_32 rfl rfl rfl ?_
      refine E_getfield (pc' := 36) cx st153 (hw _ (List.mem_of_getElem? (i := 30) rfl)) F2 d6_33 rfl ?_
      intro T154 st154
      refine E_iload (pc' := 38) cx st154 d6_36 rfl rfl ?_
      refine E_iaload (pc' := 39) (x := (es0.getD x2.toNatClampNeg 0)) cx st154 VDm hx2 (getD_int es0 _ 0) d6_38 rfl ?_
      refine E_iconst (pc' := 40) cx st154 (-1 : Int32) d6_39 rfl rfl ?_
      by_cases c155 : (es0.getD x2.toNatClampNeg 0) = (-1 : Int32)
      · refine E_icmp_neN (pc' := 43) cx st154 d6_40 rfl c155 ?_
        refine E_aloadN (pc' := 44) cx st154 d6_43 rfl rfl rfl ?_
        refine E_getfield (pc' := 47) cx st154 (hw _ (List.mem_of_getElem? (i := 30) rfl)) F2 d6_44 rfl ?_
        intro T156 st156
        refine E_iload (pc' := 49) cx st156 d6_47 rfl rfl ?_
        refine E_iload (pc' := 51) cx st156 d6_49 rfl rfl ?_
        refine E_iastore (pc' := 52) (i := x2.toNatClampNeg) cx st156 VDm hx2 rfl (by rw [List.length_map, l_es0]; exact (i32_small (n := 4) hx2 (by decide)).1) g_sd d6_51 rfl ?_
        intro T158 h158 st158 W158 V158
        have Z158 : n0 ≤ h158.size := Nat.le_trans Z0 (Keep.of_wr W158).1
        have K158 : Keep h0 h158 [o1, sd, mg] := (Keep.refl h0 [o1, sd, mg]).wr W158 (Or.inl (List.mem_of_getElem? (i := 1) rfl))
        obtain ⟨es157, h_es157⟩ : ∃ z, z = es0.set x2.toNatClampNeg y2 := ⟨_, rfl⟩
        have V158p : Arv Z h158 sd kD .int (4 : Int32) (es157.map Value.int) (.int (0 : Int32)) := by rw [h_es157]; rw [show es0.set x2.toNatClampNeg y2 = es0.set x2.toNatClampNeg y2 from rfl, List.map_set]; exact V158
        have l_es157 : es157.length = 4 := by rw [h_es157, show es0.set x2.toNatClampNeg y2 = es0.set x2.toNatClampNeg y2 from rfl, List.length_set]; exact l_es0
        refine E_aloadN (pc' := 53) cx st158 d6_52 rfl rfl rfl ?_
        have G159 : Fld Z h158 o1 "org/querne/sparql/SeedMerge" "merged" "[I" (.ref mg) := (F4.other W158 (Or.inl n_o1_sd))
        refine E_getfield (pc' := 56) cx st158 (hw _ (List.mem_of_getElem? (i := 23) rfl)) G159 d6_53 rfl ?_
        intro T160 st160
        refine E_aloadN (pc' := 57) cx st160 d6_56 rfl rfl rfl ?_
        refine E_dup (pc' := 58) cx st160 d6_57 rfl rfl ?_
        have G161 : Fld Z h158 o1 "org/querne/sparql/SeedMerge" "mergedCount" "I" (.int (0 : Int32)) := (F6.other W158 (Or.inl n_o1_sd))
        refine E_getfield (pc' := 61) cx st160 (hw _ (List.mem_of_getElem? (i := 32) rfl)) G161 d6_58 rfl ?_
        intro T162 st162
        refine E_dup_x1 (pc' := 62) cx st162 d6_61 rfl rfl rfl ?_
        refine E_iconst (pc' := 63) cx st162 (1 : Int32) d6_62 rfl rfl ?_
        refine E_iadd (pc' := 64) cx st162 d6_63 rfl ?_
        rw [show ((0 : Int32) + (1 : Int32)) = (1 : Int32) from by decide]
        have X163 : Exa Z h158 o1 "org/querne/sparql/SeedMerge" := (X0.wr W158)
        refine E_putfield (pc' := 67) (ty := .int) cx st162 (hw _ (List.mem_of_getElem? (i := 32) rfl)) G161 X163 (Or.inl (hw _ (List.mem_of_getElem? (i := 33) rfl))) (hw _ (List.mem_of_getElem? (i := 11) rfl)) (by decide) rfl rfl g_o1 d6_64 rfl ?_
        intro T164 h164 st164 W164
        have Z164 : n0 ≤ h164.size := Nat.le_trans Z158 (Keep.of_wr W164).1
        have K164 : Keep h0 h164 [o1, sd, mg] := K158.wr W164 (Or.inl (List.mem_of_getElem? (i := 0) rfl))
        have G164w : Fld Z h164 o1 "org/querne/sparql/SeedMerge" "mergedCount" "I" (.int (1 : Int32)) := G161.same W164
        refine E_iload (pc' := 69) cx st164 d6_67 rfl rfl ?_
        have V165 : Arv Z h164 mg kM .int (3 : Int32) [(.int z0), (.int z1), (.int z2)] (.int (0 : Int32)) := ((VM.other W158 (Ne.symm n_sd_mg)).other W164 (Ne.symm n_o1_mg))
        refine E_iastore (pc' := 70) (i := 0) cx st164 V165 ⟨by decide, by decide⟩ rfl (Nat.le_of_ble_eq_true rfl) g_mg d6_69 rfl ?_
        intro T166 h166 st166 W166 V166
        have Z166 : n0 ≤ h166.size := Nat.le_trans Z164 (Keep.of_wr W166).1
        have K166 : Keep h0 h166 [o1, sd, mg] := K164.wr W166 (Or.inl (List.mem_of_getElem? (i := 2) rfl))
        have V166p : Arv Z h166 mg kM .int (3 : Int32) [(.int x2), (.int z1), (.int z2)] (.int (0 : Int32)) := V166
        refine E_iinc (pc' := 73) (L' := #[.val (.ref o1), .val (.ref gr), .val (.int (0 : Int32)), .val (.int (3 : Int32)), .val (.int y2), .val (.int x2)]) cx st166 (1 : Int32) d6_70 rfl rfl rfl rfl ?_
        refine E_goto (pc' := 2) cx st166 d6_73 (by decide) (by decide) ?_
        refine E_iloadN (pc' := 3) cx st166 d6_2 rfl rfl ?_
        refine E_aloadN (pc' := 4) cx st166 d6_3 rfl rfl rfl ?_
        have G167 : Fld Z h166 o1 "org/querne/sparql/SeedMerge" "slots" "[I" (.ref sl) := (((F1.other W158 (Or.inl n_o1_sd)).other W164 (Or.inr (slot_ne (Or.inr (hw _ (List.mem_of_getElem? (i := 20) rfl))) (Or.inl (hw _ (List.mem_of_getElem? (i := 33) rfl))) (by decide) (t := (.array .int)) (t' := .int) (by decide) (by decide)))).other W166 (Or.inl n_o1_mg))
        refine E_getfield (pc' := 7) cx st166 (hw _ (List.mem_of_getElem? (i := 19) rfl)) G167 d6_4 rfl ?_
        intro T168 st168
        have V169 : Arv Z h166 sl kS .int (3 : Int32) [(.int x0), (.int x1), (.int x2)] (.int (0 : Int32)) := (((VS.other W158 (Ne.symm n_sd_sl)).other W164 (Ne.symm n_o1_sl)).other W166 (Ne.symm n_mg_sl))
        refine E_arraylength (pc' := 8) cx st168 V169 d6_7 rfl ?_
        refine E_icmp_geY (pc' := 76) cx st168 d6_8 (by decide) (by decide) (by decide) ?_
        have G170 : Fld Z h166 o1 "org/querne/sparql/SeedMerge" "seed" "[I" (.ref sd) := (((F2.other W158 (Or.inl n_o1_sd)).other W164 (Or.inr (slot_ne (Or.inl (hw _ (List.mem_of_getElem? (i := 31) rfl))) (Or.inl (hw _ (List.mem_of_getElem? (i := 33) rfl))) (by decide) (t := (.array .int)) (t' := .int) (by decide) (by decide)))).other W166 (Or.inl n_o1_mg))
        have G171 : Fld Z h166 o1 "org/querne/sparql/SeedMerge" "seedColumns" "[I" (.ref sc) := (((F3.other W158 (Or.inl n_o1_sd)).other W164 (Or.inr (slot_ne (Or.inr (hw _ (List.mem_of_getElem? (i := 22) rfl))) (Or.inl (hw _ (List.mem_of_getElem? (i := 33) rfl))) (by decide) (t := (.array .int)) (t' := .int) (by decide) (by decide)))).other W166 (Or.inl n_o1_mg))
        have G172 : Fld Z h166 o1 "org/querne/sparql/SeedMerge" "merged" "[I" (.ref mg) := ((G159.other W164 (Or.inr (slot_ne (Or.inr (hw _ (List.mem_of_getElem? (i := 24) rfl))) (Or.inl (hw _ (List.mem_of_getElem? (i := 33) rfl))) (by decide) (t := (.array .int)) (t' := .int) (by decide) (by decide)))).other W166 (Or.inl n_o1_mg))
        have G173 : Fld Z h166 o1 "org/querne/sparql/SeedMerge" "seedColumnCount" "I" (.int cc) := (((F5.other W158 (Or.inl n_o1_sd)).other W164 (Or.inr (slot_ne (Or.inl (hw _ (List.mem_of_getElem? (i := 35) rfl))) (Or.inl (hw _ (List.mem_of_getElem? (i := 33) rfl))) (by decide) (t := .int) (t' := .int) (by decide) (by decide)))).other W166 (Or.inl n_o1_mg))
        have G174 : Fld Z h166 o1 "org/querne/sparql/SeedMerge" "mergedCount" "I" (.int (1 : Int32)) := (G164w.other W166 (Or.inl n_o1_mg))
        have V175 : Arv Z h166 sd kD .int (4 : Int32) (es157.map Value.int) (.int (0 : Int32)) := ((V158p.other W164 (Ne.symm n_o1_sd)).other W166 n_sd_mg)
        refine E_return cx st168 d6_76 rfl (by decide) (by decide) ?_
        exact ⟨rfl, K166, G167, G170, G171, G172, G173, (1 : Int32), es157, x2, z1, z2, G174, l_es157, V175, V166p⟩
      · refine E_icmp_neY (pc' := 70) cx st154 d6_40 (by decide) (by decide) c155 ?_
        refine E_iinc (pc' := 73) (L' := #[.val (.ref o1), .val (.ref gr), .val (.int (0 : Int32)), .val (.int (3 : Int32)), .val (.int y2), .val (.int x2)]) cx st154 (1 : Int32) d6_70 rfl rfl rfl rfl ?_
        refine E_goto (pc' := 2) cx st154 d6_73 (by decide) (by decide) ?_
        refine E_iloadN (pc' := 3) cx st154 d6_2 rfl rfl ?_
        refine E_aloadN (pc' := 4) cx st154 d6_3 rfl rfl rfl ?_
        refine E_getfield (pc' := 7) cx st154 (hw _ (List.mem_of_getElem? (i := 19) rfl)) F1 d6_4 rfl ?_
        intro T176 st176
        refine E_arraylength (pc' := 8) cx st176 VS d6_7 rfl ?_
        refine E_icmp_geY (pc' := 76) cx st176 d6_8 (by decide) (by decide) (by decide) ?_
        refine E_return cx st176 d6_76 rfl (by decide) (by decide) ?_
        exact ⟨rfl, (Keep.refl h0 [o1, sd, mg]), F1, F2, F3, F4, F5, (0 : Int32), es0, z0, z1, z2, F6, l_es0, VDm, VM⟩
theorem d7_0 : decode prog_348_method_3_code 0 = .ok (.aload_n 0, 1) := by decide +kernel
theorem d7_1 : decode prog_348_method_3_code 1 = .ok (.getfield 26, 3) := by decide +kernel
theorem d7_4 : decode prog_348_method_3_code 4 = .ok (.ireturn, 1) := by decide +kernel
theorem ef_7 (m : MethodId) (x0 : Addr) : entryFrame m #[(.ref x0)] 1 = mkF m 0 #[.val (.ref x0)] [] := by first | (simp [entryFrame, mkF, argsToLocals, Value.category]; done) | rfl
set_option maxRecDepth 65536 in
set_option maxHeartbeats 40000000 in
theorem rm7 (l : Launch) (Z : State) (a0 : Array Value) (hw : ∀ d ∈ tables_1, d.before a0 Z = true) (o1 : Addr) (cc : Int32) (h0 : Heap) (n0 : Nat) (Z0 : n0 ≤ h0.size) (F1 : Fld Z h0 o1 "org/querne/sparql/SeedMerge" "seedColumnCount" "I" (.int cc)) :
    Con l Z (⟨"org/querne/sparql/SeedMerge", "seedColumnCount", "()I"⟩ : MethodName) prog_348_method_3_code 1 (some .int) ({ frames := 0, cells := 0, slots := 0, locals := 0 } : Room) #[(.ref o1)] h0 n0 (fun v h => v = some (.int cc) ∧ h = h0) := by
  refine Con.of (own := "org/querne/sparql/SeedMerge") (name := "seedColumnCount") (plainFor_of_name pn_1) (fun m => ef_7 m o1) rfl rfl ?_
  intro p e s m below meth c T F S cx st
  refine E_aloadN (pc' := 1) cx st d7_0 rfl rfl rfl ?_
  refine E_getfield (pc' := 4) cx st (hw _ (List.mem_of_getElem? (i := 34) rfl)) F1 d7_1 rfl ?_
  intro T1 st1
  refine E_ireturn (t := .int) cx st1 d7_4 rfl (by simp) rfl (by decide) (by decide) ?_
  exact ⟨rfl, rfl⟩
theorem d8_0 : decode prog_348_method_4_code 0 = .ok (.aload_n 0, 1) := by decide +kernel
theorem d8_1 : decode prog_348_method_4_code 1 = .ok (.getfield 13, 3) := by decide +kernel
theorem d8_4 : decode prog_348_method_4_code 4 = .ok (.iload_n 1, 1) := by decide +kernel
theorem d8_5 : decode prog_348_method_4_code 5 = .ok (.iaload, 1) := by decide +kernel
theorem d8_6 : decode prog_348_method_4_code 6 = .ok (.ireturn, 1) := by decide +kernel
theorem ef_8i0 (m : MethodId) (x0 : Addr) (x1 : Int32) : entryFrame m #[(.ref x0), (.int x1)] 2 = mkF m 0 #[.val (.ref x0), .val (.int x1)] [] := by first | (simp [entryFrame, mkF, argsToLocals, Value.category]; done) | rfl
set_option maxRecDepth 65536 in
set_option maxHeartbeats 40000000 in
theorem rm8i0 (l : Launch) (Z : State) (a0 : Array Value) (hw : ∀ d ∈ tables_1, d.before a0 Z = true) (o1 : Addr) (sc : Addr) (z0 : Int32) (z1 : Int32) (z2 : Int32) (h0 : Heap) (n0 : Nat) (Z0 : n0 ≤ h0.size) (kC : ClassId) (F1 : Fld Z h0 o1 "org/querne/sparql/SeedMerge" "seedColumns" "[I" (.ref sc)) (VC : Arv Z h0 sc kC .int (3 : Int32) [(.int z0), (.int z1), (.int z2)] (.int (0 : Int32))) :
    Con l Z (⟨"org/querne/sparql/SeedMerge", "seedColumn", "(I)I"⟩ : MethodName) prog_348_method_4_code 2 (some .int) ({ frames := 0, cells := 0, slots := 0, locals := 0 } : Room) #[(.ref o1), (.int (0 : Int32))] h0 n0 (fun v h => v = some (.int z0) ∧ h = h0) := by
  refine Con.of (own := "org/querne/sparql/SeedMerge") (name := "seedColumn") (plainFor_of_name pn_1) (fun m => ef_8i0 m o1 (0 : Int32)) rfl rfl ?_
  intro p e s m below meth c T F S cx st
  refine E_aloadN (pc' := 1) cx st d8_0 rfl rfl rfl ?_
  refine E_getfield (pc' := 4) cx st (hw _ (List.mem_of_getElem? (i := 21) rfl)) F1 d8_1 rfl ?_
  intro T1 st1
  refine E_iloadN (pc' := 5) cx st1 d8_4 rfl rfl ?_
  refine E_iaload (pc' := 6) (x := z0) cx st1 VC ⟨by decide, by decide⟩ rfl d8_5 rfl ?_
  refine E_ireturn (t := .int) cx st1 d8_6 rfl (by simp) rfl (by decide) (by decide) ?_
  exact ⟨rfl, rfl⟩
theorem ef_8i1 (m : MethodId) (x0 : Addr) (x1 : Int32) : entryFrame m #[(.ref x0), (.int x1)] 2 = mkF m 0 #[.val (.ref x0), .val (.int x1)] [] := by first | (simp [entryFrame, mkF, argsToLocals, Value.category]; done) | rfl
set_option maxRecDepth 65536 in
set_option maxHeartbeats 40000000 in
theorem rm8i1 (l : Launch) (Z : State) (a0 : Array Value) (hw : ∀ d ∈ tables_1, d.before a0 Z = true) (o1 : Addr) (sc : Addr) (z0 : Int32) (z1 : Int32) (z2 : Int32) (h0 : Heap) (n0 : Nat) (Z0 : n0 ≤ h0.size) (kC : ClassId) (F1 : Fld Z h0 o1 "org/querne/sparql/SeedMerge" "seedColumns" "[I" (.ref sc)) (VC : Arv Z h0 sc kC .int (3 : Int32) [(.int z0), (.int z1), (.int z2)] (.int (0 : Int32))) :
    Con l Z (⟨"org/querne/sparql/SeedMerge", "seedColumn", "(I)I"⟩ : MethodName) prog_348_method_4_code 2 (some .int) ({ frames := 0, cells := 0, slots := 0, locals := 0 } : Room) #[(.ref o1), (.int (1 : Int32))] h0 n0 (fun v h => v = some (.int z1) ∧ h = h0) := by
  refine Con.of (own := "org/querne/sparql/SeedMerge") (name := "seedColumn") (plainFor_of_name pn_1) (fun m => ef_8i1 m o1 (1 : Int32)) rfl rfl ?_
  intro p e s m below meth c T F S cx st
  refine E_aloadN (pc' := 1) cx st d8_0 rfl rfl rfl ?_
  refine E_getfield (pc' := 4) cx st (hw _ (List.mem_of_getElem? (i := 21) rfl)) F1 d8_1 rfl ?_
  intro T1 st1
  refine E_iloadN (pc' := 5) cx st1 d8_4 rfl rfl ?_
  refine E_iaload (pc' := 6) (x := z1) cx st1 VC ⟨by decide, by decide⟩ rfl d8_5 rfl ?_
  refine E_ireturn (t := .int) cx st1 d8_6 rfl (by simp) rfl (by decide) (by decide) ?_
  exact ⟨rfl, rfl⟩
theorem ef_8i2 (m : MethodId) (x0 : Addr) (x1 : Int32) : entryFrame m #[(.ref x0), (.int x1)] 2 = mkF m 0 #[.val (.ref x0), .val (.int x1)] [] := by first | (simp [entryFrame, mkF, argsToLocals, Value.category]; done) | rfl
set_option maxRecDepth 65536 in
set_option maxHeartbeats 40000000 in
theorem rm8i2 (l : Launch) (Z : State) (a0 : Array Value) (hw : ∀ d ∈ tables_1, d.before a0 Z = true) (o1 : Addr) (sc : Addr) (z0 : Int32) (z1 : Int32) (z2 : Int32) (h0 : Heap) (n0 : Nat) (Z0 : n0 ≤ h0.size) (kC : ClassId) (F1 : Fld Z h0 o1 "org/querne/sparql/SeedMerge" "seedColumns" "[I" (.ref sc)) (VC : Arv Z h0 sc kC .int (3 : Int32) [(.int z0), (.int z1), (.int z2)] (.int (0 : Int32))) :
    Con l Z (⟨"org/querne/sparql/SeedMerge", "seedColumn", "(I)I"⟩ : MethodName) prog_348_method_4_code 2 (some .int) ({ frames := 0, cells := 0, slots := 0, locals := 0 } : Room) #[(.ref o1), (.int (2 : Int32))] h0 n0 (fun v h => v = some (.int z2) ∧ h = h0) := by
  refine Con.of (own := "org/querne/sparql/SeedMerge") (name := "seedColumn") (plainFor_of_name pn_1) (fun m => ef_8i2 m o1 (2 : Int32)) rfl rfl ?_
  intro p e s m below meth c T F S cx st
  refine E_aloadN (pc' := 1) cx st d8_0 rfl rfl rfl ?_
  refine E_getfield (pc' := 4) cx st (hw _ (List.mem_of_getElem? (i := 21) rfl)) F1 d8_1 rfl ?_
  intro T1 st1
  refine E_iloadN (pc' := 5) cx st1 d8_4 rfl rfl ?_
  refine E_iaload (pc' := 6) (x := z2) cx st1 VC ⟨by decide, by decide⟩ rfl d8_5 rfl ?_
  refine E_ireturn (t := .int) cx st1 d8_6 rfl (by simp) rfl (by decide) (by decide) ?_
  exact ⟨rfl, rfl⟩
theorem d9_0 : decode prog_348_method_5_code 0 = .ok (.aload_n 0, 1) := by decide +kernel
theorem d9_1 : decode prog_348_method_5_code 1 = .ok (.getfield 19, 3) := by decide +kernel
theorem d9_4 : decode prog_348_method_5_code 4 = .ok (.aload_n 0, 1) := by decide +kernel
theorem d9_5 : decode prog_348_method_5_code 5 = .ok (.getfield 7, 3) := by decide +kernel
theorem d9_8 : decode prog_348_method_5_code 8 = .ok (.iload_n 1, 1) := by decide +kernel
theorem d9_9 : decode prog_348_method_5_code 9 = .ok (.iaload, 1) := by decide +kernel
theorem d9_10 : decode prog_348_method_5_code 10 = .ok (.iaload, 1) := by decide +kernel
theorem d9_11 : decode prog_348_method_5_code 11 = .ok (.ireturn, 1) := by decide +kernel
theorem ef_9 (m : MethodId) (x0 : Addr) (x1 : Int32) : entryFrame m #[(.ref x0), (.int x1)] 2 = mkF m 0 #[.val (.ref x0), .val (.int x1)] [] := by first | (simp [entryFrame, mkF, argsToLocals, Value.category]; done) | rfl
set_option maxRecDepth 65536 in
set_option maxHeartbeats 40000000 in
theorem rm9 (l : Launch) (Z : State) (a0 : Array Value) (hw : ∀ d ∈ tables_1, d.before a0 Z = true) (o1 : Addr) (col : Int32) (sl : Addr) (sd : Addr) (x0 : Int32) (x1 : Int32) (x2 : Int32) (d0 : Int32) (d1 : Int32) (d2 : Int32) (d3 : Int32) (h0 : Heap) (n0 : Nat) (Z0 : n0 ≤ h0.size) (kS kD : ClassId) (F1 : Fld Z h0 o1 "org/querne/sparql/SeedMerge" "seed" "[I" (.ref sd)) (F2 : Fld Z h0 o1 "org/querne/sparql/SeedMerge" "slots" "[I" (.ref sl)) (VS : Arv Z h0 sl kS .int (3 : Int32) [(.int x0), (.int x1), (.int x2)] (.int (0 : Int32))) (VD : Arv Z h0 sd kD .int (4 : Int32) [(.int d0), (.int d1), (.int d2), (.int d3)] (.int (0 : Int32))) (hcol : ¬ col < 0 ∧ col < 3) (hxc : ¬ ([x0, x1, x2].getD col.toNatClampNeg 0) < 0 ∧ ([x0, x1, x2].getD col.toNatClampNeg 0) < 4) :
    Con l Z (⟨"org/querne/sparql/SeedMerge", "seedTerm", "(I)I"⟩ : MethodName) prog_348_method_5_code 2 (some .int) ({ frames := 0, cells := 0, slots := 0, locals := 0 } : Room) #[(.ref o1), (.int col)] h0 n0 (fun v h => v = some (.int ([d0, d1, d2, d3].getD ([x0, x1, x2].getD col.toNatClampNeg 0).toNatClampNeg 0)) ∧ h = h0) := by
  refine Con.of (own := "org/querne/sparql/SeedMerge") (name := "seedTerm") (plainFor_of_name pn_1) (fun m => ef_9 m o1 col) rfl rfl ?_
  intro p e s m below meth c T F S cx st
  refine E_aloadN (pc' := 1) cx st d9_0 rfl rfl rfl ?_
  refine E_getfield (pc' := 4) cx st (hw _ (List.mem_of_getElem? (i := 30) rfl)) F1 d9_1 rfl ?_
  intro T1 st1
  refine E_aloadN (pc' := 5) cx st1 d9_4 rfl rfl rfl ?_
  refine E_getfield (pc' := 8) cx st1 (hw _ (List.mem_of_getElem? (i := 19) rfl)) F2 d9_5 rfl ?_
  intro T2 st2
  refine E_iloadN (pc' := 9) cx st2 d9_8 rfl rfl ?_
  refine E_iaload (pc' := 10) (x := ([x0, x1, x2].getD col.toNatClampNeg 0)) cx st2 VS hcol (getD_int [x0, x1, x2] _ 0) d9_9 rfl ?_
  refine E_iaload (pc' := 11) (x := ([d0, d1, d2, d3].getD ([x0, x1, x2].getD col.toNatClampNeg 0).toNatClampNeg 0)) cx st2 VD hxc (getD_int [d0, d1, d2, d3] _ 0) d9_10 rfl ?_
  refine E_ireturn (t := .int) cx st2 d9_11 rfl (by simp) rfl (by decide) (by decide) ?_
  exact ⟨rfl, rfl⟩
theorem d10_0 : decode prog_348_method_9_code 0 = .ok (.iconst 0, 1) := by decide +kernel
theorem d10_1 : decode prog_348_method_9_code 1 = .ok (.istore_n 1, 1) := by decide +kernel
theorem d10_2 : decode prog_348_method_9_code 2 = .ok (.iload_n 1, 1) := by decide +kernel
theorem d10_3 : decode prog_348_method_9_code 3 = .ok (.aload_n 0, 1) := by decide +kernel
theorem d10_4 : decode prog_348_method_9_code 4 = .ok (.getfield 22, 3) := by decide +kernel
theorem d10_7 : decode prog_348_method_9_code 7 = .ok (.if_icmp .ge 21, 3) := by decide +kernel
theorem d10_10 : decode prog_348_method_9_code 10 = .ok (.aload_n 0, 1) := by decide +kernel
theorem d10_11 : decode prog_348_method_9_code 11 = .ok (.getfield 19, 3) := by decide +kernel
theorem d10_14 : decode prog_348_method_9_code 14 = .ok (.aload_n 0, 1) := by decide +kernel
theorem d10_15 : decode prog_348_method_9_code 15 = .ok (.getfield 16, 3) := by decide +kernel
theorem d10_18 : decode prog_348_method_9_code 18 = .ok (.iload_n 1, 1) := by decide +kernel
theorem d10_19 : decode prog_348_method_9_code 19 = .ok (.iaload, 1) := by decide +kernel
theorem d10_20 : decode prog_348_method_9_code 20 = .ok (.iconst (-1), 1) := by decide +kernel
theorem d10_21 : decode prog_348_method_9_code 21 = .ok (.iastore, 1) := by decide +kernel
theorem d10_22 : decode prog_348_method_9_code 22 = .ok (.iinc 1 1, 3) := by decide +kernel
theorem d10_25 : decode prog_348_method_9_code 25 = .ok (.goto (-23), 3) := by decide +kernel
theorem d10_28 : decode prog_348_method_9_code 28 = .ok (.aload_n 0, 1) := by decide +kernel
theorem d10_29 : decode prog_348_method_9_code 29 = .ok (.iconst 0, 1) := by decide +kernel
theorem d10_30 : decode prog_348_method_9_code 30 = .ok (.putfield 22, 3) := by decide +kernel
theorem d10_33 : decode prog_348_method_9_code 33 = .ok (.return_, 1) := by decide +kernel
theorem ef_10 (m : MethodId) (x0 : Addr) : entryFrame m #[(.ref x0)] 2 = mkF m 0 #[.val (.ref x0), .unset] [] := by first | (simp [entryFrame, mkF, argsToLocals, Value.category]; done) | rfl
set_option maxRecDepth 65536 in
set_option maxHeartbeats 40000000 in
theorem rm10 (l : Launch) (Z : State) (a0 : Array Value) (hw : ∀ d ∈ tables_1, d.before a0 Z = true) (o1 : Addr) (h0 : Heap) (n0 : Nat) (Z0 : n0 ≤ h0.size) (g_o1 : n0 ≤ o1) (X0 : Exa Z h0 o1 "org/querne/sparql/SeedMerge") (F1 : Fld Z h0 o1 "org/querne/sparql/SeedMerge" "mergedCount" "I" (.int (0 : Int32))) :
    Con l Z (⟨"org/querne/sparql/SeedMerge", "unmerge", "()V"⟩ : MethodName) prog_348_method_9_code 2 none ({ frames := 0, cells := 0, slots := 0, locals := 0 } : Room) #[(.ref o1)] h0 n0 (fun v h => v = none ∧ Keep h0 h [o1]) := by
  refine Con.of (own := "org/querne/sparql/SeedMerge") (name := "unmerge") (plainFor_of_name pn_1) (fun m => ef_10 m o1) rfl rfl ?_
  intro p e s m below meth c T F S cx st
  refine E_iconst (pc' := 1) cx st (0 : Int32) d10_0 rfl rfl ?_
  refine E_istoreN (pc' := 2) (L' := #[.val (.ref o1), .val (.int (0 : Int32))]) cx st d10_1 rfl rfl ?_
  refine E_iloadN (pc' := 3) cx st d10_2 rfl rfl ?_
  refine E_aloadN (pc' := 4) cx st d10_3 rfl rfl rfl ?_
  refine E_getfield (pc' := 7) cx st (hw _ (List.mem_of_getElem? (i := 32) rfl)) F1 d10_4 rfl ?_
  intro T1 st1
  refine E_icmp_geY (pc' := 28) cx st1 d10_7 (by decide) (by decide) (by decide) ?_
  refine E_aloadN (pc' := 29) cx st1 d10_28 rfl rfl rfl ?_
  refine E_iconst (pc' := 30) cx st1 (0 : Int32) d10_29 rfl rfl ?_
  refine E_putfield (pc' := 33) (ty := .int) cx st1 (hw _ (List.mem_of_getElem? (i := 32) rfl)) F1 X0 (Or.inl (hw _ (List.mem_of_getElem? (i := 33) rfl))) (hw _ (List.mem_of_getElem? (i := 11) rfl)) (by decide) rfl rfl g_o1 d10_30 rfl ?_
  intro T2 h2 st2 W2
  have Z2 : n0 ≤ h2.size := Nat.le_trans Z0 (Keep.of_wr W2).1
  have K2 : Keep h0 h2 [o1] := (Keep.refl h0 [o1]).wr W2 (Or.inl (List.mem_of_getElem? (i := 0) rfl))
  have G2w : Fld Z h2 o1 "org/querne/sparql/SeedMerge" "mergedCount" "I" (.int (0 : Int32)) := F1.same W2
  refine E_return cx st2 d10_33 rfl (by decide) (by decide) ?_
  exact ⟨rfl, K2⟩
theorem rst_b (j e : Int32) (hj : ¬ j < 0 ∧ j < 3) : ¬ rst j e < 0 ∧ rst j e < 4 := by
  obtain ⟨h1, h2⟩ := (i32_succ (n := 3) hj (by decide))
  unfold rst
  by_cases c : j < e
  · rw [if_pos c]; exact ⟨hj.1, Int32.lt_trans hj.2 (by decide)⟩
  · rw [if_neg c]; exact h1
theorem get3b {B v0 v1 v2 k : Int32} (hk : ¬ k < 0 ∧ k < 3) (h0 : ¬ v0 < 0 ∧ v0 < B) (h1 : ¬ v1 < 0 ∧ v1 < B) (h2 : ¬ v2 < 0 ∧ v2 < B) : ¬ ([v0, v1, v2].getD k.toNatClampNeg 0) < 0 ∧ ([v0, v1, v2].getD k.toNatClampNeg 0) < B := by
  have q := (i32_small (n := 3) hk (by decide)).1
  generalize k.toNatClampNeg = i at q
  match i, q with
  | 0, _ => exact h0
  | 1, _ => exact h1
  | 2, _ => exact h2
theorem yne (A k : Int32) (hk : ¬ k = (-1 : Int32)) : ¬ (if A = (-1 : Int32) then k else A) = (-1 : Int32) := by
  by_cases c : A = (-1 : Int32)
  · rw [if_pos c]; exact hk
  · rw [if_neg c]; exact c
theorem shr3 (p q : Int32) (k : Nat) (hk : q.toBitVec.toNat % 32 = k) (h0 : 0 < k) : ¬ (((p.toUInt32 >>> (q &&& 31).toUInt32).toInt32) % 3) < 0 ∧ (((p.toUInt32 >>> (q &&& 31).toUInt32).toInt32) % 3) < 3 := by
  refine i32_rem _ 3 ?_ (by decide) (by decide)
  rw [c_iushr p q k hk h0]
  exact Int.ediv_nonneg (Int.emod_nonneg _ (by decide)) (Int.natCast_nonneg _)
theorem plus3 (r c : Int32) (hr : ¬ r < 0 ∧ r < 3) (hc : ¬ c < 0 ∧ c < 3) : ¬ ((r + c) % 3) < 0 ∧ ((r + c) % 3) < 3 := by
  refine i32_rem _ 3 ?_ (by decide) (by decide)
  obtain ⟨h1, h2⟩ := hr
  obtain ⟨h3, h4⟩ := hc
  rw [Int32.lt_iff_toInt_lt] at h1 h2 h3 h4
  have k0 : (0 : Int32).toInt = 0 := rfl
  have k3 : (3 : Int32).toInt = 3 := rfl
  rw [k0] at h1 h3; rw [k3] at h2 h4
  rw [Jvm.Free.XT.add32 ⟨by omega, by omega⟩]; omega
theorem ef_0 (m : MethodId) (x0 : Int32) (x1 : Int32) (x2 : Int32) (x3 : Int32) (x4 : Int32) (x5 : Int32) : entryFrame m #[(.int x0), (.int x1), (.int x2), (.int x3), (.int x4), (.int x5)] maxLocals = mkF m 0 #[.val (.int x0), .val (.int x1), .val (.int x2), .val (.int x3), .val (.int x4), .val (.int x5), .unset, .unset, .unset, .unset, .unset, .unset, .unset, .unset, .unset, .unset, .unset, .unset, .unset, .unset, .unset, .unset, .unset, .unset, .unset, .unset, .unset, .unset] [] := by first | (simp [entryFrame, mkF, argsToLocals, Value.category, maxLocals]; done) | rfl
theorem pd_0 : parseMethodDescriptor "(II)I" = some ⟨[.int, .int], some .int⟩ := by decide +kernel
theorem pd_1 : parseMethodDescriptor "(III)I" = some ⟨[.int, .int, .int], some .int⟩ := by decide +kernel
theorem pd_2 : parseMethodDescriptor "([I)V" = some ⟨[(.array .int)], none⟩ := by decide +kernel
theorem pd_3 : parseMethodDescriptor "([[II)V" = some ⟨[(.array (.array .int)), .int], none⟩ := by decide +kernel
theorem pd_4 : parseMethodDescriptor "()I" = some ⟨[], some .int⟩ := by decide +kernel
theorem pd_5 : parseMethodDescriptor "(I)I" = some ⟨[.int], some .int⟩ := by decide +kernel
theorem pd_6 : parseMethodDescriptor "()V" = some ⟨[], none⟩ := by decide +kernel
set_option maxRecDepth 65536 in
set_option maxHeartbeats 40000000 in
theorem rm0 (l : Launch) (Z : State) (a0 : Array Value) (hw : ∀ d ∈ tables_1, d.before a0 Z = true) (p0 : Int32) (p1 : Int32) (p2 : Int32) (p3 : Int32) (p4 : Int32) (p5 : Int32) (h0 : Heap) (n0 : Nat) (Z0 : n0 ≤ h0.size) :
    Con l Z x code maxLocals ret room_1 #[(.int p0), (.int p1), (.int p2), (.int p3), (.int p4), (.int p5)] h0 n0 (fun v h => v = some (.int 1)) := by
  refine Con.of (own := "org/querne/sparql/SeedMergeOpenPinLaw") (name := "law") (plainFor_of_name pn_0) (fun m => ef_0 m p0 p1 p2 p3 p4 p5) rfl rfl ?_
  intro p e s m below meth c T F S cx st
  refine E_iloadN (pc' := 1) cx st at_0 rfl rfl ?_
  refine E_iconst (pc' := 2) cx st (3 : Int32) at_1 rfl rfl ?_
  refine E_iand (pc' := 3) cx st at_2 rfl ?_
  generalize hu1 : (p0 &&& (3 : Int32)) = u1
  refine E_istore (pc' := 5) (L' := #[.val (.int p0), .val (.int p1), .val (.int p2), .val (.int p3), .val (.int p4), .val (.int p5), .val (.int u1), .unset, .unset, .unset, .unset, .unset, .unset, .unset, .unset, .unset, .unset, .unset, .unset, .unset, .unset, .unset, .unset, .unset, .unset, .unset, .unset, .unset]) cx st at_3 rfl rfl ?_
  refine E_iloadN (pc' := 6) cx st at_5 rfl rfl ?_
  refine E_bipush (pc' := 8) cx st (8 : Int32) at_6 rfl rfl ?_
  refine E_iushr (pc' := 9) cx st at_8 rfl ?_
  refine E_iconst (pc' := 10) cx st (3 : Int32) at_9 rfl rfl ?_
  refine E_irem (pc' := 11) cx st at_10 (by decide) rfl ?_
  generalize hu2 : (((p0.toUInt32 >>> ((8 : Int32) &&& 31).toUInt32).toInt32) % (3 : Int32)) = u2
  refine E_istore (pc' := 13) (L' := #[.val (.int p0), .val (.int p1), .val (.int p2), .val (.int p3), .val (.int p4), .val (.int p5), .val (.int u1), .val (.int u2), .unset, .unset, .unset, .unset, .unset, .unset, .unset, .unset, .unset, .unset, .unset, .unset, .unset, .unset, .unset, .unset, .unset, .unset, .unset, .unset]) cx st at_11 rfl rfl ?_
  refine E_iloadN (pc' := 14) cx st at_13 rfl rfl ?_
  refine E_iconst (pc' := 15) cx st (4 : Int32) at_14 rfl rfl ?_
  refine E_iushr (pc' := 16) cx st at_15 rfl ?_
  refine E_iconst (pc' := 17) cx st (1 : Int32) at_16 rfl rfl ?_
  refine E_iand (pc' := 18) cx st at_17 rfl ?_
  have hrot := shr3 p0 8 8 (by decide) (by decide)
  rw [hu2] at hrot
  suffices j4 : F T (mkF m 26 #[.val (.int p0), .val (.int p1), .val (.int p2), .val (.int p3), .val (.int p4), .val (.int p5), .val (.int u1), .val (.int u2), .unset, .unset, .unset, .unset, .unset, .unset, .unset, .unset, .unset, .unset, .unset, .unset, .unset, .unset, .unset, .unset, .unset, .unset, .unset, .unset] [(.int (if (((p0.toUInt32 >>> ((4 : Int32) &&& 31).toUInt32).toInt32) &&& (1 : Int32)) = (0 : Int32) then (0 : Int32) else (1 : Int32)))]) by
    by_cases c3 : (((p0.toUInt32 >>> ((4 : Int32) &&& 31).toUInt32).toInt32) &&& (1 : Int32)) = (0 : Int32)
    · refine E_if_eqY (pc' := 25) cx st at_18 (by decide) (by decide) c3 ?_
      refine E_iconst (pc' := 26) cx st (0 : Int32) at_25 rfl rfl ?_
      simp only [if_pos c3] at j4; exact j4
    · refine E_if_eqN (pc' := 21) cx st at_18 rfl c3 ?_
      refine E_iconst (pc' := 22) cx st (1 : Int32) at_21 rfl rfl ?_
      refine E_goto (pc' := 26) cx st at_22 (by decide) (by decide) ?_
      simp only [if_neg c3] at j4; exact j4
  generalize hu5 : (if (((p0.toUInt32 >>> ((4 : Int32) &&& 31).toUInt32).toInt32) &&& (1 : Int32)) = (0 : Int32) then (0 : Int32) else (1 : Int32)) = u5
  refine E_istore (pc' := 28) (L' := #[.val (.int p0), .val (.int p1), .val (.int p2), .val (.int p3), .val (.int p4), .val (.int p5), .val (.int u1), .val (.int u2), .val (.int u5), .unset, .unset, .unset, .unset, .unset, .unset, .unset, .unset, .unset, .unset, .unset, .unset, .unset, .unset, .unset, .unset, .unset, .unset, .unset]) cx st at_26 rfl rfl ?_
  refine E_iconst (pc' := 29) cx st (3 : Int32) at_28 rfl rfl ?_
  refine E_newP (pc' := 31) (kc' := 1) (ks' := 3) (cap := 3) cx st (hw _ (List.mem_of_getElem? (i := 0) rfl)) at_29 (by decide) (by decide) (by decide) (by decide) (by decide) (by decide) (by decide) rfl (ad := "[I") (by decide) ?_
  intro T6 h6 ca6 ar6 eq6 st6 E6 V6 X6
  have g_ar6 : n0 ≤ ar6 := by rw [eq6]; exact Z0
  have Z6 : n0 ≤ h6.size := Nat.le_trans Z0 E6.1
  have V6p : Arv Z h6 ar6 ca6 .int (3 : Int32) [(.int (0 : Int32)), (.int (0 : Int32)), (.int (0 : Int32))] (.int (0 : Int32)) := V6.pad (pad_rep [] (.int (0 : Int32)) 3)
  refine E_dup (pc' := 32) cx st6 at_31 rfl rfl ?_
  refine E_iconst (pc' := 33) cx st6 (0 : Int32) at_32 rfl rfl ?_
  refine E_iconst (pc' := 34) cx st6 (0 : Int32) at_33 rfl rfl ?_
  refine E_iload (pc' := 36) cx st6 at_34 rfl rfl ?_
  refine E_callS (pc' := 39) (kc' := 1) (ks' := 3) (W := 3) (argsL := [(.int (0 : Int32)), (.int u1)]) cx st6 [(.int (0 : Int32)), (.ref ar6), (.ref ar6)] (rm1 l Z a0 hw (0 : Int32) u1 h6 n0 Z6) (hw _ (List.mem_of_getElem? (i := 1) rfl)) (hw _ (List.mem_of_getElem? (i := 2) rfl)) (hw _ (List.mem_of_getElem? (i := 3) rfl)) (hw _ (List.mem_of_getElem? (i := 4) rfl)) at_36 rfl rfl (lenOf pd_0 rfl) (Nat.le_of_eq rfl) (by decide) (by decide) (by decide) (by decide) (by decide) (by decide) (by decide) rfl ?_
  intro v7 T7 h7 st7 hq7
  obtain ⟨rfl, hh7⟩ := hq7
  rw [hh7] at st7
  generalize hrr0 : (rst (0 : Int32) u1) = rr0
  have hr0 : ¬ rr0 < 0 ∧ rr0 < 4 := by rw [← hrr0]; exact rst_b _ _ ⟨by decide, by decide⟩
  refine E_iastore (pc' := 40) (i := 0) cx st7 V6p ⟨by decide, by decide⟩ rfl (Nat.le_of_ble_eq_true rfl) g_ar6 at_39 rfl ?_
  intro T8 h8 st8 W8 V8
  have Z8 : n0 ≤ h8.size := Nat.le_trans Z6 (Keep.of_wr W8).1
  have V8p : Arv Z h8 ar6 ca6 .int (3 : Int32) [(.int rr0), (.int (0 : Int32)), (.int (0 : Int32))] (.int (0 : Int32)) := V8
  refine E_dup (pc' := 41) cx st8 at_40 rfl rfl ?_
  refine E_iconst (pc' := 42) cx st8 (1 : Int32) at_41 rfl rfl ?_
  refine E_iconst (pc' := 43) cx st8 (1 : Int32) at_42 rfl rfl ?_
  refine E_iload (pc' := 45) cx st8 at_43 rfl rfl ?_
  refine E_callS (pc' := 48) (kc' := 1) (ks' := 3) (W := 3) (argsL := [(.int (1 : Int32)), (.int u1)]) cx st8 [(.int (1 : Int32)), (.ref ar6), (.ref ar6)] (rm1 l Z a0 hw (1 : Int32) u1 h8 n0 Z8) (hw _ (List.mem_of_getElem? (i := 1) rfl)) (hw _ (List.mem_of_getElem? (i := 2) rfl)) (hw _ (List.mem_of_getElem? (i := 3) rfl)) (hw _ (List.mem_of_getElem? (i := 4) rfl)) at_45 rfl rfl (lenOf pd_0 rfl) (Nat.le_of_eq rfl) (by decide) (by decide) (by decide) (by decide) (by decide) (by decide) (by decide) rfl ?_
  intro v9 T9 h9 st9 hq9
  obtain ⟨rfl, hh9⟩ := hq9
  rw [hh9] at st9
  generalize hrr1 : (rst (1 : Int32) u1) = rr1
  have hr1 : ¬ rr1 < 0 ∧ rr1 < 4 := by rw [← hrr1]; exact rst_b _ _ ⟨by decide, by decide⟩
  refine E_iastore (pc' := 49) (i := 1) cx st9 V8p ⟨by decide, by decide⟩ rfl (Nat.le_of_ble_eq_true rfl) g_ar6 at_48 rfl ?_
  intro T10 h10 st10 W10 V10
  have Z10 : n0 ≤ h10.size := Nat.le_trans Z8 (Keep.of_wr W10).1
  have V10p : Arv Z h10 ar6 ca6 .int (3 : Int32) [(.int rr0), (.int rr1), (.int (0 : Int32))] (.int (0 : Int32)) := V10
  refine E_dup (pc' := 50) cx st10 at_49 rfl rfl ?_
  refine E_iconst (pc' := 51) cx st10 (2 : Int32) at_50 rfl rfl ?_
  refine E_iconst (pc' := 52) cx st10 (2 : Int32) at_51 rfl rfl ?_
  refine E_iload (pc' := 54) cx st10 at_52 rfl rfl ?_
  refine E_callS (pc' := 57) (kc' := 1) (ks' := 3) (W := 3) (argsL := [(.int (2 : Int32)), (.int u1)]) cx st10 [(.int (2 : Int32)), (.ref ar6), (.ref ar6)] (rm1 l Z a0 hw (2 : Int32) u1 h10 n0 Z10) (hw _ (List.mem_of_getElem? (i := 1) rfl)) (hw _ (List.mem_of_getElem? (i := 2) rfl)) (hw _ (List.mem_of_getElem? (i := 3) rfl)) (hw _ (List.mem_of_getElem? (i := 4) rfl)) at_54 rfl rfl (lenOf pd_0 rfl) (Nat.le_of_eq rfl) (by decide) (by decide) (by decide) (by decide) (by decide) (by decide) (by decide) rfl ?_
  intro v11 T11 h11 st11 hq11
  obtain ⟨rfl, hh11⟩ := hq11
  rw [hh11] at st11
  generalize hrr2 : (rst (2 : Int32) u1) = rr2
  have hr2 : ¬ rr2 < 0 ∧ rr2 < 4 := by rw [← hrr2]; exact rst_b _ _ ⟨by decide, by decide⟩
  refine E_iastore (pc' := 58) (i := 2) cx st11 V10p ⟨by decide, by decide⟩ rfl (Nat.le_of_ble_eq_true rfl) g_ar6 at_57 rfl ?_
  intro T12 h12 st12 W12 V12
  have Z12 : n0 ≤ h12.size := Nat.le_trans Z10 (Keep.of_wr W12).1
  have V12p : Arv Z h12 ar6 ca6 .int (3 : Int32) [(.int rr0), (.int rr1), (.int rr2)] (.int (0 : Int32)) := V12
  refine E_astore (pc' := 60) (L' := #[.val (.int p0), .val (.int p1), .val (.int p2), .val (.int p3), .val (.int p4), .val (.int p5), .val (.int u1), .val (.int u2), .val (.int u5), .val (.ref ar6), .unset, .unset, .unset, .unset, .unset, .unset, .unset, .unset, .unset, .unset, .unset, .unset, .unset, .unset, .unset, .unset, .unset, .unset]) cx st12 at_58 rfl rfl rfl ?_
  refine E_iconst (pc' := 61) cx st12 (3 : Int32) at_60 rfl rfl ?_
  refine E_newP (pc' := 63) (kc' := 2) (ks' := 6) (cap := 3) cx st12 (hw _ (List.mem_of_getElem? (i := 0) rfl)) at_61 (by decide) (by decide) (by decide) (by decide) (by decide) (by decide) (by decide) rfl (ad := "[I") (by decide) ?_
  intro T13 h13 ca13 ar13 eq13 st13 E13 V13 X13
  have g_ar13 : n0 ≤ ar13 := by rw [eq13]; exact Z12
  have ne_ar6_ar13 : ar6 ≠ ar13 := by rw [eq13]; exact Nat.ne_of_lt V12p.lt
  have Z13 : n0 ≤ h13.size := Nat.le_trans Z12 E13.1
  have V13p : Arv Z h13 ar13 ca13 .int (3 : Int32) [(.int (0 : Int32)), (.int (0 : Int32)), (.int (0 : Int32))] (.int (0 : Int32)) := V13.pad (pad_rep [] (.int (0 : Int32)) 3)
  refine E_astore (pc' := 65) (L' := #[.val (.int p0), .val (.int p1), .val (.int p2), .val (.int p3), .val (.int p4), .val (.int p5), .val (.int u1), .val (.int u2), .val (.int u5), .val (.ref ar6), .val (.ref ar13), .unset, .unset, .unset, .unset, .unset, .unset, .unset, .unset, .unset, .unset, .unset, .unset, .unset, .unset, .unset, .unset, .unset]) cx st13 at_63 rfl rfl rfl ?_
  refine E_aload (pc' := 67) cx st13 at_65 rfl rfl rfl ?_
  refine E_iconst (pc' := 68) cx st13 (0 : Int32) at_67 rfl rfl ?_
  refine E_iload (pc' := 70) cx st13 at_68 rfl rfl ?_
  have hp1 := plus3 u2 1 hrot ⟨by decide, by decide⟩
  have hp2 := plus3 u2 2 hrot ⟨by decide, by decide⟩
  suffices J : ∀ (T : State) (h : Heap) (t0 t1 t2 : Int32), S 2 6 T h → n0 ≤ h.size → Arv Z h ar13 ca13 .int (3 : Int32) [(.int t0), (.int t1), (.int t2)] (.int (0 : Int32)) → (¬ t0 < 0 ∧ t0 < 4) → (¬ t1 < 0 ∧ t1 < 4) → (¬ t2 < 0 ∧ t2 < 4) → F T (mkF m 130 #[.val (.int p0), .val (.int p1), .val (.int p2), .val (.int p3), .val (.int p4), .val (.int p5), .val (.int u1), .val (.int u2), .val (.int u5), .val (.ref ar6), .val (.ref ar13), .unset, .unset, .unset, .unset, .unset, .unset, .unset, .unset, .unset, .unset, .unset, .unset, .unset, .unset, .unset, .unset, .unset] []) by
    by_cases c14 : u5 = (0 : Int32)
    · refine E_if_eqY (pc' := 85) cx st13 at_70 (by decide) (by decide) c14 ?_
      refine E_aload (pc' := 87) cx st13 at_85 rfl rfl rfl ?_
      refine E_iload (pc' := 89) cx st13 at_87 rfl rfl ?_
      have V15 : Arv Z h13 ar6 ca6 .int (3 : Int32) [(.int rr0), (.int rr1), (.int rr2)] (.int (0 : Int32)) := (V12p.ext E13)
      refine E_iaload (pc' := 90) (x := ([rr0, rr1, rr2].getD u2.toNatClampNeg 0)) cx st13 V15 hrot (getD_int [rr0, rr1, rr2] _ 0) at_89 rfl ?_
      refine E_iastore (pc' := 91) (i := 0) cx st13 V13p ⟨by decide, by decide⟩ rfl (Nat.le_of_ble_eq_true rfl) g_ar13 at_90 rfl ?_
      intro T16 h16 st16 W16 V16
      have Z16 : n0 ≤ h16.size := Nat.le_trans Z13 (Keep.of_wr W16).1
      have V16p : Arv Z h16 ar13 ca13 .int (3 : Int32) [(.int ([rr0, rr1, rr2].getD u2.toNatClampNeg 0)), (.int (0 : Int32)), (.int (0 : Int32))] (.int (0 : Int32)) := V16
      refine E_aload (pc' := 93) cx st16 at_91 rfl rfl rfl ?_
      refine E_iconst (pc' := 94) cx st16 (1 : Int32) at_93 rfl rfl ?_
      refine E_aload (pc' := 96) cx st16 at_94 rfl rfl rfl ?_
      refine E_iload (pc' := 98) cx st16 at_96 rfl rfl ?_
      refine E_iconst (pc' := 99) cx st16 (1 : Int32) at_98 rfl rfl ?_
      refine E_iadd (pc' := 100) cx st16 at_99 rfl ?_
      refine E_iconst (pc' := 101) cx st16 (3 : Int32) at_100 rfl rfl ?_
      refine E_irem (pc' := 102) cx st16 at_101 (by decide) rfl ?_
      have V17 : Arv Z h16 ar6 ca6 .int (3 : Int32) [(.int rr0), (.int rr1), (.int rr2)] (.int (0 : Int32)) := (V15.other W16 ne_ar6_ar13)
      refine E_iaload (pc' := 103) (x := ([rr0, rr1, rr2].getD ((u2 + (1 : Int32)) % (3 : Int32)).toNatClampNeg 0)) cx st16 V17 hp1 (getD_int [rr0, rr1, rr2] _ 0) at_102 rfl ?_
      refine E_iastore (pc' := 104) (i := 1) cx st16 V16p ⟨by decide, by decide⟩ rfl (Nat.le_of_ble_eq_true rfl) g_ar13 at_103 rfl ?_
      intro T18 h18 st18 W18 V18
      have Z18 : n0 ≤ h18.size := Nat.le_trans Z16 (Keep.of_wr W18).1
      have V18p : Arv Z h18 ar13 ca13 .int (3 : Int32) [(.int ([rr0, rr1, rr2].getD u2.toNatClampNeg 0)), (.int ([rr0, rr1, rr2].getD ((u2 + (1 : Int32)) % (3 : Int32)).toNatClampNeg 0)), (.int (0 : Int32))] (.int (0 : Int32)) := V18
      refine E_aload (pc' := 106) cx st18 at_104 rfl rfl rfl ?_
      refine E_iconst (pc' := 107) cx st18 (2 : Int32) at_106 rfl rfl ?_
      refine E_iload (pc' := 109) cx st18 at_107 rfl rfl ?_
      refine E_if_eqY (pc' := 120) cx st18 at_109 (by decide) (by decide) c14 ?_
      refine E_aload (pc' := 122) cx st18 at_120 rfl rfl rfl ?_
      refine E_iload (pc' := 124) cx st18 at_122 rfl rfl ?_
      refine E_iconst (pc' := 125) cx st18 (2 : Int32) at_124 rfl rfl ?_
      refine E_iadd (pc' := 126) cx st18 at_125 rfl ?_
      refine E_iconst (pc' := 127) cx st18 (3 : Int32) at_126 rfl rfl ?_
      refine E_irem (pc' := 128) cx st18 at_127 (by decide) rfl ?_
      have V19 : Arv Z h18 ar6 ca6 .int (3 : Int32) [(.int rr0), (.int rr1), (.int rr2)] (.int (0 : Int32)) := (V17.other W18 ne_ar6_ar13)
      refine E_iaload (pc' := 129) (x := ([rr0, rr1, rr2].getD ((u2 + (2 : Int32)) % (3 : Int32)).toNatClampNeg 0)) cx st18 V19 hp2 (getD_int [rr0, rr1, rr2] _ 0) at_128 rfl ?_
      refine E_iastore (pc' := 130) (i := 2) cx st18 V18p ⟨by decide, by decide⟩ rfl (Nat.le_of_ble_eq_true rfl) g_ar13 at_129 rfl ?_
      intro T20 h20 st20 W20 V20
      have Z20 : n0 ≤ h20.size := Nat.le_trans Z18 (Keep.of_wr W20).1
      have V20p : Arv Z h20 ar13 ca13 .int (3 : Int32) [(.int ([rr0, rr1, rr2].getD u2.toNatClampNeg 0)), (.int ([rr0, rr1, rr2].getD ((u2 + (1 : Int32)) % (3 : Int32)).toNatClampNeg 0)), (.int ([rr0, rr1, rr2].getD ((u2 + (2 : Int32)) % (3 : Int32)).toNatClampNeg 0))] (.int (0 : Int32)) := V20
      exact J _ _ _ _ _ st20 Z20 V20p (get3b hrot hr0 hr1 hr2) (get3b hp1 hr0 hr1 hr2) (get3b hp2 hr0 hr1 hr2)
    · refine E_if_eqN (pc' := 73) cx st13 at_70 rfl c14 ?_
      refine E_aload (pc' := 75) cx st13 at_73 rfl rfl rfl ?_
      refine E_iload (pc' := 77) cx st13 at_75 rfl rfl ?_
      refine E_iconst (pc' := 78) cx st13 (2 : Int32) at_77 rfl rfl ?_
      refine E_iadd (pc' := 79) cx st13 at_78 rfl ?_
      refine E_iconst (pc' := 80) cx st13 (3 : Int32) at_79 rfl rfl ?_
      refine E_irem (pc' := 81) cx st13 at_80 (by decide) rfl ?_
      have V21 : Arv Z h13 ar6 ca6 .int (3 : Int32) [(.int rr0), (.int rr1), (.int rr2)] (.int (0 : Int32)) := (V12p.ext E13)
      refine E_iaload (pc' := 82) (x := ([rr0, rr1, rr2].getD ((u2 + (2 : Int32)) % (3 : Int32)).toNatClampNeg 0)) cx st13 V21 hp2 (getD_int [rr0, rr1, rr2] _ 0) at_81 rfl ?_
      refine E_goto (pc' := 90) cx st13 at_82 (by decide) (by decide) ?_
      refine E_iastore (pc' := 91) (i := 0) cx st13 V13p ⟨by decide, by decide⟩ rfl (Nat.le_of_ble_eq_true rfl) g_ar13 at_90 rfl ?_
      intro T22 h22 st22 W22 V22
      have Z22 : n0 ≤ h22.size := Nat.le_trans Z13 (Keep.of_wr W22).1
      have V22p : Arv Z h22 ar13 ca13 .int (3 : Int32) [(.int ([rr0, rr1, rr2].getD ((u2 + (2 : Int32)) % (3 : Int32)).toNatClampNeg 0)), (.int (0 : Int32)), (.int (0 : Int32))] (.int (0 : Int32)) := V22
      refine E_aload (pc' := 93) cx st22 at_91 rfl rfl rfl ?_
      refine E_iconst (pc' := 94) cx st22 (1 : Int32) at_93 rfl rfl ?_
      refine E_aload (pc' := 96) cx st22 at_94 rfl rfl rfl ?_
      refine E_iload (pc' := 98) cx st22 at_96 rfl rfl ?_
      refine E_iconst (pc' := 99) cx st22 (1 : Int32) at_98 rfl rfl ?_
      refine E_iadd (pc' := 100) cx st22 at_99 rfl ?_
      refine E_iconst (pc' := 101) cx st22 (3 : Int32) at_100 rfl rfl ?_
      refine E_irem (pc' := 102) cx st22 at_101 (by decide) rfl ?_
      have V23 : Arv Z h22 ar6 ca6 .int (3 : Int32) [(.int rr0), (.int rr1), (.int rr2)] (.int (0 : Int32)) := (V21.other W22 ne_ar6_ar13)
      refine E_iaload (pc' := 103) (x := ([rr0, rr1, rr2].getD ((u2 + (1 : Int32)) % (3 : Int32)).toNatClampNeg 0)) cx st22 V23 hp1 (getD_int [rr0, rr1, rr2] _ 0) at_102 rfl ?_
      refine E_iastore (pc' := 104) (i := 1) cx st22 V22p ⟨by decide, by decide⟩ rfl (Nat.le_of_ble_eq_true rfl) g_ar13 at_103 rfl ?_
      intro T24 h24 st24 W24 V24
      have Z24 : n0 ≤ h24.size := Nat.le_trans Z22 (Keep.of_wr W24).1
      have V24p : Arv Z h24 ar13 ca13 .int (3 : Int32) [(.int ([rr0, rr1, rr2].getD ((u2 + (2 : Int32)) % (3 : Int32)).toNatClampNeg 0)), (.int ([rr0, rr1, rr2].getD ((u2 + (1 : Int32)) % (3 : Int32)).toNatClampNeg 0)), (.int (0 : Int32))] (.int (0 : Int32)) := V24
      refine E_aload (pc' := 106) cx st24 at_104 rfl rfl rfl ?_
      refine E_iconst (pc' := 107) cx st24 (2 : Int32) at_106 rfl rfl ?_
      refine E_iload (pc' := 109) cx st24 at_107 rfl rfl ?_
      refine E_if_eqN (pc' := 112) cx st24 at_109 rfl c14 ?_
      refine E_aload (pc' := 114) cx st24 at_112 rfl rfl rfl ?_
      refine E_iload (pc' := 116) cx st24 at_114 rfl rfl ?_
      have V25 : Arv Z h24 ar6 ca6 .int (3 : Int32) [(.int rr0), (.int rr1), (.int rr2)] (.int (0 : Int32)) := (V23.other W24 ne_ar6_ar13)
      refine E_iaload (pc' := 117) (x := ([rr0, rr1, rr2].getD u2.toNatClampNeg 0)) cx st24 V25 hrot (getD_int [rr0, rr1, rr2] _ 0) at_116 rfl ?_
      refine E_goto (pc' := 129) cx st24 at_117 (by decide) (by decide) ?_
      refine E_iastore (pc' := 130) (i := 2) cx st24 V24p ⟨by decide, by decide⟩ rfl (Nat.le_of_ble_eq_true rfl) g_ar13 at_129 rfl ?_
      intro T26 h26 st26 W26 V26
      have Z26 : n0 ≤ h26.size := Nat.le_trans Z24 (Keep.of_wr W26).1
      have V26p : Arv Z h26 ar13 ca13 .int (3 : Int32) [(.int ([rr0, rr1, rr2].getD ((u2 + (2 : Int32)) % (3 : Int32)).toNatClampNeg 0)), (.int ([rr0, rr1, rr2].getD ((u2 + (1 : Int32)) % (3 : Int32)).toNatClampNeg 0)), (.int ([rr0, rr1, rr2].getD u2.toNatClampNeg 0))] (.int (0 : Int32)) := V26
      exact J _ _ _ _ _ st26 Z26 V26p (get3b hp2 hr0 hr1 hr2) (get3b hp1 hr0 hr1 hr2) (get3b hrot hr0 hr1 hr2)
  intro TJ hJ t0 t1 t2 stJ ZJ VJ ht0 ht1 ht2
  refine E_iconst (pc' := 131) cx stJ (4 : Int32) at_130 rfl rfl ?_
  refine E_newP (pc' := 133) (kc' := 3) (ks' := 10) (cap := 4) cx stJ (hw _ (List.mem_of_getElem? (i := 0) rfl)) at_131 (by decide) (by decide) (by decide) (by decide) (by decide) (by decide) (by decide) rfl (ad := "[I") (by decide) ?_
  intro T27 h27 ca27 ar27 eq27 st27 E27 V27 X27
  have g_ar27 : n0 ≤ ar27 := by rw [eq27]; exact ZJ
  have ne_ar13_ar27 : ar13 ≠ ar27 := by rw [eq27]; exact Nat.ne_of_lt VJ.lt
  have Z27 : n0 ≤ h27.size := Nat.le_trans ZJ E27.1
  have V27p : Arv Z h27 ar27 ca27 .int (4 : Int32) [(.int (0 : Int32)), (.int (0 : Int32)), (.int (0 : Int32)), (.int (0 : Int32))] (.int (0 : Int32)) := V27.pad (pad_rep [] (.int (0 : Int32)) 4)
  refine E_dup (pc' := 134) cx st27 at_133 rfl rfl ?_
  refine E_iconst (pc' := 135) cx st27 (0 : Int32) at_134 rfl rfl ?_
  refine E_iloadN (pc' := 136) cx st27 at_135 rfl rfl ?_
  refine E_iconst (pc' := 137) cx st27 (4 : Int32) at_136 rfl rfl ?_
  refine E_iconst (pc' := 138) cx st27 (0 : Int32) at_137 rfl rfl ?_
  refine E_callS (pc' := 141) (kc' := 3) (ks' := 10) (W := 3) (argsL := [(.int p1), (.int (4 : Int32)), (.int (0 : Int32))]) cx st27 [(.int (0 : Int32)), (.ref ar27), (.ref ar27)] (rm2 l Z a0 hw p1 (4 : Int32) (0 : Int32) h27 n0 Z27) (hw _ (List.mem_of_getElem? (i := 5) rfl)) (hw _ (List.mem_of_getElem? (i := 6) rfl)) (hw _ (List.mem_of_getElem? (i := 3) rfl)) (hw _ (List.mem_of_getElem? (i := 7) rfl)) at_138 rfl rfl (lenOf pd_1 rfl) (Nat.le_of_eq rfl) (by decide) (by decide) (by decide) (by decide) (by decide) (by decide) (by decide) rfl ?_
  intro v28 T28 h28 st28 hq28
  obtain ⟨rfl, hh28⟩ := hq28
  rw [hh28] at st28
  generalize hdd0 : (drw p1 (4 : Int32) (0 : Int32)) = dd0
  refine E_iastore (pc' := 142) (i := 0) cx st28 V27p ⟨by decide, by decide⟩ rfl (Nat.le_of_ble_eq_true rfl) g_ar27 at_141 rfl ?_
  intro T29 h29 st29 W29 V29
  have Z29 : n0 ≤ h29.size := Nat.le_trans Z27 (Keep.of_wr W29).1
  have V29p : Arv Z h29 ar27 ca27 .int (4 : Int32) [(.int dd0), (.int (0 : Int32)), (.int (0 : Int32)), (.int (0 : Int32))] (.int (0 : Int32)) := V29
  refine E_dup (pc' := 143) cx st29 at_142 rfl rfl ?_
  refine E_iconst (pc' := 144) cx st29 (1 : Int32) at_143 rfl rfl ?_
  refine E_iloadN (pc' := 145) cx st29 at_144 rfl rfl ?_
  refine E_iconst (pc' := 146) cx st29 (5 : Int32) at_145 rfl rfl ?_
  refine E_iconst (pc' := 147) cx st29 (1 : Int32) at_146 rfl rfl ?_
  refine E_callS (pc' := 150) (kc' := 3) (ks' := 10) (W := 3) (argsL := [(.int p1), (.int (5 : Int32)), (.int (1 : Int32))]) cx st29 [(.int (1 : Int32)), (.ref ar27), (.ref ar27)] (rm2 l Z a0 hw p1 (5 : Int32) (1 : Int32) h29 n0 Z29) (hw _ (List.mem_of_getElem? (i := 5) rfl)) (hw _ (List.mem_of_getElem? (i := 6) rfl)) (hw _ (List.mem_of_getElem? (i := 3) rfl)) (hw _ (List.mem_of_getElem? (i := 7) rfl)) at_147 rfl rfl (lenOf pd_1 rfl) (Nat.le_of_eq rfl) (by decide) (by decide) (by decide) (by decide) (by decide) (by decide) (by decide) rfl ?_
  intro v30 T30 h30 st30 hq30
  obtain ⟨rfl, hh30⟩ := hq30
  rw [hh30] at st30
  generalize hdd1 : (drw p1 (5 : Int32) (1 : Int32)) = dd1
  refine E_iastore (pc' := 151) (i := 1) cx st30 V29p ⟨by decide, by decide⟩ rfl (Nat.le_of_ble_eq_true rfl) g_ar27 at_150 rfl ?_
  intro T31 h31 st31 W31 V31
  have Z31 : n0 ≤ h31.size := Nat.le_trans Z29 (Keep.of_wr W31).1
  have V31p : Arv Z h31 ar27 ca27 .int (4 : Int32) [(.int dd0), (.int dd1), (.int (0 : Int32)), (.int (0 : Int32))] (.int (0 : Int32)) := V31
  refine E_dup (pc' := 152) cx st31 at_151 rfl rfl ?_
  refine E_iconst (pc' := 153) cx st31 (2 : Int32) at_152 rfl rfl ?_
  refine E_iloadN (pc' := 154) cx st31 at_153 rfl rfl ?_
  refine E_bipush (pc' := 156) cx st31 (6 : Int32) at_154 rfl rfl ?_
  refine E_iconst (pc' := 157) cx st31 (2 : Int32) at_156 rfl rfl ?_
  refine E_callS (pc' := 160) (kc' := 3) (ks' := 10) (W := 3) (argsL := [(.int p1), (.int (6 : Int32)), (.int (2 : Int32))]) cx st31 [(.int (2 : Int32)), (.ref ar27), (.ref ar27)] (rm2 l Z a0 hw p1 (6 : Int32) (2 : Int32) h31 n0 Z31) (hw _ (List.mem_of_getElem? (i := 5) rfl)) (hw _ (List.mem_of_getElem? (i := 6) rfl)) (hw _ (List.mem_of_getElem? (i := 3) rfl)) (hw _ (List.mem_of_getElem? (i := 7) rfl)) at_157 rfl rfl (lenOf pd_1 rfl) (Nat.le_of_eq rfl) (by decide) (by decide) (by decide) (by decide) (by decide) (by decide) (by decide) rfl ?_
  intro v32 T32 h32 st32 hq32
  obtain ⟨rfl, hh32⟩ := hq32
  rw [hh32] at st32
  generalize hdd2 : (drw p1 (6 : Int32) (2 : Int32)) = dd2
  refine E_iastore (pc' := 161) (i := 2) cx st32 V31p ⟨by decide, by decide⟩ rfl (Nat.le_of_ble_eq_true rfl) g_ar27 at_160 rfl ?_
  intro T33 h33 st33 W33 V33
  have Z33 : n0 ≤ h33.size := Nat.le_trans Z31 (Keep.of_wr W33).1
  have V33p : Arv Z h33 ar27 ca27 .int (4 : Int32) [(.int dd0), (.int dd1), (.int dd2), (.int (0 : Int32))] (.int (0 : Int32)) := V33
  refine E_dup (pc' := 162) cx st33 at_161 rfl rfl ?_
  refine E_iconst (pc' := 163) cx st33 (3 : Int32) at_162 rfl rfl ?_
  refine E_iloadN (pc' := 164) cx st33 at_163 rfl rfl ?_
  refine E_bipush (pc' := 166) cx st33 (7 : Int32) at_164 rfl rfl ?_
  refine E_iconst (pc' := 167) cx st33 (3 : Int32) at_166 rfl rfl ?_
  refine E_callS (pc' := 170) (kc' := 3) (ks' := 10) (W := 3) (argsL := [(.int p1), (.int (7 : Int32)), (.int (3 : Int32))]) cx st33 [(.int (3 : Int32)), (.ref ar27), (.ref ar27)] (rm2 l Z a0 hw p1 (7 : Int32) (3 : Int32) h33 n0 Z33) (hw _ (List.mem_of_getElem? (i := 5) rfl)) (hw _ (List.mem_of_getElem? (i := 6) rfl)) (hw _ (List.mem_of_getElem? (i := 3) rfl)) (hw _ (List.mem_of_getElem? (i := 7) rfl)) at_167 rfl rfl (lenOf pd_1 rfl) (Nat.le_of_eq rfl) (by decide) (by decide) (by decide) (by decide) (by decide) (by decide) (by decide) rfl ?_
  intro v34 T34 h34 st34 hq34
  obtain ⟨rfl, hh34⟩ := hq34
  rw [hh34] at st34
  generalize hdd3 : (drw p1 (7 : Int32) (3 : Int32)) = dd3
  refine E_iastore (pc' := 171) (i := 3) cx st34 V33p ⟨by decide, by decide⟩ rfl (Nat.le_of_ble_eq_true rfl) g_ar27 at_170 rfl ?_
  intro T35 h35 st35 W35 V35
  have Z35 : n0 ≤ h35.size := Nat.le_trans Z33 (Keep.of_wr W35).1
  have V35p : Arv Z h35 ar27 ca27 .int (4 : Int32) [(.int dd0), (.int dd1), (.int dd2), (.int dd3)] (.int (0 : Int32)) := V35
  refine E_astore (pc' := 173) (L' := #[.val (.int p0), .val (.int p1), .val (.int p2), .val (.int p3), .val (.int p4), .val (.int p5), .val (.int u1), .val (.int u2), .val (.int u5), .val (.ref ar6), .val (.ref ar13), .val (.ref ar27), .unset, .unset, .unset, .unset, .unset, .unset, .unset, .unset, .unset, .unset, .unset, .unset, .unset, .unset, .unset, .unset]) cx st35 at_171 rfl rfl rfl ?_
  refine E_iconst (pc' := 174) cx st35 (4 : Int32) at_173 rfl rfl ?_
  have V36 : Arv Z h35 ar13 ca13 .int (3 : Int32) [(.int t0), (.int t1), (.int t2)] (.int (0 : Int32)) := (((((VJ.ext E27).other W29 ne_ar13_ar27).other W31 ne_ar13_ar27).other W33 ne_ar13_ar27).other W35 ne_ar13_ar27)
  refine E_newP (pc' := 176) (kc' := 4) (ks' := 14) (cap := 4) cx st35 (hw _ (List.mem_of_getElem? (i := 0) rfl)) at_174 (by decide) (by decide) (by decide) (by decide) (by decide) (by decide) (by decide) rfl (ad := "[I") (by decide) ?_
  intro T37 h37 ca37 ar37 eq37 st37 E37 V37 X37
  have g_ar37 : n0 ≤ ar37 := by rw [eq37]; exact Z35
  have ne_ar13_ar37 : ar13 ≠ ar37 := by rw [eq37]; exact Nat.ne_of_lt V36.lt
  have ne_ar27_ar37 : ar27 ≠ ar37 := by rw [eq37]; exact Nat.ne_of_lt V35p.lt
  have Z37 : n0 ≤ h37.size := Nat.le_trans Z35 E37.1
  have V37p : Arv Z h37 ar37 ca37 .int (4 : Int32) [(.int (0 : Int32)), (.int (0 : Int32)), (.int (0 : Int32)), (.int (0 : Int32))] (.int (0 : Int32)) := V37.pad (pad_rep [] (.int (0 : Int32)) 4)
  refine E_dup (pc' := 177) cx st37 at_176 rfl rfl ?_
  refine E_iconst (pc' := 178) cx st37 (0 : Int32) at_177 rfl rfl ?_
  refine E_iloadN (pc' := 179) cx st37 at_178 rfl rfl ?_
  refine E_iconst (pc' := 180) cx st37 (0 : Int32) at_179 rfl rfl ?_
  refine E_iloadN (pc' := 181) cx st37 at_180 rfl rfl ?_
  refine E_callS (pc' := 184) (kc' := 4) (ks' := 14) (W := 3) (argsL := [(.int p1), (.int (0 : Int32)), (.int p2)]) cx st37 [(.int (0 : Int32)), (.ref ar37), (.ref ar37)] (rm2 l Z a0 hw p1 (0 : Int32) p2 h37 n0 Z37) (hw _ (List.mem_of_getElem? (i := 5) rfl)) (hw _ (List.mem_of_getElem? (i := 6) rfl)) (hw _ (List.mem_of_getElem? (i := 3) rfl)) (hw _ (List.mem_of_getElem? (i := 7) rfl)) at_181 rfl rfl (lenOf pd_1 rfl) (Nat.le_of_eq rfl) (by decide) (by decide) (by decide) (by decide) (by decide) (by decide) (by decide) rfl ?_
  intro v38 T38 h38 st38 hq38
  obtain ⟨rfl, hh38⟩ := hq38
  rw [hh38] at st38
  generalize hdd4 : (drw p1 (0 : Int32) p2) = dd4
  refine E_iastore (pc' := 185) (i := 0) cx st38 V37p ⟨by decide, by decide⟩ rfl (Nat.le_of_ble_eq_true rfl) g_ar37 at_184 rfl ?_
  intro T39 h39 st39 W39 V39
  have Z39 : n0 ≤ h39.size := Nat.le_trans Z37 (Keep.of_wr W39).1
  have V39p : Arv Z h39 ar37 ca37 .int (4 : Int32) [(.int dd4), (.int (0 : Int32)), (.int (0 : Int32)), (.int (0 : Int32))] (.int (0 : Int32)) := V39
  refine E_dup (pc' := 186) cx st39 at_185 rfl rfl ?_
  refine E_iconst (pc' := 187) cx st39 (1 : Int32) at_186 rfl rfl ?_
  refine E_iloadN (pc' := 188) cx st39 at_187 rfl rfl ?_
  refine E_iconst (pc' := 189) cx st39 (1 : Int32) at_188 rfl rfl ?_
  refine E_iloadN (pc' := 190) cx st39 at_189 rfl rfl ?_
  refine E_callS (pc' := 193) (kc' := 4) (ks' := 14) (W := 3) (argsL := [(.int p1), (.int (1 : Int32)), (.int p3)]) cx st39 [(.int (1 : Int32)), (.ref ar37), (.ref ar37)] (rm2 l Z a0 hw p1 (1 : Int32) p3 h39 n0 Z39) (hw _ (List.mem_of_getElem? (i := 5) rfl)) (hw _ (List.mem_of_getElem? (i := 6) rfl)) (hw _ (List.mem_of_getElem? (i := 3) rfl)) (hw _ (List.mem_of_getElem? (i := 7) rfl)) at_190 rfl rfl (lenOf pd_1 rfl) (Nat.le_of_eq rfl) (by decide) (by decide) (by decide) (by decide) (by decide) (by decide) (by decide) rfl ?_
  intro v40 T40 h40 st40 hq40
  obtain ⟨rfl, hh40⟩ := hq40
  rw [hh40] at st40
  generalize hdd5 : (drw p1 (1 : Int32) p3) = dd5
  refine E_iastore (pc' := 194) (i := 1) cx st40 V39p ⟨by decide, by decide⟩ rfl (Nat.le_of_ble_eq_true rfl) g_ar37 at_193 rfl ?_
  intro T41 h41 st41 W41 V41
  have Z41 : n0 ≤ h41.size := Nat.le_trans Z39 (Keep.of_wr W41).1
  have V41p : Arv Z h41 ar37 ca37 .int (4 : Int32) [(.int dd4), (.int dd5), (.int (0 : Int32)), (.int (0 : Int32))] (.int (0 : Int32)) := V41
  refine E_dup (pc' := 195) cx st41 at_194 rfl rfl ?_
  refine E_iconst (pc' := 196) cx st41 (2 : Int32) at_195 rfl rfl ?_
  refine E_iloadN (pc' := 197) cx st41 at_196 rfl rfl ?_
  refine E_iconst (pc' := 198) cx st41 (2 : Int32) at_197 rfl rfl ?_
  refine E_iload (pc' := 200) cx st41 at_198 rfl rfl ?_
  refine E_callS (pc' := 203) (kc' := 4) (ks' := 14) (W := 3) (argsL := [(.int p1), (.int (2 : Int32)), (.int p4)]) cx st41 [(.int (2 : Int32)), (.ref ar37), (.ref ar37)] (rm2 l Z a0 hw p1 (2 : Int32) p4 h41 n0 Z41) (hw _ (List.mem_of_getElem? (i := 5) rfl)) (hw _ (List.mem_of_getElem? (i := 6) rfl)) (hw _ (List.mem_of_getElem? (i := 3) rfl)) (hw _ (List.mem_of_getElem? (i := 7) rfl)) at_200 rfl rfl (lenOf pd_1 rfl) (Nat.le_of_eq rfl) (by decide) (by decide) (by decide) (by decide) (by decide) (by decide) (by decide) rfl ?_
  intro v42 T42 h42 st42 hq42
  obtain ⟨rfl, hh42⟩ := hq42
  rw [hh42] at st42
  generalize hdd6 : (drw p1 (2 : Int32) p4) = dd6
  refine E_iastore (pc' := 204) (i := 2) cx st42 V41p ⟨by decide, by decide⟩ rfl (Nat.le_of_ble_eq_true rfl) g_ar37 at_203 rfl ?_
  intro T43 h43 st43 W43 V43
  have Z43 : n0 ≤ h43.size := Nat.le_trans Z41 (Keep.of_wr W43).1
  have V43p : Arv Z h43 ar37 ca37 .int (4 : Int32) [(.int dd4), (.int dd5), (.int dd6), (.int (0 : Int32))] (.int (0 : Int32)) := V43
  refine E_dup (pc' := 205) cx st43 at_204 rfl rfl ?_
  refine E_iconst (pc' := 206) cx st43 (3 : Int32) at_205 rfl rfl ?_
  refine E_iloadN (pc' := 207) cx st43 at_206 rfl rfl ?_
  refine E_iconst (pc' := 208) cx st43 (3 : Int32) at_207 rfl rfl ?_
  refine E_iload (pc' := 210) cx st43 at_208 rfl rfl ?_
  refine E_callS (pc' := 213) (kc' := 4) (ks' := 14) (W := 3) (argsL := [(.int p1), (.int (3 : Int32)), (.int p5)]) cx st43 [(.int (3 : Int32)), (.ref ar37), (.ref ar37)] (rm2 l Z a0 hw p1 (3 : Int32) p5 h43 n0 Z43) (hw _ (List.mem_of_getElem? (i := 5) rfl)) (hw _ (List.mem_of_getElem? (i := 6) rfl)) (hw _ (List.mem_of_getElem? (i := 3) rfl)) (hw _ (List.mem_of_getElem? (i := 7) rfl)) at_210 rfl rfl (lenOf pd_1 rfl) (Nat.le_of_eq rfl) (by decide) (by decide) (by decide) (by decide) (by decide) (by decide) (by decide) rfl ?_
  intro v44 T44 h44 st44 hq44
  obtain ⟨rfl, hh44⟩ := hq44
  rw [hh44] at st44
  generalize hdd7 : (drw p1 (3 : Int32) p5) = dd7
  refine E_iastore (pc' := 214) (i := 3) cx st44 V43p ⟨by decide, by decide⟩ rfl (Nat.le_of_ble_eq_true rfl) g_ar37 at_213 rfl ?_
  intro T45 h45 st45 W45 V45
  have Z45 : n0 ≤ h45.size := Nat.le_trans Z43 (Keep.of_wr W45).1
  have V45p : Arv Z h45 ar37 ca37 .int (4 : Int32) [(.int dd4), (.int dd5), (.int dd6), (.int dd7)] (.int (0 : Int32)) := V45
  refine E_astore (pc' := 216) (L' := #[.val (.int p0), .val (.int p1), .val (.int p2), .val (.int p3), .val (.int p4), .val (.int p5), .val (.int u1), .val (.int u2), .val (.int u5), .val (.ref ar6), .val (.ref ar13), .val (.ref ar27), .val (.ref ar37), .unset, .unset, .unset, .unset, .unset, .unset, .unset, .unset, .unset, .unset, .unset, .unset, .unset, .unset, .unset]) cx st45 at_214 rfl rfl rfl ?_
  refine E_aload (pc' := 218) cx st45 at_216 rfl rfl rfl ?_
  refine E_iconst (pc' := 219) cx st45 (0 : Int32) at_218 rfl rfl ?_
  refine E_iaload (pc' := 220) (x := dd4) cx st45 V45p ⟨by decide, by decide⟩ rfl at_219 rfl ?_
  refine E_istore (pc' := 222) (L' := #[.val (.int p0), .val (.int p1), .val (.int p2), .val (.int p3), .val (.int p4), .val (.int p5), .val (.int u1), .val (.int u2), .val (.int u5), .val (.ref ar6), .val (.ref ar13), .val (.ref ar27), .val (.ref ar37), .val (.int dd4), .unset, .unset, .unset, .unset, .unset, .unset, .unset, .unset, .unset, .unset, .unset, .unset, .unset, .unset]) cx st45 at_220 rfl rfl ?_
  refine E_aload (pc' := 224) cx st45 at_222 rfl rfl rfl ?_
  refine E_iconst (pc' := 225) cx st45 (1 : Int32) at_224 rfl rfl ?_
  refine E_iaload (pc' := 226) (x := dd5) cx st45 V45p ⟨by decide, by decide⟩ rfl at_225 rfl ?_
  refine E_istore (pc' := 228) (L' := #[.val (.int p0), .val (.int p1), .val (.int p2), .val (.int p3), .val (.int p4), .val (.int p5), .val (.int u1), .val (.int u2), .val (.int u5), .val (.ref ar6), .val (.ref ar13), .val (.ref ar27), .val (.ref ar37), .val (.int dd4), .val (.int dd5), .unset, .unset, .unset, .unset, .unset, .unset, .unset, .unset, .unset, .unset, .unset, .unset, .unset]) cx st45 at_226 rfl rfl ?_
  refine E_aload (pc' := 230) cx st45 at_228 rfl rfl rfl ?_
  refine E_iconst (pc' := 231) cx st45 (2 : Int32) at_230 rfl rfl ?_
  refine E_iaload (pc' := 232) (x := dd6) cx st45 V45p ⟨by decide, by decide⟩ rfl at_231 rfl ?_
  refine E_istore (pc' := 234) (L' := #[.val (.int p0), .val (.int p1), .val (.int p2), .val (.int p3), .val (.int p4), .val (.int p5), .val (.int u1), .val (.int u2), .val (.int u5), .val (.ref ar6), .val (.ref ar13), .val (.ref ar27), .val (.ref ar37), .val (.int dd4), .val (.int dd5), .val (.int dd6), .unset, .unset, .unset, .unset, .unset, .unset, .unset, .unset, .unset, .unset, .unset, .unset]) cx st45 at_232 rfl rfl ?_
  refine E_aload (pc' := 236) cx st45 at_234 rfl rfl rfl ?_
  refine E_iconst (pc' := 237) cx st45 (3 : Int32) at_236 rfl rfl ?_
  refine E_iaload (pc' := 238) (x := dd7) cx st45 V45p ⟨by decide, by decide⟩ rfl at_237 rfl ?_
  refine E_istore (pc' := 240) (L' := #[.val (.int p0), .val (.int p1), .val (.int p2), .val (.int p3), .val (.int p4), .val (.int p5), .val (.int u1), .val (.int u2), .val (.int u5), .val (.ref ar6), .val (.ref ar13), .val (.ref ar27), .val (.ref ar37), .val (.int dd4), .val (.int dd5), .val (.int dd6), .val (.int dd7), .unset, .unset, .unset, .unset, .unset, .unset, .unset, .unset, .unset, .unset, .unset]) cx st45 at_238 rfl rfl ?_
  refine E_iconst (pc' := 241) cx st45 (3 : Int32) at_240 rfl rfl ?_
  refine E_iconst (pc' := 242) cx st45 (1 : Int32) at_241 rfl rfl ?_
  have V46 : Arv Z h45 ar13 ca13 .int (3 : Int32) [(.int t0), (.int t1), (.int t2)] (.int (0 : Int32)) := (((((V36.ext E37).other W39 ne_ar13_ar37).other W41 ne_ar13_ar37).other W43 ne_ar13_ar37).other W45 ne_ar13_ar37)
  have V47 : Arv Z h45 ar27 ca27 .int (4 : Int32) [(.int dd0), (.int dd1), (.int dd2), (.int dd3)] (.int (0 : Int32)) := (((((V35p.ext E37).other W39 ne_ar27_ar37).other W41 ne_ar27_ar37).other W43 ne_ar27_ar37).other W45 ne_ar27_ar37)
  refine E_grid (pc' := 246) (kc' := 8) (ks' := 20) (N := 3) (cap := 1) (ty := .int) (C := "[I") (ad := "[[I") cx st45 (by decide) (by decide) (hw _ (List.mem_of_getElem? (i := 8) rfl)) (hw _ (List.mem_of_getElem? (i := 9) rfl)) (hw _ (List.mem_of_getElem? (i := 0) rfl)) at_242 (by decide) (by decide) (by decide) (by decide) (by decide) (by decide) rfl rfl (by decide) (by decide) (by decide) (by decide) rfl ?_
  intro TG hG cG cR stG EG VG0 VR0
  obtain ⟨gr, eqgr⟩ : ∃ z, z = h45.size := ⟨_, rfl⟩
  rw [← eqgr] at VG0 VR0 ⊢
  obtain ⟨r0, eqr0⟩ : ∃ z, z = gr + 1 + 0 := ⟨_, rfl⟩
  obtain ⟨r1, eqr1⟩ : ∃ z, z = gr + 1 + 1 := ⟨_, rfl⟩
  obtain ⟨r2, eqr2⟩ : ∃ z, z = gr + 1 + 2 := ⟨_, rfl⟩
  have ZG : n0 ≤ hG.size := Nat.le_trans Z45 EG.1
  have g_gr : n0 ≤ gr := by rw [eqgr]; exact Z45
  have g_r0 : n0 ≤ r0 := by omega
  have g_r1 : n0 ≤ r1 := by omega
  have g_r2 : n0 ≤ r2 := by omega
  have lt_ar13 : (ar13 : Nat) < h45.size := V46.lt
  have ne_ar13_gr : ar13 ≠ gr := by omega
  have ne_ar13_r0 : ar13 ≠ r0 := by omega
  have ne_ar13_r1 : ar13 ≠ r1 := by omega
  have ne_ar13_r2 : ar13 ≠ r2 := by omega
  have lt_ar27 : (ar27 : Nat) < h45.size := V47.lt
  have ne_ar27_gr : ar27 ≠ gr := by omega
  have ne_ar27_r0 : ar27 ≠ r0 := by omega
  have ne_ar27_r1 : ar27 ≠ r1 := by omega
  have ne_ar27_r2 : ar27 ≠ r2 := by omega
  have lt_ar37 : (ar37 : Nat) < h45.size := V45p.lt
  have ne_ar37_gr : ar37 ≠ gr := by omega
  have ne_ar37_r0 : ar37 ≠ r0 := by omega
  have ne_ar37_r1 : ar37 ≠ r1 := by omega
  have ne_ar37_r2 : ar37 ≠ r2 := by omega
  have ne_gr_r0 : gr ≠ r0 := by omega
  have ne_gr_r1 : gr ≠ r1 := by omega
  have ne_gr_r2 : gr ≠ r2 := by omega
  have ne_r0_r1 : r0 ≠ r1 := by omega
  have ne_r0_r2 : r0 ≠ r2 := by omega
  have ne_r1_r2 : r1 ≠ r2 := by omega
  have VGp : Arv Z hG gr cG (.array .int) (3 : Int32) [(.ref r0), (.ref r1), (.ref r2)] .null := by rw [eqr0, eqr1, eqr2]; exact VG0
  have VRp0 : Arv Z hG r0 cR .int (1 : Int32) [(.int (0 : Int32))] (.int (0 : Int32)) := by rw [eqr0]; exact (VR0 0 (by decide)).pad (pad_rep [] (.int (0 : Int32)) 1)
  have VRp1 : Arv Z hG r1 cR .int (1 : Int32) [(.int (0 : Int32))] (.int (0 : Int32)) := by rw [eqr1]; exact (VR0 1 (by decide)).pad (pad_rep [] (.int (0 : Int32)) 1)
  have VRp2 : Arv Z hG r2 cR .int (1 : Int32) [(.int (0 : Int32))] (.int (0 : Int32)) := by rw [eqr2]; exact (VR0 2 (by decide)).pad (pad_rep [] (.int (0 : Int32)) 1)
  refine E_astore (pc' := 248) (L' := #[.val (.int p0), .val (.int p1), .val (.int p2), .val (.int p3), .val (.int p4), .val (.int p5), .val (.int u1), .val (.int u2), .val (.int u5), .val (.ref ar6), .val (.ref ar13), .val (.ref ar27), .val (.ref ar37), .val (.int dd4), .val (.int dd5), .val (.int dd6), .val (.int dd7), .val (.ref gr), .unset, .unset, .unset, .unset, .unset, .unset, .unset, .unset, .unset, .unset]) cx stG at_246 rfl rfl rfl ?_
  refine E_aload (pc' := 250) cx stG at_248 rfl rfl rfl ?_
  refine E_iconst (pc' := 251) cx stG (0 : Int32) at_250 rfl rfl ?_
  refine E_aaload (pc' := 252) cx stG VGp rfl ⟨by decide, by decide⟩ rfl at_251 rfl ?_
  refine E_iconst (pc' := 253) cx stG (0 : Int32) at_252 rfl rfl ?_
  refine E_aload (pc' := 255) cx stG at_253 rfl rfl rfl ?_
  refine E_aload (pc' := 257) cx stG at_255 rfl rfl rfl ?_
  refine E_iconst (pc' := 258) cx stG (0 : Int32) at_257 rfl rfl ?_
  have V49 : Arv Z hG ar13 ca13 .int (3 : Int32) [(.int t0), (.int t1), (.int t2)] (.int (0 : Int32)) := (V46.ext EG)
  refine E_iaload (pc' := 259) (x := t0) cx stG V49 ⟨by decide, by decide⟩ rfl at_258 rfl ?_
  have V50 : Arv Z hG ar27 ca27 .int (4 : Int32) [(.int dd0), (.int dd1), (.int dd2), (.int dd3)] (.int (0 : Int32)) := (V47.ext EG)
  refine E_iaload (pc' := 260) (x := ([dd0, dd1, dd2, dd3].getD t0.toNatClampNeg 0)) cx stG V50 ht0 (getD_int [dd0, dd1, dd2, dd3] _ 0) at_259 rfl ?_
  refine E_iconst (pc' := 261) cx stG (-1 : Int32) at_260 rfl rfl ?_
  suffices j52 : F TG (mkF m 276 #[.val (.int p0), .val (.int p1), .val (.int p2), .val (.int p3), .val (.int p4), .val (.int p5), .val (.int u1), .val (.int u2), .val (.int u5), .val (.ref ar6), .val (.ref ar13), .val (.ref ar27), .val (.ref ar37), .val (.int dd4), .val (.int dd5), .val (.int dd6), .val (.int dd7), .val (.ref gr), .unset, .unset, .unset, .unset, .unset, .unset, .unset, .unset, .unset, .unset] [(.int (if ([dd0, dd1, dd2, dd3].getD t0.toNatClampNeg 0) = (-1 : Int32) then (100 : Int32) else ([dd0, dd1, dd2, dd3].getD t0.toNatClampNeg 0))), (.int (0 : Int32)), (.ref r0)]) by
    by_cases c51 : ([dd0, dd1, dd2, dd3].getD t0.toNatClampNeg 0) = (-1 : Int32)
    · refine E_icmp_neN (pc' := 264) cx stG at_261 rfl c51 ?_
      refine E_bipush (pc' := 266) cx stG (100 : Int32) at_264 rfl rfl ?_
      refine E_goto (pc' := 276) cx stG at_266 (by decide) (by decide) ?_
      simp only [if_pos c51] at j52; exact j52
    · refine E_icmp_neY (pc' := 269) cx stG at_261 (by decide) (by decide) c51 ?_
      refine E_aload (pc' := 271) cx stG at_269 rfl rfl rfl ?_
      refine E_aload (pc' := 273) cx stG at_271 rfl rfl rfl ?_
      refine E_iconst (pc' := 274) cx stG (0 : Int32) at_273 rfl rfl ?_
      refine E_iaload (pc' := 275) (x := t0) cx stG V49 ⟨by decide, by decide⟩ rfl at_274 rfl ?_
      refine E_iaload (pc' := 276) (x := ([dd0, dd1, dd2, dd3].getD t0.toNatClampNeg 0)) cx stG V50 ht0 (getD_int [dd0, dd1, dd2, dd3] _ 0) at_275 rfl ?_
      simp only [if_neg c51] at j52; exact j52
  generalize hu53 : (if ([dd0, dd1, dd2, dd3].getD t0.toNatClampNeg 0) = (-1 : Int32) then (100 : Int32) else ([dd0, dd1, dd2, dd3].getD t0.toNatClampNeg 0)) = u53
  have hy0 : ¬ u53 = (-1 : Int32) := by rw [← hu53]; exact yne _ _ (by decide)
  refine E_iastore (pc' := 277) (i := 0) cx stG VRp0 ⟨by decide, by decide⟩ rfl (Nat.le_of_ble_eq_true rfl) g_r0 at_276 rfl ?_
  intro T54 h54 st54 W54 V54
  have Z54 : n0 ≤ h54.size := Nat.le_trans ZG (Keep.of_wr W54).1
  have V54p : Arv Z h54 r0 cR .int (1 : Int32) [(.int u53)] (.int (0 : Int32)) := V54
  refine E_aload (pc' := 279) cx st54 at_277 rfl rfl rfl ?_
  refine E_iconst (pc' := 280) cx st54 (1 : Int32) at_279 rfl rfl ?_
  have V55 : Arv Z h54 gr cG (.array .int) (3 : Int32) [(.ref r0), (.ref r1), (.ref r2)] .null := (VGp.other W54 ne_gr_r0)
  refine E_aaload (pc' := 281) cx st54 V55 rfl ⟨by decide, by decide⟩ rfl at_280 rfl ?_
  refine E_iconst (pc' := 282) cx st54 (0 : Int32) at_281 rfl rfl ?_
  refine E_aload (pc' := 284) cx st54 at_282 rfl rfl rfl ?_
  refine E_aload (pc' := 286) cx st54 at_284 rfl rfl rfl ?_
  refine E_iconst (pc' := 287) cx st54 (1 : Int32) at_286 rfl rfl ?_
  have V56 : Arv Z h54 ar13 ca13 .int (3 : Int32) [(.int t0), (.int t1), (.int t2)] (.int (0 : Int32)) := (V49.other W54 ne_ar13_r0)
  refine E_iaload (pc' := 288) (x := t1) cx st54 V56 ⟨by decide, by decide⟩ rfl at_287 rfl ?_
  have V57 : Arv Z h54 ar27 ca27 .int (4 : Int32) [(.int dd0), (.int dd1), (.int dd2), (.int dd3)] (.int (0 : Int32)) := (V50.other W54 ne_ar27_r0)
  refine E_iaload (pc' := 289) (x := ([dd0, dd1, dd2, dd3].getD t1.toNatClampNeg 0)) cx st54 V57 ht1 (getD_int [dd0, dd1, dd2, dd3] _ 0) at_288 rfl ?_
  refine E_iconst (pc' := 290) cx st54 (-1 : Int32) at_289 rfl rfl ?_
  suffices j59 : F T54 (mkF m 305 #[.val (.int p0), .val (.int p1), .val (.int p2), .val (.int p3), .val (.int p4), .val (.int p5), .val (.int u1), .val (.int u2), .val (.int u5), .val (.ref ar6), .val (.ref ar13), .val (.ref ar27), .val (.ref ar37), .val (.int dd4), .val (.int dd5), .val (.int dd6), .val (.int dd7), .val (.ref gr), .unset, .unset, .unset, .unset, .unset, .unset, .unset, .unset, .unset, .unset] [(.int (if ([dd0, dd1, dd2, dd3].getD t1.toNatClampNeg 0) = (-1 : Int32) then (101 : Int32) else ([dd0, dd1, dd2, dd3].getD t1.toNatClampNeg 0))), (.int (0 : Int32)), (.ref r1)]) by
    by_cases c58 : ([dd0, dd1, dd2, dd3].getD t1.toNatClampNeg 0) = (-1 : Int32)
    · refine E_icmp_neN (pc' := 293) cx st54 at_290 rfl c58 ?_
      refine E_bipush (pc' := 295) cx st54 (101 : Int32) at_293 rfl rfl ?_
      refine E_goto (pc' := 305) cx st54 at_295 (by decide) (by decide) ?_
      simp only [if_pos c58] at j59; exact j59
    · refine E_icmp_neY (pc' := 298) cx st54 at_290 (by decide) (by decide) c58 ?_
      refine E_aload (pc' := 300) cx st54 at_298 rfl rfl rfl ?_
      refine E_aload (pc' := 302) cx st54 at_300 rfl rfl rfl ?_
      refine E_iconst (pc' := 303) cx st54 (1 : Int32) at_302 rfl rfl ?_
      refine E_iaload (pc' := 304) (x := t1) cx st54 V56 ⟨by decide, by decide⟩ rfl at_303 rfl ?_
      refine E_iaload (pc' := 305) (x := ([dd0, dd1, dd2, dd3].getD t1.toNatClampNeg 0)) cx st54 V57 ht1 (getD_int [dd0, dd1, dd2, dd3] _ 0) at_304 rfl ?_
      simp only [if_neg c58] at j59; exact j59
  generalize hu60 : (if ([dd0, dd1, dd2, dd3].getD t1.toNatClampNeg 0) = (-1 : Int32) then (101 : Int32) else ([dd0, dd1, dd2, dd3].getD t1.toNatClampNeg 0)) = u60
  have hy1 : ¬ u60 = (-1 : Int32) := by rw [← hu60]; exact yne _ _ (by decide)
  have V61 : Arv Z h54 r1 cR .int (1 : Int32) [(.int (0 : Int32))] (.int (0 : Int32)) := (VRp1.other W54 (Ne.symm ne_r0_r1))
  refine E_iastore (pc' := 306) (i := 0) cx st54 V61 ⟨by decide, by decide⟩ rfl (Nat.le_of_ble_eq_true rfl) g_r1 at_305 rfl ?_
  intro T62 h62 st62 W62 V62
  have Z62 : n0 ≤ h62.size := Nat.le_trans Z54 (Keep.of_wr W62).1
  have V62p : Arv Z h62 r1 cR .int (1 : Int32) [(.int u60)] (.int (0 : Int32)) := V62
  refine E_aload (pc' := 308) cx st62 at_306 rfl rfl rfl ?_
  refine E_iconst (pc' := 309) cx st62 (2 : Int32) at_308 rfl rfl ?_
  have V63 : Arv Z h62 gr cG (.array .int) (3 : Int32) [(.ref r0), (.ref r1), (.ref r2)] .null := (V55.other W62 ne_gr_r1)
  refine E_aaload (pc' := 310) cx st62 V63 rfl ⟨by decide, by decide⟩ rfl at_309 rfl ?_
  refine E_iconst (pc' := 311) cx st62 (0 : Int32) at_310 rfl rfl ?_
  refine E_aload (pc' := 313) cx st62 at_311 rfl rfl rfl ?_
  refine E_aload (pc' := 315) cx st62 at_313 rfl rfl rfl ?_
  refine E_iconst (pc' := 316) cx st62 (2 : Int32) at_315 rfl rfl ?_
  have V64 : Arv Z h62 ar13 ca13 .int (3 : Int32) [(.int t0), (.int t1), (.int t2)] (.int (0 : Int32)) := (V56.other W62 ne_ar13_r1)
  refine E_iaload (pc' := 317) (x := t2) cx st62 V64 ⟨by decide, by decide⟩ rfl at_316 rfl ?_
  have V65 : Arv Z h62 ar27 ca27 .int (4 : Int32) [(.int dd0), (.int dd1), (.int dd2), (.int dd3)] (.int (0 : Int32)) := (V57.other W62 ne_ar27_r1)
  refine E_iaload (pc' := 318) (x := ([dd0, dd1, dd2, dd3].getD t2.toNatClampNeg 0)) cx st62 V65 ht2 (getD_int [dd0, dd1, dd2, dd3] _ 0) at_317 rfl ?_
  refine E_iconst (pc' := 319) cx st62 (-1 : Int32) at_318 rfl rfl ?_
  suffices j67 : F T62 (mkF m 334 #[.val (.int p0), .val (.int p1), .val (.int p2), .val (.int p3), .val (.int p4), .val (.int p5), .val (.int u1), .val (.int u2), .val (.int u5), .val (.ref ar6), .val (.ref ar13), .val (.ref ar27), .val (.ref ar37), .val (.int dd4), .val (.int dd5), .val (.int dd6), .val (.int dd7), .val (.ref gr), .unset, .unset, .unset, .unset, .unset, .unset, .unset, .unset, .unset, .unset] [(.int (if ([dd0, dd1, dd2, dd3].getD t2.toNatClampNeg 0) = (-1 : Int32) then (102 : Int32) else ([dd0, dd1, dd2, dd3].getD t2.toNatClampNeg 0))), (.int (0 : Int32)), (.ref r2)]) by
    by_cases c66 : ([dd0, dd1, dd2, dd3].getD t2.toNatClampNeg 0) = (-1 : Int32)
    · refine E_icmp_neN (pc' := 322) cx st62 at_319 rfl c66 ?_
      refine E_bipush (pc' := 324) cx st62 (102 : Int32) at_322 rfl rfl ?_
      refine E_goto (pc' := 334) cx st62 at_324 (by decide) (by decide) ?_
      simp only [if_pos c66] at j67; exact j67
    · refine E_icmp_neY (pc' := 327) cx st62 at_319 (by decide) (by decide) c66 ?_
      refine E_aload (pc' := 329) cx st62 at_327 rfl rfl rfl ?_
      refine E_aload (pc' := 331) cx st62 at_329 rfl rfl rfl ?_
      refine E_iconst (pc' := 332) cx st62 (2 : Int32) at_331 rfl rfl ?_
      refine E_iaload (pc' := 333) (x := t2) cx st62 V64 ⟨by decide, by decide⟩ rfl at_332 rfl ?_
      refine E_iaload (pc' := 334) (x := ([dd0, dd1, dd2, dd3].getD t2.toNatClampNeg 0)) cx st62 V65 ht2 (getD_int [dd0, dd1, dd2, dd3] _ 0) at_333 rfl ?_
      simp only [if_neg c66] at j67; exact j67
  generalize hu68 : (if ([dd0, dd1, dd2, dd3].getD t2.toNatClampNeg 0) = (-1 : Int32) then (102 : Int32) else ([dd0, dd1, dd2, dd3].getD t2.toNatClampNeg 0)) = u68
  have hy2 : ¬ u68 = (-1 : Int32) := by rw [← hu68]; exact yne _ _ (by decide)
  have V69 : Arv Z h62 r2 cR .int (1 : Int32) [(.int (0 : Int32))] (.int (0 : Int32)) := ((VRp2.other W54 (Ne.symm ne_r0_r2)).other W62 (Ne.symm ne_r1_r2))
  refine E_iastore (pc' := 335) (i := 0) cx st62 V69 ⟨by decide, by decide⟩ rfl (Nat.le_of_ble_eq_true rfl) g_r2 at_334 rfl ?_
  intro T70 h70 st70 W70 V70
  have Z70 : n0 ≤ h70.size := Nat.le_trans Z62 (Keep.of_wr W70).1
  have V70p : Arv Z h70 r2 cR .int (1 : Int32) [(.int u68)] (.int (0 : Int32)) := V70
  have V71 : Arv Z h70 ar13 ca13 .int (3 : Int32) [(.int t0), (.int t1), (.int t2)] (.int (0 : Int32)) := (V64.other W70 ne_ar13_r2)
  have V72 : Arv Z h70 ar27 ca27 .int (4 : Int32) [(.int dd0), (.int dd1), (.int dd2), (.int dd3)] (.int (0 : Int32)) := (V65.other W70 ne_ar27_r2)
  have V73 : Arv Z h70 ar37 ca37 .int (4 : Int32) [(.int dd4), (.int dd5), (.int dd6), (.int dd7)] (.int (0 : Int32)) := ((((V45p.ext EG).other W54 ne_ar37_r0).other W62 ne_ar37_r1).other W70 ne_ar37_r2)
  have V74 : Arv Z h70 gr cG (.array .int) (3 : Int32) [(.ref r0), (.ref r1), (.ref r2)] .null := (V63.other W70 ne_gr_r2)
  have V75 : Arv Z h70 r0 cR .int (1 : Int32) [(.int u53)] (.int (0 : Int32)) := ((V54p.other W62 ne_r0_r1).other W70 ne_r0_r2)
  have V76 : Arv Z h70 r1 cR .int (1 : Int32) [(.int u60)] (.int (0 : Int32)) := (V62p.other W70 ne_r1_r2)
  refine E_new (pc' := 338) (kc' := 9) (ks' := 26) cx st70 (hw _ (List.mem_of_getElem? (i := 10) rfl)) (hw _ (List.mem_of_getElem? (i := 11) rfl)) (hw _ (List.mem_of_getElem? (i := 12) rfl)) at_335 (by decide) (by decide) (by decide) (by decide) rfl ?_
  intro T77 h77 ob77 eq77 st77 E77 X77 D77
  have g_ob77 : n0 ≤ ob77 := by rw [eq77]; exact Z70
  have ne_ar13_ob77 : ar13 ≠ ob77 := by rw [eq77]; exact Nat.ne_of_lt V71.lt
  have ne_ar27_ob77 : ar27 ≠ ob77 := by rw [eq77]; exact Nat.ne_of_lt V72.lt
  have ne_ar37_ob77 : ar37 ≠ ob77 := by rw [eq77]; exact Nat.ne_of_lt V73.lt
  have ne_gr_ob77 : gr ≠ ob77 := by rw [eq77]; exact Nat.ne_of_lt V74.lt
  have ne_r0_ob77 : r0 ≠ ob77 := by rw [eq77]; exact Nat.ne_of_lt V75.lt
  have ne_r1_ob77 : r1 ≠ ob77 := by rw [eq77]; exact Nat.ne_of_lt V76.lt
  have ne_r2_ob77 : r2 ≠ ob77 := by rw [eq77]; exact Nat.ne_of_lt V70p.lt
  have Z77 : n0 ≤ h77.size := Nat.le_trans Z70 E77.1
  have F77_slots : Fld Z h77 ob77 "org/querne/sparql/SeedMerge" "slots" "[I" .null := D77 (Or.inr (hw _ (List.mem_of_getElem? (i := 20) rfl))) (ty := (.array .int)) (by decide)
  have F77_seedColumns : Fld Z h77 ob77 "org/querne/sparql/SeedMerge" "seedColumns" "[I" .null := D77 (Or.inr (hw _ (List.mem_of_getElem? (i := 22) rfl))) (ty := (.array .int)) (by decide)
  have F77_merged : Fld Z h77 ob77 "org/querne/sparql/SeedMerge" "merged" "[I" .null := D77 (Or.inr (hw _ (List.mem_of_getElem? (i := 24) rfl))) (ty := (.array .int)) (by decide)
  have F77_seed : Fld Z h77 ob77 "org/querne/sparql/SeedMerge" "seed" "[I" .null := D77 (Or.inl (hw _ (List.mem_of_getElem? (i := 31) rfl))) (ty := (.array .int)) (by decide)
  have F77_mergedCount : Fld Z h77 ob77 "org/querne/sparql/SeedMerge" "mergedCount" "I" (.int (0 : Int32)) := D77 (Or.inl (hw _ (List.mem_of_getElem? (i := 33) rfl))) (ty := .int) (by decide)
  have F77_seedColumnCount : Fld Z h77 ob77 "org/querne/sparql/SeedMerge" "seedColumnCount" "I" (.int (0 : Int32)) := D77 (Or.inl (hw _ (List.mem_of_getElem? (i := 35) rfl))) (ty := .int) (by decide)
  refine E_dup (pc' := 339) cx st77 at_338 rfl rfl ?_
  refine E_aload (pc' := 341) cx st77 at_339 rfl rfl rfl ?_
  have V78 : Arv Z h77 ar13 ca13 .int (3 : Int32) [(.int t0), (.int t1), (.int t2)] (.int (0 : Int32)) := (V71.ext E77)
  have V79 : Arv Z h77 ar27 ca27 .int (4 : Int32) [(.int dd0), (.int dd1), (.int dd2), (.int dd3)] (.int (0 : Int32)) := (V72.ext E77)
  have V80 : Arv Z h77 ar37 ca37 .int (4 : Int32) [(.int dd4), (.int dd5), (.int dd6), (.int dd7)] (.int (0 : Int32)) := (V73.ext E77)
  have V81 : Arv Z h77 gr cG (.array .int) (3 : Int32) [(.ref r0), (.ref r1), (.ref r2)] .null := (V74.ext E77)
  have V82 : Arv Z h77 r0 cR .int (1 : Int32) [(.int u53)] (.int (0 : Int32)) := (V75.ext E77)
  have V83 : Arv Z h77 r1 cR .int (1 : Int32) [(.int u60)] (.int (0 : Int32)) := (V76.ext E77)
  have V84 : Arv Z h77 r2 cR .int (1 : Int32) [(.int u68)] (.int (0 : Int32)) := (V70p.ext E77)
  refine E_callI (pc' := 344) (kc' := 11) (ks' := 32) (W := 1) (a := ob77) (argsL := [(.ref ar13)]) cx st77 [(.ref ob77)] (rm3 l Z a0 hw ob77 ar13 t0 t1 t2 h77 n0 Z77 ca13 g_ob77 (Ne.symm ne_ar13_ob77) X77 F77_slots F77_seedColumns F77_merged F77_seed F77_seedColumnCount F77_mergedCount V78) rfl (hw _ (List.mem_of_getElem? (i := 13) rfl)) (hw _ (List.mem_of_getElem? (i := 14) rfl)) (hw _ (List.mem_of_getElem? (i := 12) rfl)) (hw _ (List.mem_of_getElem? (i := 15) rfl)) at_341 rfl rfl (lenOf pd_2 rfl) (Nat.le_of_eq rfl) (by decide) (by decide) (by decide) (by decide) (by decide) (by decide) (by decide) rfl ?_
  intro v85 T85 h85 st85 hq85
  obtain ⟨rfl, Kn, sc, mg, kC, kM, H1, H2, H3, H4, H5, H6, VC, VM, szc, szm, ncm⟩ := hq85
  have g_sc : n0 ≤ sc := Nat.le_trans Z77 szc
  have g_mg : n0 ≤ mg := Nat.le_trans Z77 szm
  have Z85 : n0 ≤ h85.size := Nat.le_trans Z77 Kn.1
  have ne_ar13_sc : ar13 ≠ sc := Nat.ne_of_lt (Nat.lt_of_lt_of_le V78.lt szc)
  have ne_ar27_sc : ar27 ≠ sc := Nat.ne_of_lt (Nat.lt_of_lt_of_le V79.lt szc)
  have ne_ar37_sc : ar37 ≠ sc := Nat.ne_of_lt (Nat.lt_of_lt_of_le V80.lt szc)
  have ne_gr_sc : gr ≠ sc := Nat.ne_of_lt (Nat.lt_of_lt_of_le V81.lt szc)
  have ne_r0_sc : r0 ≠ sc := Nat.ne_of_lt (Nat.lt_of_lt_of_le V82.lt szc)
  have ne_r1_sc : r1 ≠ sc := Nat.ne_of_lt (Nat.lt_of_lt_of_le V83.lt szc)
  have ne_r2_sc : r2 ≠ sc := Nat.ne_of_lt (Nat.lt_of_lt_of_le V84.lt szc)
  have ne_ob77_sc : ob77 ≠ sc := Nat.ne_of_lt (Nat.lt_of_lt_of_le X77.lt szc)
  have ne_ar13_mg : ar13 ≠ mg := Nat.ne_of_lt (Nat.lt_of_lt_of_le V78.lt szm)
  have ne_ar27_mg : ar27 ≠ mg := Nat.ne_of_lt (Nat.lt_of_lt_of_le V79.lt szm)
  have ne_ar37_mg : ar37 ≠ mg := Nat.ne_of_lt (Nat.lt_of_lt_of_le V80.lt szm)
  have ne_gr_mg : gr ≠ mg := Nat.ne_of_lt (Nat.lt_of_lt_of_le V81.lt szm)
  have ne_r0_mg : r0 ≠ mg := Nat.ne_of_lt (Nat.lt_of_lt_of_le V82.lt szm)
  have ne_r1_mg : r1 ≠ mg := Nat.ne_of_lt (Nat.lt_of_lt_of_le V83.lt szm)
  have ne_r2_mg : r2 ≠ mg := Nat.ne_of_lt (Nat.lt_of_lt_of_le V84.lt szm)
  have ne_ob77_mg : ob77 ≠ mg := Nat.ne_of_lt (Nat.lt_of_lt_of_le X77.lt szm)
  refine E_astore (pc' := 346) (L' := #[.val (.int p0), .val (.int p1), .val (.int p2), .val (.int p3), .val (.int p4), .val (.int p5), .val (.int u1), .val (.int u2), .val (.int u5), .val (.ref ar6), .val (.ref ar13), .val (.ref ar27), .val (.ref ar37), .val (.int dd4), .val (.int dd5), .val (.int dd6), .val (.int dd7), .val (.ref gr), .val (.ref ob77), .unset, .unset, .unset, .unset, .unset, .unset, .unset, .unset, .unset]) cx st85 at_344 rfl rfl rfl ?_
  refine E_aload (pc' := 348) cx st85 at_346 rfl rfl rfl ?_
  refine E_aload (pc' := 350) cx st85 at_348 rfl rfl rfl ?_
  have X86 : Exa Z h85 ob77 "org/querne/sparql/SeedMerge" := (X77.keep Kn)
  have V87 : Arv Z h85 ar13 ca13 .int (3 : Int32) [(.int t0), (.int t1), (.int t2)] (.int (0 : Int32)) := (V78.keep Kn (ninS ne_ar13_ob77 nin0))
  have V88 : Arv Z h85 ar27 ca27 .int (4 : Int32) [(.int dd0), (.int dd1), (.int dd2), (.int dd3)] (.int (0 : Int32)) := (V79.keep Kn (ninS ne_ar27_ob77 nin0))
  refine E_callV (pc' := 353) (kc' := 11) (ks' := 32) (W := 0) (a := ob77) (argsL := [(.ref ar27)]) cx st85 [] (rm5 l Z a0 hw ob77 ar27 ar13 sc mg t0 t1 t2 dd0 dd1 dd2 dd3 (0 : Int32) (0 : Int32) (0 : Int32) (0 : Int32) (0 : Int32) h85 n0 Z85 .null ca13 ca27 kC g_ob77 g_sc (Ne.symm ne_ar27_ob77) (Ne.symm ne_ar13_ob77) ne_ob77_sc (Ne.symm ne_ar27_sc) (Ne.symm ne_ar13_sc) X86 H1 H4 H2 H3 H6 H5 V87 V88 VC ht0 ht1 ht2) X86 (hw _ (List.mem_of_getElem? (i := 25) rfl)) (hw _ (List.mem_of_getElem? (i := 26) rfl)) (hw _ (List.mem_of_getElem? (i := 28) rfl)) (hw _ (List.mem_of_getElem? (i := 27) rfl)) (hw _ (List.mem_of_getElem? (i := 12) rfl)) (hw _ (List.mem_of_getElem? (i := 29) rfl)) at_350 rfl rfl (lenOf pd_2 rfl) (Nat.le_of_eq rfl) (by decide) (by decide) (by decide) (by decide) (by decide) (by decide) (by decide) rfl ?_
  intro v89 T89 h89 st89 hq89
  obtain ⟨rfl, Ka, H1, H2, H3, H4, H5, na, ya0, ya1, ya2, H6, VCa, hna, hca⟩ := hq89
  have Z89 : n0 ≤ h89.size := Nat.le_trans Z85 Ka.1
  refine E_aload (pc' := 355) cx st89 at_353 rfl rfl rfl ?_
  refine E_aload (pc' := 357) cx st89 at_355 rfl rfl rfl ?_
  refine E_iconst (pc' := 358) cx st89 (0 : Int32) at_357 rfl rfl ?_
  have X90 : Exa Z h89 ob77 "org/querne/sparql/SeedMerge" := (X86.keep Ka)
  have V91 : Arv Z h89 gr cG (.array .int) (3 : Int32) [(.ref r0), (.ref r1), (.ref r2)] .null := ((V81.keep Kn (ninS ne_gr_ob77 nin0)).keep Ka (ninS ne_gr_ob77 (ninS ne_gr_sc nin0)))
  have V92 : Arv Z h89 ar13 ca13 .int (3 : Int32) [(.int t0), (.int t1), (.int t2)] (.int (0 : Int32)) := (V87.keep Ka (ninS ne_ar13_ob77 (ninS ne_ar13_sc nin0)))
  have V93 : Arv Z h89 ar27 ca27 .int (4 : Int32) [(.int dd0), (.int dd1), (.int dd2), (.int dd3)] (.int (0 : Int32)) := (V88.keep Ka (ninS ne_ar27_ob77 (ninS ne_ar27_sc nin0)))
  have V94 : Arv Z h89 mg kM .int (3 : Int32) [(.int (0 : Int32)), (.int (0 : Int32)), (.int (0 : Int32))] (.int (0 : Int32)) := (VM.keep Ka (ninS (Ne.symm ne_ob77_mg) (ninS (Ne.symm ncm) nin0)))
  have V95 : Arv Z h89 r0 cR .int (1 : Int32) [(.int u53)] (.int (0 : Int32)) := ((V82.keep Kn (ninS ne_r0_ob77 nin0)).keep Ka (ninS ne_r0_ob77 (ninS ne_r0_sc nin0)))
  have V96 : Arv Z h89 r1 cR .int (1 : Int32) [(.int u60)] (.int (0 : Int32)) := ((V83.keep Kn (ninS ne_r1_ob77 nin0)).keep Ka (ninS ne_r1_ob77 (ninS ne_r1_sc nin0)))
  have V97 : Arv Z h89 r2 cR .int (1 : Int32) [(.int u68)] (.int (0 : Int32)) := ((V84.keep Kn (ninS ne_r2_ob77 nin0)).keep Ka (ninS ne_r2_ob77 (ninS ne_r2_sc nin0)))
  refine E_callV (pc' := 361) (kc' := 11) (ks' := 32) (W := 0) (a := ob77) (argsL := [(.ref gr), (.int (0 : Int32))]) cx st89 [] (rm6 l Z a0 hw ob77 gr r0 r1 r2 ar13 ar27 sc mg u53 u60 u68 t0 t1 t2 dd0 dd1 dd2 dd3 (0 : Int32) (0 : Int32) (0 : Int32) na h89 n0 Z89 cG cR ca13 ca27 kM g_ob77 g_ar27 g_mg (Ne.symm ne_ar27_ob77) ne_ob77_mg ne_ar27_mg (Ne.symm ne_gr_ob77) (Ne.symm ne_r0_ob77) (Ne.symm ne_r1_ob77) (Ne.symm ne_r2_ob77) (Ne.symm ne_ar13_ob77) ne_ar27_gr ne_ar27_r0 ne_ar27_r1 ne_ar27_r2 (Ne.symm ne_ar13_ar27) (Ne.symm ne_gr_mg) (Ne.symm ne_r0_mg) (Ne.symm ne_r1_mg) (Ne.symm ne_r2_mg) (Ne.symm ne_ar13_mg) X90 H1 H2 H3 H4 H6 H5 V91 V95 V96 V97 V92 V93 V94 ht0 hy0 ht1 hy1 ht2 hy2) X90 (hw _ (List.mem_of_getElem? (i := 36) rfl)) (hw _ (List.mem_of_getElem? (i := 37) rfl)) (hw _ (List.mem_of_getElem? (i := 39) rfl)) (hw _ (List.mem_of_getElem? (i := 38) rfl)) (hw _ (List.mem_of_getElem? (i := 12) rfl)) (hw _ (List.mem_of_getElem? (i := 40) rfl)) at_358 rfl rfl (lenOf pd_3 rfl) (Nat.le_of_eq rfl) (by decide) (by decide) (by decide) (by decide) (by decide) (by decide) (by decide) rfl ?_
  intro v98 T98 h98 st98 hq98
  obtain ⟨rfl, Km, H1, H2, H3, H4, H5, mcm, esm, wm0, wm1, wm2, H6, lm, VDm, VMm⟩ := hq98
  have Z98 : n0 ≤ h98.size := Nat.le_trans Z89 Km.1
  refine E_aload (pc' := 363) cx st98 at_361 rfl rfl rfl ?_
  refine E_aload (pc' := 365) cx st98 at_363 rfl rfl rfl ?_
  have X99 : Exa Z h98 ob77 "org/querne/sparql/SeedMerge" := (X90.keep Km)
  have V100 : Arv Z h98 ar13 ca13 .int (3 : Int32) [(.int t0), (.int t1), (.int t2)] (.int (0 : Int32)) := (V92.keep Km (ninS ne_ar13_ob77 (ninS ne_ar13_ar27 (ninS ne_ar13_mg nin0))))
  have V101 : Arv Z h98 ar37 ca37 .int (4 : Int32) [(.int dd4), (.int dd5), (.int dd6), (.int dd7)] (.int (0 : Int32)) := (((V80.keep Kn (ninS ne_ar37_ob77 nin0)).keep Ka (ninS ne_ar37_ob77 (ninS ne_ar37_sc nin0))).keep Km (ninS ne_ar37_ob77 (ninS (Ne.symm ne_ar27_ar37) (ninS ne_ar37_mg nin0))))
  have V102 : Arv Z h98 sc kC .int (3 : Int32) [(.int ya0), (.int ya1), (.int ya2)] (.int (0 : Int32)) := (VCa.keep Km (ninS (Ne.symm ne_ob77_sc) (ninS (Ne.symm ne_ar27_sc) (ninS ncm nin0))))
  refine E_callV (pc' := 368) (kc' := 11) (ks' := 32) (W := 0) (a := ob77) (argsL := [(.ref ar37)]) cx st98 [] (rm5 l Z a0 hw ob77 ar37 ar13 sc mg t0 t1 t2 dd4 dd5 dd6 dd7 ya0 ya1 ya2 mcm na h98 n0 Z98 (.ref ar27) ca13 ca37 kC g_ob77 g_sc (Ne.symm ne_ar37_ob77) (Ne.symm ne_ar13_ob77) ne_ob77_sc (Ne.symm ne_ar37_sc) (Ne.symm ne_ar13_sc) X99 H1 H2 H3 H4 H6 H5 V100 V101 V102 ht0 ht1 ht2) X99 (hw _ (List.mem_of_getElem? (i := 25) rfl)) (hw _ (List.mem_of_getElem? (i := 26) rfl)) (hw _ (List.mem_of_getElem? (i := 28) rfl)) (hw _ (List.mem_of_getElem? (i := 27) rfl)) (hw _ (List.mem_of_getElem? (i := 12) rfl)) (hw _ (List.mem_of_getElem? (i := 29) rfl)) at_365 rfl rfl (lenOf pd_2 rfl) (Nat.le_of_eq rfl) (by decide) (by decide) (by decide) (by decide) (by decide) (by decide) (by decide) rfl ?_
  intro v103 T103 h103 st103 hq103
  obtain ⟨rfl, Kb, H1, H2, H3, H4, H5, nb, yb0, yb1, yb2, H6, VCb, hnb, hcb⟩ := hq103
  have Z103 : n0 ≤ h103.size := Nat.le_trans Z98 Kb.1
  refine E_iload (pc' := 370) cx st103 at_368 rfl rfl ?_
  refine E_iconst (pc' := 371) cx st103 (-1 : Int32) at_370 rfl rfl ?_
  suffices j105 : F T103 (mkF m 379 #[.val (.int p0), .val (.int p1), .val (.int p2), .val (.int p3), .val (.int p4), .val (.int p5), .val (.int u1), .val (.int u2), .val (.int u5), .val (.ref ar6), .val (.ref ar13), .val (.ref ar27), .val (.ref ar37), .val (.int dd4), .val (.int dd5), .val (.int dd6), .val (.int dd7), .val (.ref gr), .val (.ref ob77), .unset, .unset, .unset, .unset, .unset, .unset, .unset, .unset, .unset] [(.int (if dd4 = (-1 : Int32) then (0 : Int32) else (1 : Int32)))]) by
    by_cases c104 : dd4 = (-1 : Int32)
    · refine E_icmp_eqY (pc' := 378) cx st103 at_371 (by decide) (by decide) c104 ?_
      refine E_iconst (pc' := 379) cx st103 (0 : Int32) at_378 rfl rfl ?_
      simp only [if_pos c104] at j105; exact j105
    · refine E_icmp_eqN (pc' := 374) cx st103 at_371 rfl c104 ?_
      refine E_iconst (pc' := 375) cx st103 (1 : Int32) at_374 rfl rfl ?_
      refine E_goto (pc' := 379) cx st103 at_375 (by decide) (by decide) ?_
      simp only [if_neg c104] at j105; exact j105
  generalize hu106 : (if dd4 = (-1 : Int32) then (0 : Int32) else (1 : Int32)) = u106
  have hcol := shr3 p0 12 12 (by decide) (by decide)
  have hxc := get3b hcol ht0 ht1 ht2
  refine E_istore (pc' := 381) (L' := #[.val (.int p0), .val (.int p1), .val (.int p2), .val (.int p3), .val (.int p4), .val (.int p5), .val (.int u1), .val (.int u2), .val (.int u5), .val (.ref ar6), .val (.ref ar13), .val (.ref ar27), .val (.ref ar37), .val (.int dd4), .val (.int dd5), .val (.int dd6), .val (.int dd7), .val (.ref gr), .val (.ref ob77), .val (.int u106), .unset, .unset, .unset, .unset, .unset, .unset, .unset, .unset]) cx st103 at_379 rfl rfl ?_
  refine E_iconst (pc' := 382) cx st103 (4 : Int32) at_381 rfl rfl ?_
  have V107 : Arv Z h103 ar13 ca13 .int (3 : Int32) [(.int t0), (.int t1), (.int t2)] (.int (0 : Int32)) := (V100.keep Kb (ninS ne_ar13_ob77 (ninS ne_ar13_sc nin0)))
  have V108 : Arv Z h103 ar27 ca27 .int (4 : Int32) (esm.map Value.int) (.int (0 : Int32)) := (VDm.keep Kb (ninS ne_ar27_ob77 (ninS ne_ar27_sc nin0)))
  have V109 : Arv Z h103 ar37 ca37 .int (4 : Int32) [(.int dd4), (.int dd5), (.int dd6), (.int dd7)] (.int (0 : Int32)) := (V101.keep Kb (ninS ne_ar37_ob77 (ninS ne_ar37_sc nin0)))
  have V110 : Arv Z h103 gr cG (.array .int) (3 : Int32) [(.ref r0), (.ref r1), (.ref r2)] .null := ((V91.keep Km (ninS ne_gr_ob77 (ninS (Ne.symm ne_ar27_gr) (ninS ne_gr_mg nin0)))).keep Kb (ninS ne_gr_ob77 (ninS ne_gr_sc nin0)))
  have V111 : Arv Z h103 r0 cR .int (1 : Int32) [(.int u53)] (.int (0 : Int32)) := ((V95.keep Km (ninS ne_r0_ob77 (ninS (Ne.symm ne_ar27_r0) (ninS ne_r0_mg nin0)))).keep Kb (ninS ne_r0_ob77 (ninS ne_r0_sc nin0)))
  have V112 : Arv Z h103 r1 cR .int (1 : Int32) [(.int u60)] (.int (0 : Int32)) := ((V96.keep Km (ninS ne_r1_ob77 (ninS (Ne.symm ne_ar27_r1) (ninS ne_r1_mg nin0)))).keep Kb (ninS ne_r1_ob77 (ninS ne_r1_sc nin0)))
  have V113 : Arv Z h103 r2 cR .int (1 : Int32) [(.int u68)] (.int (0 : Int32)) := ((V97.keep Km (ninS ne_r2_ob77 (ninS (Ne.symm ne_ar27_r2) (ninS ne_r2_mg nin0)))).keep Kb (ninS ne_r2_ob77 (ninS ne_r2_sc nin0)))
  have X114 : Exa Z h103 ob77 "org/querne/sparql/SeedMerge" := (X99.keep Kb)
  have V115 : Arv Z h103 mg kM .int (3 : Int32) [(.int wm0), (.int wm1), (.int wm2)] (.int (0 : Int32)) := (VMm.keep Kb (ninS (Ne.symm ne_ob77_mg) (ninS (Ne.symm ncm) nin0)))
  refine E_newP (pc' := 384) (kc' := 12) (ks' := 36) (cap := 4) cx st103 (hw _ (List.mem_of_getElem? (i := 0) rfl)) at_382 (by decide) (by decide) (by decide) (by decide) (by decide) (by decide) (by decide) rfl (ad := "[I") (by decide) ?_
  intro T116 h116 ca116 ar116 eq116 st116 E116 V116 X116
  have g_ar116 : n0 ≤ ar116 := by rw [eq116]; exact Z103
  have ne_ar13_ar116 : ar13 ≠ ar116 := by rw [eq116]; exact Nat.ne_of_lt V107.lt
  have ne_ar27_ar116 : ar27 ≠ ar116 := by rw [eq116]; exact Nat.ne_of_lt V108.lt
  have ne_ar37_ar116 : ar37 ≠ ar116 := by rw [eq116]; exact Nat.ne_of_lt V109.lt
  have ne_gr_ar116 : gr ≠ ar116 := by rw [eq116]; exact Nat.ne_of_lt V110.lt
  have ne_r0_ar116 : r0 ≠ ar116 := by rw [eq116]; exact Nat.ne_of_lt V111.lt
  have ne_r1_ar116 : r1 ≠ ar116 := by rw [eq116]; exact Nat.ne_of_lt V112.lt
  have ne_r2_ar116 : r2 ≠ ar116 := by rw [eq116]; exact Nat.ne_of_lt V113.lt
  have ne_ob77_ar116 : ob77 ≠ ar116 := by rw [eq116]; exact Nat.ne_of_lt X114.lt
  have ne_sc_ar116 : sc ≠ ar116 := by rw [eq116]; exact Nat.ne_of_lt VCb.lt
  have ne_mg_ar116 : mg ≠ ar116 := by rw [eq116]; exact Nat.ne_of_lt V115.lt
  have Z116 : n0 ≤ h116.size := Nat.le_trans Z103 E116.1
  have V116p : Arv Z h116 ar116 ca116 .int (4 : Int32) [(.int (0 : Int32)), (.int (0 : Int32)), (.int (0 : Int32)), (.int (0 : Int32))] (.int (0 : Int32)) := V116.pad (pad_rep [] (.int (0 : Int32)) 4)
  refine E_dup (pc' := 385) cx st116 at_384 rfl rfl ?_
  refine E_iconst (pc' := 386) cx st116 (0 : Int32) at_385 rfl rfl ?_
  refine E_iload (pc' := 388) cx st116 at_386 rfl rfl ?_
  refine E_iastore (pc' := 389) (i := 0) cx st116 V116p ⟨by decide, by decide⟩ rfl (Nat.le_of_ble_eq_true rfl) g_ar116 at_388 rfl ?_
  intro T117 h117 st117 W117 V117
  have Z117 : n0 ≤ h117.size := Nat.le_trans Z116 (Keep.of_wr W117).1
  have V117p : Arv Z h117 ar116 ca116 .int (4 : Int32) [(.int dd4), (.int (0 : Int32)), (.int (0 : Int32)), (.int (0 : Int32))] (.int (0 : Int32)) := V117
  refine E_dup (pc' := 390) cx st117 at_389 rfl rfl ?_
  refine E_iconst (pc' := 391) cx st117 (1 : Int32) at_390 rfl rfl ?_
  refine E_iload (pc' := 393) cx st117 at_391 rfl rfl ?_
  refine E_iastore (pc' := 394) (i := 1) cx st117 V117p ⟨by decide, by decide⟩ rfl (Nat.le_of_ble_eq_true rfl) g_ar116 at_393 rfl ?_
  intro T118 h118 st118 W118 V118
  have Z118 : n0 ≤ h118.size := Nat.le_trans Z117 (Keep.of_wr W118).1
  have V118p : Arv Z h118 ar116 ca116 .int (4 : Int32) [(.int dd4), (.int dd5), (.int (0 : Int32)), (.int (0 : Int32))] (.int (0 : Int32)) := V118
  refine E_dup (pc' := 395) cx st118 at_394 rfl rfl ?_
  refine E_iconst (pc' := 396) cx st118 (2 : Int32) at_395 rfl rfl ?_
  refine E_iload (pc' := 398) cx st118 at_396 rfl rfl ?_
  refine E_iastore (pc' := 399) (i := 2) cx st118 V118p ⟨by decide, by decide⟩ rfl (Nat.le_of_ble_eq_true rfl) g_ar116 at_398 rfl ?_
  intro T119 h119 st119 W119 V119
  have Z119 : n0 ≤ h119.size := Nat.le_trans Z118 (Keep.of_wr W119).1
  have V119p : Arv Z h119 ar116 ca116 .int (4 : Int32) [(.int dd4), (.int dd5), (.int dd6), (.int (0 : Int32))] (.int (0 : Int32)) := V119
  refine E_dup (pc' := 400) cx st119 at_399 rfl rfl ?_
  refine E_iconst (pc' := 401) cx st119 (3 : Int32) at_400 rfl rfl ?_
  refine E_iload (pc' := 403) cx st119 at_401 rfl rfl ?_
  refine E_iastore (pc' := 404) (i := 3) cx st119 V119p ⟨by decide, by decide⟩ rfl (Nat.le_of_ble_eq_true rfl) g_ar116 at_403 rfl ?_
  intro T120 h120 st120 W120 V120
  have Z120 : n0 ≤ h120.size := Nat.le_trans Z119 (Keep.of_wr W120).1
  have V120p : Arv Z h120 ar116 ca116 .int (4 : Int32) [(.int dd4), (.int dd5), (.int dd6), (.int dd7)] (.int (0 : Int32)) := V120
  refine E_astore (pc' := 406) (L' := #[.val (.int p0), .val (.int p1), .val (.int p2), .val (.int p3), .val (.int p4), .val (.int p5), .val (.int u1), .val (.int u2), .val (.int u5), .val (.ref ar6), .val (.ref ar13), .val (.ref ar27), .val (.ref ar37), .val (.int dd4), .val (.int dd5), .val (.int dd6), .val (.int dd7), .val (.ref gr), .val (.ref ob77), .val (.int u106), .val (.ref ar116), .unset, .unset, .unset, .unset, .unset, .unset, .unset]) cx st120 at_404 rfl rfl rfl ?_
  refine E_aload (pc' := 408) cx st120 at_406 rfl rfl rfl ?_
  refine E_aload (pc' := 410) cx st120 at_408 rfl rfl rfl ?_
  refine E_iconst (pc' := 411) cx st120 (0 : Int32) at_410 rfl rfl ?_
  have V121 : Arv Z h120 ar13 ca13 .int (3 : Int32) [(.int t0), (.int t1), (.int t2)] (.int (0 : Int32)) := (((((V107.ext E116).other W117 ne_ar13_ar116).other W118 ne_ar13_ar116).other W119 ne_ar13_ar116).other W120 ne_ar13_ar116)
  refine E_iaload (pc' := 412) (x := t0) cx st120 V121 ⟨by decide, by decide⟩ rfl at_411 rfl ?_
  refine E_iaload (pc' := 413) (x := ([dd4, dd5, dd6, dd7].getD t0.toNatClampNeg 0)) cx st120 V120p ht0 (getD_int [dd4, dd5, dd6, dd7] _ 0) at_412 rfl ?_
  refine E_iconst (pc' := 414) cx st120 (-1 : Int32) at_413 rfl rfl ?_
  by_cases c122 : ([dd4, dd5, dd6, dd7].getD t0.toNatClampNeg 0) = (-1 : Int32)
  · refine E_icmp_eqY (pc' := 421) cx st120 at_414 (by decide) (by decide) c122 ?_
    refine E_iconst (pc' := 422) cx st120 (0 : Int32) at_421 rfl rfl ?_
    refine E_istore (pc' := 424) (L' := #[.val (.int p0), .val (.int p1), .val (.int p2), .val (.int p3), .val (.int p4), .val (.int p5), .val (.int u1), .val (.int u2), .val (.int u5), .val (.ref ar6), .val (.ref ar13), .val (.ref ar27), .val (.ref ar37), .val (.int dd4), .val (.int dd5), .val (.int dd6), .val (.int dd7), .val (.ref gr), .val (.ref ob77), .val (.int u106), .val (.ref ar116), .val (.int (0 : Int32)), .unset, .unset, .unset, .unset, .unset, .unset]) cx st120 at_422 rfl rfl ?_
    refine E_aload (pc' := 426) cx st120 at_424 rfl rfl rfl ?_
    refine E_aload (pc' := 428) cx st120 at_426 rfl rfl rfl ?_
    refine E_iconst (pc' := 429) cx st120 (1 : Int32) at_428 rfl rfl ?_
    refine E_iaload (pc' := 430) (x := t1) cx st120 V121 ⟨by decide, by decide⟩ rfl at_429 rfl ?_
    refine E_iaload (pc' := 431) (x := ([dd4, dd5, dd6, dd7].getD t1.toNatClampNeg 0)) cx st120 V120p ht1 (getD_int [dd4, dd5, dd6, dd7] _ 0) at_430 rfl ?_
    refine E_iconst (pc' := 432) cx st120 (-1 : Int32) at_431 rfl rfl ?_
    by_cases c123 : ([dd4, dd5, dd6, dd7].getD t1.toNatClampNeg 0) = (-1 : Int32)
    · refine E_icmp_eqY (pc' := 439) cx st120 at_432 (by decide) (by decide) c123 ?_
      refine E_iconst (pc' := 440) cx st120 (0 : Int32) at_439 rfl rfl ?_
      refine E_istore (pc' := 442) (L' := #[.val (.int p0), .val (.int p1), .val (.int p2), .val (.int p3), .val (.int p4), .val (.int p5), .val (.int u1), .val (.int u2), .val (.int u5), .val (.ref ar6), .val (.ref ar13), .val (.ref ar27), .val (.ref ar37), .val (.int dd4), .val (.int dd5), .val (.int dd6), .val (.int dd7), .val (.ref gr), .val (.ref ob77), .val (.int u106), .val (.ref ar116), .val (.int (0 : Int32)), .val (.int (0 : Int32)), .unset, .unset, .unset, .unset, .unset]) cx st120 at_440 rfl rfl ?_
      refine E_aload (pc' := 444) cx st120 at_442 rfl rfl rfl ?_
      refine E_aload (pc' := 446) cx st120 at_444 rfl rfl rfl ?_
      refine E_iconst (pc' := 447) cx st120 (2 : Int32) at_446 rfl rfl ?_
      refine E_iaload (pc' := 448) (x := t2) cx st120 V121 ⟨by decide, by decide⟩ rfl at_447 rfl ?_
      refine E_iaload (pc' := 449) (x := ([dd4, dd5, dd6, dd7].getD t2.toNatClampNeg 0)) cx st120 V120p ht2 (getD_int [dd4, dd5, dd6, dd7] _ 0) at_448 rfl ?_
      refine E_iconst (pc' := 450) cx st120 (-1 : Int32) at_449 rfl rfl ?_
      by_cases c124 : ([dd4, dd5, dd6, dd7].getD t2.toNatClampNeg 0) = (-1 : Int32)
      · refine E_icmp_eqY (pc' := 457) cx st120 at_450 (by decide) (by decide) c124 ?_
        refine E_iconst (pc' := 458) cx st120 (0 : Int32) at_457 rfl rfl ?_
        refine E_istore (pc' := 460) (L' := #[.val (.int p0), .val (.int p1), .val (.int p2), .val (.int p3), .val (.int p4), .val (.int p5), .val (.int u1), .val (.int u2), .val (.int u5), .val (.ref ar6), .val (.ref ar13), .val (.ref ar27), .val (.ref ar37), .val (.int dd4), .val (.int dd5), .val (.int dd6), .val (.int dd7), .val (.ref gr), .val (.ref ob77), .val (.int u106), .val (.ref ar116), .val (.int (0 : Int32)), .val (.int (0 : Int32)), .val (.int (0 : Int32)), .unset, .unset, .unset, .unset]) cx st120 at_458 rfl rfl ?_
        refine E_iconst (pc' := 461) cx st120 (3 : Int32) at_460 rfl rfl ?_
        have V125 : Arv Z h120 ar27 ca27 .int (4 : Int32) (esm.map Value.int) (.int (0 : Int32)) := (((((V108.ext E116).other W117 ne_ar27_ar116).other W118 ne_ar27_ar116).other W119 ne_ar27_ar116).other W120 ne_ar27_ar116)
        have V126 : Arv Z h120 ar37 ca37 .int (4 : Int32) [(.int dd4), (.int dd5), (.int dd6), (.int dd7)] (.int (0 : Int32)) := (((((V109.ext E116).other W117 ne_ar37_ar116).other W118 ne_ar37_ar116).other W119 ne_ar37_ar116).other W120 ne_ar37_ar116)
        have V127 : Arv Z h120 gr cG (.array .int) (3 : Int32) [(.ref r0), (.ref r1), (.ref r2)] .null := (((((V110.ext E116).other W117 ne_gr_ar116).other W118 ne_gr_ar116).other W119 ne_gr_ar116).other W120 ne_gr_ar116)
        have V128 : Arv Z h120 r0 cR .int (1 : Int32) [(.int u53)] (.int (0 : Int32)) := (((((V111.ext E116).other W117 ne_r0_ar116).other W118 ne_r0_ar116).other W119 ne_r0_ar116).other W120 ne_r0_ar116)
        have V129 : Arv Z h120 r1 cR .int (1 : Int32) [(.int u60)] (.int (0 : Int32)) := (((((V112.ext E116).other W117 ne_r1_ar116).other W118 ne_r1_ar116).other W119 ne_r1_ar116).other W120 ne_r1_ar116)
        have V130 : Arv Z h120 r2 cR .int (1 : Int32) [(.int u68)] (.int (0 : Int32)) := (((((V113.ext E116).other W117 ne_r2_ar116).other W118 ne_r2_ar116).other W119 ne_r2_ar116).other W120 ne_r2_ar116)
        have X131 : Exa Z h120 ob77 "org/querne/sparql/SeedMerge" := (((((X114.ext E116).wr W117).wr W118).wr W119).wr W120)
        have V132 : Arv Z h120 sc kC .int (3 : Int32) [(.int yb0), (.int yb1), (.int yb2)] (.int (0 : Int32)) := (((((VCb.ext E116).other W117 ne_sc_ar116).other W118 ne_sc_ar116).other W119 ne_sc_ar116).other W120 ne_sc_ar116)
        have V133 : Arv Z h120 mg kM .int (3 : Int32) [(.int wm0), (.int wm1), (.int wm2)] (.int (0 : Int32)) := (((((V115.ext E116).other W117 ne_mg_ar116).other W118 ne_mg_ar116).other W119 ne_mg_ar116).other W120 ne_mg_ar116)
        refine E_newP (pc' := 463) (kc' := 13) (ks' := 39) (cap := 3) cx st120 (hw _ (List.mem_of_getElem? (i := 0) rfl)) at_461 (by decide) (by decide) (by decide) (by decide) (by decide) (by decide) (by decide) rfl (ad := "[I") (by decide) ?_
        intro T134 h134 ca134 ar134 eq134 st134 E134 V134 X134
        have g_ar134 : n0 ≤ ar134 := by rw [eq134]; exact Z120
        have ne_ar13_ar134 : ar13 ≠ ar134 := by rw [eq134]; exact Nat.ne_of_lt V121.lt
        have ne_ar27_ar134 : ar27 ≠ ar134 := by rw [eq134]; exact Nat.ne_of_lt V125.lt
        have ne_ar37_ar134 : ar37 ≠ ar134 := by rw [eq134]; exact Nat.ne_of_lt V126.lt
        have ne_gr_ar134 : gr ≠ ar134 := by rw [eq134]; exact Nat.ne_of_lt V127.lt
        have ne_r0_ar134 : r0 ≠ ar134 := by rw [eq134]; exact Nat.ne_of_lt V128.lt
        have ne_r1_ar134 : r1 ≠ ar134 := by rw [eq134]; exact Nat.ne_of_lt V129.lt
        have ne_r2_ar134 : r2 ≠ ar134 := by rw [eq134]; exact Nat.ne_of_lt V130.lt
        have ne_ob77_ar134 : ob77 ≠ ar134 := by rw [eq134]; exact Nat.ne_of_lt X131.lt
        have ne_sc_ar134 : sc ≠ ar134 := by rw [eq134]; exact Nat.ne_of_lt V132.lt
        have ne_mg_ar134 : mg ≠ ar134 := by rw [eq134]; exact Nat.ne_of_lt V133.lt
        have ne_ar116_ar134 : ar116 ≠ ar134 := by rw [eq134]; exact Nat.ne_of_lt V120p.lt
        have Z134 : n0 ≤ h134.size := Nat.le_trans Z120 E134.1
        have V134p : Arv Z h134 ar134 ca134 .int (3 : Int32) [(.int (0 : Int32)), (.int (0 : Int32)), (.int (0 : Int32))] (.int (0 : Int32)) := V134.pad (pad_rep [] (.int (0 : Int32)) 3)
        refine E_astore (pc' := 465) (L' := #[.val (.int p0), .val (.int p1), .val (.int p2), .val (.int p3), .val (.int p4), .val (.int p5), .val (.int u1), .val (.int u2), .val (.int u5), .val (.ref ar6), .val (.ref ar13), .val (.ref ar27), .val (.ref ar37), .val (.int dd4), .val (.int dd5), .val (.int dd6), .val (.int dd7), .val (.ref gr), .val (.ref ob77), .val (.int u106), .val (.ref ar116), .val (.int (0 : Int32)), .val (.int (0 : Int32)), .val (.int (0 : Int32)), .val (.ref ar134), .unset, .unset, .unset]) cx st134 at_463 rfl rfl rfl ?_
        refine E_iconst (pc' := 466) cx st134 (0 : Int32) at_465 rfl rfl ?_
        refine E_istore (pc' := 468) (L' := #[.val (.int p0), .val (.int p1), .val (.int p2), .val (.int p3), .val (.int p4), .val (.int p5), .val (.int u1), .val (.int u2), .val (.int u5), .val (.ref ar6), .val (.ref ar13), .val (.ref ar27), .val (.ref ar37), .val (.int dd4), .val (.int dd5), .val (.int dd6), .val (.int dd7), .val (.ref gr), .val (.ref ob77), .val (.int u106), .val (.ref ar116), .val (.int (0 : Int32)), .val (.int (0 : Int32)), .val (.int (0 : Int32)), .val (.ref ar134), .val (.int (0 : Int32)), .unset, .unset]) cx st134 at_466 rfl rfl ?_
        refine E_iload (pc' := 470) cx st134 at_468 rfl rfl ?_
        refine E_if_eqY (pc' := 482) cx st134 at_470 (by decide) (by decide) rfl ?_
        refine E_iload (pc' := 484) cx st134 at_482 rfl rfl ?_
        refine E_if_eqY (pc' := 496) cx st134 at_484 (by decide) (by decide) rfl ?_
        refine E_iload (pc' := 498) cx st134 at_496 rfl rfl ?_
        refine E_if_eqY (pc' := 510) cx st134 at_498 (by decide) (by decide) rfl ?_
        refine E_aload (pc' := 512) cx st134 at_510 rfl rfl rfl ?_
        rw [decide_eq_true c122, decide_eq_true c123, decide_eq_true c124] at hnb hcb
        have G135 : Fld Z h134 ob77 "org/querne/sparql/SeedMerge" "seedColumnCount" "I" (.int nb) := ((((((H6.ext E116).other W117 (Or.inl ne_ob77_ar116)).other W118 (Or.inl ne_ob77_ar116)).other W119 (Or.inl ne_ob77_ar116)).other W120 (Or.inl ne_ob77_ar116)).ext E134)
        have V136 : Arv Z h134 sc kC .int (3 : Int32) [(.int yb0), (.int yb1), (.int yb2)] (.int (0 : Int32)) := (V132.ext E134)
        obtain rfl : nb = (0 : Int32) := hnb
        have X137 : Exa Z h134 ob77 "org/querne/sparql/SeedMerge" := (X131.ext E134)
        refine E_callV (pc' := 515) (kc' := 13) (ks' := 39) (W := 0) (a := ob77) (argsL := []) cx st134 [] (rm7 l Z a0 hw ob77 (0 : Int32) h134 n0 Z134 G135) X137 (hw _ (List.mem_of_getElem? (i := 41) rfl)) (hw _ (List.mem_of_getElem? (i := 42) rfl)) (hw _ (List.mem_of_getElem? (i := 44) rfl)) (hw _ (List.mem_of_getElem? (i := 43) rfl)) (hw _ (List.mem_of_getElem? (i := 12) rfl)) (hw _ (List.mem_of_getElem? (i := 45) rfl)) at_512 rfl rfl (lenOf pd_4 rfl) (Nat.le_of_eq rfl) (by decide) (by decide) (by decide) (by decide) (by decide) (by decide) (by decide) rfl ?_
        intro v138 T138 h138 st138 hq138
        obtain ⟨rfl, hh138⟩ := hq138
        rw [hh138] at st138
        refine E_iload (pc' := 517) cx st138 at_515 rfl rfl ?_
        refine E_icmp_neN (pc' := 520) cx st138 at_517 rfl rfl ?_
        refine E_iconst (pc' := 521) cx st138 (1 : Int32) at_520 rfl rfl ?_
        refine E_goto (pc' := 525) cx st138 at_521 (by decide) (by decide) ?_
        refine E_istore (pc' := 527) (L' := #[.val (.int p0), .val (.int p1), .val (.int p2), .val (.int p3), .val (.int p4), .val (.int p5), .val (.int u1), .val (.int u2), .val (.int u5), .val (.ref ar6), .val (.ref ar13), .val (.ref ar27), .val (.ref ar37), .val (.int dd4), .val (.int dd5), .val (.int dd6), .val (.int dd7), .val (.ref gr), .val (.ref ob77), .val (.int u106), .val (.ref ar116), .val (.int (0 : Int32)), .val (.int (0 : Int32)), .val (.int (0 : Int32)), .val (.ref ar134), .val (.int (0 : Int32)), .val (.int (1 : Int32)), .unset]) cx st138 at_525 rfl rfl ?_
        refine E_iload (pc' := 529) cx st138 at_527 rfl rfl ?_
        refine E_if_eqN (pc' := 532) cx st138 at_529 rfl (by decide) ?_
        refine E_iload (pc' := 534) cx st138 at_532 rfl rfl ?_
        refine E_if_leY (pc' := 557) cx st138 at_534 (by decide) (by decide) (by decide) ?_
        refine E_iload (pc' := 559) cx st138 at_557 rfl rfl ?_
        refine E_if_eqN (pc' := 562) cx st138 at_559 rfl (by decide) ?_
        refine E_iload (pc' := 564) cx st138 at_562 rfl rfl ?_
        refine E_iconst (pc' := 565) cx st138 (1 : Int32) at_564 rfl rfl ?_
        refine E_icmp_leY (pc' := 588) cx st138 at_565 (by decide) (by decide) (by decide) ?_
        refine E_iload (pc' := 590) cx st138 at_588 rfl rfl ?_
        refine E_if_eqN (pc' := 593) cx st138 at_590 rfl (by decide) ?_
        refine E_iload (pc' := 595) cx st138 at_593 rfl rfl ?_
        refine E_iconst (pc' := 596) cx st138 (2 : Int32) at_595 rfl rfl ?_
        refine E_icmp_leY (pc' := 619) cx st138 at_596 (by decide) (by decide) (by decide) ?_
        refine E_iloadN (pc' := 620) cx st138 at_619 rfl rfl ?_
        refine E_bipush (pc' := 622) cx st138 (12 : Int32) at_620 rfl rfl ?_
        refine E_iushr (pc' := 623) cx st138 at_622 rfl ?_
        refine E_iconst (pc' := 624) cx st138 (3 : Int32) at_623 rfl rfl ?_
        refine E_irem (pc' := 625) cx st138 at_624 (by decide) rfl ?_
        refine E_istore (pc' := 627) (L' := #[.val (.int p0), .val (.int p1), .val (.int p2), .val (.int p3), .val (.int p4), .val (.int p5), .val (.int u1), .val (.int u2), .val (.int u5), .val (.ref ar6), .val (.ref ar13), .val (.ref ar27), .val (.ref ar37), .val (.int dd4), .val (.int dd5), .val (.int dd6), .val (.int dd7), .val (.ref gr), .val (.ref ob77), .val (.int u106), .val (.ref ar116), .val (.int (0 : Int32)), .val (.int (0 : Int32)), .val (.int (0 : Int32)), .val (.ref ar134), .val (.int (0 : Int32)), .val (.int (1 : Int32)), .val (.int (((p0.toUInt32 >>> ((12 : Int32) &&& 31).toUInt32).toInt32) % (3 : Int32)))]) cx st138 at_625 rfl rfl ?_
        refine E_iload (pc' := 629) cx st138 at_627 rfl rfl ?_
        refine E_if_eqN (pc' := 632) cx st138 at_629 rfl (by decide) ?_
        refine E_aload (pc' := 634) cx st138 at_632 rfl rfl rfl ?_
        refine E_iload (pc' := 636) cx st138 at_634 rfl rfl ?_
        have G139 : Fld Z h134 ob77 "org/querne/sparql/SeedMerge" "seed" "[I" (.ref ar37) := ((((((H2.ext E116).other W117 (Or.inl ne_ob77_ar116)).other W118 (Or.inl ne_ob77_ar116)).other W119 (Or.inl ne_ob77_ar116)).other W120 (Or.inl ne_ob77_ar116)).ext E134)
        have G140 : Fld Z h134 ob77 "org/querne/sparql/SeedMerge" "slots" "[I" (.ref ar13) := ((((((H1.ext E116).other W117 (Or.inl ne_ob77_ar116)).other W118 (Or.inl ne_ob77_ar116)).other W119 (Or.inl ne_ob77_ar116)).other W120 (Or.inl ne_ob77_ar116)).ext E134)
        have V141 : Arv Z h134 ar13 ca13 .int (3 : Int32) [(.int t0), (.int t1), (.int t2)] (.int (0 : Int32)) := (V121.ext E134)
        have V142 : Arv Z h134 ar37 ca37 .int (4 : Int32) [(.int dd4), (.int dd5), (.int dd6), (.int dd7)] (.int (0 : Int32)) := (V126.ext E134)
        refine E_callV (pc' := 639) (kc' := 13) (ks' := 39) (W := 0) (a := ob77) (argsL := [(.int (((p0.toUInt32 >>> ((12 : Int32) &&& 31).toUInt32).toInt32) % (3 : Int32)))]) cx st138 [] (rm9 l Z a0 hw ob77 (((p0.toUInt32 >>> ((12 : Int32) &&& 31).toUInt32).toInt32) % (3 : Int32)) ar13 ar37 t0 t1 t2 dd4 dd5 dd6 dd7 h134 n0 Z134 ca13 ca37 G139 G140 V141 V142 hcol hxc) X137 (hw _ (List.mem_of_getElem? (i := 51) rfl)) (hw _ (List.mem_of_getElem? (i := 52) rfl)) (hw _ (List.mem_of_getElem? (i := 54) rfl)) (hw _ (List.mem_of_getElem? (i := 53) rfl)) (hw _ (List.mem_of_getElem? (i := 12) rfl)) (hw _ (List.mem_of_getElem? (i := 55) rfl)) at_636 rfl rfl (lenOf pd_5 rfl) (Nat.le_of_eq rfl) (by decide) (by decide) (by decide) (by decide) (by decide) (by decide) (by decide) rfl ?_
        intro v143 T143 h143 st143 hq143
        obtain ⟨rfl, hh143⟩ := hq143
        rw [hh143] at st143
        refine E_aload (pc' := 641) cx st143 at_639 rfl rfl rfl ?_
        refine E_aload (pc' := 643) cx st143 at_641 rfl rfl rfl ?_
        refine E_iload (pc' := 645) cx st143 at_643 rfl rfl ?_
        refine E_iaload (pc' := 646) (x := ([t0, t1, t2].getD (((p0.toUInt32 >>> ((12 : Int32) &&& 31).toUInt32).toInt32) % (3 : Int32)).toNatClampNeg 0)) cx st143 V141 hcol (getD_int [t0, t1, t2] _ 0) at_645 rfl ?_
        have V144 : Arv Z h134 ar116 ca116 .int (4 : Int32) [(.int dd4), (.int dd5), (.int dd6), (.int dd7)] (.int (0 : Int32)) := (V120p.ext E134)
        refine E_iaload (pc' := 647) (x := ([dd4, dd5, dd6, dd7].getD ([t0, t1, t2].getD (((p0.toUInt32 >>> ((12 : Int32) &&& 31).toUInt32).toInt32) % (3 : Int32)).toNatClampNeg 0).toNatClampNeg 0)) cx st143 V144 hxc (getD_int [dd4, dd5, dd6, dd7] _ 0) at_646 rfl ?_
        refine E_icmp_neN (pc' := 650) cx st143 at_647 rfl rfl ?_
        refine E_iconst (pc' := 651) cx st143 (1 : Int32) at_650 rfl rfl ?_
        refine E_goto (pc' := 655) cx st143 at_651 (by decide) (by decide) ?_
        refine E_istore (pc' := 657) (L' := #[.val (.int p0), .val (.int p1), .val (.int p2), .val (.int p3), .val (.int p4), .val (.int p5), .val (.int u1), .val (.int u2), .val (.int u5), .val (.ref ar6), .val (.ref ar13), .val (.ref ar27), .val (.ref ar37), .val (.int dd4), .val (.int dd5), .val (.int dd6), .val (.int dd7), .val (.ref gr), .val (.ref ob77), .val (.int u106), .val (.ref ar116), .val (.int (0 : Int32)), .val (.int (0 : Int32)), .val (.int (0 : Int32)), .val (.ref ar134), .val (.int (0 : Int32)), .val (.int (1 : Int32)), .val (.int (((p0.toUInt32 >>> ((12 : Int32) &&& 31).toUInt32).toInt32) % (3 : Int32)))]) cx st143 at_655 rfl rfl ?_
        refine E_aload (pc' := 659) cx st143 at_657 rfl rfl rfl ?_
        have G145 : Fld Z h134 ob77 "org/querne/sparql/SeedMerge" "mergedCount" "I" (.int (0 : Int32)) := ((((((H5.ext E116).other W117 (Or.inl ne_ob77_ar116)).other W118 (Or.inl ne_ob77_ar116)).other W119 (Or.inl ne_ob77_ar116)).other W120 (Or.inl ne_ob77_ar116)).ext E134)
        refine E_callV (pc' := 662) (kc' := 13) (ks' := 39) (W := 0) (a := ob77) (argsL := []) cx st143 [] (rm10 l Z a0 hw ob77 h134 n0 Z134 g_ob77 X137 G145) X137 (hw _ (List.mem_of_getElem? (i := 56) rfl)) (hw _ (List.mem_of_getElem? (i := 57) rfl)) (hw _ (List.mem_of_getElem? (i := 59) rfl)) (hw _ (List.mem_of_getElem? (i := 58) rfl)) (hw _ (List.mem_of_getElem? (i := 12) rfl)) (hw _ (List.mem_of_getElem? (i := 60) rfl)) at_659 rfl rfl (lenOf pd_6 rfl) (Nat.le_of_eq rfl) (by decide) (by decide) (by decide) (by decide) (by decide) (by decide) (by decide) rfl ?_
        intro v146 T146 h146 st146 hq146
        obtain ⟨rfl, Ku⟩ := hq146
        have Z146 : n0 ≤ h146.size := Nat.le_trans Z134 Ku.1
        refine E_iload (pc' := 664) cx st146 at_662 rfl rfl ?_
        refine E_if_eqN (pc' := 667) cx st146 at_664 rfl (by decide) ?_
        refine E_aload (pc' := 669) cx st146 at_667 rfl rfl rfl ?_
        refine E_iconst (pc' := 670) cx st146 (0 : Int32) at_669 rfl rfl ?_
        have V147 : Arv Z h146 ar37 ca37 .int (4 : Int32) [(.int dd4), (.int dd5), (.int dd6), (.int dd7)] (.int (0 : Int32)) := (V142.keep Ku (ninS ne_ar37_ob77 nin0))
        refine E_iaload (pc' := 671) (x := dd4) cx st146 V147 ⟨by decide, by decide⟩ rfl at_670 rfl ?_
        refine E_iload (pc' := 673) cx st146 at_671 rfl rfl ?_
        refine E_icmp_neN (pc' := 676) cx st146 at_673 rfl rfl ?_
        refine E_aload (pc' := 678) cx st146 at_676 rfl rfl rfl ?_
        refine E_iconst (pc' := 679) cx st146 (1 : Int32) at_678 rfl rfl ?_
        refine E_iaload (pc' := 680) (x := dd5) cx st146 V147 ⟨by decide, by decide⟩ rfl at_679 rfl ?_
        refine E_iload (pc' := 682) cx st146 at_680 rfl rfl ?_
        refine E_icmp_neN (pc' := 685) cx st146 at_682 rfl rfl ?_
        refine E_aload (pc' := 687) cx st146 at_685 rfl rfl rfl ?_
        refine E_iconst (pc' := 688) cx st146 (2 : Int32) at_687 rfl rfl ?_
        refine E_iaload (pc' := 689) (x := dd6) cx st146 V147 ⟨by decide, by decide⟩ rfl at_688 rfl ?_
        refine E_iload (pc' := 691) cx st146 at_689 rfl rfl ?_
        refine E_icmp_neN (pc' := 694) cx st146 at_691 rfl rfl ?_
        refine E_aload (pc' := 696) cx st146 at_694 rfl rfl rfl ?_
        refine E_iconst (pc' := 697) cx st146 (3 : Int32) at_696 rfl rfl ?_
        refine E_iaload (pc' := 698) (x := dd7) cx st146 V147 ⟨by decide, by decide⟩ rfl at_697 rfl ?_
        refine E_iload (pc' := 700) cx st146 at_698 rfl rfl ?_
        refine E_icmp_neN (pc' := 703) cx st146 at_700 rfl rfl ?_
        refine E_iconst (pc' := 704) cx st146 (1 : Int32) at_703 rfl rfl ?_
        refine E_goto (pc' := 708) cx st146 at_704 (by decide) (by decide) ?_
        refine E_istore (pc' := 710) (L' := #[.val (.int p0), .val (.int p1), .val (.int p2), .val (.int p3), .val (.int p4), .val (.int p5), .val (.int u1), .val (.int u2), .val (.int u5), .val (.ref ar6), .val (.ref ar13), .val (.ref ar27), .val (.ref ar37), .val (.int dd4), .val (.int dd5), .val (.int dd6), .val (.int dd7), .val (.ref gr), .val (.ref ob77), .val (.int u106), .val (.ref ar116), .val (.int (0 : Int32)), .val (.int (0 : Int32)), .val (.int (0 : Int32)), .val (.ref ar134), .val (.int (0 : Int32)), .val (.int (1 : Int32)), .val (.int (((p0.toUInt32 >>> ((12 : Int32) &&& 31).toUInt32).toInt32) % (3 : Int32)))]) cx st146 at_708 rfl rfl ?_
        refine E_iload (pc' := 712) cx st146 at_710 rfl rfl ?_
        refine E_if_neY (pc' := 725) cx st146 at_712 (by decide) (by decide) (by decide) ?_
        refine E_iconst (pc' := 726) cx st146 (1 : Int32) at_725 rfl rfl ?_
        refine E_goto (pc' := 730) cx st146 at_726 (by decide) (by decide) ?_
        refine E_ireturn (t := .boolean) cx st146 at_730 rfl (by simp) rfl (by decide) (by decide) ?_
        exact rfl
      · refine E_icmp_eqN (pc' := 453) cx st120 at_450 rfl c124 ?_
        refine E_iconst (pc' := 454) cx st120 (1 : Int32) at_453 rfl rfl ?_
        refine E_goto (pc' := 458) cx st120 at_454 (by decide) (by decide) ?_
        refine E_istore (pc' := 460) (L' := #[.val (.int p0), .val (.int p1), .val (.int p2), .val (.int p3), .val (.int p4), .val (.int p5), .val (.int u1), .val (.int u2), .val (.int u5), .val (.ref ar6), .val (.ref ar13), .val (.ref ar27), .val (.ref ar37), .val (.int dd4), .val (.int dd5), .val (.int dd6), .val (.int dd7), .val (.ref gr), .val (.ref ob77), .val (.int u106), .val (.ref ar116), .val (.int (0 : Int32)), .val (.int (0 : Int32)), .val (.int (1 : Int32)), .unset, .unset, .unset, .unset]) cx st120 at_458 rfl rfl ?_
        refine E_iconst (pc' := 461) cx st120 (3 : Int32) at_460 rfl rfl ?_
        have V148 : Arv Z h120 ar27 ca27 .int (4 : Int32) (esm.map Value.int) (.int (0 : Int32)) := (((((V108.ext E116).other W117 ne_ar27_ar116).other W118 ne_ar27_ar116).other W119 ne_ar27_ar116).other W120 ne_ar27_ar116)
        have V149 : Arv Z h120 ar37 ca37 .int (4 : Int32) [(.int dd4), (.int dd5), (.int dd6), (.int dd7)] (.int (0 : Int32)) := (((((V109.ext E116).other W117 ne_ar37_ar116).other W118 ne_ar37_ar116).other W119 ne_ar37_ar116).other W120 ne_ar37_ar116)
        have V150 : Arv Z h120 gr cG (.array .int) (3 : Int32) [(.ref r0), (.ref r1), (.ref r2)] .null := (((((V110.ext E116).other W117 ne_gr_ar116).other W118 ne_gr_ar116).other W119 ne_gr_ar116).other W120 ne_gr_ar116)
        have V151 : Arv Z h120 r0 cR .int (1 : Int32) [(.int u53)] (.int (0 : Int32)) := (((((V111.ext E116).other W117 ne_r0_ar116).other W118 ne_r0_ar116).other W119 ne_r0_ar116).other W120 ne_r0_ar116)
        have V152 : Arv Z h120 r1 cR .int (1 : Int32) [(.int u60)] (.int (0 : Int32)) := (((((V112.ext E116).other W117 ne_r1_ar116).other W118 ne_r1_ar116).other W119 ne_r1_ar116).other W120 ne_r1_ar116)
        have V153 : Arv Z h120 r2 cR .int (1 : Int32) [(.int u68)] (.int (0 : Int32)) := (((((V113.ext E116).other W117 ne_r2_ar116).other W118 ne_r2_ar116).other W119 ne_r2_ar116).other W120 ne_r2_ar116)
        have X154 : Exa Z h120 ob77 "org/querne/sparql/SeedMerge" := (((((X114.ext E116).wr W117).wr W118).wr W119).wr W120)
        have V155 : Arv Z h120 sc kC .int (3 : Int32) [(.int yb0), (.int yb1), (.int yb2)] (.int (0 : Int32)) := (((((VCb.ext E116).other W117 ne_sc_ar116).other W118 ne_sc_ar116).other W119 ne_sc_ar116).other W120 ne_sc_ar116)
        have V156 : Arv Z h120 mg kM .int (3 : Int32) [(.int wm0), (.int wm1), (.int wm2)] (.int (0 : Int32)) := (((((V115.ext E116).other W117 ne_mg_ar116).other W118 ne_mg_ar116).other W119 ne_mg_ar116).other W120 ne_mg_ar116)
        refine E_newP (pc' := 463) (kc' := 13) (ks' := 39) (cap := 3) cx st120 (hw _ (List.mem_of_getElem? (i := 0) rfl)) at_461 (by decide) (by decide) (by decide) (by decide) (by decide) (by decide) (by decide) rfl (ad := "[I") (by decide) ?_
        intro T157 h157 ca157 ar157 eq157 st157 E157 V157 X157
        have g_ar157 : n0 ≤ ar157 := by rw [eq157]; exact Z120
        have ne_ar13_ar157 : ar13 ≠ ar157 := by rw [eq157]; exact Nat.ne_of_lt V121.lt
        have ne_ar27_ar157 : ar27 ≠ ar157 := by rw [eq157]; exact Nat.ne_of_lt V148.lt
        have ne_ar37_ar157 : ar37 ≠ ar157 := by rw [eq157]; exact Nat.ne_of_lt V149.lt
        have ne_gr_ar157 : gr ≠ ar157 := by rw [eq157]; exact Nat.ne_of_lt V150.lt
        have ne_r0_ar157 : r0 ≠ ar157 := by rw [eq157]; exact Nat.ne_of_lt V151.lt
        have ne_r1_ar157 : r1 ≠ ar157 := by rw [eq157]; exact Nat.ne_of_lt V152.lt
        have ne_r2_ar157 : r2 ≠ ar157 := by rw [eq157]; exact Nat.ne_of_lt V153.lt
        have ne_ob77_ar157 : ob77 ≠ ar157 := by rw [eq157]; exact Nat.ne_of_lt X154.lt
        have ne_sc_ar157 : sc ≠ ar157 := by rw [eq157]; exact Nat.ne_of_lt V155.lt
        have ne_mg_ar157 : mg ≠ ar157 := by rw [eq157]; exact Nat.ne_of_lt V156.lt
        have ne_ar116_ar157 : ar116 ≠ ar157 := by rw [eq157]; exact Nat.ne_of_lt V120p.lt
        have Z157 : n0 ≤ h157.size := Nat.le_trans Z120 E157.1
        have V157p : Arv Z h157 ar157 ca157 .int (3 : Int32) [(.int (0 : Int32)), (.int (0 : Int32)), (.int (0 : Int32))] (.int (0 : Int32)) := V157.pad (pad_rep [] (.int (0 : Int32)) 3)
        refine E_astore (pc' := 465) (L' := #[.val (.int p0), .val (.int p1), .val (.int p2), .val (.int p3), .val (.int p4), .val (.int p5), .val (.int u1), .val (.int u2), .val (.int u5), .val (.ref ar6), .val (.ref ar13), .val (.ref ar27), .val (.ref ar37), .val (.int dd4), .val (.int dd5), .val (.int dd6), .val (.int dd7), .val (.ref gr), .val (.ref ob77), .val (.int u106), .val (.ref ar116), .val (.int (0 : Int32)), .val (.int (0 : Int32)), .val (.int (1 : Int32)), .val (.ref ar157), .unset, .unset, .unset]) cx st157 at_463 rfl rfl rfl ?_
        refine E_iconst (pc' := 466) cx st157 (0 : Int32) at_465 rfl rfl ?_
        refine E_istore (pc' := 468) (L' := #[.val (.int p0), .val (.int p1), .val (.int p2), .val (.int p3), .val (.int p4), .val (.int p5), .val (.int u1), .val (.int u2), .val (.int u5), .val (.ref ar6), .val (.ref ar13), .val (.ref ar27), .val (.ref ar37), .val (.int dd4), .val (.int dd5), .val (.int dd6), .val (.int dd7), .val (.ref gr), .val (.ref ob77), .val (.int u106), .val (.ref ar116), .val (.int (0 : Int32)), .val (.int (0 : Int32)), .val (.int (1 : Int32)), .val (.ref ar157), .val (.int (0 : Int32)), .unset, .unset]) cx st157 at_466 rfl rfl ?_
        refine E_iload (pc' := 470) cx st157 at_468 rfl rfl ?_
        refine E_if_eqY (pc' := 482) cx st157 at_470 (by decide) (by decide) rfl ?_
        refine E_iload (pc' := 484) cx st157 at_482 rfl rfl ?_
        refine E_if_eqY (pc' := 496) cx st157 at_484 (by decide) (by decide) rfl ?_
        refine E_iload (pc' := 498) cx st157 at_496 rfl rfl ?_
        refine E_if_eqN (pc' := 501) cx st157 at_498 rfl (by decide) ?_
        refine E_aload (pc' := 503) cx st157 at_501 rfl rfl rfl ?_
        refine E_iload (pc' := 505) cx st157 at_503 rfl rfl ?_
        refine E_iconst (pc' := 506) cx st157 (2 : Int32) at_505 rfl rfl ?_
        refine E_iastore (pc' := 507) (i := 0) cx st157 V157p ⟨by decide, by decide⟩ rfl (Nat.le_of_ble_eq_true rfl) g_ar157 at_506 rfl ?_
        intro T158 h158 st158 W158 V158
        have Z158 : n0 ≤ h158.size := Nat.le_trans Z157 (Keep.of_wr W158).1
        have V158p : Arv Z h158 ar157 ca157 .int (3 : Int32) [(.int (2 : Int32)), (.int (0 : Int32)), (.int (0 : Int32))] (.int (0 : Int32)) := V158
        refine E_iinc (pc' := 510) (L' := #[.val (.int p0), .val (.int p1), .val (.int p2), .val (.int p3), .val (.int p4), .val (.int p5), .val (.int u1), .val (.int u2), .val (.int u5), .val (.ref ar6), .val (.ref ar13), .val (.ref ar27), .val (.ref ar37), .val (.int dd4), .val (.int dd5), .val (.int dd6), .val (.int dd7), .val (.ref gr), .val (.ref ob77), .val (.int u106), .val (.ref ar116), .val (.int (0 : Int32)), .val (.int (0 : Int32)), .val (.int (1 : Int32)), .val (.ref ar157), .val (.int (1 : Int32)), .unset, .unset]) cx st158 (1 : Int32) at_507 rfl rfl rfl rfl ?_
        refine E_aload (pc' := 512) cx st158 at_510 rfl rfl rfl ?_
        rw [decide_eq_true c122, decide_eq_true c123, decide_eq_false c124] at hnb hcb
        have G159 : Fld Z h158 ob77 "org/querne/sparql/SeedMerge" "seedColumnCount" "I" (.int nb) := (((((((H6.ext E116).other W117 (Or.inl ne_ob77_ar116)).other W118 (Or.inl ne_ob77_ar116)).other W119 (Or.inl ne_ob77_ar116)).other W120 (Or.inl ne_ob77_ar116)).ext E157).other W158 (Or.inl ne_ob77_ar157))
        have V160 : Arv Z h158 sc kC .int (3 : Int32) [(.int yb0), (.int yb1), (.int yb2)] (.int (0 : Int32)) := ((V155.ext E157).other W158 ne_sc_ar157)
        obtain rfl : nb = (1 : Int32) := hnb
        have hcb2 : yb0 = (2 : Int32) := by simpa [oc] using hcb
        obtain rfl := hcb2
        have X161 : Exa Z h158 ob77 "org/querne/sparql/SeedMerge" := ((X154.ext E157).wr W158)
        refine E_callV (pc' := 515) (kc' := 13) (ks' := 39) (W := 0) (a := ob77) (argsL := []) cx st158 [] (rm7 l Z a0 hw ob77 (1 : Int32) h158 n0 Z158 G159) X161 (hw _ (List.mem_of_getElem? (i := 41) rfl)) (hw _ (List.mem_of_getElem? (i := 42) rfl)) (hw _ (List.mem_of_getElem? (i := 44) rfl)) (hw _ (List.mem_of_getElem? (i := 43) rfl)) (hw _ (List.mem_of_getElem? (i := 12) rfl)) (hw _ (List.mem_of_getElem? (i := 45) rfl)) at_512 rfl rfl (lenOf pd_4 rfl) (Nat.le_of_eq rfl) (by decide) (by decide) (by decide) (by decide) (by decide) (by decide) (by decide) rfl ?_
        intro v162 T162 h162 st162 hq162
        obtain ⟨rfl, hh162⟩ := hq162
        rw [hh162] at st162
        refine E_iload (pc' := 517) cx st162 at_515 rfl rfl ?_
        refine E_icmp_neN (pc' := 520) cx st162 at_517 rfl rfl ?_
        refine E_iconst (pc' := 521) cx st162 (1 : Int32) at_520 rfl rfl ?_
        refine E_goto (pc' := 525) cx st162 at_521 (by decide) (by decide) ?_
        refine E_istore (pc' := 527) (L' := #[.val (.int p0), .val (.int p1), .val (.int p2), .val (.int p3), .val (.int p4), .val (.int p5), .val (.int u1), .val (.int u2), .val (.int u5), .val (.ref ar6), .val (.ref ar13), .val (.ref ar27), .val (.ref ar37), .val (.int dd4), .val (.int dd5), .val (.int dd6), .val (.int dd7), .val (.ref gr), .val (.ref ob77), .val (.int u106), .val (.ref ar116), .val (.int (0 : Int32)), .val (.int (0 : Int32)), .val (.int (1 : Int32)), .val (.ref ar157), .val (.int (1 : Int32)), .val (.int (1 : Int32)), .unset]) cx st162 at_525 rfl rfl ?_
        refine E_iload (pc' := 529) cx st162 at_527 rfl rfl ?_
        refine E_if_eqN (pc' := 532) cx st162 at_529 rfl (by decide) ?_
        refine E_iload (pc' := 534) cx st162 at_532 rfl rfl ?_
        refine E_if_leN (pc' := 537) cx st162 at_534 rfl (by decide) ?_
        refine E_aload (pc' := 539) cx st162 at_537 rfl rfl rfl ?_
        refine E_iconst (pc' := 540) cx st162 (0 : Int32) at_539 rfl rfl ?_
        have G163 : Fld Z h158 ob77 "org/querne/sparql/SeedMerge" "seedColumns" "[I" (.ref sc) := (((((((H3.ext E116).other W117 (Or.inl ne_ob77_ar116)).other W118 (Or.inl ne_ob77_ar116)).other W119 (Or.inl ne_ob77_ar116)).other W120 (Or.inl ne_ob77_ar116)).ext E157).other W158 (Or.inl ne_ob77_ar157))
        refine E_callV (pc' := 543) (kc' := 13) (ks' := 39) (W := 0) (a := ob77) (argsL := [(.int (0 : Int32))]) cx st162 [] (rm8i0 l Z a0 hw ob77 sc (2 : Int32) yb1 yb2 h158 n0 Z158 kC G163 V160) X161 (hw _ (List.mem_of_getElem? (i := 46) rfl)) (hw _ (List.mem_of_getElem? (i := 47) rfl)) (hw _ (List.mem_of_getElem? (i := 49) rfl)) (hw _ (List.mem_of_getElem? (i := 48) rfl)) (hw _ (List.mem_of_getElem? (i := 12) rfl)) (hw _ (List.mem_of_getElem? (i := 50) rfl)) at_540 rfl rfl (lenOf pd_5 rfl) (Nat.le_of_eq rfl) (by decide) (by decide) (by decide) (by decide) (by decide) (by decide) (by decide) rfl ?_
        intro v164 T164 h164 st164 hq164
        obtain ⟨rfl, hh164⟩ := hq164
        rw [hh164] at st164
        refine E_aload (pc' := 545) cx st164 at_543 rfl rfl rfl ?_
        refine E_iconst (pc' := 546) cx st164 (0 : Int32) at_545 rfl rfl ?_
        refine E_iaload (pc' := 547) (x := (2 : Int32)) cx st164 V158p ⟨by decide, by decide⟩ rfl at_546 rfl ?_
        refine E_icmp_neN (pc' := 550) cx st164 at_547 rfl rfl ?_
        refine E_iconst (pc' := 551) cx st164 (1 : Int32) at_550 rfl rfl ?_
        refine E_goto (pc' := 555) cx st164 at_551 (by decide) (by decide) ?_
        refine E_istore (pc' := 557) (L' := #[.val (.int p0), .val (.int p1), .val (.int p2), .val (.int p3), .val (.int p4), .val (.int p5), .val (.int u1), .val (.int u2), .val (.int u5), .val (.ref ar6), .val (.ref ar13), .val (.ref ar27), .val (.ref ar37), .val (.int dd4), .val (.int dd5), .val (.int dd6), .val (.int dd7), .val (.ref gr), .val (.ref ob77), .val (.int u106), .val (.ref ar116), .val (.int (0 : Int32)), .val (.int (0 : Int32)), .val (.int (1 : Int32)), .val (.ref ar157), .val (.int (1 : Int32)), .val (.int (1 : Int32)), .unset]) cx st164 at_555 rfl rfl ?_
        refine E_iload (pc' := 559) cx st164 at_557 rfl rfl ?_
        refine E_if_eqN (pc' := 562) cx st164 at_559 rfl (by decide) ?_
        refine E_iload (pc' := 564) cx st164 at_562 rfl rfl ?_
        refine E_iconst (pc' := 565) cx st164 (1 : Int32) at_564 rfl rfl ?_
        refine E_icmp_leY (pc' := 588) cx st164 at_565 (by decide) (by decide) (by decide) ?_
        refine E_iload (pc' := 590) cx st164 at_588 rfl rfl ?_
        refine E_if_eqN (pc' := 593) cx st164 at_590 rfl (by decide) ?_
        refine E_iload (pc' := 595) cx st164 at_593 rfl rfl ?_
        refine E_iconst (pc' := 596) cx st164 (2 : Int32) at_595 rfl rfl ?_
        refine E_icmp_leY (pc' := 619) cx st164 at_596 (by decide) (by decide) (by decide) ?_
        refine E_iloadN (pc' := 620) cx st164 at_619 rfl rfl ?_
        refine E_bipush (pc' := 622) cx st164 (12 : Int32) at_620 rfl rfl ?_
        refine E_iushr (pc' := 623) cx st164 at_622 rfl ?_
        refine E_iconst (pc' := 624) cx st164 (3 : Int32) at_623 rfl rfl ?_
        refine E_irem (pc' := 625) cx st164 at_624 (by decide) rfl ?_
        refine E_istore (pc' := 627) (L' := #[.val (.int p0), .val (.int p1), .val (.int p2), .val (.int p3), .val (.int p4), .val (.int p5), .val (.int u1), .val (.int u2), .val (.int u5), .val (.ref ar6), .val (.ref ar13), .val (.ref ar27), .val (.ref ar37), .val (.int dd4), .val (.int dd5), .val (.int dd6), .val (.int dd7), .val (.ref gr), .val (.ref ob77), .val (.int u106), .val (.ref ar116), .val (.int (0 : Int32)), .val (.int (0 : Int32)), .val (.int (1 : Int32)), .val (.ref ar157), .val (.int (1 : Int32)), .val (.int (1 : Int32)), .val (.int (((p0.toUInt32 >>> ((12 : Int32) &&& 31).toUInt32).toInt32) % (3 : Int32)))]) cx st164 at_625 rfl rfl ?_
        refine E_iload (pc' := 629) cx st164 at_627 rfl rfl ?_
        refine E_if_eqN (pc' := 632) cx st164 at_629 rfl (by decide) ?_
        refine E_aload (pc' := 634) cx st164 at_632 rfl rfl rfl ?_
        refine E_iload (pc' := 636) cx st164 at_634 rfl rfl ?_
        have G165 : Fld Z h158 ob77 "org/querne/sparql/SeedMerge" "seed" "[I" (.ref ar37) := (((((((H2.ext E116).other W117 (Or.inl ne_ob77_ar116)).other W118 (Or.inl ne_ob77_ar116)).other W119 (Or.inl ne_ob77_ar116)).other W120 (Or.inl ne_ob77_ar116)).ext E157).other W158 (Or.inl ne_ob77_ar157))
        have G166 : Fld Z h158 ob77 "org/querne/sparql/SeedMerge" "slots" "[I" (.ref ar13) := (((((((H1.ext E116).other W117 (Or.inl ne_ob77_ar116)).other W118 (Or.inl ne_ob77_ar116)).other W119 (Or.inl ne_ob77_ar116)).other W120 (Or.inl ne_ob77_ar116)).ext E157).other W158 (Or.inl ne_ob77_ar157))
        have V167 : Arv Z h158 ar13 ca13 .int (3 : Int32) [(.int t0), (.int t1), (.int t2)] (.int (0 : Int32)) := ((V121.ext E157).other W158 ne_ar13_ar157)
        have V168 : Arv Z h158 ar37 ca37 .int (4 : Int32) [(.int dd4), (.int dd5), (.int dd6), (.int dd7)] (.int (0 : Int32)) := ((V149.ext E157).other W158 ne_ar37_ar157)
        refine E_callV (pc' := 639) (kc' := 13) (ks' := 39) (W := 0) (a := ob77) (argsL := [(.int (((p0.toUInt32 >>> ((12 : Int32) &&& 31).toUInt32).toInt32) % (3 : Int32)))]) cx st164 [] (rm9 l Z a0 hw ob77 (((p0.toUInt32 >>> ((12 : Int32) &&& 31).toUInt32).toInt32) % (3 : Int32)) ar13 ar37 t0 t1 t2 dd4 dd5 dd6 dd7 h158 n0 Z158 ca13 ca37 G165 G166 V167 V168 hcol hxc) X161 (hw _ (List.mem_of_getElem? (i := 51) rfl)) (hw _ (List.mem_of_getElem? (i := 52) rfl)) (hw _ (List.mem_of_getElem? (i := 54) rfl)) (hw _ (List.mem_of_getElem? (i := 53) rfl)) (hw _ (List.mem_of_getElem? (i := 12) rfl)) (hw _ (List.mem_of_getElem? (i := 55) rfl)) at_636 rfl rfl (lenOf pd_5 rfl) (Nat.le_of_eq rfl) (by decide) (by decide) (by decide) (by decide) (by decide) (by decide) (by decide) rfl ?_
        intro v169 T169 h169 st169 hq169
        obtain ⟨rfl, hh169⟩ := hq169
        rw [hh169] at st169
        refine E_aload (pc' := 641) cx st169 at_639 rfl rfl rfl ?_
        refine E_aload (pc' := 643) cx st169 at_641 rfl rfl rfl ?_
        refine E_iload (pc' := 645) cx st169 at_643 rfl rfl ?_
        refine E_iaload (pc' := 646) (x := ([t0, t1, t2].getD (((p0.toUInt32 >>> ((12 : Int32) &&& 31).toUInt32).toInt32) % (3 : Int32)).toNatClampNeg 0)) cx st169 V167 hcol (getD_int [t0, t1, t2] _ 0) at_645 rfl ?_
        have V170 : Arv Z h158 ar116 ca116 .int (4 : Int32) [(.int dd4), (.int dd5), (.int dd6), (.int dd7)] (.int (0 : Int32)) := ((V120p.ext E157).other W158 ne_ar116_ar157)
        refine E_iaload (pc' := 647) (x := ([dd4, dd5, dd6, dd7].getD ([t0, t1, t2].getD (((p0.toUInt32 >>> ((12 : Int32) &&& 31).toUInt32).toInt32) % (3 : Int32)).toNatClampNeg 0).toNatClampNeg 0)) cx st169 V170 hxc (getD_int [dd4, dd5, dd6, dd7] _ 0) at_646 rfl ?_
        refine E_icmp_neN (pc' := 650) cx st169 at_647 rfl rfl ?_
        refine E_iconst (pc' := 651) cx st169 (1 : Int32) at_650 rfl rfl ?_
        refine E_goto (pc' := 655) cx st169 at_651 (by decide) (by decide) ?_
        refine E_istore (pc' := 657) (L' := #[.val (.int p0), .val (.int p1), .val (.int p2), .val (.int p3), .val (.int p4), .val (.int p5), .val (.int u1), .val (.int u2), .val (.int u5), .val (.ref ar6), .val (.ref ar13), .val (.ref ar27), .val (.ref ar37), .val (.int dd4), .val (.int dd5), .val (.int dd6), .val (.int dd7), .val (.ref gr), .val (.ref ob77), .val (.int u106), .val (.ref ar116), .val (.int (0 : Int32)), .val (.int (0 : Int32)), .val (.int (1 : Int32)), .val (.ref ar157), .val (.int (1 : Int32)), .val (.int (1 : Int32)), .val (.int (((p0.toUInt32 >>> ((12 : Int32) &&& 31).toUInt32).toInt32) % (3 : Int32)))]) cx st169 at_655 rfl rfl ?_
        refine E_aload (pc' := 659) cx st169 at_657 rfl rfl rfl ?_
        have G171 : Fld Z h158 ob77 "org/querne/sparql/SeedMerge" "mergedCount" "I" (.int (0 : Int32)) := (((((((H5.ext E116).other W117 (Or.inl ne_ob77_ar116)).other W118 (Or.inl ne_ob77_ar116)).other W119 (Or.inl ne_ob77_ar116)).other W120 (Or.inl ne_ob77_ar116)).ext E157).other W158 (Or.inl ne_ob77_ar157))
        refine E_callV (pc' := 662) (kc' := 13) (ks' := 39) (W := 0) (a := ob77) (argsL := []) cx st169 [] (rm10 l Z a0 hw ob77 h158 n0 Z158 g_ob77 X161 G171) X161 (hw _ (List.mem_of_getElem? (i := 56) rfl)) (hw _ (List.mem_of_getElem? (i := 57) rfl)) (hw _ (List.mem_of_getElem? (i := 59) rfl)) (hw _ (List.mem_of_getElem? (i := 58) rfl)) (hw _ (List.mem_of_getElem? (i := 12) rfl)) (hw _ (List.mem_of_getElem? (i := 60) rfl)) at_659 rfl rfl (lenOf pd_6 rfl) (Nat.le_of_eq rfl) (by decide) (by decide) (by decide) (by decide) (by decide) (by decide) (by decide) rfl ?_
        intro v172 T172 h172 st172 hq172
        obtain ⟨rfl, Ku⟩ := hq172
        have Z172 : n0 ≤ h172.size := Nat.le_trans Z158 Ku.1
        refine E_iload (pc' := 664) cx st172 at_662 rfl rfl ?_
        refine E_if_eqN (pc' := 667) cx st172 at_664 rfl (by decide) ?_
        refine E_aload (pc' := 669) cx st172 at_667 rfl rfl rfl ?_
        refine E_iconst (pc' := 670) cx st172 (0 : Int32) at_669 rfl rfl ?_
        have V173 : Arv Z h172 ar37 ca37 .int (4 : Int32) [(.int dd4), (.int dd5), (.int dd6), (.int dd7)] (.int (0 : Int32)) := (V168.keep Ku (ninS ne_ar37_ob77 nin0))
        refine E_iaload (pc' := 671) (x := dd4) cx st172 V173 ⟨by decide, by decide⟩ rfl at_670 rfl ?_
        refine E_iload (pc' := 673) cx st172 at_671 rfl rfl ?_
        refine E_icmp_neN (pc' := 676) cx st172 at_673 rfl rfl ?_
        refine E_aload (pc' := 678) cx st172 at_676 rfl rfl rfl ?_
        refine E_iconst (pc' := 679) cx st172 (1 : Int32) at_678 rfl rfl ?_
        refine E_iaload (pc' := 680) (x := dd5) cx st172 V173 ⟨by decide, by decide⟩ rfl at_679 rfl ?_
        refine E_iload (pc' := 682) cx st172 at_680 rfl rfl ?_
        refine E_icmp_neN (pc' := 685) cx st172 at_682 rfl rfl ?_
        refine E_aload (pc' := 687) cx st172 at_685 rfl rfl rfl ?_
        refine E_iconst (pc' := 688) cx st172 (2 : Int32) at_687 rfl rfl ?_
        refine E_iaload (pc' := 689) (x := dd6) cx st172 V173 ⟨by decide, by decide⟩ rfl at_688 rfl ?_
        refine E_iload (pc' := 691) cx st172 at_689 rfl rfl ?_
        refine E_icmp_neN (pc' := 694) cx st172 at_691 rfl rfl ?_
        refine E_aload (pc' := 696) cx st172 at_694 rfl rfl rfl ?_
        refine E_iconst (pc' := 697) cx st172 (3 : Int32) at_696 rfl rfl ?_
        refine E_iaload (pc' := 698) (x := dd7) cx st172 V173 ⟨by decide, by decide⟩ rfl at_697 rfl ?_
        refine E_iload (pc' := 700) cx st172 at_698 rfl rfl ?_
        refine E_icmp_neN (pc' := 703) cx st172 at_700 rfl rfl ?_
        refine E_iconst (pc' := 704) cx st172 (1 : Int32) at_703 rfl rfl ?_
        refine E_goto (pc' := 708) cx st172 at_704 (by decide) (by decide) ?_
        refine E_istore (pc' := 710) (L' := #[.val (.int p0), .val (.int p1), .val (.int p2), .val (.int p3), .val (.int p4), .val (.int p5), .val (.int u1), .val (.int u2), .val (.int u5), .val (.ref ar6), .val (.ref ar13), .val (.ref ar27), .val (.ref ar37), .val (.int dd4), .val (.int dd5), .val (.int dd6), .val (.int dd7), .val (.ref gr), .val (.ref ob77), .val (.int u106), .val (.ref ar116), .val (.int (0 : Int32)), .val (.int (0 : Int32)), .val (.int (1 : Int32)), .val (.ref ar157), .val (.int (1 : Int32)), .val (.int (1 : Int32)), .val (.int (((p0.toUInt32 >>> ((12 : Int32) &&& 31).toUInt32).toInt32) % (3 : Int32)))]) cx st172 at_708 rfl rfl ?_
        refine E_iload (pc' := 712) cx st172 at_710 rfl rfl ?_
        refine E_if_neY (pc' := 725) cx st172 at_712 (by decide) (by decide) (by decide) ?_
        refine E_iconst (pc' := 726) cx st172 (1 : Int32) at_725 rfl rfl ?_
        refine E_goto (pc' := 730) cx st172 at_726 (by decide) (by decide) ?_
        refine E_ireturn (t := .boolean) cx st172 at_730 rfl (by simp) rfl (by decide) (by decide) ?_
        exact rfl
    · refine E_icmp_eqN (pc' := 435) cx st120 at_432 rfl c123 ?_
      refine E_iconst (pc' := 436) cx st120 (1 : Int32) at_435 rfl rfl ?_
      refine E_goto (pc' := 440) cx st120 at_436 (by decide) (by decide) ?_
      refine E_istore (pc' := 442) (L' := #[.val (.int p0), .val (.int p1), .val (.int p2), .val (.int p3), .val (.int p4), .val (.int p5), .val (.int u1), .val (.int u2), .val (.int u5), .val (.ref ar6), .val (.ref ar13), .val (.ref ar27), .val (.ref ar37), .val (.int dd4), .val (.int dd5), .val (.int dd6), .val (.int dd7), .val (.ref gr), .val (.ref ob77), .val (.int u106), .val (.ref ar116), .val (.int (0 : Int32)), .val (.int (1 : Int32)), .unset, .unset, .unset, .unset, .unset]) cx st120 at_440 rfl rfl ?_
      refine E_aload (pc' := 444) cx st120 at_442 rfl rfl rfl ?_
      refine E_aload (pc' := 446) cx st120 at_444 rfl rfl rfl ?_
      refine E_iconst (pc' := 447) cx st120 (2 : Int32) at_446 rfl rfl ?_
      refine E_iaload (pc' := 448) (x := t2) cx st120 V121 ⟨by decide, by decide⟩ rfl at_447 rfl ?_
      refine E_iaload (pc' := 449) (x := ([dd4, dd5, dd6, dd7].getD t2.toNatClampNeg 0)) cx st120 V120p ht2 (getD_int [dd4, dd5, dd6, dd7] _ 0) at_448 rfl ?_
      refine E_iconst (pc' := 450) cx st120 (-1 : Int32) at_449 rfl rfl ?_
      by_cases c174 : ([dd4, dd5, dd6, dd7].getD t2.toNatClampNeg 0) = (-1 : Int32)
      · refine E_icmp_eqY (pc' := 457) cx st120 at_450 (by decide) (by decide) c174 ?_
        refine E_iconst (pc' := 458) cx st120 (0 : Int32) at_457 rfl rfl ?_
        refine E_istore (pc' := 460) (L' := #[.val (.int p0), .val (.int p1), .val (.int p2), .val (.int p3), .val (.int p4), .val (.int p5), .val (.int u1), .val (.int u2), .val (.int u5), .val (.ref ar6), .val (.ref ar13), .val (.ref ar27), .val (.ref ar37), .val (.int dd4), .val (.int dd5), .val (.int dd6), .val (.int dd7), .val (.ref gr), .val (.ref ob77), .val (.int u106), .val (.ref ar116), .val (.int (0 : Int32)), .val (.int (1 : Int32)), .val (.int (0 : Int32)), .unset, .unset, .unset, .unset]) cx st120 at_458 rfl rfl ?_
        refine E_iconst (pc' := 461) cx st120 (3 : Int32) at_460 rfl rfl ?_
        have V175 : Arv Z h120 ar27 ca27 .int (4 : Int32) (esm.map Value.int) (.int (0 : Int32)) := (((((V108.ext E116).other W117 ne_ar27_ar116).other W118 ne_ar27_ar116).other W119 ne_ar27_ar116).other W120 ne_ar27_ar116)
        have V176 : Arv Z h120 ar37 ca37 .int (4 : Int32) [(.int dd4), (.int dd5), (.int dd6), (.int dd7)] (.int (0 : Int32)) := (((((V109.ext E116).other W117 ne_ar37_ar116).other W118 ne_ar37_ar116).other W119 ne_ar37_ar116).other W120 ne_ar37_ar116)
        have V177 : Arv Z h120 gr cG (.array .int) (3 : Int32) [(.ref r0), (.ref r1), (.ref r2)] .null := (((((V110.ext E116).other W117 ne_gr_ar116).other W118 ne_gr_ar116).other W119 ne_gr_ar116).other W120 ne_gr_ar116)
        have V178 : Arv Z h120 r0 cR .int (1 : Int32) [(.int u53)] (.int (0 : Int32)) := (((((V111.ext E116).other W117 ne_r0_ar116).other W118 ne_r0_ar116).other W119 ne_r0_ar116).other W120 ne_r0_ar116)
        have V179 : Arv Z h120 r1 cR .int (1 : Int32) [(.int u60)] (.int (0 : Int32)) := (((((V112.ext E116).other W117 ne_r1_ar116).other W118 ne_r1_ar116).other W119 ne_r1_ar116).other W120 ne_r1_ar116)
        have V180 : Arv Z h120 r2 cR .int (1 : Int32) [(.int u68)] (.int (0 : Int32)) := (((((V113.ext E116).other W117 ne_r2_ar116).other W118 ne_r2_ar116).other W119 ne_r2_ar116).other W120 ne_r2_ar116)
        have X181 : Exa Z h120 ob77 "org/querne/sparql/SeedMerge" := (((((X114.ext E116).wr W117).wr W118).wr W119).wr W120)
        have V182 : Arv Z h120 sc kC .int (3 : Int32) [(.int yb0), (.int yb1), (.int yb2)] (.int (0 : Int32)) := (((((VCb.ext E116).other W117 ne_sc_ar116).other W118 ne_sc_ar116).other W119 ne_sc_ar116).other W120 ne_sc_ar116)
        have V183 : Arv Z h120 mg kM .int (3 : Int32) [(.int wm0), (.int wm1), (.int wm2)] (.int (0 : Int32)) := (((((V115.ext E116).other W117 ne_mg_ar116).other W118 ne_mg_ar116).other W119 ne_mg_ar116).other W120 ne_mg_ar116)
        refine E_newP (pc' := 463) (kc' := 13) (ks' := 39) (cap := 3) cx st120 (hw _ (List.mem_of_getElem? (i := 0) rfl)) at_461 (by decide) (by decide) (by decide) (by decide) (by decide) (by decide) (by decide) rfl (ad := "[I") (by decide) ?_
        intro T184 h184 ca184 ar184 eq184 st184 E184 V184 X184
        have g_ar184 : n0 ≤ ar184 := by rw [eq184]; exact Z120
        have ne_ar13_ar184 : ar13 ≠ ar184 := by rw [eq184]; exact Nat.ne_of_lt V121.lt
        have ne_ar27_ar184 : ar27 ≠ ar184 := by rw [eq184]; exact Nat.ne_of_lt V175.lt
        have ne_ar37_ar184 : ar37 ≠ ar184 := by rw [eq184]; exact Nat.ne_of_lt V176.lt
        have ne_gr_ar184 : gr ≠ ar184 := by rw [eq184]; exact Nat.ne_of_lt V177.lt
        have ne_r0_ar184 : r0 ≠ ar184 := by rw [eq184]; exact Nat.ne_of_lt V178.lt
        have ne_r1_ar184 : r1 ≠ ar184 := by rw [eq184]; exact Nat.ne_of_lt V179.lt
        have ne_r2_ar184 : r2 ≠ ar184 := by rw [eq184]; exact Nat.ne_of_lt V180.lt
        have ne_ob77_ar184 : ob77 ≠ ar184 := by rw [eq184]; exact Nat.ne_of_lt X181.lt
        have ne_sc_ar184 : sc ≠ ar184 := by rw [eq184]; exact Nat.ne_of_lt V182.lt
        have ne_mg_ar184 : mg ≠ ar184 := by rw [eq184]; exact Nat.ne_of_lt V183.lt
        have ne_ar116_ar184 : ar116 ≠ ar184 := by rw [eq184]; exact Nat.ne_of_lt V120p.lt
        have Z184 : n0 ≤ h184.size := Nat.le_trans Z120 E184.1
        have V184p : Arv Z h184 ar184 ca184 .int (3 : Int32) [(.int (0 : Int32)), (.int (0 : Int32)), (.int (0 : Int32))] (.int (0 : Int32)) := V184.pad (pad_rep [] (.int (0 : Int32)) 3)
        refine E_astore (pc' := 465) (L' := #[.val (.int p0), .val (.int p1), .val (.int p2), .val (.int p3), .val (.int p4), .val (.int p5), .val (.int u1), .val (.int u2), .val (.int u5), .val (.ref ar6), .val (.ref ar13), .val (.ref ar27), .val (.ref ar37), .val (.int dd4), .val (.int dd5), .val (.int dd6), .val (.int dd7), .val (.ref gr), .val (.ref ob77), .val (.int u106), .val (.ref ar116), .val (.int (0 : Int32)), .val (.int (1 : Int32)), .val (.int (0 : Int32)), .val (.ref ar184), .unset, .unset, .unset]) cx st184 at_463 rfl rfl rfl ?_
        refine E_iconst (pc' := 466) cx st184 (0 : Int32) at_465 rfl rfl ?_
        refine E_istore (pc' := 468) (L' := #[.val (.int p0), .val (.int p1), .val (.int p2), .val (.int p3), .val (.int p4), .val (.int p5), .val (.int u1), .val (.int u2), .val (.int u5), .val (.ref ar6), .val (.ref ar13), .val (.ref ar27), .val (.ref ar37), .val (.int dd4), .val (.int dd5), .val (.int dd6), .val (.int dd7), .val (.ref gr), .val (.ref ob77), .val (.int u106), .val (.ref ar116), .val (.int (0 : Int32)), .val (.int (1 : Int32)), .val (.int (0 : Int32)), .val (.ref ar184), .val (.int (0 : Int32)), .unset, .unset]) cx st184 at_466 rfl rfl ?_
        refine E_iload (pc' := 470) cx st184 at_468 rfl rfl ?_
        refine E_if_eqY (pc' := 482) cx st184 at_470 (by decide) (by decide) rfl ?_
        refine E_iload (pc' := 484) cx st184 at_482 rfl rfl ?_
        refine E_if_eqN (pc' := 487) cx st184 at_484 rfl (by decide) ?_
        refine E_aload (pc' := 489) cx st184 at_487 rfl rfl rfl ?_
        refine E_iload (pc' := 491) cx st184 at_489 rfl rfl ?_
        refine E_iconst (pc' := 492) cx st184 (1 : Int32) at_491 rfl rfl ?_
        refine E_iastore (pc' := 493) (i := 0) cx st184 V184p ⟨by decide, by decide⟩ rfl (Nat.le_of_ble_eq_true rfl) g_ar184 at_492 rfl ?_
        intro T185 h185 st185 W185 V185
        have Z185 : n0 ≤ h185.size := Nat.le_trans Z184 (Keep.of_wr W185).1
        have V185p : Arv Z h185 ar184 ca184 .int (3 : Int32) [(.int (1 : Int32)), (.int (0 : Int32)), (.int (0 : Int32))] (.int (0 : Int32)) := V185
        refine E_iinc (pc' := 496) (L' := #[.val (.int p0), .val (.int p1), .val (.int p2), .val (.int p3), .val (.int p4), .val (.int p5), .val (.int u1), .val (.int u2), .val (.int u5), .val (.ref ar6), .val (.ref ar13), .val (.ref ar27), .val (.ref ar37), .val (.int dd4), .val (.int dd5), .val (.int dd6), .val (.int dd7), .val (.ref gr), .val (.ref ob77), .val (.int u106), .val (.ref ar116), .val (.int (0 : Int32)), .val (.int (1 : Int32)), .val (.int (0 : Int32)), .val (.ref ar184), .val (.int (1 : Int32)), .unset, .unset]) cx st185 (1 : Int32) at_493 rfl rfl rfl rfl ?_
        refine E_iload (pc' := 498) cx st185 at_496 rfl rfl ?_
        refine E_if_eqY (pc' := 510) cx st185 at_498 (by decide) (by decide) rfl ?_
        refine E_aload (pc' := 512) cx st185 at_510 rfl rfl rfl ?_
        rw [decide_eq_true c122, decide_eq_false c123, decide_eq_true c174] at hnb hcb
        have G186 : Fld Z h185 ob77 "org/querne/sparql/SeedMerge" "seedColumnCount" "I" (.int nb) := (((((((H6.ext E116).other W117 (Or.inl ne_ob77_ar116)).other W118 (Or.inl ne_ob77_ar116)).other W119 (Or.inl ne_ob77_ar116)).other W120 (Or.inl ne_ob77_ar116)).ext E184).other W185 (Or.inl ne_ob77_ar184))
        have V187 : Arv Z h185 sc kC .int (3 : Int32) [(.int yb0), (.int yb1), (.int yb2)] (.int (0 : Int32)) := ((V182.ext E184).other W185 ne_sc_ar184)
        obtain rfl : nb = (1 : Int32) := hnb
        have hcb2 : yb0 = (1 : Int32) := by simpa [oc] using hcb
        obtain rfl := hcb2
        have X188 : Exa Z h185 ob77 "org/querne/sparql/SeedMerge" := ((X181.ext E184).wr W185)
        refine E_callV (pc' := 515) (kc' := 13) (ks' := 39) (W := 0) (a := ob77) (argsL := []) cx st185 [] (rm7 l Z a0 hw ob77 (1 : Int32) h185 n0 Z185 G186) X188 (hw _ (List.mem_of_getElem? (i := 41) rfl)) (hw _ (List.mem_of_getElem? (i := 42) rfl)) (hw _ (List.mem_of_getElem? (i := 44) rfl)) (hw _ (List.mem_of_getElem? (i := 43) rfl)) (hw _ (List.mem_of_getElem? (i := 12) rfl)) (hw _ (List.mem_of_getElem? (i := 45) rfl)) at_512 rfl rfl (lenOf pd_4 rfl) (Nat.le_of_eq rfl) (by decide) (by decide) (by decide) (by decide) (by decide) (by decide) (by decide) rfl ?_
        intro v189 T189 h189 st189 hq189
        obtain ⟨rfl, hh189⟩ := hq189
        rw [hh189] at st189
        refine E_iload (pc' := 517) cx st189 at_515 rfl rfl ?_
        refine E_icmp_neN (pc' := 520) cx st189 at_517 rfl rfl ?_
        refine E_iconst (pc' := 521) cx st189 (1 : Int32) at_520 rfl rfl ?_
        refine E_goto (pc' := 525) cx st189 at_521 (by decide) (by decide) ?_
        refine E_istore (pc' := 527) (L' := #[.val (.int p0), .val (.int p1), .val (.int p2), .val (.int p3), .val (.int p4), .val (.int p5), .val (.int u1), .val (.int u2), .val (.int u5), .val (.ref ar6), .val (.ref ar13), .val (.ref ar27), .val (.ref ar37), .val (.int dd4), .val (.int dd5), .val (.int dd6), .val (.int dd7), .val (.ref gr), .val (.ref ob77), .val (.int u106), .val (.ref ar116), .val (.int (0 : Int32)), .val (.int (1 : Int32)), .val (.int (0 : Int32)), .val (.ref ar184), .val (.int (1 : Int32)), .val (.int (1 : Int32)), .unset]) cx st189 at_525 rfl rfl ?_
        refine E_iload (pc' := 529) cx st189 at_527 rfl rfl ?_
        refine E_if_eqN (pc' := 532) cx st189 at_529 rfl (by decide) ?_
        refine E_iload (pc' := 534) cx st189 at_532 rfl rfl ?_
        refine E_if_leN (pc' := 537) cx st189 at_534 rfl (by decide) ?_
        refine E_aload (pc' := 539) cx st189 at_537 rfl rfl rfl ?_
        refine E_iconst (pc' := 540) cx st189 (0 : Int32) at_539 rfl rfl ?_
        have G190 : Fld Z h185 ob77 "org/querne/sparql/SeedMerge" "seedColumns" "[I" (.ref sc) := (((((((H3.ext E116).other W117 (Or.inl ne_ob77_ar116)).other W118 (Or.inl ne_ob77_ar116)).other W119 (Or.inl ne_ob77_ar116)).other W120 (Or.inl ne_ob77_ar116)).ext E184).other W185 (Or.inl ne_ob77_ar184))
        refine E_callV (pc' := 543) (kc' := 13) (ks' := 39) (W := 0) (a := ob77) (argsL := [(.int (0 : Int32))]) cx st189 [] (rm8i0 l Z a0 hw ob77 sc (1 : Int32) yb1 yb2 h185 n0 Z185 kC G190 V187) X188 (hw _ (List.mem_of_getElem? (i := 46) rfl)) (hw _ (List.mem_of_getElem? (i := 47) rfl)) (hw _ (List.mem_of_getElem? (i := 49) rfl)) (hw _ (List.mem_of_getElem? (i := 48) rfl)) (hw _ (List.mem_of_getElem? (i := 12) rfl)) (hw _ (List.mem_of_getElem? (i := 50) rfl)) at_540 rfl rfl (lenOf pd_5 rfl) (Nat.le_of_eq rfl) (by decide) (by decide) (by decide) (by decide) (by decide) (by decide) (by decide) rfl ?_
        intro v191 T191 h191 st191 hq191
        obtain ⟨rfl, hh191⟩ := hq191
        rw [hh191] at st191
        refine E_aload (pc' := 545) cx st191 at_543 rfl rfl rfl ?_
        refine E_iconst (pc' := 546) cx st191 (0 : Int32) at_545 rfl rfl ?_
        refine E_iaload (pc' := 547) (x := (1 : Int32)) cx st191 V185p ⟨by decide, by decide⟩ rfl at_546 rfl ?_
        refine E_icmp_neN (pc' := 550) cx st191 at_547 rfl rfl ?_
        refine E_iconst (pc' := 551) cx st191 (1 : Int32) at_550 rfl rfl ?_
        refine E_goto (pc' := 555) cx st191 at_551 (by decide) (by decide) ?_
        refine E_istore (pc' := 557) (L' := #[.val (.int p0), .val (.int p1), .val (.int p2), .val (.int p3), .val (.int p4), .val (.int p5), .val (.int u1), .val (.int u2), .val (.int u5), .val (.ref ar6), .val (.ref ar13), .val (.ref ar27), .val (.ref ar37), .val (.int dd4), .val (.int dd5), .val (.int dd6), .val (.int dd7), .val (.ref gr), .val (.ref ob77), .val (.int u106), .val (.ref ar116), .val (.int (0 : Int32)), .val (.int (1 : Int32)), .val (.int (0 : Int32)), .val (.ref ar184), .val (.int (1 : Int32)), .val (.int (1 : Int32)), .unset]) cx st191 at_555 rfl rfl ?_
        refine E_iload (pc' := 559) cx st191 at_557 rfl rfl ?_
        refine E_if_eqN (pc' := 562) cx st191 at_559 rfl (by decide) ?_
        refine E_iload (pc' := 564) cx st191 at_562 rfl rfl ?_
        refine E_iconst (pc' := 565) cx st191 (1 : Int32) at_564 rfl rfl ?_
        refine E_icmp_leY (pc' := 588) cx st191 at_565 (by decide) (by decide) (by decide) ?_
        refine E_iload (pc' := 590) cx st191 at_588 rfl rfl ?_
        refine E_if_eqN (pc' := 593) cx st191 at_590 rfl (by decide) ?_
        refine E_iload (pc' := 595) cx st191 at_593 rfl rfl ?_
        refine E_iconst (pc' := 596) cx st191 (2 : Int32) at_595 rfl rfl ?_
        refine E_icmp_leY (pc' := 619) cx st191 at_596 (by decide) (by decide) (by decide) ?_
        refine E_iloadN (pc' := 620) cx st191 at_619 rfl rfl ?_
        refine E_bipush (pc' := 622) cx st191 (12 : Int32) at_620 rfl rfl ?_
        refine E_iushr (pc' := 623) cx st191 at_622 rfl ?_
        refine E_iconst (pc' := 624) cx st191 (3 : Int32) at_623 rfl rfl ?_
        refine E_irem (pc' := 625) cx st191 at_624 (by decide) rfl ?_
        refine E_istore (pc' := 627) (L' := #[.val (.int p0), .val (.int p1), .val (.int p2), .val (.int p3), .val (.int p4), .val (.int p5), .val (.int u1), .val (.int u2), .val (.int u5), .val (.ref ar6), .val (.ref ar13), .val (.ref ar27), .val (.ref ar37), .val (.int dd4), .val (.int dd5), .val (.int dd6), .val (.int dd7), .val (.ref gr), .val (.ref ob77), .val (.int u106), .val (.ref ar116), .val (.int (0 : Int32)), .val (.int (1 : Int32)), .val (.int (0 : Int32)), .val (.ref ar184), .val (.int (1 : Int32)), .val (.int (1 : Int32)), .val (.int (((p0.toUInt32 >>> ((12 : Int32) &&& 31).toUInt32).toInt32) % (3 : Int32)))]) cx st191 at_625 rfl rfl ?_
        refine E_iload (pc' := 629) cx st191 at_627 rfl rfl ?_
        refine E_if_eqN (pc' := 632) cx st191 at_629 rfl (by decide) ?_
        refine E_aload (pc' := 634) cx st191 at_632 rfl rfl rfl ?_
        refine E_iload (pc' := 636) cx st191 at_634 rfl rfl ?_
        have G192 : Fld Z h185 ob77 "org/querne/sparql/SeedMerge" "seed" "[I" (.ref ar37) := (((((((H2.ext E116).other W117 (Or.inl ne_ob77_ar116)).other W118 (Or.inl ne_ob77_ar116)).other W119 (Or.inl ne_ob77_ar116)).other W120 (Or.inl ne_ob77_ar116)).ext E184).other W185 (Or.inl ne_ob77_ar184))
        have G193 : Fld Z h185 ob77 "org/querne/sparql/SeedMerge" "slots" "[I" (.ref ar13) := (((((((H1.ext E116).other W117 (Or.inl ne_ob77_ar116)).other W118 (Or.inl ne_ob77_ar116)).other W119 (Or.inl ne_ob77_ar116)).other W120 (Or.inl ne_ob77_ar116)).ext E184).other W185 (Or.inl ne_ob77_ar184))
        have V194 : Arv Z h185 ar13 ca13 .int (3 : Int32) [(.int t0), (.int t1), (.int t2)] (.int (0 : Int32)) := ((V121.ext E184).other W185 ne_ar13_ar184)
        have V195 : Arv Z h185 ar37 ca37 .int (4 : Int32) [(.int dd4), (.int dd5), (.int dd6), (.int dd7)] (.int (0 : Int32)) := ((V176.ext E184).other W185 ne_ar37_ar184)
        refine E_callV (pc' := 639) (kc' := 13) (ks' := 39) (W := 0) (a := ob77) (argsL := [(.int (((p0.toUInt32 >>> ((12 : Int32) &&& 31).toUInt32).toInt32) % (3 : Int32)))]) cx st191 [] (rm9 l Z a0 hw ob77 (((p0.toUInt32 >>> ((12 : Int32) &&& 31).toUInt32).toInt32) % (3 : Int32)) ar13 ar37 t0 t1 t2 dd4 dd5 dd6 dd7 h185 n0 Z185 ca13 ca37 G192 G193 V194 V195 hcol hxc) X188 (hw _ (List.mem_of_getElem? (i := 51) rfl)) (hw _ (List.mem_of_getElem? (i := 52) rfl)) (hw _ (List.mem_of_getElem? (i := 54) rfl)) (hw _ (List.mem_of_getElem? (i := 53) rfl)) (hw _ (List.mem_of_getElem? (i := 12) rfl)) (hw _ (List.mem_of_getElem? (i := 55) rfl)) at_636 rfl rfl (lenOf pd_5 rfl) (Nat.le_of_eq rfl) (by decide) (by decide) (by decide) (by decide) (by decide) (by decide) (by decide) rfl ?_
        intro v196 T196 h196 st196 hq196
        obtain ⟨rfl, hh196⟩ := hq196
        rw [hh196] at st196
        refine E_aload (pc' := 641) cx st196 at_639 rfl rfl rfl ?_
        refine E_aload (pc' := 643) cx st196 at_641 rfl rfl rfl ?_
        refine E_iload (pc' := 645) cx st196 at_643 rfl rfl ?_
        refine E_iaload (pc' := 646) (x := ([t0, t1, t2].getD (((p0.toUInt32 >>> ((12 : Int32) &&& 31).toUInt32).toInt32) % (3 : Int32)).toNatClampNeg 0)) cx st196 V194 hcol (getD_int [t0, t1, t2] _ 0) at_645 rfl ?_
        have V197 : Arv Z h185 ar116 ca116 .int (4 : Int32) [(.int dd4), (.int dd5), (.int dd6), (.int dd7)] (.int (0 : Int32)) := ((V120p.ext E184).other W185 ne_ar116_ar184)
        refine E_iaload (pc' := 647) (x := ([dd4, dd5, dd6, dd7].getD ([t0, t1, t2].getD (((p0.toUInt32 >>> ((12 : Int32) &&& 31).toUInt32).toInt32) % (3 : Int32)).toNatClampNeg 0).toNatClampNeg 0)) cx st196 V197 hxc (getD_int [dd4, dd5, dd6, dd7] _ 0) at_646 rfl ?_
        refine E_icmp_neN (pc' := 650) cx st196 at_647 rfl rfl ?_
        refine E_iconst (pc' := 651) cx st196 (1 : Int32) at_650 rfl rfl ?_
        refine E_goto (pc' := 655) cx st196 at_651 (by decide) (by decide) ?_
        refine E_istore (pc' := 657) (L' := #[.val (.int p0), .val (.int p1), .val (.int p2), .val (.int p3), .val (.int p4), .val (.int p5), .val (.int u1), .val (.int u2), .val (.int u5), .val (.ref ar6), .val (.ref ar13), .val (.ref ar27), .val (.ref ar37), .val (.int dd4), .val (.int dd5), .val (.int dd6), .val (.int dd7), .val (.ref gr), .val (.ref ob77), .val (.int u106), .val (.ref ar116), .val (.int (0 : Int32)), .val (.int (1 : Int32)), .val (.int (0 : Int32)), .val (.ref ar184), .val (.int (1 : Int32)), .val (.int (1 : Int32)), .val (.int (((p0.toUInt32 >>> ((12 : Int32) &&& 31).toUInt32).toInt32) % (3 : Int32)))]) cx st196 at_655 rfl rfl ?_
        refine E_aload (pc' := 659) cx st196 at_657 rfl rfl rfl ?_
        have G198 : Fld Z h185 ob77 "org/querne/sparql/SeedMerge" "mergedCount" "I" (.int (0 : Int32)) := (((((((H5.ext E116).other W117 (Or.inl ne_ob77_ar116)).other W118 (Or.inl ne_ob77_ar116)).other W119 (Or.inl ne_ob77_ar116)).other W120 (Or.inl ne_ob77_ar116)).ext E184).other W185 (Or.inl ne_ob77_ar184))
        refine E_callV (pc' := 662) (kc' := 13) (ks' := 39) (W := 0) (a := ob77) (argsL := []) cx st196 [] (rm10 l Z a0 hw ob77 h185 n0 Z185 g_ob77 X188 G198) X188 (hw _ (List.mem_of_getElem? (i := 56) rfl)) (hw _ (List.mem_of_getElem? (i := 57) rfl)) (hw _ (List.mem_of_getElem? (i := 59) rfl)) (hw _ (List.mem_of_getElem? (i := 58) rfl)) (hw _ (List.mem_of_getElem? (i := 12) rfl)) (hw _ (List.mem_of_getElem? (i := 60) rfl)) at_659 rfl rfl (lenOf pd_6 rfl) (Nat.le_of_eq rfl) (by decide) (by decide) (by decide) (by decide) (by decide) (by decide) (by decide) rfl ?_
        intro v199 T199 h199 st199 hq199
        obtain ⟨rfl, Ku⟩ := hq199
        have Z199 : n0 ≤ h199.size := Nat.le_trans Z185 Ku.1
        refine E_iload (pc' := 664) cx st199 at_662 rfl rfl ?_
        refine E_if_eqN (pc' := 667) cx st199 at_664 rfl (by decide) ?_
        refine E_aload (pc' := 669) cx st199 at_667 rfl rfl rfl ?_
        refine E_iconst (pc' := 670) cx st199 (0 : Int32) at_669 rfl rfl ?_
        have V200 : Arv Z h199 ar37 ca37 .int (4 : Int32) [(.int dd4), (.int dd5), (.int dd6), (.int dd7)] (.int (0 : Int32)) := (V195.keep Ku (ninS ne_ar37_ob77 nin0))
        refine E_iaload (pc' := 671) (x := dd4) cx st199 V200 ⟨by decide, by decide⟩ rfl at_670 rfl ?_
        refine E_iload (pc' := 673) cx st199 at_671 rfl rfl ?_
        refine E_icmp_neN (pc' := 676) cx st199 at_673 rfl rfl ?_
        refine E_aload (pc' := 678) cx st199 at_676 rfl rfl rfl ?_
        refine E_iconst (pc' := 679) cx st199 (1 : Int32) at_678 rfl rfl ?_
        refine E_iaload (pc' := 680) (x := dd5) cx st199 V200 ⟨by decide, by decide⟩ rfl at_679 rfl ?_
        refine E_iload (pc' := 682) cx st199 at_680 rfl rfl ?_
        refine E_icmp_neN (pc' := 685) cx st199 at_682 rfl rfl ?_
        refine E_aload (pc' := 687) cx st199 at_685 rfl rfl rfl ?_
        refine E_iconst (pc' := 688) cx st199 (2 : Int32) at_687 rfl rfl ?_
        refine E_iaload (pc' := 689) (x := dd6) cx st199 V200 ⟨by decide, by decide⟩ rfl at_688 rfl ?_
        refine E_iload (pc' := 691) cx st199 at_689 rfl rfl ?_
        refine E_icmp_neN (pc' := 694) cx st199 at_691 rfl rfl ?_
        refine E_aload (pc' := 696) cx st199 at_694 rfl rfl rfl ?_
        refine E_iconst (pc' := 697) cx st199 (3 : Int32) at_696 rfl rfl ?_
        refine E_iaload (pc' := 698) (x := dd7) cx st199 V200 ⟨by decide, by decide⟩ rfl at_697 rfl ?_
        refine E_iload (pc' := 700) cx st199 at_698 rfl rfl ?_
        refine E_icmp_neN (pc' := 703) cx st199 at_700 rfl rfl ?_
        refine E_iconst (pc' := 704) cx st199 (1 : Int32) at_703 rfl rfl ?_
        refine E_goto (pc' := 708) cx st199 at_704 (by decide) (by decide) ?_
        refine E_istore (pc' := 710) (L' := #[.val (.int p0), .val (.int p1), .val (.int p2), .val (.int p3), .val (.int p4), .val (.int p5), .val (.int u1), .val (.int u2), .val (.int u5), .val (.ref ar6), .val (.ref ar13), .val (.ref ar27), .val (.ref ar37), .val (.int dd4), .val (.int dd5), .val (.int dd6), .val (.int dd7), .val (.ref gr), .val (.ref ob77), .val (.int u106), .val (.ref ar116), .val (.int (0 : Int32)), .val (.int (1 : Int32)), .val (.int (0 : Int32)), .val (.ref ar184), .val (.int (1 : Int32)), .val (.int (1 : Int32)), .val (.int (((p0.toUInt32 >>> ((12 : Int32) &&& 31).toUInt32).toInt32) % (3 : Int32)))]) cx st199 at_708 rfl rfl ?_
        refine E_iload (pc' := 712) cx st199 at_710 rfl rfl ?_
        refine E_if_neY (pc' := 725) cx st199 at_712 (by decide) (by decide) (by decide) ?_
        refine E_iconst (pc' := 726) cx st199 (1 : Int32) at_725 rfl rfl ?_
        refine E_goto (pc' := 730) cx st199 at_726 (by decide) (by decide) ?_
        refine E_ireturn (t := .boolean) cx st199 at_730 rfl (by simp) rfl (by decide) (by decide) ?_
        exact rfl
      · refine E_icmp_eqN (pc' := 453) cx st120 at_450 rfl c174 ?_
        refine E_iconst (pc' := 454) cx st120 (1 : Int32) at_453 rfl rfl ?_
        refine E_goto (pc' := 458) cx st120 at_454 (by decide) (by decide) ?_
        refine E_istore (pc' := 460) (L' := #[.val (.int p0), .val (.int p1), .val (.int p2), .val (.int p3), .val (.int p4), .val (.int p5), .val (.int u1), .val (.int u2), .val (.int u5), .val (.ref ar6), .val (.ref ar13), .val (.ref ar27), .val (.ref ar37), .val (.int dd4), .val (.int dd5), .val (.int dd6), .val (.int dd7), .val (.ref gr), .val (.ref ob77), .val (.int u106), .val (.ref ar116), .val (.int (0 : Int32)), .val (.int (1 : Int32)), .val (.int (1 : Int32)), .unset, .unset, .unset, .unset]) cx st120 at_458 rfl rfl ?_
        refine E_iconst (pc' := 461) cx st120 (3 : Int32) at_460 rfl rfl ?_
        have V201 : Arv Z h120 ar27 ca27 .int (4 : Int32) (esm.map Value.int) (.int (0 : Int32)) := (((((V108.ext E116).other W117 ne_ar27_ar116).other W118 ne_ar27_ar116).other W119 ne_ar27_ar116).other W120 ne_ar27_ar116)
        have V202 : Arv Z h120 ar37 ca37 .int (4 : Int32) [(.int dd4), (.int dd5), (.int dd6), (.int dd7)] (.int (0 : Int32)) := (((((V109.ext E116).other W117 ne_ar37_ar116).other W118 ne_ar37_ar116).other W119 ne_ar37_ar116).other W120 ne_ar37_ar116)
        have V203 : Arv Z h120 gr cG (.array .int) (3 : Int32) [(.ref r0), (.ref r1), (.ref r2)] .null := (((((V110.ext E116).other W117 ne_gr_ar116).other W118 ne_gr_ar116).other W119 ne_gr_ar116).other W120 ne_gr_ar116)
        have V204 : Arv Z h120 r0 cR .int (1 : Int32) [(.int u53)] (.int (0 : Int32)) := (((((V111.ext E116).other W117 ne_r0_ar116).other W118 ne_r0_ar116).other W119 ne_r0_ar116).other W120 ne_r0_ar116)
        have V205 : Arv Z h120 r1 cR .int (1 : Int32) [(.int u60)] (.int (0 : Int32)) := (((((V112.ext E116).other W117 ne_r1_ar116).other W118 ne_r1_ar116).other W119 ne_r1_ar116).other W120 ne_r1_ar116)
        have V206 : Arv Z h120 r2 cR .int (1 : Int32) [(.int u68)] (.int (0 : Int32)) := (((((V113.ext E116).other W117 ne_r2_ar116).other W118 ne_r2_ar116).other W119 ne_r2_ar116).other W120 ne_r2_ar116)
        have X207 : Exa Z h120 ob77 "org/querne/sparql/SeedMerge" := (((((X114.ext E116).wr W117).wr W118).wr W119).wr W120)
        have V208 : Arv Z h120 sc kC .int (3 : Int32) [(.int yb0), (.int yb1), (.int yb2)] (.int (0 : Int32)) := (((((VCb.ext E116).other W117 ne_sc_ar116).other W118 ne_sc_ar116).other W119 ne_sc_ar116).other W120 ne_sc_ar116)
        have V209 : Arv Z h120 mg kM .int (3 : Int32) [(.int wm0), (.int wm1), (.int wm2)] (.int (0 : Int32)) := (((((V115.ext E116).other W117 ne_mg_ar116).other W118 ne_mg_ar116).other W119 ne_mg_ar116).other W120 ne_mg_ar116)
        refine E_newP (pc' := 463) (kc' := 13) (ks' := 39) (cap := 3) cx st120 (hw _ (List.mem_of_getElem? (i := 0) rfl)) at_461 (by decide) (by decide) (by decide) (by decide) (by decide) (by decide) (by decide) rfl (ad := "[I") (by decide) ?_
        intro T210 h210 ca210 ar210 eq210 st210 E210 V210 X210
        have g_ar210 : n0 ≤ ar210 := by rw [eq210]; exact Z120
        have ne_ar13_ar210 : ar13 ≠ ar210 := by rw [eq210]; exact Nat.ne_of_lt V121.lt
        have ne_ar27_ar210 : ar27 ≠ ar210 := by rw [eq210]; exact Nat.ne_of_lt V201.lt
        have ne_ar37_ar210 : ar37 ≠ ar210 := by rw [eq210]; exact Nat.ne_of_lt V202.lt
        have ne_gr_ar210 : gr ≠ ar210 := by rw [eq210]; exact Nat.ne_of_lt V203.lt
        have ne_r0_ar210 : r0 ≠ ar210 := by rw [eq210]; exact Nat.ne_of_lt V204.lt
        have ne_r1_ar210 : r1 ≠ ar210 := by rw [eq210]; exact Nat.ne_of_lt V205.lt
        have ne_r2_ar210 : r2 ≠ ar210 := by rw [eq210]; exact Nat.ne_of_lt V206.lt
        have ne_ob77_ar210 : ob77 ≠ ar210 := by rw [eq210]; exact Nat.ne_of_lt X207.lt
        have ne_sc_ar210 : sc ≠ ar210 := by rw [eq210]; exact Nat.ne_of_lt V208.lt
        have ne_mg_ar210 : mg ≠ ar210 := by rw [eq210]; exact Nat.ne_of_lt V209.lt
        have ne_ar116_ar210 : ar116 ≠ ar210 := by rw [eq210]; exact Nat.ne_of_lt V120p.lt
        have Z210 : n0 ≤ h210.size := Nat.le_trans Z120 E210.1
        have V210p : Arv Z h210 ar210 ca210 .int (3 : Int32) [(.int (0 : Int32)), (.int (0 : Int32)), (.int (0 : Int32))] (.int (0 : Int32)) := V210.pad (pad_rep [] (.int (0 : Int32)) 3)
        refine E_astore (pc' := 465) (L' := #[.val (.int p0), .val (.int p1), .val (.int p2), .val (.int p3), .val (.int p4), .val (.int p5), .val (.int u1), .val (.int u2), .val (.int u5), .val (.ref ar6), .val (.ref ar13), .val (.ref ar27), .val (.ref ar37), .val (.int dd4), .val (.int dd5), .val (.int dd6), .val (.int dd7), .val (.ref gr), .val (.ref ob77), .val (.int u106), .val (.ref ar116), .val (.int (0 : Int32)), .val (.int (1 : Int32)), .val (.int (1 : Int32)), .val (.ref ar210), .unset, .unset, .unset]) cx st210 at_463 rfl rfl rfl ?_
        refine E_iconst (pc' := 466) cx st210 (0 : Int32) at_465 rfl rfl ?_
        refine E_istore (pc' := 468) (L' := #[.val (.int p0), .val (.int p1), .val (.int p2), .val (.int p3), .val (.int p4), .val (.int p5), .val (.int u1), .val (.int u2), .val (.int u5), .val (.ref ar6), .val (.ref ar13), .val (.ref ar27), .val (.ref ar37), .val (.int dd4), .val (.int dd5), .val (.int dd6), .val (.int dd7), .val (.ref gr), .val (.ref ob77), .val (.int u106), .val (.ref ar116), .val (.int (0 : Int32)), .val (.int (1 : Int32)), .val (.int (1 : Int32)), .val (.ref ar210), .val (.int (0 : Int32)), .unset, .unset]) cx st210 at_466 rfl rfl ?_
        refine E_iload (pc' := 470) cx st210 at_468 rfl rfl ?_
        refine E_if_eqY (pc' := 482) cx st210 at_470 (by decide) (by decide) rfl ?_
        refine E_iload (pc' := 484) cx st210 at_482 rfl rfl ?_
        refine E_if_eqN (pc' := 487) cx st210 at_484 rfl (by decide) ?_
        refine E_aload (pc' := 489) cx st210 at_487 rfl rfl rfl ?_
        refine E_iload (pc' := 491) cx st210 at_489 rfl rfl ?_
        refine E_iconst (pc' := 492) cx st210 (1 : Int32) at_491 rfl rfl ?_
        refine E_iastore (pc' := 493) (i := 0) cx st210 V210p ⟨by decide, by decide⟩ rfl (Nat.le_of_ble_eq_true rfl) g_ar210 at_492 rfl ?_
        intro T211 h211 st211 W211 V211
        have Z211 : n0 ≤ h211.size := Nat.le_trans Z210 (Keep.of_wr W211).1
        have V211p : Arv Z h211 ar210 ca210 .int (3 : Int32) [(.int (1 : Int32)), (.int (0 : Int32)), (.int (0 : Int32))] (.int (0 : Int32)) := V211
        refine E_iinc (pc' := 496) (L' := #[.val (.int p0), .val (.int p1), .val (.int p2), .val (.int p3), .val (.int p4), .val (.int p5), .val (.int u1), .val (.int u2), .val (.int u5), .val (.ref ar6), .val (.ref ar13), .val (.ref ar27), .val (.ref ar37), .val (.int dd4), .val (.int dd5), .val (.int dd6), .val (.int dd7), .val (.ref gr), .val (.ref ob77), .val (.int u106), .val (.ref ar116), .val (.int (0 : Int32)), .val (.int (1 : Int32)), .val (.int (1 : Int32)), .val (.ref ar210), .val (.int (1 : Int32)), .unset, .unset]) cx st211 (1 : Int32) at_493 rfl rfl rfl rfl ?_
        refine E_iload (pc' := 498) cx st211 at_496 rfl rfl ?_
        refine E_if_eqN (pc' := 501) cx st211 at_498 rfl (by decide) ?_
        refine E_aload (pc' := 503) cx st211 at_501 rfl rfl rfl ?_
        refine E_iload (pc' := 505) cx st211 at_503 rfl rfl ?_
        refine E_iconst (pc' := 506) cx st211 (2 : Int32) at_505 rfl rfl ?_
        refine E_iastore (pc' := 507) (i := 1) cx st211 V211p ⟨by decide, by decide⟩ rfl (Nat.le_of_ble_eq_true rfl) g_ar210 at_506 rfl ?_
        intro T212 h212 st212 W212 V212
        have Z212 : n0 ≤ h212.size := Nat.le_trans Z211 (Keep.of_wr W212).1
        have V212p : Arv Z h212 ar210 ca210 .int (3 : Int32) [(.int (1 : Int32)), (.int (2 : Int32)), (.int (0 : Int32))] (.int (0 : Int32)) := V212
        refine E_iinc (pc' := 510) (L' := #[.val (.int p0), .val (.int p1), .val (.int p2), .val (.int p3), .val (.int p4), .val (.int p5), .val (.int u1), .val (.int u2), .val (.int u5), .val (.ref ar6), .val (.ref ar13), .val (.ref ar27), .val (.ref ar37), .val (.int dd4), .val (.int dd5), .val (.int dd6), .val (.int dd7), .val (.ref gr), .val (.ref ob77), .val (.int u106), .val (.ref ar116), .val (.int (0 : Int32)), .val (.int (1 : Int32)), .val (.int (1 : Int32)), .val (.ref ar210), .val (.int (2 : Int32)), .unset, .unset]) cx st212 (1 : Int32) at_507 rfl rfl rfl rfl ?_
        refine E_aload (pc' := 512) cx st212 at_510 rfl rfl rfl ?_
        rw [decide_eq_true c122, decide_eq_false c123, decide_eq_false c174] at hnb hcb
        have G213 : Fld Z h212 ob77 "org/querne/sparql/SeedMerge" "seedColumnCount" "I" (.int nb) := ((((((((H6.ext E116).other W117 (Or.inl ne_ob77_ar116)).other W118 (Or.inl ne_ob77_ar116)).other W119 (Or.inl ne_ob77_ar116)).other W120 (Or.inl ne_ob77_ar116)).ext E210).other W211 (Or.inl ne_ob77_ar210)).other W212 (Or.inl ne_ob77_ar210))
        have V214 : Arv Z h212 sc kC .int (3 : Int32) [(.int yb0), (.int yb1), (.int yb2)] (.int (0 : Int32)) := (((V208.ext E210).other W211 ne_sc_ar210).other W212 ne_sc_ar210)
        obtain rfl : nb = (2 : Int32) := hnb
        have hcb2 : yb0 = (1 : Int32) ∧ yb1 = (2 : Int32) := by simpa [oc] using hcb
        obtain ⟨rfl, rfl⟩ := hcb2
        have X215 : Exa Z h212 ob77 "org/querne/sparql/SeedMerge" := (((X207.ext E210).wr W211).wr W212)
        refine E_callV (pc' := 515) (kc' := 13) (ks' := 39) (W := 0) (a := ob77) (argsL := []) cx st212 [] (rm7 l Z a0 hw ob77 (2 : Int32) h212 n0 Z212 G213) X215 (hw _ (List.mem_of_getElem? (i := 41) rfl)) (hw _ (List.mem_of_getElem? (i := 42) rfl)) (hw _ (List.mem_of_getElem? (i := 44) rfl)) (hw _ (List.mem_of_getElem? (i := 43) rfl)) (hw _ (List.mem_of_getElem? (i := 12) rfl)) (hw _ (List.mem_of_getElem? (i := 45) rfl)) at_512 rfl rfl (lenOf pd_4 rfl) (Nat.le_of_eq rfl) (by decide) (by decide) (by decide) (by decide) (by decide) (by decide) (by decide) rfl ?_
        intro v216 T216 h216 st216 hq216
        obtain ⟨rfl, hh216⟩ := hq216
        rw [hh216] at st216
        refine E_iload (pc' := 517) cx st216 at_515 rfl rfl ?_
        refine E_icmp_neN (pc' := 520) cx st216 at_517 rfl rfl ?_
        refine E_iconst (pc' := 521) cx st216 (1 : Int32) at_520 rfl rfl ?_
        refine E_goto (pc' := 525) cx st216 at_521 (by decide) (by decide) ?_
        refine E_istore (pc' := 527) (L' := #[.val (.int p0), .val (.int p1), .val (.int p2), .val (.int p3), .val (.int p4), .val (.int p5), .val (.int u1), .val (.int u2), .val (.int u5), .val (.ref ar6), .val (.ref ar13), .val (.ref ar27), .val (.ref ar37), .val (.int dd4), .val (.int dd5), .val (.int dd6), .val (.int dd7), .val (.ref gr), .val (.ref ob77), .val (.int u106), .val (.ref ar116), .val (.int (0 : Int32)), .val (.int (1 : Int32)), .val (.int (1 : Int32)), .val (.ref ar210), .val (.int (2 : Int32)), .val (.int (1 : Int32)), .unset]) cx st216 at_525 rfl rfl ?_
        refine E_iload (pc' := 529) cx st216 at_527 rfl rfl ?_
        refine E_if_eqN (pc' := 532) cx st216 at_529 rfl (by decide) ?_
        refine E_iload (pc' := 534) cx st216 at_532 rfl rfl ?_
        refine E_if_leN (pc' := 537) cx st216 at_534 rfl (by decide) ?_
        refine E_aload (pc' := 539) cx st216 at_537 rfl rfl rfl ?_
        refine E_iconst (pc' := 540) cx st216 (0 : Int32) at_539 rfl rfl ?_
        have G217 : Fld Z h212 ob77 "org/querne/sparql/SeedMerge" "seedColumns" "[I" (.ref sc) := ((((((((H3.ext E116).other W117 (Or.inl ne_ob77_ar116)).other W118 (Or.inl ne_ob77_ar116)).other W119 (Or.inl ne_ob77_ar116)).other W120 (Or.inl ne_ob77_ar116)).ext E210).other W211 (Or.inl ne_ob77_ar210)).other W212 (Or.inl ne_ob77_ar210))
        refine E_callV (pc' := 543) (kc' := 13) (ks' := 39) (W := 0) (a := ob77) (argsL := [(.int (0 : Int32))]) cx st216 [] (rm8i0 l Z a0 hw ob77 sc (1 : Int32) (2 : Int32) yb2 h212 n0 Z212 kC G217 V214) X215 (hw _ (List.mem_of_getElem? (i := 46) rfl)) (hw _ (List.mem_of_getElem? (i := 47) rfl)) (hw _ (List.mem_of_getElem? (i := 49) rfl)) (hw _ (List.mem_of_getElem? (i := 48) rfl)) (hw _ (List.mem_of_getElem? (i := 12) rfl)) (hw _ (List.mem_of_getElem? (i := 50) rfl)) at_540 rfl rfl (lenOf pd_5 rfl) (Nat.le_of_eq rfl) (by decide) (by decide) (by decide) (by decide) (by decide) (by decide) (by decide) rfl ?_
        intro v218 T218 h218 st218 hq218
        obtain ⟨rfl, hh218⟩ := hq218
        rw [hh218] at st218
        refine E_aload (pc' := 545) cx st218 at_543 rfl rfl rfl ?_
        refine E_iconst (pc' := 546) cx st218 (0 : Int32) at_545 rfl rfl ?_
        refine E_iaload (pc' := 547) (x := (1 : Int32)) cx st218 V212p ⟨by decide, by decide⟩ rfl at_546 rfl ?_
        refine E_icmp_neN (pc' := 550) cx st218 at_547 rfl rfl ?_
        refine E_iconst (pc' := 551) cx st218 (1 : Int32) at_550 rfl rfl ?_
        refine E_goto (pc' := 555) cx st218 at_551 (by decide) (by decide) ?_
        refine E_istore (pc' := 557) (L' := #[.val (.int p0), .val (.int p1), .val (.int p2), .val (.int p3), .val (.int p4), .val (.int p5), .val (.int u1), .val (.int u2), .val (.int u5), .val (.ref ar6), .val (.ref ar13), .val (.ref ar27), .val (.ref ar37), .val (.int dd4), .val (.int dd5), .val (.int dd6), .val (.int dd7), .val (.ref gr), .val (.ref ob77), .val (.int u106), .val (.ref ar116), .val (.int (0 : Int32)), .val (.int (1 : Int32)), .val (.int (1 : Int32)), .val (.ref ar210), .val (.int (2 : Int32)), .val (.int (1 : Int32)), .unset]) cx st218 at_555 rfl rfl ?_
        refine E_iload (pc' := 559) cx st218 at_557 rfl rfl ?_
        refine E_if_eqN (pc' := 562) cx st218 at_559 rfl (by decide) ?_
        refine E_iload (pc' := 564) cx st218 at_562 rfl rfl ?_
        refine E_iconst (pc' := 565) cx st218 (1 : Int32) at_564 rfl rfl ?_
        refine E_icmp_leN (pc' := 568) cx st218 at_565 rfl (by decide) ?_
        refine E_aload (pc' := 570) cx st218 at_568 rfl rfl rfl ?_
        refine E_iconst (pc' := 571) cx st218 (1 : Int32) at_570 rfl rfl ?_
        refine E_callV (pc' := 574) (kc' := 13) (ks' := 39) (W := 0) (a := ob77) (argsL := [(.int (1 : Int32))]) cx st218 [] (rm8i1 l Z a0 hw ob77 sc (1 : Int32) (2 : Int32) yb2 h212 n0 Z212 kC G217 V214) X215 (hw _ (List.mem_of_getElem? (i := 46) rfl)) (hw _ (List.mem_of_getElem? (i := 47) rfl)) (hw _ (List.mem_of_getElem? (i := 49) rfl)) (hw _ (List.mem_of_getElem? (i := 48) rfl)) (hw _ (List.mem_of_getElem? (i := 12) rfl)) (hw _ (List.mem_of_getElem? (i := 50) rfl)) at_571 rfl rfl (lenOf pd_5 rfl) (Nat.le_of_eq rfl) (by decide) (by decide) (by decide) (by decide) (by decide) (by decide) (by decide) rfl ?_
        intro v219 T219 h219 st219 hq219
        obtain ⟨rfl, hh219⟩ := hq219
        rw [hh219] at st219
        refine E_aload (pc' := 576) cx st219 at_574 rfl rfl rfl ?_
        refine E_iconst (pc' := 577) cx st219 (1 : Int32) at_576 rfl rfl ?_
        refine E_iaload (pc' := 578) (x := (2 : Int32)) cx st219 V212p ⟨by decide, by decide⟩ rfl at_577 rfl ?_
        refine E_icmp_neN (pc' := 581) cx st219 at_578 rfl rfl ?_
        refine E_iconst (pc' := 582) cx st219 (1 : Int32) at_581 rfl rfl ?_
        refine E_goto (pc' := 586) cx st219 at_582 (by decide) (by decide) ?_
        refine E_istore (pc' := 588) (L' := #[.val (.int p0), .val (.int p1), .val (.int p2), .val (.int p3), .val (.int p4), .val (.int p5), .val (.int u1), .val (.int u2), .val (.int u5), .val (.ref ar6), .val (.ref ar13), .val (.ref ar27), .val (.ref ar37), .val (.int dd4), .val (.int dd5), .val (.int dd6), .val (.int dd7), .val (.ref gr), .val (.ref ob77), .val (.int u106), .val (.ref ar116), .val (.int (0 : Int32)), .val (.int (1 : Int32)), .val (.int (1 : Int32)), .val (.ref ar210), .val (.int (2 : Int32)), .val (.int (1 : Int32)), .unset]) cx st219 at_586 rfl rfl ?_
        refine E_iload (pc' := 590) cx st219 at_588 rfl rfl ?_
        refine E_if_eqN (pc' := 593) cx st219 at_590 rfl (by decide) ?_
        refine E_iload (pc' := 595) cx st219 at_593 rfl rfl ?_
        refine E_iconst (pc' := 596) cx st219 (2 : Int32) at_595 rfl rfl ?_
        refine E_icmp_leY (pc' := 619) cx st219 at_596 (by decide) (by decide) (by decide) ?_
        refine E_iloadN (pc' := 620) cx st219 at_619 rfl rfl ?_
        refine E_bipush (pc' := 622) cx st219 (12 : Int32) at_620 rfl rfl ?_
        refine E_iushr (pc' := 623) cx st219 at_622 rfl ?_
        refine E_iconst (pc' := 624) cx st219 (3 : Int32) at_623 rfl rfl ?_
        refine E_irem (pc' := 625) cx st219 at_624 (by decide) rfl ?_
        refine E_istore (pc' := 627) (L' := #[.val (.int p0), .val (.int p1), .val (.int p2), .val (.int p3), .val (.int p4), .val (.int p5), .val (.int u1), .val (.int u2), .val (.int u5), .val (.ref ar6), .val (.ref ar13), .val (.ref ar27), .val (.ref ar37), .val (.int dd4), .val (.int dd5), .val (.int dd6), .val (.int dd7), .val (.ref gr), .val (.ref ob77), .val (.int u106), .val (.ref ar116), .val (.int (0 : Int32)), .val (.int (1 : Int32)), .val (.int (1 : Int32)), .val (.ref ar210), .val (.int (2 : Int32)), .val (.int (1 : Int32)), .val (.int (((p0.toUInt32 >>> ((12 : Int32) &&& 31).toUInt32).toInt32) % (3 : Int32)))]) cx st219 at_625 rfl rfl ?_
        refine E_iload (pc' := 629) cx st219 at_627 rfl rfl ?_
        refine E_if_eqN (pc' := 632) cx st219 at_629 rfl (by decide) ?_
        refine E_aload (pc' := 634) cx st219 at_632 rfl rfl rfl ?_
        refine E_iload (pc' := 636) cx st219 at_634 rfl rfl ?_
        have G220 : Fld Z h212 ob77 "org/querne/sparql/SeedMerge" "seed" "[I" (.ref ar37) := ((((((((H2.ext E116).other W117 (Or.inl ne_ob77_ar116)).other W118 (Or.inl ne_ob77_ar116)).other W119 (Or.inl ne_ob77_ar116)).other W120 (Or.inl ne_ob77_ar116)).ext E210).other W211 (Or.inl ne_ob77_ar210)).other W212 (Or.inl ne_ob77_ar210))
        have G221 : Fld Z h212 ob77 "org/querne/sparql/SeedMerge" "slots" "[I" (.ref ar13) := ((((((((H1.ext E116).other W117 (Or.inl ne_ob77_ar116)).other W118 (Or.inl ne_ob77_ar116)).other W119 (Or.inl ne_ob77_ar116)).other W120 (Or.inl ne_ob77_ar116)).ext E210).other W211 (Or.inl ne_ob77_ar210)).other W212 (Or.inl ne_ob77_ar210))
        have V222 : Arv Z h212 ar13 ca13 .int (3 : Int32) [(.int t0), (.int t1), (.int t2)] (.int (0 : Int32)) := (((V121.ext E210).other W211 ne_ar13_ar210).other W212 ne_ar13_ar210)
        have V223 : Arv Z h212 ar37 ca37 .int (4 : Int32) [(.int dd4), (.int dd5), (.int dd6), (.int dd7)] (.int (0 : Int32)) := (((V202.ext E210).other W211 ne_ar37_ar210).other W212 ne_ar37_ar210)
        refine E_callV (pc' := 639) (kc' := 13) (ks' := 39) (W := 0) (a := ob77) (argsL := [(.int (((p0.toUInt32 >>> ((12 : Int32) &&& 31).toUInt32).toInt32) % (3 : Int32)))]) cx st219 [] (rm9 l Z a0 hw ob77 (((p0.toUInt32 >>> ((12 : Int32) &&& 31).toUInt32).toInt32) % (3 : Int32)) ar13 ar37 t0 t1 t2 dd4 dd5 dd6 dd7 h212 n0 Z212 ca13 ca37 G220 G221 V222 V223 hcol hxc) X215 (hw _ (List.mem_of_getElem? (i := 51) rfl)) (hw _ (List.mem_of_getElem? (i := 52) rfl)) (hw _ (List.mem_of_getElem? (i := 54) rfl)) (hw _ (List.mem_of_getElem? (i := 53) rfl)) (hw _ (List.mem_of_getElem? (i := 12) rfl)) (hw _ (List.mem_of_getElem? (i := 55) rfl)) at_636 rfl rfl (lenOf pd_5 rfl) (Nat.le_of_eq rfl) (by decide) (by decide) (by decide) (by decide) (by decide) (by decide) (by decide) rfl ?_
        intro v224 T224 h224 st224 hq224
        obtain ⟨rfl, hh224⟩ := hq224
        rw [hh224] at st224
        refine E_aload (pc' := 641) cx st224 at_639 rfl rfl rfl ?_
        refine E_aload (pc' := 643) cx st224 at_641 rfl rfl rfl ?_
        refine E_iload (pc' := 645) cx st224 at_643 rfl rfl ?_
        refine E_iaload (pc' := 646) (x := ([t0, t1, t2].getD (((p0.toUInt32 >>> ((12 : Int32) &&& 31).toUInt32).toInt32) % (3 : Int32)).toNatClampNeg 0)) cx st224 V222 hcol (getD_int [t0, t1, t2] _ 0) at_645 rfl ?_
        have V225 : Arv Z h212 ar116 ca116 .int (4 : Int32) [(.int dd4), (.int dd5), (.int dd6), (.int dd7)] (.int (0 : Int32)) := (((V120p.ext E210).other W211 ne_ar116_ar210).other W212 ne_ar116_ar210)
        refine E_iaload (pc' := 647) (x := ([dd4, dd5, dd6, dd7].getD ([t0, t1, t2].getD (((p0.toUInt32 >>> ((12 : Int32) &&& 31).toUInt32).toInt32) % (3 : Int32)).toNatClampNeg 0).toNatClampNeg 0)) cx st224 V225 hxc (getD_int [dd4, dd5, dd6, dd7] _ 0) at_646 rfl ?_
        refine E_icmp_neN (pc' := 650) cx st224 at_647 rfl rfl ?_
        refine E_iconst (pc' := 651) cx st224 (1 : Int32) at_650 rfl rfl ?_
        refine E_goto (pc' := 655) cx st224 at_651 (by decide) (by decide) ?_
        refine E_istore (pc' := 657) (L' := #[.val (.int p0), .val (.int p1), .val (.int p2), .val (.int p3), .val (.int p4), .val (.int p5), .val (.int u1), .val (.int u2), .val (.int u5), .val (.ref ar6), .val (.ref ar13), .val (.ref ar27), .val (.ref ar37), .val (.int dd4), .val (.int dd5), .val (.int dd6), .val (.int dd7), .val (.ref gr), .val (.ref ob77), .val (.int u106), .val (.ref ar116), .val (.int (0 : Int32)), .val (.int (1 : Int32)), .val (.int (1 : Int32)), .val (.ref ar210), .val (.int (2 : Int32)), .val (.int (1 : Int32)), .val (.int (((p0.toUInt32 >>> ((12 : Int32) &&& 31).toUInt32).toInt32) % (3 : Int32)))]) cx st224 at_655 rfl rfl ?_
        refine E_aload (pc' := 659) cx st224 at_657 rfl rfl rfl ?_
        have G226 : Fld Z h212 ob77 "org/querne/sparql/SeedMerge" "mergedCount" "I" (.int (0 : Int32)) := ((((((((H5.ext E116).other W117 (Or.inl ne_ob77_ar116)).other W118 (Or.inl ne_ob77_ar116)).other W119 (Or.inl ne_ob77_ar116)).other W120 (Or.inl ne_ob77_ar116)).ext E210).other W211 (Or.inl ne_ob77_ar210)).other W212 (Or.inl ne_ob77_ar210))
        refine E_callV (pc' := 662) (kc' := 13) (ks' := 39) (W := 0) (a := ob77) (argsL := []) cx st224 [] (rm10 l Z a0 hw ob77 h212 n0 Z212 g_ob77 X215 G226) X215 (hw _ (List.mem_of_getElem? (i := 56) rfl)) (hw _ (List.mem_of_getElem? (i := 57) rfl)) (hw _ (List.mem_of_getElem? (i := 59) rfl)) (hw _ (List.mem_of_getElem? (i := 58) rfl)) (hw _ (List.mem_of_getElem? (i := 12) rfl)) (hw _ (List.mem_of_getElem? (i := 60) rfl)) at_659 rfl rfl (lenOf pd_6 rfl) (Nat.le_of_eq rfl) (by decide) (by decide) (by decide) (by decide) (by decide) (by decide) (by decide) rfl ?_
        intro v227 T227 h227 st227 hq227
        obtain ⟨rfl, Ku⟩ := hq227
        have Z227 : n0 ≤ h227.size := Nat.le_trans Z212 Ku.1
        refine E_iload (pc' := 664) cx st227 at_662 rfl rfl ?_
        refine E_if_eqN (pc' := 667) cx st227 at_664 rfl (by decide) ?_
        refine E_aload (pc' := 669) cx st227 at_667 rfl rfl rfl ?_
        refine E_iconst (pc' := 670) cx st227 (0 : Int32) at_669 rfl rfl ?_
        have V228 : Arv Z h227 ar37 ca37 .int (4 : Int32) [(.int dd4), (.int dd5), (.int dd6), (.int dd7)] (.int (0 : Int32)) := (V223.keep Ku (ninS ne_ar37_ob77 nin0))
        refine E_iaload (pc' := 671) (x := dd4) cx st227 V228 ⟨by decide, by decide⟩ rfl at_670 rfl ?_
        refine E_iload (pc' := 673) cx st227 at_671 rfl rfl ?_
        refine E_icmp_neN (pc' := 676) cx st227 at_673 rfl rfl ?_
        refine E_aload (pc' := 678) cx st227 at_676 rfl rfl rfl ?_
        refine E_iconst (pc' := 679) cx st227 (1 : Int32) at_678 rfl rfl ?_
        refine E_iaload (pc' := 680) (x := dd5) cx st227 V228 ⟨by decide, by decide⟩ rfl at_679 rfl ?_
        refine E_iload (pc' := 682) cx st227 at_680 rfl rfl ?_
        refine E_icmp_neN (pc' := 685) cx st227 at_682 rfl rfl ?_
        refine E_aload (pc' := 687) cx st227 at_685 rfl rfl rfl ?_
        refine E_iconst (pc' := 688) cx st227 (2 : Int32) at_687 rfl rfl ?_
        refine E_iaload (pc' := 689) (x := dd6) cx st227 V228 ⟨by decide, by decide⟩ rfl at_688 rfl ?_
        refine E_iload (pc' := 691) cx st227 at_689 rfl rfl ?_
        refine E_icmp_neN (pc' := 694) cx st227 at_691 rfl rfl ?_
        refine E_aload (pc' := 696) cx st227 at_694 rfl rfl rfl ?_
        refine E_iconst (pc' := 697) cx st227 (3 : Int32) at_696 rfl rfl ?_
        refine E_iaload (pc' := 698) (x := dd7) cx st227 V228 ⟨by decide, by decide⟩ rfl at_697 rfl ?_
        refine E_iload (pc' := 700) cx st227 at_698 rfl rfl ?_
        refine E_icmp_neN (pc' := 703) cx st227 at_700 rfl rfl ?_
        refine E_iconst (pc' := 704) cx st227 (1 : Int32) at_703 rfl rfl ?_
        refine E_goto (pc' := 708) cx st227 at_704 (by decide) (by decide) ?_
        refine E_istore (pc' := 710) (L' := #[.val (.int p0), .val (.int p1), .val (.int p2), .val (.int p3), .val (.int p4), .val (.int p5), .val (.int u1), .val (.int u2), .val (.int u5), .val (.ref ar6), .val (.ref ar13), .val (.ref ar27), .val (.ref ar37), .val (.int dd4), .val (.int dd5), .val (.int dd6), .val (.int dd7), .val (.ref gr), .val (.ref ob77), .val (.int u106), .val (.ref ar116), .val (.int (0 : Int32)), .val (.int (1 : Int32)), .val (.int (1 : Int32)), .val (.ref ar210), .val (.int (2 : Int32)), .val (.int (1 : Int32)), .val (.int (((p0.toUInt32 >>> ((12 : Int32) &&& 31).toUInt32).toInt32) % (3 : Int32)))]) cx st227 at_708 rfl rfl ?_
        refine E_iload (pc' := 712) cx st227 at_710 rfl rfl ?_
        refine E_if_neY (pc' := 725) cx st227 at_712 (by decide) (by decide) (by decide) ?_
        refine E_iconst (pc' := 726) cx st227 (1 : Int32) at_725 rfl rfl ?_
        refine E_goto (pc' := 730) cx st227 at_726 (by decide) (by decide) ?_
        refine E_ireturn (t := .boolean) cx st227 at_730 rfl (by simp) rfl (by decide) (by decide) ?_
        exact rfl
  · refine E_icmp_eqN (pc' := 417) cx st120 at_414 rfl c122 ?_
    refine E_iconst (pc' := 418) cx st120 (1 : Int32) at_417 rfl rfl ?_
    refine E_goto (pc' := 422) cx st120 at_418 (by decide) (by decide) ?_
    refine E_istore (pc' := 424) (L' := #[.val (.int p0), .val (.int p1), .val (.int p2), .val (.int p3), .val (.int p4), .val (.int p5), .val (.int u1), .val (.int u2), .val (.int u5), .val (.ref ar6), .val (.ref ar13), .val (.ref ar27), .val (.ref ar37), .val (.int dd4), .val (.int dd5), .val (.int dd6), .val (.int dd7), .val (.ref gr), .val (.ref ob77), .val (.int u106), .val (.ref ar116), .val (.int (1 : Int32)), .unset, .unset, .unset, .unset, .unset, .unset]) cx st120 at_422 rfl rfl ?_
    refine E_aload (pc' := 426) cx st120 at_424 rfl rfl rfl ?_
    refine E_aload (pc' := 428) cx st120 at_426 rfl rfl rfl ?_
    refine E_iconst (pc' := 429) cx st120 (1 : Int32) at_428 rfl rfl ?_
    refine E_iaload (pc' := 430) (x := t1) cx st120 V121 ⟨by decide, by decide⟩ rfl at_429 rfl ?_
    refine E_iaload (pc' := 431) (x := ([dd4, dd5, dd6, dd7].getD t1.toNatClampNeg 0)) cx st120 V120p ht1 (getD_int [dd4, dd5, dd6, dd7] _ 0) at_430 rfl ?_
    refine E_iconst (pc' := 432) cx st120 (-1 : Int32) at_431 rfl rfl ?_
    by_cases c229 : ([dd4, dd5, dd6, dd7].getD t1.toNatClampNeg 0) = (-1 : Int32)
    · refine E_icmp_eqY (pc' := 439) cx st120 at_432 (by decide) (by decide) c229 ?_
      refine E_iconst (pc' := 440) cx st120 (0 : Int32) at_439 rfl rfl ?_
      refine E_istore (pc' := 442) (L' := #[.val (.int p0), .val (.int p1), .val (.int p2), .val (.int p3), .val (.int p4), .val (.int p5), .val (.int u1), .val (.int u2), .val (.int u5), .val (.ref ar6), .val (.ref ar13), .val (.ref ar27), .val (.ref ar37), .val (.int dd4), .val (.int dd5), .val (.int dd6), .val (.int dd7), .val (.ref gr), .val (.ref ob77), .val (.int u106), .val (.ref ar116), .val (.int (1 : Int32)), .val (.int (0 : Int32)), .unset, .unset, .unset, .unset, .unset]) cx st120 at_440 rfl rfl ?_
      refine E_aload (pc' := 444) cx st120 at_442 rfl rfl rfl ?_
      refine E_aload (pc' := 446) cx st120 at_444 rfl rfl rfl ?_
      refine E_iconst (pc' := 447) cx st120 (2 : Int32) at_446 rfl rfl ?_
      refine E_iaload (pc' := 448) (x := t2) cx st120 V121 ⟨by decide, by decide⟩ rfl at_447 rfl ?_
      refine E_iaload (pc' := 449) (x := ([dd4, dd5, dd6, dd7].getD t2.toNatClampNeg 0)) cx st120 V120p ht2 (getD_int [dd4, dd5, dd6, dd7] _ 0) at_448 rfl ?_
      refine E_iconst (pc' := 450) cx st120 (-1 : Int32) at_449 rfl rfl ?_
      by_cases c230 : ([dd4, dd5, dd6, dd7].getD t2.toNatClampNeg 0) = (-1 : Int32)
      · refine E_icmp_eqY (pc' := 457) cx st120 at_450 (by decide) (by decide) c230 ?_
        refine E_iconst (pc' := 458) cx st120 (0 : Int32) at_457 rfl rfl ?_
        refine E_istore (pc' := 460) (L' := #[.val (.int p0), .val (.int p1), .val (.int p2), .val (.int p3), .val (.int p4), .val (.int p5), .val (.int u1), .val (.int u2), .val (.int u5), .val (.ref ar6), .val (.ref ar13), .val (.ref ar27), .val (.ref ar37), .val (.int dd4), .val (.int dd5), .val (.int dd6), .val (.int dd7), .val (.ref gr), .val (.ref ob77), .val (.int u106), .val (.ref ar116), .val (.int (1 : Int32)), .val (.int (0 : Int32)), .val (.int (0 : Int32)), .unset, .unset, .unset, .unset]) cx st120 at_458 rfl rfl ?_
        refine E_iconst (pc' := 461) cx st120 (3 : Int32) at_460 rfl rfl ?_
        have V231 : Arv Z h120 ar27 ca27 .int (4 : Int32) (esm.map Value.int) (.int (0 : Int32)) := (((((V108.ext E116).other W117 ne_ar27_ar116).other W118 ne_ar27_ar116).other W119 ne_ar27_ar116).other W120 ne_ar27_ar116)
        have V232 : Arv Z h120 ar37 ca37 .int (4 : Int32) [(.int dd4), (.int dd5), (.int dd6), (.int dd7)] (.int (0 : Int32)) := (((((V109.ext E116).other W117 ne_ar37_ar116).other W118 ne_ar37_ar116).other W119 ne_ar37_ar116).other W120 ne_ar37_ar116)
        have V233 : Arv Z h120 gr cG (.array .int) (3 : Int32) [(.ref r0), (.ref r1), (.ref r2)] .null := (((((V110.ext E116).other W117 ne_gr_ar116).other W118 ne_gr_ar116).other W119 ne_gr_ar116).other W120 ne_gr_ar116)
        have V234 : Arv Z h120 r0 cR .int (1 : Int32) [(.int u53)] (.int (0 : Int32)) := (((((V111.ext E116).other W117 ne_r0_ar116).other W118 ne_r0_ar116).other W119 ne_r0_ar116).other W120 ne_r0_ar116)
        have V235 : Arv Z h120 r1 cR .int (1 : Int32) [(.int u60)] (.int (0 : Int32)) := (((((V112.ext E116).other W117 ne_r1_ar116).other W118 ne_r1_ar116).other W119 ne_r1_ar116).other W120 ne_r1_ar116)
        have V236 : Arv Z h120 r2 cR .int (1 : Int32) [(.int u68)] (.int (0 : Int32)) := (((((V113.ext E116).other W117 ne_r2_ar116).other W118 ne_r2_ar116).other W119 ne_r2_ar116).other W120 ne_r2_ar116)
        have X237 : Exa Z h120 ob77 "org/querne/sparql/SeedMerge" := (((((X114.ext E116).wr W117).wr W118).wr W119).wr W120)
        have V238 : Arv Z h120 sc kC .int (3 : Int32) [(.int yb0), (.int yb1), (.int yb2)] (.int (0 : Int32)) := (((((VCb.ext E116).other W117 ne_sc_ar116).other W118 ne_sc_ar116).other W119 ne_sc_ar116).other W120 ne_sc_ar116)
        have V239 : Arv Z h120 mg kM .int (3 : Int32) [(.int wm0), (.int wm1), (.int wm2)] (.int (0 : Int32)) := (((((V115.ext E116).other W117 ne_mg_ar116).other W118 ne_mg_ar116).other W119 ne_mg_ar116).other W120 ne_mg_ar116)
        refine E_newP (pc' := 463) (kc' := 13) (ks' := 39) (cap := 3) cx st120 (hw _ (List.mem_of_getElem? (i := 0) rfl)) at_461 (by decide) (by decide) (by decide) (by decide) (by decide) (by decide) (by decide) rfl (ad := "[I") (by decide) ?_
        intro T240 h240 ca240 ar240 eq240 st240 E240 V240 X240
        have g_ar240 : n0 ≤ ar240 := by rw [eq240]; exact Z120
        have ne_ar13_ar240 : ar13 ≠ ar240 := by rw [eq240]; exact Nat.ne_of_lt V121.lt
        have ne_ar27_ar240 : ar27 ≠ ar240 := by rw [eq240]; exact Nat.ne_of_lt V231.lt
        have ne_ar37_ar240 : ar37 ≠ ar240 := by rw [eq240]; exact Nat.ne_of_lt V232.lt
        have ne_gr_ar240 : gr ≠ ar240 := by rw [eq240]; exact Nat.ne_of_lt V233.lt
        have ne_r0_ar240 : r0 ≠ ar240 := by rw [eq240]; exact Nat.ne_of_lt V234.lt
        have ne_r1_ar240 : r1 ≠ ar240 := by rw [eq240]; exact Nat.ne_of_lt V235.lt
        have ne_r2_ar240 : r2 ≠ ar240 := by rw [eq240]; exact Nat.ne_of_lt V236.lt
        have ne_ob77_ar240 : ob77 ≠ ar240 := by rw [eq240]; exact Nat.ne_of_lt X237.lt
        have ne_sc_ar240 : sc ≠ ar240 := by rw [eq240]; exact Nat.ne_of_lt V238.lt
        have ne_mg_ar240 : mg ≠ ar240 := by rw [eq240]; exact Nat.ne_of_lt V239.lt
        have ne_ar116_ar240 : ar116 ≠ ar240 := by rw [eq240]; exact Nat.ne_of_lt V120p.lt
        have Z240 : n0 ≤ h240.size := Nat.le_trans Z120 E240.1
        have V240p : Arv Z h240 ar240 ca240 .int (3 : Int32) [(.int (0 : Int32)), (.int (0 : Int32)), (.int (0 : Int32))] (.int (0 : Int32)) := V240.pad (pad_rep [] (.int (0 : Int32)) 3)
        refine E_astore (pc' := 465) (L' := #[.val (.int p0), .val (.int p1), .val (.int p2), .val (.int p3), .val (.int p4), .val (.int p5), .val (.int u1), .val (.int u2), .val (.int u5), .val (.ref ar6), .val (.ref ar13), .val (.ref ar27), .val (.ref ar37), .val (.int dd4), .val (.int dd5), .val (.int dd6), .val (.int dd7), .val (.ref gr), .val (.ref ob77), .val (.int u106), .val (.ref ar116), .val (.int (1 : Int32)), .val (.int (0 : Int32)), .val (.int (0 : Int32)), .val (.ref ar240), .unset, .unset, .unset]) cx st240 at_463 rfl rfl rfl ?_
        refine E_iconst (pc' := 466) cx st240 (0 : Int32) at_465 rfl rfl ?_
        refine E_istore (pc' := 468) (L' := #[.val (.int p0), .val (.int p1), .val (.int p2), .val (.int p3), .val (.int p4), .val (.int p5), .val (.int u1), .val (.int u2), .val (.int u5), .val (.ref ar6), .val (.ref ar13), .val (.ref ar27), .val (.ref ar37), .val (.int dd4), .val (.int dd5), .val (.int dd6), .val (.int dd7), .val (.ref gr), .val (.ref ob77), .val (.int u106), .val (.ref ar116), .val (.int (1 : Int32)), .val (.int (0 : Int32)), .val (.int (0 : Int32)), .val (.ref ar240), .val (.int (0 : Int32)), .unset, .unset]) cx st240 at_466 rfl rfl ?_
        refine E_iload (pc' := 470) cx st240 at_468 rfl rfl ?_
        refine E_if_eqN (pc' := 473) cx st240 at_470 rfl (by decide) ?_
        refine E_aload (pc' := 475) cx st240 at_473 rfl rfl rfl ?_
        refine E_iload (pc' := 477) cx st240 at_475 rfl rfl ?_
        refine E_iconst (pc' := 478) cx st240 (0 : Int32) at_477 rfl rfl ?_
        refine E_iastore (pc' := 479) (i := 0) cx st240 V240p ⟨by decide, by decide⟩ rfl (Nat.le_of_ble_eq_true rfl) g_ar240 at_478 rfl ?_
        intro T241 h241 st241 W241 V241
        have Z241 : n0 ≤ h241.size := Nat.le_trans Z240 (Keep.of_wr W241).1
        have V241p : Arv Z h241 ar240 ca240 .int (3 : Int32) [(.int (0 : Int32)), (.int (0 : Int32)), (.int (0 : Int32))] (.int (0 : Int32)) := V241
        refine E_iinc (pc' := 482) (L' := #[.val (.int p0), .val (.int p1), .val (.int p2), .val (.int p3), .val (.int p4), .val (.int p5), .val (.int u1), .val (.int u2), .val (.int u5), .val (.ref ar6), .val (.ref ar13), .val (.ref ar27), .val (.ref ar37), .val (.int dd4), .val (.int dd5), .val (.int dd6), .val (.int dd7), .val (.ref gr), .val (.ref ob77), .val (.int u106), .val (.ref ar116), .val (.int (1 : Int32)), .val (.int (0 : Int32)), .val (.int (0 : Int32)), .val (.ref ar240), .val (.int (1 : Int32)), .unset, .unset]) cx st241 (1 : Int32) at_479 rfl rfl rfl rfl ?_
        refine E_iload (pc' := 484) cx st241 at_482 rfl rfl ?_
        refine E_if_eqY (pc' := 496) cx st241 at_484 (by decide) (by decide) rfl ?_
        refine E_iload (pc' := 498) cx st241 at_496 rfl rfl ?_
        refine E_if_eqY (pc' := 510) cx st241 at_498 (by decide) (by decide) rfl ?_
        refine E_aload (pc' := 512) cx st241 at_510 rfl rfl rfl ?_
        rw [decide_eq_false c122, decide_eq_true c229, decide_eq_true c230] at hnb hcb
        have G242 : Fld Z h241 ob77 "org/querne/sparql/SeedMerge" "seedColumnCount" "I" (.int nb) := (((((((H6.ext E116).other W117 (Or.inl ne_ob77_ar116)).other W118 (Or.inl ne_ob77_ar116)).other W119 (Or.inl ne_ob77_ar116)).other W120 (Or.inl ne_ob77_ar116)).ext E240).other W241 (Or.inl ne_ob77_ar240))
        have V243 : Arv Z h241 sc kC .int (3 : Int32) [(.int yb0), (.int yb1), (.int yb2)] (.int (0 : Int32)) := ((V238.ext E240).other W241 ne_sc_ar240)
        obtain rfl : nb = (1 : Int32) := hnb
        have hcb2 : yb0 = (0 : Int32) := by simpa [oc] using hcb
        obtain rfl := hcb2
        have X244 : Exa Z h241 ob77 "org/querne/sparql/SeedMerge" := ((X237.ext E240).wr W241)
        refine E_callV (pc' := 515) (kc' := 13) (ks' := 39) (W := 0) (a := ob77) (argsL := []) cx st241 [] (rm7 l Z a0 hw ob77 (1 : Int32) h241 n0 Z241 G242) X244 (hw _ (List.mem_of_getElem? (i := 41) rfl)) (hw _ (List.mem_of_getElem? (i := 42) rfl)) (hw _ (List.mem_of_getElem? (i := 44) rfl)) (hw _ (List.mem_of_getElem? (i := 43) rfl)) (hw _ (List.mem_of_getElem? (i := 12) rfl)) (hw _ (List.mem_of_getElem? (i := 45) rfl)) at_512 rfl rfl (lenOf pd_4 rfl) (Nat.le_of_eq rfl) (by decide) (by decide) (by decide) (by decide) (by decide) (by decide) (by decide) rfl ?_
        intro v245 T245 h245 st245 hq245
        obtain ⟨rfl, hh245⟩ := hq245
        rw [hh245] at st245
        refine E_iload (pc' := 517) cx st245 at_515 rfl rfl ?_
        refine E_icmp_neN (pc' := 520) cx st245 at_517 rfl rfl ?_
        refine E_iconst (pc' := 521) cx st245 (1 : Int32) at_520 rfl rfl ?_
        refine E_goto (pc' := 525) cx st245 at_521 (by decide) (by decide) ?_
        refine E_istore (pc' := 527) (L' := #[.val (.int p0), .val (.int p1), .val (.int p2), .val (.int p3), .val (.int p4), .val (.int p5), .val (.int u1), .val (.int u2), .val (.int u5), .val (.ref ar6), .val (.ref ar13), .val (.ref ar27), .val (.ref ar37), .val (.int dd4), .val (.int dd5), .val (.int dd6), .val (.int dd7), .val (.ref gr), .val (.ref ob77), .val (.int u106), .val (.ref ar116), .val (.int (1 : Int32)), .val (.int (0 : Int32)), .val (.int (0 : Int32)), .val (.ref ar240), .val (.int (1 : Int32)), .val (.int (1 : Int32)), .unset]) cx st245 at_525 rfl rfl ?_
        refine E_iload (pc' := 529) cx st245 at_527 rfl rfl ?_
        refine E_if_eqN (pc' := 532) cx st245 at_529 rfl (by decide) ?_
        refine E_iload (pc' := 534) cx st245 at_532 rfl rfl ?_
        refine E_if_leN (pc' := 537) cx st245 at_534 rfl (by decide) ?_
        refine E_aload (pc' := 539) cx st245 at_537 rfl rfl rfl ?_
        refine E_iconst (pc' := 540) cx st245 (0 : Int32) at_539 rfl rfl ?_
        have G246 : Fld Z h241 ob77 "org/querne/sparql/SeedMerge" "seedColumns" "[I" (.ref sc) := (((((((H3.ext E116).other W117 (Or.inl ne_ob77_ar116)).other W118 (Or.inl ne_ob77_ar116)).other W119 (Or.inl ne_ob77_ar116)).other W120 (Or.inl ne_ob77_ar116)).ext E240).other W241 (Or.inl ne_ob77_ar240))
        refine E_callV (pc' := 543) (kc' := 13) (ks' := 39) (W := 0) (a := ob77) (argsL := [(.int (0 : Int32))]) cx st245 [] (rm8i0 l Z a0 hw ob77 sc (0 : Int32) yb1 yb2 h241 n0 Z241 kC G246 V243) X244 (hw _ (List.mem_of_getElem? (i := 46) rfl)) (hw _ (List.mem_of_getElem? (i := 47) rfl)) (hw _ (List.mem_of_getElem? (i := 49) rfl)) (hw _ (List.mem_of_getElem? (i := 48) rfl)) (hw _ (List.mem_of_getElem? (i := 12) rfl)) (hw _ (List.mem_of_getElem? (i := 50) rfl)) at_540 rfl rfl (lenOf pd_5 rfl) (Nat.le_of_eq rfl) (by decide) (by decide) (by decide) (by decide) (by decide) (by decide) (by decide) rfl ?_
        intro v247 T247 h247 st247 hq247
        obtain ⟨rfl, hh247⟩ := hq247
        rw [hh247] at st247
        refine E_aload (pc' := 545) cx st247 at_543 rfl rfl rfl ?_
        refine E_iconst (pc' := 546) cx st247 (0 : Int32) at_545 rfl rfl ?_
        refine E_iaload (pc' := 547) (x := (0 : Int32)) cx st247 V241p ⟨by decide, by decide⟩ rfl at_546 rfl ?_
        refine E_icmp_neN (pc' := 550) cx st247 at_547 rfl rfl ?_
        refine E_iconst (pc' := 551) cx st247 (1 : Int32) at_550 rfl rfl ?_
        refine E_goto (pc' := 555) cx st247 at_551 (by decide) (by decide) ?_
        refine E_istore (pc' := 557) (L' := #[.val (.int p0), .val (.int p1), .val (.int p2), .val (.int p3), .val (.int p4), .val (.int p5), .val (.int u1), .val (.int u2), .val (.int u5), .val (.ref ar6), .val (.ref ar13), .val (.ref ar27), .val (.ref ar37), .val (.int dd4), .val (.int dd5), .val (.int dd6), .val (.int dd7), .val (.ref gr), .val (.ref ob77), .val (.int u106), .val (.ref ar116), .val (.int (1 : Int32)), .val (.int (0 : Int32)), .val (.int (0 : Int32)), .val (.ref ar240), .val (.int (1 : Int32)), .val (.int (1 : Int32)), .unset]) cx st247 at_555 rfl rfl ?_
        refine E_iload (pc' := 559) cx st247 at_557 rfl rfl ?_
        refine E_if_eqN (pc' := 562) cx st247 at_559 rfl (by decide) ?_
        refine E_iload (pc' := 564) cx st247 at_562 rfl rfl ?_
        refine E_iconst (pc' := 565) cx st247 (1 : Int32) at_564 rfl rfl ?_
        refine E_icmp_leY (pc' := 588) cx st247 at_565 (by decide) (by decide) (by decide) ?_
        refine E_iload (pc' := 590) cx st247 at_588 rfl rfl ?_
        refine E_if_eqN (pc' := 593) cx st247 at_590 rfl (by decide) ?_
        refine E_iload (pc' := 595) cx st247 at_593 rfl rfl ?_
        refine E_iconst (pc' := 596) cx st247 (2 : Int32) at_595 rfl rfl ?_
        refine E_icmp_leY (pc' := 619) cx st247 at_596 (by decide) (by decide) (by decide) ?_
        refine E_iloadN (pc' := 620) cx st247 at_619 rfl rfl ?_
        refine E_bipush (pc' := 622) cx st247 (12 : Int32) at_620 rfl rfl ?_
        refine E_iushr (pc' := 623) cx st247 at_622 rfl ?_
        refine E_iconst (pc' := 624) cx st247 (3 : Int32) at_623 rfl rfl ?_
        refine E_irem (pc' := 625) cx st247 at_624 (by decide) rfl ?_
        refine E_istore (pc' := 627) (L' := #[.val (.int p0), .val (.int p1), .val (.int p2), .val (.int p3), .val (.int p4), .val (.int p5), .val (.int u1), .val (.int u2), .val (.int u5), .val (.ref ar6), .val (.ref ar13), .val (.ref ar27), .val (.ref ar37), .val (.int dd4), .val (.int dd5), .val (.int dd6), .val (.int dd7), .val (.ref gr), .val (.ref ob77), .val (.int u106), .val (.ref ar116), .val (.int (1 : Int32)), .val (.int (0 : Int32)), .val (.int (0 : Int32)), .val (.ref ar240), .val (.int (1 : Int32)), .val (.int (1 : Int32)), .val (.int (((p0.toUInt32 >>> ((12 : Int32) &&& 31).toUInt32).toInt32) % (3 : Int32)))]) cx st247 at_625 rfl rfl ?_
        refine E_iload (pc' := 629) cx st247 at_627 rfl rfl ?_
        refine E_if_eqN (pc' := 632) cx st247 at_629 rfl (by decide) ?_
        refine E_aload (pc' := 634) cx st247 at_632 rfl rfl rfl ?_
        refine E_iload (pc' := 636) cx st247 at_634 rfl rfl ?_
        have G248 : Fld Z h241 ob77 "org/querne/sparql/SeedMerge" "seed" "[I" (.ref ar37) := (((((((H2.ext E116).other W117 (Or.inl ne_ob77_ar116)).other W118 (Or.inl ne_ob77_ar116)).other W119 (Or.inl ne_ob77_ar116)).other W120 (Or.inl ne_ob77_ar116)).ext E240).other W241 (Or.inl ne_ob77_ar240))
        have G249 : Fld Z h241 ob77 "org/querne/sparql/SeedMerge" "slots" "[I" (.ref ar13) := (((((((H1.ext E116).other W117 (Or.inl ne_ob77_ar116)).other W118 (Or.inl ne_ob77_ar116)).other W119 (Or.inl ne_ob77_ar116)).other W120 (Or.inl ne_ob77_ar116)).ext E240).other W241 (Or.inl ne_ob77_ar240))
        have V250 : Arv Z h241 ar13 ca13 .int (3 : Int32) [(.int t0), (.int t1), (.int t2)] (.int (0 : Int32)) := ((V121.ext E240).other W241 ne_ar13_ar240)
        have V251 : Arv Z h241 ar37 ca37 .int (4 : Int32) [(.int dd4), (.int dd5), (.int dd6), (.int dd7)] (.int (0 : Int32)) := ((V232.ext E240).other W241 ne_ar37_ar240)
        refine E_callV (pc' := 639) (kc' := 13) (ks' := 39) (W := 0) (a := ob77) (argsL := [(.int (((p0.toUInt32 >>> ((12 : Int32) &&& 31).toUInt32).toInt32) % (3 : Int32)))]) cx st247 [] (rm9 l Z a0 hw ob77 (((p0.toUInt32 >>> ((12 : Int32) &&& 31).toUInt32).toInt32) % (3 : Int32)) ar13 ar37 t0 t1 t2 dd4 dd5 dd6 dd7 h241 n0 Z241 ca13 ca37 G248 G249 V250 V251 hcol hxc) X244 (hw _ (List.mem_of_getElem? (i := 51) rfl)) (hw _ (List.mem_of_getElem? (i := 52) rfl)) (hw _ (List.mem_of_getElem? (i := 54) rfl)) (hw _ (List.mem_of_getElem? (i := 53) rfl)) (hw _ (List.mem_of_getElem? (i := 12) rfl)) (hw _ (List.mem_of_getElem? (i := 55) rfl)) at_636 rfl rfl (lenOf pd_5 rfl) (Nat.le_of_eq rfl) (by decide) (by decide) (by decide) (by decide) (by decide) (by decide) (by decide) rfl ?_
        intro v252 T252 h252 st252 hq252
        obtain ⟨rfl, hh252⟩ := hq252
        rw [hh252] at st252
        refine E_aload (pc' := 641) cx st252 at_639 rfl rfl rfl ?_
        refine E_aload (pc' := 643) cx st252 at_641 rfl rfl rfl ?_
        refine E_iload (pc' := 645) cx st252 at_643 rfl rfl ?_
        refine E_iaload (pc' := 646) (x := ([t0, t1, t2].getD (((p0.toUInt32 >>> ((12 : Int32) &&& 31).toUInt32).toInt32) % (3 : Int32)).toNatClampNeg 0)) cx st252 V250 hcol (getD_int [t0, t1, t2] _ 0) at_645 rfl ?_
        have V253 : Arv Z h241 ar116 ca116 .int (4 : Int32) [(.int dd4), (.int dd5), (.int dd6), (.int dd7)] (.int (0 : Int32)) := ((V120p.ext E240).other W241 ne_ar116_ar240)
        refine E_iaload (pc' := 647) (x := ([dd4, dd5, dd6, dd7].getD ([t0, t1, t2].getD (((p0.toUInt32 >>> ((12 : Int32) &&& 31).toUInt32).toInt32) % (3 : Int32)).toNatClampNeg 0).toNatClampNeg 0)) cx st252 V253 hxc (getD_int [dd4, dd5, dd6, dd7] _ 0) at_646 rfl ?_
        refine E_icmp_neN (pc' := 650) cx st252 at_647 rfl rfl ?_
        refine E_iconst (pc' := 651) cx st252 (1 : Int32) at_650 rfl rfl ?_
        refine E_goto (pc' := 655) cx st252 at_651 (by decide) (by decide) ?_
        refine E_istore (pc' := 657) (L' := #[.val (.int p0), .val (.int p1), .val (.int p2), .val (.int p3), .val (.int p4), .val (.int p5), .val (.int u1), .val (.int u2), .val (.int u5), .val (.ref ar6), .val (.ref ar13), .val (.ref ar27), .val (.ref ar37), .val (.int dd4), .val (.int dd5), .val (.int dd6), .val (.int dd7), .val (.ref gr), .val (.ref ob77), .val (.int u106), .val (.ref ar116), .val (.int (1 : Int32)), .val (.int (0 : Int32)), .val (.int (0 : Int32)), .val (.ref ar240), .val (.int (1 : Int32)), .val (.int (1 : Int32)), .val (.int (((p0.toUInt32 >>> ((12 : Int32) &&& 31).toUInt32).toInt32) % (3 : Int32)))]) cx st252 at_655 rfl rfl ?_
        refine E_aload (pc' := 659) cx st252 at_657 rfl rfl rfl ?_
        have G254 : Fld Z h241 ob77 "org/querne/sparql/SeedMerge" "mergedCount" "I" (.int (0 : Int32)) := (((((((H5.ext E116).other W117 (Or.inl ne_ob77_ar116)).other W118 (Or.inl ne_ob77_ar116)).other W119 (Or.inl ne_ob77_ar116)).other W120 (Or.inl ne_ob77_ar116)).ext E240).other W241 (Or.inl ne_ob77_ar240))
        refine E_callV (pc' := 662) (kc' := 13) (ks' := 39) (W := 0) (a := ob77) (argsL := []) cx st252 [] (rm10 l Z a0 hw ob77 h241 n0 Z241 g_ob77 X244 G254) X244 (hw _ (List.mem_of_getElem? (i := 56) rfl)) (hw _ (List.mem_of_getElem? (i := 57) rfl)) (hw _ (List.mem_of_getElem? (i := 59) rfl)) (hw _ (List.mem_of_getElem? (i := 58) rfl)) (hw _ (List.mem_of_getElem? (i := 12) rfl)) (hw _ (List.mem_of_getElem? (i := 60) rfl)) at_659 rfl rfl (lenOf pd_6 rfl) (Nat.le_of_eq rfl) (by decide) (by decide) (by decide) (by decide) (by decide) (by decide) (by decide) rfl ?_
        intro v255 T255 h255 st255 hq255
        obtain ⟨rfl, Ku⟩ := hq255
        have Z255 : n0 ≤ h255.size := Nat.le_trans Z241 Ku.1
        refine E_iload (pc' := 664) cx st255 at_662 rfl rfl ?_
        refine E_if_eqN (pc' := 667) cx st255 at_664 rfl (by decide) ?_
        refine E_aload (pc' := 669) cx st255 at_667 rfl rfl rfl ?_
        refine E_iconst (pc' := 670) cx st255 (0 : Int32) at_669 rfl rfl ?_
        have V256 : Arv Z h255 ar37 ca37 .int (4 : Int32) [(.int dd4), (.int dd5), (.int dd6), (.int dd7)] (.int (0 : Int32)) := (V251.keep Ku (ninS ne_ar37_ob77 nin0))
        refine E_iaload (pc' := 671) (x := dd4) cx st255 V256 ⟨by decide, by decide⟩ rfl at_670 rfl ?_
        refine E_iload (pc' := 673) cx st255 at_671 rfl rfl ?_
        refine E_icmp_neN (pc' := 676) cx st255 at_673 rfl rfl ?_
        refine E_aload (pc' := 678) cx st255 at_676 rfl rfl rfl ?_
        refine E_iconst (pc' := 679) cx st255 (1 : Int32) at_678 rfl rfl ?_
        refine E_iaload (pc' := 680) (x := dd5) cx st255 V256 ⟨by decide, by decide⟩ rfl at_679 rfl ?_
        refine E_iload (pc' := 682) cx st255 at_680 rfl rfl ?_
        refine E_icmp_neN (pc' := 685) cx st255 at_682 rfl rfl ?_
        refine E_aload (pc' := 687) cx st255 at_685 rfl rfl rfl ?_
        refine E_iconst (pc' := 688) cx st255 (2 : Int32) at_687 rfl rfl ?_
        refine E_iaload (pc' := 689) (x := dd6) cx st255 V256 ⟨by decide, by decide⟩ rfl at_688 rfl ?_
        refine E_iload (pc' := 691) cx st255 at_689 rfl rfl ?_
        refine E_icmp_neN (pc' := 694) cx st255 at_691 rfl rfl ?_
        refine E_aload (pc' := 696) cx st255 at_694 rfl rfl rfl ?_
        refine E_iconst (pc' := 697) cx st255 (3 : Int32) at_696 rfl rfl ?_
        refine E_iaload (pc' := 698) (x := dd7) cx st255 V256 ⟨by decide, by decide⟩ rfl at_697 rfl ?_
        refine E_iload (pc' := 700) cx st255 at_698 rfl rfl ?_
        refine E_icmp_neN (pc' := 703) cx st255 at_700 rfl rfl ?_
        refine E_iconst (pc' := 704) cx st255 (1 : Int32) at_703 rfl rfl ?_
        refine E_goto (pc' := 708) cx st255 at_704 (by decide) (by decide) ?_
        refine E_istore (pc' := 710) (L' := #[.val (.int p0), .val (.int p1), .val (.int p2), .val (.int p3), .val (.int p4), .val (.int p5), .val (.int u1), .val (.int u2), .val (.int u5), .val (.ref ar6), .val (.ref ar13), .val (.ref ar27), .val (.ref ar37), .val (.int dd4), .val (.int dd5), .val (.int dd6), .val (.int dd7), .val (.ref gr), .val (.ref ob77), .val (.int u106), .val (.ref ar116), .val (.int (1 : Int32)), .val (.int (0 : Int32)), .val (.int (0 : Int32)), .val (.ref ar240), .val (.int (1 : Int32)), .val (.int (1 : Int32)), .val (.int (((p0.toUInt32 >>> ((12 : Int32) &&& 31).toUInt32).toInt32) % (3 : Int32)))]) cx st255 at_708 rfl rfl ?_
        refine E_iload (pc' := 712) cx st255 at_710 rfl rfl ?_
        refine E_if_neY (pc' := 725) cx st255 at_712 (by decide) (by decide) (by decide) ?_
        refine E_iconst (pc' := 726) cx st255 (1 : Int32) at_725 rfl rfl ?_
        refine E_goto (pc' := 730) cx st255 at_726 (by decide) (by decide) ?_
        refine E_ireturn (t := .boolean) cx st255 at_730 rfl (by simp) rfl (by decide) (by decide) ?_
        exact rfl
      · refine E_icmp_eqN (pc' := 453) cx st120 at_450 rfl c230 ?_
        refine E_iconst (pc' := 454) cx st120 (1 : Int32) at_453 rfl rfl ?_
        refine E_goto (pc' := 458) cx st120 at_454 (by decide) (by decide) ?_
        refine E_istore (pc' := 460) (L' := #[.val (.int p0), .val (.int p1), .val (.int p2), .val (.int p3), .val (.int p4), .val (.int p5), .val (.int u1), .val (.int u2), .val (.int u5), .val (.ref ar6), .val (.ref ar13), .val (.ref ar27), .val (.ref ar37), .val (.int dd4), .val (.int dd5), .val (.int dd6), .val (.int dd7), .val (.ref gr), .val (.ref ob77), .val (.int u106), .val (.ref ar116), .val (.int (1 : Int32)), .val (.int (0 : Int32)), .val (.int (1 : Int32)), .unset, .unset, .unset, .unset]) cx st120 at_458 rfl rfl ?_
        refine E_iconst (pc' := 461) cx st120 (3 : Int32) at_460 rfl rfl ?_
        have V257 : Arv Z h120 ar27 ca27 .int (4 : Int32) (esm.map Value.int) (.int (0 : Int32)) := (((((V108.ext E116).other W117 ne_ar27_ar116).other W118 ne_ar27_ar116).other W119 ne_ar27_ar116).other W120 ne_ar27_ar116)
        have V258 : Arv Z h120 ar37 ca37 .int (4 : Int32) [(.int dd4), (.int dd5), (.int dd6), (.int dd7)] (.int (0 : Int32)) := (((((V109.ext E116).other W117 ne_ar37_ar116).other W118 ne_ar37_ar116).other W119 ne_ar37_ar116).other W120 ne_ar37_ar116)
        have V259 : Arv Z h120 gr cG (.array .int) (3 : Int32) [(.ref r0), (.ref r1), (.ref r2)] .null := (((((V110.ext E116).other W117 ne_gr_ar116).other W118 ne_gr_ar116).other W119 ne_gr_ar116).other W120 ne_gr_ar116)
        have V260 : Arv Z h120 r0 cR .int (1 : Int32) [(.int u53)] (.int (0 : Int32)) := (((((V111.ext E116).other W117 ne_r0_ar116).other W118 ne_r0_ar116).other W119 ne_r0_ar116).other W120 ne_r0_ar116)
        have V261 : Arv Z h120 r1 cR .int (1 : Int32) [(.int u60)] (.int (0 : Int32)) := (((((V112.ext E116).other W117 ne_r1_ar116).other W118 ne_r1_ar116).other W119 ne_r1_ar116).other W120 ne_r1_ar116)
        have V262 : Arv Z h120 r2 cR .int (1 : Int32) [(.int u68)] (.int (0 : Int32)) := (((((V113.ext E116).other W117 ne_r2_ar116).other W118 ne_r2_ar116).other W119 ne_r2_ar116).other W120 ne_r2_ar116)
        have X263 : Exa Z h120 ob77 "org/querne/sparql/SeedMerge" := (((((X114.ext E116).wr W117).wr W118).wr W119).wr W120)
        have V264 : Arv Z h120 sc kC .int (3 : Int32) [(.int yb0), (.int yb1), (.int yb2)] (.int (0 : Int32)) := (((((VCb.ext E116).other W117 ne_sc_ar116).other W118 ne_sc_ar116).other W119 ne_sc_ar116).other W120 ne_sc_ar116)
        have V265 : Arv Z h120 mg kM .int (3 : Int32) [(.int wm0), (.int wm1), (.int wm2)] (.int (0 : Int32)) := (((((V115.ext E116).other W117 ne_mg_ar116).other W118 ne_mg_ar116).other W119 ne_mg_ar116).other W120 ne_mg_ar116)
        refine E_newP (pc' := 463) (kc' := 13) (ks' := 39) (cap := 3) cx st120 (hw _ (List.mem_of_getElem? (i := 0) rfl)) at_461 (by decide) (by decide) (by decide) (by decide) (by decide) (by decide) (by decide) rfl (ad := "[I") (by decide) ?_
        intro T266 h266 ca266 ar266 eq266 st266 E266 V266 X266
        have g_ar266 : n0 ≤ ar266 := by rw [eq266]; exact Z120
        have ne_ar13_ar266 : ar13 ≠ ar266 := by rw [eq266]; exact Nat.ne_of_lt V121.lt
        have ne_ar27_ar266 : ar27 ≠ ar266 := by rw [eq266]; exact Nat.ne_of_lt V257.lt
        have ne_ar37_ar266 : ar37 ≠ ar266 := by rw [eq266]; exact Nat.ne_of_lt V258.lt
        have ne_gr_ar266 : gr ≠ ar266 := by rw [eq266]; exact Nat.ne_of_lt V259.lt
        have ne_r0_ar266 : r0 ≠ ar266 := by rw [eq266]; exact Nat.ne_of_lt V260.lt
        have ne_r1_ar266 : r1 ≠ ar266 := by rw [eq266]; exact Nat.ne_of_lt V261.lt
        have ne_r2_ar266 : r2 ≠ ar266 := by rw [eq266]; exact Nat.ne_of_lt V262.lt
        have ne_ob77_ar266 : ob77 ≠ ar266 := by rw [eq266]; exact Nat.ne_of_lt X263.lt
        have ne_sc_ar266 : sc ≠ ar266 := by rw [eq266]; exact Nat.ne_of_lt V264.lt
        have ne_mg_ar266 : mg ≠ ar266 := by rw [eq266]; exact Nat.ne_of_lt V265.lt
        have ne_ar116_ar266 : ar116 ≠ ar266 := by rw [eq266]; exact Nat.ne_of_lt V120p.lt
        have Z266 : n0 ≤ h266.size := Nat.le_trans Z120 E266.1
        have V266p : Arv Z h266 ar266 ca266 .int (3 : Int32) [(.int (0 : Int32)), (.int (0 : Int32)), (.int (0 : Int32))] (.int (0 : Int32)) := V266.pad (pad_rep [] (.int (0 : Int32)) 3)
        refine E_astore (pc' := 465) (L' := #[.val (.int p0), .val (.int p1), .val (.int p2), .val (.int p3), .val (.int p4), .val (.int p5), .val (.int u1), .val (.int u2), .val (.int u5), .val (.ref ar6), .val (.ref ar13), .val (.ref ar27), .val (.ref ar37), .val (.int dd4), .val (.int dd5), .val (.int dd6), .val (.int dd7), .val (.ref gr), .val (.ref ob77), .val (.int u106), .val (.ref ar116), .val (.int (1 : Int32)), .val (.int (0 : Int32)), .val (.int (1 : Int32)), .val (.ref ar266), .unset, .unset, .unset]) cx st266 at_463 rfl rfl rfl ?_
        refine E_iconst (pc' := 466) cx st266 (0 : Int32) at_465 rfl rfl ?_
        refine E_istore (pc' := 468) (L' := #[.val (.int p0), .val (.int p1), .val (.int p2), .val (.int p3), .val (.int p4), .val (.int p5), .val (.int u1), .val (.int u2), .val (.int u5), .val (.ref ar6), .val (.ref ar13), .val (.ref ar27), .val (.ref ar37), .val (.int dd4), .val (.int dd5), .val (.int dd6), .val (.int dd7), .val (.ref gr), .val (.ref ob77), .val (.int u106), .val (.ref ar116), .val (.int (1 : Int32)), .val (.int (0 : Int32)), .val (.int (1 : Int32)), .val (.ref ar266), .val (.int (0 : Int32)), .unset, .unset]) cx st266 at_466 rfl rfl ?_
        refine E_iload (pc' := 470) cx st266 at_468 rfl rfl ?_
        refine E_if_eqN (pc' := 473) cx st266 at_470 rfl (by decide) ?_
        refine E_aload (pc' := 475) cx st266 at_473 rfl rfl rfl ?_
        refine E_iload (pc' := 477) cx st266 at_475 rfl rfl ?_
        refine E_iconst (pc' := 478) cx st266 (0 : Int32) at_477 rfl rfl ?_
        refine E_iastore (pc' := 479) (i := 0) cx st266 V266p ⟨by decide, by decide⟩ rfl (Nat.le_of_ble_eq_true rfl) g_ar266 at_478 rfl ?_
        intro T267 h267 st267 W267 V267
        have Z267 : n0 ≤ h267.size := Nat.le_trans Z266 (Keep.of_wr W267).1
        have V267p : Arv Z h267 ar266 ca266 .int (3 : Int32) [(.int (0 : Int32)), (.int (0 : Int32)), (.int (0 : Int32))] (.int (0 : Int32)) := V267
        refine E_iinc (pc' := 482) (L' := #[.val (.int p0), .val (.int p1), .val (.int p2), .val (.int p3), .val (.int p4), .val (.int p5), .val (.int u1), .val (.int u2), .val (.int u5), .val (.ref ar6), .val (.ref ar13), .val (.ref ar27), .val (.ref ar37), .val (.int dd4), .val (.int dd5), .val (.int dd6), .val (.int dd7), .val (.ref gr), .val (.ref ob77), .val (.int u106), .val (.ref ar116), .val (.int (1 : Int32)), .val (.int (0 : Int32)), .val (.int (1 : Int32)), .val (.ref ar266), .val (.int (1 : Int32)), .unset, .unset]) cx st267 (1 : Int32) at_479 rfl rfl rfl rfl ?_
        refine E_iload (pc' := 484) cx st267 at_482 rfl rfl ?_
        refine E_if_eqY (pc' := 496) cx st267 at_484 (by decide) (by decide) rfl ?_
        refine E_iload (pc' := 498) cx st267 at_496 rfl rfl ?_
        refine E_if_eqN (pc' := 501) cx st267 at_498 rfl (by decide) ?_
        refine E_aload (pc' := 503) cx st267 at_501 rfl rfl rfl ?_
        refine E_iload (pc' := 505) cx st267 at_503 rfl rfl ?_
        refine E_iconst (pc' := 506) cx st267 (2 : Int32) at_505 rfl rfl ?_
        refine E_iastore (pc' := 507) (i := 1) cx st267 V267p ⟨by decide, by decide⟩ rfl (Nat.le_of_ble_eq_true rfl) g_ar266 at_506 rfl ?_
        intro T268 h268 st268 W268 V268
        have Z268 : n0 ≤ h268.size := Nat.le_trans Z267 (Keep.of_wr W268).1
        have V268p : Arv Z h268 ar266 ca266 .int (3 : Int32) [(.int (0 : Int32)), (.int (2 : Int32)), (.int (0 : Int32))] (.int (0 : Int32)) := V268
        refine E_iinc (pc' := 510) (L' := #[.val (.int p0), .val (.int p1), .val (.int p2), .val (.int p3), .val (.int p4), .val (.int p5), .val (.int u1), .val (.int u2), .val (.int u5), .val (.ref ar6), .val (.ref ar13), .val (.ref ar27), .val (.ref ar37), .val (.int dd4), .val (.int dd5), .val (.int dd6), .val (.int dd7), .val (.ref gr), .val (.ref ob77), .val (.int u106), .val (.ref ar116), .val (.int (1 : Int32)), .val (.int (0 : Int32)), .val (.int (1 : Int32)), .val (.ref ar266), .val (.int (2 : Int32)), .unset, .unset]) cx st268 (1 : Int32) at_507 rfl rfl rfl rfl ?_
        refine E_aload (pc' := 512) cx st268 at_510 rfl rfl rfl ?_
        rw [decide_eq_false c122, decide_eq_true c229, decide_eq_false c230] at hnb hcb
        have G269 : Fld Z h268 ob77 "org/querne/sparql/SeedMerge" "seedColumnCount" "I" (.int nb) := ((((((((H6.ext E116).other W117 (Or.inl ne_ob77_ar116)).other W118 (Or.inl ne_ob77_ar116)).other W119 (Or.inl ne_ob77_ar116)).other W120 (Or.inl ne_ob77_ar116)).ext E266).other W267 (Or.inl ne_ob77_ar266)).other W268 (Or.inl ne_ob77_ar266))
        have V270 : Arv Z h268 sc kC .int (3 : Int32) [(.int yb0), (.int yb1), (.int yb2)] (.int (0 : Int32)) := (((V264.ext E266).other W267 ne_sc_ar266).other W268 ne_sc_ar266)
        obtain rfl : nb = (2 : Int32) := hnb
        have hcb2 : yb0 = (0 : Int32) ∧ yb1 = (2 : Int32) := by simpa [oc] using hcb
        obtain ⟨rfl, rfl⟩ := hcb2
        have X271 : Exa Z h268 ob77 "org/querne/sparql/SeedMerge" := (((X263.ext E266).wr W267).wr W268)
        refine E_callV (pc' := 515) (kc' := 13) (ks' := 39) (W := 0) (a := ob77) (argsL := []) cx st268 [] (rm7 l Z a0 hw ob77 (2 : Int32) h268 n0 Z268 G269) X271 (hw _ (List.mem_of_getElem? (i := 41) rfl)) (hw _ (List.mem_of_getElem? (i := 42) rfl)) (hw _ (List.mem_of_getElem? (i := 44) rfl)) (hw _ (List.mem_of_getElem? (i := 43) rfl)) (hw _ (List.mem_of_getElem? (i := 12) rfl)) (hw _ (List.mem_of_getElem? (i := 45) rfl)) at_512 rfl rfl (lenOf pd_4 rfl) (Nat.le_of_eq rfl) (by decide) (by decide) (by decide) (by decide) (by decide) (by decide) (by decide) rfl ?_
        intro v272 T272 h272 st272 hq272
        obtain ⟨rfl, hh272⟩ := hq272
        rw [hh272] at st272
        refine E_iload (pc' := 517) cx st272 at_515 rfl rfl ?_
        refine E_icmp_neN (pc' := 520) cx st272 at_517 rfl rfl ?_
        refine E_iconst (pc' := 521) cx st272 (1 : Int32) at_520 rfl rfl ?_
        refine E_goto (pc' := 525) cx st272 at_521 (by decide) (by decide) ?_
        refine E_istore (pc' := 527) (L' := #[.val (.int p0), .val (.int p1), .val (.int p2), .val (.int p3), .val (.int p4), .val (.int p5), .val (.int u1), .val (.int u2), .val (.int u5), .val (.ref ar6), .val (.ref ar13), .val (.ref ar27), .val (.ref ar37), .val (.int dd4), .val (.int dd5), .val (.int dd6), .val (.int dd7), .val (.ref gr), .val (.ref ob77), .val (.int u106), .val (.ref ar116), .val (.int (1 : Int32)), .val (.int (0 : Int32)), .val (.int (1 : Int32)), .val (.ref ar266), .val (.int (2 : Int32)), .val (.int (1 : Int32)), .unset]) cx st272 at_525 rfl rfl ?_
        refine E_iload (pc' := 529) cx st272 at_527 rfl rfl ?_
        refine E_if_eqN (pc' := 532) cx st272 at_529 rfl (by decide) ?_
        refine E_iload (pc' := 534) cx st272 at_532 rfl rfl ?_
        refine E_if_leN (pc' := 537) cx st272 at_534 rfl (by decide) ?_
        refine E_aload (pc' := 539) cx st272 at_537 rfl rfl rfl ?_
        refine E_iconst (pc' := 540) cx st272 (0 : Int32) at_539 rfl rfl ?_
        have G273 : Fld Z h268 ob77 "org/querne/sparql/SeedMerge" "seedColumns" "[I" (.ref sc) := ((((((((H3.ext E116).other W117 (Or.inl ne_ob77_ar116)).other W118 (Or.inl ne_ob77_ar116)).other W119 (Or.inl ne_ob77_ar116)).other W120 (Or.inl ne_ob77_ar116)).ext E266).other W267 (Or.inl ne_ob77_ar266)).other W268 (Or.inl ne_ob77_ar266))
        refine E_callV (pc' := 543) (kc' := 13) (ks' := 39) (W := 0) (a := ob77) (argsL := [(.int (0 : Int32))]) cx st272 [] (rm8i0 l Z a0 hw ob77 sc (0 : Int32) (2 : Int32) yb2 h268 n0 Z268 kC G273 V270) X271 (hw _ (List.mem_of_getElem? (i := 46) rfl)) (hw _ (List.mem_of_getElem? (i := 47) rfl)) (hw _ (List.mem_of_getElem? (i := 49) rfl)) (hw _ (List.mem_of_getElem? (i := 48) rfl)) (hw _ (List.mem_of_getElem? (i := 12) rfl)) (hw _ (List.mem_of_getElem? (i := 50) rfl)) at_540 rfl rfl (lenOf pd_5 rfl) (Nat.le_of_eq rfl) (by decide) (by decide) (by decide) (by decide) (by decide) (by decide) (by decide) rfl ?_
        intro v274 T274 h274 st274 hq274
        obtain ⟨rfl, hh274⟩ := hq274
        rw [hh274] at st274
        refine E_aload (pc' := 545) cx st274 at_543 rfl rfl rfl ?_
        refine E_iconst (pc' := 546) cx st274 (0 : Int32) at_545 rfl rfl ?_
        refine E_iaload (pc' := 547) (x := (0 : Int32)) cx st274 V268p ⟨by decide, by decide⟩ rfl at_546 rfl ?_
        refine E_icmp_neN (pc' := 550) cx st274 at_547 rfl rfl ?_
        refine E_iconst (pc' := 551) cx st274 (1 : Int32) at_550 rfl rfl ?_
        refine E_goto (pc' := 555) cx st274 at_551 (by decide) (by decide) ?_
        refine E_istore (pc' := 557) (L' := #[.val (.int p0), .val (.int p1), .val (.int p2), .val (.int p3), .val (.int p4), .val (.int p5), .val (.int u1), .val (.int u2), .val (.int u5), .val (.ref ar6), .val (.ref ar13), .val (.ref ar27), .val (.ref ar37), .val (.int dd4), .val (.int dd5), .val (.int dd6), .val (.int dd7), .val (.ref gr), .val (.ref ob77), .val (.int u106), .val (.ref ar116), .val (.int (1 : Int32)), .val (.int (0 : Int32)), .val (.int (1 : Int32)), .val (.ref ar266), .val (.int (2 : Int32)), .val (.int (1 : Int32)), .unset]) cx st274 at_555 rfl rfl ?_
        refine E_iload (pc' := 559) cx st274 at_557 rfl rfl ?_
        refine E_if_eqN (pc' := 562) cx st274 at_559 rfl (by decide) ?_
        refine E_iload (pc' := 564) cx st274 at_562 rfl rfl ?_
        refine E_iconst (pc' := 565) cx st274 (1 : Int32) at_564 rfl rfl ?_
        refine E_icmp_leN (pc' := 568) cx st274 at_565 rfl (by decide) ?_
        refine E_aload (pc' := 570) cx st274 at_568 rfl rfl rfl ?_
        refine E_iconst (pc' := 571) cx st274 (1 : Int32) at_570 rfl rfl ?_
        refine E_callV (pc' := 574) (kc' := 13) (ks' := 39) (W := 0) (a := ob77) (argsL := [(.int (1 : Int32))]) cx st274 [] (rm8i1 l Z a0 hw ob77 sc (0 : Int32) (2 : Int32) yb2 h268 n0 Z268 kC G273 V270) X271 (hw _ (List.mem_of_getElem? (i := 46) rfl)) (hw _ (List.mem_of_getElem? (i := 47) rfl)) (hw _ (List.mem_of_getElem? (i := 49) rfl)) (hw _ (List.mem_of_getElem? (i := 48) rfl)) (hw _ (List.mem_of_getElem? (i := 12) rfl)) (hw _ (List.mem_of_getElem? (i := 50) rfl)) at_571 rfl rfl (lenOf pd_5 rfl) (Nat.le_of_eq rfl) (by decide) (by decide) (by decide) (by decide) (by decide) (by decide) (by decide) rfl ?_
        intro v275 T275 h275 st275 hq275
        obtain ⟨rfl, hh275⟩ := hq275
        rw [hh275] at st275
        refine E_aload (pc' := 576) cx st275 at_574 rfl rfl rfl ?_
        refine E_iconst (pc' := 577) cx st275 (1 : Int32) at_576 rfl rfl ?_
        refine E_iaload (pc' := 578) (x := (2 : Int32)) cx st275 V268p ⟨by decide, by decide⟩ rfl at_577 rfl ?_
        refine E_icmp_neN (pc' := 581) cx st275 at_578 rfl rfl ?_
        refine E_iconst (pc' := 582) cx st275 (1 : Int32) at_581 rfl rfl ?_
        refine E_goto (pc' := 586) cx st275 at_582 (by decide) (by decide) ?_
        refine E_istore (pc' := 588) (L' := #[.val (.int p0), .val (.int p1), .val (.int p2), .val (.int p3), .val (.int p4), .val (.int p5), .val (.int u1), .val (.int u2), .val (.int u5), .val (.ref ar6), .val (.ref ar13), .val (.ref ar27), .val (.ref ar37), .val (.int dd4), .val (.int dd5), .val (.int dd6), .val (.int dd7), .val (.ref gr), .val (.ref ob77), .val (.int u106), .val (.ref ar116), .val (.int (1 : Int32)), .val (.int (0 : Int32)), .val (.int (1 : Int32)), .val (.ref ar266), .val (.int (2 : Int32)), .val (.int (1 : Int32)), .unset]) cx st275 at_586 rfl rfl ?_
        refine E_iload (pc' := 590) cx st275 at_588 rfl rfl ?_
        refine E_if_eqN (pc' := 593) cx st275 at_590 rfl (by decide) ?_
        refine E_iload (pc' := 595) cx st275 at_593 rfl rfl ?_
        refine E_iconst (pc' := 596) cx st275 (2 : Int32) at_595 rfl rfl ?_
        refine E_icmp_leY (pc' := 619) cx st275 at_596 (by decide) (by decide) (by decide) ?_
        refine E_iloadN (pc' := 620) cx st275 at_619 rfl rfl ?_
        refine E_bipush (pc' := 622) cx st275 (12 : Int32) at_620 rfl rfl ?_
        refine E_iushr (pc' := 623) cx st275 at_622 rfl ?_
        refine E_iconst (pc' := 624) cx st275 (3 : Int32) at_623 rfl rfl ?_
        refine E_irem (pc' := 625) cx st275 at_624 (by decide) rfl ?_
        refine E_istore (pc' := 627) (L' := #[.val (.int p0), .val (.int p1), .val (.int p2), .val (.int p3), .val (.int p4), .val (.int p5), .val (.int u1), .val (.int u2), .val (.int u5), .val (.ref ar6), .val (.ref ar13), .val (.ref ar27), .val (.ref ar37), .val (.int dd4), .val (.int dd5), .val (.int dd6), .val (.int dd7), .val (.ref gr), .val (.ref ob77), .val (.int u106), .val (.ref ar116), .val (.int (1 : Int32)), .val (.int (0 : Int32)), .val (.int (1 : Int32)), .val (.ref ar266), .val (.int (2 : Int32)), .val (.int (1 : Int32)), .val (.int (((p0.toUInt32 >>> ((12 : Int32) &&& 31).toUInt32).toInt32) % (3 : Int32)))]) cx st275 at_625 rfl rfl ?_
        refine E_iload (pc' := 629) cx st275 at_627 rfl rfl ?_
        refine E_if_eqN (pc' := 632) cx st275 at_629 rfl (by decide) ?_
        refine E_aload (pc' := 634) cx st275 at_632 rfl rfl rfl ?_
        refine E_iload (pc' := 636) cx st275 at_634 rfl rfl ?_
        have G276 : Fld Z h268 ob77 "org/querne/sparql/SeedMerge" "seed" "[I" (.ref ar37) := ((((((((H2.ext E116).other W117 (Or.inl ne_ob77_ar116)).other W118 (Or.inl ne_ob77_ar116)).other W119 (Or.inl ne_ob77_ar116)).other W120 (Or.inl ne_ob77_ar116)).ext E266).other W267 (Or.inl ne_ob77_ar266)).other W268 (Or.inl ne_ob77_ar266))
        have G277 : Fld Z h268 ob77 "org/querne/sparql/SeedMerge" "slots" "[I" (.ref ar13) := ((((((((H1.ext E116).other W117 (Or.inl ne_ob77_ar116)).other W118 (Or.inl ne_ob77_ar116)).other W119 (Or.inl ne_ob77_ar116)).other W120 (Or.inl ne_ob77_ar116)).ext E266).other W267 (Or.inl ne_ob77_ar266)).other W268 (Or.inl ne_ob77_ar266))
        have V278 : Arv Z h268 ar13 ca13 .int (3 : Int32) [(.int t0), (.int t1), (.int t2)] (.int (0 : Int32)) := (((V121.ext E266).other W267 ne_ar13_ar266).other W268 ne_ar13_ar266)
        have V279 : Arv Z h268 ar37 ca37 .int (4 : Int32) [(.int dd4), (.int dd5), (.int dd6), (.int dd7)] (.int (0 : Int32)) := (((V258.ext E266).other W267 ne_ar37_ar266).other W268 ne_ar37_ar266)
        refine E_callV (pc' := 639) (kc' := 13) (ks' := 39) (W := 0) (a := ob77) (argsL := [(.int (((p0.toUInt32 >>> ((12 : Int32) &&& 31).toUInt32).toInt32) % (3 : Int32)))]) cx st275 [] (rm9 l Z a0 hw ob77 (((p0.toUInt32 >>> ((12 : Int32) &&& 31).toUInt32).toInt32) % (3 : Int32)) ar13 ar37 t0 t1 t2 dd4 dd5 dd6 dd7 h268 n0 Z268 ca13 ca37 G276 G277 V278 V279 hcol hxc) X271 (hw _ (List.mem_of_getElem? (i := 51) rfl)) (hw _ (List.mem_of_getElem? (i := 52) rfl)) (hw _ (List.mem_of_getElem? (i := 54) rfl)) (hw _ (List.mem_of_getElem? (i := 53) rfl)) (hw _ (List.mem_of_getElem? (i := 12) rfl)) (hw _ (List.mem_of_getElem? (i := 55) rfl)) at_636 rfl rfl (lenOf pd_5 rfl) (Nat.le_of_eq rfl) (by decide) (by decide) (by decide) (by decide) (by decide) (by decide) (by decide) rfl ?_
        intro v280 T280 h280 st280 hq280
        obtain ⟨rfl, hh280⟩ := hq280
        rw [hh280] at st280
        refine E_aload (pc' := 641) cx st280 at_639 rfl rfl rfl ?_
        refine E_aload (pc' := 643) cx st280 at_641 rfl rfl rfl ?_
        refine E_iload (pc' := 645) cx st280 at_643 rfl rfl ?_
        refine E_iaload (pc' := 646) (x := ([t0, t1, t2].getD (((p0.toUInt32 >>> ((12 : Int32) &&& 31).toUInt32).toInt32) % (3 : Int32)).toNatClampNeg 0)) cx st280 V278 hcol (getD_int [t0, t1, t2] _ 0) at_645 rfl ?_
        have V281 : Arv Z h268 ar116 ca116 .int (4 : Int32) [(.int dd4), (.int dd5), (.int dd6), (.int dd7)] (.int (0 : Int32)) := (((V120p.ext E266).other W267 ne_ar116_ar266).other W268 ne_ar116_ar266)
        refine E_iaload (pc' := 647) (x := ([dd4, dd5, dd6, dd7].getD ([t0, t1, t2].getD (((p0.toUInt32 >>> ((12 : Int32) &&& 31).toUInt32).toInt32) % (3 : Int32)).toNatClampNeg 0).toNatClampNeg 0)) cx st280 V281 hxc (getD_int [dd4, dd5, dd6, dd7] _ 0) at_646 rfl ?_
        refine E_icmp_neN (pc' := 650) cx st280 at_647 rfl rfl ?_
        refine E_iconst (pc' := 651) cx st280 (1 : Int32) at_650 rfl rfl ?_
        refine E_goto (pc' := 655) cx st280 at_651 (by decide) (by decide) ?_
        refine E_istore (pc' := 657) (L' := #[.val (.int p0), .val (.int p1), .val (.int p2), .val (.int p3), .val (.int p4), .val (.int p5), .val (.int u1), .val (.int u2), .val (.int u5), .val (.ref ar6), .val (.ref ar13), .val (.ref ar27), .val (.ref ar37), .val (.int dd4), .val (.int dd5), .val (.int dd6), .val (.int dd7), .val (.ref gr), .val (.ref ob77), .val (.int u106), .val (.ref ar116), .val (.int (1 : Int32)), .val (.int (0 : Int32)), .val (.int (1 : Int32)), .val (.ref ar266), .val (.int (2 : Int32)), .val (.int (1 : Int32)), .val (.int (((p0.toUInt32 >>> ((12 : Int32) &&& 31).toUInt32).toInt32) % (3 : Int32)))]) cx st280 at_655 rfl rfl ?_
        refine E_aload (pc' := 659) cx st280 at_657 rfl rfl rfl ?_
        have G282 : Fld Z h268 ob77 "org/querne/sparql/SeedMerge" "mergedCount" "I" (.int (0 : Int32)) := ((((((((H5.ext E116).other W117 (Or.inl ne_ob77_ar116)).other W118 (Or.inl ne_ob77_ar116)).other W119 (Or.inl ne_ob77_ar116)).other W120 (Or.inl ne_ob77_ar116)).ext E266).other W267 (Or.inl ne_ob77_ar266)).other W268 (Or.inl ne_ob77_ar266))
        refine E_callV (pc' := 662) (kc' := 13) (ks' := 39) (W := 0) (a := ob77) (argsL := []) cx st280 [] (rm10 l Z a0 hw ob77 h268 n0 Z268 g_ob77 X271 G282) X271 (hw _ (List.mem_of_getElem? (i := 56) rfl)) (hw _ (List.mem_of_getElem? (i := 57) rfl)) (hw _ (List.mem_of_getElem? (i := 59) rfl)) (hw _ (List.mem_of_getElem? (i := 58) rfl)) (hw _ (List.mem_of_getElem? (i := 12) rfl)) (hw _ (List.mem_of_getElem? (i := 60) rfl)) at_659 rfl rfl (lenOf pd_6 rfl) (Nat.le_of_eq rfl) (by decide) (by decide) (by decide) (by decide) (by decide) (by decide) (by decide) rfl ?_
        intro v283 T283 h283 st283 hq283
        obtain ⟨rfl, Ku⟩ := hq283
        have Z283 : n0 ≤ h283.size := Nat.le_trans Z268 Ku.1
        refine E_iload (pc' := 664) cx st283 at_662 rfl rfl ?_
        refine E_if_eqN (pc' := 667) cx st283 at_664 rfl (by decide) ?_
        refine E_aload (pc' := 669) cx st283 at_667 rfl rfl rfl ?_
        refine E_iconst (pc' := 670) cx st283 (0 : Int32) at_669 rfl rfl ?_
        have V284 : Arv Z h283 ar37 ca37 .int (4 : Int32) [(.int dd4), (.int dd5), (.int dd6), (.int dd7)] (.int (0 : Int32)) := (V279.keep Ku (ninS ne_ar37_ob77 nin0))
        refine E_iaload (pc' := 671) (x := dd4) cx st283 V284 ⟨by decide, by decide⟩ rfl at_670 rfl ?_
        refine E_iload (pc' := 673) cx st283 at_671 rfl rfl ?_
        refine E_icmp_neN (pc' := 676) cx st283 at_673 rfl rfl ?_
        refine E_aload (pc' := 678) cx st283 at_676 rfl rfl rfl ?_
        refine E_iconst (pc' := 679) cx st283 (1 : Int32) at_678 rfl rfl ?_
        refine E_iaload (pc' := 680) (x := dd5) cx st283 V284 ⟨by decide, by decide⟩ rfl at_679 rfl ?_
        refine E_iload (pc' := 682) cx st283 at_680 rfl rfl ?_
        refine E_icmp_neN (pc' := 685) cx st283 at_682 rfl rfl ?_
        refine E_aload (pc' := 687) cx st283 at_685 rfl rfl rfl ?_
        refine E_iconst (pc' := 688) cx st283 (2 : Int32) at_687 rfl rfl ?_
        refine E_iaload (pc' := 689) (x := dd6) cx st283 V284 ⟨by decide, by decide⟩ rfl at_688 rfl ?_
        refine E_iload (pc' := 691) cx st283 at_689 rfl rfl ?_
        refine E_icmp_neN (pc' := 694) cx st283 at_691 rfl rfl ?_
        refine E_aload (pc' := 696) cx st283 at_694 rfl rfl rfl ?_
        refine E_iconst (pc' := 697) cx st283 (3 : Int32) at_696 rfl rfl ?_
        refine E_iaload (pc' := 698) (x := dd7) cx st283 V284 ⟨by decide, by decide⟩ rfl at_697 rfl ?_
        refine E_iload (pc' := 700) cx st283 at_698 rfl rfl ?_
        refine E_icmp_neN (pc' := 703) cx st283 at_700 rfl rfl ?_
        refine E_iconst (pc' := 704) cx st283 (1 : Int32) at_703 rfl rfl ?_
        refine E_goto (pc' := 708) cx st283 at_704 (by decide) (by decide) ?_
        refine E_istore (pc' := 710) (L' := #[.val (.int p0), .val (.int p1), .val (.int p2), .val (.int p3), .val (.int p4), .val (.int p5), .val (.int u1), .val (.int u2), .val (.int u5), .val (.ref ar6), .val (.ref ar13), .val (.ref ar27), .val (.ref ar37), .val (.int dd4), .val (.int dd5), .val (.int dd6), .val (.int dd7), .val (.ref gr), .val (.ref ob77), .val (.int u106), .val (.ref ar116), .val (.int (1 : Int32)), .val (.int (0 : Int32)), .val (.int (1 : Int32)), .val (.ref ar266), .val (.int (2 : Int32)), .val (.int (1 : Int32)), .val (.int (((p0.toUInt32 >>> ((12 : Int32) &&& 31).toUInt32).toInt32) % (3 : Int32)))]) cx st283 at_708 rfl rfl ?_
        refine E_iload (pc' := 712) cx st283 at_710 rfl rfl ?_
        refine E_if_neY (pc' := 725) cx st283 at_712 (by decide) (by decide) (by decide) ?_
        refine E_iconst (pc' := 726) cx st283 (1 : Int32) at_725 rfl rfl ?_
        refine E_goto (pc' := 730) cx st283 at_726 (by decide) (by decide) ?_
        refine E_ireturn (t := .boolean) cx st283 at_730 rfl (by simp) rfl (by decide) (by decide) ?_
        exact rfl
    · refine E_icmp_eqN (pc' := 435) cx st120 at_432 rfl c229 ?_
      refine E_iconst (pc' := 436) cx st120 (1 : Int32) at_435 rfl rfl ?_
      refine E_goto (pc' := 440) cx st120 at_436 (by decide) (by decide) ?_
      refine E_istore (pc' := 442) (L' := #[.val (.int p0), .val (.int p1), .val (.int p2), .val (.int p3), .val (.int p4), .val (.int p5), .val (.int u1), .val (.int u2), .val (.int u5), .val (.ref ar6), .val (.ref ar13), .val (.ref ar27), .val (.ref ar37), .val (.int dd4), .val (.int dd5), .val (.int dd6), .val (.int dd7), .val (.ref gr), .val (.ref ob77), .val (.int u106), .val (.ref ar116), .val (.int (1 : Int32)), .val (.int (1 : Int32)), .unset, .unset, .unset, .unset, .unset]) cx st120 at_440 rfl rfl ?_
      refine E_aload (pc' := 444) cx st120 at_442 rfl rfl rfl ?_
      refine E_aload (pc' := 446) cx st120 at_444 rfl rfl rfl ?_
      refine E_iconst (pc' := 447) cx st120 (2 : Int32) at_446 rfl rfl ?_
      refine E_iaload (pc' := 448) (x := t2) cx st120 V121 ⟨by decide, by decide⟩ rfl at_447 rfl ?_
      refine E_iaload (pc' := 449) (x := ([dd4, dd5, dd6, dd7].getD t2.toNatClampNeg 0)) cx st120 V120p ht2 (getD_int [dd4, dd5, dd6, dd7] _ 0) at_448 rfl ?_
      refine E_iconst (pc' := 450) cx st120 (-1 : Int32) at_449 rfl rfl ?_
      by_cases c285 : ([dd4, dd5, dd6, dd7].getD t2.toNatClampNeg 0) = (-1 : Int32)
      · refine E_icmp_eqY (pc' := 457) cx st120 at_450 (by decide) (by decide) c285 ?_
        refine E_iconst (pc' := 458) cx st120 (0 : Int32) at_457 rfl rfl ?_
        refine E_istore (pc' := 460) (L' := #[.val (.int p0), .val (.int p1), .val (.int p2), .val (.int p3), .val (.int p4), .val (.int p5), .val (.int u1), .val (.int u2), .val (.int u5), .val (.ref ar6), .val (.ref ar13), .val (.ref ar27), .val (.ref ar37), .val (.int dd4), .val (.int dd5), .val (.int dd6), .val (.int dd7), .val (.ref gr), .val (.ref ob77), .val (.int u106), .val (.ref ar116), .val (.int (1 : Int32)), .val (.int (1 : Int32)), .val (.int (0 : Int32)), .unset, .unset, .unset, .unset]) cx st120 at_458 rfl rfl ?_
        refine E_iconst (pc' := 461) cx st120 (3 : Int32) at_460 rfl rfl ?_
        have V286 : Arv Z h120 ar27 ca27 .int (4 : Int32) (esm.map Value.int) (.int (0 : Int32)) := (((((V108.ext E116).other W117 ne_ar27_ar116).other W118 ne_ar27_ar116).other W119 ne_ar27_ar116).other W120 ne_ar27_ar116)
        have V287 : Arv Z h120 ar37 ca37 .int (4 : Int32) [(.int dd4), (.int dd5), (.int dd6), (.int dd7)] (.int (0 : Int32)) := (((((V109.ext E116).other W117 ne_ar37_ar116).other W118 ne_ar37_ar116).other W119 ne_ar37_ar116).other W120 ne_ar37_ar116)
        have V288 : Arv Z h120 gr cG (.array .int) (3 : Int32) [(.ref r0), (.ref r1), (.ref r2)] .null := (((((V110.ext E116).other W117 ne_gr_ar116).other W118 ne_gr_ar116).other W119 ne_gr_ar116).other W120 ne_gr_ar116)
        have V289 : Arv Z h120 r0 cR .int (1 : Int32) [(.int u53)] (.int (0 : Int32)) := (((((V111.ext E116).other W117 ne_r0_ar116).other W118 ne_r0_ar116).other W119 ne_r0_ar116).other W120 ne_r0_ar116)
        have V290 : Arv Z h120 r1 cR .int (1 : Int32) [(.int u60)] (.int (0 : Int32)) := (((((V112.ext E116).other W117 ne_r1_ar116).other W118 ne_r1_ar116).other W119 ne_r1_ar116).other W120 ne_r1_ar116)
        have V291 : Arv Z h120 r2 cR .int (1 : Int32) [(.int u68)] (.int (0 : Int32)) := (((((V113.ext E116).other W117 ne_r2_ar116).other W118 ne_r2_ar116).other W119 ne_r2_ar116).other W120 ne_r2_ar116)
        have X292 : Exa Z h120 ob77 "org/querne/sparql/SeedMerge" := (((((X114.ext E116).wr W117).wr W118).wr W119).wr W120)
        have V293 : Arv Z h120 sc kC .int (3 : Int32) [(.int yb0), (.int yb1), (.int yb2)] (.int (0 : Int32)) := (((((VCb.ext E116).other W117 ne_sc_ar116).other W118 ne_sc_ar116).other W119 ne_sc_ar116).other W120 ne_sc_ar116)
        have V294 : Arv Z h120 mg kM .int (3 : Int32) [(.int wm0), (.int wm1), (.int wm2)] (.int (0 : Int32)) := (((((V115.ext E116).other W117 ne_mg_ar116).other W118 ne_mg_ar116).other W119 ne_mg_ar116).other W120 ne_mg_ar116)
        refine E_newP (pc' := 463) (kc' := 13) (ks' := 39) (cap := 3) cx st120 (hw _ (List.mem_of_getElem? (i := 0) rfl)) at_461 (by decide) (by decide) (by decide) (by decide) (by decide) (by decide) (by decide) rfl (ad := "[I") (by decide) ?_
        intro T295 h295 ca295 ar295 eq295 st295 E295 V295 X295
        have g_ar295 : n0 ≤ ar295 := by rw [eq295]; exact Z120
        have ne_ar13_ar295 : ar13 ≠ ar295 := by rw [eq295]; exact Nat.ne_of_lt V121.lt
        have ne_ar27_ar295 : ar27 ≠ ar295 := by rw [eq295]; exact Nat.ne_of_lt V286.lt
        have ne_ar37_ar295 : ar37 ≠ ar295 := by rw [eq295]; exact Nat.ne_of_lt V287.lt
        have ne_gr_ar295 : gr ≠ ar295 := by rw [eq295]; exact Nat.ne_of_lt V288.lt
        have ne_r0_ar295 : r0 ≠ ar295 := by rw [eq295]; exact Nat.ne_of_lt V289.lt
        have ne_r1_ar295 : r1 ≠ ar295 := by rw [eq295]; exact Nat.ne_of_lt V290.lt
        have ne_r2_ar295 : r2 ≠ ar295 := by rw [eq295]; exact Nat.ne_of_lt V291.lt
        have ne_ob77_ar295 : ob77 ≠ ar295 := by rw [eq295]; exact Nat.ne_of_lt X292.lt
        have ne_sc_ar295 : sc ≠ ar295 := by rw [eq295]; exact Nat.ne_of_lt V293.lt
        have ne_mg_ar295 : mg ≠ ar295 := by rw [eq295]; exact Nat.ne_of_lt V294.lt
        have ne_ar116_ar295 : ar116 ≠ ar295 := by rw [eq295]; exact Nat.ne_of_lt V120p.lt
        have Z295 : n0 ≤ h295.size := Nat.le_trans Z120 E295.1
        have V295p : Arv Z h295 ar295 ca295 .int (3 : Int32) [(.int (0 : Int32)), (.int (0 : Int32)), (.int (0 : Int32))] (.int (0 : Int32)) := V295.pad (pad_rep [] (.int (0 : Int32)) 3)
        refine E_astore (pc' := 465) (L' := #[.val (.int p0), .val (.int p1), .val (.int p2), .val (.int p3), .val (.int p4), .val (.int p5), .val (.int u1), .val (.int u2), .val (.int u5), .val (.ref ar6), .val (.ref ar13), .val (.ref ar27), .val (.ref ar37), .val (.int dd4), .val (.int dd5), .val (.int dd6), .val (.int dd7), .val (.ref gr), .val (.ref ob77), .val (.int u106), .val (.ref ar116), .val (.int (1 : Int32)), .val (.int (1 : Int32)), .val (.int (0 : Int32)), .val (.ref ar295), .unset, .unset, .unset]) cx st295 at_463 rfl rfl rfl ?_
        refine E_iconst (pc' := 466) cx st295 (0 : Int32) at_465 rfl rfl ?_
        refine E_istore (pc' := 468) (L' := #[.val (.int p0), .val (.int p1), .val (.int p2), .val (.int p3), .val (.int p4), .val (.int p5), .val (.int u1), .val (.int u2), .val (.int u5), .val (.ref ar6), .val (.ref ar13), .val (.ref ar27), .val (.ref ar37), .val (.int dd4), .val (.int dd5), .val (.int dd6), .val (.int dd7), .val (.ref gr), .val (.ref ob77), .val (.int u106), .val (.ref ar116), .val (.int (1 : Int32)), .val (.int (1 : Int32)), .val (.int (0 : Int32)), .val (.ref ar295), .val (.int (0 : Int32)), .unset, .unset]) cx st295 at_466 rfl rfl ?_
        refine E_iload (pc' := 470) cx st295 at_468 rfl rfl ?_
        refine E_if_eqN (pc' := 473) cx st295 at_470 rfl (by decide) ?_
        refine E_aload (pc' := 475) cx st295 at_473 rfl rfl rfl ?_
        refine E_iload (pc' := 477) cx st295 at_475 rfl rfl ?_
        refine E_iconst (pc' := 478) cx st295 (0 : Int32) at_477 rfl rfl ?_
        refine E_iastore (pc' := 479) (i := 0) cx st295 V295p ⟨by decide, by decide⟩ rfl (Nat.le_of_ble_eq_true rfl) g_ar295 at_478 rfl ?_
        intro T296 h296 st296 W296 V296
        have Z296 : n0 ≤ h296.size := Nat.le_trans Z295 (Keep.of_wr W296).1
        have V296p : Arv Z h296 ar295 ca295 .int (3 : Int32) [(.int (0 : Int32)), (.int (0 : Int32)), (.int (0 : Int32))] (.int (0 : Int32)) := V296
        refine E_iinc (pc' := 482) (L' := #[.val (.int p0), .val (.int p1), .val (.int p2), .val (.int p3), .val (.int p4), .val (.int p5), .val (.int u1), .val (.int u2), .val (.int u5), .val (.ref ar6), .val (.ref ar13), .val (.ref ar27), .val (.ref ar37), .val (.int dd4), .val (.int dd5), .val (.int dd6), .val (.int dd7), .val (.ref gr), .val (.ref ob77), .val (.int u106), .val (.ref ar116), .val (.int (1 : Int32)), .val (.int (1 : Int32)), .val (.int (0 : Int32)), .val (.ref ar295), .val (.int (1 : Int32)), .unset, .unset]) cx st296 (1 : Int32) at_479 rfl rfl rfl rfl ?_
        refine E_iload (pc' := 484) cx st296 at_482 rfl rfl ?_
        refine E_if_eqN (pc' := 487) cx st296 at_484 rfl (by decide) ?_
        refine E_aload (pc' := 489) cx st296 at_487 rfl rfl rfl ?_
        refine E_iload (pc' := 491) cx st296 at_489 rfl rfl ?_
        refine E_iconst (pc' := 492) cx st296 (1 : Int32) at_491 rfl rfl ?_
        refine E_iastore (pc' := 493) (i := 1) cx st296 V296p ⟨by decide, by decide⟩ rfl (Nat.le_of_ble_eq_true rfl) g_ar295 at_492 rfl ?_
        intro T297 h297 st297 W297 V297
        have Z297 : n0 ≤ h297.size := Nat.le_trans Z296 (Keep.of_wr W297).1
        have V297p : Arv Z h297 ar295 ca295 .int (3 : Int32) [(.int (0 : Int32)), (.int (1 : Int32)), (.int (0 : Int32))] (.int (0 : Int32)) := V297
        refine E_iinc (pc' := 496) (L' := #[.val (.int p0), .val (.int p1), .val (.int p2), .val (.int p3), .val (.int p4), .val (.int p5), .val (.int u1), .val (.int u2), .val (.int u5), .val (.ref ar6), .val (.ref ar13), .val (.ref ar27), .val (.ref ar37), .val (.int dd4), .val (.int dd5), .val (.int dd6), .val (.int dd7), .val (.ref gr), .val (.ref ob77), .val (.int u106), .val (.ref ar116), .val (.int (1 : Int32)), .val (.int (1 : Int32)), .val (.int (0 : Int32)), .val (.ref ar295), .val (.int (2 : Int32)), .unset, .unset]) cx st297 (1 : Int32) at_493 rfl rfl rfl rfl ?_
        refine E_iload (pc' := 498) cx st297 at_496 rfl rfl ?_
        refine E_if_eqY (pc' := 510) cx st297 at_498 (by decide) (by decide) rfl ?_
        refine E_aload (pc' := 512) cx st297 at_510 rfl rfl rfl ?_
        rw [decide_eq_false c122, decide_eq_false c229, decide_eq_true c285] at hnb hcb
        have G298 : Fld Z h297 ob77 "org/querne/sparql/SeedMerge" "seedColumnCount" "I" (.int nb) := ((((((((H6.ext E116).other W117 (Or.inl ne_ob77_ar116)).other W118 (Or.inl ne_ob77_ar116)).other W119 (Or.inl ne_ob77_ar116)).other W120 (Or.inl ne_ob77_ar116)).ext E295).other W296 (Or.inl ne_ob77_ar295)).other W297 (Or.inl ne_ob77_ar295))
        have V299 : Arv Z h297 sc kC .int (3 : Int32) [(.int yb0), (.int yb1), (.int yb2)] (.int (0 : Int32)) := (((V293.ext E295).other W296 ne_sc_ar295).other W297 ne_sc_ar295)
        obtain rfl : nb = (2 : Int32) := hnb
        have hcb2 : yb0 = (0 : Int32) ∧ yb1 = (1 : Int32) := by simpa [oc] using hcb
        obtain ⟨rfl, rfl⟩ := hcb2
        have X300 : Exa Z h297 ob77 "org/querne/sparql/SeedMerge" := (((X292.ext E295).wr W296).wr W297)
        refine E_callV (pc' := 515) (kc' := 13) (ks' := 39) (W := 0) (a := ob77) (argsL := []) cx st297 [] (rm7 l Z a0 hw ob77 (2 : Int32) h297 n0 Z297 G298) X300 (hw _ (List.mem_of_getElem? (i := 41) rfl)) (hw _ (List.mem_of_getElem? (i := 42) rfl)) (hw _ (List.mem_of_getElem? (i := 44) rfl)) (hw _ (List.mem_of_getElem? (i := 43) rfl)) (hw _ (List.mem_of_getElem? (i := 12) rfl)) (hw _ (List.mem_of_getElem? (i := 45) rfl)) at_512 rfl rfl (lenOf pd_4 rfl) (Nat.le_of_eq rfl) (by decide) (by decide) (by decide) (by decide) (by decide) (by decide) (by decide) rfl ?_
        intro v301 T301 h301 st301 hq301
        obtain ⟨rfl, hh301⟩ := hq301
        rw [hh301] at st301
        refine E_iload (pc' := 517) cx st301 at_515 rfl rfl ?_
        refine E_icmp_neN (pc' := 520) cx st301 at_517 rfl rfl ?_
        refine E_iconst (pc' := 521) cx st301 (1 : Int32) at_520 rfl rfl ?_
        refine E_goto (pc' := 525) cx st301 at_521 (by decide) (by decide) ?_
        refine E_istore (pc' := 527) (L' := #[.val (.int p0), .val (.int p1), .val (.int p2), .val (.int p3), .val (.int p4), .val (.int p5), .val (.int u1), .val (.int u2), .val (.int u5), .val (.ref ar6), .val (.ref ar13), .val (.ref ar27), .val (.ref ar37), .val (.int dd4), .val (.int dd5), .val (.int dd6), .val (.int dd7), .val (.ref gr), .val (.ref ob77), .val (.int u106), .val (.ref ar116), .val (.int (1 : Int32)), .val (.int (1 : Int32)), .val (.int (0 : Int32)), .val (.ref ar295), .val (.int (2 : Int32)), .val (.int (1 : Int32)), .unset]) cx st301 at_525 rfl rfl ?_
        refine E_iload (pc' := 529) cx st301 at_527 rfl rfl ?_
        refine E_if_eqN (pc' := 532) cx st301 at_529 rfl (by decide) ?_
        refine E_iload (pc' := 534) cx st301 at_532 rfl rfl ?_
        refine E_if_leN (pc' := 537) cx st301 at_534 rfl (by decide) ?_
        refine E_aload (pc' := 539) cx st301 at_537 rfl rfl rfl ?_
        refine E_iconst (pc' := 540) cx st301 (0 : Int32) at_539 rfl rfl ?_
        have G302 : Fld Z h297 ob77 "org/querne/sparql/SeedMerge" "seedColumns" "[I" (.ref sc) := ((((((((H3.ext E116).other W117 (Or.inl ne_ob77_ar116)).other W118 (Or.inl ne_ob77_ar116)).other W119 (Or.inl ne_ob77_ar116)).other W120 (Or.inl ne_ob77_ar116)).ext E295).other W296 (Or.inl ne_ob77_ar295)).other W297 (Or.inl ne_ob77_ar295))
        refine E_callV (pc' := 543) (kc' := 13) (ks' := 39) (W := 0) (a := ob77) (argsL := [(.int (0 : Int32))]) cx st301 [] (rm8i0 l Z a0 hw ob77 sc (0 : Int32) (1 : Int32) yb2 h297 n0 Z297 kC G302 V299) X300 (hw _ (List.mem_of_getElem? (i := 46) rfl)) (hw _ (List.mem_of_getElem? (i := 47) rfl)) (hw _ (List.mem_of_getElem? (i := 49) rfl)) (hw _ (List.mem_of_getElem? (i := 48) rfl)) (hw _ (List.mem_of_getElem? (i := 12) rfl)) (hw _ (List.mem_of_getElem? (i := 50) rfl)) at_540 rfl rfl (lenOf pd_5 rfl) (Nat.le_of_eq rfl) (by decide) (by decide) (by decide) (by decide) (by decide) (by decide) (by decide) rfl ?_
        intro v303 T303 h303 st303 hq303
        obtain ⟨rfl, hh303⟩ := hq303
        rw [hh303] at st303
        refine E_aload (pc' := 545) cx st303 at_543 rfl rfl rfl ?_
        refine E_iconst (pc' := 546) cx st303 (0 : Int32) at_545 rfl rfl ?_
        refine E_iaload (pc' := 547) (x := (0 : Int32)) cx st303 V297p ⟨by decide, by decide⟩ rfl at_546 rfl ?_
        refine E_icmp_neN (pc' := 550) cx st303 at_547 rfl rfl ?_
        refine E_iconst (pc' := 551) cx st303 (1 : Int32) at_550 rfl rfl ?_
        refine E_goto (pc' := 555) cx st303 at_551 (by decide) (by decide) ?_
        refine E_istore (pc' := 557) (L' := #[.val (.int p0), .val (.int p1), .val (.int p2), .val (.int p3), .val (.int p4), .val (.int p5), .val (.int u1), .val (.int u2), .val (.int u5), .val (.ref ar6), .val (.ref ar13), .val (.ref ar27), .val (.ref ar37), .val (.int dd4), .val (.int dd5), .val (.int dd6), .val (.int dd7), .val (.ref gr), .val (.ref ob77), .val (.int u106), .val (.ref ar116), .val (.int (1 : Int32)), .val (.int (1 : Int32)), .val (.int (0 : Int32)), .val (.ref ar295), .val (.int (2 : Int32)), .val (.int (1 : Int32)), .unset]) cx st303 at_555 rfl rfl ?_
        refine E_iload (pc' := 559) cx st303 at_557 rfl rfl ?_
        refine E_if_eqN (pc' := 562) cx st303 at_559 rfl (by decide) ?_
        refine E_iload (pc' := 564) cx st303 at_562 rfl rfl ?_
        refine E_iconst (pc' := 565) cx st303 (1 : Int32) at_564 rfl rfl ?_
        refine E_icmp_leN (pc' := 568) cx st303 at_565 rfl (by decide) ?_
        refine E_aload (pc' := 570) cx st303 at_568 rfl rfl rfl ?_
        refine E_iconst (pc' := 571) cx st303 (1 : Int32) at_570 rfl rfl ?_
        refine E_callV (pc' := 574) (kc' := 13) (ks' := 39) (W := 0) (a := ob77) (argsL := [(.int (1 : Int32))]) cx st303 [] (rm8i1 l Z a0 hw ob77 sc (0 : Int32) (1 : Int32) yb2 h297 n0 Z297 kC G302 V299) X300 (hw _ (List.mem_of_getElem? (i := 46) rfl)) (hw _ (List.mem_of_getElem? (i := 47) rfl)) (hw _ (List.mem_of_getElem? (i := 49) rfl)) (hw _ (List.mem_of_getElem? (i := 48) rfl)) (hw _ (List.mem_of_getElem? (i := 12) rfl)) (hw _ (List.mem_of_getElem? (i := 50) rfl)) at_571 rfl rfl (lenOf pd_5 rfl) (Nat.le_of_eq rfl) (by decide) (by decide) (by decide) (by decide) (by decide) (by decide) (by decide) rfl ?_
        intro v304 T304 h304 st304 hq304
        obtain ⟨rfl, hh304⟩ := hq304
        rw [hh304] at st304
        refine E_aload (pc' := 576) cx st304 at_574 rfl rfl rfl ?_
        refine E_iconst (pc' := 577) cx st304 (1 : Int32) at_576 rfl rfl ?_
        refine E_iaload (pc' := 578) (x := (1 : Int32)) cx st304 V297p ⟨by decide, by decide⟩ rfl at_577 rfl ?_
        refine E_icmp_neN (pc' := 581) cx st304 at_578 rfl rfl ?_
        refine E_iconst (pc' := 582) cx st304 (1 : Int32) at_581 rfl rfl ?_
        refine E_goto (pc' := 586) cx st304 at_582 (by decide) (by decide) ?_
        refine E_istore (pc' := 588) (L' := #[.val (.int p0), .val (.int p1), .val (.int p2), .val (.int p3), .val (.int p4), .val (.int p5), .val (.int u1), .val (.int u2), .val (.int u5), .val (.ref ar6), .val (.ref ar13), .val (.ref ar27), .val (.ref ar37), .val (.int dd4), .val (.int dd5), .val (.int dd6), .val (.int dd7), .val (.ref gr), .val (.ref ob77), .val (.int u106), .val (.ref ar116), .val (.int (1 : Int32)), .val (.int (1 : Int32)), .val (.int (0 : Int32)), .val (.ref ar295), .val (.int (2 : Int32)), .val (.int (1 : Int32)), .unset]) cx st304 at_586 rfl rfl ?_
        refine E_iload (pc' := 590) cx st304 at_588 rfl rfl ?_
        refine E_if_eqN (pc' := 593) cx st304 at_590 rfl (by decide) ?_
        refine E_iload (pc' := 595) cx st304 at_593 rfl rfl ?_
        refine E_iconst (pc' := 596) cx st304 (2 : Int32) at_595 rfl rfl ?_
        refine E_icmp_leY (pc' := 619) cx st304 at_596 (by decide) (by decide) (by decide) ?_
        refine E_iloadN (pc' := 620) cx st304 at_619 rfl rfl ?_
        refine E_bipush (pc' := 622) cx st304 (12 : Int32) at_620 rfl rfl ?_
        refine E_iushr (pc' := 623) cx st304 at_622 rfl ?_
        refine E_iconst (pc' := 624) cx st304 (3 : Int32) at_623 rfl rfl ?_
        refine E_irem (pc' := 625) cx st304 at_624 (by decide) rfl ?_
        refine E_istore (pc' := 627) (L' := #[.val (.int p0), .val (.int p1), .val (.int p2), .val (.int p3), .val (.int p4), .val (.int p5), .val (.int u1), .val (.int u2), .val (.int u5), .val (.ref ar6), .val (.ref ar13), .val (.ref ar27), .val (.ref ar37), .val (.int dd4), .val (.int dd5), .val (.int dd6), .val (.int dd7), .val (.ref gr), .val (.ref ob77), .val (.int u106), .val (.ref ar116), .val (.int (1 : Int32)), .val (.int (1 : Int32)), .val (.int (0 : Int32)), .val (.ref ar295), .val (.int (2 : Int32)), .val (.int (1 : Int32)), .val (.int (((p0.toUInt32 >>> ((12 : Int32) &&& 31).toUInt32).toInt32) % (3 : Int32)))]) cx st304 at_625 rfl rfl ?_
        refine E_iload (pc' := 629) cx st304 at_627 rfl rfl ?_
        refine E_if_eqN (pc' := 632) cx st304 at_629 rfl (by decide) ?_
        refine E_aload (pc' := 634) cx st304 at_632 rfl rfl rfl ?_
        refine E_iload (pc' := 636) cx st304 at_634 rfl rfl ?_
        have G305 : Fld Z h297 ob77 "org/querne/sparql/SeedMerge" "seed" "[I" (.ref ar37) := ((((((((H2.ext E116).other W117 (Or.inl ne_ob77_ar116)).other W118 (Or.inl ne_ob77_ar116)).other W119 (Or.inl ne_ob77_ar116)).other W120 (Or.inl ne_ob77_ar116)).ext E295).other W296 (Or.inl ne_ob77_ar295)).other W297 (Or.inl ne_ob77_ar295))
        have G306 : Fld Z h297 ob77 "org/querne/sparql/SeedMerge" "slots" "[I" (.ref ar13) := ((((((((H1.ext E116).other W117 (Or.inl ne_ob77_ar116)).other W118 (Or.inl ne_ob77_ar116)).other W119 (Or.inl ne_ob77_ar116)).other W120 (Or.inl ne_ob77_ar116)).ext E295).other W296 (Or.inl ne_ob77_ar295)).other W297 (Or.inl ne_ob77_ar295))
        have V307 : Arv Z h297 ar13 ca13 .int (3 : Int32) [(.int t0), (.int t1), (.int t2)] (.int (0 : Int32)) := (((V121.ext E295).other W296 ne_ar13_ar295).other W297 ne_ar13_ar295)
        have V308 : Arv Z h297 ar37 ca37 .int (4 : Int32) [(.int dd4), (.int dd5), (.int dd6), (.int dd7)] (.int (0 : Int32)) := (((V287.ext E295).other W296 ne_ar37_ar295).other W297 ne_ar37_ar295)
        refine E_callV (pc' := 639) (kc' := 13) (ks' := 39) (W := 0) (a := ob77) (argsL := [(.int (((p0.toUInt32 >>> ((12 : Int32) &&& 31).toUInt32).toInt32) % (3 : Int32)))]) cx st304 [] (rm9 l Z a0 hw ob77 (((p0.toUInt32 >>> ((12 : Int32) &&& 31).toUInt32).toInt32) % (3 : Int32)) ar13 ar37 t0 t1 t2 dd4 dd5 dd6 dd7 h297 n0 Z297 ca13 ca37 G305 G306 V307 V308 hcol hxc) X300 (hw _ (List.mem_of_getElem? (i := 51) rfl)) (hw _ (List.mem_of_getElem? (i := 52) rfl)) (hw _ (List.mem_of_getElem? (i := 54) rfl)) (hw _ (List.mem_of_getElem? (i := 53) rfl)) (hw _ (List.mem_of_getElem? (i := 12) rfl)) (hw _ (List.mem_of_getElem? (i := 55) rfl)) at_636 rfl rfl (lenOf pd_5 rfl) (Nat.le_of_eq rfl) (by decide) (by decide) (by decide) (by decide) (by decide) (by decide) (by decide) rfl ?_
        intro v309 T309 h309 st309 hq309
        obtain ⟨rfl, hh309⟩ := hq309
        rw [hh309] at st309
        refine E_aload (pc' := 641) cx st309 at_639 rfl rfl rfl ?_
        refine E_aload (pc' := 643) cx st309 at_641 rfl rfl rfl ?_
        refine E_iload (pc' := 645) cx st309 at_643 rfl rfl ?_
        refine E_iaload (pc' := 646) (x := ([t0, t1, t2].getD (((p0.toUInt32 >>> ((12 : Int32) &&& 31).toUInt32).toInt32) % (3 : Int32)).toNatClampNeg 0)) cx st309 V307 hcol (getD_int [t0, t1, t2] _ 0) at_645 rfl ?_
        have V310 : Arv Z h297 ar116 ca116 .int (4 : Int32) [(.int dd4), (.int dd5), (.int dd6), (.int dd7)] (.int (0 : Int32)) := (((V120p.ext E295).other W296 ne_ar116_ar295).other W297 ne_ar116_ar295)
        refine E_iaload (pc' := 647) (x := ([dd4, dd5, dd6, dd7].getD ([t0, t1, t2].getD (((p0.toUInt32 >>> ((12 : Int32) &&& 31).toUInt32).toInt32) % (3 : Int32)).toNatClampNeg 0).toNatClampNeg 0)) cx st309 V310 hxc (getD_int [dd4, dd5, dd6, dd7] _ 0) at_646 rfl ?_
        refine E_icmp_neN (pc' := 650) cx st309 at_647 rfl rfl ?_
        refine E_iconst (pc' := 651) cx st309 (1 : Int32) at_650 rfl rfl ?_
        refine E_goto (pc' := 655) cx st309 at_651 (by decide) (by decide) ?_
        refine E_istore (pc' := 657) (L' := #[.val (.int p0), .val (.int p1), .val (.int p2), .val (.int p3), .val (.int p4), .val (.int p5), .val (.int u1), .val (.int u2), .val (.int u5), .val (.ref ar6), .val (.ref ar13), .val (.ref ar27), .val (.ref ar37), .val (.int dd4), .val (.int dd5), .val (.int dd6), .val (.int dd7), .val (.ref gr), .val (.ref ob77), .val (.int u106), .val (.ref ar116), .val (.int (1 : Int32)), .val (.int (1 : Int32)), .val (.int (0 : Int32)), .val (.ref ar295), .val (.int (2 : Int32)), .val (.int (1 : Int32)), .val (.int (((p0.toUInt32 >>> ((12 : Int32) &&& 31).toUInt32).toInt32) % (3 : Int32)))]) cx st309 at_655 rfl rfl ?_
        refine E_aload (pc' := 659) cx st309 at_657 rfl rfl rfl ?_
        have G311 : Fld Z h297 ob77 "org/querne/sparql/SeedMerge" "mergedCount" "I" (.int (0 : Int32)) := ((((((((H5.ext E116).other W117 (Or.inl ne_ob77_ar116)).other W118 (Or.inl ne_ob77_ar116)).other W119 (Or.inl ne_ob77_ar116)).other W120 (Or.inl ne_ob77_ar116)).ext E295).other W296 (Or.inl ne_ob77_ar295)).other W297 (Or.inl ne_ob77_ar295))
        refine E_callV (pc' := 662) (kc' := 13) (ks' := 39) (W := 0) (a := ob77) (argsL := []) cx st309 [] (rm10 l Z a0 hw ob77 h297 n0 Z297 g_ob77 X300 G311) X300 (hw _ (List.mem_of_getElem? (i := 56) rfl)) (hw _ (List.mem_of_getElem? (i := 57) rfl)) (hw _ (List.mem_of_getElem? (i := 59) rfl)) (hw _ (List.mem_of_getElem? (i := 58) rfl)) (hw _ (List.mem_of_getElem? (i := 12) rfl)) (hw _ (List.mem_of_getElem? (i := 60) rfl)) at_659 rfl rfl (lenOf pd_6 rfl) (Nat.le_of_eq rfl) (by decide) (by decide) (by decide) (by decide) (by decide) (by decide) (by decide) rfl ?_
        intro v312 T312 h312 st312 hq312
        obtain ⟨rfl, Ku⟩ := hq312
        have Z312 : n0 ≤ h312.size := Nat.le_trans Z297 Ku.1
        refine E_iload (pc' := 664) cx st312 at_662 rfl rfl ?_
        refine E_if_eqN (pc' := 667) cx st312 at_664 rfl (by decide) ?_
        refine E_aload (pc' := 669) cx st312 at_667 rfl rfl rfl ?_
        refine E_iconst (pc' := 670) cx st312 (0 : Int32) at_669 rfl rfl ?_
        have V313 : Arv Z h312 ar37 ca37 .int (4 : Int32) [(.int dd4), (.int dd5), (.int dd6), (.int dd7)] (.int (0 : Int32)) := (V308.keep Ku (ninS ne_ar37_ob77 nin0))
        refine E_iaload (pc' := 671) (x := dd4) cx st312 V313 ⟨by decide, by decide⟩ rfl at_670 rfl ?_
        refine E_iload (pc' := 673) cx st312 at_671 rfl rfl ?_
        refine E_icmp_neN (pc' := 676) cx st312 at_673 rfl rfl ?_
        refine E_aload (pc' := 678) cx st312 at_676 rfl rfl rfl ?_
        refine E_iconst (pc' := 679) cx st312 (1 : Int32) at_678 rfl rfl ?_
        refine E_iaload (pc' := 680) (x := dd5) cx st312 V313 ⟨by decide, by decide⟩ rfl at_679 rfl ?_
        refine E_iload (pc' := 682) cx st312 at_680 rfl rfl ?_
        refine E_icmp_neN (pc' := 685) cx st312 at_682 rfl rfl ?_
        refine E_aload (pc' := 687) cx st312 at_685 rfl rfl rfl ?_
        refine E_iconst (pc' := 688) cx st312 (2 : Int32) at_687 rfl rfl ?_
        refine E_iaload (pc' := 689) (x := dd6) cx st312 V313 ⟨by decide, by decide⟩ rfl at_688 rfl ?_
        refine E_iload (pc' := 691) cx st312 at_689 rfl rfl ?_
        refine E_icmp_neN (pc' := 694) cx st312 at_691 rfl rfl ?_
        refine E_aload (pc' := 696) cx st312 at_694 rfl rfl rfl ?_
        refine E_iconst (pc' := 697) cx st312 (3 : Int32) at_696 rfl rfl ?_
        refine E_iaload (pc' := 698) (x := dd7) cx st312 V313 ⟨by decide, by decide⟩ rfl at_697 rfl ?_
        refine E_iload (pc' := 700) cx st312 at_698 rfl rfl ?_
        refine E_icmp_neN (pc' := 703) cx st312 at_700 rfl rfl ?_
        refine E_iconst (pc' := 704) cx st312 (1 : Int32) at_703 rfl rfl ?_
        refine E_goto (pc' := 708) cx st312 at_704 (by decide) (by decide) ?_
        refine E_istore (pc' := 710) (L' := #[.val (.int p0), .val (.int p1), .val (.int p2), .val (.int p3), .val (.int p4), .val (.int p5), .val (.int u1), .val (.int u2), .val (.int u5), .val (.ref ar6), .val (.ref ar13), .val (.ref ar27), .val (.ref ar37), .val (.int dd4), .val (.int dd5), .val (.int dd6), .val (.int dd7), .val (.ref gr), .val (.ref ob77), .val (.int u106), .val (.ref ar116), .val (.int (1 : Int32)), .val (.int (1 : Int32)), .val (.int (0 : Int32)), .val (.ref ar295), .val (.int (2 : Int32)), .val (.int (1 : Int32)), .val (.int (((p0.toUInt32 >>> ((12 : Int32) &&& 31).toUInt32).toInt32) % (3 : Int32)))]) cx st312 at_708 rfl rfl ?_
        refine E_iload (pc' := 712) cx st312 at_710 rfl rfl ?_
        refine E_if_neY (pc' := 725) cx st312 at_712 (by decide) (by decide) (by decide) ?_
        refine E_iconst (pc' := 726) cx st312 (1 : Int32) at_725 rfl rfl ?_
        refine E_goto (pc' := 730) cx st312 at_726 (by decide) (by decide) ?_
        refine E_ireturn (t := .boolean) cx st312 at_730 rfl (by simp) rfl (by decide) (by decide) ?_
        exact rfl
      · refine E_icmp_eqN (pc' := 453) cx st120 at_450 rfl c285 ?_
        refine E_iconst (pc' := 454) cx st120 (1 : Int32) at_453 rfl rfl ?_
        refine E_goto (pc' := 458) cx st120 at_454 (by decide) (by decide) ?_
        refine E_istore (pc' := 460) (L' := #[.val (.int p0), .val (.int p1), .val (.int p2), .val (.int p3), .val (.int p4), .val (.int p5), .val (.int u1), .val (.int u2), .val (.int u5), .val (.ref ar6), .val (.ref ar13), .val (.ref ar27), .val (.ref ar37), .val (.int dd4), .val (.int dd5), .val (.int dd6), .val (.int dd7), .val (.ref gr), .val (.ref ob77), .val (.int u106), .val (.ref ar116), .val (.int (1 : Int32)), .val (.int (1 : Int32)), .val (.int (1 : Int32)), .unset, .unset, .unset, .unset]) cx st120 at_458 rfl rfl ?_
        refine E_iconst (pc' := 461) cx st120 (3 : Int32) at_460 rfl rfl ?_
        have V314 : Arv Z h120 ar27 ca27 .int (4 : Int32) (esm.map Value.int) (.int (0 : Int32)) := (((((V108.ext E116).other W117 ne_ar27_ar116).other W118 ne_ar27_ar116).other W119 ne_ar27_ar116).other W120 ne_ar27_ar116)
        have V315 : Arv Z h120 ar37 ca37 .int (4 : Int32) [(.int dd4), (.int dd5), (.int dd6), (.int dd7)] (.int (0 : Int32)) := (((((V109.ext E116).other W117 ne_ar37_ar116).other W118 ne_ar37_ar116).other W119 ne_ar37_ar116).other W120 ne_ar37_ar116)
        have V316 : Arv Z h120 gr cG (.array .int) (3 : Int32) [(.ref r0), (.ref r1), (.ref r2)] .null := (((((V110.ext E116).other W117 ne_gr_ar116).other W118 ne_gr_ar116).other W119 ne_gr_ar116).other W120 ne_gr_ar116)
        have V317 : Arv Z h120 r0 cR .int (1 : Int32) [(.int u53)] (.int (0 : Int32)) := (((((V111.ext E116).other W117 ne_r0_ar116).other W118 ne_r0_ar116).other W119 ne_r0_ar116).other W120 ne_r0_ar116)
        have V318 : Arv Z h120 r1 cR .int (1 : Int32) [(.int u60)] (.int (0 : Int32)) := (((((V112.ext E116).other W117 ne_r1_ar116).other W118 ne_r1_ar116).other W119 ne_r1_ar116).other W120 ne_r1_ar116)
        have V319 : Arv Z h120 r2 cR .int (1 : Int32) [(.int u68)] (.int (0 : Int32)) := (((((V113.ext E116).other W117 ne_r2_ar116).other W118 ne_r2_ar116).other W119 ne_r2_ar116).other W120 ne_r2_ar116)
        have X320 : Exa Z h120 ob77 "org/querne/sparql/SeedMerge" := (((((X114.ext E116).wr W117).wr W118).wr W119).wr W120)
        have V321 : Arv Z h120 sc kC .int (3 : Int32) [(.int yb0), (.int yb1), (.int yb2)] (.int (0 : Int32)) := (((((VCb.ext E116).other W117 ne_sc_ar116).other W118 ne_sc_ar116).other W119 ne_sc_ar116).other W120 ne_sc_ar116)
        have V322 : Arv Z h120 mg kM .int (3 : Int32) [(.int wm0), (.int wm1), (.int wm2)] (.int (0 : Int32)) := (((((V115.ext E116).other W117 ne_mg_ar116).other W118 ne_mg_ar116).other W119 ne_mg_ar116).other W120 ne_mg_ar116)
        refine E_newP (pc' := 463) (kc' := 13) (ks' := 39) (cap := 3) cx st120 (hw _ (List.mem_of_getElem? (i := 0) rfl)) at_461 (by decide) (by decide) (by decide) (by decide) (by decide) (by decide) (by decide) rfl (ad := "[I") (by decide) ?_
        intro T323 h323 ca323 ar323 eq323 st323 E323 V323 X323
        have g_ar323 : n0 ≤ ar323 := by rw [eq323]; exact Z120
        have ne_ar13_ar323 : ar13 ≠ ar323 := by rw [eq323]; exact Nat.ne_of_lt V121.lt
        have ne_ar27_ar323 : ar27 ≠ ar323 := by rw [eq323]; exact Nat.ne_of_lt V314.lt
        have ne_ar37_ar323 : ar37 ≠ ar323 := by rw [eq323]; exact Nat.ne_of_lt V315.lt
        have ne_gr_ar323 : gr ≠ ar323 := by rw [eq323]; exact Nat.ne_of_lt V316.lt
        have ne_r0_ar323 : r0 ≠ ar323 := by rw [eq323]; exact Nat.ne_of_lt V317.lt
        have ne_r1_ar323 : r1 ≠ ar323 := by rw [eq323]; exact Nat.ne_of_lt V318.lt
        have ne_r2_ar323 : r2 ≠ ar323 := by rw [eq323]; exact Nat.ne_of_lt V319.lt
        have ne_ob77_ar323 : ob77 ≠ ar323 := by rw [eq323]; exact Nat.ne_of_lt X320.lt
        have ne_sc_ar323 : sc ≠ ar323 := by rw [eq323]; exact Nat.ne_of_lt V321.lt
        have ne_mg_ar323 : mg ≠ ar323 := by rw [eq323]; exact Nat.ne_of_lt V322.lt
        have ne_ar116_ar323 : ar116 ≠ ar323 := by rw [eq323]; exact Nat.ne_of_lt V120p.lt
        have Z323 : n0 ≤ h323.size := Nat.le_trans Z120 E323.1
        have V323p : Arv Z h323 ar323 ca323 .int (3 : Int32) [(.int (0 : Int32)), (.int (0 : Int32)), (.int (0 : Int32))] (.int (0 : Int32)) := V323.pad (pad_rep [] (.int (0 : Int32)) 3)
        refine E_astore (pc' := 465) (L' := #[.val (.int p0), .val (.int p1), .val (.int p2), .val (.int p3), .val (.int p4), .val (.int p5), .val (.int u1), .val (.int u2), .val (.int u5), .val (.ref ar6), .val (.ref ar13), .val (.ref ar27), .val (.ref ar37), .val (.int dd4), .val (.int dd5), .val (.int dd6), .val (.int dd7), .val (.ref gr), .val (.ref ob77), .val (.int u106), .val (.ref ar116), .val (.int (1 : Int32)), .val (.int (1 : Int32)), .val (.int (1 : Int32)), .val (.ref ar323), .unset, .unset, .unset]) cx st323 at_463 rfl rfl rfl ?_
        refine E_iconst (pc' := 466) cx st323 (0 : Int32) at_465 rfl rfl ?_
        refine E_istore (pc' := 468) (L' := #[.val (.int p0), .val (.int p1), .val (.int p2), .val (.int p3), .val (.int p4), .val (.int p5), .val (.int u1), .val (.int u2), .val (.int u5), .val (.ref ar6), .val (.ref ar13), .val (.ref ar27), .val (.ref ar37), .val (.int dd4), .val (.int dd5), .val (.int dd6), .val (.int dd7), .val (.ref gr), .val (.ref ob77), .val (.int u106), .val (.ref ar116), .val (.int (1 : Int32)), .val (.int (1 : Int32)), .val (.int (1 : Int32)), .val (.ref ar323), .val (.int (0 : Int32)), .unset, .unset]) cx st323 at_466 rfl rfl ?_
        refine E_iload (pc' := 470) cx st323 at_468 rfl rfl ?_
        refine E_if_eqN (pc' := 473) cx st323 at_470 rfl (by decide) ?_
        refine E_aload (pc' := 475) cx st323 at_473 rfl rfl rfl ?_
        refine E_iload (pc' := 477) cx st323 at_475 rfl rfl ?_
        refine E_iconst (pc' := 478) cx st323 (0 : Int32) at_477 rfl rfl ?_
        refine E_iastore (pc' := 479) (i := 0) cx st323 V323p ⟨by decide, by decide⟩ rfl (Nat.le_of_ble_eq_true rfl) g_ar323 at_478 rfl ?_
        intro T324 h324 st324 W324 V324
        have Z324 : n0 ≤ h324.size := Nat.le_trans Z323 (Keep.of_wr W324).1
        have V324p : Arv Z h324 ar323 ca323 .int (3 : Int32) [(.int (0 : Int32)), (.int (0 : Int32)), (.int (0 : Int32))] (.int (0 : Int32)) := V324
        refine E_iinc (pc' := 482) (L' := #[.val (.int p0), .val (.int p1), .val (.int p2), .val (.int p3), .val (.int p4), .val (.int p5), .val (.int u1), .val (.int u2), .val (.int u5), .val (.ref ar6), .val (.ref ar13), .val (.ref ar27), .val (.ref ar37), .val (.int dd4), .val (.int dd5), .val (.int dd6), .val (.int dd7), .val (.ref gr), .val (.ref ob77), .val (.int u106), .val (.ref ar116), .val (.int (1 : Int32)), .val (.int (1 : Int32)), .val (.int (1 : Int32)), .val (.ref ar323), .val (.int (1 : Int32)), .unset, .unset]) cx st324 (1 : Int32) at_479 rfl rfl rfl rfl ?_
        refine E_iload (pc' := 484) cx st324 at_482 rfl rfl ?_
        refine E_if_eqN (pc' := 487) cx st324 at_484 rfl (by decide) ?_
        refine E_aload (pc' := 489) cx st324 at_487 rfl rfl rfl ?_
        refine E_iload (pc' := 491) cx st324 at_489 rfl rfl ?_
        refine E_iconst (pc' := 492) cx st324 (1 : Int32) at_491 rfl rfl ?_
        refine E_iastore (pc' := 493) (i := 1) cx st324 V324p ⟨by decide, by decide⟩ rfl (Nat.le_of_ble_eq_true rfl) g_ar323 at_492 rfl ?_
        intro T325 h325 st325 W325 V325
        have Z325 : n0 ≤ h325.size := Nat.le_trans Z324 (Keep.of_wr W325).1
        have V325p : Arv Z h325 ar323 ca323 .int (3 : Int32) [(.int (0 : Int32)), (.int (1 : Int32)), (.int (0 : Int32))] (.int (0 : Int32)) := V325
        refine E_iinc (pc' := 496) (L' := #[.val (.int p0), .val (.int p1), .val (.int p2), .val (.int p3), .val (.int p4), .val (.int p5), .val (.int u1), .val (.int u2), .val (.int u5), .val (.ref ar6), .val (.ref ar13), .val (.ref ar27), .val (.ref ar37), .val (.int dd4), .val (.int dd5), .val (.int dd6), .val (.int dd7), .val (.ref gr), .val (.ref ob77), .val (.int u106), .val (.ref ar116), .val (.int (1 : Int32)), .val (.int (1 : Int32)), .val (.int (1 : Int32)), .val (.ref ar323), .val (.int (2 : Int32)), .unset, .unset]) cx st325 (1 : Int32) at_493 rfl rfl rfl rfl ?_
        refine E_iload (pc' := 498) cx st325 at_496 rfl rfl ?_
        refine E_if_eqN (pc' := 501) cx st325 at_498 rfl (by decide) ?_
        refine E_aload (pc' := 503) cx st325 at_501 rfl rfl rfl ?_
        refine E_iload (pc' := 505) cx st325 at_503 rfl rfl ?_
        refine E_iconst (pc' := 506) cx st325 (2 : Int32) at_505 rfl rfl ?_
        refine E_iastore (pc' := 507) (i := 2) cx st325 V325p ⟨by decide, by decide⟩ rfl (Nat.le_of_ble_eq_true rfl) g_ar323 at_506 rfl ?_
        intro T326 h326 st326 W326 V326
        have Z326 : n0 ≤ h326.size := Nat.le_trans Z325 (Keep.of_wr W326).1
        have V326p : Arv Z h326 ar323 ca323 .int (3 : Int32) [(.int (0 : Int32)), (.int (1 : Int32)), (.int (2 : Int32))] (.int (0 : Int32)) := V326
        refine E_iinc (pc' := 510) (L' := #[.val (.int p0), .val (.int p1), .val (.int p2), .val (.int p3), .val (.int p4), .val (.int p5), .val (.int u1), .val (.int u2), .val (.int u5), .val (.ref ar6), .val (.ref ar13), .val (.ref ar27), .val (.ref ar37), .val (.int dd4), .val (.int dd5), .val (.int dd6), .val (.int dd7), .val (.ref gr), .val (.ref ob77), .val (.int u106), .val (.ref ar116), .val (.int (1 : Int32)), .val (.int (1 : Int32)), .val (.int (1 : Int32)), .val (.ref ar323), .val (.int (3 : Int32)), .unset, .unset]) cx st326 (1 : Int32) at_507 rfl rfl rfl rfl ?_
        refine E_aload (pc' := 512) cx st326 at_510 rfl rfl rfl ?_
        rw [decide_eq_false c122, decide_eq_false c229, decide_eq_false c285] at hnb hcb
        have G327 : Fld Z h326 ob77 "org/querne/sparql/SeedMerge" "seedColumnCount" "I" (.int nb) := (((((((((H6.ext E116).other W117 (Or.inl ne_ob77_ar116)).other W118 (Or.inl ne_ob77_ar116)).other W119 (Or.inl ne_ob77_ar116)).other W120 (Or.inl ne_ob77_ar116)).ext E323).other W324 (Or.inl ne_ob77_ar323)).other W325 (Or.inl ne_ob77_ar323)).other W326 (Or.inl ne_ob77_ar323))
        have V328 : Arv Z h326 sc kC .int (3 : Int32) [(.int yb0), (.int yb1), (.int yb2)] (.int (0 : Int32)) := ((((V321.ext E323).other W324 ne_sc_ar323).other W325 ne_sc_ar323).other W326 ne_sc_ar323)
        obtain rfl : nb = (3 : Int32) := hnb
        have hcb2 : yb0 = (0 : Int32) ∧ yb1 = (1 : Int32) ∧ yb2 = (2 : Int32) := by simpa [oc] using hcb
        obtain ⟨rfl, rfl, rfl⟩ := hcb2
        have X329 : Exa Z h326 ob77 "org/querne/sparql/SeedMerge" := ((((X320.ext E323).wr W324).wr W325).wr W326)
        refine E_callV (pc' := 515) (kc' := 13) (ks' := 39) (W := 0) (a := ob77) (argsL := []) cx st326 [] (rm7 l Z a0 hw ob77 (3 : Int32) h326 n0 Z326 G327) X329 (hw _ (List.mem_of_getElem? (i := 41) rfl)) (hw _ (List.mem_of_getElem? (i := 42) rfl)) (hw _ (List.mem_of_getElem? (i := 44) rfl)) (hw _ (List.mem_of_getElem? (i := 43) rfl)) (hw _ (List.mem_of_getElem? (i := 12) rfl)) (hw _ (List.mem_of_getElem? (i := 45) rfl)) at_512 rfl rfl (lenOf pd_4 rfl) (Nat.le_of_eq rfl) (by decide) (by decide) (by decide) (by decide) (by decide) (by decide) (by decide) rfl ?_
        intro v330 T330 h330 st330 hq330
        obtain ⟨rfl, hh330⟩ := hq330
        rw [hh330] at st330
        refine E_iload (pc' := 517) cx st330 at_515 rfl rfl ?_
        refine E_icmp_neN (pc' := 520) cx st330 at_517 rfl rfl ?_
        refine E_iconst (pc' := 521) cx st330 (1 : Int32) at_520 rfl rfl ?_
        refine E_goto (pc' := 525) cx st330 at_521 (by decide) (by decide) ?_
        refine E_istore (pc' := 527) (L' := #[.val (.int p0), .val (.int p1), .val (.int p2), .val (.int p3), .val (.int p4), .val (.int p5), .val (.int u1), .val (.int u2), .val (.int u5), .val (.ref ar6), .val (.ref ar13), .val (.ref ar27), .val (.ref ar37), .val (.int dd4), .val (.int dd5), .val (.int dd6), .val (.int dd7), .val (.ref gr), .val (.ref ob77), .val (.int u106), .val (.ref ar116), .val (.int (1 : Int32)), .val (.int (1 : Int32)), .val (.int (1 : Int32)), .val (.ref ar323), .val (.int (3 : Int32)), .val (.int (1 : Int32)), .unset]) cx st330 at_525 rfl rfl ?_
        refine E_iload (pc' := 529) cx st330 at_527 rfl rfl ?_
        refine E_if_eqN (pc' := 532) cx st330 at_529 rfl (by decide) ?_
        refine E_iload (pc' := 534) cx st330 at_532 rfl rfl ?_
        refine E_if_leN (pc' := 537) cx st330 at_534 rfl (by decide) ?_
        refine E_aload (pc' := 539) cx st330 at_537 rfl rfl rfl ?_
        refine E_iconst (pc' := 540) cx st330 (0 : Int32) at_539 rfl rfl ?_
        have G331 : Fld Z h326 ob77 "org/querne/sparql/SeedMerge" "seedColumns" "[I" (.ref sc) := (((((((((H3.ext E116).other W117 (Or.inl ne_ob77_ar116)).other W118 (Or.inl ne_ob77_ar116)).other W119 (Or.inl ne_ob77_ar116)).other W120 (Or.inl ne_ob77_ar116)).ext E323).other W324 (Or.inl ne_ob77_ar323)).other W325 (Or.inl ne_ob77_ar323)).other W326 (Or.inl ne_ob77_ar323))
        refine E_callV (pc' := 543) (kc' := 13) (ks' := 39) (W := 0) (a := ob77) (argsL := [(.int (0 : Int32))]) cx st330 [] (rm8i0 l Z a0 hw ob77 sc (0 : Int32) (1 : Int32) (2 : Int32) h326 n0 Z326 kC G331 V328) X329 (hw _ (List.mem_of_getElem? (i := 46) rfl)) (hw _ (List.mem_of_getElem? (i := 47) rfl)) (hw _ (List.mem_of_getElem? (i := 49) rfl)) (hw _ (List.mem_of_getElem? (i := 48) rfl)) (hw _ (List.mem_of_getElem? (i := 12) rfl)) (hw _ (List.mem_of_getElem? (i := 50) rfl)) at_540 rfl rfl (lenOf pd_5 rfl) (Nat.le_of_eq rfl) (by decide) (by decide) (by decide) (by decide) (by decide) (by decide) (by decide) rfl ?_
        intro v332 T332 h332 st332 hq332
        obtain ⟨rfl, hh332⟩ := hq332
        rw [hh332] at st332
        refine E_aload (pc' := 545) cx st332 at_543 rfl rfl rfl ?_
        refine E_iconst (pc' := 546) cx st332 (0 : Int32) at_545 rfl rfl ?_
        refine E_iaload (pc' := 547) (x := (0 : Int32)) cx st332 V326p ⟨by decide, by decide⟩ rfl at_546 rfl ?_
        refine E_icmp_neN (pc' := 550) cx st332 at_547 rfl rfl ?_
        refine E_iconst (pc' := 551) cx st332 (1 : Int32) at_550 rfl rfl ?_
        refine E_goto (pc' := 555) cx st332 at_551 (by decide) (by decide) ?_
        refine E_istore (pc' := 557) (L' := #[.val (.int p0), .val (.int p1), .val (.int p2), .val (.int p3), .val (.int p4), .val (.int p5), .val (.int u1), .val (.int u2), .val (.int u5), .val (.ref ar6), .val (.ref ar13), .val (.ref ar27), .val (.ref ar37), .val (.int dd4), .val (.int dd5), .val (.int dd6), .val (.int dd7), .val (.ref gr), .val (.ref ob77), .val (.int u106), .val (.ref ar116), .val (.int (1 : Int32)), .val (.int (1 : Int32)), .val (.int (1 : Int32)), .val (.ref ar323), .val (.int (3 : Int32)), .val (.int (1 : Int32)), .unset]) cx st332 at_555 rfl rfl ?_
        refine E_iload (pc' := 559) cx st332 at_557 rfl rfl ?_
        refine E_if_eqN (pc' := 562) cx st332 at_559 rfl (by decide) ?_
        refine E_iload (pc' := 564) cx st332 at_562 rfl rfl ?_
        refine E_iconst (pc' := 565) cx st332 (1 : Int32) at_564 rfl rfl ?_
        refine E_icmp_leN (pc' := 568) cx st332 at_565 rfl (by decide) ?_
        refine E_aload (pc' := 570) cx st332 at_568 rfl rfl rfl ?_
        refine E_iconst (pc' := 571) cx st332 (1 : Int32) at_570 rfl rfl ?_
        refine E_callV (pc' := 574) (kc' := 13) (ks' := 39) (W := 0) (a := ob77) (argsL := [(.int (1 : Int32))]) cx st332 [] (rm8i1 l Z a0 hw ob77 sc (0 : Int32) (1 : Int32) (2 : Int32) h326 n0 Z326 kC G331 V328) X329 (hw _ (List.mem_of_getElem? (i := 46) rfl)) (hw _ (List.mem_of_getElem? (i := 47) rfl)) (hw _ (List.mem_of_getElem? (i := 49) rfl)) (hw _ (List.mem_of_getElem? (i := 48) rfl)) (hw _ (List.mem_of_getElem? (i := 12) rfl)) (hw _ (List.mem_of_getElem? (i := 50) rfl)) at_571 rfl rfl (lenOf pd_5 rfl) (Nat.le_of_eq rfl) (by decide) (by decide) (by decide) (by decide) (by decide) (by decide) (by decide) rfl ?_
        intro v333 T333 h333 st333 hq333
        obtain ⟨rfl, hh333⟩ := hq333
        rw [hh333] at st333
        refine E_aload (pc' := 576) cx st333 at_574 rfl rfl rfl ?_
        refine E_iconst (pc' := 577) cx st333 (1 : Int32) at_576 rfl rfl ?_
        refine E_iaload (pc' := 578) (x := (1 : Int32)) cx st333 V326p ⟨by decide, by decide⟩ rfl at_577 rfl ?_
        refine E_icmp_neN (pc' := 581) cx st333 at_578 rfl rfl ?_
        refine E_iconst (pc' := 582) cx st333 (1 : Int32) at_581 rfl rfl ?_
        refine E_goto (pc' := 586) cx st333 at_582 (by decide) (by decide) ?_
        refine E_istore (pc' := 588) (L' := #[.val (.int p0), .val (.int p1), .val (.int p2), .val (.int p3), .val (.int p4), .val (.int p5), .val (.int u1), .val (.int u2), .val (.int u5), .val (.ref ar6), .val (.ref ar13), .val (.ref ar27), .val (.ref ar37), .val (.int dd4), .val (.int dd5), .val (.int dd6), .val (.int dd7), .val (.ref gr), .val (.ref ob77), .val (.int u106), .val (.ref ar116), .val (.int (1 : Int32)), .val (.int (1 : Int32)), .val (.int (1 : Int32)), .val (.ref ar323), .val (.int (3 : Int32)), .val (.int (1 : Int32)), .unset]) cx st333 at_586 rfl rfl ?_
        refine E_iload (pc' := 590) cx st333 at_588 rfl rfl ?_
        refine E_if_eqN (pc' := 593) cx st333 at_590 rfl (by decide) ?_
        refine E_iload (pc' := 595) cx st333 at_593 rfl rfl ?_
        refine E_iconst (pc' := 596) cx st333 (2 : Int32) at_595 rfl rfl ?_
        refine E_icmp_leN (pc' := 599) cx st333 at_596 rfl (by decide) ?_
        refine E_aload (pc' := 601) cx st333 at_599 rfl rfl rfl ?_
        refine E_iconst (pc' := 602) cx st333 (2 : Int32) at_601 rfl rfl ?_
        refine E_callV (pc' := 605) (kc' := 13) (ks' := 39) (W := 0) (a := ob77) (argsL := [(.int (2 : Int32))]) cx st333 [] (rm8i2 l Z a0 hw ob77 sc (0 : Int32) (1 : Int32) (2 : Int32) h326 n0 Z326 kC G331 V328) X329 (hw _ (List.mem_of_getElem? (i := 46) rfl)) (hw _ (List.mem_of_getElem? (i := 47) rfl)) (hw _ (List.mem_of_getElem? (i := 49) rfl)) (hw _ (List.mem_of_getElem? (i := 48) rfl)) (hw _ (List.mem_of_getElem? (i := 12) rfl)) (hw _ (List.mem_of_getElem? (i := 50) rfl)) at_602 rfl rfl (lenOf pd_5 rfl) (Nat.le_of_eq rfl) (by decide) (by decide) (by decide) (by decide) (by decide) (by decide) (by decide) rfl ?_
        intro v334 T334 h334 st334 hq334
        obtain ⟨rfl, hh334⟩ := hq334
        rw [hh334] at st334
        refine E_aload (pc' := 607) cx st334 at_605 rfl rfl rfl ?_
        refine E_iconst (pc' := 608) cx st334 (2 : Int32) at_607 rfl rfl ?_
        refine E_iaload (pc' := 609) (x := (2 : Int32)) cx st334 V326p ⟨by decide, by decide⟩ rfl at_608 rfl ?_
        refine E_icmp_neN (pc' := 612) cx st334 at_609 rfl rfl ?_
        refine E_iconst (pc' := 613) cx st334 (1 : Int32) at_612 rfl rfl ?_
        refine E_goto (pc' := 617) cx st334 at_613 (by decide) (by decide) ?_
        refine E_istore (pc' := 619) (L' := #[.val (.int p0), .val (.int p1), .val (.int p2), .val (.int p3), .val (.int p4), .val (.int p5), .val (.int u1), .val (.int u2), .val (.int u5), .val (.ref ar6), .val (.ref ar13), .val (.ref ar27), .val (.ref ar37), .val (.int dd4), .val (.int dd5), .val (.int dd6), .val (.int dd7), .val (.ref gr), .val (.ref ob77), .val (.int u106), .val (.ref ar116), .val (.int (1 : Int32)), .val (.int (1 : Int32)), .val (.int (1 : Int32)), .val (.ref ar323), .val (.int (3 : Int32)), .val (.int (1 : Int32)), .unset]) cx st334 at_617 rfl rfl ?_
        refine E_iloadN (pc' := 620) cx st334 at_619 rfl rfl ?_
        refine E_bipush (pc' := 622) cx st334 (12 : Int32) at_620 rfl rfl ?_
        refine E_iushr (pc' := 623) cx st334 at_622 rfl ?_
        refine E_iconst (pc' := 624) cx st334 (3 : Int32) at_623 rfl rfl ?_
        refine E_irem (pc' := 625) cx st334 at_624 (by decide) rfl ?_
        refine E_istore (pc' := 627) (L' := #[.val (.int p0), .val (.int p1), .val (.int p2), .val (.int p3), .val (.int p4), .val (.int p5), .val (.int u1), .val (.int u2), .val (.int u5), .val (.ref ar6), .val (.ref ar13), .val (.ref ar27), .val (.ref ar37), .val (.int dd4), .val (.int dd5), .val (.int dd6), .val (.int dd7), .val (.ref gr), .val (.ref ob77), .val (.int u106), .val (.ref ar116), .val (.int (1 : Int32)), .val (.int (1 : Int32)), .val (.int (1 : Int32)), .val (.ref ar323), .val (.int (3 : Int32)), .val (.int (1 : Int32)), .val (.int (((p0.toUInt32 >>> ((12 : Int32) &&& 31).toUInt32).toInt32) % (3 : Int32)))]) cx st334 at_625 rfl rfl ?_
        refine E_iload (pc' := 629) cx st334 at_627 rfl rfl ?_
        refine E_if_eqN (pc' := 632) cx st334 at_629 rfl (by decide) ?_
        refine E_aload (pc' := 634) cx st334 at_632 rfl rfl rfl ?_
        refine E_iload (pc' := 636) cx st334 at_634 rfl rfl ?_
        have G335 : Fld Z h326 ob77 "org/querne/sparql/SeedMerge" "seed" "[I" (.ref ar37) := (((((((((H2.ext E116).other W117 (Or.inl ne_ob77_ar116)).other W118 (Or.inl ne_ob77_ar116)).other W119 (Or.inl ne_ob77_ar116)).other W120 (Or.inl ne_ob77_ar116)).ext E323).other W324 (Or.inl ne_ob77_ar323)).other W325 (Or.inl ne_ob77_ar323)).other W326 (Or.inl ne_ob77_ar323))
        have G336 : Fld Z h326 ob77 "org/querne/sparql/SeedMerge" "slots" "[I" (.ref ar13) := (((((((((H1.ext E116).other W117 (Or.inl ne_ob77_ar116)).other W118 (Or.inl ne_ob77_ar116)).other W119 (Or.inl ne_ob77_ar116)).other W120 (Or.inl ne_ob77_ar116)).ext E323).other W324 (Or.inl ne_ob77_ar323)).other W325 (Or.inl ne_ob77_ar323)).other W326 (Or.inl ne_ob77_ar323))
        have V337 : Arv Z h326 ar13 ca13 .int (3 : Int32) [(.int t0), (.int t1), (.int t2)] (.int (0 : Int32)) := ((((V121.ext E323).other W324 ne_ar13_ar323).other W325 ne_ar13_ar323).other W326 ne_ar13_ar323)
        have V338 : Arv Z h326 ar37 ca37 .int (4 : Int32) [(.int dd4), (.int dd5), (.int dd6), (.int dd7)] (.int (0 : Int32)) := ((((V315.ext E323).other W324 ne_ar37_ar323).other W325 ne_ar37_ar323).other W326 ne_ar37_ar323)
        refine E_callV (pc' := 639) (kc' := 13) (ks' := 39) (W := 0) (a := ob77) (argsL := [(.int (((p0.toUInt32 >>> ((12 : Int32) &&& 31).toUInt32).toInt32) % (3 : Int32)))]) cx st334 [] (rm9 l Z a0 hw ob77 (((p0.toUInt32 >>> ((12 : Int32) &&& 31).toUInt32).toInt32) % (3 : Int32)) ar13 ar37 t0 t1 t2 dd4 dd5 dd6 dd7 h326 n0 Z326 ca13 ca37 G335 G336 V337 V338 hcol hxc) X329 (hw _ (List.mem_of_getElem? (i := 51) rfl)) (hw _ (List.mem_of_getElem? (i := 52) rfl)) (hw _ (List.mem_of_getElem? (i := 54) rfl)) (hw _ (List.mem_of_getElem? (i := 53) rfl)) (hw _ (List.mem_of_getElem? (i := 12) rfl)) (hw _ (List.mem_of_getElem? (i := 55) rfl)) at_636 rfl rfl (lenOf pd_5 rfl) (Nat.le_of_eq rfl) (by decide) (by decide) (by decide) (by decide) (by decide) (by decide) (by decide) rfl ?_
        intro v339 T339 h339 st339 hq339
        obtain ⟨rfl, hh339⟩ := hq339
        rw [hh339] at st339
        refine E_aload (pc' := 641) cx st339 at_639 rfl rfl rfl ?_
        refine E_aload (pc' := 643) cx st339 at_641 rfl rfl rfl ?_
        refine E_iload (pc' := 645) cx st339 at_643 rfl rfl ?_
        refine E_iaload (pc' := 646) (x := ([t0, t1, t2].getD (((p0.toUInt32 >>> ((12 : Int32) &&& 31).toUInt32).toInt32) % (3 : Int32)).toNatClampNeg 0)) cx st339 V337 hcol (getD_int [t0, t1, t2] _ 0) at_645 rfl ?_
        have V340 : Arv Z h326 ar116 ca116 .int (4 : Int32) [(.int dd4), (.int dd5), (.int dd6), (.int dd7)] (.int (0 : Int32)) := ((((V120p.ext E323).other W324 ne_ar116_ar323).other W325 ne_ar116_ar323).other W326 ne_ar116_ar323)
        refine E_iaload (pc' := 647) (x := ([dd4, dd5, dd6, dd7].getD ([t0, t1, t2].getD (((p0.toUInt32 >>> ((12 : Int32) &&& 31).toUInt32).toInt32) % (3 : Int32)).toNatClampNeg 0).toNatClampNeg 0)) cx st339 V340 hxc (getD_int [dd4, dd5, dd6, dd7] _ 0) at_646 rfl ?_
        refine E_icmp_neN (pc' := 650) cx st339 at_647 rfl rfl ?_
        refine E_iconst (pc' := 651) cx st339 (1 : Int32) at_650 rfl rfl ?_
        refine E_goto (pc' := 655) cx st339 at_651 (by decide) (by decide) ?_
        refine E_istore (pc' := 657) (L' := #[.val (.int p0), .val (.int p1), .val (.int p2), .val (.int p3), .val (.int p4), .val (.int p5), .val (.int u1), .val (.int u2), .val (.int u5), .val (.ref ar6), .val (.ref ar13), .val (.ref ar27), .val (.ref ar37), .val (.int dd4), .val (.int dd5), .val (.int dd6), .val (.int dd7), .val (.ref gr), .val (.ref ob77), .val (.int u106), .val (.ref ar116), .val (.int (1 : Int32)), .val (.int (1 : Int32)), .val (.int (1 : Int32)), .val (.ref ar323), .val (.int (3 : Int32)), .val (.int (1 : Int32)), .val (.int (((p0.toUInt32 >>> ((12 : Int32) &&& 31).toUInt32).toInt32) % (3 : Int32)))]) cx st339 at_655 rfl rfl ?_
        refine E_aload (pc' := 659) cx st339 at_657 rfl rfl rfl ?_
        have G341 : Fld Z h326 ob77 "org/querne/sparql/SeedMerge" "mergedCount" "I" (.int (0 : Int32)) := (((((((((H5.ext E116).other W117 (Or.inl ne_ob77_ar116)).other W118 (Or.inl ne_ob77_ar116)).other W119 (Or.inl ne_ob77_ar116)).other W120 (Or.inl ne_ob77_ar116)).ext E323).other W324 (Or.inl ne_ob77_ar323)).other W325 (Or.inl ne_ob77_ar323)).other W326 (Or.inl ne_ob77_ar323))
        refine E_callV (pc' := 662) (kc' := 13) (ks' := 39) (W := 0) (a := ob77) (argsL := []) cx st339 [] (rm10 l Z a0 hw ob77 h326 n0 Z326 g_ob77 X329 G341) X329 (hw _ (List.mem_of_getElem? (i := 56) rfl)) (hw _ (List.mem_of_getElem? (i := 57) rfl)) (hw _ (List.mem_of_getElem? (i := 59) rfl)) (hw _ (List.mem_of_getElem? (i := 58) rfl)) (hw _ (List.mem_of_getElem? (i := 12) rfl)) (hw _ (List.mem_of_getElem? (i := 60) rfl)) at_659 rfl rfl (lenOf pd_6 rfl) (Nat.le_of_eq rfl) (by decide) (by decide) (by decide) (by decide) (by decide) (by decide) (by decide) rfl ?_
        intro v342 T342 h342 st342 hq342
        obtain ⟨rfl, Ku⟩ := hq342
        have Z342 : n0 ≤ h342.size := Nat.le_trans Z326 Ku.1
        refine E_iload (pc' := 664) cx st342 at_662 rfl rfl ?_
        refine E_if_eqN (pc' := 667) cx st342 at_664 rfl (by decide) ?_
        refine E_aload (pc' := 669) cx st342 at_667 rfl rfl rfl ?_
        refine E_iconst (pc' := 670) cx st342 (0 : Int32) at_669 rfl rfl ?_
        have V343 : Arv Z h342 ar37 ca37 .int (4 : Int32) [(.int dd4), (.int dd5), (.int dd6), (.int dd7)] (.int (0 : Int32)) := (V338.keep Ku (ninS ne_ar37_ob77 nin0))
        refine E_iaload (pc' := 671) (x := dd4) cx st342 V343 ⟨by decide, by decide⟩ rfl at_670 rfl ?_
        refine E_iload (pc' := 673) cx st342 at_671 rfl rfl ?_
        refine E_icmp_neN (pc' := 676) cx st342 at_673 rfl rfl ?_
        refine E_aload (pc' := 678) cx st342 at_676 rfl rfl rfl ?_
        refine E_iconst (pc' := 679) cx st342 (1 : Int32) at_678 rfl rfl ?_
        refine E_iaload (pc' := 680) (x := dd5) cx st342 V343 ⟨by decide, by decide⟩ rfl at_679 rfl ?_
        refine E_iload (pc' := 682) cx st342 at_680 rfl rfl ?_
        refine E_icmp_neN (pc' := 685) cx st342 at_682 rfl rfl ?_
        refine E_aload (pc' := 687) cx st342 at_685 rfl rfl rfl ?_
        refine E_iconst (pc' := 688) cx st342 (2 : Int32) at_687 rfl rfl ?_
        refine E_iaload (pc' := 689) (x := dd6) cx st342 V343 ⟨by decide, by decide⟩ rfl at_688 rfl ?_
        refine E_iload (pc' := 691) cx st342 at_689 rfl rfl ?_
        refine E_icmp_neN (pc' := 694) cx st342 at_691 rfl rfl ?_
        refine E_aload (pc' := 696) cx st342 at_694 rfl rfl rfl ?_
        refine E_iconst (pc' := 697) cx st342 (3 : Int32) at_696 rfl rfl ?_
        refine E_iaload (pc' := 698) (x := dd7) cx st342 V343 ⟨by decide, by decide⟩ rfl at_697 rfl ?_
        refine E_iload (pc' := 700) cx st342 at_698 rfl rfl ?_
        refine E_icmp_neN (pc' := 703) cx st342 at_700 rfl rfl ?_
        refine E_iconst (pc' := 704) cx st342 (1 : Int32) at_703 rfl rfl ?_
        refine E_goto (pc' := 708) cx st342 at_704 (by decide) (by decide) ?_
        refine E_istore (pc' := 710) (L' := #[.val (.int p0), .val (.int p1), .val (.int p2), .val (.int p3), .val (.int p4), .val (.int p5), .val (.int u1), .val (.int u2), .val (.int u5), .val (.ref ar6), .val (.ref ar13), .val (.ref ar27), .val (.ref ar37), .val (.int dd4), .val (.int dd5), .val (.int dd6), .val (.int dd7), .val (.ref gr), .val (.ref ob77), .val (.int u106), .val (.ref ar116), .val (.int (1 : Int32)), .val (.int (1 : Int32)), .val (.int (1 : Int32)), .val (.ref ar323), .val (.int (3 : Int32)), .val (.int (1 : Int32)), .val (.int (((p0.toUInt32 >>> ((12 : Int32) &&& 31).toUInt32).toInt32) % (3 : Int32)))]) cx st342 at_708 rfl rfl ?_
        refine E_iload (pc' := 712) cx st342 at_710 rfl rfl ?_
        refine E_if_neY (pc' := 725) cx st342 at_712 (by decide) (by decide) (by decide) ?_
        refine E_iconst (pc' := 726) cx st342 (1 : Int32) at_725 rfl rfl ?_
        refine E_goto (pc' := 730) cx st342 at_726 (by decide) (by decide) ?_
        refine E_ireturn (t := .boolean) cx st342 at_730 rfl (by simp) rfl (by decide) (by decide) ?_
        exact rfl
set_option maxRecDepth 65536 in
set_option maxHeartbeats 40000000 in
theorem comes_1 {Post : Tables → Env → Array Value → State → Outcome → State → Prop} (hpost : ∀ tb e args s v u, (limb_1_1.after args s (.returned v) u = true ∧ limb_1_2.after args s (.returned v) u = true ∧ True) → FrameEnd s (.returned v) u (Jvm.fieldLocs frame_1_writes args s ++ Jvm.arrayLocs frame_1_arrays args s ++ Jvm.staticLocs frame_1_statics s) 40 192 → Post tb e args s (.returned v) u) :
    ArmFor flags0 classFile x code maxLocals ret World_1 tables_1 room_1 Calls_1 rest_1 Pre_1 Post := by
  intro l hfl _ _ p e ha hc hk s m args below hf hA hF happ hP
  obtain ⟨hcalls, hrest, hpre⟩ := hP
  obtain ⟨-, -, -, hnamed, -, -, -, hat⟩ := (Spec.applies_iff hf).mp happ
  obtain ⟨hg, hn⟩ := and_e (Cond.before_iff.mp (show (Jvm.Cond.and given_1 narrow_1).before args s = true from hpre))
  obtain ⟨g0, hg⟩ := and_e hg
  obtain ⟨ga0, hg⟩ := and_e hg
  obtain ⟨ga1, hg⟩ := and_e hg
  obtain ⟨ga2, hg⟩ := and_e hg
  obtain ⟨ga3, hg⟩ := and_e hg
  obtain ⟨ga4, hg⟩ := and_e hg
  have ga5 := hg
  obtain ⟨w0, w1, w2, w3, w4, w5, rfl⟩ : ∃ w0 w1 w2 w3 w4 w5 : Value, args = #[w0, w1, w2, w3, w4, w5] := by
    have hs : args.size = 6 := by simpa [Cond.value, given_1] using g0
    obtain ⟨L⟩ := args
    match L, hs with
    | [w0, w1, w2, w3, w4, w5], _ => exact ⟨w0, w1, w2, w3, w4, w5, rfl⟩
  have hw := fun d (hd : d ∈ tables_1) => atoms_spec (ws := Jvm.Cond.code x code maxLocals ret :: tables_1) hat d (List.mem_cons_of_mem _ hd)
  obtain ⟨i0, ei0⟩ := is_v ga0
  obtain rfl : w0 = (.int i0) := Option.some.inj ei0
  obtain ⟨i1, ei1⟩ := is_v ga1
  obtain rfl : w1 = (.int i1) := Option.some.inj ei1
  obtain ⟨i2, ei2⟩ := is_v ga2
  obtain rfl : w2 = (.int i2) := Option.some.inj ei2
  obtain ⟨i3, ei3⟩ := is_v ga3
  obtain rfl : w3 = (.int i3) := Option.some.inj ei3
  obtain ⟨i4, ei4⟩ := is_v ga4
  obtain rfl : w4 = (.int i4) := Option.some.inj ei4
  obtain ⟨i5, ei5⟩ := is_v ga5
  obtain rfl : w5 = (.int i5) := Option.some.inj ei5
  obtain ⟨n, o, h1, h2, h3, _, L, rfl, ⟨N, rfl⟩, hq⟩ := rm0 l s _ hw i0 i1 i2 i3 i4 i5 s.heap s.heap.size (Nat.le_refl _) tables_1 p e ha hc hk s m _ below hf ((Spec.applies_iff_loose hf).mp happ).1 ⟨rfl, State.Warmed39.refl s, rfl⟩ trivial
  refine ⟨n, _, h1, h2, h3, hpost _ _ _ _ _ _ ⟨Cond.after_iff.mpr rfl, Cond.after_iff.mpr (eq_i res_at (Term.int_eval (1)) rfl), trivial⟩ ⟨hq.1, hq.2.1, (hq.2.2.sift fun y hy => Or.inr (N y hy)).mono (by decide) (by decide)⟩⟩
theorem main_1_1 : Claimed_1_1 := comes_1 fun _ _ _ _ _ _ h hF => ⟨h.1, hF⟩
theorem main_1_2 : Claimed_1_2 := comes_1 fun _ _ _ _ _ _ h hF => ⟨h.2.1, hF⟩
end Jvm.Pilot.@@N@@
namespace Jvm.Pilot.@@N@@
open Jvm Jvm.ClassFile Sem Op Lib Jvm.Free Jvm.Stand Jvm.Pilot.@@N@@.Jvm.D
/-! MADE BY PROGRAM (witnessworld.py) out of the Statement's table words and the real class files: 9 classes; the members and pool entries that the words name. The judged class is class 1, her method 3. -/
namespace start1
open Jvm.ClassFile
def u (s : String) : CpInfo := .utf8 (stringToUtf16 s)
/-- a pool by its gaps: so many unusable entries, then the entry; so many at the end -/
def gap : Nat → List CpInfo → List CpInfo
  | 0, r => r
  | n + 1, r => .unusable :: gap n r
def poolList (es : List (Nat × CpInfo)) (last : Nat) : List CpInfo := es.foldr (fun e r => gap e.1 (e.2 :: r)) (gap last [])
def pool (es : List (Nat × CpInfo)) (last : Nat) : Array CpInfo := ⟨poolList es last⟩
def fileOf (pool : Array CpInfo) (this : Nat) (attrs : Array Attribute := #[]) (ms : Array MethodInfo := #[]) (fl : Nat := 33) (sup : Nat := 0) (ifs : Array Nat := #[]) (fds : Array FieldInfo := #[]) : ClassFile where
  minorVersion := 0
  majorVersion := 65
  constantPool := pool
  accessFlags := fl
  thisClass := this
  superClass := sup
  interfaces := ifs
  fields := fds
  methods := ms
  attributes := attrs
def plain (name : String) (sup : Option ClassId) : Class where
  name := name
  kind := .ordinary
  loader := none
  accessFlags := 33
  super := sup
  interfaces := #[]
  cf := none
  fields := #[]
  methods := #[]
  instanceTypes := #[]
  staticTypes := #[]
  resolved := #[]
  callSites := []
  init := .initialized
  statics := none
  mirror := none

def pool0 : Array CpInfo := pool [(5, u "<init>"), (0, u "()V"), (1, .class_ 10), (1, u "java/lang/Object")] 113

def k0c0 : Code := { maxStack := 0, maxLocals := 1, code := object_method_1_code, exceptionTable := #[], attributes := #[] }
def k0m0 : Method := { name := "<init>", desc := "()V", sig := { parameters := [], returnType := none }, accessFlags := 1, code := some k0c0 }
/-- java/lang/Object -/
def k0 : Class := { plain "java/lang/Object" none with
  accessFlags := 33
  interfaces := #[]
  cf := some (fileOf pool0 8 #[] #[{ accessFlags := 1, nameIndex := 5, descriptorIndex := 6, attributes := #[] }] 33 0 #[] #[])
  fields := #[]
  methods := #[k0m0]
  instanceTypes := #[]
  staticTypes := #[]
  resolved := Array.replicate 124 none
  statics := none }

def pool1 : Array CpInfo := pool [(2, .class_ 4), (1, u "java/lang/Object"), (0, u "<init>"), (0, u "()V"), (2, .methodref 10 11), (0, .class_ 12), (0, .nameAndType 13 14), (0, u "org/querne/sparql/SeedMergeOpenPinLaw"), (0, u "rest"), (0, u "(II)I"), (0, .methodref 10 16), (0, .nameAndType 17 18), (0, u "drawn"), (0, u "(III)I"), (0, .class_ 20), (0, u "[[I"), (0, .class_ 22), (0, u "org/querne/sparql/SeedMerge"), (0, .methodref 21 24), (0, .nameAndType 5 25), (0, u "([I)V"), (0, .methodref 21 27), (0, .nameAndType 28 25), (0, u "open"), (0, .methodref 21 30), (0, .nameAndType 31 32), (0, u "merge"), (0, u "([[II)V"), (0, .methodref 21 34), (0, .nameAndType 35 36), (0, u "seedColumnCount"), (0, u "()I"), (0, .methodref 21 38), (0, .nameAndType 39 40), (0, u "seedColumn"), (0, u "(I)I"), (0, .methodref 21 42), (0, .nameAndType 43 40), (0, u "seedTerm"), (0, .methodref 21 45), (0, .nameAndType 46 6), (0, u "unmerge"), (3, u "law"), (0, u "(IIIIII)Z")] 4

def k1m0 : Method := { name := "<init>", desc := "()V", sig := { parameters := [], returnType := none }, accessFlags := 1, code := none }
def k1c1 : Code := { maxStack := 2, maxLocals := 2, code := method_2_code, exceptionTable := #[], attributes := #[] }
def k1m1 : Method := { name := "rest", desc := "(II)I", sig := { parameters := [.int, .int], returnType := some .int }, accessFlags := 10, code := some k1c1 }
def k1c2 : Code := { maxStack := 2, maxLocals := 3, code := method_3_code, exceptionTable := #[], attributes := #[] }
def k1m2 : Method := { name := "drawn", desc := "(III)I", sig := { parameters := [.int, .int, .int], returnType := some .int }, accessFlags := 10, code := some k1c2 }
def k1c3 : Code := { maxStack := 6, maxLocals := 28, code := code, exceptionTable := #[], attributes := #[] }
def k1m3 : Method := { name := "law", desc := "(IIIIII)Z", sig := { parameters := [.int, .int, .int, .int, .int, .int], returnType := some .boolean }, accessFlags := 9, code := some k1c3 }
/-- org/querne/sparql/SeedMergeOpenPinLaw -/
def k1 : Class := { plain "org/querne/sparql/SeedMergeOpenPinLaw" (some 0) with
  accessFlags := 49
  interfaces := #[]
  cf := some (fileOf pool1 10 #[] #[{ accessFlags := 1, nameIndex := 5, descriptorIndex := 6, attributes := #[] }, { accessFlags := 10, nameIndex := 13, descriptorIndex := 14, attributes := #[] }, { accessFlags := 10, nameIndex := 17, descriptorIndex := 18, attributes := #[] }, { accessFlags := 9, nameIndex := 50, descriptorIndex := 51, attributes := #[] }] 49 2 #[] #[])
  fields := #[]
  methods := #[k1m0, k1m1, k1m2, k1m3]
  instanceTypes := #[]
  staticTypes := #[]
  resolved := Array.replicate 56 none
  statics := none }

def pool2 : Array CpInfo := pool [(1, .methodref 2 3), (0, .class_ 4), (0, .nameAndType 5 6), (0, u "java/lang/Object"), (0, u "<init>"), (0, u "()V"), (0, .fieldref 8 9), (0, .class_ 10), (0, .nameAndType 11 12), (0, u "org/querne/sparql/SeedMerge"), (0, u "slots"), (0, u "[I"), (0, .fieldref 8 14), (0, .nameAndType 15 12), (0, u "seedColumns"), (0, .fieldref 8 17), (0, .nameAndType 18 12), (0, u "merged"), (0, .fieldref 8 20), (0, .nameAndType 21 12), (0, u "seed"), (0, .fieldref 8 23), (0, .nameAndType 24 25), (0, u "mergedCount"), (0, u "I"), (0, .fieldref 8 27), (0, .nameAndType 28 25), (0, u "seedColumnCount"), (2, u "([I)V"), (2, u "open"), (1, u "()I"), (0, u "seedColumn"), (0, u "(I)I"), (0, u "seedTerm"), (3, u "merge"), (0, u "([[II)V"), (0, u "unmerge")] 2

def k2c0 : Code := { maxStack := 2, maxLocals := 2, code := prog_348_method_1_code, exceptionTable := #[], attributes := #[] }
def k2m0 : Method := { name := "<init>", desc := "([I)V", sig := { parameters := [(.array .int)], returnType := none }, accessFlags := 0, code := some k2c0 }
def k2c1 : Code := { maxStack := 5, maxLocals := 3, code := prog_348_method_2_code, exceptionTable := #[], attributes := #[] }
def k2m1 : Method := { name := "open", desc := "([I)V", sig := { parameters := [(.array .int)], returnType := none }, accessFlags := 0, code := some k2c1 }
def k2c2 : Code := { maxStack := 1, maxLocals := 1, code := prog_348_method_3_code, exceptionTable := #[], attributes := #[] }
def k2m2 : Method := { name := "seedColumnCount", desc := "()I", sig := { parameters := [], returnType := some .int }, accessFlags := 0, code := some k2c2 }
def k2c3 : Code := { maxStack := 2, maxLocals := 2, code := prog_348_method_4_code, exceptionTable := #[], attributes := #[] }
def k2m3 : Method := { name := "seedColumn", desc := "(I)I", sig := { parameters := [.int], returnType := some .int }, accessFlags := 0, code := some k2c3 }
def k2c4 : Code := { maxStack := 3, maxLocals := 2, code := prog_348_method_5_code, exceptionTable := #[], attributes := #[] }
def k2m4 : Method := { name := "seedTerm", desc := "(I)I", sig := { parameters := [.int], returnType := some .int }, accessFlags := 0, code := some k2c4 }
def k2c5 : Code := { maxStack := 5, maxLocals := 6, code := prog_348_method_8_code, exceptionTable := #[], attributes := #[] }
def k2m5 : Method := { name := "merge", desc := "([[II)V", sig := { parameters := [(.array (.array .int)), .int], returnType := none }, accessFlags := 0, code := some k2c5 }
def k2c6 : Code := { maxStack := 3, maxLocals := 2, code := prog_348_method_9_code, exceptionTable := #[], attributes := #[] }
def k2m6 : Method := { name := "unmerge", desc := "()V", sig := { parameters := [], returnType := none }, accessFlags := 0, code := some k2c6 }
/-- org/querne/sparql/SeedMerge -/
def k2 : Class := { plain "org/querne/sparql/SeedMerge" (some 0) with
  accessFlags := 48
  interfaces := #[]
  cf := some (fileOf pool2 8 #[] #[{ accessFlags := 0, nameIndex := 5, descriptorIndex := 31, attributes := #[] }, { accessFlags := 0, nameIndex := 34, descriptorIndex := 31, attributes := #[] }, { accessFlags := 0, nameIndex := 28, descriptorIndex := 36, attributes := #[] }, { accessFlags := 0, nameIndex := 37, descriptorIndex := 38, attributes := #[] }, { accessFlags := 0, nameIndex := 39, descriptorIndex := 38, attributes := #[] }, { accessFlags := 0, nameIndex := 43, descriptorIndex := 44, attributes := #[] }, { accessFlags := 0, nameIndex := 45, descriptorIndex := 6, attributes := #[] }] 48 2 #[] #[{ accessFlags := 18, nameIndex := 11, descriptorIndex := 12, attributes := #[] }, { accessFlags := 2, nameIndex := 21, descriptorIndex := 12, attributes := #[] }, { accessFlags := 18, nameIndex := 15, descriptorIndex := 12, attributes := #[] }, { accessFlags := 2, nameIndex := 28, descriptorIndex := 25, attributes := #[] }, { accessFlags := 18, nameIndex := 18, descriptorIndex := 12, attributes := #[] }, { accessFlags := 2, nameIndex := 24, descriptorIndex := 25, attributes := #[] }])
  fields := #[{ name := "slots", type := (.array .int), accessFlags := 18, slot := 0, constantValue := 0 }, { name := "seed", type := (.array .int), accessFlags := 2, slot := 1, constantValue := 0 }, { name := "seedColumns", type := (.array .int), accessFlags := 18, slot := 2, constantValue := 0 }, { name := "seedColumnCount", type := .int, accessFlags := 2, slot := 3, constantValue := 0 }, { name := "merged", type := (.array .int), accessFlags := 18, slot := 4, constantValue := 0 }, { name := "mergedCount", type := .int, accessFlags := 2, slot := 5, constantValue := 0 }]
  methods := #[k2m0, k2m1, k2m2, k2m3, k2m4, k2m5, k2m6]
  instanceTypes := #[(.array .int), (.array .int), (.array .int), .int, (.array .int), .int]
  staticTypes := #[]
  resolved := Array.replicate 48 none
  statics := none }

def pool3 : Array CpInfo := pool [(1, u "java/lang/Cloneable"), (0, .class_ 1), (0, u "java/lang/Object"), (0, .class_ 3)] 3

/-- java/lang/Cloneable -/
def k3 : Class := { plain "java/lang/Cloneable" (some 0) with
  accessFlags := 1537
  interfaces := #[]
  cf := some (fileOf pool3 2 #[] #[] 1537 4 #[] #[])
  fields := #[]
  methods := #[]
  instanceTypes := #[]
  staticTypes := #[]
  resolved := Array.replicate 8 none
  statics := none }

def pool4 : Array CpInfo := pool [(1, u "java/io/Serializable"), (0, .class_ 1), (0, u "java/lang/Object"), (0, .class_ 3)] 3

/-- java/io/Serializable -/
def k4 : Class := { plain "java/io/Serializable" (some 0) with
  accessFlags := 1537
  interfaces := #[]
  cf := some (fileOf pool4 2 #[] #[] 1537 4 #[] #[])
  fields := #[]
  methods := #[]
  instanceTypes := #[]
  staticTypes := #[]
  resolved := Array.replicate 8 none
  statics := none }

/-- the primitive byte -/
def k5 : Class := { plain "byte" none with kind := .primitive 'B', accessFlags := 0x411 }
/-- [B -/
def k6 : Class := { plain "[B" (some 0) with kind := .array 5 .byte, interfaces := #[3, 4], accessFlags := 1041 }

/-- the primitive int -/
def k7 : Class := { plain "int" none with kind := .primitive 'I', accessFlags := 0x411 }
/-- [I -/
def k8 : Class := { plain "[I" (some 0) with kind := .array 7 .int, interfaces := #[3, 4], accessFlags := 1041 }

def heap : Heap := #[]
/-- arrays of int arrays -/
def k9 : Class := { plain "[[I" (some 0) with kind := .array 8 (.array .int), interfaces := #[3, 4], accessFlags := 1041 }
def classes : Array Class := #[k0, k1, k2, k3, k4, k5, k6, k7, k8, k9]
def interned : List (Array UInt16 × Addr) := []
def slotsUsed : Nat := 0
def theMethod : MethodId := ⟨1, 3⟩
def args0 : Array Value := #[.int 5, .int 7, .int 9, .int 3, .int 4, .int 2]
def aboutOver (below : List Frame) : State where
  vm := { classes := classes, interned := interned.toArray }
  heap := heap
  slotsUsed := slotsUsed
  threads := #[{ frames := .invoking theMethod args0 :: below }]
def below0 : List Frame := [.native { method := ⟨0, 0⟩, args := #[] }]
def about1 : State := aboutOver below0
def p0 : Program := .bare "" "" ""
def e0 : Env := launch0.env 0 0 0
theorem w_frames : about1.frames = Frame.invoking theMethod args0 :: below0 := rfl
set_option maxRecDepth 65536 in
theorem w_args : argsFit about1.vm theMethod args0 = true := by decide +kernel
set_option maxRecDepth 65536 in
theorem w_heap : heapFits about1 = true := by decide +kernel
set_option maxRecDepth 65536 in
theorem w_runnable : about1.curStatus? = some .runnable := by decide +kernel
set_option maxRecDepth 65536 in
theorem w_alone : about1.alone = true := by decide +kernel
set_option maxRecDepth 65536 in
theorem w_named : about1.methodNamed? x = some theMethod := by decide +kernel
set_option maxRecDepth 65536 in
theorem w_hears : about1.hears theMethod below0 = true := by decide +kernel
set_option maxRecDepth 65536 in
theorem w_ripe : about1.ripe theMethod args0 below0 = true := by decide +kernel
theorem w_running : about1.status = .running := rfl
set_option maxRecDepth 65536 in
theorem w_room : about1.hasRoom e0.platform room_1 = true :=
  launch0.hasRoom_least _ room_1 (by decide +kernel) (by decide +kernel) (by decide +kernel) (by decide +kernel) (by decide +kernel) (by decide +kernel)
theorem allAtoms_all (ts : List Jvm.Cond) (a : Array Jvm.Value) (st : Jvm.State) : (allAtoms ts).before a st = ts.all (fun c => c.before a st) := by
  induction ts with
  | nil => rfl
  | cons c t ih =>
    show (Jvm.Cond.and c (allAtoms t)).before a st = _
    rw [Jvm.Cond.before_and, ih, List.all_cons]
def words1 : List Jvm.Cond := Jvm.Cond.code x code maxLocals ret :: tables_1
/-- a 'code' word, met by the world's own term for the bytes: nothing is compared byte by byte -/
theorem code_word {y : MethodName} {bytes : ByteArray} {mx : Nat} {rt : Option FieldType} {a : Array Value} {s : State} {m : MethodId} {meth : Method} {c : Code} (h1 : s.methodNamed? y = some m) (h2 : s.vm.method? m = some meth) (h3 : meth.code = some c) (h4 : c.code = bytes)
    (h5 : (c.maxLocals == mx && c.exceptionTable.isEmpty && decide (c.maxStack ≤ mostOperands) && decide (meth.sig.returnType = rt) && !meth.locks && decide (parseMethodDescriptor y.desc = some meth.sig)) = true) : (Jvm.Cond.code y bytes mx rt).before a s = true := by
  simp only [Bool.and_eq_true, beq_iff_eq, Bool.not_eq_true', decide_eq_true_eq] at h5
  obtain ⟨⟨⟨⟨⟨g1, g2⟩, g3⟩, g4⟩, g5⟩, g6⟩ := h5
  simp [Cond.before, Cond.holds, Cond.value, h1, h2, h3, h4, g1, g2, g3, g4, g5, g6]
def isCode : Jvm.Cond → Bool
  | .code _ _ _ _ => true
  | _ => false
theorem all_split {L : List Jvm.Cond} {P : Jvm.Cond → Bool} (h1 : L.all (fun c => isCode c || P c) = true) (h2 : ∀ c ∈ L.filter isCode, P c = true) : L.all P = true := by
  refine List.all_eq_true.mpr fun c hc => ?_
  have h := List.all_eq_true.mp h1 c hc
  rcases Bool.eq_false_or_eq_true (isCode c) with hi | hi
  · exact h2 c (List.mem_filter.mpr ⟨hc, hi⟩)
  · simpa [hi] using h
set_option maxRecDepth 65536 in
theorem w_c0 : (Jvm.Cond.code x code maxLocals ret).before args0 about1 = true := code_word (m := ⟨1, 3⟩) (meth := k1m3) (c := k1c3) (by decide +kernel) rfl rfl rfl (by decide +kernel)
set_option maxRecDepth 65536 in
theorem w_c1 : (Jvm.Cond.code ({ cls := "org/querne/sparql/SeedMergeOpenPinLaw", name := "rest", desc := "(II)I" } : Jvm.MethodName) method_2_code (2 : Nat) (Option.some Jvm.ClassFile.FieldType.int)).before args0 about1 = true := code_word (m := ⟨1, 1⟩) (meth := k1m1) (c := k1c1) (by decide +kernel) rfl rfl rfl (by decide +kernel)
set_option maxRecDepth 65536 in
theorem w_c2 : (Jvm.Cond.code ({ cls := "org/querne/sparql/SeedMergeOpenPinLaw", name := "drawn", desc := "(III)I" } : Jvm.MethodName) method_3_code (3 : Nat) (Option.some Jvm.ClassFile.FieldType.int)).before args0 about1 = true := code_word (m := ⟨1, 2⟩) (meth := k1m2) (c := k1c2) (by decide +kernel) rfl rfl rfl (by decide +kernel)
set_option maxRecDepth 65536 in
theorem w_c3 : (Jvm.Cond.code ({ cls := "org/querne/sparql/SeedMerge", name := "<init>", desc := "([I)V" } : Jvm.MethodName) prog_348_method_1_code (2 : Nat) (Option.none : Option Jvm.ClassFile.FieldType)).before args0 about1 = true := code_word (m := ⟨2, 0⟩) (meth := k2m0) (c := k2c0) (by decide +kernel) rfl rfl rfl (by decide +kernel)
set_option maxRecDepth 65536 in
theorem w_c4 : (Jvm.Cond.code ({ cls := "java/lang/Object", name := "<init>", desc := "()V" } : Jvm.MethodName) object_method_1_code (1 : Nat) (Option.none : Option Jvm.ClassFile.FieldType)).before args0 about1 = true := code_word (m := ⟨0, 0⟩) (meth := k0m0) (c := k0c0) (by decide +kernel) rfl rfl rfl (by decide +kernel)
set_option maxRecDepth 65536 in
theorem w_c5 : (Jvm.Cond.code ({ cls := "org/querne/sparql/SeedMerge", name := "open", desc := "([I)V" } : Jvm.MethodName) prog_348_method_2_code (3 : Nat) (Option.none : Option Jvm.ClassFile.FieldType)).before args0 about1 = true := code_word (m := ⟨2, 1⟩) (meth := k2m1) (c := k2c1) (by decide +kernel) rfl rfl rfl (by decide +kernel)
set_option maxRecDepth 65536 in
theorem w_c6 : (Jvm.Cond.code ({ cls := "org/querne/sparql/SeedMerge", name := "merge", desc := "([[II)V" } : Jvm.MethodName) prog_348_method_8_code (6 : Nat) (Option.none : Option Jvm.ClassFile.FieldType)).before args0 about1 = true := code_word (m := ⟨2, 5⟩) (meth := k2m5) (c := k2c5) (by decide +kernel) rfl rfl rfl (by decide +kernel)
set_option maxRecDepth 65536 in
theorem w_c7 : (Jvm.Cond.code ({ cls := "org/querne/sparql/SeedMerge", name := "seedColumnCount", desc := "()I" } : Jvm.MethodName) prog_348_method_3_code (1 : Nat) (Option.some Jvm.ClassFile.FieldType.int)).before args0 about1 = true := code_word (m := ⟨2, 2⟩) (meth := k2m2) (c := k2c2) (by decide +kernel) rfl rfl rfl (by decide +kernel)
set_option maxRecDepth 65536 in
theorem w_c8 : (Jvm.Cond.code ({ cls := "org/querne/sparql/SeedMerge", name := "seedColumn", desc := "(I)I" } : Jvm.MethodName) prog_348_method_4_code (2 : Nat) (Option.some Jvm.ClassFile.FieldType.int)).before args0 about1 = true := code_word (m := ⟨2, 3⟩) (meth := k2m3) (c := k2c3) (by decide +kernel) rfl rfl rfl (by decide +kernel)
set_option maxRecDepth 65536 in
theorem w_c9 : (Jvm.Cond.code ({ cls := "org/querne/sparql/SeedMerge", name := "seedTerm", desc := "(I)I" } : Jvm.MethodName) prog_348_method_5_code (2 : Nat) (Option.some Jvm.ClassFile.FieldType.int)).before args0 about1 = true := code_word (m := ⟨2, 4⟩) (meth := k2m4) (c := k2c4) (by decide +kernel) rfl rfl rfl (by decide +kernel)
set_option maxRecDepth 65536 in
theorem w_c10 : (Jvm.Cond.code ({ cls := "org/querne/sparql/SeedMerge", name := "unmerge", desc := "()V" } : Jvm.MethodName) prog_348_method_9_code (2 : Nat) (Option.none : Option Jvm.ClassFile.FieldType)).before args0 about1 = true := code_word (m := ⟨2, 6⟩) (meth := k2m6) (c := k2c6) (by decide +kernel) rfl rfl rfl (by decide +kernel)
def codes1 : List Jvm.Cond := [Jvm.Cond.code x code maxLocals ret, Jvm.Cond.code ({ cls := "org/querne/sparql/SeedMergeOpenPinLaw", name := "rest", desc := "(II)I" } : Jvm.MethodName) method_2_code (2 : Nat) (Option.some Jvm.ClassFile.FieldType.int), Jvm.Cond.code ({ cls := "org/querne/sparql/SeedMergeOpenPinLaw", name := "drawn", desc := "(III)I" } : Jvm.MethodName) method_3_code (3 : Nat) (Option.some Jvm.ClassFile.FieldType.int), Jvm.Cond.code ({ cls := "org/querne/sparql/SeedMerge", name := "<init>", desc := "([I)V" } : Jvm.MethodName) prog_348_method_1_code (2 : Nat) (Option.none : Option Jvm.ClassFile.FieldType), Jvm.Cond.code ({ cls := "java/lang/Object", name := "<init>", desc := "()V" } : Jvm.MethodName) object_method_1_code (1 : Nat) (Option.none : Option Jvm.ClassFile.FieldType), Jvm.Cond.code ({ cls := "org/querne/sparql/SeedMerge", name := "open", desc := "([I)V" } : Jvm.MethodName) prog_348_method_2_code (3 : Nat) (Option.none : Option Jvm.ClassFile.FieldType), Jvm.Cond.code ({ cls := "org/querne/sparql/SeedMerge", name := "merge", desc := "([[II)V" } : Jvm.MethodName) prog_348_method_8_code (6 : Nat) (Option.none : Option Jvm.ClassFile.FieldType), Jvm.Cond.code ({ cls := "org/querne/sparql/SeedMerge", name := "seedColumnCount", desc := "()I" } : Jvm.MethodName) prog_348_method_3_code (1 : Nat) (Option.some Jvm.ClassFile.FieldType.int), Jvm.Cond.code ({ cls := "org/querne/sparql/SeedMerge", name := "seedColumn", desc := "(I)I" } : Jvm.MethodName) prog_348_method_4_code (2 : Nat) (Option.some Jvm.ClassFile.FieldType.int), Jvm.Cond.code ({ cls := "org/querne/sparql/SeedMerge", name := "seedTerm", desc := "(I)I" } : Jvm.MethodName) prog_348_method_5_code (2 : Nat) (Option.some Jvm.ClassFile.FieldType.int), Jvm.Cond.code ({ cls := "org/querne/sparql/SeedMerge", name := "unmerge", desc := "()V" } : Jvm.MethodName) prog_348_method_9_code (2 : Nat) (Option.none : Option Jvm.ClassFile.FieldType)]
set_option maxRecDepth 65536 in
theorem codes_eq : words1.filter isCode = codes1 := rfl
theorem w_codes : ∀ c ∈ words1.filter isCode, c.before args0 about1 = true := by
  rw [codes_eq]
  intro c hc
  simp only [codes1, List.mem_cons, List.not_mem_nil, or_false] at hc
  rcases hc with rfl | rfl | rfl | rfl | rfl | rfl | rfl | rfl | rfl | rfl | rfl
  · exact w_c0
  · exact w_c1
  · exact w_c2
  · exact w_c3
  · exact w_c4
  · exact w_c5
  · exact w_c6
  · exact w_c7
  · exact w_c8
  · exact w_c9
  · exact w_c10
set_option maxRecDepth 65536 in
theorem w_t1 : (words1.take 24).all (fun c => isCode c || c.before args0 about1) = true := by decide +kernel
set_option maxRecDepth 65536 in
theorem w_t2 : ((words1.drop 24).take 24).all (fun c => isCode c || c.before args0 about1) = true := by decide +kernel
set_option maxRecDepth 65536 in
theorem w_t3 : ((words1.drop 24).drop 24).all (fun c => isCode c || c.before args0 about1) = true := by decide +kernel
theorem w_tables : (allAtoms (Jvm.Cond.code x code maxLocals ret :: tables_1)).before args0 about1 = true := by
  rw [allAtoms_all]
  show words1.all (fun c => c.before args0 about1) = true
  refine all_split ?_ w_codes
  rw [← List.take_append_drop 24 words1, List.all_append, w_t1, ← List.take_append_drop 24 (words1.drop 24), List.all_append, w_t2, w_t3]
  rfl
set_option maxRecDepth 65536 in
theorem w_case : (Jvm.Cond.and given_1 narrow_1).before args0 about1 = true := by decide +kernel
theorem w_applies : (headSpec (Jvm.Cond.code x code maxLocals ret :: tables_1) room_1).applies x e0.platform about1 = true :=
  (Spec.applies_iff w_frames).mpr ⟨w_running, w_runnable, w_alone, w_named, w_hears, w_ripe, w_room, w_tables⟩
theorem atStart : AtStart classFile x code maxLocals ret World_1 tables_1 room_1 Calls_1 rest_1 Pre_1 launch0 p0 e0 about1 theMethod args0 below0 :=
  ⟨lists_1, trivial, launch0.admits_env _ _ _, launch0.least_env, fairChoices_fair.cas, fairChoices_fair.clock, w_frames, w_args, w_heap, w_applies, trivial, trivial, w_case⟩
end start1
theorem witness_1 : WitnessClaimed_1 := ⟨start1.p0, start1.e0, start1.about1, start1.theMethod, start1.args0, start1.below0, start1.atStart⟩
end Jvm.Pilot.@@N@@
