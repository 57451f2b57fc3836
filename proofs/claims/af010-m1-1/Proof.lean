import JvmDerived
import JvmDerived.Pilot.@@N@@Statement
import JvmDerived.Pilot.@@N@@Code
set_option linter.unusedVariables false
set_option linter.unusedSimpArgs false
namespace Jvm.Pilot.@@N@@
open Jvm Jvm.ClassFile Sem Op Lib Jvm.Free Jvm.Stand Jvm.LawKit Jvm.RoadKit Bundle Jvm.Pilot.@@N@@.Jvm.D
section OwnKit
/-- where a walk of this body ends: it has returned, wrote nothing below n0, and Q holds of what it returned and of the heap -/
def Ends (n0 : Nat) (p : Program) (e : Env) (s : State) (below : List Frame) (R : Room) (Q : Option Value → Heap → Prop) (T : State) (g : JFrame) : Prop :=
  ∃ s₂ o, Steps p.tables e below (T.setTop g) s₂ ∧ s₂.status = .running ∧ Ended s₂ below o ∧ ∃ v L, o = .returned v ∧ (Fr n0 L ∧ Q v s₂.heap) ∧ FrameEnd s o s₂ L R.cells R.slots
/-- the walk stands at T over the heap h, having made at most kc cells of ks slots -/
def St (l : Launch) (n0 : Nat) (p : Program) (e : Env) (R : Room) (s : State) (m : MethodId) (args : Array Value) (below : List Frame) (meth : Method) (c : Code) (kc ks : Nat) (T : State) (h : Heap) : Prop :=
  ∃ locs cells slots, Stand p l e R s m args below meth c T locs cells slots ∧ T.heap = h ∧ Fr n0 locs ∧ cells ≤ kc ∧ slots ≤ ks
def Cx (l : Launch) (Z : State) (n0 : Nat) (p : Program) (e : Env) (R : Room) (s : State) (m : MethodId) (args : Array Value) (below : List Frame) (meth : Method) (c : Code) (bytes : ByteArray) (ml : Nat) (own name : String) (rt : Option FieldType) (Q : Option Value → Heap → Prop) (F : State → JFrame → Prop) (S : Nat → Nat → State → Heap → Prop) : Prop :=
  (p.tables.exec = Jvm.exec ∧ Z.Warmed39 s.vm ∧ c.code = bytes ∧ c.maxLocals = ml) ∧ (s.vm.findClass own = some m.cls ∧ meth.name = name ∧ meth.sig.returnType = rt ∧ meth.locks = false) ∧ F = Ends n0 p e s below R Q ∧ S = St l n0 p e R s m args below meth c
/-- a body's contract -/
def Con (l : Launch) (Z : State) (y : MethodName) (bytes : ByteArray) (ml : Nat) (rt : Option FieldType) (R : Room) (args : Array Value) (h0 : Heap) (n0 : Nat) (Q : Option Value → Heap → Prop) : Prop :=
  ∀ ws : List Jvm.Cond, MetFree l y (head1 (Jvm.Cond.code y bytes ml rt :: ws) R) (fun a U => a = args ∧ Z.Warmed39 U.vm ∧ U.heap = h0) (fun _ _ _ _ _ => True) (fun _ U o U' => ∃ v L, o = .returned v ∧ (Fr n0 L ∧ Q v U'.heap) ∧ FrameEnd U o U' L R.cells R.slots)
variable {l : Launch} {Z : State} {n0 : Nat} {p : Program} {e : Env} {R : Room} {s : State} {m : MethodId} {args : Array Value} {below : List Frame} {meth : Method} {c : Code} {bytes : ByteArray} {ml : Nat} {own name : String} {rt : Option FieldType} {Q : Option Value → Heap → Prop} {F : State → JFrame → Prop} {S : Nat → Nat → State → Heap → Prop}
variable {a0 : Array Value} {T T' : State} {h h' : Heap} {kc ks kc' ks' pc pc' : Nat} {L L' : Array Slot} {rest : List Value}
theorem Con.of {y : MethodName} {h0 : Heap} {Ls : Array Slot} (hpn : plainFor y = true) (hef : ∀ m, entryFrame m args ml = mkF m 0 Ls []) (ho : y.cls = own) (hn : y.name = name)
    (H : ∀ (p : Program) (e : Env) (s : State) (m : MethodId) (below : List Frame) (meth : Method) (c : Code) (T : State) (F : State → JFrame → Prop) (S : Nat → Nat → State → Heap → Prop), Cx l Z n0 p e R s m args below meth c bytes ml own name rt Q F S → S 0 0 T h0 → F T (mkF m 0 Ls [])) :
    Con l Z y bytes ml rt R args h0 n0 Q := by
  intro ws
  refine MetFree.of_bodySF hpn hisR ?_
  intro p e s m args below meth c s₁ Bd hml0 hP hK
  obtain ⟨rfl, hZ, hh⟩ := hP
  have e0 : s₁.heap = h0 := by rw [← hh, Bd.state]; rfl
  obtain ⟨s₂, o, q1, q2, q3, q4⟩ := H p e s m below meth c s₁ _ _ ⟨⟨Bd.exec, hZ, Bd.bytes, hml0⟩, ⟨by rw [← ho]; exact findClass_of_methodNamed Bd.named, by rw [← hn]; exact (name_of_methodNamed Bd.named Bd.method).1, Bd.returns, Bd.notSynchronized⟩, rfl, rfl⟩ ⟨[], 0, 0, Stand.of_body Bd, e0, Fr.nil n0, Nat.le_refl _, Nat.le_refl _⟩
  exact ⟨s₂, o, castTop (hef m) q1, q2, q3, q4⟩
theorem Cx.step (cx : Cx l Z n0 p e R s m args below meth c bytes ml own name rt Q F S) {g g' : JFrame} (st : ∀ t, Steps p.tables e below (T'.setTop g') t → Steps p.tables e below (T.setTop g) t) (k : F T' g') : F T g := by
  obtain ⟨-, -, rfl, -⟩ := cx
  obtain ⟨s₂, o, q1, q⟩ := k
  exact ⟨s₂, o, st _ q1, q⟩
theorem Cx.at (cx : Cx l Z n0 p e R s m args below meth c bytes ml own name rt Q F S) (st : S kc ks T h) : At T m c below := by
  obtain ⟨-, -, -, rfl⟩ := cx
  obtain ⟨_, _, _, X, -⟩ := st
  exact X.here
theorem Cx.open (cx : Cx l Z n0 p e R s m args below meth c bytes ml own name rt Q F S) (st : S kc ks T h) : ∃ locs cells slots, Stand p l e R s m args below meth c T locs cells slots ∧ T.heap = h ∧ Fr n0 locs ∧ cells ≤ kc ∧ slots ≤ ks := by
  obtain ⟨-, -, -, rfl⟩ := cx
  exact st
theorem Cx.mono (cx : Cx l Z n0 p e R s m args below meth c bytes ml own name rt Q F S) (st : S kc ks T h) (h1 : kc ≤ kc') (h2 : ks ≤ ks') : S kc' ks' T h := by
  obtain ⟨-, -, -, rfl⟩ := cx
  obtain ⟨a, b, d, X, q1, q2, q3, q4⟩ := st
  exact ⟨a, b, d, X, q1, q2, Nat.le_trans q3 h1, Nat.le_trans q4 h2⟩
theorem Cx.dec (cx : Cx l Z n0 p e R s m args below meth c bytes ml own name rt Q F S) {r : Except DecodeError (Instr × Nat)} (hd : decode bytes pc = r) : decode c.code pc = r := hb cx.1.2.2.1 hd
/-- leaving the method -/
theorem Cx.fin (cx : Cx l Z n0 p e R s m args below meth c bytes ml own name rt Q F S) (st : S kc ks T h) {v : Option Value} {g : JFrame} (hv : rt = none → v = none) (hk : kc ≤ R.cells) (hs : ks ≤ R.slots)
    (go : ∀ fs locs cells slots, Stand p l e R s m args below meth c T locs cells slots → (∀ (f : JFrame) (acts : List Action), f.method = m → f.locked = none → f.entered = [] → (doReturn e (T.setTop f) acts v).1 = T.setFrames fs) → Steps p.tables e below (T.setTop g) (T.setFrames fs)) (hQ : Q v h) : F T g := by
  obtain ⟨c1, ⟨c5, c6, c7, c8⟩, rfl, rfl⟩ := cx
  obtain ⟨locs, cells, slots, X, q1, q2, q3, q4⟩ := st
  obtain ⟨fs, hr, hrun, hended, hW, hsame⟩ := X.leave (v := v) (fun q => hv (c7.symm.trans q)) c8
  refine ⟨_, _, go fs _ _ _ X hr, hrun, hended, v, locs, rfl, ⟨q2, ?_⟩, ⟨_, rfl⟩, hW, hsame.mono (Nat.le_trans q3 hk) (Nat.le_trans q4 hs)⟩
  show Q v T.heap
  rw [q1]; exact hQ
theorem E_iadd (cx : Cx l Z n0 p e R s m args below meth c bytes ml own name rt Q F S) (st : S kc ks T h) {x y : Int32} (hd : decode bytes pc = .ok (.iadd, 1))  (hp : pc + 1 = pc') (k : F T (mkF m pc' L (.int (x + y) :: rest))) : F T (mkF m pc L (.int y :: .int x :: rest)) := by
  subst hp; exact cx.step (fun _ q => XS.iadd (cx.at st) cx.1.1 rfl (cx.dec hd) rfl q) k
theorem E_isub (cx : Cx l Z n0 p e R s m args below meth c bytes ml own name rt Q F S) (st : S kc ks T h) {x y : Int32} (hd : decode bytes pc = .ok (.isub, 1))  (hp : pc + 1 = pc') (k : F T (mkF m pc' L (.int (x - y) :: rest))) : F T (mkF m pc L (.int y :: .int x :: rest)) := by
  subst hp; exact cx.step (fun _ q => XS.isub (cx.at st) cx.1.1 rfl (cx.dec hd) rfl q) k
theorem E_imul (cx : Cx l Z n0 p e R s m args below meth c bytes ml own name rt Q F S) (st : S kc ks T h) {x y : Int32} (hd : decode bytes pc = .ok (.imul, 1))  (hp : pc + 1 = pc') (k : F T (mkF m pc' L (.int (x * y) :: rest))) : F T (mkF m pc L (.int y :: .int x :: rest)) := by
  subst hp; exact cx.step (fun _ q => XS.imul (cx.at st) cx.1.1 rfl (cx.dec hd) rfl q) k
theorem E_iand (cx : Cx l Z n0 p e R s m args below meth c bytes ml own name rt Q F S) (st : S kc ks T h) {x y : Int32} (hd : decode bytes pc = .ok (.iand, 1))  (hp : pc + 1 = pc') (k : F T (mkF m pc' L (.int (x &&& y) :: rest))) : F T (mkF m pc L (.int y :: .int x :: rest)) := by
  subst hp; exact cx.step (fun _ q => XS.iand (cx.at st) cx.1.1 rfl (cx.dec hd) rfl q) k
theorem E_ior (cx : Cx l Z n0 p e R s m args below meth c bytes ml own name rt Q F S) (st : S kc ks T h) {x y : Int32} (hd : decode bytes pc = .ok (.ior, 1))  (hp : pc + 1 = pc') (k : F T (mkF m pc' L (.int (x ||| y) :: rest))) : F T (mkF m pc L (.int y :: .int x :: rest)) := by
  subst hp; exact cx.step (fun _ q => XS.ior (cx.at st) cx.1.1 rfl (cx.dec hd) rfl q) k
theorem E_ixor (cx : Cx l Z n0 p e R s m args below meth c bytes ml own name rt Q F S) (st : S kc ks T h) {x y : Int32} (hd : decode bytes pc = .ok (.ixor, 1))  (hp : pc + 1 = pc') (k : F T (mkF m pc' L (.int (x ^^^ y) :: rest))) : F T (mkF m pc L (.int y :: .int x :: rest)) := by
  subst hp; exact cx.step (fun _ q => XS.ixor (cx.at st) cx.1.1 rfl (cx.dec hd) rfl q) k
theorem E_ladd (cx : Cx l Z n0 p e R s m args below meth c bytes ml own name rt Q F S) (st : S kc ks T h) {x y : Int64} (hd : decode bytes pc = .ok (.ladd, 1))  (hp : pc + 1 = pc') (k : F T (mkF m pc' L (.long (x + y) :: rest))) : F T (mkF m pc L (.long y :: .long x :: rest)) := by
  subst hp; exact cx.step (fun _ q => XS.ladd (cx.at st) cx.1.1 rfl (cx.dec hd) rfl q) k
theorem E_lsub (cx : Cx l Z n0 p e R s m args below meth c bytes ml own name rt Q F S) (st : S kc ks T h) {x y : Int64} (hd : decode bytes pc = .ok (.lsub, 1))  (hp : pc + 1 = pc') (k : F T (mkF m pc' L (.long (x - y) :: rest))) : F T (mkF m pc L (.long y :: .long x :: rest)) := by
  subst hp; exact cx.step (fun _ q => XS.lsub (cx.at st) cx.1.1 rfl (cx.dec hd) rfl q) k
theorem E_lmul (cx : Cx l Z n0 p e R s m args below meth c bytes ml own name rt Q F S) (st : S kc ks T h) {x y : Int64} (hd : decode bytes pc = .ok (.lmul, 1))  (hp : pc + 1 = pc') (k : F T (mkF m pc' L (.long (x * y) :: rest))) : F T (mkF m pc L (.long y :: .long x :: rest)) := by
  subst hp; exact cx.step (fun _ q => XS.lmul (cx.at st) cx.1.1 rfl (cx.dec hd) rfl q) k
theorem E_land (cx : Cx l Z n0 p e R s m args below meth c bytes ml own name rt Q F S) (st : S kc ks T h) {x y : Int64} (hd : decode bytes pc = .ok (.land, 1))  (hp : pc + 1 = pc') (k : F T (mkF m pc' L (.long (x &&& y) :: rest))) : F T (mkF m pc L (.long y :: .long x :: rest)) := by
  subst hp; exact cx.step (fun _ q => XS.land (cx.at st) cx.1.1 rfl (cx.dec hd) rfl q) k
theorem E_lor (cx : Cx l Z n0 p e R s m args below meth c bytes ml own name rt Q F S) (st : S kc ks T h) {x y : Int64} (hd : decode bytes pc = .ok (.lor, 1))  (hp : pc + 1 = pc') (k : F T (mkF m pc' L (.long (x ||| y) :: rest))) : F T (mkF m pc L (.long y :: .long x :: rest)) := by
  subst hp; exact cx.step (fun _ q => XS.lor (cx.at st) cx.1.1 rfl (cx.dec hd) rfl q) k
theorem E_lxor (cx : Cx l Z n0 p e R s m args below meth c bytes ml own name rt Q F S) (st : S kc ks T h) {x y : Int64} (hd : decode bytes pc = .ok (.lxor, 1))  (hp : pc + 1 = pc') (k : F T (mkF m pc' L (.long (x ^^^ y) :: rest))) : F T (mkF m pc L (.long y :: .long x :: rest)) := by
  subst hp; exact cx.step (fun _ q => XS.lxor (cx.at st) cx.1.1 rfl (cx.dec hd) rfl q) k
theorem E_idiv (cx : Cx l Z n0 p e R s m args below meth c bytes ml own name rt Q F S) (st : S kc ks T h) {x y : Int32} (hd : decode bytes pc = .ok (.idiv, 1)) (hz : y ≠ 0) (hp : pc + 1 = pc') (k : F T (mkF m pc' L (.int (x / y) :: rest))) : F T (mkF m pc L (.int y :: .int x :: rest)) := by
  subst hp; exact cx.step (fun _ q => XS.idiv (cx.at st) cx.1.1 rfl (cx.dec hd) rfl hz q) k
theorem E_ldiv (cx : Cx l Z n0 p e R s m args below meth c bytes ml own name rt Q F S) (st : S kc ks T h) {x y : Int64} (hd : decode bytes pc = .ok (.ldiv, 1)) (hz : y ≠ 0) (hp : pc + 1 = pc') (k : F T (mkF m pc' L (.long (x / y) :: rest))) : F T (mkF m pc L (.long y :: .long x :: rest)) := by
  subst hp; exact cx.step (fun _ q => XS.ldiv (cx.at st) cx.1.1 rfl (cx.dec hd) rfl hz q) k
theorem E_ishl (cx : Cx l Z n0 p e R s m args below meth c bytes ml own name rt Q F S) (st : S kc ks T h) {x y : Int32} (hd : decode bytes pc = .ok (.ishl, 1))  (hp : pc + 1 = pc') (k : F T (mkF m pc' L (.int (x <<< (y &&& 31)) :: rest))) : F T (mkF m pc L (.int y :: .int x :: rest)) := by
  subst hp; exact cx.step (fun _ q => XS.ishl (cx.at st) cx.1.1 rfl (cx.dec hd) rfl q) k
theorem E_ishr (cx : Cx l Z n0 p e R s m args below meth c bytes ml own name rt Q F S) (st : S kc ks T h) {x y : Int32} (hd : decode bytes pc = .ok (.ishr, 1))  (hp : pc + 1 = pc') (k : F T (mkF m pc' L (.int (x >>> (y &&& 31)) :: rest))) : F T (mkF m pc L (.int y :: .int x :: rest)) := by
  subst hp; exact cx.step (fun _ q => XS.ishr (cx.at st) cx.1.1 rfl (cx.dec hd) rfl q) k
theorem E_iushr (cx : Cx l Z n0 p e R s m args below meth c bytes ml own name rt Q F S) (st : S kc ks T h) {x y : Int32} (hd : decode bytes pc = .ok (.iushr, 1))  (hp : pc + 1 = pc') (k : F T (mkF m pc' L (.int ((x.toUInt32 >>> (y &&& 31).toUInt32).toInt32) :: rest))) : F T (mkF m pc L (.int y :: .int x :: rest)) := by
  subst hp; exact cx.step (fun _ q => XS.iushr (cx.at st) cx.1.1 rfl (cx.dec hd) rfl q) k
theorem E_lshl (cx : Cx l Z n0 p e R s m args below meth c bytes ml own name rt Q F S) (st : S kc ks T h) {x : Int64} {y : Int32} (hd : decode bytes pc = .ok (.lshl, 1))  (hp : pc + 1 = pc') (k : F T (mkF m pc' L (.long (x <<< (y &&& 0x3f).toInt64) :: rest))) : F T (mkF m pc L (.int y :: .long x :: rest)) := by
  subst hp; exact cx.step (fun _ q => XS.lshl (cx.at st) cx.1.1 rfl (cx.dec hd) rfl q) k
theorem E_lshr (cx : Cx l Z n0 p e R s m args below meth c bytes ml own name rt Q F S) (st : S kc ks T h) {x : Int64} {y : Int32} (hd : decode bytes pc = .ok (.lshr, 1))  (hp : pc + 1 = pc') (k : F T (mkF m pc' L (.long (x >>> (y &&& 0x3f).toInt64) :: rest))) : F T (mkF m pc L (.int y :: .long x :: rest)) := by
  subst hp; exact cx.step (fun _ q => XS.lshr (cx.at st) cx.1.1 rfl (cx.dec hd) rfl q) k
theorem E_lushr (cx : Cx l Z n0 p e R s m args below meth c bytes ml own name rt Q F S) (st : S kc ks T h) {x : Int64} {y : Int32} (hd : decode bytes pc = .ok (.lushr, 1))  (hp : pc + 1 = pc') (k : F T (mkF m pc' L (.long ((x.toUInt64 >>> (y &&& 0x3f).toInt64.toUInt64).toInt64) :: rest))) : F T (mkF m pc L (.int y :: .long x :: rest)) := by
  subst hp; exact cx.step (fun _ q => XS.lushr (cx.at st) cx.1.1 rfl (cx.dec hd) rfl q) k
theorem E_ineg (cx : Cx l Z n0 p e R s m args below meth c bytes ml own name rt Q F S) (st : S kc ks T h) {x : Int32} (hd : decode bytes pc = .ok (.ineg, 1))  (hp : pc + 1 = pc') (k : F T (mkF m pc' L (.int (-x) :: rest))) : F T (mkF m pc L (.int x :: rest)) := by
  subst hp; exact cx.step (fun _ q => XS.ineg (cx.at st) cx.1.1 rfl (cx.dec hd) rfl q) k
theorem E_lneg (cx : Cx l Z n0 p e R s m args below meth c bytes ml own name rt Q F S) (st : S kc ks T h) {x : Int64} (hd : decode bytes pc = .ok (.lneg, 1))  (hp : pc + 1 = pc') (k : F T (mkF m pc' L (.long (-x) :: rest))) : F T (mkF m pc L (.long x :: rest)) := by
  subst hp; exact cx.step (fun _ q => XS.lneg (cx.at st) cx.1.1 rfl (cx.dec hd) rfl q) k
theorem E_i2l (cx : Cx l Z n0 p e R s m args below meth c bytes ml own name rt Q F S) (st : S kc ks T h) {x : Int32} (hd : decode bytes pc = .ok (.i2l, 1))  (hp : pc + 1 = pc') (k : F T (mkF m pc' L (.long (x.toInt64) :: rest))) : F T (mkF m pc L (.int x :: rest)) := by
  subst hp; exact cx.step (fun _ q => XS.i2l (cx.at st) cx.1.1 rfl (cx.dec hd) rfl q) k
theorem E_l2i (cx : Cx l Z n0 p e R s m args below meth c bytes ml own name rt Q F S) (st : S kc ks T h) {x : Int64} (hd : decode bytes pc = .ok (.l2i, 1))  (hp : pc + 1 = pc') (k : F T (mkF m pc' L (.int (x.toInt32) :: rest))) : F T (mkF m pc L (.long x :: rest)) := by
  subst hp; exact cx.step (fun _ q => XS.l2i (cx.at st) cx.1.1 rfl (cx.dec hd) rfl q) k
theorem E_lcmp (cx : Cx l Z n0 p e R s m args below meth c bytes ml own name rt Q F S) (st : S kc ks T h) {x y : Int64} (hd : decode bytes pc = .ok (.lcmp, 1))  (hp : pc + 1 = pc') (k : F T (mkF m pc' L (.int (lcmpW x y) :: rest))) : F T (mkF m pc L (.long y :: .long x :: rest)) := by
  subst hp; exact cx.step (fun _ q => XS.lcmp (cx.at st) cx.1.1 rfl (cx.dec hd) rfl q) k
theorem E_pop (cx : Cx l Z n0 p e R s m args below meth c bytes ml own name rt Q F S) (st : S kc ks T h) {x : Value} (hd : decode bytes pc = .ok (.pop, 1)) (hc : x.category = 1) (hp : pc + 1 = pc') (k : F T (mkF m pc' L (rest))) : F T (mkF m pc L (x :: rest)) := by
  subst hp; exact cx.step (fun _ q => XS.pop (cx.at st) cx.1.1 rfl (cx.dec hd) rfl hc q) k
theorem E_dup (cx : Cx l Z n0 p e R s m args below meth c bytes ml own name rt Q F S) (st : S kc ks T h) {x : Value} (hd : decode bytes pc = .ok (.dup, 1)) (hc : x.category = 1) (hp : pc + 1 = pc') (k : F T (mkF m pc' L (x :: x :: rest))) : F T (mkF m pc L (x :: rest)) := by
  subst hp; exact cx.step (fun _ q => XS.dup (cx.at st) cx.1.1 rfl (cx.dec hd) rfl hc q) k
theorem E_dup_x1 (cx : Cx l Z n0 p e R s m args below meth c bytes ml own name rt Q F S) (st : S kc ks T h) {x y : Value} (hd : decode bytes pc = .ok (.dup_x1, 1)) (hc : x.category = 1) (hc2 : y.category = 1) (hp : pc + 1 = pc') (k : F T (mkF m pc' L (x :: y :: x :: rest))) : F T (mkF m pc L (x :: y :: rest)) := by
  subst hp; exact cx.step (fun _ q => XS.dupX1 (cx.at st) cx.1.1 rfl (cx.dec hd) rfl hc hc2 q) k
theorem E_aconst_null (cx : Cx l Z n0 p e R s m args below meth c bytes ml own name rt Q F S) (st : S kc ks T h)  (hd : decode bytes pc = .ok (.aconst_null, 1))  (hp : pc + 1 = pc') (k : F T (mkF m pc' L (.null :: rest))) : F T (mkF m pc L (rest)) := by
  subst hp; exact cx.step (fun _ q => XS.aconstNull (cx.at st) cx.1.1 rfl (cx.dec hd)  q) k
theorem E_iloadN (cx : Cx l Z n0 p e R s m args below meth c bytes ml own name rt Q F S) (st : S kc ks T h) {j : Fin 4} {x : Int32} (hd : decode bytes pc = .ok (.iload_n j, 1)) (hl : L[j.val]? = some (.val (.int x)))  (hp : pc + 1 = pc') (k : F T (mkF m pc' L (.int x :: rest))) : F T (mkF m pc L (rest)) := by
  subst hp; exact cx.step (fun _ q => XS.iloadN (cx.at st) cx.1.1 rfl (cx.dec hd) hl q) k
theorem E_istoreN (cx : Cx l Z n0 p e R s m args below meth c bytes ml own name rt Q F S) (st : S kc ks T h) {j : Fin 4} {x : Int32} (hd : decode bytes pc = .ok (.istore_n j, 1))  (hl : storeLocals L j.val (.int x) = some L') (hp : pc + 1 = pc') (k : F T (mkF m pc' L' (rest))) : F T (mkF m pc L (.int x :: rest)) := by
  subst hp; exact cx.step (fun _ q => XS.istoreN (cx.at st) cx.1.1 rfl (cx.dec hd) rfl hl q) k
theorem E_iload (cx : Cx l Z n0 p e R s m args below meth c bytes ml own name rt Q F S) (st : S kc ks T h) {j : Nat} {x : Int32} (hd : decode bytes pc = .ok (.iload j, 2)) (hl : L[j]? = some (.val (.int x)))  (hp : pc + 2 = pc') (k : F T (mkF m pc' L (.int x :: rest))) : F T (mkF m pc L (rest)) := by
  subst hp; exact cx.step (fun _ q => XS.iload (cx.at st) cx.1.1 rfl (cx.dec hd) hl q) k
theorem E_istore (cx : Cx l Z n0 p e R s m args below meth c bytes ml own name rt Q F S) (st : S kc ks T h) {j : Nat} {x : Int32} (hd : decode bytes pc = .ok (.istore j, 2))  (hl : storeLocals L j (.int x) = some L') (hp : pc + 2 = pc') (k : F T (mkF m pc' L' (rest))) : F T (mkF m pc L (.int x :: rest)) := by
  subst hp; exact cx.step (fun _ q => XS.istore (cx.at st) cx.1.1 rfl (cx.dec hd) rfl hl q) k
theorem E_lloadN (cx : Cx l Z n0 p e R s m args below meth c bytes ml own name rt Q F S) (st : S kc ks T h) {j : Fin 4} {x : Int64} (hd : decode bytes pc = .ok (.lload_n j, 1)) (hl : L[j.val]? = some (.val (.long x)))  (hp : pc + 1 = pc') (k : F T (mkF m pc' L (.long x :: rest))) : F T (mkF m pc L (rest)) := by
  subst hp; exact cx.step (fun _ q => XS.lloadN (cx.at st) cx.1.1 rfl (cx.dec hd) hl q) k
theorem E_lstoreN (cx : Cx l Z n0 p e R s m args below meth c bytes ml own name rt Q F S) (st : S kc ks T h) {j : Fin 4} {x : Int64} (hd : decode bytes pc = .ok (.lstore_n j, 1))  (hl : storeLocals L j.val (.long x) = some L') (hp : pc + 1 = pc') (k : F T (mkF m pc' L' (rest))) : F T (mkF m pc L (.long x :: rest)) := by
  subst hp; exact cx.step (fun _ q => XS.lstoreN (cx.at st) cx.1.1 rfl (cx.dec hd) rfl hl q) k
theorem E_lload (cx : Cx l Z n0 p e R s m args below meth c bytes ml own name rt Q F S) (st : S kc ks T h) {j : Nat} {x : Int64} (hd : decode bytes pc = .ok (.lload j, 2)) (hl : L[j]? = some (.val (.long x)))  (hp : pc + 2 = pc') (k : F T (mkF m pc' L (.long x :: rest))) : F T (mkF m pc L (rest)) := by
  subst hp; exact cx.step (fun _ q => XS.lload (cx.at st) cx.1.1 rfl (cx.dec hd) hl q) k
theorem E_lstore (cx : Cx l Z n0 p e R s m args below meth c bytes ml own name rt Q F S) (st : S kc ks T h) {j : Nat} {x : Int64} (hd : decode bytes pc = .ok (.lstore j, 2))  (hl : storeLocals L j (.long x) = some L') (hp : pc + 2 = pc') (k : F T (mkF m pc' L' (rest))) : F T (mkF m pc L (.long x :: rest)) := by
  subst hp; exact cx.step (fun _ q => XS.lstore (cx.at st) cx.1.1 rfl (cx.dec hd) rfl hl q) k
theorem E_aloadN (cx : Cx l Z n0 p e R s m args below meth c bytes ml own name rt Q F S) (st : S kc ks T h) {j : Fin 4} {x : Value} (hd : decode bytes pc = .ok (.aload_n j, 1)) (hl : L[j.val]? = some (.val (x))) (hv : x.isRef = true) (hp : pc + 1 = pc') (k : F T (mkF m pc' L (x :: rest))) : F T (mkF m pc L (rest)) := by
  subst hp; exact cx.step (fun _ q => XS.aloadN (cx.at st) cx.1.1 rfl (cx.dec hd) hl hv q) k
theorem E_astoreN (cx : Cx l Z n0 p e R s m args below meth c bytes ml own name rt Q F S) (st : S kc ks T h) {j : Fin 4} {x : Value} (hd : decode bytes pc = .ok (.astore_n j, 1)) (hv : x.isRef = true) (hl : storeLocals L j.val (x) = some L') (hp : pc + 1 = pc') (k : F T (mkF m pc' L' (rest))) : F T (mkF m pc L (x :: rest)) := by
  subst hp; exact cx.step (fun _ q => XS.astoreN (cx.at st) cx.1.1 rfl (cx.dec hd) rfl hv hl q) k
theorem E_aload (cx : Cx l Z n0 p e R s m args below meth c bytes ml own name rt Q F S) (st : S kc ks T h) {j : Nat} {x : Value} (hd : decode bytes pc = .ok (.aload j, 2)) (hl : L[j]? = some (.val (x))) (hv : x.isRef = true) (hp : pc + 2 = pc') (k : F T (mkF m pc' L (x :: rest))) : F T (mkF m pc L (rest)) := by
  subst hp; exact cx.step (fun _ q => XS.aload (cx.at st) cx.1.1 rfl (cx.dec hd) hl hv q) k
theorem E_astore (cx : Cx l Z n0 p e R s m args below meth c bytes ml own name rt Q F S) (st : S kc ks T h) {j : Nat} {x : Value} (hd : decode bytes pc = .ok (.astore j, 2)) (hv : x.isRef = true) (hl : storeLocals L j (x) = some L') (hp : pc + 2 = pc') (k : F T (mkF m pc' L' (rest))) : F T (mkF m pc L (x :: rest)) := by
  subst hp; exact cx.step (fun _ q => XS.astore (cx.at st) cx.1.1 rfl (cx.dec hd) rfl hv hl q) k
theorem E_iinc (cx : Cx l Z n0 p e R s m args below meth c bytes ml own name rt Q F S) (st : S kc ks T h) {j : Nat} {cst : Int} {x : Int32} (v : Int32) (hd : decode bytes pc = .ok (.iinc j cst, 3)) (hv : Int32.ofInt cst = v) (hl : L[j]? = some (.val (.int x))) (hl' : storeLocals L j (.int (x + v)) = some L') (hp : pc + 3 = pc') (k : F T (mkF m pc' L' rest)) : F T (mkF m pc L rest) := by
  subst hp hv; exact cx.step (fun _ q => XS.iinc (cx.at st) cx.1.1 rfl (cx.dec hd) hl hl' q) k
theorem E_iconst (cx : Cx l Z n0 p e R s m args below meth c bytes ml own name rt Q F S) (st : S kc ks T h) {i : Int} (v : Int32) (hd : decode bytes pc = .ok (.iconst i, 1)) (hv : Int32.ofInt i = v) (hp : pc + 1 = pc') (k : F T (mkF m pc' L (.int v :: rest))) : F T (mkF m pc L rest) := by
  subst hp hv; exact cx.step (fun _ q => XS.iconst (cx.at st) cx.1.1 rfl (cx.dec hd) q) k
theorem E_bipush (cx : Cx l Z n0 p e R s m args below meth c bytes ml own name rt Q F S) (st : S kc ks T h) {i : Int} (v : Int32) (hd : decode bytes pc = .ok (.bipush i, 2)) (hv : (Int8.ofInt i).toInt32 = v) (hp : pc + 2 = pc') (k : F T (mkF m pc' L (.int v :: rest))) : F T (mkF m pc L rest) := by
  subst hp hv; exact cx.step (fun _ q => XS.bipush (cx.at st) cx.1.1 rfl (cx.dec hd) q) k
theorem E_sipush (cx : Cx l Z n0 p e R s m args below meth c bytes ml own name rt Q F S) (st : S kc ks T h) {i : Int} (v : Int32) (hd : decode bytes pc = .ok (.sipush i, 3)) (hv : (Int16.ofInt i).toInt32 = v) (hp : pc + 3 = pc') (k : F T (mkF m pc' L (.int v :: rest))) : F T (mkF m pc L rest) := by
  subst hp hv; exact cx.step (fun _ q => XS.sipush (cx.at st) cx.1.1 rfl (cx.dec hd) q) k
theorem E_lconst (cx : Cx l Z n0 p e R s m args below meth c bytes ml own name rt Q F S) (st : S kc ks T h) {i : Fin 2} (v : Int64) (hd : decode bytes pc = .ok (.lconst i, 1)) (hv : Int64.ofNat i = v) (hp : pc + 1 = pc') (k : F T (mkF m pc' L (.long v :: rest))) : F T (mkF m pc L rest) := by
  subst hp hv; exact cx.step (fun _ q => XS.lconst (cx.at st) cx.1.1 rfl (cx.dec hd) q) k
theorem E_goto (cx : Cx l Z n0 p e R s m args below meth c bytes ml own name rt Q F S) (st : S kc ks T h) {o : Int} (hd : decode bytes pc = .ok (.goto o, 3)) (ho : 0 ≤ (pc : Int) + o) (hp : ((pc : Int) + o).toNat = pc') (k : F T (mkF m pc' L rest)) : F T (mkF m pc L rest) :=
  cx.step (fun _ q => XS.goto (cx.at st) cx.1.1 rfl (pc0 := pc) rfl (cx.dec hd) ho hp q) k
theorem E_irem (cx : Cx l Z n0 p e R s m args below meth c bytes ml own name rt Q F S) (st : S kc ks T h) {x y : Int32} (hd : decode bytes pc = .ok (.irem, 1)) (hz : y ≠ 0) (hp : pc + 1 = pc') (k : F T (mkF m pc' L (.int (x % y) :: rest))) : F T (mkF m pc L (.int y :: .int x :: rest)) := by
  subst hp
  obtain ⟨_, _, _, X, -⟩ := cx.open st
  exact cx.step (fun _ q => iremM X cx.1.1 rfl (cx.dec hd) rfl hz q) k
theorem E_icmp_ltY (cx : Cx l Z n0 p e R s m args below meth c bytes ml own name rt Q F S) (st : S kc ks T h) {x y : Int32} {o : Int} (hd : decode bytes pc = .ok (.if_icmp .lt o, 3)) (ho : 0 ≤ (pc : Int) + o) (hp : ((pc : Int) + o).toNat = pc') (c1 : x < y) (k : F T (mkF m pc' L rest)) : F T (mkF m pc L (.int y :: .int x :: rest)) :=
  cx.step (fun _ q => XS.icmpYes (cx.at st) cx.1.1 rfl (pc0 := pc) rfl (cx.dec hd) rfl (tlt c1).1 ho hp q) k
theorem E_icmp_ltN (cx : Cx l Z n0 p e R s m args below meth c bytes ml own name rt Q F S) (st : S kc ks T h) {x y : Int32} {o : Int} (hd : decode bytes pc = .ok (.if_icmp .lt o, 3)) (hp : pc + 3 = pc') (c1 : ¬ (x < y)) (k : F T (mkF m pc' L rest)) : F T (mkF m pc L (.int y :: .int x :: rest)) := by
  subst hp; exact cx.step (fun _ q => XS.icmpNo (cx.at st) cx.1.1 rfl (cx.dec hd) rfl (flt c1).1 q) k
theorem E_if_ltY (cx : Cx l Z n0 p e R s m args below meth c bytes ml own name rt Q F S) (st : S kc ks T h) {x : Int32} {o : Int} (hd : decode bytes pc = .ok (.ifCond .lt o, 3)) (ho : 0 ≤ (pc : Int) + o) (hp : ((pc : Int) + o).toNat = pc') (c1 : x < 0) (k : F T (mkF m pc' L rest)) : F T (mkF m pc L (.int x :: rest)) :=
  cx.step (fun _ q => XS.ifYes (cx.at st) cx.1.1 rfl (pc0 := pc) rfl (cx.dec hd) rfl ((if0 _ _).trans (tlt c1).1) ho hp q) k
theorem E_if_ltN (cx : Cx l Z n0 p e R s m args below meth c bytes ml own name rt Q F S) (st : S kc ks T h) {x : Int32} {o : Int} (hd : decode bytes pc = .ok (.ifCond .lt o, 3)) (hp : pc + 3 = pc') (c1 : ¬ (x < 0)) (k : F T (mkF m pc' L rest)) : F T (mkF m pc L (.int x :: rest)) := by
  subst hp; exact cx.step (fun _ q => XS.ifNo (cx.at st) cx.1.1 rfl (cx.dec hd) rfl ((if0 _ _).trans (flt c1).1) q) k
theorem E_icmp_geY (cx : Cx l Z n0 p e R s m args below meth c bytes ml own name rt Q F S) (st : S kc ks T h) {x y : Int32} {o : Int} (hd : decode bytes pc = .ok (.if_icmp .ge o, 3)) (ho : 0 ≤ (pc : Int) + o) (hp : ((pc : Int) + o).toNat = pc') (c1 : ¬ (x < y)) (k : F T (mkF m pc' L rest)) : F T (mkF m pc L (.int y :: .int x :: rest)) :=
  cx.step (fun _ q => XS.icmpYes (cx.at st) cx.1.1 rfl (pc0 := pc) rfl (cx.dec hd) rfl (flt c1).2.1 ho hp q) k
theorem E_icmp_geN (cx : Cx l Z n0 p e R s m args below meth c bytes ml own name rt Q F S) (st : S kc ks T h) {x y : Int32} {o : Int} (hd : decode bytes pc = .ok (.if_icmp .ge o, 3)) (hp : pc + 3 = pc') (c1 : x < y) (k : F T (mkF m pc' L rest)) : F T (mkF m pc L (.int y :: .int x :: rest)) := by
  subst hp; exact cx.step (fun _ q => XS.icmpNo (cx.at st) cx.1.1 rfl (cx.dec hd) rfl (tlt c1).2.1 q) k
theorem E_if_geY (cx : Cx l Z n0 p e R s m args below meth c bytes ml own name rt Q F S) (st : S kc ks T h) {x : Int32} {o : Int} (hd : decode bytes pc = .ok (.ifCond .ge o, 3)) (ho : 0 ≤ (pc : Int) + o) (hp : ((pc : Int) + o).toNat = pc') (c1 : ¬ (x < 0)) (k : F T (mkF m pc' L rest)) : F T (mkF m pc L (.int x :: rest)) :=
  cx.step (fun _ q => XS.ifYes (cx.at st) cx.1.1 rfl (pc0 := pc) rfl (cx.dec hd) rfl ((if0 _ _).trans (flt c1).2.1) ho hp q) k
theorem E_if_geN (cx : Cx l Z n0 p e R s m args below meth c bytes ml own name rt Q F S) (st : S kc ks T h) {x : Int32} {o : Int} (hd : decode bytes pc = .ok (.ifCond .ge o, 3)) (hp : pc + 3 = pc') (c1 : x < 0) (k : F T (mkF m pc' L rest)) : F T (mkF m pc L (.int x :: rest)) := by
  subst hp; exact cx.step (fun _ q => XS.ifNo (cx.at st) cx.1.1 rfl (cx.dec hd) rfl ((if0 _ _).trans (tlt c1).2.1) q) k
theorem E_icmp_gtY (cx : Cx l Z n0 p e R s m args below meth c bytes ml own name rt Q F S) (st : S kc ks T h) {x y : Int32} {o : Int} (hd : decode bytes pc = .ok (.if_icmp .gt o, 3)) (ho : 0 ≤ (pc : Int) + o) (hp : ((pc : Int) + o).toNat = pc') (c1 : y < x) (k : F T (mkF m pc' L rest)) : F T (mkF m pc L (.int y :: .int x :: rest)) :=
  cx.step (fun _ q => XS.icmpYes (cx.at st) cx.1.1 rfl (pc0 := pc) rfl (cx.dec hd) rfl (tlt c1).2.2.1 ho hp q) k
theorem E_icmp_gtN (cx : Cx l Z n0 p e R s m args below meth c bytes ml own name rt Q F S) (st : S kc ks T h) {x y : Int32} {o : Int} (hd : decode bytes pc = .ok (.if_icmp .gt o, 3)) (hp : pc + 3 = pc') (c1 : ¬ (y < x)) (k : F T (mkF m pc' L rest)) : F T (mkF m pc L (.int y :: .int x :: rest)) := by
  subst hp; exact cx.step (fun _ q => XS.icmpNo (cx.at st) cx.1.1 rfl (cx.dec hd) rfl (flt c1).2.2.1 q) k
theorem E_if_gtY (cx : Cx l Z n0 p e R s m args below meth c bytes ml own name rt Q F S) (st : S kc ks T h) {x : Int32} {o : Int} (hd : decode bytes pc = .ok (.ifCond .gt o, 3)) (ho : 0 ≤ (pc : Int) + o) (hp : ((pc : Int) + o).toNat = pc') (c1 : 0 < x) (k : F T (mkF m pc' L rest)) : F T (mkF m pc L (.int x :: rest)) :=
  cx.step (fun _ q => XS.ifYes (cx.at st) cx.1.1 rfl (pc0 := pc) rfl (cx.dec hd) rfl ((if0 _ _).trans (tlt c1).2.2.1) ho hp q) k
theorem E_if_gtN (cx : Cx l Z n0 p e R s m args below meth c bytes ml own name rt Q F S) (st : S kc ks T h) {x : Int32} {o : Int} (hd : decode bytes pc = .ok (.ifCond .gt o, 3)) (hp : pc + 3 = pc') (c1 : ¬ (0 < x)) (k : F T (mkF m pc' L rest)) : F T (mkF m pc L (.int x :: rest)) := by
  subst hp; exact cx.step (fun _ q => XS.ifNo (cx.at st) cx.1.1 rfl (cx.dec hd) rfl ((if0 _ _).trans (flt c1).2.2.1) q) k
theorem E_icmp_leY (cx : Cx l Z n0 p e R s m args below meth c bytes ml own name rt Q F S) (st : S kc ks T h) {x y : Int32} {o : Int} (hd : decode bytes pc = .ok (.if_icmp .le o, 3)) (ho : 0 ≤ (pc : Int) + o) (hp : ((pc : Int) + o).toNat = pc') (c1 : ¬ (y < x)) (k : F T (mkF m pc' L rest)) : F T (mkF m pc L (.int y :: .int x :: rest)) :=
  cx.step (fun _ q => XS.icmpYes (cx.at st) cx.1.1 rfl (pc0 := pc) rfl (cx.dec hd) rfl (flt c1).2.2.2 ho hp q) k
theorem E_icmp_leN (cx : Cx l Z n0 p e R s m args below meth c bytes ml own name rt Q F S) (st : S kc ks T h) {x y : Int32} {o : Int} (hd : decode bytes pc = .ok (.if_icmp .le o, 3)) (hp : pc + 3 = pc') (c1 : y < x) (k : F T (mkF m pc' L rest)) : F T (mkF m pc L (.int y :: .int x :: rest)) := by
  subst hp; exact cx.step (fun _ q => XS.icmpNo (cx.at st) cx.1.1 rfl (cx.dec hd) rfl (tlt c1).2.2.2 q) k
theorem E_if_leY (cx : Cx l Z n0 p e R s m args below meth c bytes ml own name rt Q F S) (st : S kc ks T h) {x : Int32} {o : Int} (hd : decode bytes pc = .ok (.ifCond .le o, 3)) (ho : 0 ≤ (pc : Int) + o) (hp : ((pc : Int) + o).toNat = pc') (c1 : ¬ (0 < x)) (k : F T (mkF m pc' L rest)) : F T (mkF m pc L (.int x :: rest)) :=
  cx.step (fun _ q => XS.ifYes (cx.at st) cx.1.1 rfl (pc0 := pc) rfl (cx.dec hd) rfl ((if0 _ _).trans (flt c1).2.2.2) ho hp q) k
theorem E_if_leN (cx : Cx l Z n0 p e R s m args below meth c bytes ml own name rt Q F S) (st : S kc ks T h) {x : Int32} {o : Int} (hd : decode bytes pc = .ok (.ifCond .le o, 3)) (hp : pc + 3 = pc') (c1 : 0 < x) (k : F T (mkF m pc' L rest)) : F T (mkF m pc L (.int x :: rest)) := by
  subst hp; exact cx.step (fun _ q => XS.ifNo (cx.at st) cx.1.1 rfl (cx.dec hd) rfl ((if0 _ _).trans (tlt c1).2.2.2) q) k
theorem E_icmp_eqY (cx : Cx l Z n0 p e R s m args below meth c bytes ml own name rt Q F S) (st : S kc ks T h) {x y : Int32} {o : Int} (hd : decode bytes pc = .ok (.if_icmp .eq o, 3)) (ho : 0 ≤ (pc : Int) + o) (hp : ((pc : Int) + o).toNat = pc') (c1 : x = y) (k : F T (mkF m pc' L rest)) : F T (mkF m pc L (.int y :: .int x :: rest)) :=
  cx.step (fun _ q => XS.icmpYes (cx.at st) cx.1.1 rfl (pc0 := pc) rfl (cx.dec hd) rfl (teq c1).1 ho hp q) k
theorem E_icmp_eqN (cx : Cx l Z n0 p e R s m args below meth c bytes ml own name rt Q F S) (st : S kc ks T h) {x y : Int32} {o : Int} (hd : decode bytes pc = .ok (.if_icmp .eq o, 3)) (hp : pc + 3 = pc') (c1 : ¬ (x = y)) (k : F T (mkF m pc' L rest)) : F T (mkF m pc L (.int y :: .int x :: rest)) := by
  subst hp; exact cx.step (fun _ q => XS.icmpNo (cx.at st) cx.1.1 rfl (cx.dec hd) rfl (feq c1).1 q) k
theorem E_if_eqY (cx : Cx l Z n0 p e R s m args below meth c bytes ml own name rt Q F S) (st : S kc ks T h) {x : Int32} {o : Int} (hd : decode bytes pc = .ok (.ifCond .eq o, 3)) (ho : 0 ≤ (pc : Int) + o) (hp : ((pc : Int) + o).toNat = pc') (c1 : x = 0) (k : F T (mkF m pc' L rest)) : F T (mkF m pc L (.int x :: rest)) :=
  cx.step (fun _ q => XS.ifYes (cx.at st) cx.1.1 rfl (pc0 := pc) rfl (cx.dec hd) rfl ((if0 _ _).trans (teq c1).1) ho hp q) k
theorem E_if_eqN (cx : Cx l Z n0 p e R s m args below meth c bytes ml own name rt Q F S) (st : S kc ks T h) {x : Int32} {o : Int} (hd : decode bytes pc = .ok (.ifCond .eq o, 3)) (hp : pc + 3 = pc') (c1 : ¬ (x = 0)) (k : F T (mkF m pc' L rest)) : F T (mkF m pc L (.int x :: rest)) := by
  subst hp; exact cx.step (fun _ q => XS.ifNo (cx.at st) cx.1.1 rfl (cx.dec hd) rfl ((if0 _ _).trans (feq c1).1) q) k
theorem E_icmp_neY (cx : Cx l Z n0 p e R s m args below meth c bytes ml own name rt Q F S) (st : S kc ks T h) {x y : Int32} {o : Int} (hd : decode bytes pc = .ok (.if_icmp .ne o, 3)) (ho : 0 ≤ (pc : Int) + o) (hp : ((pc : Int) + o).toNat = pc') (c1 : ¬ (x = y)) (k : F T (mkF m pc' L rest)) : F T (mkF m pc L (.int y :: .int x :: rest)) :=
  cx.step (fun _ q => XS.icmpYes (cx.at st) cx.1.1 rfl (pc0 := pc) rfl (cx.dec hd) rfl (feq c1).2 ho hp q) k
theorem E_icmp_neN (cx : Cx l Z n0 p e R s m args below meth c bytes ml own name rt Q F S) (st : S kc ks T h) {x y : Int32} {o : Int} (hd : decode bytes pc = .ok (.if_icmp .ne o, 3)) (hp : pc + 3 = pc') (c1 : x = y) (k : F T (mkF m pc' L rest)) : F T (mkF m pc L (.int y :: .int x :: rest)) := by
  subst hp; exact cx.step (fun _ q => XS.icmpNo (cx.at st) cx.1.1 rfl (cx.dec hd) rfl (teq c1).2 q) k
theorem E_if_neY (cx : Cx l Z n0 p e R s m args below meth c bytes ml own name rt Q F S) (st : S kc ks T h) {x : Int32} {o : Int} (hd : decode bytes pc = .ok (.ifCond .ne o, 3)) (ho : 0 ≤ (pc : Int) + o) (hp : ((pc : Int) + o).toNat = pc') (c1 : ¬ (x = 0)) (k : F T (mkF m pc' L rest)) : F T (mkF m pc L (.int x :: rest)) :=
  cx.step (fun _ q => XS.ifYes (cx.at st) cx.1.1 rfl (pc0 := pc) rfl (cx.dec hd) rfl ((if0 _ _).trans (feq c1).2) ho hp q) k
theorem E_if_neN (cx : Cx l Z n0 p e R s m args below meth c bytes ml own name rt Q F S) (st : S kc ks T h) {x : Int32} {o : Int} (hd : decode bytes pc = .ok (.ifCond .ne o, 3)) (hp : pc + 3 = pc') (c1 : x = 0) (k : F T (mkF m pc' L rest)) : F T (mkF m pc L (.int x :: rest)) := by
  subst hp; exact cx.step (fun _ q => XS.ifNo (cx.at st) cx.1.1 rfl (cx.dec hd) rfl ((if0 _ _).trans (teq c1).2) q) k
theorem E_lif_ltY (cx : Cx l Z n0 p e R s m args below meth c bytes ml own name rt Q F S) (st : S kc ks T h) {x y : Int64} {o : Int} (hd : decode bytes pc = .ok (.lcmp, 1)) (hd2 : decode bytes (pc + 1) = .ok (.ifCond .lt o, 3)) (ho : 0 ≤ ((pc + 1 : Nat) : Int) + o) (hp : (((pc + 1 : Nat) : Int) + o).toNat = pc') (c1 : x < y) (k : F T (mkF m pc' L rest)) : F T (mkF m pc L (.long y :: .long x :: rest)) :=
  E_lcmp cx st hd rfl (E_if_ltY cx st hd2 ho hp ((lw_lt x y).mpr c1) k)
theorem E_lif_ltN (cx : Cx l Z n0 p e R s m args below meth c bytes ml own name rt Q F S) (st : S kc ks T h) {x y : Int64} {o : Int} (hd : decode bytes pc = .ok (.lcmp, 1)) (hd2 : decode bytes (pc + 1) = .ok (.ifCond .lt o, 3)) (hp : pc + 4 = pc') (c1 : ¬ (x < y)) (k : F T (mkF m pc' L rest)) : F T (mkF m pc L (.long y :: .long x :: rest)) :=
  E_lcmp cx st hd rfl (E_if_ltN cx st hd2 hp (fun z => c1 ((lw_lt x y).mp z)) k)
theorem E_lif_geY (cx : Cx l Z n0 p e R s m args below meth c bytes ml own name rt Q F S) (st : S kc ks T h) {x y : Int64} {o : Int} (hd : decode bytes pc = .ok (.lcmp, 1)) (hd2 : decode bytes (pc + 1) = .ok (.ifCond .ge o, 3)) (ho : 0 ≤ ((pc + 1 : Nat) : Int) + o) (hp : (((pc + 1 : Nat) : Int) + o).toNat = pc') (c1 : ¬ (x < y)) (k : F T (mkF m pc' L rest)) : F T (mkF m pc L (.long y :: .long x :: rest)) :=
  E_lcmp cx st hd rfl (E_if_geY cx st hd2 ho hp (fun z => c1 ((lw_lt x y).mp z)) k)
theorem E_lif_geN (cx : Cx l Z n0 p e R s m args below meth c bytes ml own name rt Q F S) (st : S kc ks T h) {x y : Int64} {o : Int} (hd : decode bytes pc = .ok (.lcmp, 1)) (hd2 : decode bytes (pc + 1) = .ok (.ifCond .ge o, 3)) (hp : pc + 4 = pc') (c1 : x < y) (k : F T (mkF m pc' L rest)) : F T (mkF m pc L (.long y :: .long x :: rest)) :=
  E_lcmp cx st hd rfl (E_if_geN cx st hd2 hp ((lw_lt x y).mpr c1) k)
theorem E_lif_gtY (cx : Cx l Z n0 p e R s m args below meth c bytes ml own name rt Q F S) (st : S kc ks T h) {x y : Int64} {o : Int} (hd : decode bytes pc = .ok (.lcmp, 1)) (hd2 : decode bytes (pc + 1) = .ok (.ifCond .gt o, 3)) (ho : 0 ≤ ((pc + 1 : Nat) : Int) + o) (hp : (((pc + 1 : Nat) : Int) + o).toNat = pc') (c1 : y < x) (k : F T (mkF m pc' L rest)) : F T (mkF m pc L (.long y :: .long x :: rest)) :=
  E_lcmp cx st hd rfl (E_if_gtY cx st hd2 ho hp ((lw_gt x y).mpr c1) k)
theorem E_lif_gtN (cx : Cx l Z n0 p e R s m args below meth c bytes ml own name rt Q F S) (st : S kc ks T h) {x y : Int64} {o : Int} (hd : decode bytes pc = .ok (.lcmp, 1)) (hd2 : decode bytes (pc + 1) = .ok (.ifCond .gt o, 3)) (hp : pc + 4 = pc') (c1 : ¬ (y < x)) (k : F T (mkF m pc' L rest)) : F T (mkF m pc L (.long y :: .long x :: rest)) :=
  E_lcmp cx st hd rfl (E_if_gtN cx st hd2 hp (fun z => c1 ((lw_gt x y).mp z)) k)
theorem E_lif_leY (cx : Cx l Z n0 p e R s m args below meth c bytes ml own name rt Q F S) (st : S kc ks T h) {x y : Int64} {o : Int} (hd : decode bytes pc = .ok (.lcmp, 1)) (hd2 : decode bytes (pc + 1) = .ok (.ifCond .le o, 3)) (ho : 0 ≤ ((pc + 1 : Nat) : Int) + o) (hp : (((pc + 1 : Nat) : Int) + o).toNat = pc') (c1 : ¬ (y < x)) (k : F T (mkF m pc' L rest)) : F T (mkF m pc L (.long y :: .long x :: rest)) :=
  E_lcmp cx st hd rfl (E_if_leY cx st hd2 ho hp (fun z => c1 ((lw_gt x y).mp z)) k)
theorem E_lif_leN (cx : Cx l Z n0 p e R s m args below meth c bytes ml own name rt Q F S) (st : S kc ks T h) {x y : Int64} {o : Int} (hd : decode bytes pc = .ok (.lcmp, 1)) (hd2 : decode bytes (pc + 1) = .ok (.ifCond .le o, 3)) (hp : pc + 4 = pc') (c1 : y < x) (k : F T (mkF m pc' L rest)) : F T (mkF m pc L (.long y :: .long x :: rest)) :=
  E_lcmp cx st hd rfl (E_if_leN cx st hd2 hp ((lw_gt x y).mpr c1) k)
theorem E_lif_eqY (cx : Cx l Z n0 p e R s m args below meth c bytes ml own name rt Q F S) (st : S kc ks T h) {x y : Int64} {o : Int} (hd : decode bytes pc = .ok (.lcmp, 1)) (hd2 : decode bytes (pc + 1) = .ok (.ifCond .eq o, 3)) (ho : 0 ≤ ((pc + 1 : Nat) : Int) + o) (hp : (((pc + 1 : Nat) : Int) + o).toNat = pc') (c1 : x = y) (k : F T (mkF m pc' L rest)) : F T (mkF m pc L (.long y :: .long x :: rest)) :=
  E_lcmp cx st hd rfl (E_if_eqY cx st hd2 ho hp ((lw_eq x y).mpr c1) k)
theorem E_lif_eqN (cx : Cx l Z n0 p e R s m args below meth c bytes ml own name rt Q F S) (st : S kc ks T h) {x y : Int64} {o : Int} (hd : decode bytes pc = .ok (.lcmp, 1)) (hd2 : decode bytes (pc + 1) = .ok (.ifCond .eq o, 3)) (hp : pc + 4 = pc') (c1 : ¬ (x = y)) (k : F T (mkF m pc' L rest)) : F T (mkF m pc L (.long y :: .long x :: rest)) :=
  E_lcmp cx st hd rfl (E_if_eqN cx st hd2 hp (fun z => c1 ((lw_eq x y).mp z)) k)
theorem E_lif_neY (cx : Cx l Z n0 p e R s m args below meth c bytes ml own name rt Q F S) (st : S kc ks T h) {x y : Int64} {o : Int} (hd : decode bytes pc = .ok (.lcmp, 1)) (hd2 : decode bytes (pc + 1) = .ok (.ifCond .ne o, 3)) (ho : 0 ≤ ((pc + 1 : Nat) : Int) + o) (hp : (((pc + 1 : Nat) : Int) + o).toNat = pc') (c1 : ¬ (x = y)) (k : F T (mkF m pc' L rest)) : F T (mkF m pc L (.long y :: .long x :: rest)) :=
  E_lcmp cx st hd rfl (E_if_neY cx st hd2 ho hp (fun z => c1 ((lw_eq x y).mp z)) k)
theorem E_lif_neN (cx : Cx l Z n0 p e R s m args below meth c bytes ml own name rt Q F S) (st : S kc ks T h) {x y : Int64} {o : Int} (hd : decode bytes pc = .ok (.lcmp, 1)) (hd2 : decode bytes (pc + 1) = .ok (.ifCond .ne o, 3)) (hp : pc + 4 = pc') (c1 : x = y) (k : F T (mkF m pc' L rest)) : F T (mkF m pc L (.long y :: .long x :: rest)) :=
  E_lcmp cx st hd rfl (E_if_neN cx st hd2 hp ((lw_eq x y).mpr c1) k)
theorem E_ifnullY (cx : Cx l Z n0 p e R s m args below meth c bytes ml own name rt Q F S) (st : S kc ks T h) {o : Int} (hd : decode bytes pc = .ok (.ifnull o, 3)) (ho : 0 ≤ (pc : Int) + o) (hp : ((pc : Int) + o).toNat = pc') (k : F T (mkF m pc' L rest)) : F T (mkF m pc L (.null :: rest)) :=
  cx.step (fun _ q => XS.ifnullYes (cx.at st) cx.1.1 rfl (pc0 := pc) rfl (cx.dec hd) rfl ho hp q) k
theorem E_ifnullN (cx : Cx l Z n0 p e R s m args below meth c bytes ml own name rt Q F S) (st : S kc ks T h) {b : Addr} {o : Int} (hd : decode bytes pc = .ok (.ifnull o, 3)) (hp : pc + 3 = pc') (k : F T (mkF m pc' L rest)) : F T (mkF m pc L (.ref b :: rest)) := by
  subst hp; exact cx.step (fun _ q => XS.ifnullNo (cx.at st) cx.1.1 rfl (cx.dec hd) rfl q) k
theorem E_ifnonnullY (cx : Cx l Z n0 p e R s m args below meth c bytes ml own name rt Q F S) (st : S kc ks T h) {b : Addr} {o : Int} (hd : decode bytes pc = .ok (.ifnonnull o, 3)) (ho : 0 ≤ (pc : Int) + o) (hp : ((pc : Int) + o).toNat = pc') (k : F T (mkF m pc' L rest)) : F T (mkF m pc L (.ref b :: rest)) :=
  cx.step (fun _ q => XS.ifnonnullYes (cx.at st) cx.1.1 rfl (pc0 := pc) rfl (cx.dec hd) rfl ho hp q) k
theorem E_ifnonnullN (cx : Cx l Z n0 p e R s m args below meth c bytes ml own name rt Q F S) (st : S kc ks T h) {o : Int} (hd : decode bytes pc = .ok (.ifnonnull o, 3)) (hp : pc + 3 = pc') (k : F T (mkF m pc' L rest)) : F T (mkF m pc L (.null :: rest)) := by
  subst hp; exact cx.step (fun _ q => XS.ifnonnullNo (cx.at st) cx.1.1 rfl (cx.dec hd) rfl q) k
theorem E_dup2 (cx : Cx l Z n0 p e R s m args below meth c bytes ml own name rt Q F S) (st : S kc ks T h) {x y : Value} (hd : decode bytes pc = .ok (.dup2, 1)) (hc : x.category = 1) (hc2 : y.category = 1) (hp : pc + 1 = pc') (k : F T (mkF m pc' L (x :: y :: x :: y :: rest))) : F T (mkF m pc L (x :: y :: rest)) := by
  subst hp; exact cx.step (fun _ q => Jvm.Free.XT.dup2 (cx.at st) cx.1.1 rfl (cx.dec hd) rfl hc hc2 q) k
theorem E_dup2L (cx : Cx l Z n0 p e R s m args below meth c bytes ml own name rt Q F S) (st : S kc ks T h) {x : Int64} (hd : decode bytes pc = .ok (.dup2, 1)) (hp : pc + 1 = pc') (k : F T (mkF m pc' L (.long x :: .long x :: rest))) : F T (mkF m pc L (.long x :: rest)) := by
  subst hp; exact cx.step (fun _ q => Jvm.Free.XT.dup2L (cx.at st) cx.1.1 rfl (cx.dec hd) rfl q) k
theorem E_ldc (cx : Cx l Z n0 p e R s m args below meth c bytes ml own name rt Q F S) (st : S kc ks T h) {i : Nat} {v : Int32} (w : (Jvm.Cond.constant own i v).before a0 Z = true) (hd : decode bytes pc = .ok (.ldc i, 2)) (hp : pc + 2 = pc') (k : F T (mkF m pc' L (.int v :: rest))) : F T (mkF m pc L rest) := by
  subst hp
  obtain ⟨_, _, _, X, -⟩ := cx.open st
  exact cx.step (fun t q => X.ldcInt cx.1.1 cx.2.1.1 (mvT cx.1.2.1 w) (g := mkF m pc L rest) rfl (cx.dec hd) t q) k
theorem E_ldc_w (cx : Cx l Z n0 p e R s m args below meth c bytes ml own name rt Q F S) (st : S kc ks T h) {i : Nat} {v : Int32} (w : (Jvm.Cond.constant own i v).before a0 Z = true) (hd : decode bytes pc = .ok (.ldc_w i, 3)) (hp : pc + 3 = pc') (k : F T (mkF m pc' L (.int v :: rest))) : F T (mkF m pc L rest) := by
  subst hp
  obtain ⟨_, _, _, X, -⟩ := cx.open st
  exact cx.step (fun t q => X.ldcwInt cx.1.1 cx.2.1.1 (mvT cx.1.2.1 w) (g := mkF m pc L rest) rfl (cx.dec hd) t q) k
theorem E_ldc2_w (cx : Cx l Z n0 p e R s m args below meth c bytes ml own name rt Q F S) (st : S kc ks T h) {i : Nat} {v : Int64} (w : (Jvm.Cond.constantLong own i v).before a0 Z = true) (hd : decode bytes pc = .ok (.ldc2_w i, 3)) (hp : pc + 3 = pc') (k : F T (mkF m pc' L (.long v :: rest))) : F T (mkF m pc L rest) := by
  subst hp
  obtain ⟨_, _, _, X, -⟩ := cx.open st
  exact cx.step (fun t q => X.ldc2Long cx.1.1 cx.2.1.1 (mvT cx.1.2.1 w) (g := mkF m pc L rest) rfl (cx.dec hd) t q) k
theorem E_ireturn (cx : Cx l Z n0 p e R s m args below meth c bytes ml own name rt Q F S) (st : S kc ks T h) {x : Int32} {t : FieldType} (hd : decode bytes pc = .ok (.ireturn, 1)) (hrt : rt = some t) (ht : t = .int ∨ t = .boolean ∨ t = .byte ∨ t = .char ∨ t = .short) (hn : narrow t (.int x) = .int x) (hk : kc ≤ R.cells) (hs : ks ≤ R.slots) (hQ : Q (some (.int x)) h) : F T (mkF m pc L (.int x :: rest)) :=
  cx.fin st (fun q => by rw [hrt] at q; cases q) hk hs (fun fs _ _ _ X hr => retOut X cx.1.1 (cx.2.1.2.2.1.trans hrt) hn (Or.inl ⟨rfl, ht, x, rfl⟩) (cx.dec hd) hr) hQ
theorem E_lreturn (cx : Cx l Z n0 p e R s m args below meth c bytes ml own name rt Q F S) (st : S kc ks T h) {x : Int64} (hd : decode bytes pc = .ok (.lreturn, 1)) (hrt : rt = some .long) (hk : kc ≤ R.cells) (hs : ks ≤ R.slots) (hQ : Q (some (.long x)) h) : F T (mkF m pc L (.long x :: rest)) :=
  cx.fin st (fun q => by rw [hrt] at q; cases q) hk hs (fun fs _ _ _ X hr => retOut X cx.1.1 (cx.2.1.2.2.1.trans hrt) rfl (Or.inr (Or.inl ⟨rfl, rfl, x, rfl⟩)) (cx.dec hd) hr) hQ
theorem E_areturn (cx : Cx l Z n0 p e R s m args below meth c bytes ml own name rt Q F S) (st : S kc ks T h) {x : Value} {t : FieldType} (hd : decode bytes pc = .ok (.areturn, 1)) (hrt : rt = some t) (ht : t.isReference = true) (hn : narrow t x = x) (hx : x.isRef = true) (hk : kc ≤ R.cells) (hs : ks ≤ R.slots) (hQ : Q (some x) h) : F T (mkF m pc L (x :: rest)) :=
  cx.fin st (fun q => by rw [hrt] at q; cases q) hk hs (fun fs _ _ _ X hr => retOut X cx.1.1 (cx.2.1.2.2.1.trans hrt) hn (Or.inr (Or.inr (Or.inr (Or.inr ⟨rfl, ht, hx⟩)))) (cx.dec hd) hr) hQ
theorem E_return (cx : Cx l Z n0 p e R s m args below meth c bytes ml own name rt Q F S) (st : S kc ks T h) (hd : decode bytes pc = .ok (.return_, 1)) (hrt : rt = none) (hk : kc ≤ R.cells) (hs : ks ≤ R.slots) (hQ : Q none h) : F T (mkF m pc L []) :=
  cx.fin st (fun _ => rfl) hk hs (fun fs _ _ _ X hr => X.returnOut cx.1.1 (cx.2.1.2.2.1.trans hrt) (cx.dec hd) hr) hQ
theorem narrow01 {x : Int32} (q : x = 0 ∨ x = 1) : narrow .boolean (.int x) = .int x := by rcases q with rfl | rfl <;> rfl
theorem E_callS (cx : Cx l Z n0 p e R s m args below meth c bytes ml own name rt Q F S) (st : S kc ks T h) {y : MethodName} {bytes' : ByteArray} {ml' : Nat} {rt' : Option FieldType} {rm : Room} {argsL : List Value} {Q' : Option Value → Heap → Prop} {idx W : Nat} {stk : List Value} (rest : List Value)
    (K : Con l Z y bytes' ml' rt' rm argsL.toArray h n0 Q') (w1 : (Jvm.Cond.methodLink own idx y).before a0 Z = true) (w2 : (Jvm.Cond.static y).before a0 Z = true) (w3 : (Jvm.Cond.initialized y.cls).before a0 Z = true) (w4 : (Jvm.Cond.code y bytes' ml' rt').before a0 Z = true)
    (hd : decode bytes pc = .ok (.invokestatic idx, 3)) (hstk : stk = argsL.reverse ++ rest) (hL : L.size = ml) (hlen : ∀ sig, parseMethodDescriptor y.desc = some sig → argsL.length = sig.parameters.length) (hW : (rest.map fun v => v.category).sum ≤ W)
    (hy : y.cls ≠ "java/lang/invoke/MethodHandle" ∧ y.cls ≠ "java/lang/invoke/VarHandle") (hf : rm.frames + 1 ≤ R.frames) (hlo : W + (ml' + 11) + rm.locals ≤ R.locals) (hc : kc + rm.cells ≤ kc') (hs : ks + rm.slots ≤ ks') (hc' : kc' ≤ R.cells) (hs' : ks' ≤ R.slots) (hp : pc + 3 = pc')
    (k : ∀ v T' h', S kc' ks' T' h' → Q' v h' → F T' (mkF m pc' L (v.toList ++ rest))) : F T (mkF m pc L stk) := by
  subst hp
  obtain ⟨locs, cells, slots, X, q1, q2, q3, q4⟩ := cx.open st
  have hZ := cx.1.2.1
  obtain ⟨v, _, ⟨T₁, L₁, k₁, n₁⟩, -, X₁, ⟨Lc, hQ, e1, e2, e3⟩, stp⟩ := Jvm.LawKit.callS X cx.1.1 (y := y) cx.2.1.1 (mvT hZ w1) (mvT hZ w2) (mvT hZ w3) (mvT hZ w4) hy (backOf (W := W) (Q := fun v h L => Fr n0 L ∧ Q' v h) (K []) hZ w4 w3 hf hlo) (g := mkF m pc L stk) rfl (hL.trans cx.1.2.2.2.symm) (argsL := argsL) (rest := rest) hlen hstk (by show 2 * 0 + _ ≤ _; omega) (cx.dec hd) (fun _ _ => ⟨rfl, q1, by dsimp only [Pt.cells]; omega, by dsimp only [Pt.slots]; omega⟩)
  dsimp only [Pt.U, Pt.locs, Pt.cells, Pt.slots] at X₁ e1 e2 e3 stp hQ
  subst e1 e2 e3
  refine cx.step stp (k v T₁ T₁.heap ?_ hQ.2)
  obtain ⟨-, -, -, rfl⟩ := cx
  exact ⟨_, _, _, X₁, rfl, Fr.app q2 hQ.1, by omega, by omega⟩

theorem E_newP (cx : Cx l Z n0 p e R s m args below meth c bytes ml own name rt Q F S) (st : S kc ks T h) {aty : ArrayType} {n : Int32} {cap : Nat} (w : (Jvm.Cond.arrayClass (newarray.typeOf aty)).before a0 Z = true) (hd : decode bytes pc = .ok (.newarray aty, 2)) (hn : ¬ n < 0) (hcap : n.toNatClampNeg ≤ cap) (hb : cap * 8 ≤ 536870912) (hc : kc + 1 ≤ kc') (hs : ks + cap ≤ ks') (hc' : kc' ≤ R.cells) (hs' : ks' ≤ R.slots) (hp : pc + 2 = pc') {ad : String} (had : "[" ++ (newarray.typeOf aty).toString = ad)
    (k : ∀ T' h' cA a, a = h.size → S kc' ks' T' h' → Ext h h' → Arv Z h' a cA (newarray.typeOf aty) n [] (defaultValue (newarray.typeOf aty)) → Exa Z h' a ad → F T' (mkF m pc' L (.ref a :: rest))) : F T (mkF m pc L (.int n :: rest)) := by
  subst hp
  obtain ⟨locs, cells, slots, X, q1, q2, q3, q4⟩ := cx.open st
  obtain ⟨T', h', cA, X', e', E, A, E2, stp⟩ := newPE X cx.1.1 cx.1.2.1 w q1 (g := mkF m pc L (.int n :: rest)) rfl (cx.dec hd) rfl hn (cap := cap) hcap hb (by omega) (by omega) had
  refine cx.step stp (k T' h' cA h.size rfl ?_ E (Arv.new A hn) E2)
  obtain ⟨-, -, -, rfl⟩ := cx
  exact ⟨_, _, _, X', e', q2, by omega, by omega⟩
theorem getD_int (xs : List Int32) (k : Nat) (d : Int32) : (xs.map Value.int).getD k (.int d) = .int (xs.getD k d) := by
  simp only [List.getD_eq_getElem?_getD, List.getElem?_map]
  cases xs[k]? <;> rfl
theorem getD_long (xs : List Int64) (k : Nat) (d : Int64) : (xs.map Value.long).getD k (.long d) = .long (xs.getD k d) := by
  simp only [List.getD_eq_getElem?_getD, List.getElem?_map]
  cases xs[k]? <;> rfl
theorem i32_small {i : Int32} {n : Nat} (h : ¬ i < 0 ∧ i < Int32.ofNat n) (hn : n < 2147483648) : i.toNatClampNeg < n ∧ i = Int32.ofNat i.toNatClampNeg := by
  obtain ⟨h1, h2⟩ := h
  have e1 := rng32 i
  rw [Int32.lt_iff_toInt_lt] at h1 h2
  have k1 : (0 : Int32).toInt = 0 := rfl
  have k2 : (Int32.ofNat n).toInt = n := Int32.toInt_ofNat_of_lt hn
  rw [k1] at h1; rw [k2] at h2
  have e2 : i.toNatClampNeg = i.toInt.toNat := rfl
  refine ⟨by omega, ?_⟩
  apply Int32.toInt_inj.mp
  rw [Int32.toInt_ofNat_of_lt (by omega)]; omega
theorem i32_rem (k : Int32) (n : Nat) (hk : 0 ≤ k.toInt) (h0 : 0 < n) (hn : n < 2147483648) : ¬ (k % Int32.ofNat n) < 0 ∧ (k % Int32.ofNat n) < Int32.ofNat n := by
  have k2 : (Int32.ofNat n).toInt = n := Int32.toInt_ofNat_of_lt hn
  have r := (c_irem k (Int32.ofNat n) n k2).1 hk
  have q1 := Int.emod_nonneg k.toInt (by omega : (n : Int) ≠ 0)
  have q2 := Int.emod_lt_of_pos k.toInt (by omega : (0 : Int) < n)
  have k1 : (0 : Int32).toInt = 0 := rfl
  rw [Int32.lt_iff_toInt_lt, Int32.lt_iff_toInt_lt, k1, k2, r]
  omega
theorem i32_succ {w : Int32} {n : Nat} (h : ¬ w < 0 ∧ w < Int32.ofNat n) (hn : n < 2147483647) : (¬ (w + 1) < 0 ∧ (w + 1) < Int32.ofNat (n + 1)) ∧ (w + 1).toNatClampNeg = w.toNatClampNeg + 1 := by
  obtain ⟨h1, h2⟩ := h
  have e1 := rng32 w
  rw [Int32.lt_iff_toInt_lt] at h1 h2
  have k1 : (0 : Int32).toInt = 0 := rfl
  have k3 : (1 : Int32).toInt = 1 := rfl
  have k2 : (Int32.ofNat n).toInt = n := Int32.toInt_ofNat_of_lt (by omega)
  have k4 : (Int32.ofNat (n + 1)).toInt = ((n + 1 : Nat) : Int) := Int32.toInt_ofNat_of_lt (by omega)
  rw [k1] at h1; rw [k2] at h2
  have e : (w + 1).toInt = w.toInt + 1 := by
    rw [Jvm.Free.XT.add32, k3]; rw [k3]; exact ⟨by omega, by omega⟩
  refine ⟨?_, ?_⟩
  · rw [Int32.lt_iff_toInt_lt, Int32.lt_iff_toInt_lt, k1, k4, e]; omega
  · show (w + 1).toInt.toNat = w.toInt.toNat + 1
    rw [e]; omega
theorem idx_of {n j : Int32} (h1 : ¬ j < 0) (h2 : j < n) : ¬ j < 0 ∧ j < n := ⟨h1, h2⟩
theorem E_iaload (cx : Cx l Z n0 p e R s m args below meth c bytes ml own name rt Q F S) (st : S kc ks T h) {a : Addr} {kA : ClassId} {n j x : Int32} {vs : List Value} {dv : Value} (V : Arv Z h a kA .int n vs dv) (hj : ¬ j < 0 ∧ j < n) (hv : vs.getD j.toNatClampNeg dv = .int x) (hd : decode bytes pc = .ok (.iaload, 1)) (hp : pc + 1 = pc') (k : F T (mkF m pc' L (.int x :: rest))) : F T (mkF m pc L (.int j :: .ref a :: rest)) := by
  subst hp
  obtain ⟨_, _, _, X, q1, -⟩ := cx.open st
  obtain ⟨cl, A, -, S1, N1, H1, G1⟩ := V
  have hin := inb_of S1 hj
  exact cx.step (fun t q => X.iaload cx.1.1 (j := j) (v := .int x) (by rw [q1]; exact A.1) (State.isArrayOf_alike cx.1.2.1.alike A.2.1) A.2.2 hin (H1.at hin hv) (g := mkF m pc L (.int j :: .ref a :: rest)) rfl rfl (cx.dec hd) t q) k
theorem E_laload (cx : Cx l Z n0 p e R s m args below meth c bytes ml own name rt Q F S) (st : S kc ks T h) {a : Addr} {kA : ClassId} {n j : Int32} {x : Int64} {vs : List Value} {dv : Value} (V : Arv Z h a kA .long n vs dv) (hj : ¬ j < 0 ∧ j < n) (hv : vs.getD j.toNatClampNeg dv = .long x) (hd : decode bytes pc = .ok (.laload, 1)) (hp : pc + 1 = pc') (k : F T (mkF m pc' L (.long x :: rest))) : F T (mkF m pc L (.int j :: .ref a :: rest)) := by
  subst hp
  obtain ⟨_, _, _, X, q1, -⟩ := cx.open st
  obtain ⟨cl, A, -, S1, N1, H1, G1⟩ := V
  have hin := inb_of S1 hj
  exact cx.step (fun t q => X.laload cx.1.1 (j := j) (v := .long x) (by rw [q1]; exact A.1) (State.isArrayOf_alike cx.1.2.1.alike A.2.1) A.2.2 hin (H1.at hin hv) (g := mkF m pc L (.int j :: .ref a :: rest)) rfl rfl (cx.dec hd) t q) k
theorem E_iastore (cx : Cx l Z n0 p e R s m args below meth c bytes ml own name rt Q F S) (st : S kc ks T h) {a : Addr} {kA : ClassId} {n j x : Int32} {vs : List Value} {dv : Value} {i : Nat} (V : Arv Z h a kA .int n vs dv) (hj : ¬ j < 0 ∧ j < n) (hi : j.toNatClampNeg = i) (hlt : i < vs.length) (g : n0 ≤ a) (hd : decode bytes pc = .ok (.iastore, 1)) (hp : pc + 1 = pc')
    (k : ∀ T' h', S kc ks T' h' → Wr h h' a i (.int x) → Arv Z h' a kA .int n (vs.set i (.int x)) dv → F T' (mkF m pc' L rest)) : F T (mkF m pc L (.int x :: .int j :: .ref a :: rest)) := by
  subst hp hi
  obtain ⟨_, _, _, X, q1, q2, q3, q4⟩ := cx.open st
  obtain ⟨cl, A, e1, S1, N1, H1, G1⟩ := V
  obtain ⟨T', h', X', e', W, stp⟩ := Jvm.RoadKit.stI X cx.1.1 cx.1.2.1 q1 A (j := j) (x := x) (inb_of S1 hj) (g := mkF m pc L (.int x :: .int j :: .ref a :: rest)) rfl rfl (cx.dec hd)
  refine cx.step stp (k T' h' ?_ W (Arv.set A e1 S1 N1 H1 G1 rfl W _ rfl hlt))
  obtain ⟨-, -, -, rfl⟩ := cx
  exact ⟨_, _, _, X', e', Fr.snoc X' q2 g, q3, q4⟩
theorem E_lastore (cx : Cx l Z n0 p e R s m args below meth c bytes ml own name rt Q F S) (st : S kc ks T h) {a : Addr} {kA : ClassId} {n j : Int32} {x : Int64} {vs : List Value} {dv : Value} {i : Nat} (V : Arv Z h a kA .long n vs dv) (hj : ¬ j < 0 ∧ j < n) (hi : j.toNatClampNeg = i) (hlt : i < vs.length) (g : n0 ≤ a) (hd : decode bytes pc = .ok (.lastore, 1)) (hp : pc + 1 = pc')
    (k : ∀ T' h', S kc ks T' h' → Wr h h' a i (.long x) → Arv Z h' a kA .long n (vs.set i (.long x)) dv → F T' (mkF m pc' L rest)) : F T (mkF m pc L (.long x :: .int j :: .ref a :: rest)) := by
  subst hp hi
  obtain ⟨_, _, _, X, q1, q2, q3, q4⟩ := cx.open st
  obtain ⟨cl, A, e1, S1, N1, H1, G1⟩ := V
  obtain ⟨T', h', X', e', W, stp⟩ := Jvm.RoadKit.stJ X cx.1.1 cx.1.2.1 q1 A (j := j) (x := x) (inb_of S1 hj) (g := mkF m pc L (.long x :: .int j :: .ref a :: rest)) rfl rfl (cx.dec hd)
  refine cx.step stp (k T' h' ?_ W (Arv.set A e1 S1 N1 H1 G1 rfl W _ rfl hlt))
  obtain ⟨-, -, -, rfl⟩ := cx
  exact ⟨_, _, _, X', e', Fr.snoc X' q2 g, q3, q4⟩
theorem E_arraylength (cx : Cx l Z n0 p e R s m args below meth c bytes ml own name rt Q F S) (st : S kc ks T h) {a : Addr} {kA : ClassId} {n : Int32} {ty : FieldType} {vs : List Value} {dv : Value} (V : Arv Z h a kA ty n vs dv) (hd : decode bytes pc = .ok (.arraylength, 1)) (hp : pc + 1 = pc') (k : F T (mkF m pc' L (.int n :: rest))) : F T (mkF m pc L (.ref a :: rest)) := by
  subst hp
  obtain ⟨_, _, _, X, q1, -⟩ := cx.open st
  obtain ⟨cl, A, -, S1, N1, H1, G1⟩ := V
  refine cx.step (fun t q => X.arraylength cx.1.1 (by rw [q1]; exact A.1) (State.isArrayOf_alike cx.1.2.1.alike A.2.1) (g := mkF m pc L (.ref a :: rest)) rfl rfl (cx.dec hd) t ?_) k
  rw [len_of S1 N1]; exact q

theorem E_new (cx : Cx l Z n0 p e R s m args below meth c bytes ml own name rt Q F S) (st : S kc ks T h) {C : String} {idx n : Nat} (w1 : (Jvm.Cond.classLink own idx C).before a0 Z = true) (w2 : (Jvm.Cond.instantiable C n).before a0 Z = true) (w3 : (Jvm.Cond.initialized C).before a0 Z = true) (hd : decode bytes pc = .ok (.new idx, 3)) (hc : kc + 1 ≤ kc') (hs : ks + n ≤ ks') (hc' : kc' ≤ R.cells) (hs' : ks' ≤ R.slots) (hp : pc + 3 = pc')
    (k : ∀ T' h' a, a = h.size → S kc' ks' T' h' → Ext h h' → Exa Z h' a C → (∀ {O nm d : String} {ty : FieldType}, Laid Z a0 C O nm d → parseFieldDescriptor d = some ty → Fld Z h' a O nm d (defaultValue ty)) → F T' (mkF m pc' L (.ref a :: rest))) : F T (mkF m pc L rest) := by
  subst hp
  obtain ⟨locs, cells, slots, X, q1, q2, q3, q4⟩ := cx.open st
  obtain ⟨T', h', X', e', E, A, D, -, stp⟩ := newO X cx.1.1 cx.1.2.1 cx.2.1.1 w1 w2 w3 q1 (g := mkF m pc L rest) rfl (cx.dec hd) (by omega) (by omega)
  refine cx.step stp (k T' h' h.size rfl ?_ E A D)
  obtain ⟨-, -, -, rfl⟩ := cx
  exact ⟨_, _, _, X', e', q2, by omega, by omega⟩
theorem E_initO (cx : Cx l Z n0 p e R s m args below meth c bytes ml own name rt Q F S) (st : S kc ks T h) {a : Addr} {idx W : Nat} (w1 : (Jvm.Cond.methodLink own idx Lib.objectInit).before a0 Z = true) (w2 : (Jvm.Cond.instanceMethod Lib.objectInit).before a0 Z = true) (w3 : (Jvm.Cond.code Lib.objectInit ⟨#[0xb1]⟩ 1 none).before a0 Z = true) (hd : decode bytes pc = .ok (.invokespecial idx, 3)) (hL : L.size = ml) (hf : 1 ≤ R.frames) (hW : (rest.map fun v => v.category).sum ≤ W) (hl : W + 12 ≤ R.locals) (hp : pc + 3 = pc')
    (k : ∀ T', S kc ks T' h → F T' (mkF m pc' L rest)) : F T (mkF m pc L (.ref a :: rest)) := by
  subst hp
  obtain ⟨locs, cells, slots, X, q1, q2, q3, q4⟩ := cx.open st
  obtain ⟨T', X', e', stp⟩ := initO X cx.1.1 cx.1.2.1 cx.2.1.1 w1 w2 w3 q1 (g := mkF m pc L (.ref a :: rest)) rfl (hL.trans cx.1.2.2.2.symm) rfl (cx.dec hd) hf (W := W) (by show 2 * 0 + _ ≤ _; omega) hl
  refine cx.step stp (k T' ?_)
  obtain ⟨-, -, -, rfl⟩ := cx
  exact ⟨_, _, _, X', e', q2, q3, q4⟩
theorem E_getfield (cx : Cx l Z n0 p e R s m args below meth c bytes ml own name rt Q F S) (st : S kc ks T h) {a : Addr} {v : Value} {C n d : String} {idx : Nat} (w : (Jvm.Cond.fieldLink own idx C n d).before a0 Z = true) (G : Fld Z h a C n d v) (hd : decode bytes pc = .ok (.getfield idx, 3)) (hp : pc + 3 = pc')
    (k : ∀ T', S kc ks T' h → F T' (mkF m pc' L (v :: rest))) : F T (mkF m pc L (.ref a :: rest)) := by
  subst hp
  obtain ⟨locs, cells, slots, X, q1, q2, q3, q4⟩ := cx.open st
  obtain ⟨T', X', e', stp⟩ := getF X cx.1.1 cx.1.2.1 cx.2.1.1 (host := "") (Or.inl w) Via.refl q1 G (g := mkF m pc L (.ref a :: rest)) rfl rfl (cx.dec hd)
  refine cx.step stp (k T' ?_)
  obtain ⟨-, -, -, rfl⟩ := cx
  exact ⟨_, _, _, X', e', q2, q3, q4⟩
theorem E_putfield (cx : Cx l Z n0 p e R s m args below meth c bytes ml own name rt Q F S) (st : S kc ks T h) {a : Addr} {v old : Value} {C O n d : String} {idx kk : Nat} {ty : FieldType} (w : (Jvm.Cond.fieldLink own idx O n d).before a0 Z = true) (G : Fld Z h a O n d old) (E : Exa Z h a C) (La : (Jvm.Cond.lays C O n d).before a0 Z = true ∨ ((Jvm.Cond.laysFinal C O n d).before a0 Z = true ∧ own = O ∧ name = "<init>")) (wi : (Jvm.Cond.instantiable C kk).before a0 Z = true)
    (hty : parseFieldDescriptor d = some ty) (hn : narrow ty v = v) (hf : fits ty v = true) (ga : n0 ≤ a) (hd : decode bytes pc = .ok (.putfield idx, 3)) (hp : pc + 3 = pc')
    (k : ∀ T' h', S kc ks T' h' → Wr h h' a (Jvm.RoadKit.slotOf Z O n d) v → F T' (mkF m pc' L rest)) : F T (mkF m pc L (v :: .ref a :: rest)) := by
  subst hp
  obtain ⟨locs, cells, slots, X, q1, q2, q3, q4⟩ := cx.open st
  obtain ⟨T', h', X', e', W, stp⟩ := putF X cx.1.1 cx.1.2.1 cx.2.1.1 (host := "") (Or.inl w) Via.refl q1 G E (La.imp id fun z => ⟨z.1, z.2.1, cx.2.1.2.1.trans z.2.2⟩) wi hty hn hf (g := mkF m pc L (v :: .ref a :: rest)) rfl rfl (cx.dec hd)
  refine cx.step stp (k T' h' ?_ W)
  obtain ⟨-, -, -, rfl⟩ := cx
  exact ⟨_, _, _, X', e', Fr.snoc X' q2 ga, q3, q4⟩
theorem E_callI (cx : Cx l Z n0 p e R s m args below meth c bytes ml own name rt Q F S) (st : S kc ks T h) {y : MethodName} {bytes' : ByteArray} {ml' : Nat} {rm : Room} {a : Addr} {argsL : List Value} {Q' : Option Value → Heap → Prop} {idx W : Nat} {stk : List Value} (rest : List Value)
    (K : Con l Z y bytes' ml' none rm (.ref a :: argsL).toArray h n0 Q') (hy1 : y.name = "<init>") (w1 : (Jvm.Cond.methodLink own idx y).before a0 Z = true) (w2 : (Jvm.Cond.instanceMethod y).before a0 Z = true) (w3 : (Jvm.Cond.initialized y.cls).before a0 Z = true) (w4 : (Jvm.Cond.code y bytes' ml' none).before a0 Z = true)
    (hd : decode bytes pc = .ok (.invokespecial idx, 3)) (hstk : stk = argsL.reverse ++ .ref a :: rest) (hL : L.size = ml) (hlen : ∀ sig, parseMethodDescriptor y.desc = some sig → argsL.length = sig.parameters.length) (hW : (rest.map fun v => v.category).sum ≤ W)
    (hy : y.cls ≠ "java/lang/invoke/MethodHandle" ∧ y.cls ≠ "java/lang/invoke/VarHandle") (hf : rm.frames + 1 ≤ R.frames) (hlo : W + (ml' + 11) + rm.locals ≤ R.locals) (hc : kc + rm.cells ≤ kc') (hs : ks + rm.slots ≤ ks') (hc' : kc' ≤ R.cells) (hs' : ks' ≤ R.slots) (hp : pc + 3 = pc')
    (k : ∀ v T' h', S kc' ks' T' h' → Q' v h' → F T' (mkF m pc' L (v.toList ++ rest))) : F T (mkF m pc L stk) := by
  subst hp
  obtain ⟨locs, cells, slots, X, q1, q2, q3, q4⟩ := cx.open st
  have hZ := cx.1.2.1
  obtain ⟨v, _, ⟨T₁, L₁, k₁, n₁⟩, -, X₁, ⟨Lc, hQ, e1, e2, e3⟩, stp⟩ := X.specialBack cx.1.1 (y := y) hy1 cx.2.1.1 (mvT hZ w1) (mvT hZ w2) (mvT hZ w4) hy (backOf (W := W) (Q := fun v h L => Fr n0 L ∧ Q' v h) (K []) hZ w4 w3 hf hlo) (g := mkF m pc L stk) rfl (hL.trans cx.1.2.2.2.symm) (Steps.refl _) (a := a) (argsL := argsL) (rest := rest) hlen hstk (by show 2 * 0 + _ ≤ _; omega) (cx.dec hd) (fun _ _ => ⟨rfl, q1, by dsimp only [Pt.cells]; omega, by dsimp only [Pt.slots]; omega⟩)
  dsimp only [Pt.U, Pt.locs, Pt.cells, Pt.slots] at X₁ e1 e2 e3 stp hQ
  subst e1 e2 e3
  refine cx.step (fun _ q => stp.trans q) (k v T₁ T₁.heap ?_ hQ.2)
  obtain ⟨-, -, -, rfl⟩ := cx
  exact ⟨_, _, _, X₁, rfl, Fr.app q2 hQ.1, by omega, by omega⟩
theorem E_callV (cx : Cx l Z n0 p e R s m args below meth c bytes ml own name rt Q F S) (st : S kc ks T h) {y : MethodName} {bytes' : ByteArray} {ml' : Nat} {rt' : Option FieldType} {rm : Room} {a : Addr} {argsL : List Value} {Q' : Option Value → Heap → Prop} {idx W : Nat} {stk : List Value} (rest : List Value)
    (K : Con l Z y bytes' ml' rt' rm (.ref a :: argsL).toArray h n0 Q') (E : Exa Z h a y.cls) (w1 : (Jvm.Cond.methodLink own idx y).before a0 Z = true) (w5 : (Jvm.Cond.declares y).before a0 Z = true) (w6 : (Jvm.Cond.selects y.cls y y).before a0 Z = true) (w2 : (Jvm.Cond.instanceMethod y).before a0 Z = true) (w3 : (Jvm.Cond.initialized y.cls).before a0 Z = true) (w4 : (Jvm.Cond.code y bytes' ml' rt').before a0 Z = true)
    (hd : decode bytes pc = .ok (.invokevirtual idx, 3)) (hstk : stk = argsL.reverse ++ .ref a :: rest) (hL : L.size = ml) (hlen : ∀ sig, parseMethodDescriptor y.desc = some sig → argsL.length = sig.parameters.length) (hW : (rest.map fun v => v.category).sum ≤ W)
    (hy : y.cls ≠ "java/lang/invoke/MethodHandle" ∧ y.cls ≠ "java/lang/invoke/VarHandle") (hf : rm.frames + 1 ≤ R.frames) (hlo : W + (ml' + 11) + rm.locals ≤ R.locals) (hc : kc + rm.cells ≤ kc') (hs : ks + rm.slots ≤ ks') (hc' : kc' ≤ R.cells) (hs' : ks' ≤ R.slots) (hp : pc + 3 = pc')
    (k : ∀ v T' h', S kc' ks' T' h' → Q' v h' → F T' (mkF m pc' L (v.toList ++ rest))) : F T (mkF m pc L stk) := by
  subst hp
  obtain ⟨locs, cells, slots, X, q1, q2, q3, q4⟩ := cx.open st
  have hZ := cx.1.2.1
  obtain ⟨cq, kq, qa, qb, qc⟩ := isOf hZ q1 E
  obtain ⟨v, _, ⟨T₁, L₁, k₁, n₁⟩, -, X₁, ⟨Lc, hQ, e1, e2, e3⟩, stp⟩ := X.virtualBack cx.1.1 (y := y) (z := y) cx.2.1.1 (mvT hZ w1) (mvT hZ w5) (notFace_of_selects (args := #[]) (mvT hZ w6)) (mvT hZ w6) (mvT hZ w2) hy (backOf (W := W) (Q := fun v h L => Fr n0 L ∧ Q' v h) (K []) hZ w4 w3 hf hlo) qa qc (g := mkF m pc L stk) rfl (hL.trans cx.1.2.2.2.symm) (Steps.refl _) (argsL := argsL) (rest := rest) hlen hstk (by show 2 * 0 + _ ≤ _; omega) (cx.dec hd) (fun _ _ => ⟨rfl, q1, by dsimp only [Pt.cells]; omega, by dsimp only [Pt.slots]; omega⟩)
  dsimp only [Pt.U, Pt.locs, Pt.cells, Pt.slots] at X₁ e1 e2 e3 stp hQ
  subst e1 e2 e3
  refine cx.step (fun _ q => stp.trans q) (k v T₁ T₁.heap ?_ hQ.2)
  obtain ⟨-, -, -, rfl⟩ := cx
  exact ⟨_, _, _, X₁, rfl, Fr.app q2 hQ.1, by omega, by omega⟩
theorem E_callP (cx : Cx l Z n0 p e R s m args below meth c bytes ml own name rt Q F S) (st : S kc ks T h) {y : MethodName} {bytes' : ByteArray} {ml' : Nat} {rt' : Option FieldType} {rm : Room} {a : Addr} {argsL : List Value} {Q' : Option Value → Heap → Prop} {idx W : Nat} {stk : List Value} (rest : List Value)
    (K : Con l Z y bytes' ml' rt' rm (.ref a :: argsL).toArray h n0 Q') (E : Exa Z h a y.cls) (w1 : (Jvm.Cond.methodLink own idx y).before a0 Z = true) (w5 : (Jvm.Cond.privateMethod y).before a0 Z = true) {nI : Nat} (w6 : (Jvm.Cond.instantiable y.cls nI).before a0 Z = true) (w2 : (Jvm.Cond.instanceMethod y).before a0 Z = true) (w3 : (Jvm.Cond.initialized y.cls).before a0 Z = true) (w4 : (Jvm.Cond.code y bytes' ml' rt').before a0 Z = true)
    (hd : decode bytes pc = .ok (.invokevirtual idx, 3)) (hstk : stk = argsL.reverse ++ .ref a :: rest) (hL : L.size = ml) (hlen : ∀ sig, parseMethodDescriptor y.desc = some sig → argsL.length = sig.parameters.length) (hW : (rest.map fun v => v.category).sum ≤ W)
    (hy : y.cls ≠ "java/lang/invoke/MethodHandle" ∧ y.cls ≠ "java/lang/invoke/VarHandle") (hf : rm.frames + 1 ≤ R.frames) (hlo : W + (ml' + 11) + rm.locals ≤ R.locals) (hc : kc + rm.cells ≤ kc') (hs : ks + rm.slots ≤ ks') (hc' : kc' ≤ R.cells) (hs' : ks' ≤ R.slots) (hp : pc + 3 = pc')
    (k : ∀ v T' h', S kc' ks' T' h' → Q' v h' → F T' (mkF m pc' L (v.toList ++ rest))) : F T (mkF m pc L stk) := by
  subst hp
  obtain ⟨locs, cells, slots, X, q1, q2, q3, q4⟩ := cx.open st
  have hZ := cx.1.2.1
  obtain ⟨cq, qa, qb⟩ := E.cell
  have hpr := Cond.privateMethod_at (mvP hZ w5 (args := #[]))
  have hin : (Jvm.Cond.instantiable y.cls nI).before args s = true := mvT hZ w6
  obtain ⟨c1, k1, i1, i2, -, i4, -⟩ := Cond.instantiable_spec hin
  have hni : k1.isInterface = false := by simp only [Bool.or_eq_false_iff] at i4; exact i4.1
  have hsel := selects_self_of_private (args := args) i1 i2 hni hpr (mvT hZ w2) hy
  obtain ⟨v, _, ⟨T₁, L₁, k₁, n₁⟩, -, X₁, ⟨Lc, hQ, e1, e2, e3⟩, stp⟩ := X.privateBack cx.1.1 (y := y) cx.2.1.1 (mvT hZ w1) (mvT hZ w2) hsel hpr (mvT hZ w4) hy (backOf (W := W) (Q := fun v h L => Fr n0 L ∧ Q' v h) (K []) hZ w4 w3 hf hlo) (g := mkF m pc L stk) rfl (hL.trans cx.1.2.2.2.symm) (Steps.refl _) (a := a) (by rw [q1]; exact qa) qb (argsL := argsL) (rest := rest) hlen hstk (by show 2 * 0 + _ ≤ _; omega) (cx.dec hd) (fun _ _ => ⟨rfl, q1, by dsimp only [Pt.cells]; omega, by dsimp only [Pt.slots]; omega⟩)
  dsimp only [Pt.U, Pt.locs, Pt.cells, Pt.slots] at X₁ e1 e2 e3 stp hQ
  subst e1 e2 e3
  refine cx.step (fun _ q => stp.trans q) (k v T₁ T₁.heap ?_ hQ.2)
  obtain ⟨-, -, -, rfl⟩ := cx
  exact ⟨_, _, _, X₁, rfl, Fr.app q2 hQ.1, by omega, by omega⟩
theorem E_clone (cx : Cx l Z n0 p e R s m args below meth c bytes ml own name rt Q F S) (st : S kc ks T h) {a : Addr} {ad : String} {idx W cap : Nat} {kA : ClassId} {z : Int32} {vs : List Value} {dv : Value} {ty : FieldType} (V : Arv Z h a kA ty z vs dv) (E : Exa Z h a ad)
    (w1 : (Jvm.Cond.methodLink own idx ⟨ad, "clone", "()Ljava/lang/Object;"⟩).before a0 Z = true) (w2 : (Jvm.Cond.sameMethod ad "java/lang/Object" "clone" "()Ljava/lang/Object;").before a0 Z = true) (w3 : (Jvm.Cond.native ⟨"java/lang/Object", "clone", "()Ljava/lang/Object;"⟩).before a0 Z = true)
    (w4 : (Jvm.Cond.instanceMethod ⟨"java/lang/Object", "clone", "()Ljava/lang/Object;"⟩).before a0 Z = true) (w5 : (Jvm.Cond.selects ad ⟨ad, "clone", "()Ljava/lang/Object;"⟩ ⟨"java/lang/Object", "clone", "()Ljava/lang/Object;"⟩).before a0 Z = true) (w6 : (Jvm.Cond.castable ad "java/lang/Cloneable").before a0 Z = true)
    (hd : decode bytes pc = .ok (.invokevirtual idx, 3)) (hL : L.size = ml) (hf : 1 ≤ R.frames) (hW : (rest.map fun v => v.category).sum ≤ W) (hlo : W + 14 ≤ R.locals) (hcap : z.toNatClampNeg ≤ cap) (hc : kc + 1 ≤ kc') (hs : ks + cap ≤ ks') (hc' : kc' ≤ R.cells) (hs' : ks' ≤ R.slots) (hp : pc + 3 = pc')
    (k : ∀ T' h' b, b = h.size → S kc' ks' T' h' → Ext h h' → Arv Z h' b kA ty z vs dv → Exa Z h' b ad → F T' (mkF m pc' L (.ref b :: rest))) : F T (mkF m pc L (.ref a :: rest)) := by
  subst hp
  obtain ⟨locs, cells, slots, X, q1, q2, q3, q4⟩ := cx.open st
  obtain ⟨cl, A, e1, S1, e3, H, G⟩ := V
  have FC : FitC Z cl := fitC_of A fun i hi v hv => by rw [H i hi] at hv; cases hv; exact G i hi
  obtain ⟨T', h', X', e', ex, A', E', stp⟩ := cloneA X cx.1.1 cx.1.2.1 cx.2.1.1 w1 w2 w3 w4 w5 w6 q1 A E FC (g := mkF m pc L (.ref a :: rest)) rfl (hL.trans cx.1.2.2.2.symm) rfl (cx.dec hd) hf (W := W) (cap := cap) (by show 2 * 0 + _ ≤ _; omega) hlo (by rw [S1]; exact hcap) (by omega) (by omega)
  refine cx.step stp (k T' h' h.size rfl ?_ ex ⟨cloneOf cl, A', e1, S1, e3, H, G⟩ E')
  obtain ⟨-, -, -, rfl⟩ := cx
  exact ⟨_, _, _, X', e', q2, by omega, by omega⟩
theorem E_checkcast (cx : Cx l Z n0 p e R s m args below meth c bytes ml own name rt Q F S) (st : S kc ks T h) {a : Addr} {C : String} {idx : Nat} (w : (Jvm.Cond.classLink own idx C).before a0 Z = true) (I : Ins Z h a C true) (hd : decode bytes pc = .ok (.checkcast idx, 3)) (hp : pc + 3 = pc')
    (k : ∀ T', S kc ks T' h → F T' (mkF m pc' L (.ref a :: rest))) : F T (mkF m pc L (.ref a :: rest)) := by
  subst hp
  obtain ⟨locs, cells, slots, X, q1, q2, q3, q4⟩ := cx.open st
  obtain ⟨T', X', e', stp⟩ := castY X cx.1.1 cx.1.2.1 cx.2.1.1 w q1 I (g := mkF m pc L (.ref a :: rest)) rfl rfl (cx.dec hd)
  refine cx.step stp (k T' ?_)
  obtain ⟨-, -, -, rfl⟩ := cx
  exact ⟨_, _, _, X', e', q2, q3, q4⟩
theorem E_aaload (cx : Cx l Z n0 p e R s m args below meth c bytes ml own name rt Q F S) (st : S kc ks T h) {a : Addr} {kA : ClassId} {n j : Int32} {ty : FieldType} {v : Value} {vs : List Value} {dv : Value} (V : Arv Z h a kA ty n vs dv) (hty : ty.isReference = true) (hj : ¬ j < 0 ∧ j < n) (hv : vs.getD j.toNatClampNeg dv = v) (hd : decode bytes pc = .ok (.aaload, 1)) (hp : pc + 1 = pc') (k : F T (mkF m pc' L (v :: rest))) : F T (mkF m pc L (.int j :: .ref a :: rest)) := by
  subst hp
  obtain ⟨_, _, _, X, q1, -⟩ := cx.open st
  obtain ⟨cl, A, -, S1, N1, H1, G1⟩ := V
  have hin := inb_of S1 hj
  exact cx.step (fun t q => X.aaload cx.1.1 (j := j) (v := v) (by rw [q1]; exact A.1) (State.isArrayOf_alike cx.1.2.1.alike A.2.1) hty A.2.2 hin (H1.at hin hv) (g := mkF m pc L (.int j :: .ref a :: rest)) rfl rfl (cx.dec hd) t q) k
theorem E_aastore (cx : Cx l Z n0 p e R s m args below meth c bytes ml own name rt Q F S) (st : S kc ks T h) {a : Addr} {kA : ClassId} {n j : Int32} {ty : FieldType} {v : Value} {vs : List Value} {dv : Value} {i : Nat} (V : Arv Z h a kA ty n vs dv) (hty : ty.isReference = true) (hst : Sto Z h a v) (hfv : fits ty v = true) (hj : ¬ j < 0 ∧ j < n) (hi : j.toNatClampNeg = i) (hlt : i < vs.length) (g : n0 ≤ a) (hd : decode bytes pc = .ok (.aastore, 1)) (hp : pc + 1 = pc')
    (k : ∀ T' h', S kc ks T' h' → Wr h h' a i v → Arv Z h' a kA ty n (vs.set i v) dv → F T' (mkF m pc' L rest)) : F T (mkF m pc L (v :: .int j :: .ref a :: rest)) := by
  subst hp hi
  obtain ⟨_, _, _, X, q1, q2, q3, q4⟩ := cx.open st
  obtain ⟨cl, A, e1, S1, N1, H1, G1⟩ := V
  obtain ⟨T', h', X', e', W, stp⟩ := Jvm.RoadKit.stR X cx.1.1 cx.1.2.1 q1 A (j := j) (inb_of S1 hj) hty hst (g := mkF m pc L (v :: .int j :: .ref a :: rest)) rfl rfl (cx.dec hd)
  refine cx.step stp (k T' h' ?_ W (Arv.set A e1 S1 N1 H1 G1 hfv W _ rfl hlt))
  obtain ⟨-, -, -, rfl⟩ := cx
  exact ⟨_, _, _, X', e', Fr.snoc X' q2 g, q3, q4⟩
theorem E_arraycopy (cx : Cx l Z n0 p e R s m args below meth c bytes ml own name rt Q F S) (st : S kc ks T h) {a b : Addr} {kA kB : ClassId} {ty : FieldType} {z z' sp dp nn : Int32} {vs vd us : List Value} {dv dd : Value} {idx W : Nat} (A : Arv Z h a kA ty z vs dv) (B : Arv Z h b kB ty z' vd dd) (hty : refKind ty = false)
    (w1 : (Jvm.Cond.methodLink own idx Jvm.Stand.acN).before a0 Z = true) (w2 : (Jvm.Cond.native Jvm.Stand.acN).before a0 Z = true) (w3 : (Jvm.Cond.static Jvm.Stand.acN).before a0 Z = true) (w4 : (Jvm.Cond.initialized "java/lang/System").before a0 Z = true)
    (h1 : ¬ sp < 0) (h2 : ¬ dp < 0) (h3 : ¬ nn < 0) (h4 : sp.toNatClampNeg + nn.toNatClampNeg ≤ z.toNatClampNeg) (h5 : dp.toNatClampNeg + nn.toNatClampNeg ≤ z'.toNatClampNeg) (hus : us = (List.range nn.toNatClampNeg).map fun i => vs.getD (sp.toNatClampNeg + i) dv) (hl : dp.toNatClampNeg + nn.toNatClampNeg ≤ vd.length) (ge : n0 ≤ b)
    (hd : decode bytes pc = .ok (.invokestatic idx, 3)) (hL : L.size = ml) (hf : 1 ≤ R.frames) (hW : (rest.map fun v => v.category).sum ≤ W) (hlo : W + (nativeFrameWords "java/lang/System" "arraycopy" 5 + 11) ≤ R.locals) (hp : pc + 3 = pc')
    (k : ∀ T' h', S kc ks T' h' → Keep h h' [b] → Arv Z h' b kB ty z' (vd.take dp.toNatClampNeg ++ us ++ vd.drop (dp.toNatClampNeg + nn.toNatClampNeg)) dd → F T' (mkF m pc' L rest)) : F T (mkF m pc L (.int nn :: .int dp :: .ref b :: .int sp :: .ref a :: rest)) := by
  subst hp
  obtain ⟨locs, cells, slots, X, q1, q2, q3, q4⟩ := cx.open st
  obtain ⟨T', h', L', X', e', N', K', B', stp⟩ := cpA X cx.1.1 cx.1.2.1 cx.2.1.1 w1 w2 w3 w4 q1 A B (Or.inl ⟨rfl, hty⟩) h1 h2 h3 h4 h5 hus hl q2 ge (g := mkF m pc L (.int nn :: .int dp :: .ref b :: .int sp :: .ref a :: rest)) rfl (hL.trans cx.1.2.2.2.symm) rfl (cx.dec hd) hf (W := W) (by show 2 * 0 + _ ≤ _; omega) hlo
  refine cx.step stp (k T' h' ?_ K' B')
  obtain ⟨-, -, -, rfl⟩ := cx
  exact ⟨_, _, _, X', e', N', q3, q4⟩
theorem E_dup2_x1L (cx : Cx l Z n0 p e R s m args below meth c bytes ml own name rt Q F S) (st : S kc ks T h) {x : Int64} {y : Value} (hd : decode bytes pc = .ok (.dup2_x1, 1)) (hy : y.category = 1) (hp : pc + 1 = pc') (k : F T (mkF m pc' L (.long x :: y :: .long x :: rest))) : F T (mkF m pc L (.long x :: y :: rest)) := by
  subst hp
  refine cx.step (fun t q => ?_) k
  have h1 := cx.at st
  have hx := cx.1.1
  have hd' := cx.dec hd
  show Steps p.tables e below (T.setTop { method := m, pc := pc, locals := L, stack := .long x :: y :: rest, locked := none }) _
  jvm_step h1 [h1.top, hx, hd', Value.category, hy]
  exact ⟨hy, q⟩
theorem E_anewA (cx : Cx l Z n0 p e R s m args below meth c bytes ml own name rt Q F S) (st : S kc ks T h) {ty : FieldType} {C ad : String} {idx cap : Nat} {n : Int32} (hC : (FieldType.array ty).toString = C) (had : "[" ++ C = ad) (w1 : (Jvm.Cond.classLink own idx C).before a0 Z = true) (w2 : (Jvm.Cond.arrayOver (.array ty)).before a0 Z = true) (hd : decode bytes pc = .ok (.anewarray idx, 3)) (hn : ¬ n < 0) (hcap : n.toNatClampNeg ≤ cap) (hb : cap * 8 ≤ 536870912) (hc : kc + 1 ≤ kc') (hs : ks + cap ≤ ks') (hc' : kc' ≤ R.cells) (hs' : ks' ≤ R.slots) (hp : pc + 3 = pc')
    (k : ∀ T' h' cA a, a = h.size → S kc' ks' T' h' → Ext h h' → Arv Z h' a cA (.array ty) n [] .null → Exa Z h' a ad → OvrA Z cA ty C → F T' (mkF m pc' L (.ref a :: rest))) : F T (mkF m pc L (.int n :: rest)) := by
  subst hp
  obtain ⟨locs, cells, slots, X, q1, q2, q3, q4⟩ := cx.open st
  obtain ⟨T', h', cA, X', e', E, A, E2, O, stp⟩ := newRA X cx.1.1 cx.1.2.1 cx.2.1.1 hC w1 w2 q1 (g := mkF m pc L (.int n :: rest)) rfl (cx.dec hd) rfl hn (cap := cap) hcap hb (by omega) (by omega) had
  refine cx.step stp (k T' h' cA h.size rfl ?_ E (Arv.new A hn) E2 O)
  obtain ⟨-, -, -, rfl⟩ := cx
  exact ⟨_, _, _, X', e', q2, by omega, by omega⟩
theorem Arv.sto {kA : ClassId} {n : Int32} {a b : Addr} {ty : FieldType} {C : String} {vs : List Value} {dv : Value} (V : Arv Z h a kA (.array ty) n vs dv) (O : OvrA Z kA ty C) (E : Exa Z h b C) : Sto Z h a (.ref b) := by
  obtain ⟨cl, A, q, -⟩ := V
  exact Sto.ofVA A q O (Ins.self E)
theorem E_grid (cx : Cx l Z n0 p e R s m args below meth c bytes ml own name rt Q F S) (st : S kc ks T h) {ty : FieldType} {C ad : String} {idx : Nat} {n j : Int32} {N cap : Nat} (hC : (FieldType.array ty).toString = C) (had : "[" ++ C = ad) (w1 : (Jvm.Cond.classLink own idx ad).before a0 Z = true) (w2 : (Jvm.Cond.arrayOver (.array ty)).before a0 Z = true) (w3 : (Jvm.Cond.arrayClass ty).before a0 Z = true) (hd : decode bytes pc = .ok (.multianewarray idx 2, 4))
    (hn : ¬ n < 0) (hj : ¬ j < 0) (hN : n.toNatClampNeg = N) (hcap : j.toNatClampNeg ≤ cap) (hb : cap * 8 ≤ 536870912) (hb1 : N ≤ 1000) (hdf : fits ty (defaultValue ty) = true) (hdd : (defaultValue ty).isDefault = true) (hc : kc + (1 + N) ≤ kc') (hs : ks + (N + N * cap) ≤ ks') (hc' : kc' ≤ R.cells) (hs' : ks' ≤ R.slots) (hp : pc + 4 = pc')
    (k : ∀ T' h' cA cB, S kc' ks' T' h' → Ext h h' → Arv Z h' h.size cA (.array ty) n (((List.range N).map fun i => h.size + 1 + i).map .ref) .null → (∀ i, i < N → Arv Z h' (h.size + 1 + i) cB ty j [] (defaultValue ty)) → F T' (mkF m pc' L (.ref h.size :: rest))) : F T (mkF m pc L (.int j :: .int n :: rest)) := by
  subst hp
  obtain ⟨locs, cells, slots, X, q1, q2, q3, q4⟩ := cx.open st
  obtain ⟨T', h', cA, cB, X', e', E, A, -, -, D, stp⟩ := gridM X cx.1.1 cx.1.2.1 cx.2.1.1 hC had w1 w2 w3 q1 (g := mkF m pc L (.int j :: .int n :: rest)) rfl (cx.dec hd) rfl hn hj hN rfl (cap := cap) hcap hb hb1 hdf hdd (by omega) (by omega)
  refine cx.step stp (k T' h' cA cB ?_ E A fun i hi => Arv.new (D i _ (by simp [hi])).1 hj)
  obtain ⟨-, -, -, rfl⟩ := cx
  exact ⟨_, _, _, X', e', q2, by omega, by omega⟩
end OwnKit
def FT : List (String × String) := [("greaterGFirst", "Z"), ("entries", "Lcom/example/flat_planner/flatplanner/LongColumn;"), ("freeEntry", "I"), ("entriesUsed", "I"), ("size", "I"), ("bucketFs", "[J"), ("bucketGs", "[J"), ("bucketOrders", "[J"), ("bucketHeads", "[I"), ("bucketTails", "[I"), ("freeBucket", "I"), ("bucketsUsed", "I"), ("started", "J"), ("heap", "[I"), ("heapSize", "I"), ("newest", "[I")]
def OL (Z : State) (h : Heap) (o : Addr) (vs : List Value) : Prop := ∀ i, i < 16 → Fld Z h o "com/example/flat_planner/flatplanner/OpenList" (FT.getD i ("", "")).1 (FT.getD i ("", "")).2 (vs.getD i .null)
theorem OL.at {Z : State} {h : Heap} {o : Addr} {vs : List Value} (H : OL Z h o vs) (i : Nat) (hi : i < 16) {n d : String} {v : Value} (hn : FT.getD i ("", "") = (n, d)) (hv : vs.getD i .null = v) : Fld Z h o "com/example/flat_planner/flatplanner/OpenList" n d v := by
  have q := H i hi
  rw [hn, hv] at q; exact q
theorem OL.ext {Z : State} {h h' : Heap} {o : Addr} {vs : List Value} (H : OL Z h o vs) (E : Ext h h') : OL Z h' o vs := fun i hi => (H i hi).ext E
theorem OL.other {Z : State} {h h' : Heap} {o a : Addr} {sl : Nat} {v : Value} {vs : List Value} (H : OL Z h o vs) (W : Wr h h' a sl v) (q : o ≠ a) : OL Z h' o vs := fun i hi => (H i hi).other W (Or.inl q)
theorem OL.keep {Z : State} {h h' : Heap} {o : Addr} {ws : List Addr} {vs : List Value} (H : OL Z h o vs) (K : Keep h h' ws) (q : o ∉ ws) : OL Z h' o vs := fun i hi => (H i hi).keep K q
theorem ol_laid {Z : State} {a0 : Array Value} (hw : ∀ d ∈ tables_1, d.before a0 Z = true) : ∀ i, i < 16 → Laid Z a0 "com/example/flat_planner/flatplanner/OpenList" "com/example/flat_planner/flatplanner/OpenList" (FT.getD i ("", "")).1 (FT.getD i ("", "")).2
  | 0, _ => Or.inr (hw _ (List.mem_of_getElem? (i := 63) rfl))
  | 1, _ => Or.inr (hw _ (List.mem_of_getElem? (i := 42) rfl))
  | 2, _ => Or.inl (hw _ (List.mem_of_getElem? (i := 44) rfl))
  | 3, _ => Or.inl (hw _ (List.mem_of_getElem? (i := 78) rfl))
  | 4, _ => Or.inl (hw _ (List.mem_of_getElem? (i := 119) rfl))
  | 5, _ => Or.inl (hw _ (List.mem_of_getElem? (i := 46) rfl))
  | 6, _ => Or.inl (hw _ (List.mem_of_getElem? (i := 48) rfl))
  | 7, _ => Or.inl (hw _ (List.mem_of_getElem? (i := 50) rfl))
  | 8, _ => Or.inl (hw _ (List.mem_of_getElem? (i := 53) rfl))
  | 9, _ => Or.inl (hw _ (List.mem_of_getElem? (i := 55) rfl))
  | 10, _ => Or.inl (hw _ (List.mem_of_getElem? (i := 57) rfl))
  | 11, _ => Or.inl (hw _ (List.mem_of_getElem? (i := 109) rfl))
  | 12, _ => Or.inl (hw _ (List.mem_of_getElem? (i := 111) rfl))
  | 13, _ => Or.inl (hw _ (List.mem_of_getElem? (i := 59) rfl))
  | 14, _ => Or.inl (hw _ (List.mem_of_getElem? (i := 117) rfl))
  | 15, _ => Or.inl (hw _ (List.mem_of_getElem? (i := 61) rfl))
  | i + 16, h => absurd h (by omega)
theorem ol_type : ∀ i, i < 16 → ∃ t, parseFieldDescriptor (FT.getD i ("", "")).2 = some t
  | 0, _ => ⟨.boolean, by decide⟩
  | 1, _ => ⟨(.object "com/example/flat_planner/flatplanner/LongColumn"), by decide⟩
  | 2, _ => ⟨.int, by decide⟩
  | 3, _ => ⟨.int, by decide⟩
  | 4, _ => ⟨.int, by decide⟩
  | 5, _ => ⟨(.array .long), by decide⟩
  | 6, _ => ⟨(.array .long), by decide⟩
  | 7, _ => ⟨(.array .long), by decide⟩
  | 8, _ => ⟨(.array .int), by decide⟩
  | 9, _ => ⟨(.array .int), by decide⟩
  | 10, _ => ⟨.int, by decide⟩
  | 11, _ => ⟨.int, by decide⟩
  | 12, _ => ⟨.long, by decide⟩
  | 13, _ => ⟨(.array .int), by decide⟩
  | 14, _ => ⟨.int, by decide⟩
  | 15, _ => ⟨(.array .int), by decide⟩
  | i + 16, h => absurd h (by omega)
theorem ol_name : ∀ i : Fin 16, ∀ j : Fin 16, i ≠ j → (FT.getD i.1 ("", "")).1 ≠ (FT.getD j.1 ("", "")).1 := by decide
theorem OL.wr {Z : State} {a0 : Array Value} {h h' : Heap} {o : Addr} {v : Value} {vs : List Value} (H : OL Z h o vs) (hw : ∀ d ∈ tables_1, d.before a0 Z = true) (k : Nat) (hk : k < 16) {n d : String} (hn : FT.getD k ("", "") = (n, d)) (W : Wr h h' o (Jvm.RoadKit.slotOf Z "com/example/flat_planner/flatplanner/OpenList" n d) v) (hl : k < vs.length) : OL Z h' o (vs.set k v) := fun i hi => by
  have en : n = (FT.getD k ("", "")).1 := by rw [hn]
  have ed : d = (FT.getD k ("", "")).2 := by rw [hn]
  subst en ed
  by_cases e : i = k
  · subst e
    have q := (H i hi).same W
    rw [show (vs.set i v).getD i .null = v by simp [List.getD_eq_getElem?_getD, hl]]
    exact q
  · rw [show (vs.set k v).getD i .null = vs.getD i .null by simp [List.getD_eq_getElem?_getD, List.getElem?_set_ne (Ne.symm e)]]
    obtain ⟨t, ht⟩ := ol_type i hi
    obtain ⟨t', ht'⟩ := ol_type k hk
    exact (H i hi).other W (Or.inr (slot_ne (ol_laid hw i hi) (ol_laid hw k hk) (ol_name ⟨i, hi⟩ ⟨k, hk⟩ (fun z => e (congrArg Fin.val z))) ht ht'))
theorem nd_ne {Ls : List Addr} {i j : Nat} {a b : Addr} (hd : Ls.Nodup) (hij : i ≠ j) (hi : Ls[i]? = some a) (hj : Ls[j]? = some b) : a ≠ b := fun e => by
  subst e
  obtain ⟨h1, e1⟩ := List.getElem?_eq_some_iff.mp hi
  exact hij ((List.getElem?_inj h1 hd).mp (hi.trans hj.symm))
theorem fits01 {x : Int32} (q : x = 0 ∨ x = 1) : fits .boolean (.int x) = true := by rcases q with rfl | rfl <;> rfl
def AI (Z : State) (h : Heap) (a : Addr) (n : Int32) (vs : List Value) : Prop := ∃ k, Arv Z h a k .int n vs (.int (0 : Int32))
def AJ (Z : State) (h : Heap) (a : Addr) (n : Int32) (vs : List Value) : Prop := ∃ k, Arv Z h a k .long n vs (.long (0 : Int64))
def LCF (Z : State) (h : Heap) (c cs : Addr) : Prop := Exa Z h c "com/example/flat_planner/flatplanner/LongColumn" ∧ Fld Z h c "com/example/flat_planner/flatplanner/LongColumn" "width" "I" (.int (1 : Int32)) ∧ Fld Z h c "com/example/flat_planner/flatplanner/LongColumn" "shift" "I" (.int (16 : Int32)) ∧ Fld Z h c "com/example/flat_planner/flatplanner/LongColumn" "chunks" "[[J" (.ref cs) ∧ Fld Z h c "com/example/flat_planner/flatplanner/LongColumn" "capacity" "I" (.int (16 : Int32))
theorem LCF.ext {Z : State} {h h' : Heap} {c cs : Addr} (H : LCF Z h c cs) (E : Ext h h') : LCF Z h' c cs := ⟨H.1.ext E, H.2.1.ext E, H.2.2.1.ext E, H.2.2.2.1.ext E, H.2.2.2.2.ext E⟩
theorem LCF.other {Z : State} {h h' : Heap} {c cs a : Addr} {sl : Nat} {v : Value} (H : LCF Z h c cs) (W : Wr h h' a sl v) (q : c ≠ a) : LCF Z h' c cs := ⟨H.1.wr W, H.2.1.other W (Or.inl q), H.2.2.1.other W (Or.inl q), H.2.2.2.1.other W (Or.inl q), H.2.2.2.2.other W (Or.inl q)⟩
theorem LCF.keep {Z : State} {h h' : Heap} {c cs : Addr} {ws : List Addr} (H : LCF Z h c cs) (K : Keep h h' ws) (q : c ∉ ws) : LCF Z h' c cs := ⟨H.1.keep K, H.2.1.keep K q, H.2.2.1.keep K q, H.2.2.2.1.keep K q, H.2.2.2.2.keep K q⟩
theorem nd {Ls : List Addr} {a b : Addr} (hd : Ls.Nodup) (i j : Nat) (hi : Ls[i]? = some a) (hj : Ls[j]? = some b) (hij : i ≠ j := by decide) : a ≠ b := nd_ne hd hij hi hj
theorem mi {ws : List Addr} {x : Addr} {P : Prop} (i : Nat) (h : ws[i]? = some x) : x ∈ ws ∨ P := Or.inl (List.mem_of_getElem? h)
theorem wd {a0 : Array Value} {Z : State} (hw : ∀ d ∈ tables_1, d.before a0 Z = true) (i : Nat) {d : Jvm.Cond} (h : tables_1[i]? = some d) : d.before a0 Z = true := hw d (List.mem_of_getElem? h)
def hiV (e : Int64) : Int32 := ((e >>> ((32 : Int32) &&& 0x3f).toInt64).toInt32)
def loV (e : Int64) : Int32 := (e.toInt32)
def mkE (id : Int32) : Int64 := ((id.toInt64) <<< ((32 : Int32) &&& 0x3f).toInt64)
def nxE (e : Int64) (n : Int32) : Int64 := ((e &&& (-4294967296 : Int64)) ||| ((n.toInt64) &&& (4294967295 : Int64)))
abbrev Wd (Z : State) (h : Heap) (o cl cs c0 bF bG bO bH bT hP nw : Addr) (gt fe eu sz fb bu hs : Int32) (sta : Int64) (e0 e1 : Int64) (er : List Int64) (f0 f1 : Int64) (fr : List Int64) (g0 g1 : Int64) (gr : List Int64) (q0 q1 : Int64) (qr : List Int64) (d0 d1 : Int32) (dr : List Int32) (t0 t1 : Int32) (tr : List Int32) (p0 p1 : Int32) (pr : List Int32) (ns : List Int32) : Prop := (Exa Z h o "com/example/flat_planner/flatplanner/OpenList") ∧ (OL Z h o [(.int gt), (.ref cl), (.int fe), (.int eu), (.int sz), (.ref bF), (.ref bG), (.ref bO), (.ref bH), (.ref bT), (.int fb), (.int bu), (.long sta), (.ref hP), (.int hs), (.ref nw)]) ∧ (LCF Z h cl cs) ∧ (∃ k, Arv Z h cs k (.array .long) (1 : Int32) [(.ref c0)] .null) ∧ (AJ Z h c0 (16 : Int32) ((.long e0) :: (.long e1) :: (er.map Value.long))) ∧ (AJ Z h bF (16 : Int32) ((.long f0) :: (.long f1) :: (fr.map Value.long))) ∧ (AJ Z h bG (16 : Int32) ((.long g0) :: (.long g1) :: (gr.map Value.long))) ∧ (AJ Z h bO (16 : Int32) ((.long q0) :: (.long q1) :: (qr.map Value.long))) ∧ (AI Z h bH (16 : Int32) ((.int d0) :: (.int d1) :: (dr.map Value.int))) ∧ (AI Z h bT (16 : Int32) ((.int t0) :: (.int t1) :: (tr.map Value.int))) ∧ (AI Z h hP (16 : Int32) ((.int p0) :: (.int p1) :: (pr.map Value.int))) ∧ (AI Z h nw (32 : Int32) (ns.map Value.int))
theorem d5_0 : decode jdk_29_method_65_code 0 = .ok (.iload_n 0, 1) := by decide +kernel
theorem d5_1 : decode jdk_29_method_65_code 1 = .ok (.iload_n 1, 1) := by decide +kernel
theorem d5_2 : decode jdk_29_method_65_code 2 = .ok (.if_icmp .lt 7, 3) := by decide +kernel
theorem d5_5 : decode jdk_29_method_65_code 5 = .ok (.iload_n 0, 1) := by decide +kernel
theorem d5_6 : decode jdk_29_method_65_code 6 = .ok (.goto 4, 3) := by decide +kernel
theorem d5_9 : decode jdk_29_method_65_code 9 = .ok (.iload_n 1, 1) := by decide +kernel
theorem d5_10 : decode jdk_29_method_65_code 10 = .ok (.ireturn, 1) := by decide +kernel
theorem ef_5 (m : MethodId) (x0 : Int32) (x1 : Int32) : entryFrame m #[(.int x0), (.int x1)] 2 = mkF m 0 #[.val (.int x0), .val (.int x1)] [] := by first | (simp [entryFrame, mkF, argsToLocals, Value.category]; done) | rfl
def mxI (p0 : Int32) (p1 : Int32) : Int32 := (if p0 < p1 then p1 else p0)
set_option maxRecDepth 65536 in
set_option maxHeartbeats 40000000 in
theorem rm5 (l : Launch) (Z : State) (a0 : Array Value) (hw : ∀ d ∈ tables_1, d.before a0 Z = true) (p0 : Int32) (p1 : Int32) (h0 : Heap) (n0 : Nat) (Z0 : n0 ≤ h0.size) :
    Con l Z (⟨"java/lang/Math", "max", "(II)I"⟩ : MethodName) jdk_29_method_65_code 2 (some .int) ({ frames := 0, cells := 0, slots := 0, locals := 0 } : Room) #[(.int p0), (.int p1)] h0 n0 (fun v h => v = some (.int (mxI p0 p1)) ∧ h = h0) := by
  refine Con.of (own := "java/lang/Math") (name := "max") (Jvm.Free.JP.mathPlain rfl (by decide +kernel)) (fun m => ef_5 m p0 p1) rfl rfl ?_
  intro p e s m below meth c T F S cx st
  refine E_iloadN (pc' := 1) cx st d5_0 rfl rfl ?_
  refine E_iloadN (pc' := 2) cx st d5_1 rfl rfl ?_
  by_cases c1 : p0 < p1
  · refine E_icmp_ltY (pc' := 9) cx st d5_2 (by decide) (by decide) c1 ?_
    refine E_iloadN (pc' := 10) cx st d5_9 rfl rfl ?_
    refine E_ireturn (t := .int) cx st d5_10 rfl (by simp) rfl (by decide) (by decide) ?_
    exact ⟨by unfold mxI; rw [if_pos c1], rfl⟩
  · refine E_icmp_ltN (pc' := 5) cx st d5_2 rfl c1 ?_
    refine E_iloadN (pc' := 6) cx st d5_5 rfl rfl ?_
    refine E_goto (pc' := 10) cx st d5_6 (by decide) (by decide) ?_
    refine E_ireturn (t := .int) cx st d5_10 rfl (by simp) rfl (by decide) (by decide) ?_
    exact ⟨by unfold mxI; rw [if_neg c1], rfl⟩
theorem d6_0 : decode jdk_29_method_69_code 0 = .ok (.iload_n 0, 1) := by decide +kernel
theorem d6_1 : decode jdk_29_method_69_code 1 = .ok (.iload_n 1, 1) := by decide +kernel
theorem d6_2 : decode jdk_29_method_69_code 2 = .ok (.if_icmp .gt 7, 3) := by decide +kernel
theorem d6_5 : decode jdk_29_method_69_code 5 = .ok (.iload_n 0, 1) := by decide +kernel
theorem d6_6 : decode jdk_29_method_69_code 6 = .ok (.goto 4, 3) := by decide +kernel
theorem d6_9 : decode jdk_29_method_69_code 9 = .ok (.iload_n 1, 1) := by decide +kernel
theorem d6_10 : decode jdk_29_method_69_code 10 = .ok (.ireturn, 1) := by decide +kernel
theorem ef_6 (m : MethodId) (x0 : Int32) (x1 : Int32) : entryFrame m #[(.int x0), (.int x1)] 2 = mkF m 0 #[.val (.int x0), .val (.int x1)] [] := by first | (simp [entryFrame, mkF, argsToLocals, Value.category]; done) | rfl
def mnI (p0 : Int32) (p1 : Int32) : Int32 := (if p1 < p0 then p1 else p0)
set_option maxRecDepth 65536 in
set_option maxHeartbeats 40000000 in
theorem rm6 (l : Launch) (Z : State) (a0 : Array Value) (hw : ∀ d ∈ tables_1, d.before a0 Z = true) (p0 : Int32) (p1 : Int32) (h0 : Heap) (n0 : Nat) (Z0 : n0 ≤ h0.size) :
    Con l Z (⟨"java/lang/Math", "min", "(II)I"⟩ : MethodName) jdk_29_method_69_code 2 (some .int) ({ frames := 0, cells := 0, slots := 0, locals := 0 } : Room) #[(.int p0), (.int p1)] h0 n0 (fun v h => v = some (.int (mnI p0 p1)) ∧ h = h0) := by
  refine Con.of (own := "java/lang/Math") (name := "min") (Jvm.Free.JP.mathPlain rfl (by decide +kernel)) (fun m => ef_6 m p0 p1) rfl rfl ?_
  intro p e s m below meth c T F S cx st
  refine E_iloadN (pc' := 1) cx st d6_0 rfl rfl ?_
  refine E_iloadN (pc' := 2) cx st d6_1 rfl rfl ?_
  by_cases c1 : p1 < p0
  · refine E_icmp_gtY (pc' := 9) cx st d6_2 (by decide) (by decide) c1 ?_
    refine E_iloadN (pc' := 10) cx st d6_9 rfl rfl ?_
    refine E_ireturn (t := .int) cx st d6_10 rfl (by simp) rfl (by decide) (by decide) ?_
    exact ⟨by unfold mnI; rw [if_pos c1], rfl⟩
  · refine E_icmp_gtN (pc' := 5) cx st d6_2 rfl c1 ?_
    refine E_iloadN (pc' := 6) cx st d6_5 rfl rfl ?_
    refine E_goto (pc' := 10) cx st d6_6 (by decide) (by decide) ?_
    refine E_ireturn (t := .int) cx st d6_10 rfl (by simp) rfl (by decide) (by decide) ?_
    exact ⟨by unfold mnI; rw [if_neg c1], rfl⟩
theorem d4_0 : decode jdk_33_method_47_code 0 = .ok (.iload_n 0, 1) := by decide +kernel
theorem d4_1 : decode jdk_33_method_47_code 1 = .ok (.ifCond .gt 14, 3) := by decide +kernel
theorem d4_4 : decode jdk_33_method_47_code 4 = .ok (.iload_n 0, 1) := by decide +kernel
theorem d4_5 : decode jdk_33_method_47_code 5 = .ok (.ifCond .ne 8, 3) := by decide +kernel
theorem d4_8 : decode jdk_33_method_47_code 8 = .ok (.bipush 32, 2) := by decide +kernel
theorem d4_10 : decode jdk_33_method_47_code 10 = .ok (.goto 4, 3) := by decide +kernel
theorem d4_13 : decode jdk_33_method_47_code 13 = .ok (.iconst 0, 1) := by decide +kernel
theorem d4_14 : decode jdk_33_method_47_code 14 = .ok (.ireturn, 1) := by decide +kernel
theorem d4_15 : decode jdk_33_method_47_code 15 = .ok (.bipush 31, 2) := by decide +kernel
theorem d4_17 : decode jdk_33_method_47_code 17 = .ok (.istore_n 1, 1) := by decide +kernel
theorem d4_18 : decode jdk_33_method_47_code 18 = .ok (.iload_n 0, 1) := by decide +kernel
theorem d4_19 : decode jdk_33_method_47_code 19 = .ok (.ldc_w 264, 3) := by decide +kernel
theorem d4_22 : decode jdk_33_method_47_code 22 = .ok (.if_icmp .lt 11, 3) := by decide +kernel
theorem d4_25 : decode jdk_33_method_47_code 25 = .ok (.iinc 1 (-16), 3) := by decide +kernel
theorem d4_28 : decode jdk_33_method_47_code 28 = .ok (.iload_n 0, 1) := by decide +kernel
theorem d4_29 : decode jdk_33_method_47_code 29 = .ok (.bipush 16, 2) := by decide +kernel
theorem d4_31 : decode jdk_33_method_47_code 31 = .ok (.iushr, 1) := by decide +kernel
theorem d4_32 : decode jdk_33_method_47_code 32 = .ok (.istore_n 0, 1) := by decide +kernel
theorem d4_33 : decode jdk_33_method_47_code 33 = .ok (.iload_n 0, 1) := by decide +kernel
theorem d4_34 : decode jdk_33_method_47_code 34 = .ok (.sipush 256, 3) := by decide +kernel
theorem d4_37 : decode jdk_33_method_47_code 37 = .ok (.if_icmp .lt 11, 3) := by decide +kernel
theorem d4_40 : decode jdk_33_method_47_code 40 = .ok (.iinc 1 (-8), 3) := by decide +kernel
theorem d4_43 : decode jdk_33_method_47_code 43 = .ok (.iload_n 0, 1) := by decide +kernel
theorem d4_44 : decode jdk_33_method_47_code 44 = .ok (.bipush 8, 2) := by decide +kernel
theorem d4_46 : decode jdk_33_method_47_code 46 = .ok (.iushr, 1) := by decide +kernel
theorem d4_47 : decode jdk_33_method_47_code 47 = .ok (.istore_n 0, 1) := by decide +kernel
theorem d4_48 : decode jdk_33_method_47_code 48 = .ok (.iload_n 0, 1) := by decide +kernel
theorem d4_49 : decode jdk_33_method_47_code 49 = .ok (.bipush 16, 2) := by decide +kernel
theorem d4_51 : decode jdk_33_method_47_code 51 = .ok (.if_icmp .lt 10, 3) := by decide +kernel
theorem d4_54 : decode jdk_33_method_47_code 54 = .ok (.iinc 1 (-4), 3) := by decide +kernel
theorem d4_57 : decode jdk_33_method_47_code 57 = .ok (.iload_n 0, 1) := by decide +kernel
theorem d4_58 : decode jdk_33_method_47_code 58 = .ok (.iconst 4, 1) := by decide +kernel
theorem d4_59 : decode jdk_33_method_47_code 59 = .ok (.iushr, 1) := by decide +kernel
theorem d4_60 : decode jdk_33_method_47_code 60 = .ok (.istore_n 0, 1) := by decide +kernel
theorem d4_61 : decode jdk_33_method_47_code 61 = .ok (.iload_n 0, 1) := by decide +kernel
theorem d4_62 : decode jdk_33_method_47_code 62 = .ok (.iconst 4, 1) := by decide +kernel
theorem d4_63 : decode jdk_33_method_47_code 63 = .ok (.if_icmp .lt 10, 3) := by decide +kernel
theorem d4_66 : decode jdk_33_method_47_code 66 = .ok (.iinc 1 (-2), 3) := by decide +kernel
theorem d4_69 : decode jdk_33_method_47_code 69 = .ok (.iload_n 0, 1) := by decide +kernel
theorem d4_70 : decode jdk_33_method_47_code 70 = .ok (.iconst 2, 1) := by decide +kernel
theorem d4_71 : decode jdk_33_method_47_code 71 = .ok (.iushr, 1) := by decide +kernel
theorem d4_72 : decode jdk_33_method_47_code 72 = .ok (.istore_n 0, 1) := by decide +kernel
theorem d4_73 : decode jdk_33_method_47_code 73 = .ok (.iload_n 1, 1) := by decide +kernel
theorem d4_74 : decode jdk_33_method_47_code 74 = .ok (.iload_n 0, 1) := by decide +kernel
theorem d4_75 : decode jdk_33_method_47_code 75 = .ok (.iconst 1, 1) := by decide +kernel
theorem d4_76 : decode jdk_33_method_47_code 76 = .ok (.iushr, 1) := by decide +kernel
theorem d4_77 : decode jdk_33_method_47_code 77 = .ok (.isub, 1) := by decide +kernel
theorem d4_78 : decode jdk_33_method_47_code 78 = .ok (.ireturn, 1) := by decide +kernel
theorem pn_0 : plainName "java/lang/Integer" = true := by first | (simp [plainName, overriddenIn]; done) | decide +kernel
theorem ef_4 (m : MethodId) (x0 : Int32) : entryFrame m #[(.int x0)] 2 = mkF m 0 #[.val (.int x0), .unset] [] := by first | (simp [entryFrame, mkF, argsToLocals, Value.category]; done) | rfl
set_option maxRecDepth 65536 in
set_option maxHeartbeats 40000000 in
theorem rm4 (l : Launch) (Z : State) (a0 : Array Value) (hw : ∀ d ∈ tables_1, d.before a0 Z = true)  (h0 : Heap) (n0 : Nat) (Z0 : n0 ≤ h0.size) :
    Con l Z (⟨"java/lang/Integer", "numberOfLeadingZeros", "(I)I"⟩ : MethodName) jdk_33_method_47_code 2 (some .int) ({ frames := 0, cells := 0, slots := 0, locals := 0 } : Room) #[(.int (65536 : Int32))] h0 n0 (fun v h => v = some (.int (15 : Int32)) ∧ h = h0) := by
  refine Con.of (own := "java/lang/Integer") (name := "numberOfLeadingZeros") (plainFor_of_name pn_0) (fun m => ef_4 m (65536 : Int32)) rfl rfl ?_
  intro p e s m below meth c T F S cx st
  refine E_iloadN (pc' := 1) cx st d4_0 rfl rfl ?_
  refine E_if_gtY (pc' := 15) cx st d4_1 (by decide) (by decide) (by decide) ?_
  refine E_bipush (pc' := 17) cx st (31 : Int32) d4_15 rfl rfl ?_
  refine E_istoreN (pc' := 18) (L' := #[.val (.int (65536 : Int32)), .val (.int (31 : Int32))]) cx st d4_17 rfl rfl ?_
  refine E_iloadN (pc' := 19) cx st d4_18 rfl rfl ?_
  refine E_ldc_w (pc' := 22) (v := (65536 : Int32)) cx st (wd hw 27 rfl) d4_19 rfl ?_
  refine E_icmp_ltN (pc' := 25) cx st d4_22 rfl (by decide) ?_
  refine E_iinc (pc' := 28) (L' := #[.val (.int (65536 : Int32)), .val (.int (15 : Int32))]) cx st (-16 : Int32) d4_25 rfl rfl rfl rfl ?_
  refine E_iloadN (pc' := 29) cx st d4_28 rfl rfl ?_
  refine E_bipush (pc' := 31) cx st (16 : Int32) d4_29 rfl rfl ?_
  refine E_iushr (pc' := 32) cx st d4_31 rfl ?_
  rw [show (((65536 : Int32).toUInt32 >>> ((16 : Int32) &&& 31).toUInt32).toInt32) = (1 : Int32) from by decide]
  refine E_istoreN (pc' := 33) (L' := #[.val (.int (1 : Int32)), .val (.int (15 : Int32))]) cx st d4_32 rfl rfl ?_
  refine E_iloadN (pc' := 34) cx st d4_33 rfl rfl ?_
  refine E_sipush (pc' := 37) cx st (256 : Int32) d4_34 rfl rfl ?_
  refine E_icmp_ltY (pc' := 48) cx st d4_37 (by decide) (by decide) (by decide) ?_
  refine E_iloadN (pc' := 49) cx st d4_48 rfl rfl ?_
  refine E_bipush (pc' := 51) cx st (16 : Int32) d4_49 rfl rfl ?_
  refine E_icmp_ltY (pc' := 61) cx st d4_51 (by decide) (by decide) (by decide) ?_
  refine E_iloadN (pc' := 62) cx st d4_61 rfl rfl ?_
  refine E_iconst (pc' := 63) cx st (4 : Int32) d4_62 rfl rfl ?_
  refine E_icmp_ltY (pc' := 73) cx st d4_63 (by decide) (by decide) (by decide) ?_
  refine E_iloadN (pc' := 74) cx st d4_73 rfl rfl ?_
  refine E_iloadN (pc' := 75) cx st d4_74 rfl rfl ?_
  refine E_iconst (pc' := 76) cx st (1 : Int32) d4_75 rfl rfl ?_
  refine E_iushr (pc' := 77) cx st d4_76 rfl ?_
  rw [show (((1 : Int32).toUInt32 >>> ((1 : Int32) &&& 31).toUInt32).toInt32) = (0 : Int32) from by decide]
  refine E_isub (pc' := 78) cx st d4_77 rfl ?_
  rw [show ((15 : Int32) - (0 : Int32)) = (15 : Int32) from by decide]
  refine E_ireturn (t := .int) cx st d4_78 rfl (by simp) rfl (by decide) (by decide) ?_
  exact ⟨rfl, rfl⟩
theorem d7_0 : decode jdk_65_method_103_code 0 = .ok (.iconst 0, 1) := by decide +kernel
theorem d7_1 : decode jdk_65_method_103_code 1 = .ok (.istore_n 2, 1) := by decide +kernel
theorem d7_2 : decode jdk_65_method_103_code 2 = .ok (.aload_n 0, 1) := by decide +kernel
theorem d7_3 : decode jdk_65_method_103_code 3 = .ok (.arraylength, 1) := by decide +kernel
theorem d7_4 : decode jdk_65_method_103_code 4 = .ok (.istore_n 3, 1) := by decide +kernel
theorem d7_5 : decode jdk_65_method_103_code 5 = .ok (.iload_n 2, 1) := by decide +kernel
theorem d7_6 : decode jdk_65_method_103_code 6 = .ok (.iload_n 3, 1) := by decide +kernel
theorem d7_7 : decode jdk_65_method_103_code 7 = .ok (.if_icmp .ge 13, 3) := by decide +kernel
theorem d7_10 : decode jdk_65_method_103_code 10 = .ok (.aload_n 0, 1) := by decide +kernel
theorem d7_11 : decode jdk_65_method_103_code 11 = .ok (.iload_n 2, 1) := by decide +kernel
theorem d7_12 : decode jdk_65_method_103_code 12 = .ok (.iload_n 1, 1) := by decide +kernel
theorem d7_13 : decode jdk_65_method_103_code 13 = .ok (.iastore, 1) := by decide +kernel
theorem d7_14 : decode jdk_65_method_103_code 14 = .ok (.iinc 2 1, 3) := by decide +kernel
theorem d7_17 : decode jdk_65_method_103_code 17 = .ok (.goto (-12), 3) := by decide +kernel
theorem d7_20 : decode jdk_65_method_103_code 20 = .ok (.return_, 1) := by decide +kernel
theorem pn_1 : plainName "java/util/Arrays" = true := by first | (simp [plainName, overriddenIn]; done) | decide +kernel
theorem ef_7 (m : MethodId) (x0 : Addr) (x1 : Int32) : entryFrame m #[(.ref x0), (.int x1)] 4 = mkF m 0 #[.val (.ref x0), .val (.int x1), .unset, .unset] [] := by first | (simp [entryFrame, mkF, argsToLocals, Value.category]; done) | rfl
set_option maxRecDepth 65536 in
set_option maxHeartbeats 40000000 in
theorem rm7 (l : Launch) (Z : State) (a0 : Array Value) (hw : ∀ d ∈ tables_1, d.before a0 Z = true) (a1 : Addr) (h0 : Heap) (n0 : Nat) (Z0 : n0 ≤ h0.size) (kA : ClassId) (g_a1 : n0 ≤ a1) (V0 : Arv Z h0 a1 kA .int (32 : Int32) [(.int (0 : Int32)), (.int (0 : Int32)), (.int (0 : Int32)), (.int (0 : Int32)), (.int (0 : Int32)), (.int (0 : Int32)), (.int (0 : Int32)), (.int (0 : Int32)), (.int (0 : Int32)), (.int (0 : Int32)), (.int (0 : Int32)), (.int (0 : Int32)), (.int (0 : Int32)), (.int (0 : Int32)), (.int (0 : Int32)), (.int (0 : Int32)), (.int (0 : Int32)), (.int (0 : Int32)), (.int (0 : Int32)), (.int (0 : Int32)), (.int (0 : Int32)), (.int (0 : Int32)), (.int (0 : Int32)), (.int (0 : Int32)), (.int (0 : Int32)), (.int (0 : Int32)), (.int (0 : Int32)), (.int (0 : Int32)), (.int (0 : Int32)), (.int (0 : Int32)), (.int (0 : Int32)), (.int (0 : Int32))] (.int (0 : Int32))) :
    Con l Z (⟨"java/util/Arrays", "fill", "([II)V"⟩ : MethodName) jdk_65_method_103_code 4 none ({ frames := 0, cells := 0, slots := 0, locals := 0 } : Room) #[(.ref a1), (.int (-1 : Int32))] h0 n0 (fun v h => v = none ∧ Keep h0 h [a1] ∧ Arv Z h a1 kA .int (32 : Int32) [(.int (-1 : Int32)), (.int (-1 : Int32)), (.int (-1 : Int32)), (.int (-1 : Int32)), (.int (-1 : Int32)), (.int (-1 : Int32)), (.int (-1 : Int32)), (.int (-1 : Int32)), (.int (-1 : Int32)), (.int (-1 : Int32)), (.int (-1 : Int32)), (.int (-1 : Int32)), (.int (-1 : Int32)), (.int (-1 : Int32)), (.int (-1 : Int32)), (.int (-1 : Int32)), (.int (-1 : Int32)), (.int (-1 : Int32)), (.int (-1 : Int32)), (.int (-1 : Int32)), (.int (-1 : Int32)), (.int (-1 : Int32)), (.int (-1 : Int32)), (.int (-1 : Int32)), (.int (-1 : Int32)), (.int (-1 : Int32)), (.int (-1 : Int32)), (.int (-1 : Int32)), (.int (-1 : Int32)), (.int (-1 : Int32)), (.int (-1 : Int32)), (.int (-1 : Int32))] (.int (0 : Int32))) := by
  refine Con.of (own := "java/util/Arrays") (name := "fill") (plainFor_of_name pn_1) (fun m => ef_7 m a1 (-1 : Int32)) rfl rfl ?_
  intro p e s m below meth c T F S cx st
  refine E_iconst (pc' := 1) cx st (0 : Int32) d7_0 rfl rfl ?_
  refine E_istoreN (pc' := 2) (L' := #[.val (.ref a1), .val (.int (-1 : Int32)), .val (.int (0 : Int32)), .unset]) cx st d7_1 rfl rfl ?_
  refine E_aloadN (pc' := 3) cx st d7_2 rfl rfl rfl ?_
  refine E_arraylength (pc' := 4) cx st V0 d7_3 rfl ?_
  refine E_istoreN (pc' := 5) (L' := #[.val (.ref a1), .val (.int (-1 : Int32)), .val (.int (0 : Int32)), .val (.int (32 : Int32))]) cx st d7_4 rfl rfl ?_
  refine E_iloadN (pc' := 6) cx st d7_5 rfl rfl ?_
  refine E_iloadN (pc' := 7) cx st d7_6 rfl rfl ?_
  refine E_icmp_geN (pc' := 10) cx st d7_7 rfl (by decide) ?_
  refine E_aloadN (pc' := 11) cx st d7_10 rfl rfl rfl ?_
  refine E_iloadN (pc' := 12) cx st d7_11 rfl rfl ?_
  refine E_iloadN (pc' := 13) cx st d7_12 rfl rfl ?_
  refine E_iastore (pc' := 14) (i := 0) cx st V0 ⟨by decide, by decide⟩ rfl (Nat.le_of_ble_eq_true rfl) g_a1 d7_13 rfl ?_
  intro T1 h1 st1 W1 V1
  have Z1 : n0 ≤ h1.size := Nat.le_trans Z0 (Keep.of_wr W1).1
  have K1 : Keep h0 h1 [a1] := (Keep.refl h0 [a1]).wr W1 (mi 0 rfl)
  have V1p : Arv Z h1 a1 kA .int (32 : Int32) [(.int (-1 : Int32)), (.int (0 : Int32)), (.int (0 : Int32)), (.int (0 : Int32)), (.int (0 : Int32)), (.int (0 : Int32)), (.int (0 : Int32)), (.int (0 : Int32)), (.int (0 : Int32)), (.int (0 : Int32)), (.int (0 : Int32)), (.int (0 : Int32)), (.int (0 : Int32)), (.int (0 : Int32)), (.int (0 : Int32)), (.int (0 : Int32)), (.int (0 : Int32)), (.int (0 : Int32)), (.int (0 : Int32)), (.int (0 : Int32)), (.int (0 : Int32)), (.int (0 : Int32)), (.int (0 : Int32)), (.int (0 : Int32)), (.int (0 : Int32)), (.int (0 : Int32)), (.int (0 : Int32)), (.int (0 : Int32)), (.int (0 : Int32)), (.int (0 : Int32)), (.int (0 : Int32)), (.int (0 : Int32))] (.int (0 : Int32)) := V1
  refine E_iinc (pc' := 17) (L' := #[.val (.ref a1), .val (.int (-1 : Int32)), .val (.int (1 : Int32)), .val (.int (32 : Int32))]) cx st1 (1 : Int32) d7_14 rfl rfl rfl rfl ?_
  refine E_goto (pc' := 5) cx st1 d7_17 (by decide) (by decide) ?_
  refine E_iloadN (pc' := 6) cx st1 d7_5 rfl rfl ?_
  refine E_iloadN (pc' := 7) cx st1 d7_6 rfl rfl ?_
  refine E_icmp_geN (pc' := 10) cx st1 d7_7 rfl (by decide) ?_
  refine E_aloadN (pc' := 11) cx st1 d7_10 rfl rfl rfl ?_
  refine E_iloadN (pc' := 12) cx st1 d7_11 rfl rfl ?_
  refine E_iloadN (pc' := 13) cx st1 d7_12 rfl rfl ?_
  refine E_iastore (pc' := 14) (i := 1) cx st1 V1p ⟨by decide, by decide⟩ rfl (Nat.le_of_ble_eq_true rfl) g_a1 d7_13 rfl ?_
  intro T2 h2 st2 W2 V2
  have Z2 : n0 ≤ h2.size := Nat.le_trans Z1 (Keep.of_wr W2).1
  have K2 : Keep h0 h2 [a1] := K1.wr W2 (mi 0 rfl)
  have V2p : Arv Z h2 a1 kA .int (32 : Int32) [(.int (-1 : Int32)), (.int (-1 : Int32)), (.int (0 : Int32)), (.int (0 : Int32)), (.int (0 : Int32)), (.int (0 : Int32)), (.int (0 : Int32)), (.int (0 : Int32)), (.int (0 : Int32)), (.int (0 : Int32)), (.int (0 : Int32)), (.int (0 : Int32)), (.int (0 : Int32)), (.int (0 : Int32)), (.int (0 : Int32)), (.int (0 : Int32)), (.int (0 : Int32)), (.int (0 : Int32)), (.int (0 : Int32)), (.int (0 : Int32)), (.int (0 : Int32)), (.int (0 : Int32)), (.int (0 : Int32)), (.int (0 : Int32)), (.int (0 : Int32)), (.int (0 : Int32)), (.int (0 : Int32)), (.int (0 : Int32)), (.int (0 : Int32)), (.int (0 : Int32)), (.int (0 : Int32)), (.int (0 : Int32))] (.int (0 : Int32)) := V2
  refine E_iinc (pc' := 17) (L' := #[.val (.ref a1), .val (.int (-1 : Int32)), .val (.int (2 : Int32)), .val (.int (32 : Int32))]) cx st2 (1 : Int32) d7_14 rfl rfl rfl rfl ?_
  refine E_goto (pc' := 5) cx st2 d7_17 (by decide) (by decide) ?_
  refine E_iloadN (pc' := 6) cx st2 d7_5 rfl rfl ?_
  refine E_iloadN (pc' := 7) cx st2 d7_6 rfl rfl ?_
  refine E_icmp_geN (pc' := 10) cx st2 d7_7 rfl (by decide) ?_
  refine E_aloadN (pc' := 11) cx st2 d7_10 rfl rfl rfl ?_
  refine E_iloadN (pc' := 12) cx st2 d7_11 rfl rfl ?_
  refine E_iloadN (pc' := 13) cx st2 d7_12 rfl rfl ?_
  refine E_iastore (pc' := 14) (i := 2) cx st2 V2p ⟨by decide, by decide⟩ rfl (Nat.le_of_ble_eq_true rfl) g_a1 d7_13 rfl ?_
  intro T3 h3 st3 W3 V3
  have Z3 : n0 ≤ h3.size := Nat.le_trans Z2 (Keep.of_wr W3).1
  have K3 : Keep h0 h3 [a1] := K2.wr W3 (mi 0 rfl)
  have V3p : Arv Z h3 a1 kA .int (32 : Int32) [(.int (-1 : Int32)), (.int (-1 : Int32)), (.int (-1 : Int32)), (.int (0 : Int32)), (.int (0 : Int32)), (.int (0 : Int32)), (.int (0 : Int32)), (.int (0 : Int32)), (.int (0 : Int32)), (.int (0 : Int32)), (.int (0 : Int32)), (.int (0 : Int32)), (.int (0 : Int32)), (.int (0 : Int32)), (.int (0 : Int32)), (.int (0 : Int32)), (.int (0 : Int32)), (.int (0 : Int32)), (.int (0 : Int32)), (.int (0 : Int32)), (.int (0 : Int32)), (.int (0 : Int32)), (.int (0 : Int32)), (.int (0 : Int32)), (.int (0 : Int32)), (.int (0 : Int32)), (.int (0 : Int32)), (.int (0 : Int32)), (.int (0 : Int32)), (.int (0 : Int32)), (.int (0 : Int32)), (.int (0 : Int32))] (.int (0 : Int32)) := V3
  refine E_iinc (pc' := 17) (L' := #[.val (.ref a1), .val (.int (-1 : Int32)), .val (.int (3 : Int32)), .val (.int (32 : Int32))]) cx st3 (1 : Int32) d7_14 rfl rfl rfl rfl ?_
  refine E_goto (pc' := 5) cx st3 d7_17 (by decide) (by decide) ?_
  refine E_iloadN (pc' := 6) cx st3 d7_5 rfl rfl ?_
  refine E_iloadN (pc' := 7) cx st3 d7_6 rfl rfl ?_
  refine E_icmp_geN (pc' := 10) cx st3 d7_7 rfl (by decide) ?_
  refine E_aloadN (pc' := 11) cx st3 d7_10 rfl rfl rfl ?_
  refine E_iloadN (pc' := 12) cx st3 d7_11 rfl rfl ?_
  refine E_iloadN (pc' := 13) cx st3 d7_12 rfl rfl ?_
  refine E_iastore (pc' := 14) (i := 3) cx st3 V3p ⟨by decide, by decide⟩ rfl (Nat.le_of_ble_eq_true rfl) g_a1 d7_13 rfl ?_
  intro T4 h4 st4 W4 V4
  have Z4 : n0 ≤ h4.size := Nat.le_trans Z3 (Keep.of_wr W4).1
  have K4 : Keep h0 h4 [a1] := K3.wr W4 (mi 0 rfl)
  have V4p : Arv Z h4 a1 kA .int (32 : Int32) [(.int (-1 : Int32)), (.int (-1 : Int32)), (.int (-1 : Int32)), (.int (-1 : Int32)), (.int (0 : Int32)), (.int (0 : Int32)), (.int (0 : Int32)), (.int (0 : Int32)), (.int (0 : Int32)), (.int (0 : Int32)), (.int (0 : Int32)), (.int (0 : Int32)), (.int (0 : Int32)), (.int (0 : Int32)), (.int (0 : Int32)), (.int (0 : Int32)), (.int (0 : Int32)), (.int (0 : Int32)), (.int (0 : Int32)), (.int (0 : Int32)), (.int (0 : Int32)), (.int (0 : Int32)), (.int (0 : Int32)), (.int (0 : Int32)), (.int (0 : Int32)), (.int (0 : Int32)), (.int (0 : Int32)), (.int (0 : Int32)), (.int (0 : Int32)), (.int (0 : Int32)), (.int (0 : Int32)), (.int (0 : Int32))] (.int (0 : Int32)) := V4
  refine E_iinc (pc' := 17) (L' := #[.val (.ref a1), .val (.int (-1 : Int32)), .val (.int (4 : Int32)), .val (.int (32 : Int32))]) cx st4 (1 : Int32) d7_14 rfl rfl rfl rfl ?_
  refine E_goto (pc' := 5) cx st4 d7_17 (by decide) (by decide) ?_
  refine E_iloadN (pc' := 6) cx st4 d7_5 rfl rfl ?_
  refine E_iloadN (pc' := 7) cx st4 d7_6 rfl rfl ?_
  refine E_icmp_geN (pc' := 10) cx st4 d7_7 rfl (by decide) ?_
  refine E_aloadN (pc' := 11) cx st4 d7_10 rfl rfl rfl ?_
  refine E_iloadN (pc' := 12) cx st4 d7_11 rfl rfl ?_
  refine E_iloadN (pc' := 13) cx st4 d7_12 rfl rfl ?_
  refine E_iastore (pc' := 14) (i := 4) cx st4 V4p ⟨by decide, by decide⟩ rfl (Nat.le_of_ble_eq_true rfl) g_a1 d7_13 rfl ?_
  intro T5 h5 st5 W5 V5
  have Z5 : n0 ≤ h5.size := Nat.le_trans Z4 (Keep.of_wr W5).1
  have K5 : Keep h0 h5 [a1] := K4.wr W5 (mi 0 rfl)
  have V5p : Arv Z h5 a1 kA .int (32 : Int32) [(.int (-1 : Int32)), (.int (-1 : Int32)), (.int (-1 : Int32)), (.int (-1 : Int32)), (.int (-1 : Int32)), (.int (0 : Int32)), (.int (0 : Int32)), (.int (0 : Int32)), (.int (0 : Int32)), (.int (0 : Int32)), (.int (0 : Int32)), (.int (0 : Int32)), (.int (0 : Int32)), (.int (0 : Int32)), (.int (0 : Int32)), (.int (0 : Int32)), (.int (0 : Int32)), (.int (0 : Int32)), (.int (0 : Int32)), (.int (0 : Int32)), (.int (0 : Int32)), (.int (0 : Int32)), (.int (0 : Int32)), (.int (0 : Int32)), (.int (0 : Int32)), (.int (0 : Int32)), (.int (0 : Int32)), (.int (0 : Int32)), (.int (0 : Int32)), (.int (0 : Int32)), (.int (0 : Int32)), (.int (0 : Int32))] (.int (0 : Int32)) := V5
  refine E_iinc (pc' := 17) (L' := #[.val (.ref a1), .val (.int (-1 : Int32)), .val (.int (5 : Int32)), .val (.int (32 : Int32))]) cx st5 (1 : Int32) d7_14 rfl rfl rfl rfl ?_
  refine E_goto (pc' := 5) cx st5 d7_17 (by decide) (by decide) ?_
  refine E_iloadN (pc' := 6) cx st5 d7_5 rfl rfl ?_
  refine E_iloadN (pc' := 7) cx st5 d7_6 rfl rfl ?_
  refine E_icmp_geN (pc' := 10) cx st5 d7_7 rfl (by decide) ?_
  refine E_aloadN (pc' := 11) cx st5 d7_10 rfl rfl rfl ?_
  refine E_iloadN (pc' := 12) cx st5 d7_11 rfl rfl ?_
  refine E_iloadN (pc' := 13) cx st5 d7_12 rfl rfl ?_
  refine E_iastore (pc' := 14) (i := 5) cx st5 V5p ⟨by decide, by decide⟩ rfl (Nat.le_of_ble_eq_true rfl) g_a1 d7_13 rfl ?_
  intro T6 h6 st6 W6 V6
  have Z6 : n0 ≤ h6.size := Nat.le_trans Z5 (Keep.of_wr W6).1
  have K6 : Keep h0 h6 [a1] := K5.wr W6 (mi 0 rfl)
  have V6p : Arv Z h6 a1 kA .int (32 : Int32) [(.int (-1 : Int32)), (.int (-1 : Int32)), (.int (-1 : Int32)), (.int (-1 : Int32)), (.int (-1 : Int32)), (.int (-1 : Int32)), (.int (0 : Int32)), (.int (0 : Int32)), (.int (0 : Int32)), (.int (0 : Int32)), (.int (0 : Int32)), (.int (0 : Int32)), (.int (0 : Int32)), (.int (0 : Int32)), (.int (0 : Int32)), (.int (0 : Int32)), (.int (0 : Int32)), (.int (0 : Int32)), (.int (0 : Int32)), (.int (0 : Int32)), (.int (0 : Int32)), (.int (0 : Int32)), (.int (0 : Int32)), (.int (0 : Int32)), (.int (0 : Int32)), (.int (0 : Int32)), (.int (0 : Int32)), (.int (0 : Int32)), (.int (0 : Int32)), (.int (0 : Int32)), (.int (0 : Int32)), (.int (0 : Int32))] (.int (0 : Int32)) := V6
  refine E_iinc (pc' := 17) (L' := #[.val (.ref a1), .val (.int (-1 : Int32)), .val (.int (6 : Int32)), .val (.int (32 : Int32))]) cx st6 (1 : Int32) d7_14 rfl rfl rfl rfl ?_
  refine E_goto (pc' := 5) cx st6 d7_17 (by decide) (by decide) ?_
  refine E_iloadN (pc' := 6) cx st6 d7_5 rfl rfl ?_
  refine E_iloadN (pc' := 7) cx st6 d7_6 rfl rfl ?_
  refine E_icmp_geN (pc' := 10) cx st6 d7_7 rfl (by decide) ?_
  refine E_aloadN (pc' := 11) cx st6 d7_10 rfl rfl rfl ?_
  refine E_iloadN (pc' := 12) cx st6 d7_11 rfl rfl ?_
  refine E_iloadN (pc' := 13) cx st6 d7_12 rfl rfl ?_
  refine E_iastore (pc' := 14) (i := 6) cx st6 V6p ⟨by decide, by decide⟩ rfl (Nat.le_of_ble_eq_true rfl) g_a1 d7_13 rfl ?_
  intro T7 h7 st7 W7 V7
  have Z7 : n0 ≤ h7.size := Nat.le_trans Z6 (Keep.of_wr W7).1
  have K7 : Keep h0 h7 [a1] := K6.wr W7 (mi 0 rfl)
  have V7p : Arv Z h7 a1 kA .int (32 : Int32) [(.int (-1 : Int32)), (.int (-1 : Int32)), (.int (-1 : Int32)), (.int (-1 : Int32)), (.int (-1 : Int32)), (.int (-1 : Int32)), (.int (-1 : Int32)), (.int (0 : Int32)), (.int (0 : Int32)), (.int (0 : Int32)), (.int (0 : Int32)), (.int (0 : Int32)), (.int (0 : Int32)), (.int (0 : Int32)), (.int (0 : Int32)), (.int (0 : Int32)), (.int (0 : Int32)), (.int (0 : Int32)), (.int (0 : Int32)), (.int (0 : Int32)), (.int (0 : Int32)), (.int (0 : Int32)), (.int (0 : Int32)), (.int (0 : Int32)), (.int (0 : Int32)), (.int (0 : Int32)), (.int (0 : Int32)), (.int (0 : Int32)), (.int (0 : Int32)), (.int (0 : Int32)), (.int (0 : Int32)), (.int (0 : Int32))] (.int (0 : Int32)) := V7
  refine E_iinc (pc' := 17) (L' := #[.val (.ref a1), .val (.int (-1 : Int32)), .val (.int (7 : Int32)), .val (.int (32 : Int32))]) cx st7 (1 : Int32) d7_14 rfl rfl rfl rfl ?_
  refine E_goto (pc' := 5) cx st7 d7_17 (by decide) (by decide) ?_
  refine E_iloadN (pc' := 6) cx st7 d7_5 rfl rfl ?_
  refine E_iloadN (pc' := 7) cx st7 d7_6 rfl rfl ?_
  refine E_icmp_geN (pc' := 10) cx st7 d7_7 rfl (by decide) ?_
  refine E_aloadN (pc' := 11) cx st7 d7_10 rfl rfl rfl ?_
  refine E_iloadN (pc' := 12) cx st7 d7_11 rfl rfl ?_
  refine E_iloadN (pc' := 13) cx st7 d7_12 rfl rfl ?_
  refine E_iastore (pc' := 14) (i := 7) cx st7 V7p ⟨by decide, by decide⟩ rfl (Nat.le_of_ble_eq_true rfl) g_a1 d7_13 rfl ?_
  intro T8 h8 st8 W8 V8
  have Z8 : n0 ≤ h8.size := Nat.le_trans Z7 (Keep.of_wr W8).1
  have K8 : Keep h0 h8 [a1] := K7.wr W8 (mi 0 rfl)
  have V8p : Arv Z h8 a1 kA .int (32 : Int32) [(.int (-1 : Int32)), (.int (-1 : Int32)), (.int (-1 : Int32)), (.int (-1 : Int32)), (.int (-1 : Int32)), (.int (-1 : Int32)), (.int (-1 : Int32)), (.int (-1 : Int32)), (.int (0 : Int32)), (.int (0 : Int32)), (.int (0 : Int32)), (.int (0 : Int32)), (.int (0 : Int32)), (.int (0 : Int32)), (.int (0 : Int32)), (.int (0 : Int32)), (.int (0 : Int32)), (.int (0 : Int32)), (.int (0 : Int32)), (.int (0 : Int32)), (.int (0 : Int32)), (.int (0 : Int32)), (.int (0 : Int32)), (.int (0 : Int32)), (.int (0 : Int32)), (.int (0 : Int32)), (.int (0 : Int32)), (.int (0 : Int32)), (.int (0 : Int32)), (.int (0 : Int32)), (.int (0 : Int32)), (.int (0 : Int32))] (.int (0 : Int32)) := V8
  refine E_iinc (pc' := 17) (L' := #[.val (.ref a1), .val (.int (-1 : Int32)), .val (.int (8 : Int32)), .val (.int (32 : Int32))]) cx st8 (1 : Int32) d7_14 rfl rfl rfl rfl ?_
  refine E_goto (pc' := 5) cx st8 d7_17 (by decide) (by decide) ?_
  refine E_iloadN (pc' := 6) cx st8 d7_5 rfl rfl ?_
  refine E_iloadN (pc' := 7) cx st8 d7_6 rfl rfl ?_
  refine E_icmp_geN (pc' := 10) cx st8 d7_7 rfl (by decide) ?_
  refine E_aloadN (pc' := 11) cx st8 d7_10 rfl rfl rfl ?_
  refine E_iloadN (pc' := 12) cx st8 d7_11 rfl rfl ?_
  refine E_iloadN (pc' := 13) cx st8 d7_12 rfl rfl ?_
  refine E_iastore (pc' := 14) (i := 8) cx st8 V8p ⟨by decide, by decide⟩ rfl (Nat.le_of_ble_eq_true rfl) g_a1 d7_13 rfl ?_
  intro T9 h9 st9 W9 V9
  have Z9 : n0 ≤ h9.size := Nat.le_trans Z8 (Keep.of_wr W9).1
  have K9 : Keep h0 h9 [a1] := K8.wr W9 (mi 0 rfl)
  have V9p : Arv Z h9 a1 kA .int (32 : Int32) [(.int (-1 : Int32)), (.int (-1 : Int32)), (.int (-1 : Int32)), (.int (-1 : Int32)), (.int (-1 : Int32)), (.int (-1 : Int32)), (.int (-1 : Int32)), (.int (-1 : Int32)), (.int (-1 : Int32)), (.int (0 : Int32)), (.int (0 : Int32)), (.int (0 : Int32)), (.int (0 : Int32)), (.int (0 : Int32)), (.int (0 : Int32)), (.int (0 : Int32)), (.int (0 : Int32)), (.int (0 : Int32)), (.int (0 : Int32)), (.int (0 : Int32)), (.int (0 : Int32)), (.int (0 : Int32)), (.int (0 : Int32)), (.int (0 : Int32)), (.int (0 : Int32)), (.int (0 : Int32)), (.int (0 : Int32)), (.int (0 : Int32)), (.int (0 : Int32)), (.int (0 : Int32)), (.int (0 : Int32)), (.int (0 : Int32))] (.int (0 : Int32)) := V9
  refine E_iinc (pc' := 17) (L' := #[.val (.ref a1), .val (.int (-1 : Int32)), .val (.int (9 : Int32)), .val (.int (32 : Int32))]) cx st9 (1 : Int32) d7_14 rfl rfl rfl rfl ?_
  refine E_goto (pc' := 5) cx st9 d7_17 (by decide) (by decide) ?_
  refine E_iloadN (pc' := 6) cx st9 d7_5 rfl rfl ?_
  refine E_iloadN (pc' := 7) cx st9 d7_6 rfl rfl ?_
  refine E_icmp_geN (pc' := 10) cx st9 d7_7 rfl (by decide) ?_
  refine E_aloadN (pc' := 11) cx st9 d7_10 rfl rfl rfl ?_
  refine E_iloadN (pc' := 12) cx st9 d7_11 rfl rfl ?_
  refine E_iloadN (pc' := 13) cx st9 d7_12 rfl rfl ?_
  refine E_iastore (pc' := 14) (i := 9) cx st9 V9p ⟨by decide, by decide⟩ rfl (Nat.le_of_ble_eq_true rfl) g_a1 d7_13 rfl ?_
  intro T10 h10 st10 W10 V10
  have Z10 : n0 ≤ h10.size := Nat.le_trans Z9 (Keep.of_wr W10).1
  have K10 : Keep h0 h10 [a1] := K9.wr W10 (mi 0 rfl)
  have V10p : Arv Z h10 a1 kA .int (32 : Int32) [(.int (-1 : Int32)), (.int (-1 : Int32)), (.int (-1 : Int32)), (.int (-1 : Int32)), (.int (-1 : Int32)), (.int (-1 : Int32)), (.int (-1 : Int32)), (.int (-1 : Int32)), (.int (-1 : Int32)), (.int (-1 : Int32)), (.int (0 : Int32)), (.int (0 : Int32)), (.int (0 : Int32)), (.int (0 : Int32)), (.int (0 : Int32)), (.int (0 : Int32)), (.int (0 : Int32)), (.int (0 : Int32)), (.int (0 : Int32)), (.int (0 : Int32)), (.int (0 : Int32)), (.int (0 : Int32)), (.int (0 : Int32)), (.int (0 : Int32)), (.int (0 : Int32)), (.int (0 : Int32)), (.int (0 : Int32)), (.int (0 : Int32)), (.int (0 : Int32)), (.int (0 : Int32)), (.int (0 : Int32)), (.int (0 : Int32))] (.int (0 : Int32)) := V10
  refine E_iinc (pc' := 17) (L' := #[.val (.ref a1), .val (.int (-1 : Int32)), .val (.int (10 : Int32)), .val (.int (32 : Int32))]) cx st10 (1 : Int32) d7_14 rfl rfl rfl rfl ?_
  refine E_goto (pc' := 5) cx st10 d7_17 (by decide) (by decide) ?_
  refine E_iloadN (pc' := 6) cx st10 d7_5 rfl rfl ?_
  refine E_iloadN (pc' := 7) cx st10 d7_6 rfl rfl ?_
  refine E_icmp_geN (pc' := 10) cx st10 d7_7 rfl (by decide) ?_
  refine E_aloadN (pc' := 11) cx st10 d7_10 rfl rfl rfl ?_
  refine E_iloadN (pc' := 12) cx st10 d7_11 rfl rfl ?_
  refine E_iloadN (pc' := 13) cx st10 d7_12 rfl rfl ?_
  refine E_iastore (pc' := 14) (i := 10) cx st10 V10p ⟨by decide, by decide⟩ rfl (Nat.le_of_ble_eq_true rfl) g_a1 d7_13 rfl ?_
  intro T11 h11 st11 W11 V11
  have Z11 : n0 ≤ h11.size := Nat.le_trans Z10 (Keep.of_wr W11).1
  have K11 : Keep h0 h11 [a1] := K10.wr W11 (mi 0 rfl)
  have V11p : Arv Z h11 a1 kA .int (32 : Int32) [(.int (-1 : Int32)), (.int (-1 : Int32)), (.int (-1 : Int32)), (.int (-1 : Int32)), (.int (-1 : Int32)), (.int (-1 : Int32)), (.int (-1 : Int32)), (.int (-1 : Int32)), (.int (-1 : Int32)), (.int (-1 : Int32)), (.int (-1 : Int32)), (.int (0 : Int32)), (.int (0 : Int32)), (.int (0 : Int32)), (.int (0 : Int32)), (.int (0 : Int32)), (.int (0 : Int32)), (.int (0 : Int32)), (.int (0 : Int32)), (.int (0 : Int32)), (.int (0 : Int32)), (.int (0 : Int32)), (.int (0 : Int32)), (.int (0 : Int32)), (.int (0 : Int32)), (.int (0 : Int32)), (.int (0 : Int32)), (.int (0 : Int32)), (.int (0 : Int32)), (.int (0 : Int32)), (.int (0 : Int32)), (.int (0 : Int32))] (.int (0 : Int32)) := V11
  refine E_iinc (pc' := 17) (L' := #[.val (.ref a1), .val (.int (-1 : Int32)), .val (.int (11 : Int32)), .val (.int (32 : Int32))]) cx st11 (1 : Int32) d7_14 rfl rfl rfl rfl ?_
  refine E_goto (pc' := 5) cx st11 d7_17 (by decide) (by decide) ?_
  refine E_iloadN (pc' := 6) cx st11 d7_5 rfl rfl ?_
  refine E_iloadN (pc' := 7) cx st11 d7_6 rfl rfl ?_
  refine E_icmp_geN (pc' := 10) cx st11 d7_7 rfl (by decide) ?_
  refine E_aloadN (pc' := 11) cx st11 d7_10 rfl rfl rfl ?_
  refine E_iloadN (pc' := 12) cx st11 d7_11 rfl rfl ?_
  refine E_iloadN (pc' := 13) cx st11 d7_12 rfl rfl ?_
  refine E_iastore (pc' := 14) (i := 11) cx st11 V11p ⟨by decide, by decide⟩ rfl (Nat.le_of_ble_eq_true rfl) g_a1 d7_13 rfl ?_
  intro T12 h12 st12 W12 V12
  have Z12 : n0 ≤ h12.size := Nat.le_trans Z11 (Keep.of_wr W12).1
  have K12 : Keep h0 h12 [a1] := K11.wr W12 (mi 0 rfl)
  have V12p : Arv Z h12 a1 kA .int (32 : Int32) [(.int (-1 : Int32)), (.int (-1 : Int32)), (.int (-1 : Int32)), (.int (-1 : Int32)), (.int (-1 : Int32)), (.int (-1 : Int32)), (.int (-1 : Int32)), (.int (-1 : Int32)), (.int (-1 : Int32)), (.int (-1 : Int32)), (.int (-1 : Int32)), (.int (-1 : Int32)), (.int (0 : Int32)), (.int (0 : Int32)), (.int (0 : Int32)), (.int (0 : Int32)), (.int (0 : Int32)), (.int (0 : Int32)), (.int (0 : Int32)), (.int (0 : Int32)), (.int (0 : Int32)), (.int (0 : Int32)), (.int (0 : Int32)), (.int (0 : Int32)), (.int (0 : Int32)), (.int (0 : Int32)), (.int (0 : Int32)), (.int (0 : Int32)), (.int (0 : Int32)), (.int (0 : Int32)), (.int (0 : Int32)), (.int (0 : Int32))] (.int (0 : Int32)) := V12
  refine E_iinc (pc' := 17) (L' := #[.val (.ref a1), .val (.int (-1 : Int32)), .val (.int (12 : Int32)), .val (.int (32 : Int32))]) cx st12 (1 : Int32) d7_14 rfl rfl rfl rfl ?_
  refine E_goto (pc' := 5) cx st12 d7_17 (by decide) (by decide) ?_
  refine E_iloadN (pc' := 6) cx st12 d7_5 rfl rfl ?_
  refine E_iloadN (pc' := 7) cx st12 d7_6 rfl rfl ?_
  refine E_icmp_geN (pc' := 10) cx st12 d7_7 rfl (by decide) ?_
  refine E_aloadN (pc' := 11) cx st12 d7_10 rfl rfl rfl ?_
  refine E_iloadN (pc' := 12) cx st12 d7_11 rfl rfl ?_
  refine E_iloadN (pc' := 13) cx st12 d7_12 rfl rfl ?_
  refine E_iastore (pc' := 14) (i := 12) cx st12 V12p ⟨by decide, by decide⟩ rfl (Nat.le_of_ble_eq_true rfl) g_a1 d7_13 rfl ?_
  intro T13 h13 st13 W13 V13
  have Z13 : n0 ≤ h13.size := Nat.le_trans Z12 (Keep.of_wr W13).1
  have K13 : Keep h0 h13 [a1] := K12.wr W13 (mi 0 rfl)
  have V13p : Arv Z h13 a1 kA .int (32 : Int32) [(.int (-1 : Int32)), (.int (-1 : Int32)), (.int (-1 : Int32)), (.int (-1 : Int32)), (.int (-1 : Int32)), (.int (-1 : Int32)), (.int (-1 : Int32)), (.int (-1 : Int32)), (.int (-1 : Int32)), (.int (-1 : Int32)), (.int (-1 : Int32)), (.int (-1 : Int32)), (.int (-1 : Int32)), (.int (0 : Int32)), (.int (0 : Int32)), (.int (0 : Int32)), (.int (0 : Int32)), (.int (0 : Int32)), (.int (0 : Int32)), (.int (0 : Int32)), (.int (0 : Int32)), (.int (0 : Int32)), (.int (0 : Int32)), (.int (0 : Int32)), (.int (0 : Int32)), (.int (0 : Int32)), (.int (0 : Int32)), (.int (0 : Int32)), (.int (0 : Int32)), (.int (0 : Int32)), (.int (0 : Int32)), (.int (0 : Int32))] (.int (0 : Int32)) := V13
  refine E_iinc (pc' := 17) (L' := #[.val (.ref a1), .val (.int (-1 : Int32)), .val (.int (13 : Int32)), .val (.int (32 : Int32))]) cx st13 (1 : Int32) d7_14 rfl rfl rfl rfl ?_
  refine E_goto (pc' := 5) cx st13 d7_17 (by decide) (by decide) ?_
  refine E_iloadN (pc' := 6) cx st13 d7_5 rfl rfl ?_
  refine E_iloadN (pc' := 7) cx st13 d7_6 rfl rfl ?_
  refine E_icmp_geN (pc' := 10) cx st13 d7_7 rfl (by decide) ?_
  refine E_aloadN (pc' := 11) cx st13 d7_10 rfl rfl rfl ?_
  refine E_iloadN (pc' := 12) cx st13 d7_11 rfl rfl ?_
  refine E_iloadN (pc' := 13) cx st13 d7_12 rfl rfl ?_
  refine E_iastore (pc' := 14) (i := 13) cx st13 V13p ⟨by decide, by decide⟩ rfl (Nat.le_of_ble_eq_true rfl) g_a1 d7_13 rfl ?_
  intro T14 h14 st14 W14 V14
  have Z14 : n0 ≤ h14.size := Nat.le_trans Z13 (Keep.of_wr W14).1
  have K14 : Keep h0 h14 [a1] := K13.wr W14 (mi 0 rfl)
  have V14p : Arv Z h14 a1 kA .int (32 : Int32) [(.int (-1 : Int32)), (.int (-1 : Int32)), (.int (-1 : Int32)), (.int (-1 : Int32)), (.int (-1 : Int32)), (.int (-1 : Int32)), (.int (-1 : Int32)), (.int (-1 : Int32)), (.int (-1 : Int32)), (.int (-1 : Int32)), (.int (-1 : Int32)), (.int (-1 : Int32)), (.int (-1 : Int32)), (.int (-1 : Int32)), (.int (0 : Int32)), (.int (0 : Int32)), (.int (0 : Int32)), (.int (0 : Int32)), (.int (0 : Int32)), (.int (0 : Int32)), (.int (0 : Int32)), (.int (0 : Int32)), (.int (0 : Int32)), (.int (0 : Int32)), (.int (0 : Int32)), (.int (0 : Int32)), (.int (0 : Int32)), (.int (0 : Int32)), (.int (0 : Int32)), (.int (0 : Int32)), (.int (0 : Int32)), (.int (0 : Int32))] (.int (0 : Int32)) := V14
  refine E_iinc (pc' := 17) (L' := #[.val (.ref a1), .val (.int (-1 : Int32)), .val (.int (14 : Int32)), .val (.int (32 : Int32))]) cx st14 (1 : Int32) d7_14 rfl rfl rfl rfl ?_
  refine E_goto (pc' := 5) cx st14 d7_17 (by decide) (by decide) ?_
  refine E_iloadN (pc' := 6) cx st14 d7_5 rfl rfl ?_
  refine E_iloadN (pc' := 7) cx st14 d7_6 rfl rfl ?_
  refine E_icmp_geN (pc' := 10) cx st14 d7_7 rfl (by decide) ?_
  refine E_aloadN (pc' := 11) cx st14 d7_10 rfl rfl rfl ?_
  refine E_iloadN (pc' := 12) cx st14 d7_11 rfl rfl ?_
  refine E_iloadN (pc' := 13) cx st14 d7_12 rfl rfl ?_
  refine E_iastore (pc' := 14) (i := 14) cx st14 V14p ⟨by decide, by decide⟩ rfl (Nat.le_of_ble_eq_true rfl) g_a1 d7_13 rfl ?_
  intro T15 h15 st15 W15 V15
  have Z15 : n0 ≤ h15.size := Nat.le_trans Z14 (Keep.of_wr W15).1
  have K15 : Keep h0 h15 [a1] := K14.wr W15 (mi 0 rfl)
  have V15p : Arv Z h15 a1 kA .int (32 : Int32) [(.int (-1 : Int32)), (.int (-1 : Int32)), (.int (-1 : Int32)), (.int (-1 : Int32)), (.int (-1 : Int32)), (.int (-1 : Int32)), (.int (-1 : Int32)), (.int (-1 : Int32)), (.int (-1 : Int32)), (.int (-1 : Int32)), (.int (-1 : Int32)), (.int (-1 : Int32)), (.int (-1 : Int32)), (.int (-1 : Int32)), (.int (-1 : Int32)), (.int (0 : Int32)), (.int (0 : Int32)), (.int (0 : Int32)), (.int (0 : Int32)), (.int (0 : Int32)), (.int (0 : Int32)), (.int (0 : Int32)), (.int (0 : Int32)), (.int (0 : Int32)), (.int (0 : Int32)), (.int (0 : Int32)), (.int (0 : Int32)), (.int (0 : Int32)), (.int (0 : Int32)), (.int (0 : Int32)), (.int (0 : Int32)), (.int (0 : Int32))] (.int (0 : Int32)) := V15
  refine E_iinc (pc' := 17) (L' := #[.val (.ref a1), .val (.int (-1 : Int32)), .val (.int (15 : Int32)), .val (.int (32 : Int32))]) cx st15 (1 : Int32) d7_14 rfl rfl rfl rfl ?_
  refine E_goto (pc' := 5) cx st15 d7_17 (by decide) (by decide) ?_
  refine E_iloadN (pc' := 6) cx st15 d7_5 rfl rfl ?_
  refine E_iloadN (pc' := 7) cx st15 d7_6 rfl rfl ?_
  refine E_icmp_geN (pc' := 10) cx st15 d7_7 rfl (by decide) ?_
  refine E_aloadN (pc' := 11) cx st15 d7_10 rfl rfl rfl ?_
  refine E_iloadN (pc' := 12) cx st15 d7_11 rfl rfl ?_
  refine E_iloadN (pc' := 13) cx st15 d7_12 rfl rfl ?_
  refine E_iastore (pc' := 14) (i := 15) cx st15 V15p ⟨by decide, by decide⟩ rfl (Nat.le_of_ble_eq_true rfl) g_a1 d7_13 rfl ?_
  intro T16 h16 st16 W16 V16
  have Z16 : n0 ≤ h16.size := Nat.le_trans Z15 (Keep.of_wr W16).1
  have K16 : Keep h0 h16 [a1] := K15.wr W16 (mi 0 rfl)
  have V16p : Arv Z h16 a1 kA .int (32 : Int32) [(.int (-1 : Int32)), (.int (-1 : Int32)), (.int (-1 : Int32)), (.int (-1 : Int32)), (.int (-1 : Int32)), (.int (-1 : Int32)), (.int (-1 : Int32)), (.int (-1 : Int32)), (.int (-1 : Int32)), (.int (-1 : Int32)), (.int (-1 : Int32)), (.int (-1 : Int32)), (.int (-1 : Int32)), (.int (-1 : Int32)), (.int (-1 : Int32)), (.int (-1 : Int32)), (.int (0 : Int32)), (.int (0 : Int32)), (.int (0 : Int32)), (.int (0 : Int32)), (.int (0 : Int32)), (.int (0 : Int32)), (.int (0 : Int32)), (.int (0 : Int32)), (.int (0 : Int32)), (.int (0 : Int32)), (.int (0 : Int32)), (.int (0 : Int32)), (.int (0 : Int32)), (.int (0 : Int32)), (.int (0 : Int32)), (.int (0 : Int32))] (.int (0 : Int32)) := V16
  refine E_iinc (pc' := 17) (L' := #[.val (.ref a1), .val (.int (-1 : Int32)), .val (.int (16 : Int32)), .val (.int (32 : Int32))]) cx st16 (1 : Int32) d7_14 rfl rfl rfl rfl ?_
  refine E_goto (pc' := 5) cx st16 d7_17 (by decide) (by decide) ?_
  refine E_iloadN (pc' := 6) cx st16 d7_5 rfl rfl ?_
  refine E_iloadN (pc' := 7) cx st16 d7_6 rfl rfl ?_
  refine E_icmp_geN (pc' := 10) cx st16 d7_7 rfl (by decide) ?_
  refine E_aloadN (pc' := 11) cx st16 d7_10 rfl rfl rfl ?_
  refine E_iloadN (pc' := 12) cx st16 d7_11 rfl rfl ?_
  refine E_iloadN (pc' := 13) cx st16 d7_12 rfl rfl ?_
  refine E_iastore (pc' := 14) (i := 16) cx st16 V16p ⟨by decide, by decide⟩ rfl (Nat.le_of_ble_eq_true rfl) g_a1 d7_13 rfl ?_
  intro T17 h17 st17 W17 V17
  have Z17 : n0 ≤ h17.size := Nat.le_trans Z16 (Keep.of_wr W17).1
  have K17 : Keep h0 h17 [a1] := K16.wr W17 (mi 0 rfl)
  have V17p : Arv Z h17 a1 kA .int (32 : Int32) [(.int (-1 : Int32)), (.int (-1 : Int32)), (.int (-1 : Int32)), (.int (-1 : Int32)), (.int (-1 : Int32)), (.int (-1 : Int32)), (.int (-1 : Int32)), (.int (-1 : Int32)), (.int (-1 : Int32)), (.int (-1 : Int32)), (.int (-1 : Int32)), (.int (-1 : Int32)), (.int (-1 : Int32)), (.int (-1 : Int32)), (.int (-1 : Int32)), (.int (-1 : Int32)), (.int (-1 : Int32)), (.int (0 : Int32)), (.int (0 : Int32)), (.int (0 : Int32)), (.int (0 : Int32)), (.int (0 : Int32)), (.int (0 : Int32)), (.int (0 : Int32)), (.int (0 : Int32)), (.int (0 : Int32)), (.int (0 : Int32)), (.int (0 : Int32)), (.int (0 : Int32)), (.int (0 : Int32)), (.int (0 : Int32)), (.int (0 : Int32))] (.int (0 : Int32)) := V17
  refine E_iinc (pc' := 17) (L' := #[.val (.ref a1), .val (.int (-1 : Int32)), .val (.int (17 : Int32)), .val (.int (32 : Int32))]) cx st17 (1 : Int32) d7_14 rfl rfl rfl rfl ?_
  refine E_goto (pc' := 5) cx st17 d7_17 (by decide) (by decide) ?_
  refine E_iloadN (pc' := 6) cx st17 d7_5 rfl rfl ?_
  refine E_iloadN (pc' := 7) cx st17 d7_6 rfl rfl ?_
  refine E_icmp_geN (pc' := 10) cx st17 d7_7 rfl (by decide) ?_
  refine E_aloadN (pc' := 11) cx st17 d7_10 rfl rfl rfl ?_
  refine E_iloadN (pc' := 12) cx st17 d7_11 rfl rfl ?_
  refine E_iloadN (pc' := 13) cx st17 d7_12 rfl rfl ?_
  refine E_iastore (pc' := 14) (i := 17) cx st17 V17p ⟨by decide, by decide⟩ rfl (Nat.le_of_ble_eq_true rfl) g_a1 d7_13 rfl ?_
  intro T18 h18 st18 W18 V18
  have Z18 : n0 ≤ h18.size := Nat.le_trans Z17 (Keep.of_wr W18).1
  have K18 : Keep h0 h18 [a1] := K17.wr W18 (mi 0 rfl)
  have V18p : Arv Z h18 a1 kA .int (32 : Int32) [(.int (-1 : Int32)), (.int (-1 : Int32)), (.int (-1 : Int32)), (.int (-1 : Int32)), (.int (-1 : Int32)), (.int (-1 : Int32)), (.int (-1 : Int32)), (.int (-1 : Int32)), (.int (-1 : Int32)), (.int (-1 : Int32)), (.int (-1 : Int32)), (.int (-1 : Int32)), (.int (-1 : Int32)), (.int (-1 : Int32)), (.int (-1 : Int32)), (.int (-1 : Int32)), (.int (-1 : Int32)), (.int (-1 : Int32)), (.int (0 : Int32)), (.int (0 : Int32)), (.int (0 : Int32)), (.int (0 : Int32)), (.int (0 : Int32)), (.int (0 : Int32)), (.int (0 : Int32)), (.int (0 : Int32)), (.int (0 : Int32)), (.int (0 : Int32)), (.int (0 : Int32)), (.int (0 : Int32)), (.int (0 : Int32)), (.int (0 : Int32))] (.int (0 : Int32)) := V18
  refine E_iinc (pc' := 17) (L' := #[.val (.ref a1), .val (.int (-1 : Int32)), .val (.int (18 : Int32)), .val (.int (32 : Int32))]) cx st18 (1 : Int32) d7_14 rfl rfl rfl rfl ?_
  refine E_goto (pc' := 5) cx st18 d7_17 (by decide) (by decide) ?_
  refine E_iloadN (pc' := 6) cx st18 d7_5 rfl rfl ?_
  refine E_iloadN (pc' := 7) cx st18 d7_6 rfl rfl ?_
  refine E_icmp_geN (pc' := 10) cx st18 d7_7 rfl (by decide) ?_
  refine E_aloadN (pc' := 11) cx st18 d7_10 rfl rfl rfl ?_
  refine E_iloadN (pc' := 12) cx st18 d7_11 rfl rfl ?_
  refine E_iloadN (pc' := 13) cx st18 d7_12 rfl rfl ?_
  refine E_iastore (pc' := 14) (i := 18) cx st18 V18p ⟨by decide, by decide⟩ rfl (Nat.le_of_ble_eq_true rfl) g_a1 d7_13 rfl ?_
  intro T19 h19 st19 W19 V19
  have Z19 : n0 ≤ h19.size := Nat.le_trans Z18 (Keep.of_wr W19).1
  have K19 : Keep h0 h19 [a1] := K18.wr W19 (mi 0 rfl)
  have V19p : Arv Z h19 a1 kA .int (32 : Int32) [(.int (-1 : Int32)), (.int (-1 : Int32)), (.int (-1 : Int32)), (.int (-1 : Int32)), (.int (-1 : Int32)), (.int (-1 : Int32)), (.int (-1 : Int32)), (.int (-1 : Int32)), (.int (-1 : Int32)), (.int (-1 : Int32)), (.int (-1 : Int32)), (.int (-1 : Int32)), (.int (-1 : Int32)), (.int (-1 : Int32)), (.int (-1 : Int32)), (.int (-1 : Int32)), (.int (-1 : Int32)), (.int (-1 : Int32)), (.int (-1 : Int32)), (.int (0 : Int32)), (.int (0 : Int32)), (.int (0 : Int32)), (.int (0 : Int32)), (.int (0 : Int32)), (.int (0 : Int32)), (.int (0 : Int32)), (.int (0 : Int32)), (.int (0 : Int32)), (.int (0 : Int32)), (.int (0 : Int32)), (.int (0 : Int32)), (.int (0 : Int32))] (.int (0 : Int32)) := V19
  refine E_iinc (pc' := 17) (L' := #[.val (.ref a1), .val (.int (-1 : Int32)), .val (.int (19 : Int32)), .val (.int (32 : Int32))]) cx st19 (1 : Int32) d7_14 rfl rfl rfl rfl ?_
  refine E_goto (pc' := 5) cx st19 d7_17 (by decide) (by decide) ?_
  refine E_iloadN (pc' := 6) cx st19 d7_5 rfl rfl ?_
  refine E_iloadN (pc' := 7) cx st19 d7_6 rfl rfl ?_
  refine E_icmp_geN (pc' := 10) cx st19 d7_7 rfl (by decide) ?_
  refine E_aloadN (pc' := 11) cx st19 d7_10 rfl rfl rfl ?_
  refine E_iloadN (pc' := 12) cx st19 d7_11 rfl rfl ?_
  refine E_iloadN (pc' := 13) cx st19 d7_12 rfl rfl ?_
  refine E_iastore (pc' := 14) (i := 19) cx st19 V19p ⟨by decide, by decide⟩ rfl (Nat.le_of_ble_eq_true rfl) g_a1 d7_13 rfl ?_
  intro T20 h20 st20 W20 V20
  have Z20 : n0 ≤ h20.size := Nat.le_trans Z19 (Keep.of_wr W20).1
  have K20 : Keep h0 h20 [a1] := K19.wr W20 (mi 0 rfl)
  have V20p : Arv Z h20 a1 kA .int (32 : Int32) [(.int (-1 : Int32)), (.int (-1 : Int32)), (.int (-1 : Int32)), (.int (-1 : Int32)), (.int (-1 : Int32)), (.int (-1 : Int32)), (.int (-1 : Int32)), (.int (-1 : Int32)), (.int (-1 : Int32)), (.int (-1 : Int32)), (.int (-1 : Int32)), (.int (-1 : Int32)), (.int (-1 : Int32)), (.int (-1 : Int32)), (.int (-1 : Int32)), (.int (-1 : Int32)), (.int (-1 : Int32)), (.int (-1 : Int32)), (.int (-1 : Int32)), (.int (-1 : Int32)), (.int (0 : Int32)), (.int (0 : Int32)), (.int (0 : Int32)), (.int (0 : Int32)), (.int (0 : Int32)), (.int (0 : Int32)), (.int (0 : Int32)), (.int (0 : Int32)), (.int (0 : Int32)), (.int (0 : Int32)), (.int (0 : Int32)), (.int (0 : Int32))] (.int (0 : Int32)) := V20
  refine E_iinc (pc' := 17) (L' := #[.val (.ref a1), .val (.int (-1 : Int32)), .val (.int (20 : Int32)), .val (.int (32 : Int32))]) cx st20 (1 : Int32) d7_14 rfl rfl rfl rfl ?_
  refine E_goto (pc' := 5) cx st20 d7_17 (by decide) (by decide) ?_
  refine E_iloadN (pc' := 6) cx st20 d7_5 rfl rfl ?_
  refine E_iloadN (pc' := 7) cx st20 d7_6 rfl rfl ?_
  refine E_icmp_geN (pc' := 10) cx st20 d7_7 rfl (by decide) ?_
  refine E_aloadN (pc' := 11) cx st20 d7_10 rfl rfl rfl ?_
  refine E_iloadN (pc' := 12) cx st20 d7_11 rfl rfl ?_
  refine E_iloadN (pc' := 13) cx st20 d7_12 rfl rfl ?_
  refine E_iastore (pc' := 14) (i := 20) cx st20 V20p ⟨by decide, by decide⟩ rfl (Nat.le_of_ble_eq_true rfl) g_a1 d7_13 rfl ?_
  intro T21 h21 st21 W21 V21
  have Z21 : n0 ≤ h21.size := Nat.le_trans Z20 (Keep.of_wr W21).1
  have K21 : Keep h0 h21 [a1] := K20.wr W21 (mi 0 rfl)
  have V21p : Arv Z h21 a1 kA .int (32 : Int32) [(.int (-1 : Int32)), (.int (-1 : Int32)), (.int (-1 : Int32)), (.int (-1 : Int32)), (.int (-1 : Int32)), (.int (-1 : Int32)), (.int (-1 : Int32)), (.int (-1 : Int32)), (.int (-1 : Int32)), (.int (-1 : Int32)), (.int (-1 : Int32)), (.int (-1 : Int32)), (.int (-1 : Int32)), (.int (-1 : Int32)), (.int (-1 : Int32)), (.int (-1 : Int32)), (.int (-1 : Int32)), (.int (-1 : Int32)), (.int (-1 : Int32)), (.int (-1 : Int32)), (.int (-1 : Int32)), (.int (0 : Int32)), (.int (0 : Int32)), (.int (0 : Int32)), (.int (0 : Int32)), (.int (0 : Int32)), (.int (0 : Int32)), (.int (0 : Int32)), (.int (0 : Int32)), (.int (0 : Int32)), (.int (0 : Int32)), (.int (0 : Int32))] (.int (0 : Int32)) := V21
  refine E_iinc (pc' := 17) (L' := #[.val (.ref a1), .val (.int (-1 : Int32)), .val (.int (21 : Int32)), .val (.int (32 : Int32))]) cx st21 (1 : Int32) d7_14 rfl rfl rfl rfl ?_
  refine E_goto (pc' := 5) cx st21 d7_17 (by decide) (by decide) ?_
  refine E_iloadN (pc' := 6) cx st21 d7_5 rfl rfl ?_
  refine E_iloadN (pc' := 7) cx st21 d7_6 rfl rfl ?_
  refine E_icmp_geN (pc' := 10) cx st21 d7_7 rfl (by decide) ?_
  refine E_aloadN (pc' := 11) cx st21 d7_10 rfl rfl rfl ?_
  refine E_iloadN (pc' := 12) cx st21 d7_11 rfl rfl ?_
  refine E_iloadN (pc' := 13) cx st21 d7_12 rfl rfl ?_
  refine E_iastore (pc' := 14) (i := 21) cx st21 V21p ⟨by decide, by decide⟩ rfl (Nat.le_of_ble_eq_true rfl) g_a1 d7_13 rfl ?_
  intro T22 h22 st22 W22 V22
  have Z22 : n0 ≤ h22.size := Nat.le_trans Z21 (Keep.of_wr W22).1
  have K22 : Keep h0 h22 [a1] := K21.wr W22 (mi 0 rfl)
  have V22p : Arv Z h22 a1 kA .int (32 : Int32) [(.int (-1 : Int32)), (.int (-1 : Int32)), (.int (-1 : Int32)), (.int (-1 : Int32)), (.int (-1 : Int32)), (.int (-1 : Int32)), (.int (-1 : Int32)), (.int (-1 : Int32)), (.int (-1 : Int32)), (.int (-1 : Int32)), (.int (-1 : Int32)), (.int (-1 : Int32)), (.int (-1 : Int32)), (.int (-1 : Int32)), (.int (-1 : Int32)), (.int (-1 : Int32)), (.int (-1 : Int32)), (.int (-1 : Int32)), (.int (-1 : Int32)), (.int (-1 : Int32)), (.int (-1 : Int32)), (.int (-1 : Int32)), (.int (0 : Int32)), (.int (0 : Int32)), (.int (0 : Int32)), (.int (0 : Int32)), (.int (0 : Int32)), (.int (0 : Int32)), (.int (0 : Int32)), (.int (0 : Int32)), (.int (0 : Int32)), (.int (0 : Int32))] (.int (0 : Int32)) := V22
  refine E_iinc (pc' := 17) (L' := #[.val (.ref a1), .val (.int (-1 : Int32)), .val (.int (22 : Int32)), .val (.int (32 : Int32))]) cx st22 (1 : Int32) d7_14 rfl rfl rfl rfl ?_
  refine E_goto (pc' := 5) cx st22 d7_17 (by decide) (by decide) ?_
  refine E_iloadN (pc' := 6) cx st22 d7_5 rfl rfl ?_
  refine E_iloadN (pc' := 7) cx st22 d7_6 rfl rfl ?_
  refine E_icmp_geN (pc' := 10) cx st22 d7_7 rfl (by decide) ?_
  refine E_aloadN (pc' := 11) cx st22 d7_10 rfl rfl rfl ?_
  refine E_iloadN (pc' := 12) cx st22 d7_11 rfl rfl ?_
  refine E_iloadN (pc' := 13) cx st22 d7_12 rfl rfl ?_
  refine E_iastore (pc' := 14) (i := 22) cx st22 V22p ⟨by decide, by decide⟩ rfl (Nat.le_of_ble_eq_true rfl) g_a1 d7_13 rfl ?_
  intro T23 h23 st23 W23 V23
  have Z23 : n0 ≤ h23.size := Nat.le_trans Z22 (Keep.of_wr W23).1
  have K23 : Keep h0 h23 [a1] := K22.wr W23 (mi 0 rfl)
  have V23p : Arv Z h23 a1 kA .int (32 : Int32) [(.int (-1 : Int32)), (.int (-1 : Int32)), (.int (-1 : Int32)), (.int (-1 : Int32)), (.int (-1 : Int32)), (.int (-1 : Int32)), (.int (-1 : Int32)), (.int (-1 : Int32)), (.int (-1 : Int32)), (.int (-1 : Int32)), (.int (-1 : Int32)), (.int (-1 : Int32)), (.int (-1 : Int32)), (.int (-1 : Int32)), (.int (-1 : Int32)), (.int (-1 : Int32)), (.int (-1 : Int32)), (.int (-1 : Int32)), (.int (-1 : Int32)), (.int (-1 : Int32)), (.int (-1 : Int32)), (.int (-1 : Int32)), (.int (-1 : Int32)), (.int (0 : Int32)), (.int (0 : Int32)), (.int (0 : Int32)), (.int (0 : Int32)), (.int (0 : Int32)), (.int (0 : Int32)), (.int (0 : Int32)), (.int (0 : Int32)), (.int (0 : Int32))] (.int (0 : Int32)) := V23
  refine E_iinc (pc' := 17) (L' := #[.val (.ref a1), .val (.int (-1 : Int32)), .val (.int (23 : Int32)), .val (.int (32 : Int32))]) cx st23 (1 : Int32) d7_14 rfl rfl rfl rfl ?_
  refine E_goto (pc' := 5) cx st23 d7_17 (by decide) (by decide) ?_
  refine E_iloadN (pc' := 6) cx st23 d7_5 rfl rfl ?_
  refine E_iloadN (pc' := 7) cx st23 d7_6 rfl rfl ?_
  refine E_icmp_geN (pc' := 10) cx st23 d7_7 rfl (by decide) ?_
  refine E_aloadN (pc' := 11) cx st23 d7_10 rfl rfl rfl ?_
  refine E_iloadN (pc' := 12) cx st23 d7_11 rfl rfl ?_
  refine E_iloadN (pc' := 13) cx st23 d7_12 rfl rfl ?_
  refine E_iastore (pc' := 14) (i := 23) cx st23 V23p ⟨by decide, by decide⟩ rfl (Nat.le_of_ble_eq_true rfl) g_a1 d7_13 rfl ?_
  intro T24 h24 st24 W24 V24
  have Z24 : n0 ≤ h24.size := Nat.le_trans Z23 (Keep.of_wr W24).1
  have K24 : Keep h0 h24 [a1] := K23.wr W24 (mi 0 rfl)
  have V24p : Arv Z h24 a1 kA .int (32 : Int32) [(.int (-1 : Int32)), (.int (-1 : Int32)), (.int (-1 : Int32)), (.int (-1 : Int32)), (.int (-1 : Int32)), (.int (-1 : Int32)), (.int (-1 : Int32)), (.int (-1 : Int32)), (.int (-1 : Int32)), (.int (-1 : Int32)), (.int (-1 : Int32)), (.int (-1 : Int32)), (.int (-1 : Int32)), (.int (-1 : Int32)), (.int (-1 : Int32)), (.int (-1 : Int32)), (.int (-1 : Int32)), (.int (-1 : Int32)), (.int (-1 : Int32)), (.int (-1 : Int32)), (.int (-1 : Int32)), (.int (-1 : Int32)), (.int (-1 : Int32)), (.int (-1 : Int32)), (.int (0 : Int32)), (.int (0 : Int32)), (.int (0 : Int32)), (.int (0 : Int32)), (.int (0 : Int32)), (.int (0 : Int32)), (.int (0 : Int32)), (.int (0 : Int32))] (.int (0 : Int32)) := V24
  refine E_iinc (pc' := 17) (L' := #[.val (.ref a1), .val (.int (-1 : Int32)), .val (.int (24 : Int32)), .val (.int (32 : Int32))]) cx st24 (1 : Int32) d7_14 rfl rfl rfl rfl ?_
  refine E_goto (pc' := 5) cx st24 d7_17 (by decide) (by decide) ?_
  refine E_iloadN (pc' := 6) cx st24 d7_5 rfl rfl ?_
  refine E_iloadN (pc' := 7) cx st24 d7_6 rfl rfl ?_
  refine E_icmp_geN (pc' := 10) cx st24 d7_7 rfl (by decide) ?_
  refine E_aloadN (pc' := 11) cx st24 d7_10 rfl rfl rfl ?_
  refine E_iloadN (pc' := 12) cx st24 d7_11 rfl rfl ?_
  refine E_iloadN (pc' := 13) cx st24 d7_12 rfl rfl ?_
  refine E_iastore (pc' := 14) (i := 24) cx st24 V24p ⟨by decide, by decide⟩ rfl (Nat.le_of_ble_eq_true rfl) g_a1 d7_13 rfl ?_
  intro T25 h25 st25 W25 V25
  have Z25 : n0 ≤ h25.size := Nat.le_trans Z24 (Keep.of_wr W25).1
  have K25 : Keep h0 h25 [a1] := K24.wr W25 (mi 0 rfl)
  have V25p : Arv Z h25 a1 kA .int (32 : Int32) [(.int (-1 : Int32)), (.int (-1 : Int32)), (.int (-1 : Int32)), (.int (-1 : Int32)), (.int (-1 : Int32)), (.int (-1 : Int32)), (.int (-1 : Int32)), (.int (-1 : Int32)), (.int (-1 : Int32)), (.int (-1 : Int32)), (.int (-1 : Int32)), (.int (-1 : Int32)), (.int (-1 : Int32)), (.int (-1 : Int32)), (.int (-1 : Int32)), (.int (-1 : Int32)), (.int (-1 : Int32)), (.int (-1 : Int32)), (.int (-1 : Int32)), (.int (-1 : Int32)), (.int (-1 : Int32)), (.int (-1 : Int32)), (.int (-1 : Int32)), (.int (-1 : Int32)), (.int (-1 : Int32)), (.int (0 : Int32)), (.int (0 : Int32)), (.int (0 : Int32)), (.int (0 : Int32)), (.int (0 : Int32)), (.int (0 : Int32)), (.int (0 : Int32))] (.int (0 : Int32)) := V25
  refine E_iinc (pc' := 17) (L' := #[.val (.ref a1), .val (.int (-1 : Int32)), .val (.int (25 : Int32)), .val (.int (32 : Int32))]) cx st25 (1 : Int32) d7_14 rfl rfl rfl rfl ?_
  refine E_goto (pc' := 5) cx st25 d7_17 (by decide) (by decide) ?_
  refine E_iloadN (pc' := 6) cx st25 d7_5 rfl rfl ?_
  refine E_iloadN (pc' := 7) cx st25 d7_6 rfl rfl ?_
  refine E_icmp_geN (pc' := 10) cx st25 d7_7 rfl (by decide) ?_
  refine E_aloadN (pc' := 11) cx st25 d7_10 rfl rfl rfl ?_
  refine E_iloadN (pc' := 12) cx st25 d7_11 rfl rfl ?_
  refine E_iloadN (pc' := 13) cx st25 d7_12 rfl rfl ?_
  refine E_iastore (pc' := 14) (i := 25) cx st25 V25p ⟨by decide, by decide⟩ rfl (Nat.le_of_ble_eq_true rfl) g_a1 d7_13 rfl ?_
  intro T26 h26 st26 W26 V26
  have Z26 : n0 ≤ h26.size := Nat.le_trans Z25 (Keep.of_wr W26).1
  have K26 : Keep h0 h26 [a1] := K25.wr W26 (mi 0 rfl)
  have V26p : Arv Z h26 a1 kA .int (32 : Int32) [(.int (-1 : Int32)), (.int (-1 : Int32)), (.int (-1 : Int32)), (.int (-1 : Int32)), (.int (-1 : Int32)), (.int (-1 : Int32)), (.int (-1 : Int32)), (.int (-1 : Int32)), (.int (-1 : Int32)), (.int (-1 : Int32)), (.int (-1 : Int32)), (.int (-1 : Int32)), (.int (-1 : Int32)), (.int (-1 : Int32)), (.int (-1 : Int32)), (.int (-1 : Int32)), (.int (-1 : Int32)), (.int (-1 : Int32)), (.int (-1 : Int32)), (.int (-1 : Int32)), (.int (-1 : Int32)), (.int (-1 : Int32)), (.int (-1 : Int32)), (.int (-1 : Int32)), (.int (-1 : Int32)), (.int (-1 : Int32)), (.int (0 : Int32)), (.int (0 : Int32)), (.int (0 : Int32)), (.int (0 : Int32)), (.int (0 : Int32)), (.int (0 : Int32))] (.int (0 : Int32)) := V26
  refine E_iinc (pc' := 17) (L' := #[.val (.ref a1), .val (.int (-1 : Int32)), .val (.int (26 : Int32)), .val (.int (32 : Int32))]) cx st26 (1 : Int32) d7_14 rfl rfl rfl rfl ?_
  refine E_goto (pc' := 5) cx st26 d7_17 (by decide) (by decide) ?_
  refine E_iloadN (pc' := 6) cx st26 d7_5 rfl rfl ?_
  refine E_iloadN (pc' := 7) cx st26 d7_6 rfl rfl ?_
  refine E_icmp_geN (pc' := 10) cx st26 d7_7 rfl (by decide) ?_
  refine E_aloadN (pc' := 11) cx st26 d7_10 rfl rfl rfl ?_
  refine E_iloadN (pc' := 12) cx st26 d7_11 rfl rfl ?_
  refine E_iloadN (pc' := 13) cx st26 d7_12 rfl rfl ?_
  refine E_iastore (pc' := 14) (i := 26) cx st26 V26p ⟨by decide, by decide⟩ rfl (Nat.le_of_ble_eq_true rfl) g_a1 d7_13 rfl ?_
  intro T27 h27 st27 W27 V27
  have Z27 : n0 ≤ h27.size := Nat.le_trans Z26 (Keep.of_wr W27).1
  have K27 : Keep h0 h27 [a1] := K26.wr W27 (mi 0 rfl)
  have V27p : Arv Z h27 a1 kA .int (32 : Int32) [(.int (-1 : Int32)), (.int (-1 : Int32)), (.int (-1 : Int32)), (.int (-1 : Int32)), (.int (-1 : Int32)), (.int (-1 : Int32)), (.int (-1 : Int32)), (.int (-1 : Int32)), (.int (-1 : Int32)), (.int (-1 : Int32)), (.int (-1 : Int32)), (.int (-1 : Int32)), (.int (-1 : Int32)), (.int (-1 : Int32)), (.int (-1 : Int32)), (.int (-1 : Int32)), (.int (-1 : Int32)), (.int (-1 : Int32)), (.int (-1 : Int32)), (.int (-1 : Int32)), (.int (-1 : Int32)), (.int (-1 : Int32)), (.int (-1 : Int32)), (.int (-1 : Int32)), (.int (-1 : Int32)), (.int (-1 : Int32)), (.int (-1 : Int32)), (.int (0 : Int32)), (.int (0 : Int32)), (.int (0 : Int32)), (.int (0 : Int32)), (.int (0 : Int32))] (.int (0 : Int32)) := V27
  refine E_iinc (pc' := 17) (L' := #[.val (.ref a1), .val (.int (-1 : Int32)), .val (.int (27 : Int32)), .val (.int (32 : Int32))]) cx st27 (1 : Int32) d7_14 rfl rfl rfl rfl ?_
  refine E_goto (pc' := 5) cx st27 d7_17 (by decide) (by decide) ?_
  refine E_iloadN (pc' := 6) cx st27 d7_5 rfl rfl ?_
  refine E_iloadN (pc' := 7) cx st27 d7_6 rfl rfl ?_
  refine E_icmp_geN (pc' := 10) cx st27 d7_7 rfl (by decide) ?_
  refine E_aloadN (pc' := 11) cx st27 d7_10 rfl rfl rfl ?_
  refine E_iloadN (pc' := 12) cx st27 d7_11 rfl rfl ?_
  refine E_iloadN (pc' := 13) cx st27 d7_12 rfl rfl ?_
  refine E_iastore (pc' := 14) (i := 27) cx st27 V27p ⟨by decide, by decide⟩ rfl (Nat.le_of_ble_eq_true rfl) g_a1 d7_13 rfl ?_
  intro T28 h28 st28 W28 V28
  have Z28 : n0 ≤ h28.size := Nat.le_trans Z27 (Keep.of_wr W28).1
  have K28 : Keep h0 h28 [a1] := K27.wr W28 (mi 0 rfl)
  have V28p : Arv Z h28 a1 kA .int (32 : Int32) [(.int (-1 : Int32)), (.int (-1 : Int32)), (.int (-1 : Int32)), (.int (-1 : Int32)), (.int (-1 : Int32)), (.int (-1 : Int32)), (.int (-1 : Int32)), (.int (-1 : Int32)), (.int (-1 : Int32)), (.int (-1 : Int32)), (.int (-1 : Int32)), (.int (-1 : Int32)), (.int (-1 : Int32)), (.int (-1 : Int32)), (.int (-1 : Int32)), (.int (-1 : Int32)), (.int (-1 : Int32)), (.int (-1 : Int32)), (.int (-1 : Int32)), (.int (-1 : Int32)), (.int (-1 : Int32)), (.int (-1 : Int32)), (.int (-1 : Int32)), (.int (-1 : Int32)), (.int (-1 : Int32)), (.int (-1 : Int32)), (.int (-1 : Int32)), (.int (-1 : Int32)), (.int (0 : Int32)), (.int (0 : Int32)), (.int (0 : Int32)), (.int (0 : Int32))] (.int (0 : Int32)) := V28
  refine E_iinc (pc' := 17) (L' := #[.val (.ref a1), .val (.int (-1 : Int32)), .val (.int (28 : Int32)), .val (.int (32 : Int32))]) cx st28 (1 : Int32) d7_14 rfl rfl rfl rfl ?_
  refine E_goto (pc' := 5) cx st28 d7_17 (by decide) (by decide) ?_
  refine E_iloadN (pc' := 6) cx st28 d7_5 rfl rfl ?_
  refine E_iloadN (pc' := 7) cx st28 d7_6 rfl rfl ?_
  refine E_icmp_geN (pc' := 10) cx st28 d7_7 rfl (by decide) ?_
  refine E_aloadN (pc' := 11) cx st28 d7_10 rfl rfl rfl ?_
  refine E_iloadN (pc' := 12) cx st28 d7_11 rfl rfl ?_
  refine E_iloadN (pc' := 13) cx st28 d7_12 rfl rfl ?_
  refine E_iastore (pc' := 14) (i := 28) cx st28 V28p ⟨by decide, by decide⟩ rfl (Nat.le_of_ble_eq_true rfl) g_a1 d7_13 rfl ?_
  intro T29 h29 st29 W29 V29
  have Z29 : n0 ≤ h29.size := Nat.le_trans Z28 (Keep.of_wr W29).1
  have K29 : Keep h0 h29 [a1] := K28.wr W29 (mi 0 rfl)
  have V29p : Arv Z h29 a1 kA .int (32 : Int32) [(.int (-1 : Int32)), (.int (-1 : Int32)), (.int (-1 : Int32)), (.int (-1 : Int32)), (.int (-1 : Int32)), (.int (-1 : Int32)), (.int (-1 : Int32)), (.int (-1 : Int32)), (.int (-1 : Int32)), (.int (-1 : Int32)), (.int (-1 : Int32)), (.int (-1 : Int32)), (.int (-1 : Int32)), (.int (-1 : Int32)), (.int (-1 : Int32)), (.int (-1 : Int32)), (.int (-1 : Int32)), (.int (-1 : Int32)), (.int (-1 : Int32)), (.int (-1 : Int32)), (.int (-1 : Int32)), (.int (-1 : Int32)), (.int (-1 : Int32)), (.int (-1 : Int32)), (.int (-1 : Int32)), (.int (-1 : Int32)), (.int (-1 : Int32)), (.int (-1 : Int32)), (.int (-1 : Int32)), (.int (0 : Int32)), (.int (0 : Int32)), (.int (0 : Int32))] (.int (0 : Int32)) := V29
  refine E_iinc (pc' := 17) (L' := #[.val (.ref a1), .val (.int (-1 : Int32)), .val (.int (29 : Int32)), .val (.int (32 : Int32))]) cx st29 (1 : Int32) d7_14 rfl rfl rfl rfl ?_
  refine E_goto (pc' := 5) cx st29 d7_17 (by decide) (by decide) ?_
  refine E_iloadN (pc' := 6) cx st29 d7_5 rfl rfl ?_
  refine E_iloadN (pc' := 7) cx st29 d7_6 rfl rfl ?_
  refine E_icmp_geN (pc' := 10) cx st29 d7_7 rfl (by decide) ?_
  refine E_aloadN (pc' := 11) cx st29 d7_10 rfl rfl rfl ?_
  refine E_iloadN (pc' := 12) cx st29 d7_11 rfl rfl ?_
  refine E_iloadN (pc' := 13) cx st29 d7_12 rfl rfl ?_
  refine E_iastore (pc' := 14) (i := 29) cx st29 V29p ⟨by decide, by decide⟩ rfl (Nat.le_of_ble_eq_true rfl) g_a1 d7_13 rfl ?_
  intro T30 h30 st30 W30 V30
  have Z30 : n0 ≤ h30.size := Nat.le_trans Z29 (Keep.of_wr W30).1
  have K30 : Keep h0 h30 [a1] := K29.wr W30 (mi 0 rfl)
  have V30p : Arv Z h30 a1 kA .int (32 : Int32) [(.int (-1 : Int32)), (.int (-1 : Int32)), (.int (-1 : Int32)), (.int (-1 : Int32)), (.int (-1 : Int32)), (.int (-1 : Int32)), (.int (-1 : Int32)), (.int (-1 : Int32)), (.int (-1 : Int32)), (.int (-1 : Int32)), (.int (-1 : Int32)), (.int (-1 : Int32)), (.int (-1 : Int32)), (.int (-1 : Int32)), (.int (-1 : Int32)), (.int (-1 : Int32)), (.int (-1 : Int32)), (.int (-1 : Int32)), (.int (-1 : Int32)), (.int (-1 : Int32)), (.int (-1 : Int32)), (.int (-1 : Int32)), (.int (-1 : Int32)), (.int (-1 : Int32)), (.int (-1 : Int32)), (.int (-1 : Int32)), (.int (-1 : Int32)), (.int (-1 : Int32)), (.int (-1 : Int32)), (.int (-1 : Int32)), (.int (0 : Int32)), (.int (0 : Int32))] (.int (0 : Int32)) := V30
  refine E_iinc (pc' := 17) (L' := #[.val (.ref a1), .val (.int (-1 : Int32)), .val (.int (30 : Int32)), .val (.int (32 : Int32))]) cx st30 (1 : Int32) d7_14 rfl rfl rfl rfl ?_
  refine E_goto (pc' := 5) cx st30 d7_17 (by decide) (by decide) ?_
  refine E_iloadN (pc' := 6) cx st30 d7_5 rfl rfl ?_
  refine E_iloadN (pc' := 7) cx st30 d7_6 rfl rfl ?_
  refine E_icmp_geN (pc' := 10) cx st30 d7_7 rfl (by decide) ?_
  refine E_aloadN (pc' := 11) cx st30 d7_10 rfl rfl rfl ?_
  refine E_iloadN (pc' := 12) cx st30 d7_11 rfl rfl ?_
  refine E_iloadN (pc' := 13) cx st30 d7_12 rfl rfl ?_
  refine E_iastore (pc' := 14) (i := 30) cx st30 V30p ⟨by decide, by decide⟩ rfl (Nat.le_of_ble_eq_true rfl) g_a1 d7_13 rfl ?_
  intro T31 h31 st31 W31 V31
  have Z31 : n0 ≤ h31.size := Nat.le_trans Z30 (Keep.of_wr W31).1
  have K31 : Keep h0 h31 [a1] := K30.wr W31 (mi 0 rfl)
  have V31p : Arv Z h31 a1 kA .int (32 : Int32) [(.int (-1 : Int32)), (.int (-1 : Int32)), (.int (-1 : Int32)), (.int (-1 : Int32)), (.int (-1 : Int32)), (.int (-1 : Int32)), (.int (-1 : Int32)), (.int (-1 : Int32)), (.int (-1 : Int32)), (.int (-1 : Int32)), (.int (-1 : Int32)), (.int (-1 : Int32)), (.int (-1 : Int32)), (.int (-1 : Int32)), (.int (-1 : Int32)), (.int (-1 : Int32)), (.int (-1 : Int32)), (.int (-1 : Int32)), (.int (-1 : Int32)), (.int (-1 : Int32)), (.int (-1 : Int32)), (.int (-1 : Int32)), (.int (-1 : Int32)), (.int (-1 : Int32)), (.int (-1 : Int32)), (.int (-1 : Int32)), (.int (-1 : Int32)), (.int (-1 : Int32)), (.int (-1 : Int32)), (.int (-1 : Int32)), (.int (-1 : Int32)), (.int (0 : Int32))] (.int (0 : Int32)) := V31
  refine E_iinc (pc' := 17) (L' := #[.val (.ref a1), .val (.int (-1 : Int32)), .val (.int (31 : Int32)), .val (.int (32 : Int32))]) cx st31 (1 : Int32) d7_14 rfl rfl rfl rfl ?_
  refine E_goto (pc' := 5) cx st31 d7_17 (by decide) (by decide) ?_
  refine E_iloadN (pc' := 6) cx st31 d7_5 rfl rfl ?_
  refine E_iloadN (pc' := 7) cx st31 d7_6 rfl rfl ?_
  refine E_icmp_geN (pc' := 10) cx st31 d7_7 rfl (by decide) ?_
  refine E_aloadN (pc' := 11) cx st31 d7_10 rfl rfl rfl ?_
  refine E_iloadN (pc' := 12) cx st31 d7_11 rfl rfl ?_
  refine E_iloadN (pc' := 13) cx st31 d7_12 rfl rfl ?_
  refine E_iastore (pc' := 14) (i := 31) cx st31 V31p ⟨by decide, by decide⟩ rfl (Nat.le_of_ble_eq_true rfl) g_a1 d7_13 rfl ?_
  intro T32 h32 st32 W32 V32
  have Z32 : n0 ≤ h32.size := Nat.le_trans Z31 (Keep.of_wr W32).1
  have K32 : Keep h0 h32 [a1] := K31.wr W32 (mi 0 rfl)
  have V32p : Arv Z h32 a1 kA .int (32 : Int32) [(.int (-1 : Int32)), (.int (-1 : Int32)), (.int (-1 : Int32)), (.int (-1 : Int32)), (.int (-1 : Int32)), (.int (-1 : Int32)), (.int (-1 : Int32)), (.int (-1 : Int32)), (.int (-1 : Int32)), (.int (-1 : Int32)), (.int (-1 : Int32)), (.int (-1 : Int32)), (.int (-1 : Int32)), (.int (-1 : Int32)), (.int (-1 : Int32)), (.int (-1 : Int32)), (.int (-1 : Int32)), (.int (-1 : Int32)), (.int (-1 : Int32)), (.int (-1 : Int32)), (.int (-1 : Int32)), (.int (-1 : Int32)), (.int (-1 : Int32)), (.int (-1 : Int32)), (.int (-1 : Int32)), (.int (-1 : Int32)), (.int (-1 : Int32)), (.int (-1 : Int32)), (.int (-1 : Int32)), (.int (-1 : Int32)), (.int (-1 : Int32)), (.int (-1 : Int32))] (.int (0 : Int32)) := V32
  refine E_iinc (pc' := 17) (L' := #[.val (.ref a1), .val (.int (-1 : Int32)), .val (.int (32 : Int32)), .val (.int (32 : Int32))]) cx st32 (1 : Int32) d7_14 rfl rfl rfl rfl ?_
  refine E_goto (pc' := 5) cx st32 d7_17 (by decide) (by decide) ?_
  refine E_iloadN (pc' := 6) cx st32 d7_5 rfl rfl ?_
  refine E_iloadN (pc' := 7) cx st32 d7_6 rfl rfl ?_
  refine E_icmp_geY (pc' := 20) cx st32 d7_7 (by decide) (by decide) (by decide) ?_
  refine E_return cx st32 d7_20 rfl (by decide) (by decide) ?_
  exact ⟨rfl, K32, V32p⟩
theorem d3_0 : decode prog_14_method_1_code 0 = .ok (.aload_n 0, 1) := by decide +kernel
theorem d3_1 : decode prog_14_method_1_code 1 = .ok (.invokespecial 1, 3) := by decide +kernel
theorem d3_4 : decode prog_14_method_1_code 4 = .ok (.aload_n 0, 1) := by decide +kernel
theorem d3_5 : decode prog_14_method_1_code 5 = .ok (.iconst 1, 1) := by decide +kernel
theorem d3_6 : decode prog_14_method_1_code 6 = .ok (.anewarray 7, 3) := by decide +kernel
theorem d3_9 : decode prog_14_method_1_code 9 = .ok (.putfield 9, 3) := by decide +kernel
theorem d3_12 : decode prog_14_method_1_code 12 = .ok (.aload_n 0, 1) := by decide +kernel
theorem d3_13 : decode prog_14_method_1_code 13 = .ok (.iload_n 1, 1) := by decide +kernel
theorem d3_14 : decode prog_14_method_1_code 14 = .ok (.putfield 15, 3) := by decide +kernel
theorem d3_17 : decode prog_14_method_1_code 17 = .ok (.aload_n 0, 1) := by decide +kernel
theorem d3_18 : decode prog_14_method_1_code 18 = .ok (.iload_n 1, 1) := by decide +kernel
theorem d3_19 : decode prog_14_method_1_code 19 = .ok (.ifCond .ne 8, 3) := by decide +kernel
theorem d3_22 : decode prog_14_method_1_code 22 = .ok (.bipush 16, 2) := by decide +kernel
theorem d3_24 : decode prog_14_method_1_code 24 = .ok (.goto 17, 3) := by decide +kernel
theorem d3_27 : decode prog_14_method_1_code 27 = .ok (.iconst 0, 1) := by decide +kernel
theorem d3_28 : decode prog_14_method_1_code 28 = .ok (.bipush 31, 2) := by decide +kernel
theorem d3_30 : decode prog_14_method_1_code 30 = .ok (.ldc 19, 2) := by decide +kernel
theorem d3_32 : decode prog_14_method_1_code 32 = .ok (.iload_n 1, 1) := by decide +kernel
theorem d3_33 : decode prog_14_method_1_code 33 = .ok (.idiv, 1) := by decide +kernel
theorem d3_34 : decode prog_14_method_1_code 34 = .ok (.invokestatic 20, 3) := by decide +kernel
theorem d3_37 : decode prog_14_method_1_code 37 = .ok (.isub, 1) := by decide +kernel
theorem d3_38 : decode prog_14_method_1_code 38 = .ok (.invokestatic 26, 3) := by decide +kernel
theorem d3_41 : decode prog_14_method_1_code 41 = .ok (.putfield 32, 3) := by decide +kernel
theorem d3_44 : decode prog_14_method_1_code 44 = .ok (.aload_n 0, 1) := by decide +kernel
theorem d3_45 : decode prog_14_method_1_code 45 = .ok (.bipush 16, 2) := by decide +kernel
theorem d3_47 : decode prog_14_method_1_code 47 = .ok (.iconst 1, 1) := by decide +kernel
theorem d3_48 : decode prog_14_method_1_code 48 = .ok (.aload_n 0, 1) := by decide +kernel
theorem d3_49 : decode prog_14_method_1_code 49 = .ok (.getfield 32, 3) := by decide +kernel
theorem d3_52 : decode prog_14_method_1_code 52 = .ok (.ishl, 1) := by decide +kernel
theorem d3_53 : decode prog_14_method_1_code 53 = .ok (.invokestatic 35, 3) := by decide +kernel
theorem d3_56 : decode prog_14_method_1_code 56 = .ok (.putfield 38, 3) := by decide +kernel
theorem d3_59 : decode prog_14_method_1_code 59 = .ok (.aload_n 0, 1) := by decide +kernel
theorem d3_60 : decode prog_14_method_1_code 60 = .ok (.getfield 9, 3) := by decide +kernel
theorem d3_63 : decode prog_14_method_1_code 63 = .ok (.iconst 0, 1) := by decide +kernel
theorem d3_64 : decode prog_14_method_1_code 64 = .ok (.aload_n 0, 1) := by decide +kernel
theorem d3_65 : decode prog_14_method_1_code 65 = .ok (.getfield 38, 3) := by decide +kernel
theorem d3_68 : decode prog_14_method_1_code 68 = .ok (.iload_n 1, 1) := by decide +kernel
theorem d3_69 : decode prog_14_method_1_code 69 = .ok (.imul, 1) := by decide +kernel
theorem d3_70 : decode prog_14_method_1_code 70 = .ok (.newarray .long, 2) := by decide +kernel
theorem d3_72 : decode prog_14_method_1_code 72 = .ok (.aastore, 1) := by decide +kernel
theorem d3_73 : decode prog_14_method_1_code 73 = .ok (.return_, 1) := by decide +kernel
theorem pn_2 : plainName "com/example/flat_planner/flatplanner/LongColumn" = true := by first | (simp [plainName, overriddenIn]; done) | decide +kernel
theorem ef_3 (m : MethodId) (x0 : Addr) (x1 : Int32) : entryFrame m #[(.ref x0), (.int x1)] 2 = mkF m 0 #[.val (.ref x0), .val (.int x1)] [] := by first | (simp [entryFrame, mkF, argsToLocals, Value.category]; done) | rfl
theorem pd_0 : parseMethodDescriptor "(I)I" = some ⟨[.int], some .int⟩ := by decide +kernel
theorem pd_1 : parseMethodDescriptor "(II)I" = some ⟨[.int, .int], some .int⟩ := by decide +kernel
set_option maxRecDepth 65536 in
set_option maxHeartbeats 40000000 in
theorem rm3 (l : Launch) (Z : State) (a0 : Array Value) (hw : ∀ d ∈ tables_1, d.before a0 Z = true) (cl : Addr) (h0 : Heap) (n0 : Nat) (Z0 : n0 ≤ h0.size) (g_cl : n0 ≤ cl) (X0 : Exa Z h0 cl "com/example/flat_planner/flatplanner/LongColumn") (F1 : Fld Z h0 cl "com/example/flat_planner/flatplanner/LongColumn" "width" "I" (.int (0 : Int32))) (F2 : Fld Z h0 cl "com/example/flat_planner/flatplanner/LongColumn" "shift" "I" (.int (0 : Int32))) (F3 : Fld Z h0 cl "com/example/flat_planner/flatplanner/LongColumn" "chunks" "[[J" .null) (F4 : Fld Z h0 cl "com/example/flat_planner/flatplanner/LongColumn" "capacity" "I" (.int (0 : Int32))) :
    Con l Z (⟨"com/example/flat_planner/flatplanner/LongColumn", "<init>", "(I)V"⟩ : MethodName) prog_14_method_1_code 2 none ({ frames := 1, cells := 2, slots := 17, locals := 24 } : Room) #[(.ref cl), (.int (1 : Int32))] h0 n0 (fun v h => v = none ∧ Keep h0 h [cl] ∧ ∃ cs c0 : Addr, LCF Z h cl cs ∧ (∃ k, Arv Z h cs k (.array .long) (1 : Int32) [(.ref c0)] .null) ∧ AJ Z h c0 (16 : Int32) [(.long (0 : Int64)), (.long (0 : Int64)), (.long (0 : Int64)), (.long (0 : Int64)), (.long (0 : Int64)), (.long (0 : Int64)), (.long (0 : Int64)), (.long (0 : Int64)), (.long (0 : Int64)), (.long (0 : Int64)), (.long (0 : Int64)), (.long (0 : Int64)), (.long (0 : Int64)), (.long (0 : Int64)), (.long (0 : Int64)), (.long (0 : Int64))] ∧ h0.size ≤ cs ∧ h0.size ≤ c0 ∧ cs ≠ c0) := by
  refine Con.of (own := "com/example/flat_planner/flatplanner/LongColumn") (name := "<init>") (plainFor_of_name pn_2) (fun m => ef_3 m cl (1 : Int32)) rfl rfl ?_
  intro p e s m below meth c T F S cx st
  refine E_aloadN (pc' := 1) cx st d3_0 rfl rfl rfl ?_
  refine E_initO (pc' := 4) (W := 0) cx st (wd hw 15 rfl) (wd hw 7 rfl) (wd hw 8 rfl) d3_1 rfl (by decide) (Nat.le_of_eq rfl) (by decide) rfl ?_
  intro T1 st1
  refine E_aloadN (pc' := 5) cx st1 d3_4 rfl rfl rfl ?_
  refine E_iconst (pc' := 6) cx st1 (1 : Int32) d3_5 rfl rfl ?_
  refine E_anewA (pc' := 9) (kc' := 1) (ks' := 1) (cap := 1) (ty := .long) (C := "[J") (ad := "[[J") cx st1 (by decide) (by decide) (wd hw 16 rfl) (wd hw 17 rfl) d3_6 (by decide) (by decide) (by decide) (by decide) (by decide) (by decide) (by decide) rfl ?_
  intro T2 h2 ca2 ar2 eq2 st2 E2 V2 X2 O2
  have g_ar2 : n0 ≤ ar2 := by rw [eq2]; exact Z0
  have ne_cl_ar2 : cl ≠ ar2 := by rw [eq2]; exact Nat.ne_of_lt X0.lt
  have sz_ar2 : h0.size ≤ ar2 := by rw [eq2]; exact (Keep.refl h0 [cl]).1
  have Z2 : n0 ≤ h2.size := Nat.le_trans Z0 E2.1
  have K2 : Keep h0 h2 [cl] := (Keep.refl h0 [cl]).ext E2
  have V2p : Arv Z h2 ar2 ca2 (.array .long) (1 : Int32) [.null] .null := V2.pad (pad_rep [] .null 1)
  have G3 : Fld Z h2 cl "com/example/flat_planner/flatplanner/LongColumn" "chunks" "[[J" .null := (F3.ext E2)
  have X4 : Exa Z h2 cl "com/example/flat_planner/flatplanner/LongColumn" := (X0.ext E2)
  refine E_putfield (pc' := 12) (ty := (.array (.array .long))) cx st2 (wd hw 18 rfl) G3 X4 (Or.inl (wd hw 19 rfl)) (wd hw 10 rfl) (by decide) rfl rfl g_cl d3_9 rfl ?_
  intro T5 h5 st5 W5
  have Z5 : n0 ≤ h5.size := Nat.le_trans Z2 (Keep.of_wr W5).1
  have K5 : Keep h0 h5 [cl] := K2.wr W5 (mi 0 rfl)
  have G5w : Fld Z h5 cl "com/example/flat_planner/flatplanner/LongColumn" "chunks" "[[J" (.ref ar2) := G3.same W5
  refine E_aloadN (pc' := 13) cx st5 d3_12 rfl rfl rfl ?_
  refine E_iloadN (pc' := 14) cx st5 d3_13 rfl rfl ?_
  have G6 : Fld Z h5 cl "com/example/flat_planner/flatplanner/LongColumn" "width" "I" (.int (0 : Int32)) := ((F1.ext E2).other W5 (Or.inr (slot_ne (Or.inr (wd hw 21 rfl)) (Or.inl (wd hw 19 rfl)) (by decide) (t := .int) (t' := (.array (.array .long))) (by decide) (by decide))))
  have X7 : Exa Z h5 cl "com/example/flat_planner/flatplanner/LongColumn" := (X4.wr W5)
  refine E_putfield (pc' := 17) (ty := .int) cx st5 (wd hw 20 rfl) G6 X7 (Or.inr ⟨(wd hw 21 rfl), rfl, rfl⟩) (wd hw 10 rfl) (by decide) rfl rfl g_cl d3_14 rfl ?_
  intro T8 h8 st8 W8
  have Z8 : n0 ≤ h8.size := Nat.le_trans Z5 (Keep.of_wr W8).1
  have K8 : Keep h0 h8 [cl] := K5.wr W8 (mi 0 rfl)
  have G8w : Fld Z h8 cl "com/example/flat_planner/flatplanner/LongColumn" "width" "I" (.int (1 : Int32)) := G6.same W8
  refine E_aloadN (pc' := 18) cx st8 d3_17 rfl rfl rfl ?_
  refine E_iloadN (pc' := 19) cx st8 d3_18 rfl rfl ?_
  refine E_if_neY (pc' := 27) cx st8 d3_19 (by decide) (by decide) (by decide) ?_
  refine E_iconst (pc' := 28) cx st8 (0 : Int32) d3_27 rfl rfl ?_
  refine E_bipush (pc' := 30) cx st8 (31 : Int32) d3_28 rfl rfl ?_
  refine E_ldc (pc' := 32) (v := (65536 : Int32)) cx st8 (wd hw 22 rfl) d3_30 rfl ?_
  refine E_iloadN (pc' := 33) cx st8 d3_32 rfl rfl ?_
  refine E_idiv (pc' := 34) cx st8 d3_33 (by decide) rfl ?_
  rw [show ((65536 : Int32) / (1 : Int32)) = (65536 : Int32) from by decide]
  refine E_callS (pc' := 37) (kc' := 1) (ks' := 1) (W := 3) (argsL := [(.int (65536 : Int32))]) cx st8 [(.int (31 : Int32)), (.int (0 : Int32)), (.ref cl)] (rm4 l Z a0 hw h8 n0 Z8) (wd hw 23 rfl) (wd hw 24 rfl) (wd hw 25 rfl) (wd hw 26 rfl) d3_34 rfl rfl (lenOf pd_0 rfl) (Nat.le_of_eq rfl) (by decide) (by decide) (by decide) (by decide) (by decide) (by decide) (by decide) rfl ?_
  intro v9 T9 h9 st9 hq9
  obtain ⟨rfl, hh9⟩ := hq9
  rw [hh9] at st9
  refine E_isub (pc' := 38) cx st9 d3_37 rfl ?_
  rw [show ((31 : Int32) - (15 : Int32)) = (16 : Int32) from by decide]
  refine E_callS (pc' := 41) (kc' := 1) (ks' := 1) (W := 1) (argsL := [(.int (0 : Int32)), (.int (16 : Int32))]) cx st9 [(.ref cl)] (rm5 l Z a0 hw (0 : Int32) (16 : Int32) h8 n0 Z8) (wd hw 28 rfl) (wd hw 29 rfl) (wd hw 30 rfl) (wd hw 31 rfl) d3_38 rfl rfl (lenOf pd_1 rfl) (Nat.le_of_eq rfl) (by decide) (by decide) (by decide) (by decide) (by decide) (by decide) (by decide) rfl ?_
  intro v10 T10 h10 st10 hq10
  obtain ⟨rfl, hh10⟩ := hq10
  rw [hh10] at st10
  rw [show (mxI (0 : Int32) (16 : Int32)) = (16 : Int32) from by decide]
  have G11 : Fld Z h8 cl "com/example/flat_planner/flatplanner/LongColumn" "shift" "I" (.int (0 : Int32)) := (((F2.ext E2).other W5 (Or.inr (slot_ne (Or.inr (wd hw 33 rfl)) (Or.inl (wd hw 19 rfl)) (by decide) (t := .int) (t' := (.array (.array .long))) (by decide) (by decide)))).other W8 (Or.inr (slot_ne (Or.inr (wd hw 33 rfl)) (Or.inr (wd hw 21 rfl)) (by decide) (t := .int) (t' := .int) (by decide) (by decide))))
  have X12 : Exa Z h8 cl "com/example/flat_planner/flatplanner/LongColumn" := (X7.wr W8)
  refine E_putfield (pc' := 44) (ty := .int) cx st10 (wd hw 32 rfl) G11 X12 (Or.inr ⟨(wd hw 33 rfl), rfl, rfl⟩) (wd hw 10 rfl) (by decide) rfl rfl g_cl d3_41 rfl ?_
  intro T13 h13 st13 W13
  have Z13 : n0 ≤ h13.size := Nat.le_trans Z8 (Keep.of_wr W13).1
  have K13 : Keep h0 h13 [cl] := K8.wr W13 (mi 0 rfl)
  have G13w : Fld Z h13 cl "com/example/flat_planner/flatplanner/LongColumn" "shift" "I" (.int (16 : Int32)) := G11.same W13
  refine E_aloadN (pc' := 45) cx st13 d3_44 rfl rfl rfl ?_
  refine E_bipush (pc' := 47) cx st13 (16 : Int32) d3_45 rfl rfl ?_
  refine E_iconst (pc' := 48) cx st13 (1 : Int32) d3_47 rfl rfl ?_
  refine E_aloadN (pc' := 49) cx st13 d3_48 rfl rfl rfl ?_
  refine E_getfield (pc' := 52) cx st13 (wd hw 32 rfl) G13w d3_49 rfl ?_
  intro T14 st14
  refine E_ishl (pc' := 53) cx st14 d3_52 rfl ?_
  rw [show ((1 : Int32) <<< ((16 : Int32) &&& 31)) = (65536 : Int32) from by decide]
  refine E_callS (pc' := 56) (kc' := 1) (ks' := 1) (W := 1) (argsL := [(.int (16 : Int32)), (.int (65536 : Int32))]) cx st14 [(.ref cl)] (rm6 l Z a0 hw (16 : Int32) (65536 : Int32) h13 n0 Z13) (wd hw 34 rfl) (wd hw 35 rfl) (wd hw 30 rfl) (wd hw 36 rfl) d3_53 rfl rfl (lenOf pd_1 rfl) (Nat.le_of_eq rfl) (by decide) (by decide) (by decide) (by decide) (by decide) (by decide) (by decide) rfl ?_
  intro v15 T15 h15 st15 hq15
  obtain ⟨rfl, hh15⟩ := hq15
  rw [hh15] at st15
  rw [show (mnI (16 : Int32) (65536 : Int32)) = (16 : Int32) from by decide]
  have G16 : Fld Z h13 cl "com/example/flat_planner/flatplanner/LongColumn" "capacity" "I" (.int (0 : Int32)) := ((((F4.ext E2).other W5 (Or.inr (slot_ne (Or.inl (wd hw 38 rfl)) (Or.inl (wd hw 19 rfl)) (by decide) (t := .int) (t' := (.array (.array .long))) (by decide) (by decide)))).other W8 (Or.inr (slot_ne (Or.inl (wd hw 38 rfl)) (Or.inr (wd hw 21 rfl)) (by decide) (t := .int) (t' := .int) (by decide) (by decide)))).other W13 (Or.inr (slot_ne (Or.inl (wd hw 38 rfl)) (Or.inr (wd hw 33 rfl)) (by decide) (t := .int) (t' := .int) (by decide) (by decide))))
  have X17 : Exa Z h13 cl "com/example/flat_planner/flatplanner/LongColumn" := (X12.wr W13)
  refine E_putfield (pc' := 59) (ty := .int) cx st15 (wd hw 37 rfl) G16 X17 (Or.inl (wd hw 38 rfl)) (wd hw 10 rfl) (by decide) rfl rfl g_cl d3_56 rfl ?_
  intro T18 h18 st18 W18
  have Z18 : n0 ≤ h18.size := Nat.le_trans Z13 (Keep.of_wr W18).1
  have K18 : Keep h0 h18 [cl] := K13.wr W18 (mi 0 rfl)
  have G18w : Fld Z h18 cl "com/example/flat_planner/flatplanner/LongColumn" "capacity" "I" (.int (16 : Int32)) := G16.same W18
  refine E_aloadN (pc' := 60) cx st18 d3_59 rfl rfl rfl ?_
  have G20 : Fld Z h18 cl "com/example/flat_planner/flatplanner/LongColumn" "chunks" "[[J" (.ref ar2) := (((G5w.other W8 (Or.inr (slot_ne (Or.inl (wd hw 19 rfl)) (Or.inr (wd hw 21 rfl)) (by decide) (t := (.array (.array .long))) (t' := .int) (by decide) (by decide)))).other W13 (Or.inr (slot_ne (Or.inl (wd hw 19 rfl)) (Or.inr (wd hw 33 rfl)) (by decide) (t := (.array (.array .long))) (t' := .int) (by decide) (by decide)))).other W18 (Or.inr (slot_ne (Or.inl (wd hw 19 rfl)) (Or.inl (wd hw 38 rfl)) (by decide) (t := (.array (.array .long))) (t' := .int) (by decide) (by decide))))
  refine E_getfield (pc' := 63) cx st18 (wd hw 18 rfl) G20 d3_60 rfl ?_
  intro T19 st19
  refine E_iconst (pc' := 64) cx st19 (0 : Int32) d3_63 rfl rfl ?_
  refine E_aloadN (pc' := 65) cx st19 d3_64 rfl rfl rfl ?_
  refine E_getfield (pc' := 68) cx st19 (wd hw 37 rfl) G18w d3_65 rfl ?_
  intro T21 st21
  refine E_iloadN (pc' := 69) cx st21 d3_68 rfl rfl ?_
  refine E_imul (pc' := 70) cx st21 d3_69 rfl ?_
  rw [show ((16 : Int32) * (1 : Int32)) = (16 : Int32) from by decide]
  have X22 : Exa Z h18 cl "com/example/flat_planner/flatplanner/LongColumn" := (X17.wr W18)
  have V23 : Arv Z h18 ar2 ca2 (.array .long) (1 : Int32) [.null] .null := ((((V2p.other W5 (Ne.symm ne_cl_ar2)).other W8 (Ne.symm ne_cl_ar2)).other W13 (Ne.symm ne_cl_ar2)).other W18 (Ne.symm ne_cl_ar2))
  refine E_newP (pc' := 72) (kc' := 2) (ks' := 17) (cap := 16) cx st21 (wd hw 39 rfl) d3_70 (by decide) (by decide) (by decide) (by decide) (by decide) (by decide) (by decide) rfl (ad := "[J") (by decide) ?_
  intro T24 h24 ca24 ar24 eq24 st24 E24 V24 X24
  have g_ar24 : n0 ≤ ar24 := by rw [eq24]; exact Z18
  have ne_cl_ar24 : cl ≠ ar24 := by rw [eq24]; exact Nat.ne_of_lt X22.lt
  have ne_ar2_ar24 : ar2 ≠ ar24 := by rw [eq24]; exact Nat.ne_of_lt V23.lt
  have sz_ar24 : h0.size ≤ ar24 := by rw [eq24]; exact K18.1
  have Z24 : n0 ≤ h24.size := Nat.le_trans Z18 E24.1
  have K24 : Keep h0 h24 [cl] := K18.ext E24
  have V24p : Arv Z h24 ar24 ca24 .long (16 : Int32) [(.long (0 : Int64)), (.long (0 : Int64)), (.long (0 : Int64)), (.long (0 : Int64)), (.long (0 : Int64)), (.long (0 : Int64)), (.long (0 : Int64)), (.long (0 : Int64)), (.long (0 : Int64)), (.long (0 : Int64)), (.long (0 : Int64)), (.long (0 : Int64)), (.long (0 : Int64)), (.long (0 : Int64)), (.long (0 : Int64)), (.long (0 : Int64))] (.long (0 : Int64)) := V24.pad (pad_rep [] (.long (0 : Int64)) 16)
  have V25 : Arv Z h24 ar2 ca2 (.array .long) (1 : Int32) [.null] .null := (V23.ext E24)
  refine E_aastore (pc' := 73) (i := 0) cx st24 V25 rfl (Arv.sto V25 O2 X24) rfl ⟨by decide, by decide⟩ rfl (Nat.zero_lt_succ _) g_ar2 d3_72 rfl ?_
  intro T26 h26 st26 W26 V26
  have Z26 : n0 ≤ h26.size := Nat.le_trans Z24 (Keep.of_wr W26).1
  have K26 : Keep h0 h26 [cl] := K24.wr W26 (Or.inr sz_ar2)
  have V26p : Arv Z h26 ar2 ca2 (.array .long) (1 : Int32) [(.ref ar24)] .null := V26
  have G27 : Fld Z h26 cl "com/example/flat_planner/flatplanner/LongColumn" "width" "I" (.int (1 : Int32)) := ((((G8w.other W13 (Or.inr (slot_ne (Or.inr (wd hw 21 rfl)) (Or.inr (wd hw 33 rfl)) (by decide) (t := .int) (t' := .int) (by decide) (by decide)))).other W18 (Or.inr (slot_ne (Or.inr (wd hw 21 rfl)) (Or.inl (wd hw 38 rfl)) (by decide) (t := .int) (t' := .int) (by decide) (by decide)))).ext E24).other W26 (Or.inl ne_cl_ar2))
  have G28 : Fld Z h26 cl "com/example/flat_planner/flatplanner/LongColumn" "shift" "I" (.int (16 : Int32)) := (((G13w.other W18 (Or.inr (slot_ne (Or.inr (wd hw 33 rfl)) (Or.inl (wd hw 38 rfl)) (by decide) (t := .int) (t' := .int) (by decide) (by decide)))).ext E24).other W26 (Or.inl ne_cl_ar2))
  have G29 : Fld Z h26 cl "com/example/flat_planner/flatplanner/LongColumn" "chunks" "[[J" (.ref ar2) := ((G20.ext E24).other W26 (Or.inl ne_cl_ar2))
  have G30 : Fld Z h26 cl "com/example/flat_planner/flatplanner/LongColumn" "capacity" "I" (.int (16 : Int32)) := ((G18w.ext E24).other W26 (Or.inl ne_cl_ar2))
  have V31 : Arv Z h26 ar24 ca24 .long (16 : Int32) [(.long (0 : Int64)), (.long (0 : Int64)), (.long (0 : Int64)), (.long (0 : Int64)), (.long (0 : Int64)), (.long (0 : Int64)), (.long (0 : Int64)), (.long (0 : Int64)), (.long (0 : Int64)), (.long (0 : Int64)), (.long (0 : Int64)), (.long (0 : Int64)), (.long (0 : Int64)), (.long (0 : Int64)), (.long (0 : Int64)), (.long (0 : Int64))] (.long (0 : Int64)) := (V24p.other W26 (Ne.symm ne_ar2_ar24))
  refine E_return cx st26 d3_73 rfl (by decide) (by decide) ?_
  refine ⟨rfl, K26, ar2, ar24, ?_, ⟨_, V26p⟩, ⟨_, V31⟩, sz_ar2, sz_ar24, ne_ar2_ar24⟩
  have X32 : Exa Z h26 cl "com/example/flat_planner/flatplanner/LongColumn" := ((X22.ext E24).wr W26)
  exact ⟨X32, G27, G28, G29, G30⟩
theorem d1_0 : decode prog_16_method_1_code 0 = .ok (.aload_n 0, 1) := by decide +kernel
theorem d1_1 : decode prog_16_method_1_code 1 = .ok (.invokespecial 1, 3) := by decide +kernel
theorem d1_4 : decode prog_16_method_1_code 4 = .ok (.aload_n 0, 1) := by decide +kernel
theorem d1_5 : decode prog_16_method_1_code 5 = .ok (.new 7, 3) := by decide +kernel
theorem d1_8 : decode prog_16_method_1_code 8 = .ok (.dup, 1) := by decide +kernel
theorem d1_9 : decode prog_16_method_1_code 9 = .ok (.iconst 1, 1) := by decide +kernel
theorem d1_10 : decode prog_16_method_1_code 10 = .ok (.invokespecial 9, 3) := by decide +kernel
theorem d1_13 : decode prog_16_method_1_code 13 = .ok (.putfield 12, 3) := by decide +kernel
theorem d1_16 : decode prog_16_method_1_code 16 = .ok (.aload_n 0, 1) := by decide +kernel
theorem d1_17 : decode prog_16_method_1_code 17 = .ok (.iconst (-1), 1) := by decide +kernel
theorem d1_18 : decode prog_16_method_1_code 18 = .ok (.putfield 18, 3) := by decide +kernel
theorem d1_21 : decode prog_16_method_1_code 21 = .ok (.aload_n 0, 1) := by decide +kernel
theorem d1_22 : decode prog_16_method_1_code 22 = .ok (.bipush 16, 2) := by decide +kernel
theorem d1_24 : decode prog_16_method_1_code 24 = .ok (.newarray .long, 2) := by decide +kernel
theorem d1_26 : decode prog_16_method_1_code 26 = .ok (.putfield 22, 3) := by decide +kernel
theorem d1_29 : decode prog_16_method_1_code 29 = .ok (.aload_n 0, 1) := by decide +kernel
theorem d1_30 : decode prog_16_method_1_code 30 = .ok (.bipush 16, 2) := by decide +kernel
theorem d1_32 : decode prog_16_method_1_code 32 = .ok (.newarray .long, 2) := by decide +kernel
theorem d1_34 : decode prog_16_method_1_code 34 = .ok (.putfield 26, 3) := by decide +kernel
theorem d1_37 : decode prog_16_method_1_code 37 = .ok (.aload_n 0, 1) := by decide +kernel
theorem d1_38 : decode prog_16_method_1_code 38 = .ok (.bipush 16, 2) := by decide +kernel
theorem d1_40 : decode prog_16_method_1_code 40 = .ok (.newarray .long, 2) := by decide +kernel
theorem d1_42 : decode prog_16_method_1_code 42 = .ok (.putfield 29, 3) := by decide +kernel
theorem d1_45 : decode prog_16_method_1_code 45 = .ok (.aload_n 0, 1) := by decide +kernel
theorem d1_46 : decode prog_16_method_1_code 46 = .ok (.bipush 16, 2) := by decide +kernel
theorem d1_48 : decode prog_16_method_1_code 48 = .ok (.newarray .int, 2) := by decide +kernel
theorem d1_50 : decode prog_16_method_1_code 50 = .ok (.putfield 32, 3) := by decide +kernel
theorem d1_53 : decode prog_16_method_1_code 53 = .ok (.aload_n 0, 1) := by decide +kernel
theorem d1_54 : decode prog_16_method_1_code 54 = .ok (.bipush 16, 2) := by decide +kernel
theorem d1_56 : decode prog_16_method_1_code 56 = .ok (.newarray .int, 2) := by decide +kernel
theorem d1_58 : decode prog_16_method_1_code 58 = .ok (.putfield 36, 3) := by decide +kernel
theorem d1_61 : decode prog_16_method_1_code 61 = .ok (.aload_n 0, 1) := by decide +kernel
theorem d1_62 : decode prog_16_method_1_code 62 = .ok (.iconst (-1), 1) := by decide +kernel
theorem d1_63 : decode prog_16_method_1_code 63 = .ok (.putfield 39, 3) := by decide +kernel
theorem d1_66 : decode prog_16_method_1_code 66 = .ok (.aload_n 0, 1) := by decide +kernel
theorem d1_67 : decode prog_16_method_1_code 67 = .ok (.bipush 16, 2) := by decide +kernel
theorem d1_69 : decode prog_16_method_1_code 69 = .ok (.newarray .int, 2) := by decide +kernel
theorem d1_71 : decode prog_16_method_1_code 71 = .ok (.putfield 42, 3) := by decide +kernel
theorem d1_74 : decode prog_16_method_1_code 74 = .ok (.aload_n 0, 1) := by decide +kernel
theorem d1_75 : decode prog_16_method_1_code 75 = .ok (.bipush 32, 2) := by decide +kernel
theorem d1_77 : decode prog_16_method_1_code 77 = .ok (.newarray .int, 2) := by decide +kernel
theorem d1_79 : decode prog_16_method_1_code 79 = .ok (.putfield 45, 3) := by decide +kernel
theorem d1_82 : decode prog_16_method_1_code 82 = .ok (.aload_n 0, 1) := by decide +kernel
theorem d1_83 : decode prog_16_method_1_code 83 = .ok (.iload_n 1, 1) := by decide +kernel
theorem d1_84 : decode prog_16_method_1_code 84 = .ok (.putfield 48, 3) := by decide +kernel
theorem d1_87 : decode prog_16_method_1_code 87 = .ok (.aload_n 0, 1) := by decide +kernel
theorem d1_88 : decode prog_16_method_1_code 88 = .ok (.getfield 45, 3) := by decide +kernel
theorem d1_91 : decode prog_16_method_1_code 91 = .ok (.iconst (-1), 1) := by decide +kernel
theorem d1_92 : decode prog_16_method_1_code 92 = .ok (.invokestatic 52, 3) := by decide +kernel
theorem d1_95 : decode prog_16_method_1_code 95 = .ok (.return_, 1) := by decide +kernel
theorem pn_3 : plainName "com/example/flat_planner/flatplanner/OpenList" = true := by first | (simp [plainName, overriddenIn]; done) | decide +kernel
theorem ef_1 (m : MethodId) (x0 : Addr) (x1 : Int32) : entryFrame m #[(.ref x0), (.int x1)] 2 = mkF m 0 #[.val (.ref x0), .val (.int x1)] [] := by first | (simp [entryFrame, mkF, argsToLocals, Value.category]; done) | rfl
theorem pd_2 : parseMethodDescriptor "(I)V" = some ⟨[.int], none⟩ := by decide +kernel
theorem pd_3 : parseMethodDescriptor "([II)V" = some ⟨[(.array .int), .int], none⟩ := by decide +kernel
theorem pad16J : ∀ i, ((.long (0 : Int64)) :: (.long (0 : Int64)) :: (([] : List Int64).map Value.long) : List Value).getD i (.long (0 : Int64)) = ([(.long (0 : Int64)), (.long (0 : Int64)), (.long (0 : Int64)), (.long (0 : Int64)), (.long (0 : Int64)), (.long (0 : Int64)), (.long (0 : Int64)), (.long (0 : Int64)), (.long (0 : Int64)), (.long (0 : Int64)), (.long (0 : Int64)), (.long (0 : Int64)), (.long (0 : Int64)), (.long (0 : Int64)), (.long (0 : Int64)), (.long (0 : Int64))] : List Value).getD i (.long (0 : Int64)) := fun i => by
  match i with
  | 0 | 1 | 2 | 3 | 4 | 5 | 6 | 7 | 8 | 9 | 10 | 11 | 12 | 13 | 14 | 15 => rfl
  | i + 16 => rfl
theorem pad16I : ∀ i, ((.int (0 : Int32)) :: (.int (0 : Int32)) :: (([] : List Int32).map Value.int) : List Value).getD i (.int (0 : Int32)) = ([(.int (0 : Int32)), (.int (0 : Int32)), (.int (0 : Int32)), (.int (0 : Int32)), (.int (0 : Int32)), (.int (0 : Int32)), (.int (0 : Int32)), (.int (0 : Int32)), (.int (0 : Int32)), (.int (0 : Int32)), (.int (0 : Int32)), (.int (0 : Int32)), (.int (0 : Int32)), (.int (0 : Int32)), (.int (0 : Int32)), (.int (0 : Int32))] : List Value).getD i (.int (0 : Int32)) := fun i => by
  match i with
  | 0 | 1 | 2 | 3 | 4 | 5 | 6 | 7 | 8 | 9 | 10 | 11 | 12 | 13 | 14 | 15 => rfl
  | i + 16 => rfl
set_option maxRecDepth 65536 in
set_option maxHeartbeats 40000000 in
theorem rm1 (l : Launch) (Z : State) (a0 : Array Value) (hw : ∀ d ∈ tables_1, d.before a0 Z = true) (o : Addr) (gt : Int32) (h0 : Heap) (n0 : Nat) (Z0 : n0 ≤ h0.size) (hg : gt = 0 ∨ gt = 1) (g_o : n0 ≤ o) (X0 : Exa Z h0 o "com/example/flat_planner/flatplanner/OpenList") (B0 : OL Z h0 o [(.int (0 : Int32)), .null, (.int (0 : Int32)), (.int (0 : Int32)), (.int (0 : Int32)), .null, .null, .null, .null, .null, (.int (0 : Int32)), (.int (0 : Int32)), (.long (0 : Int64)), .null, (.int (0 : Int32)), .null]) :
    Con l Z (⟨"com/example/flat_planner/flatplanner/OpenList", "<init>", "(Z)V"⟩ : MethodName) prog_16_method_1_code 2 none ({ frames := 2, cells := 11, slots := 165, locals := 49 } : Room) #[(.ref o), (.int gt)] h0 n0 (fun v h => v = none ∧ Keep h0 h [o] ∧ ∃ cl cs c0 bF bG bO bH bT hP nw : Addr, [o, cl, cs, c0, bF, bG, bO, bH, bT, hP, nw].Nodup ∧ (∀ a ∈ [o, cl, cs, c0, bF, bG, bO, bH, bT, hP, nw], a = o ∨ h0.size ≤ a) ∧ Wd Z h o cl cs c0 bF bG bO bH bT hP nw gt (-1 : Int32) (0 : Int32) (0 : Int32) (-1 : Int32) (0 : Int32) (0 : Int32) (0 : Int64) (0 : Int64) (0 : Int64) ([] : List Int64) (0 : Int64) (0 : Int64) ([] : List Int64) (0 : Int64) (0 : Int64) ([] : List Int64) (0 : Int64) (0 : Int64) ([] : List Int64) (0 : Int32) (0 : Int32) ([] : List Int32) (0 : Int32) (0 : Int32) ([] : List Int32) (0 : Int32) (0 : Int32) ([] : List Int32) (List.replicate 32 (-1 : Int32))) := by
  refine Con.of (own := "com/example/flat_planner/flatplanner/OpenList") (name := "<init>") (plainFor_of_name pn_3) (fun m => ef_1 m o gt) rfl rfl ?_
  intro p e s m below meth c T F S cx st
  refine E_aloadN (pc' := 1) cx st d1_0 rfl rfl rfl ?_
  refine E_initO (pc' := 4) (W := 0) cx st (wd hw 6 rfl) (wd hw 7 rfl) (wd hw 8 rfl) d1_1 rfl (by decide) (Nat.le_of_eq rfl) (by decide) rfl ?_
  intro T1 st1
  refine E_aloadN (pc' := 5) cx st1 d1_4 rfl rfl rfl ?_
  refine E_new (pc' := 8) (kc' := 1) (ks' := 4) cx st1 (wd hw 9 rfl) (wd hw 10 rfl) (wd hw 11 rfl) d1_5 (by decide) (by decide) (by decide) (by decide) rfl ?_
  intro T2 h2 ob2 eq2 st2 E2 X2 D2
  have g_ob2 : n0 ≤ ob2 := by rw [eq2]; exact Z0
  have ne_o_ob2 : o ≠ ob2 := by rw [eq2]; exact Nat.ne_of_lt X0.lt
  have sz_ob2 : h0.size ≤ ob2 := by rw [eq2]; exact (Keep.refl h0 [o]).1
  have Z2 : n0 ≤ h2.size := Nat.le_trans Z0 E2.1
  have K2 : Keep h0 h2 [o] := (Keep.refl h0 [o]).ext E2
  have F2_chunks : Fld Z h2 ob2 "com/example/flat_planner/flatplanner/LongColumn" "chunks" "[[J" .null := D2 (Or.inl (wd hw 19 rfl)) (ty := (.array (.array .long))) (by decide)
  have F2_width : Fld Z h2 ob2 "com/example/flat_planner/flatplanner/LongColumn" "width" "I" (.int (0 : Int32)) := D2 (Or.inr (wd hw 21 rfl)) (ty := .int) (by decide)
  have F2_shift : Fld Z h2 ob2 "com/example/flat_planner/flatplanner/LongColumn" "shift" "I" (.int (0 : Int32)) := D2 (Or.inr (wd hw 33 rfl)) (ty := .int) (by decide)
  have F2_capacity : Fld Z h2 ob2 "com/example/flat_planner/flatplanner/LongColumn" "capacity" "I" (.int (0 : Int32)) := D2 (Or.inl (wd hw 38 rfl)) (ty := .int) (by decide)
  refine E_dup (pc' := 9) cx st2 d1_8 rfl rfl ?_
  refine E_iconst (pc' := 10) cx st2 (1 : Int32) d1_9 rfl rfl ?_
  have X3 : Exa Z h2 o "com/example/flat_planner/flatplanner/OpenList" := (X0.ext E2)
  refine E_callI (pc' := 13) (kc' := 3) (ks' := 21) (W := 2) (a := ob2) (argsL := [(.int (1 : Int32))]) cx st2 [(.ref ob2), (.ref o)] (rm3 l Z a0 hw ob2 h2 n0 Z2 g_ob2 X2 F2_width F2_shift F2_chunks F2_capacity) rfl (wd hw 12 rfl) (wd hw 13 rfl) (wd hw 11 rfl) (wd hw 14 rfl) d1_10 rfl rfl (lenOf pd_2 rfl) (Nat.le_of_eq rfl) (by decide) (by decide) (by decide) (by decide) (by decide) (by decide) (by decide) rfl ?_
  intro v4 T4 h4 st4 hq4
  obtain ⟨rfl, Kc, cs, c0, hLC, ⟨kcs, Vcs⟩, ⟨kc0, Vc0⟩, szs, sz0, ns0⟩ := hq4
  obtain ⟨LX, L1, L2, L3, L4⟩ := hLC
  have sz_cs : h0.size ≤ cs := Nat.le_trans K2.1 szs
  have g_cs : n0 ≤ cs := Nat.le_trans Z2 szs
  have sz_c0 : h0.size ≤ c0 := Nat.le_trans K2.1 sz0
  have g_c0 : n0 ≤ c0 := Nat.le_trans Z2 sz0
  have Z4 : n0 ≤ h4.size := Nat.le_trans Z2 Kc.1
  have KKc' : Keep h0 h4 [o] := K2.trans Kc (allS (Or.inr sz_ob2) all0)
  have ne_o_cs : o ≠ cs := Nat.ne_of_lt (Nat.lt_of_lt_of_le X3.lt szs)
  have ne_ob2_cs : ob2 ≠ cs := Nat.ne_of_lt (Nat.lt_of_lt_of_le X2.lt szs)
  have ne_o_c0 : o ≠ c0 := Nat.ne_of_lt (Nat.lt_of_lt_of_le X3.lt sz0)
  have ne_ob2_c0 : ob2 ≠ c0 := Nat.ne_of_lt (Nat.lt_of_lt_of_le X2.lt sz0)
  have B5 : OL Z h4 o [(.int (0 : Int32)), .null, (.int (0 : Int32)), (.int (0 : Int32)), (.int (0 : Int32)), .null, .null, .null, .null, .null, (.int (0 : Int32)), (.int (0 : Int32)), (.long (0 : Int64)), .null, (.int (0 : Int32)), .null] := ((B0.ext E2).keep Kc (ninS ne_o_ob2 nin0))
  have X6 : Exa Z h4 o "com/example/flat_planner/flatplanner/OpenList" := (X3.keep Kc)
  refine E_putfield (pc' := 16) (ty := (.object "com/example/flat_planner/flatplanner/LongColumn")) cx st4 (wd hw 41 rfl) (B5.at 1 (by decide) rfl rfl) X6 (Or.inr ⟨(wd hw 42 rfl), rfl, rfl⟩) (wd hw 1 rfl) (by decide) rfl rfl g_o d1_13 rfl ?_
  intro T7 h7 st7 W7
  have Z7 : n0 ≤ h7.size := Nat.le_trans Z4 (Keep.of_wr W7).1
  have K7 : Keep h0 h7 [o] := KKc'.wr W7 (mi 0 rfl)
  have B7w : OL Z h7 o [(.int (0 : Int32)), (.ref ob2), (.int (0 : Int32)), (.int (0 : Int32)), (.int (0 : Int32)), .null, .null, .null, .null, .null, (.int (0 : Int32)), (.int (0 : Int32)), (.long (0 : Int64)), .null, (.int (0 : Int32)), .null] := B5.wr hw 1 (by decide) rfl W7 (Nat.le_of_ble_eq_true rfl)
  refine E_aloadN (pc' := 17) cx st7 d1_16 rfl rfl rfl ?_
  refine E_iconst (pc' := 18) cx st7 (-1 : Int32) d1_17 rfl rfl ?_
  have X8 : Exa Z h7 o "com/example/flat_planner/flatplanner/OpenList" := (X6.wr W7)
  refine E_putfield (pc' := 21) (ty := .int) cx st7 (wd hw 43 rfl) (B7w.at 2 (by decide) rfl rfl) X8 (Or.inl (wd hw 44 rfl)) (wd hw 1 rfl) (by decide) rfl rfl g_o d1_18 rfl ?_
  intro T9 h9 st9 W9
  have Z9 : n0 ≤ h9.size := Nat.le_trans Z7 (Keep.of_wr W9).1
  have K9 : Keep h0 h9 [o] := K7.wr W9 (mi 0 rfl)
  have B9w : OL Z h9 o [(.int (0 : Int32)), (.ref ob2), (.int (-1 : Int32)), (.int (0 : Int32)), (.int (0 : Int32)), .null, .null, .null, .null, .null, (.int (0 : Int32)), (.int (0 : Int32)), (.long (0 : Int64)), .null, (.int (0 : Int32)), .null] := B7w.wr hw 2 (by decide) rfl W9 (Nat.le_of_ble_eq_true rfl)
  refine E_aloadN (pc' := 22) cx st9 d1_21 rfl rfl rfl ?_
  refine E_bipush (pc' := 24) cx st9 (16 : Int32) d1_22 rfl rfl ?_
  have X10 : Exa Z h9 o "com/example/flat_planner/flatplanner/OpenList" := (X8.wr W9)
  have X11 : Exa Z h9 ob2 "com/example/flat_planner/flatplanner/LongColumn" := (((X2.keep Kc).wr W7).wr W9)
  have V12 : Arv Z h9 cs kcs (.array .long) (1 : Int32) [(.ref c0)] .null := ((Vcs.other W7 (Ne.symm ne_o_cs)).other W9 (Ne.symm ne_o_cs))
  have V13 : Arv Z h9 c0 kc0 .long (16 : Int32) [(.long (0 : Int64)), (.long (0 : Int64)), (.long (0 : Int64)), (.long (0 : Int64)), (.long (0 : Int64)), (.long (0 : Int64)), (.long (0 : Int64)), (.long (0 : Int64)), (.long (0 : Int64)), (.long (0 : Int64)), (.long (0 : Int64)), (.long (0 : Int64)), (.long (0 : Int64)), (.long (0 : Int64)), (.long (0 : Int64)), (.long (0 : Int64))] (.long (0 : Int64)) := ((Vc0.other W7 (Ne.symm ne_o_c0)).other W9 (Ne.symm ne_o_c0))
  refine E_newP (pc' := 26) (kc' := 4) (ks' := 37) (cap := 16) cx st9 (wd hw 39 rfl) d1_24 (by decide) (by decide) (by decide) (by decide) (by decide) (by decide) (by decide) rfl (ad := "[J") (by decide) ?_
  intro T14 h14 ca14 ar14 eq14 st14 E14 V14 X14
  have g_ar14 : n0 ≤ ar14 := by rw [eq14]; exact Z9
  have ne_o_ar14 : o ≠ ar14 := by rw [eq14]; exact Nat.ne_of_lt X10.lt
  have ne_ob2_ar14 : ob2 ≠ ar14 := by rw [eq14]; exact Nat.ne_of_lt X11.lt
  have ne_cs_ar14 : cs ≠ ar14 := by rw [eq14]; exact Nat.ne_of_lt V12.lt
  have ne_c0_ar14 : c0 ≠ ar14 := by rw [eq14]; exact Nat.ne_of_lt V13.lt
  have sz_ar14 : h0.size ≤ ar14 := by rw [eq14]; exact K9.1
  have Z14 : n0 ≤ h14.size := Nat.le_trans Z9 E14.1
  have K14 : Keep h0 h14 [o] := K9.ext E14
  have V14p : Arv Z h14 ar14 ca14 .long (16 : Int32) [(.long (0 : Int64)), (.long (0 : Int64)), (.long (0 : Int64)), (.long (0 : Int64)), (.long (0 : Int64)), (.long (0 : Int64)), (.long (0 : Int64)), (.long (0 : Int64)), (.long (0 : Int64)), (.long (0 : Int64)), (.long (0 : Int64)), (.long (0 : Int64)), (.long (0 : Int64)), (.long (0 : Int64)), (.long (0 : Int64)), (.long (0 : Int64))] (.long (0 : Int64)) := V14.pad (pad_rep [] (.long (0 : Int64)) 16)
  have B15 : OL Z h14 o [(.int (0 : Int32)), (.ref ob2), (.int (-1 : Int32)), (.int (0 : Int32)), (.int (0 : Int32)), .null, .null, .null, .null, .null, (.int (0 : Int32)), (.int (0 : Int32)), (.long (0 : Int64)), .null, (.int (0 : Int32)), .null] := (B9w.ext E14)
  have X16 : Exa Z h14 o "com/example/flat_planner/flatplanner/OpenList" := (X10.ext E14)
  refine E_putfield (pc' := 29) (ty := (.array .long)) cx st14 (wd hw 45 rfl) (B15.at 5 (by decide) rfl rfl) X16 (Or.inl (wd hw 46 rfl)) (wd hw 1 rfl) (by decide) rfl rfl g_o d1_26 rfl ?_
  intro T17 h17 st17 W17
  have Z17 : n0 ≤ h17.size := Nat.le_trans Z14 (Keep.of_wr W17).1
  have K17 : Keep h0 h17 [o] := K14.wr W17 (mi 0 rfl)
  have B17w : OL Z h17 o [(.int (0 : Int32)), (.ref ob2), (.int (-1 : Int32)), (.int (0 : Int32)), (.int (0 : Int32)), (.ref ar14), .null, .null, .null, .null, (.int (0 : Int32)), (.int (0 : Int32)), (.long (0 : Int64)), .null, (.int (0 : Int32)), .null] := B15.wr hw 5 (by decide) rfl W17 (Nat.le_of_ble_eq_true rfl)
  refine E_aloadN (pc' := 30) cx st17 d1_29 rfl rfl rfl ?_
  refine E_bipush (pc' := 32) cx st17 (16 : Int32) d1_30 rfl rfl ?_
  have X18 : Exa Z h17 o "com/example/flat_planner/flatplanner/OpenList" := (X16.wr W17)
  have X19 : Exa Z h17 ob2 "com/example/flat_planner/flatplanner/LongColumn" := ((X11.ext E14).wr W17)
  have V20 : Arv Z h17 cs kcs (.array .long) (1 : Int32) [(.ref c0)] .null := ((V12.ext E14).other W17 (Ne.symm ne_o_cs))
  have V21 : Arv Z h17 c0 kc0 .long (16 : Int32) [(.long (0 : Int64)), (.long (0 : Int64)), (.long (0 : Int64)), (.long (0 : Int64)), (.long (0 : Int64)), (.long (0 : Int64)), (.long (0 : Int64)), (.long (0 : Int64)), (.long (0 : Int64)), (.long (0 : Int64)), (.long (0 : Int64)), (.long (0 : Int64)), (.long (0 : Int64)), (.long (0 : Int64)), (.long (0 : Int64)), (.long (0 : Int64))] (.long (0 : Int64)) := ((V13.ext E14).other W17 (Ne.symm ne_o_c0))
  have V22 : Arv Z h17 ar14 ca14 .long (16 : Int32) [(.long (0 : Int64)), (.long (0 : Int64)), (.long (0 : Int64)), (.long (0 : Int64)), (.long (0 : Int64)), (.long (0 : Int64)), (.long (0 : Int64)), (.long (0 : Int64)), (.long (0 : Int64)), (.long (0 : Int64)), (.long (0 : Int64)), (.long (0 : Int64)), (.long (0 : Int64)), (.long (0 : Int64)), (.long (0 : Int64)), (.long (0 : Int64))] (.long (0 : Int64)) := (V14p.other W17 (Ne.symm ne_o_ar14))
  refine E_newP (pc' := 34) (kc' := 5) (ks' := 53) (cap := 16) cx st17 (wd hw 39 rfl) d1_32 (by decide) (by decide) (by decide) (by decide) (by decide) (by decide) (by decide) rfl (ad := "[J") (by decide) ?_
  intro T23 h23 ca23 ar23 eq23 st23 E23 V23 X23
  have g_ar23 : n0 ≤ ar23 := by rw [eq23]; exact Z17
  have ne_o_ar23 : o ≠ ar23 := by rw [eq23]; exact Nat.ne_of_lt X18.lt
  have ne_ob2_ar23 : ob2 ≠ ar23 := by rw [eq23]; exact Nat.ne_of_lt X19.lt
  have ne_cs_ar23 : cs ≠ ar23 := by rw [eq23]; exact Nat.ne_of_lt V20.lt
  have ne_c0_ar23 : c0 ≠ ar23 := by rw [eq23]; exact Nat.ne_of_lt V21.lt
  have ne_ar14_ar23 : ar14 ≠ ar23 := by rw [eq23]; exact Nat.ne_of_lt V22.lt
  have sz_ar23 : h0.size ≤ ar23 := by rw [eq23]; exact K17.1
  have Z23 : n0 ≤ h23.size := Nat.le_trans Z17 E23.1
  have K23 : Keep h0 h23 [o] := K17.ext E23
  have V23p : Arv Z h23 ar23 ca23 .long (16 : Int32) [(.long (0 : Int64)), (.long (0 : Int64)), (.long (0 : Int64)), (.long (0 : Int64)), (.long (0 : Int64)), (.long (0 : Int64)), (.long (0 : Int64)), (.long (0 : Int64)), (.long (0 : Int64)), (.long (0 : Int64)), (.long (0 : Int64)), (.long (0 : Int64)), (.long (0 : Int64)), (.long (0 : Int64)), (.long (0 : Int64)), (.long (0 : Int64))] (.long (0 : Int64)) := V23.pad (pad_rep [] (.long (0 : Int64)) 16)
  have B24 : OL Z h23 o [(.int (0 : Int32)), (.ref ob2), (.int (-1 : Int32)), (.int (0 : Int32)), (.int (0 : Int32)), (.ref ar14), .null, .null, .null, .null, (.int (0 : Int32)), (.int (0 : Int32)), (.long (0 : Int64)), .null, (.int (0 : Int32)), .null] := (B17w.ext E23)
  have X25 : Exa Z h23 o "com/example/flat_planner/flatplanner/OpenList" := (X18.ext E23)
  refine E_putfield (pc' := 37) (ty := (.array .long)) cx st23 (wd hw 47 rfl) (B24.at 6 (by decide) rfl rfl) X25 (Or.inl (wd hw 48 rfl)) (wd hw 1 rfl) (by decide) rfl rfl g_o d1_34 rfl ?_
  intro T26 h26 st26 W26
  have Z26 : n0 ≤ h26.size := Nat.le_trans Z23 (Keep.of_wr W26).1
  have K26 : Keep h0 h26 [o] := K23.wr W26 (mi 0 rfl)
  have B26w : OL Z h26 o [(.int (0 : Int32)), (.ref ob2), (.int (-1 : Int32)), (.int (0 : Int32)), (.int (0 : Int32)), (.ref ar14), (.ref ar23), .null, .null, .null, (.int (0 : Int32)), (.int (0 : Int32)), (.long (0 : Int64)), .null, (.int (0 : Int32)), .null] := B24.wr hw 6 (by decide) rfl W26 (Nat.le_of_ble_eq_true rfl)
  refine E_aloadN (pc' := 38) cx st26 d1_37 rfl rfl rfl ?_
  refine E_bipush (pc' := 40) cx st26 (16 : Int32) d1_38 rfl rfl ?_
  have X27 : Exa Z h26 o "com/example/flat_planner/flatplanner/OpenList" := (X25.wr W26)
  have X28 : Exa Z h26 ob2 "com/example/flat_planner/flatplanner/LongColumn" := ((X19.ext E23).wr W26)
  have V29 : Arv Z h26 cs kcs (.array .long) (1 : Int32) [(.ref c0)] .null := ((V20.ext E23).other W26 (Ne.symm ne_o_cs))
  have V30 : Arv Z h26 c0 kc0 .long (16 : Int32) [(.long (0 : Int64)), (.long (0 : Int64)), (.long (0 : Int64)), (.long (0 : Int64)), (.long (0 : Int64)), (.long (0 : Int64)), (.long (0 : Int64)), (.long (0 : Int64)), (.long (0 : Int64)), (.long (0 : Int64)), (.long (0 : Int64)), (.long (0 : Int64)), (.long (0 : Int64)), (.long (0 : Int64)), (.long (0 : Int64)), (.long (0 : Int64))] (.long (0 : Int64)) := ((V21.ext E23).other W26 (Ne.symm ne_o_c0))
  have V31 : Arv Z h26 ar14 ca14 .long (16 : Int32) [(.long (0 : Int64)), (.long (0 : Int64)), (.long (0 : Int64)), (.long (0 : Int64)), (.long (0 : Int64)), (.long (0 : Int64)), (.long (0 : Int64)), (.long (0 : Int64)), (.long (0 : Int64)), (.long (0 : Int64)), (.long (0 : Int64)), (.long (0 : Int64)), (.long (0 : Int64)), (.long (0 : Int64)), (.long (0 : Int64)), (.long (0 : Int64))] (.long (0 : Int64)) := ((V22.ext E23).other W26 (Ne.symm ne_o_ar14))
  have V32 : Arv Z h26 ar23 ca23 .long (16 : Int32) [(.long (0 : Int64)), (.long (0 : Int64)), (.long (0 : Int64)), (.long (0 : Int64)), (.long (0 : Int64)), (.long (0 : Int64)), (.long (0 : Int64)), (.long (0 : Int64)), (.long (0 : Int64)), (.long (0 : Int64)), (.long (0 : Int64)), (.long (0 : Int64)), (.long (0 : Int64)), (.long (0 : Int64)), (.long (0 : Int64)), (.long (0 : Int64))] (.long (0 : Int64)) := (V23p.other W26 (Ne.symm ne_o_ar23))
  refine E_newP (pc' := 42) (kc' := 6) (ks' := 69) (cap := 16) cx st26 (wd hw 39 rfl) d1_40 (by decide) (by decide) (by decide) (by decide) (by decide) (by decide) (by decide) rfl (ad := "[J") (by decide) ?_
  intro T33 h33 ca33 ar33 eq33 st33 E33 V33 X33
  have g_ar33 : n0 ≤ ar33 := by rw [eq33]; exact Z26
  have ne_o_ar33 : o ≠ ar33 := by rw [eq33]; exact Nat.ne_of_lt X27.lt
  have ne_ob2_ar33 : ob2 ≠ ar33 := by rw [eq33]; exact Nat.ne_of_lt X28.lt
  have ne_cs_ar33 : cs ≠ ar33 := by rw [eq33]; exact Nat.ne_of_lt V29.lt
  have ne_c0_ar33 : c0 ≠ ar33 := by rw [eq33]; exact Nat.ne_of_lt V30.lt
  have ne_ar14_ar33 : ar14 ≠ ar33 := by rw [eq33]; exact Nat.ne_of_lt V31.lt
  have ne_ar23_ar33 : ar23 ≠ ar33 := by rw [eq33]; exact Nat.ne_of_lt V32.lt
  have sz_ar33 : h0.size ≤ ar33 := by rw [eq33]; exact K26.1
  have Z33 : n0 ≤ h33.size := Nat.le_trans Z26 E33.1
  have K33 : Keep h0 h33 [o] := K26.ext E33
  have V33p : Arv Z h33 ar33 ca33 .long (16 : Int32) [(.long (0 : Int64)), (.long (0 : Int64)), (.long (0 : Int64)), (.long (0 : Int64)), (.long (0 : Int64)), (.long (0 : Int64)), (.long (0 : Int64)), (.long (0 : Int64)), (.long (0 : Int64)), (.long (0 : Int64)), (.long (0 : Int64)), (.long (0 : Int64)), (.long (0 : Int64)), (.long (0 : Int64)), (.long (0 : Int64)), (.long (0 : Int64))] (.long (0 : Int64)) := V33.pad (pad_rep [] (.long (0 : Int64)) 16)
  have B34 : OL Z h33 o [(.int (0 : Int32)), (.ref ob2), (.int (-1 : Int32)), (.int (0 : Int32)), (.int (0 : Int32)), (.ref ar14), (.ref ar23), .null, .null, .null, (.int (0 : Int32)), (.int (0 : Int32)), (.long (0 : Int64)), .null, (.int (0 : Int32)), .null] := (B26w.ext E33)
  have X35 : Exa Z h33 o "com/example/flat_planner/flatplanner/OpenList" := (X27.ext E33)
  refine E_putfield (pc' := 45) (ty := (.array .long)) cx st33 (wd hw 49 rfl) (B34.at 7 (by decide) rfl rfl) X35 (Or.inl (wd hw 50 rfl)) (wd hw 1 rfl) (by decide) rfl rfl g_o d1_42 rfl ?_
  intro T36 h36 st36 W36
  have Z36 : n0 ≤ h36.size := Nat.le_trans Z33 (Keep.of_wr W36).1
  have K36 : Keep h0 h36 [o] := K33.wr W36 (mi 0 rfl)
  have B36w : OL Z h36 o [(.int (0 : Int32)), (.ref ob2), (.int (-1 : Int32)), (.int (0 : Int32)), (.int (0 : Int32)), (.ref ar14), (.ref ar23), (.ref ar33), .null, .null, (.int (0 : Int32)), (.int (0 : Int32)), (.long (0 : Int64)), .null, (.int (0 : Int32)), .null] := B34.wr hw 7 (by decide) rfl W36 (Nat.le_of_ble_eq_true rfl)
  refine E_aloadN (pc' := 46) cx st36 d1_45 rfl rfl rfl ?_
  refine E_bipush (pc' := 48) cx st36 (16 : Int32) d1_46 rfl rfl ?_
  have X37 : Exa Z h36 o "com/example/flat_planner/flatplanner/OpenList" := (X35.wr W36)
  have X38 : Exa Z h36 ob2 "com/example/flat_planner/flatplanner/LongColumn" := ((X28.ext E33).wr W36)
  have V39 : Arv Z h36 cs kcs (.array .long) (1 : Int32) [(.ref c0)] .null := ((V29.ext E33).other W36 (Ne.symm ne_o_cs))
  have V40 : Arv Z h36 c0 kc0 .long (16 : Int32) [(.long (0 : Int64)), (.long (0 : Int64)), (.long (0 : Int64)), (.long (0 : Int64)), (.long (0 : Int64)), (.long (0 : Int64)), (.long (0 : Int64)), (.long (0 : Int64)), (.long (0 : Int64)), (.long (0 : Int64)), (.long (0 : Int64)), (.long (0 : Int64)), (.long (0 : Int64)), (.long (0 : Int64)), (.long (0 : Int64)), (.long (0 : Int64))] (.long (0 : Int64)) := ((V30.ext E33).other W36 (Ne.symm ne_o_c0))
  have V41 : Arv Z h36 ar14 ca14 .long (16 : Int32) [(.long (0 : Int64)), (.long (0 : Int64)), (.long (0 : Int64)), (.long (0 : Int64)), (.long (0 : Int64)), (.long (0 : Int64)), (.long (0 : Int64)), (.long (0 : Int64)), (.long (0 : Int64)), (.long (0 : Int64)), (.long (0 : Int64)), (.long (0 : Int64)), (.long (0 : Int64)), (.long (0 : Int64)), (.long (0 : Int64)), (.long (0 : Int64))] (.long (0 : Int64)) := ((V31.ext E33).other W36 (Ne.symm ne_o_ar14))
  have V42 : Arv Z h36 ar23 ca23 .long (16 : Int32) [(.long (0 : Int64)), (.long (0 : Int64)), (.long (0 : Int64)), (.long (0 : Int64)), (.long (0 : Int64)), (.long (0 : Int64)), (.long (0 : Int64)), (.long (0 : Int64)), (.long (0 : Int64)), (.long (0 : Int64)), (.long (0 : Int64)), (.long (0 : Int64)), (.long (0 : Int64)), (.long (0 : Int64)), (.long (0 : Int64)), (.long (0 : Int64))] (.long (0 : Int64)) := ((V32.ext E33).other W36 (Ne.symm ne_o_ar23))
  have V43 : Arv Z h36 ar33 ca33 .long (16 : Int32) [(.long (0 : Int64)), (.long (0 : Int64)), (.long (0 : Int64)), (.long (0 : Int64)), (.long (0 : Int64)), (.long (0 : Int64)), (.long (0 : Int64)), (.long (0 : Int64)), (.long (0 : Int64)), (.long (0 : Int64)), (.long (0 : Int64)), (.long (0 : Int64)), (.long (0 : Int64)), (.long (0 : Int64)), (.long (0 : Int64)), (.long (0 : Int64))] (.long (0 : Int64)) := (V33p.other W36 (Ne.symm ne_o_ar33))
  refine E_newP (pc' := 50) (kc' := 7) (ks' := 85) (cap := 16) cx st36 (wd hw 51 rfl) d1_48 (by decide) (by decide) (by decide) (by decide) (by decide) (by decide) (by decide) rfl (ad := "[I") (by decide) ?_
  intro T44 h44 ca44 ar44 eq44 st44 E44 V44 X44
  have g_ar44 : n0 ≤ ar44 := by rw [eq44]; exact Z36
  have ne_o_ar44 : o ≠ ar44 := by rw [eq44]; exact Nat.ne_of_lt X37.lt
  have ne_ob2_ar44 : ob2 ≠ ar44 := by rw [eq44]; exact Nat.ne_of_lt X38.lt
  have ne_cs_ar44 : cs ≠ ar44 := by rw [eq44]; exact Nat.ne_of_lt V39.lt
  have ne_c0_ar44 : c0 ≠ ar44 := by rw [eq44]; exact Nat.ne_of_lt V40.lt
  have ne_ar14_ar44 : ar14 ≠ ar44 := by rw [eq44]; exact Nat.ne_of_lt V41.lt
  have ne_ar23_ar44 : ar23 ≠ ar44 := by rw [eq44]; exact Nat.ne_of_lt V42.lt
  have ne_ar33_ar44 : ar33 ≠ ar44 := by rw [eq44]; exact Nat.ne_of_lt V43.lt
  have sz_ar44 : h0.size ≤ ar44 := by rw [eq44]; exact K36.1
  have Z44 : n0 ≤ h44.size := Nat.le_trans Z36 E44.1
  have K44 : Keep h0 h44 [o] := K36.ext E44
  have V44p : Arv Z h44 ar44 ca44 .int (16 : Int32) [(.int (0 : Int32)), (.int (0 : Int32)), (.int (0 : Int32)), (.int (0 : Int32)), (.int (0 : Int32)), (.int (0 : Int32)), (.int (0 : Int32)), (.int (0 : Int32)), (.int (0 : Int32)), (.int (0 : Int32)), (.int (0 : Int32)), (.int (0 : Int32)), (.int (0 : Int32)), (.int (0 : Int32)), (.int (0 : Int32)), (.int (0 : Int32))] (.int (0 : Int32)) := V44.pad (pad_rep [] (.int (0 : Int32)) 16)
  have B45 : OL Z h44 o [(.int (0 : Int32)), (.ref ob2), (.int (-1 : Int32)), (.int (0 : Int32)), (.int (0 : Int32)), (.ref ar14), (.ref ar23), (.ref ar33), .null, .null, (.int (0 : Int32)), (.int (0 : Int32)), (.long (0 : Int64)), .null, (.int (0 : Int32)), .null] := (B36w.ext E44)
  have X46 : Exa Z h44 o "com/example/flat_planner/flatplanner/OpenList" := (X37.ext E44)
  refine E_putfield (pc' := 53) (ty := (.array .int)) cx st44 (wd hw 52 rfl) (B45.at 8 (by decide) rfl rfl) X46 (Or.inl (wd hw 53 rfl)) (wd hw 1 rfl) (by decide) rfl rfl g_o d1_50 rfl ?_
  intro T47 h47 st47 W47
  have Z47 : n0 ≤ h47.size := Nat.le_trans Z44 (Keep.of_wr W47).1
  have K47 : Keep h0 h47 [o] := K44.wr W47 (mi 0 rfl)
  have B47w : OL Z h47 o [(.int (0 : Int32)), (.ref ob2), (.int (-1 : Int32)), (.int (0 : Int32)), (.int (0 : Int32)), (.ref ar14), (.ref ar23), (.ref ar33), (.ref ar44), .null, (.int (0 : Int32)), (.int (0 : Int32)), (.long (0 : Int64)), .null, (.int (0 : Int32)), .null] := B45.wr hw 8 (by decide) rfl W47 (Nat.le_of_ble_eq_true rfl)
  refine E_aloadN (pc' := 54) cx st47 d1_53 rfl rfl rfl ?_
  refine E_bipush (pc' := 56) cx st47 (16 : Int32) d1_54 rfl rfl ?_
  have X48 : Exa Z h47 o "com/example/flat_planner/flatplanner/OpenList" := (X46.wr W47)
  have X49 : Exa Z h47 ob2 "com/example/flat_planner/flatplanner/LongColumn" := ((X38.ext E44).wr W47)
  have V50 : Arv Z h47 cs kcs (.array .long) (1 : Int32) [(.ref c0)] .null := ((V39.ext E44).other W47 (Ne.symm ne_o_cs))
  have V51 : Arv Z h47 c0 kc0 .long (16 : Int32) [(.long (0 : Int64)), (.long (0 : Int64)), (.long (0 : Int64)), (.long (0 : Int64)), (.long (0 : Int64)), (.long (0 : Int64)), (.long (0 : Int64)), (.long (0 : Int64)), (.long (0 : Int64)), (.long (0 : Int64)), (.long (0 : Int64)), (.long (0 : Int64)), (.long (0 : Int64)), (.long (0 : Int64)), (.long (0 : Int64)), (.long (0 : Int64))] (.long (0 : Int64)) := ((V40.ext E44).other W47 (Ne.symm ne_o_c0))
  have V52 : Arv Z h47 ar14 ca14 .long (16 : Int32) [(.long (0 : Int64)), (.long (0 : Int64)), (.long (0 : Int64)), (.long (0 : Int64)), (.long (0 : Int64)), (.long (0 : Int64)), (.long (0 : Int64)), (.long (0 : Int64)), (.long (0 : Int64)), (.long (0 : Int64)), (.long (0 : Int64)), (.long (0 : Int64)), (.long (0 : Int64)), (.long (0 : Int64)), (.long (0 : Int64)), (.long (0 : Int64))] (.long (0 : Int64)) := ((V41.ext E44).other W47 (Ne.symm ne_o_ar14))
  have V53 : Arv Z h47 ar23 ca23 .long (16 : Int32) [(.long (0 : Int64)), (.long (0 : Int64)), (.long (0 : Int64)), (.long (0 : Int64)), (.long (0 : Int64)), (.long (0 : Int64)), (.long (0 : Int64)), (.long (0 : Int64)), (.long (0 : Int64)), (.long (0 : Int64)), (.long (0 : Int64)), (.long (0 : Int64)), (.long (0 : Int64)), (.long (0 : Int64)), (.long (0 : Int64)), (.long (0 : Int64))] (.long (0 : Int64)) := ((V42.ext E44).other W47 (Ne.symm ne_o_ar23))
  have V54 : Arv Z h47 ar33 ca33 .long (16 : Int32) [(.long (0 : Int64)), (.long (0 : Int64)), (.long (0 : Int64)), (.long (0 : Int64)), (.long (0 : Int64)), (.long (0 : Int64)), (.long (0 : Int64)), (.long (0 : Int64)), (.long (0 : Int64)), (.long (0 : Int64)), (.long (0 : Int64)), (.long (0 : Int64)), (.long (0 : Int64)), (.long (0 : Int64)), (.long (0 : Int64)), (.long (0 : Int64))] (.long (0 : Int64)) := ((V43.ext E44).other W47 (Ne.symm ne_o_ar33))
  have V55 : Arv Z h47 ar44 ca44 .int (16 : Int32) [(.int (0 : Int32)), (.int (0 : Int32)), (.int (0 : Int32)), (.int (0 : Int32)), (.int (0 : Int32)), (.int (0 : Int32)), (.int (0 : Int32)), (.int (0 : Int32)), (.int (0 : Int32)), (.int (0 : Int32)), (.int (0 : Int32)), (.int (0 : Int32)), (.int (0 : Int32)), (.int (0 : Int32)), (.int (0 : Int32)), (.int (0 : Int32))] (.int (0 : Int32)) := (V44p.other W47 (Ne.symm ne_o_ar44))
  refine E_newP (pc' := 58) (kc' := 8) (ks' := 101) (cap := 16) cx st47 (wd hw 51 rfl) d1_56 (by decide) (by decide) (by decide) (by decide) (by decide) (by decide) (by decide) rfl (ad := "[I") (by decide) ?_
  intro T56 h56 ca56 ar56 eq56 st56 E56 V56 X56
  have g_ar56 : n0 ≤ ar56 := by rw [eq56]; exact Z47
  have ne_o_ar56 : o ≠ ar56 := by rw [eq56]; exact Nat.ne_of_lt X48.lt
  have ne_ob2_ar56 : ob2 ≠ ar56 := by rw [eq56]; exact Nat.ne_of_lt X49.lt
  have ne_cs_ar56 : cs ≠ ar56 := by rw [eq56]; exact Nat.ne_of_lt V50.lt
  have ne_c0_ar56 : c0 ≠ ar56 := by rw [eq56]; exact Nat.ne_of_lt V51.lt
  have ne_ar14_ar56 : ar14 ≠ ar56 := by rw [eq56]; exact Nat.ne_of_lt V52.lt
  have ne_ar23_ar56 : ar23 ≠ ar56 := by rw [eq56]; exact Nat.ne_of_lt V53.lt
  have ne_ar33_ar56 : ar33 ≠ ar56 := by rw [eq56]; exact Nat.ne_of_lt V54.lt
  have ne_ar44_ar56 : ar44 ≠ ar56 := by rw [eq56]; exact Nat.ne_of_lt V55.lt
  have sz_ar56 : h0.size ≤ ar56 := by rw [eq56]; exact K47.1
  have Z56 : n0 ≤ h56.size := Nat.le_trans Z47 E56.1
  have K56 : Keep h0 h56 [o] := K47.ext E56
  have V56p : Arv Z h56 ar56 ca56 .int (16 : Int32) [(.int (0 : Int32)), (.int (0 : Int32)), (.int (0 : Int32)), (.int (0 : Int32)), (.int (0 : Int32)), (.int (0 : Int32)), (.int (0 : Int32)), (.int (0 : Int32)), (.int (0 : Int32)), (.int (0 : Int32)), (.int (0 : Int32)), (.int (0 : Int32)), (.int (0 : Int32)), (.int (0 : Int32)), (.int (0 : Int32)), (.int (0 : Int32))] (.int (0 : Int32)) := V56.pad (pad_rep [] (.int (0 : Int32)) 16)
  have B57 : OL Z h56 o [(.int (0 : Int32)), (.ref ob2), (.int (-1 : Int32)), (.int (0 : Int32)), (.int (0 : Int32)), (.ref ar14), (.ref ar23), (.ref ar33), (.ref ar44), .null, (.int (0 : Int32)), (.int (0 : Int32)), (.long (0 : Int64)), .null, (.int (0 : Int32)), .null] := (B47w.ext E56)
  have X58 : Exa Z h56 o "com/example/flat_planner/flatplanner/OpenList" := (X48.ext E56)
  refine E_putfield (pc' := 61) (ty := (.array .int)) cx st56 (wd hw 54 rfl) (B57.at 9 (by decide) rfl rfl) X58 (Or.inl (wd hw 55 rfl)) (wd hw 1 rfl) (by decide) rfl rfl g_o d1_58 rfl ?_
  intro T59 h59 st59 W59
  have Z59 : n0 ≤ h59.size := Nat.le_trans Z56 (Keep.of_wr W59).1
  have K59 : Keep h0 h59 [o] := K56.wr W59 (mi 0 rfl)
  have B59w : OL Z h59 o [(.int (0 : Int32)), (.ref ob2), (.int (-1 : Int32)), (.int (0 : Int32)), (.int (0 : Int32)), (.ref ar14), (.ref ar23), (.ref ar33), (.ref ar44), (.ref ar56), (.int (0 : Int32)), (.int (0 : Int32)), (.long (0 : Int64)), .null, (.int (0 : Int32)), .null] := B57.wr hw 9 (by decide) rfl W59 (Nat.le_of_ble_eq_true rfl)
  refine E_aloadN (pc' := 62) cx st59 d1_61 rfl rfl rfl ?_
  refine E_iconst (pc' := 63) cx st59 (-1 : Int32) d1_62 rfl rfl ?_
  have X60 : Exa Z h59 o "com/example/flat_planner/flatplanner/OpenList" := (X58.wr W59)
  refine E_putfield (pc' := 66) (ty := .int) cx st59 (wd hw 56 rfl) (B59w.at 10 (by decide) rfl rfl) X60 (Or.inl (wd hw 57 rfl)) (wd hw 1 rfl) (by decide) rfl rfl g_o d1_63 rfl ?_
  intro T61 h61 st61 W61
  have Z61 : n0 ≤ h61.size := Nat.le_trans Z59 (Keep.of_wr W61).1
  have K61 : Keep h0 h61 [o] := K59.wr W61 (mi 0 rfl)
  have B61w : OL Z h61 o [(.int (0 : Int32)), (.ref ob2), (.int (-1 : Int32)), (.int (0 : Int32)), (.int (0 : Int32)), (.ref ar14), (.ref ar23), (.ref ar33), (.ref ar44), (.ref ar56), (.int (-1 : Int32)), (.int (0 : Int32)), (.long (0 : Int64)), .null, (.int (0 : Int32)), .null] := B59w.wr hw 10 (by decide) rfl W61 (Nat.le_of_ble_eq_true rfl)
  refine E_aloadN (pc' := 67) cx st61 d1_66 rfl rfl rfl ?_
  refine E_bipush (pc' := 69) cx st61 (16 : Int32) d1_67 rfl rfl ?_
  have X62 : Exa Z h61 o "com/example/flat_planner/flatplanner/OpenList" := (X60.wr W61)
  have X63 : Exa Z h61 ob2 "com/example/flat_planner/flatplanner/LongColumn" := (((X49.ext E56).wr W59).wr W61)
  have V64 : Arv Z h61 cs kcs (.array .long) (1 : Int32) [(.ref c0)] .null := (((V50.ext E56).other W59 (Ne.symm ne_o_cs)).other W61 (Ne.symm ne_o_cs))
  have V65 : Arv Z h61 c0 kc0 .long (16 : Int32) [(.long (0 : Int64)), (.long (0 : Int64)), (.long (0 : Int64)), (.long (0 : Int64)), (.long (0 : Int64)), (.long (0 : Int64)), (.long (0 : Int64)), (.long (0 : Int64)), (.long (0 : Int64)), (.long (0 : Int64)), (.long (0 : Int64)), (.long (0 : Int64)), (.long (0 : Int64)), (.long (0 : Int64)), (.long (0 : Int64)), (.long (0 : Int64))] (.long (0 : Int64)) := (((V51.ext E56).other W59 (Ne.symm ne_o_c0)).other W61 (Ne.symm ne_o_c0))
  have V66 : Arv Z h61 ar14 ca14 .long (16 : Int32) [(.long (0 : Int64)), (.long (0 : Int64)), (.long (0 : Int64)), (.long (0 : Int64)), (.long (0 : Int64)), (.long (0 : Int64)), (.long (0 : Int64)), (.long (0 : Int64)), (.long (0 : Int64)), (.long (0 : Int64)), (.long (0 : Int64)), (.long (0 : Int64)), (.long (0 : Int64)), (.long (0 : Int64)), (.long (0 : Int64)), (.long (0 : Int64))] (.long (0 : Int64)) := (((V52.ext E56).other W59 (Ne.symm ne_o_ar14)).other W61 (Ne.symm ne_o_ar14))
  have V67 : Arv Z h61 ar23 ca23 .long (16 : Int32) [(.long (0 : Int64)), (.long (0 : Int64)), (.long (0 : Int64)), (.long (0 : Int64)), (.long (0 : Int64)), (.long (0 : Int64)), (.long (0 : Int64)), (.long (0 : Int64)), (.long (0 : Int64)), (.long (0 : Int64)), (.long (0 : Int64)), (.long (0 : Int64)), (.long (0 : Int64)), (.long (0 : Int64)), (.long (0 : Int64)), (.long (0 : Int64))] (.long (0 : Int64)) := (((V53.ext E56).other W59 (Ne.symm ne_o_ar23)).other W61 (Ne.symm ne_o_ar23))
  have V68 : Arv Z h61 ar33 ca33 .long (16 : Int32) [(.long (0 : Int64)), (.long (0 : Int64)), (.long (0 : Int64)), (.long (0 : Int64)), (.long (0 : Int64)), (.long (0 : Int64)), (.long (0 : Int64)), (.long (0 : Int64)), (.long (0 : Int64)), (.long (0 : Int64)), (.long (0 : Int64)), (.long (0 : Int64)), (.long (0 : Int64)), (.long (0 : Int64)), (.long (0 : Int64)), (.long (0 : Int64))] (.long (0 : Int64)) := (((V54.ext E56).other W59 (Ne.symm ne_o_ar33)).other W61 (Ne.symm ne_o_ar33))
  have V69 : Arv Z h61 ar44 ca44 .int (16 : Int32) [(.int (0 : Int32)), (.int (0 : Int32)), (.int (0 : Int32)), (.int (0 : Int32)), (.int (0 : Int32)), (.int (0 : Int32)), (.int (0 : Int32)), (.int (0 : Int32)), (.int (0 : Int32)), (.int (0 : Int32)), (.int (0 : Int32)), (.int (0 : Int32)), (.int (0 : Int32)), (.int (0 : Int32)), (.int (0 : Int32)), (.int (0 : Int32))] (.int (0 : Int32)) := (((V55.ext E56).other W59 (Ne.symm ne_o_ar44)).other W61 (Ne.symm ne_o_ar44))
  have V70 : Arv Z h61 ar56 ca56 .int (16 : Int32) [(.int (0 : Int32)), (.int (0 : Int32)), (.int (0 : Int32)), (.int (0 : Int32)), (.int (0 : Int32)), (.int (0 : Int32)), (.int (0 : Int32)), (.int (0 : Int32)), (.int (0 : Int32)), (.int (0 : Int32)), (.int (0 : Int32)), (.int (0 : Int32)), (.int (0 : Int32)), (.int (0 : Int32)), (.int (0 : Int32)), (.int (0 : Int32))] (.int (0 : Int32)) := ((V56p.other W59 (Ne.symm ne_o_ar56)).other W61 (Ne.symm ne_o_ar56))
  refine E_newP (pc' := 71) (kc' := 9) (ks' := 117) (cap := 16) cx st61 (wd hw 51 rfl) d1_69 (by decide) (by decide) (by decide) (by decide) (by decide) (by decide) (by decide) rfl (ad := "[I") (by decide) ?_
  intro T71 h71 ca71 ar71 eq71 st71 E71 V71 X71
  have g_ar71 : n0 ≤ ar71 := by rw [eq71]; exact Z61
  have ne_o_ar71 : o ≠ ar71 := by rw [eq71]; exact Nat.ne_of_lt X62.lt
  have ne_ob2_ar71 : ob2 ≠ ar71 := by rw [eq71]; exact Nat.ne_of_lt X63.lt
  have ne_cs_ar71 : cs ≠ ar71 := by rw [eq71]; exact Nat.ne_of_lt V64.lt
  have ne_c0_ar71 : c0 ≠ ar71 := by rw [eq71]; exact Nat.ne_of_lt V65.lt
  have ne_ar14_ar71 : ar14 ≠ ar71 := by rw [eq71]; exact Nat.ne_of_lt V66.lt
  have ne_ar23_ar71 : ar23 ≠ ar71 := by rw [eq71]; exact Nat.ne_of_lt V67.lt
  have ne_ar33_ar71 : ar33 ≠ ar71 := by rw [eq71]; exact Nat.ne_of_lt V68.lt
  have ne_ar44_ar71 : ar44 ≠ ar71 := by rw [eq71]; exact Nat.ne_of_lt V69.lt
  have ne_ar56_ar71 : ar56 ≠ ar71 := by rw [eq71]; exact Nat.ne_of_lt V70.lt
  have sz_ar71 : h0.size ≤ ar71 := by rw [eq71]; exact K61.1
  have Z71 : n0 ≤ h71.size := Nat.le_trans Z61 E71.1
  have K71 : Keep h0 h71 [o] := K61.ext E71
  have V71p : Arv Z h71 ar71 ca71 .int (16 : Int32) [(.int (0 : Int32)), (.int (0 : Int32)), (.int (0 : Int32)), (.int (0 : Int32)), (.int (0 : Int32)), (.int (0 : Int32)), (.int (0 : Int32)), (.int (0 : Int32)), (.int (0 : Int32)), (.int (0 : Int32)), (.int (0 : Int32)), (.int (0 : Int32)), (.int (0 : Int32)), (.int (0 : Int32)), (.int (0 : Int32)), (.int (0 : Int32))] (.int (0 : Int32)) := V71.pad (pad_rep [] (.int (0 : Int32)) 16)
  have B72 : OL Z h71 o [(.int (0 : Int32)), (.ref ob2), (.int (-1 : Int32)), (.int (0 : Int32)), (.int (0 : Int32)), (.ref ar14), (.ref ar23), (.ref ar33), (.ref ar44), (.ref ar56), (.int (-1 : Int32)), (.int (0 : Int32)), (.long (0 : Int64)), .null, (.int (0 : Int32)), .null] := (B61w.ext E71)
  have X73 : Exa Z h71 o "com/example/flat_planner/flatplanner/OpenList" := (X62.ext E71)
  refine E_putfield (pc' := 74) (ty := (.array .int)) cx st71 (wd hw 58 rfl) (B72.at 13 (by decide) rfl rfl) X73 (Or.inl (wd hw 59 rfl)) (wd hw 1 rfl) (by decide) rfl rfl g_o d1_71 rfl ?_
  intro T74 h74 st74 W74
  have Z74 : n0 ≤ h74.size := Nat.le_trans Z71 (Keep.of_wr W74).1
  have K74 : Keep h0 h74 [o] := K71.wr W74 (mi 0 rfl)
  have B74w : OL Z h74 o [(.int (0 : Int32)), (.ref ob2), (.int (-1 : Int32)), (.int (0 : Int32)), (.int (0 : Int32)), (.ref ar14), (.ref ar23), (.ref ar33), (.ref ar44), (.ref ar56), (.int (-1 : Int32)), (.int (0 : Int32)), (.long (0 : Int64)), (.ref ar71), (.int (0 : Int32)), .null] := B72.wr hw 13 (by decide) rfl W74 (Nat.le_of_ble_eq_true rfl)
  refine E_aloadN (pc' := 75) cx st74 d1_74 rfl rfl rfl ?_
  refine E_bipush (pc' := 77) cx st74 (32 : Int32) d1_75 rfl rfl ?_
  have X75 : Exa Z h74 o "com/example/flat_planner/flatplanner/OpenList" := (X73.wr W74)
  have X76 : Exa Z h74 ob2 "com/example/flat_planner/flatplanner/LongColumn" := ((X63.ext E71).wr W74)
  have V77 : Arv Z h74 cs kcs (.array .long) (1 : Int32) [(.ref c0)] .null := ((V64.ext E71).other W74 (Ne.symm ne_o_cs))
  have V78 : Arv Z h74 c0 kc0 .long (16 : Int32) [(.long (0 : Int64)), (.long (0 : Int64)), (.long (0 : Int64)), (.long (0 : Int64)), (.long (0 : Int64)), (.long (0 : Int64)), (.long (0 : Int64)), (.long (0 : Int64)), (.long (0 : Int64)), (.long (0 : Int64)), (.long (0 : Int64)), (.long (0 : Int64)), (.long (0 : Int64)), (.long (0 : Int64)), (.long (0 : Int64)), (.long (0 : Int64))] (.long (0 : Int64)) := ((V65.ext E71).other W74 (Ne.symm ne_o_c0))
  have V79 : Arv Z h74 ar14 ca14 .long (16 : Int32) [(.long (0 : Int64)), (.long (0 : Int64)), (.long (0 : Int64)), (.long (0 : Int64)), (.long (0 : Int64)), (.long (0 : Int64)), (.long (0 : Int64)), (.long (0 : Int64)), (.long (0 : Int64)), (.long (0 : Int64)), (.long (0 : Int64)), (.long (0 : Int64)), (.long (0 : Int64)), (.long (0 : Int64)), (.long (0 : Int64)), (.long (0 : Int64))] (.long (0 : Int64)) := ((V66.ext E71).other W74 (Ne.symm ne_o_ar14))
  have V80 : Arv Z h74 ar23 ca23 .long (16 : Int32) [(.long (0 : Int64)), (.long (0 : Int64)), (.long (0 : Int64)), (.long (0 : Int64)), (.long (0 : Int64)), (.long (0 : Int64)), (.long (0 : Int64)), (.long (0 : Int64)), (.long (0 : Int64)), (.long (0 : Int64)), (.long (0 : Int64)), (.long (0 : Int64)), (.long (0 : Int64)), (.long (0 : Int64)), (.long (0 : Int64)), (.long (0 : Int64))] (.long (0 : Int64)) := ((V67.ext E71).other W74 (Ne.symm ne_o_ar23))
  have V81 : Arv Z h74 ar33 ca33 .long (16 : Int32) [(.long (0 : Int64)), (.long (0 : Int64)), (.long (0 : Int64)), (.long (0 : Int64)), (.long (0 : Int64)), (.long (0 : Int64)), (.long (0 : Int64)), (.long (0 : Int64)), (.long (0 : Int64)), (.long (0 : Int64)), (.long (0 : Int64)), (.long (0 : Int64)), (.long (0 : Int64)), (.long (0 : Int64)), (.long (0 : Int64)), (.long (0 : Int64))] (.long (0 : Int64)) := ((V68.ext E71).other W74 (Ne.symm ne_o_ar33))
  have V82 : Arv Z h74 ar44 ca44 .int (16 : Int32) [(.int (0 : Int32)), (.int (0 : Int32)), (.int (0 : Int32)), (.int (0 : Int32)), (.int (0 : Int32)), (.int (0 : Int32)), (.int (0 : Int32)), (.int (0 : Int32)), (.int (0 : Int32)), (.int (0 : Int32)), (.int (0 : Int32)), (.int (0 : Int32)), (.int (0 : Int32)), (.int (0 : Int32)), (.int (0 : Int32)), (.int (0 : Int32))] (.int (0 : Int32)) := ((V69.ext E71).other W74 (Ne.symm ne_o_ar44))
  have V83 : Arv Z h74 ar56 ca56 .int (16 : Int32) [(.int (0 : Int32)), (.int (0 : Int32)), (.int (0 : Int32)), (.int (0 : Int32)), (.int (0 : Int32)), (.int (0 : Int32)), (.int (0 : Int32)), (.int (0 : Int32)), (.int (0 : Int32)), (.int (0 : Int32)), (.int (0 : Int32)), (.int (0 : Int32)), (.int (0 : Int32)), (.int (0 : Int32)), (.int (0 : Int32)), (.int (0 : Int32))] (.int (0 : Int32)) := ((V70.ext E71).other W74 (Ne.symm ne_o_ar56))
  have V84 : Arv Z h74 ar71 ca71 .int (16 : Int32) [(.int (0 : Int32)), (.int (0 : Int32)), (.int (0 : Int32)), (.int (0 : Int32)), (.int (0 : Int32)), (.int (0 : Int32)), (.int (0 : Int32)), (.int (0 : Int32)), (.int (0 : Int32)), (.int (0 : Int32)), (.int (0 : Int32)), (.int (0 : Int32)), (.int (0 : Int32)), (.int (0 : Int32)), (.int (0 : Int32)), (.int (0 : Int32))] (.int (0 : Int32)) := (V71p.other W74 (Ne.symm ne_o_ar71))
  refine E_newP (pc' := 79) (kc' := 10) (ks' := 149) (cap := 32) cx st74 (wd hw 51 rfl) d1_77 (by decide) (by decide) (by decide) (by decide) (by decide) (by decide) (by decide) rfl (ad := "[I") (by decide) ?_
  intro T85 h85 ca85 ar85 eq85 st85 E85 V85 X85
  have g_ar85 : n0 ≤ ar85 := by rw [eq85]; exact Z74
  have ne_o_ar85 : o ≠ ar85 := by rw [eq85]; exact Nat.ne_of_lt X75.lt
  have ne_ob2_ar85 : ob2 ≠ ar85 := by rw [eq85]; exact Nat.ne_of_lt X76.lt
  have ne_cs_ar85 : cs ≠ ar85 := by rw [eq85]; exact Nat.ne_of_lt V77.lt
  have ne_c0_ar85 : c0 ≠ ar85 := by rw [eq85]; exact Nat.ne_of_lt V78.lt
  have ne_ar14_ar85 : ar14 ≠ ar85 := by rw [eq85]; exact Nat.ne_of_lt V79.lt
  have ne_ar23_ar85 : ar23 ≠ ar85 := by rw [eq85]; exact Nat.ne_of_lt V80.lt
  have ne_ar33_ar85 : ar33 ≠ ar85 := by rw [eq85]; exact Nat.ne_of_lt V81.lt
  have ne_ar44_ar85 : ar44 ≠ ar85 := by rw [eq85]; exact Nat.ne_of_lt V82.lt
  have ne_ar56_ar85 : ar56 ≠ ar85 := by rw [eq85]; exact Nat.ne_of_lt V83.lt
  have ne_ar71_ar85 : ar71 ≠ ar85 := by rw [eq85]; exact Nat.ne_of_lt V84.lt
  have sz_ar85 : h0.size ≤ ar85 := by rw [eq85]; exact K74.1
  have Z85 : n0 ≤ h85.size := Nat.le_trans Z74 E85.1
  have K85 : Keep h0 h85 [o] := K74.ext E85
  have V85p : Arv Z h85 ar85 ca85 .int (32 : Int32) [(.int (0 : Int32)), (.int (0 : Int32)), (.int (0 : Int32)), (.int (0 : Int32)), (.int (0 : Int32)), (.int (0 : Int32)), (.int (0 : Int32)), (.int (0 : Int32)), (.int (0 : Int32)), (.int (0 : Int32)), (.int (0 : Int32)), (.int (0 : Int32)), (.int (0 : Int32)), (.int (0 : Int32)), (.int (0 : Int32)), (.int (0 : Int32)), (.int (0 : Int32)), (.int (0 : Int32)), (.int (0 : Int32)), (.int (0 : Int32)), (.int (0 : Int32)), (.int (0 : Int32)), (.int (0 : Int32)), (.int (0 : Int32)), (.int (0 : Int32)), (.int (0 : Int32)), (.int (0 : Int32)), (.int (0 : Int32)), (.int (0 : Int32)), (.int (0 : Int32)), (.int (0 : Int32)), (.int (0 : Int32))] (.int (0 : Int32)) := V85.pad (pad_rep [] (.int (0 : Int32)) 32)
  have B86 : OL Z h85 o [(.int (0 : Int32)), (.ref ob2), (.int (-1 : Int32)), (.int (0 : Int32)), (.int (0 : Int32)), (.ref ar14), (.ref ar23), (.ref ar33), (.ref ar44), (.ref ar56), (.int (-1 : Int32)), (.int (0 : Int32)), (.long (0 : Int64)), (.ref ar71), (.int (0 : Int32)), .null] := (B74w.ext E85)
  have X87 : Exa Z h85 o "com/example/flat_planner/flatplanner/OpenList" := (X75.ext E85)
  refine E_putfield (pc' := 82) (ty := (.array .int)) cx st85 (wd hw 60 rfl) (B86.at 15 (by decide) rfl rfl) X87 (Or.inl (wd hw 61 rfl)) (wd hw 1 rfl) (by decide) rfl rfl g_o d1_79 rfl ?_
  intro T88 h88 st88 W88
  have Z88 : n0 ≤ h88.size := Nat.le_trans Z85 (Keep.of_wr W88).1
  have K88 : Keep h0 h88 [o] := K85.wr W88 (mi 0 rfl)
  have B88w : OL Z h88 o [(.int (0 : Int32)), (.ref ob2), (.int (-1 : Int32)), (.int (0 : Int32)), (.int (0 : Int32)), (.ref ar14), (.ref ar23), (.ref ar33), (.ref ar44), (.ref ar56), (.int (-1 : Int32)), (.int (0 : Int32)), (.long (0 : Int64)), (.ref ar71), (.int (0 : Int32)), (.ref ar85)] := B86.wr hw 15 (by decide) rfl W88 (Nat.le_of_ble_eq_true rfl)
  refine E_aloadN (pc' := 83) cx st88 d1_82 rfl rfl rfl ?_
  refine E_iloadN (pc' := 84) cx st88 d1_83 rfl rfl ?_
  have X89 : Exa Z h88 o "com/example/flat_planner/flatplanner/OpenList" := (X87.wr W88)
  refine E_putfield (pc' := 87) (ty := .boolean) cx st88 (wd hw 62 rfl) (B88w.at 0 (by decide) rfl rfl) X89 (Or.inr ⟨(wd hw 63 rfl), rfl, rfl⟩) (wd hw 1 rfl) (by decide) (narrow01 hg) (fits01 hg) g_o d1_84 rfl ?_
  intro T90 h90 st90 W90
  have Z90 : n0 ≤ h90.size := Nat.le_trans Z88 (Keep.of_wr W90).1
  have K90 : Keep h0 h90 [o] := K88.wr W90 (mi 0 rfl)
  have B90w : OL Z h90 o [(.int gt), (.ref ob2), (.int (-1 : Int32)), (.int (0 : Int32)), (.int (0 : Int32)), (.ref ar14), (.ref ar23), (.ref ar33), (.ref ar44), (.ref ar56), (.int (-1 : Int32)), (.int (0 : Int32)), (.long (0 : Int64)), (.ref ar71), (.int (0 : Int32)), (.ref ar85)] := B88w.wr hw 0 (by decide) rfl W90 (Nat.le_of_ble_eq_true rfl)
  refine E_aloadN (pc' := 88) cx st90 d1_87 rfl rfl rfl ?_
  refine E_getfield (pc' := 91) (v := (.ref ar85)) cx st90 (wd hw 60 rfl) (B90w.at 15 (by decide) rfl rfl) d1_88 rfl ?_
  intro T91 st91
  refine E_iconst (pc' := 92) cx st91 (-1 : Int32) d1_91 rfl rfl ?_
  have V92 : Arv Z h90 ar85 ca85 .int (32 : Int32) [(.int (0 : Int32)), (.int (0 : Int32)), (.int (0 : Int32)), (.int (0 : Int32)), (.int (0 : Int32)), (.int (0 : Int32)), (.int (0 : Int32)), (.int (0 : Int32)), (.int (0 : Int32)), (.int (0 : Int32)), (.int (0 : Int32)), (.int (0 : Int32)), (.int (0 : Int32)), (.int (0 : Int32)), (.int (0 : Int32)), (.int (0 : Int32)), (.int (0 : Int32)), (.int (0 : Int32)), (.int (0 : Int32)), (.int (0 : Int32)), (.int (0 : Int32)), (.int (0 : Int32)), (.int (0 : Int32)), (.int (0 : Int32)), (.int (0 : Int32)), (.int (0 : Int32)), (.int (0 : Int32)), (.int (0 : Int32)), (.int (0 : Int32)), (.int (0 : Int32)), (.int (0 : Int32)), (.int (0 : Int32))] (.int (0 : Int32)) := ((V85p.other W88 (Ne.symm ne_o_ar85)).other W90 (Ne.symm ne_o_ar85))
  refine E_callS (pc' := 95) (kc' := 10) (ks' := 149) (W := 0) (argsL := [(.ref ar85), (.int (-1 : Int32))]) cx st91 [] (rm7 l Z a0 hw ar85 h90 n0 Z90 ca85 g_ar85 V92) (wd hw 64 rfl) (wd hw 65 rfl) (wd hw 66 rfl) (wd hw 67 rfl) d1_92 rfl rfl (lenOf pd_3 rfl) (Nat.le_of_eq rfl) (by decide) (by decide) (by decide) (by decide) (by decide) (by decide) (by decide) rfl ?_
  intro v93 T93 h93 st93 hq93
  obtain ⟨rfl, Kf, Vf⟩ := hq93
  have Z93 : n0 ≤ h93.size := Nat.le_trans Z90 Kf.1
  have KKf' : Keep h0 h93 [o] := K90.trans Kf (allS (Or.inr sz_ar85) all0)
  have X94 : Exa Z h93 o "com/example/flat_planner/flatplanner/OpenList" := ((X89.wr W90).keep Kf)
  have B95 : OL Z h93 o [(.int gt), (.ref ob2), (.int (-1 : Int32)), (.int (0 : Int32)), (.int (0 : Int32)), (.ref ar14), (.ref ar23), (.ref ar33), (.ref ar44), (.ref ar56), (.int (-1 : Int32)), (.int (0 : Int32)), (.long (0 : Int64)), (.ref ar71), (.int (0 : Int32)), (.ref ar85)] := (B90w.keep Kf (ninS ne_o_ar85 nin0))
  have X96 : Exa Z h93 ob2 "com/example/flat_planner/flatplanner/LongColumn" := ((((X76.ext E85).wr W88).wr W90).keep Kf)
  have G97 : Fld Z h93 ob2 "com/example/flat_planner/flatplanner/LongColumn" "width" "I" (.int (1 : Int32)) := (((((((((((((((((((L1.other W7 (Or.inl (Ne.symm ne_o_ob2))).other W9 (Or.inl (Ne.symm ne_o_ob2))).ext E14).other W17 (Or.inl (Ne.symm ne_o_ob2))).ext E23).other W26 (Or.inl (Ne.symm ne_o_ob2))).ext E33).other W36 (Or.inl (Ne.symm ne_o_ob2))).ext E44).other W47 (Or.inl (Ne.symm ne_o_ob2))).ext E56).other W59 (Or.inl (Ne.symm ne_o_ob2))).other W61 (Or.inl (Ne.symm ne_o_ob2))).ext E71).other W74 (Or.inl (Ne.symm ne_o_ob2))).ext E85).other W88 (Or.inl (Ne.symm ne_o_ob2))).other W90 (Or.inl (Ne.symm ne_o_ob2))).keep Kf (ninS ne_ob2_ar85 nin0))
  have G98 : Fld Z h93 ob2 "com/example/flat_planner/flatplanner/LongColumn" "shift" "I" (.int (16 : Int32)) := (((((((((((((((((((L2.other W7 (Or.inl (Ne.symm ne_o_ob2))).other W9 (Or.inl (Ne.symm ne_o_ob2))).ext E14).other W17 (Or.inl (Ne.symm ne_o_ob2))).ext E23).other W26 (Or.inl (Ne.symm ne_o_ob2))).ext E33).other W36 (Or.inl (Ne.symm ne_o_ob2))).ext E44).other W47 (Or.inl (Ne.symm ne_o_ob2))).ext E56).other W59 (Or.inl (Ne.symm ne_o_ob2))).other W61 (Or.inl (Ne.symm ne_o_ob2))).ext E71).other W74 (Or.inl (Ne.symm ne_o_ob2))).ext E85).other W88 (Or.inl (Ne.symm ne_o_ob2))).other W90 (Or.inl (Ne.symm ne_o_ob2))).keep Kf (ninS ne_ob2_ar85 nin0))
  have G99 : Fld Z h93 ob2 "com/example/flat_planner/flatplanner/LongColumn" "chunks" "[[J" (.ref cs) := (((((((((((((((((((L3.other W7 (Or.inl (Ne.symm ne_o_ob2))).other W9 (Or.inl (Ne.symm ne_o_ob2))).ext E14).other W17 (Or.inl (Ne.symm ne_o_ob2))).ext E23).other W26 (Or.inl (Ne.symm ne_o_ob2))).ext E33).other W36 (Or.inl (Ne.symm ne_o_ob2))).ext E44).other W47 (Or.inl (Ne.symm ne_o_ob2))).ext E56).other W59 (Or.inl (Ne.symm ne_o_ob2))).other W61 (Or.inl (Ne.symm ne_o_ob2))).ext E71).other W74 (Or.inl (Ne.symm ne_o_ob2))).ext E85).other W88 (Or.inl (Ne.symm ne_o_ob2))).other W90 (Or.inl (Ne.symm ne_o_ob2))).keep Kf (ninS ne_ob2_ar85 nin0))
  have G100 : Fld Z h93 ob2 "com/example/flat_planner/flatplanner/LongColumn" "capacity" "I" (.int (16 : Int32)) := (((((((((((((((((((L4.other W7 (Or.inl (Ne.symm ne_o_ob2))).other W9 (Or.inl (Ne.symm ne_o_ob2))).ext E14).other W17 (Or.inl (Ne.symm ne_o_ob2))).ext E23).other W26 (Or.inl (Ne.symm ne_o_ob2))).ext E33).other W36 (Or.inl (Ne.symm ne_o_ob2))).ext E44).other W47 (Or.inl (Ne.symm ne_o_ob2))).ext E56).other W59 (Or.inl (Ne.symm ne_o_ob2))).other W61 (Or.inl (Ne.symm ne_o_ob2))).ext E71).other W74 (Or.inl (Ne.symm ne_o_ob2))).ext E85).other W88 (Or.inl (Ne.symm ne_o_ob2))).other W90 (Or.inl (Ne.symm ne_o_ob2))).keep Kf (ninS ne_ob2_ar85 nin0))
  have V101 : Arv Z h93 cs kcs (.array .long) (1 : Int32) [(.ref c0)] .null := ((((V77.ext E85).other W88 (Ne.symm ne_o_cs)).other W90 (Ne.symm ne_o_cs)).keep Kf (ninS ne_cs_ar85 nin0))
  have V102 : Arv Z h93 c0 kc0 .long (16 : Int32) [(.long (0 : Int64)), (.long (0 : Int64)), (.long (0 : Int64)), (.long (0 : Int64)), (.long (0 : Int64)), (.long (0 : Int64)), (.long (0 : Int64)), (.long (0 : Int64)), (.long (0 : Int64)), (.long (0 : Int64)), (.long (0 : Int64)), (.long (0 : Int64)), (.long (0 : Int64)), (.long (0 : Int64)), (.long (0 : Int64)), (.long (0 : Int64))] (.long (0 : Int64)) := ((((V78.ext E85).other W88 (Ne.symm ne_o_c0)).other W90 (Ne.symm ne_o_c0)).keep Kf (ninS ne_c0_ar85 nin0))
  have V103 : Arv Z h93 ar14 ca14 .long (16 : Int32) [(.long (0 : Int64)), (.long (0 : Int64)), (.long (0 : Int64)), (.long (0 : Int64)), (.long (0 : Int64)), (.long (0 : Int64)), (.long (0 : Int64)), (.long (0 : Int64)), (.long (0 : Int64)), (.long (0 : Int64)), (.long (0 : Int64)), (.long (0 : Int64)), (.long (0 : Int64)), (.long (0 : Int64)), (.long (0 : Int64)), (.long (0 : Int64))] (.long (0 : Int64)) := ((((V79.ext E85).other W88 (Ne.symm ne_o_ar14)).other W90 (Ne.symm ne_o_ar14)).keep Kf (ninS ne_ar14_ar85 nin0))
  have V104 : Arv Z h93 ar23 ca23 .long (16 : Int32) [(.long (0 : Int64)), (.long (0 : Int64)), (.long (0 : Int64)), (.long (0 : Int64)), (.long (0 : Int64)), (.long (0 : Int64)), (.long (0 : Int64)), (.long (0 : Int64)), (.long (0 : Int64)), (.long (0 : Int64)), (.long (0 : Int64)), (.long (0 : Int64)), (.long (0 : Int64)), (.long (0 : Int64)), (.long (0 : Int64)), (.long (0 : Int64))] (.long (0 : Int64)) := ((((V80.ext E85).other W88 (Ne.symm ne_o_ar23)).other W90 (Ne.symm ne_o_ar23)).keep Kf (ninS ne_ar23_ar85 nin0))
  have V105 : Arv Z h93 ar33 ca33 .long (16 : Int32) [(.long (0 : Int64)), (.long (0 : Int64)), (.long (0 : Int64)), (.long (0 : Int64)), (.long (0 : Int64)), (.long (0 : Int64)), (.long (0 : Int64)), (.long (0 : Int64)), (.long (0 : Int64)), (.long (0 : Int64)), (.long (0 : Int64)), (.long (0 : Int64)), (.long (0 : Int64)), (.long (0 : Int64)), (.long (0 : Int64)), (.long (0 : Int64))] (.long (0 : Int64)) := ((((V81.ext E85).other W88 (Ne.symm ne_o_ar33)).other W90 (Ne.symm ne_o_ar33)).keep Kf (ninS ne_ar33_ar85 nin0))
  have V106 : Arv Z h93 ar44 ca44 .int (16 : Int32) [(.int (0 : Int32)), (.int (0 : Int32)), (.int (0 : Int32)), (.int (0 : Int32)), (.int (0 : Int32)), (.int (0 : Int32)), (.int (0 : Int32)), (.int (0 : Int32)), (.int (0 : Int32)), (.int (0 : Int32)), (.int (0 : Int32)), (.int (0 : Int32)), (.int (0 : Int32)), (.int (0 : Int32)), (.int (0 : Int32)), (.int (0 : Int32))] (.int (0 : Int32)) := ((((V82.ext E85).other W88 (Ne.symm ne_o_ar44)).other W90 (Ne.symm ne_o_ar44)).keep Kf (ninS ne_ar44_ar85 nin0))
  have V107 : Arv Z h93 ar56 ca56 .int (16 : Int32) [(.int (0 : Int32)), (.int (0 : Int32)), (.int (0 : Int32)), (.int (0 : Int32)), (.int (0 : Int32)), (.int (0 : Int32)), (.int (0 : Int32)), (.int (0 : Int32)), (.int (0 : Int32)), (.int (0 : Int32)), (.int (0 : Int32)), (.int (0 : Int32)), (.int (0 : Int32)), (.int (0 : Int32)), (.int (0 : Int32)), (.int (0 : Int32))] (.int (0 : Int32)) := ((((V83.ext E85).other W88 (Ne.symm ne_o_ar56)).other W90 (Ne.symm ne_o_ar56)).keep Kf (ninS ne_ar56_ar85 nin0))
  have V108 : Arv Z h93 ar71 ca71 .int (16 : Int32) [(.int (0 : Int32)), (.int (0 : Int32)), (.int (0 : Int32)), (.int (0 : Int32)), (.int (0 : Int32)), (.int (0 : Int32)), (.int (0 : Int32)), (.int (0 : Int32)), (.int (0 : Int32)), (.int (0 : Int32)), (.int (0 : Int32)), (.int (0 : Int32)), (.int (0 : Int32)), (.int (0 : Int32)), (.int (0 : Int32)), (.int (0 : Int32))] (.int (0 : Int32)) := ((((V84.ext E85).other W88 (Ne.symm ne_o_ar71)).other W90 (Ne.symm ne_o_ar71)).keep Kf (ninS ne_ar71_ar85 nin0))
  refine E_return cx st93 d1_95 rfl (by decide) (by decide) ?_
  refine ⟨rfl, KKf', ob2, cs, c0, ar14, ar23, ar33, ar44, ar56, ar71, ar85, ?_, ?_, X94, B95, ⟨X96, G97, G98, G99, G100⟩, ⟨_, V101⟩, ⟨_, V102.pad (pad16J)⟩, ⟨_, V103.pad (pad16J)⟩, ⟨_, V104.pad (pad16J)⟩, ⟨_, V105.pad (pad16J)⟩, ⟨_, V106.pad (pad16I)⟩, ⟨_, V107.pad (pad16I)⟩, ⟨_, V108.pad (pad16I)⟩, ⟨_, Vf⟩⟩
  · simp only [List.nodup_cons, List.mem_cons, List.not_mem_nil, or_false, not_or, not_false_eq_true, List.nodup_nil, and_true]
    exact ⟨⟨ne_o_ob2, ne_o_cs, ne_o_c0, ne_o_ar14, ne_o_ar23, ne_o_ar33, ne_o_ar44, ne_o_ar56, ne_o_ar71, ne_o_ar85⟩, ⟨ne_ob2_cs, ne_ob2_c0, ne_ob2_ar14, ne_ob2_ar23, ne_ob2_ar33, ne_ob2_ar44, ne_ob2_ar56, ne_ob2_ar71, ne_ob2_ar85⟩, ⟨ns0, ne_cs_ar14, ne_cs_ar23, ne_cs_ar33, ne_cs_ar44, ne_cs_ar56, ne_cs_ar71, ne_cs_ar85⟩, ⟨ne_c0_ar14, ne_c0_ar23, ne_c0_ar33, ne_c0_ar44, ne_c0_ar56, ne_c0_ar71, ne_c0_ar85⟩, ⟨ne_ar14_ar23, ne_ar14_ar33, ne_ar14_ar44, ne_ar14_ar56, ne_ar14_ar71, ne_ar14_ar85⟩, ⟨ne_ar23_ar33, ne_ar23_ar44, ne_ar23_ar56, ne_ar23_ar71, ne_ar23_ar85⟩, ⟨ne_ar33_ar44, ne_ar33_ar56, ne_ar33_ar71, ne_ar33_ar85⟩, ⟨ne_ar44_ar56, ne_ar44_ar71, ne_ar44_ar85⟩, ⟨ne_ar56_ar71, ne_ar56_ar85⟩, ne_ar71_ar85⟩
  · intro a ha
    simp only [List.mem_cons, List.not_mem_nil, or_false] at ha
    rcases ha with rfl | rfl | rfl | rfl | rfl | rfl | rfl | rfl | rfl | rfl | rfl
    · exact Or.inl rfl
    · exact Or.inr sz_ob2
    · exact Or.inr sz_cs
    · exact Or.inr sz_c0
    · exact Or.inr sz_ar14
    · exact Or.inr sz_ar23
    · exact Or.inr sz_ar33
    · exact Or.inr sz_ar44
    · exact Or.inr sz_ar56
    · exact Or.inr sz_ar71
    · exact Or.inr sz_ar85
theorem d12_0 : decode prog_14_method_3_code 0 = .ok (.aload_n 0, 1) := by decide +kernel
theorem d12_1 : decode prog_14_method_3_code 1 = .ok (.getfield 9, 3) := by decide +kernel
theorem d12_4 : decode prog_14_method_3_code 4 = .ok (.iload_n 1, 1) := by decide +kernel
theorem d12_5 : decode prog_14_method_3_code 5 = .ok (.aload_n 0, 1) := by decide +kernel
theorem d12_6 : decode prog_14_method_3_code 6 = .ok (.getfield 32, 3) := by decide +kernel
theorem d12_9 : decode prog_14_method_3_code 9 = .ok (.iushr, 1) := by decide +kernel
theorem d12_10 : decode prog_14_method_3_code 10 = .ok (.aaload, 1) := by decide +kernel
theorem d12_11 : decode prog_14_method_3_code 11 = .ok (.areturn, 1) := by decide +kernel
theorem ef_chunk0 (m : MethodId) (x0 : Addr) (x1 : Int32) : entryFrame m #[(.ref x0), (.int x1)] 2 = mkF m 0 #[.val (.ref x0), .val (.int x1)] [] := by first | (simp [entryFrame, mkF, argsToLocals, Value.category]; done) | rfl
set_option maxRecDepth 65536 in
set_option maxHeartbeats 40000000 in
theorem rmchunk0 (l : Launch) (Z : State) (a0 : Array Value) (hw : ∀ d ∈ tables_1, d.before a0 Z = true) (cl : Addr) (cs : Addr) (c0 : Addr) (h0 : Heap) (n0 : Nat) (Z0 : n0 ≤ h0.size) (kc : ClassId) (Fc : Fld Z h0 cl "com/example/flat_planner/flatplanner/LongColumn" "chunks" "[[J" (.ref cs)) (Fs : Fld Z h0 cl "com/example/flat_planner/flatplanner/LongColumn" "shift" "I" (.int (16 : Int32))) (V0 : Arv Z h0 cs kc (.array .long) (1 : Int32) [(.ref c0)] .null) :
    Con l Z (⟨"com/example/flat_planner/flatplanner/LongColumn", "chunk", "(I)[J"⟩ : MethodName) prog_14_method_3_code 2 (some (.array .long)) ({ frames := 0, cells := 0, slots := 0, locals := 0 } : Room) #[(.ref cl), (.int (0 : Int32))] h0 n0 (fun v h => v = some (.ref c0) ∧ h = h0) := by
  refine Con.of (own := "com/example/flat_planner/flatplanner/LongColumn") (name := "chunk") (plainFor_of_name pn_2) (fun m => ef_chunk0 m cl (0 : Int32)) rfl rfl ?_
  intro p e s m below meth c T F S cx st
  refine E_aloadN (pc' := 1) cx st d12_0 rfl rfl rfl ?_
  refine E_getfield (pc' := 4) cx st (wd hw 18 rfl) Fc d12_1 rfl ?_
  intro T1 st1
  refine E_iloadN (pc' := 5) cx st1 d12_4 rfl rfl ?_
  refine E_aloadN (pc' := 6) cx st1 d12_5 rfl rfl rfl ?_
  refine E_getfield (pc' := 9) cx st1 (wd hw 32 rfl) Fs d12_6 rfl ?_
  intro T2 st2
  refine E_iushr (pc' := 10) cx st2 d12_9 rfl ?_
  rw [show (((0 : Int32).toUInt32 >>> ((16 : Int32) &&& 31).toUInt32).toInt32) = (0 : Int32) from by decide]
  refine E_aaload (pc' := 11) cx st2 V0 rfl ⟨by decide, by decide⟩ rfl d12_10 rfl ?_
  refine E_areturn (t := (.array .long)) cx st2 d12_11 rfl rfl rfl rfl (by decide) (by decide) ?_
  exact ⟨rfl, rfl⟩
theorem d13_0 : decode prog_14_method_4_code 0 = .ok (.iload_n 1, 1) := by decide +kernel
theorem d13_1 : decode prog_14_method_4_code 1 = .ok (.iconst 1, 1) := by decide +kernel
theorem d13_2 : decode prog_14_method_4_code 2 = .ok (.aload_n 0, 1) := by decide +kernel
theorem d13_3 : decode prog_14_method_4_code 3 = .ok (.getfield 32, 3) := by decide +kernel
theorem d13_6 : decode prog_14_method_4_code 6 = .ok (.ishl, 1) := by decide +kernel
theorem d13_7 : decode prog_14_method_4_code 7 = .ok (.iconst 1, 1) := by decide +kernel
theorem d13_8 : decode prog_14_method_4_code 8 = .ok (.isub, 1) := by decide +kernel
theorem d13_9 : decode prog_14_method_4_code 9 = .ok (.iand, 1) := by decide +kernel
theorem d13_10 : decode prog_14_method_4_code 10 = .ok (.aload_n 0, 1) := by decide +kernel
theorem d13_11 : decode prog_14_method_4_code 11 = .ok (.getfield 15, 3) := by decide +kernel
theorem d13_14 : decode prog_14_method_4_code 14 = .ok (.imul, 1) := by decide +kernel
theorem d13_15 : decode prog_14_method_4_code 15 = .ok (.ireturn, 1) := by decide +kernel
theorem ef_offset0 (m : MethodId) (x0 : Addr) (x1 : Int32) : entryFrame m #[(.ref x0), (.int x1)] 2 = mkF m 0 #[.val (.ref x0), .val (.int x1)] [] := by first | (simp [entryFrame, mkF, argsToLocals, Value.category]; done) | rfl
set_option maxRecDepth 65536 in
set_option maxHeartbeats 40000000 in
theorem rmoffset0 (l : Launch) (Z : State) (a0 : Array Value) (hw : ∀ d ∈ tables_1, d.before a0 Z = true) (cl : Addr) (h0 : Heap) (n0 : Nat) (Z0 : n0 ≤ h0.size) (Fw : Fld Z h0 cl "com/example/flat_planner/flatplanner/LongColumn" "width" "I" (.int (1 : Int32))) (Fs : Fld Z h0 cl "com/example/flat_planner/flatplanner/LongColumn" "shift" "I" (.int (16 : Int32))) :
    Con l Z (⟨"com/example/flat_planner/flatplanner/LongColumn", "offset", "(I)I"⟩ : MethodName) prog_14_method_4_code 2 (some .int) ({ frames := 0, cells := 0, slots := 0, locals := 0 } : Room) #[(.ref cl), (.int (0 : Int32))] h0 n0 (fun v h => v = some (.int (0 : Int32)) ∧ h = h0) := by
  refine Con.of (own := "com/example/flat_planner/flatplanner/LongColumn") (name := "offset") (plainFor_of_name pn_2) (fun m => ef_offset0 m cl (0 : Int32)) rfl rfl ?_
  intro p e s m below meth c T F S cx st
  refine E_iloadN (pc' := 1) cx st d13_0 rfl rfl ?_
  refine E_iconst (pc' := 2) cx st (1 : Int32) d13_1 rfl rfl ?_
  refine E_aloadN (pc' := 3) cx st d13_2 rfl rfl rfl ?_
  refine E_getfield (pc' := 6) cx st (wd hw 32 rfl) Fs d13_3 rfl ?_
  intro T1 st1
  refine E_ishl (pc' := 7) cx st1 d13_6 rfl ?_
  rw [show ((1 : Int32) <<< ((16 : Int32) &&& 31)) = (65536 : Int32) from by decide]
  refine E_iconst (pc' := 8) cx st1 (1 : Int32) d13_7 rfl rfl ?_
  refine E_isub (pc' := 9) cx st1 d13_8 rfl ?_
  rw [show ((65536 : Int32) - (1 : Int32)) = (65535 : Int32) from by decide]
  refine E_iand (pc' := 10) cx st1 d13_9 rfl ?_
  rw [show ((0 : Int32) &&& (65535 : Int32)) = (0 : Int32) from by decide]
  refine E_aloadN (pc' := 11) cx st1 d13_10 rfl rfl rfl ?_
  refine E_getfield (pc' := 14) cx st1 (wd hw 20 rfl) Fw d13_11 rfl ?_
  intro T2 st2
  refine E_imul (pc' := 15) cx st2 d13_14 rfl ?_
  rw [show ((0 : Int32) * (1 : Int32)) = (0 : Int32) from by decide]
  refine E_ireturn (t := .int) cx st2 d13_15 rfl (by simp) rfl (by decide) (by decide) ?_
  exact ⟨rfl, rfl⟩
theorem d10_0 : decode prog_14_method_2_code 0 = .ok (.iload_n 1, 1) := by decide +kernel
theorem d10_1 : decode prog_14_method_2_code 1 = .ok (.aload_n 0, 1) := by decide +kernel
theorem d10_2 : decode prog_14_method_2_code 2 = .ok (.getfield 38, 3) := by decide +kernel
theorem d10_5 : decode prog_14_method_2_code 5 = .ok (.if_icmp .ge 4, 3) := by decide +kernel
theorem d10_8 : decode prog_14_method_2_code 8 = .ok (.return_, 1) := by decide +kernel
theorem d10_9 : decode prog_14_method_2_code 9 = .ok (.iconst 1, 1) := by decide +kernel
theorem d10_10 : decode prog_14_method_2_code 10 = .ok (.aload_n 0, 1) := by decide +kernel
theorem d10_11 : decode prog_14_method_2_code 11 = .ok (.getfield 32, 3) := by decide +kernel
theorem d10_14 : decode prog_14_method_2_code 14 = .ok (.ishl, 1) := by decide +kernel
theorem d10_15 : decode prog_14_method_2_code 15 = .ok (.istore_n 2, 1) := by decide +kernel
theorem d10_16 : decode prog_14_method_2_code 16 = .ok (.aload_n 0, 1) := by decide +kernel
theorem d10_17 : decode prog_14_method_2_code 17 = .ok (.getfield 9, 3) := by decide +kernel
theorem d10_20 : decode prog_14_method_2_code 20 = .ok (.iconst 0, 1) := by decide +kernel
theorem d10_21 : decode prog_14_method_2_code 21 = .ok (.aaload, 1) := by decide +kernel
theorem d10_22 : decode prog_14_method_2_code 22 = .ok (.arraylength, 1) := by decide +kernel
theorem d10_23 : decode prog_14_method_2_code 23 = .ok (.aload_n 0, 1) := by decide +kernel
theorem d10_24 : decode prog_14_method_2_code 24 = .ok (.getfield 15, 3) := by decide +kernel
theorem d10_27 : decode prog_14_method_2_code 27 = .ok (.iload_n 2, 1) := by decide +kernel
theorem d10_28 : decode prog_14_method_2_code 28 = .ok (.imul, 1) := by decide +kernel
theorem d10_29 : decode prog_14_method_2_code 29 = .ok (.if_icmp .ge 45, 3) := by decide +kernel
theorem d10_32 : decode prog_14_method_2_code 32 = .ok (.aload_n 0, 1) := by decide +kernel
theorem d10_33 : decode prog_14_method_2_code 33 = .ok (.getfield 9, 3) := by decide +kernel
theorem d10_36 : decode prog_14_method_2_code 36 = .ok (.iconst 0, 1) := by decide +kernel
theorem d10_37 : decode prog_14_method_2_code 37 = .ok (.aload_n 0, 1) := by decide +kernel
theorem d10_38 : decode prog_14_method_2_code 38 = .ok (.getfield 9, 3) := by decide +kernel
theorem d10_41 : decode prog_14_method_2_code 41 = .ok (.iconst 0, 1) := by decide +kernel
theorem d10_42 : decode prog_14_method_2_code 42 = .ok (.aaload, 1) := by decide +kernel
theorem d10_43 : decode prog_14_method_2_code 43 = .ok (.iconst 2, 1) := by decide +kernel
theorem d10_44 : decode prog_14_method_2_code 44 = .ok (.iload_n 1, 1) := by decide +kernel
theorem d10_45 : decode prog_14_method_2_code 45 = .ok (.iconst 1, 1) := by decide +kernel
theorem d10_46 : decode prog_14_method_2_code 46 = .ok (.iadd, 1) := by decide +kernel
theorem d10_47 : decode prog_14_method_2_code 47 = .ok (.imul, 1) := by decide +kernel
theorem d10_48 : decode prog_14_method_2_code 48 = .ok (.iload_n 2, 1) := by decide +kernel
theorem d10_49 : decode prog_14_method_2_code 49 = .ok (.invokestatic 35, 3) := by decide +kernel
theorem d10_52 : decode prog_14_method_2_code 52 = .ok (.aload_n 0, 1) := by decide +kernel
theorem d10_53 : decode prog_14_method_2_code 53 = .ok (.getfield 15, 3) := by decide +kernel
theorem d10_56 : decode prog_14_method_2_code 56 = .ok (.imul, 1) := by decide +kernel
theorem d10_57 : decode prog_14_method_2_code 57 = .ok (.invokestatic 41, 3) := by decide +kernel
theorem d10_60 : decode prog_14_method_2_code 60 = .ok (.aastore, 1) := by decide +kernel
theorem d10_61 : decode prog_14_method_2_code 61 = .ok (.aload_n 0, 1) := by decide +kernel
theorem d10_62 : decode prog_14_method_2_code 62 = .ok (.iconst 2, 1) := by decide +kernel
theorem d10_63 : decode prog_14_method_2_code 63 = .ok (.iload_n 1, 1) := by decide +kernel
theorem d10_64 : decode prog_14_method_2_code 64 = .ok (.iconst 1, 1) := by decide +kernel
theorem d10_65 : decode prog_14_method_2_code 65 = .ok (.iadd, 1) := by decide +kernel
theorem d10_66 : decode prog_14_method_2_code 66 = .ok (.imul, 1) := by decide +kernel
theorem d10_67 : decode prog_14_method_2_code 67 = .ok (.iload_n 2, 1) := by decide +kernel
theorem d10_68 : decode prog_14_method_2_code 68 = .ok (.invokestatic 35, 3) := by decide +kernel
theorem d10_71 : decode prog_14_method_2_code 71 = .ok (.putfield 38, 3) := by decide +kernel
theorem d10_74 : decode prog_14_method_2_code 74 = .ok (.aload_n 0, 1) := by decide +kernel
theorem d10_75 : decode prog_14_method_2_code 75 = .ok (.getfield 38, 3) := by decide +kernel
theorem d10_78 : decode prog_14_method_2_code 78 = .ok (.iload_n 1, 1) := by decide +kernel
theorem d10_79 : decode prog_14_method_2_code 79 = .ok (.if_icmp .gt 70, 3) := by decide +kernel
theorem d10_82 : decode prog_14_method_2_code 82 = .ok (.aload_n 0, 1) := by decide +kernel
theorem d10_83 : decode prog_14_method_2_code 83 = .ok (.getfield 38, 3) := by decide +kernel
theorem d10_86 : decode prog_14_method_2_code 86 = .ok (.aload_n 0, 1) := by decide +kernel
theorem d10_87 : decode prog_14_method_2_code 87 = .ok (.getfield 32, 3) := by decide +kernel
theorem d10_90 : decode prog_14_method_2_code 90 = .ok (.iushr, 1) := by decide +kernel
theorem d10_91 : decode prog_14_method_2_code 91 = .ok (.istore_n 3, 1) := by decide +kernel
theorem d10_92 : decode prog_14_method_2_code 92 = .ok (.iload_n 3, 1) := by decide +kernel
theorem d10_93 : decode prog_14_method_2_code 93 = .ok (.aload_n 0, 1) := by decide +kernel
theorem d10_94 : decode prog_14_method_2_code 94 = .ok (.getfield 9, 3) := by decide +kernel
theorem d10_97 : decode prog_14_method_2_code 97 = .ok (.arraylength, 1) := by decide +kernel
theorem d10_98 : decode prog_14_method_2_code 98 = .ok (.if_icmp .ne 24, 3) := by decide +kernel
theorem d10_101 : decode prog_14_method_2_code 101 = .ok (.aload_n 0, 1) := by decide +kernel
theorem d10_102 : decode prog_14_method_2_code 102 = .ok (.aload_n 0, 1) := by decide +kernel
theorem d10_103 : decode prog_14_method_2_code 103 = .ok (.getfield 9, 3) := by decide +kernel
theorem d10_106 : decode prog_14_method_2_code 106 = .ok (.iconst 2, 1) := by decide +kernel
theorem d10_107 : decode prog_14_method_2_code 107 = .ok (.aload_n 0, 1) := by decide +kernel
theorem d10_108 : decode prog_14_method_2_code 108 = .ok (.getfield 9, 3) := by decide +kernel
theorem d10_111 : decode prog_14_method_2_code 111 = .ok (.arraylength, 1) := by decide +kernel
theorem d10_112 : decode prog_14_method_2_code 112 = .ok (.imul, 1) := by decide +kernel
theorem d10_113 : decode prog_14_method_2_code 113 = .ok (.invokestatic 47, 3) := by decide +kernel
theorem d10_116 : decode prog_14_method_2_code 116 = .ok (.checkcast 50, 3) := by decide +kernel
theorem d10_119 : decode prog_14_method_2_code 119 = .ok (.putfield 9, 3) := by decide +kernel
theorem d10_122 : decode prog_14_method_2_code 122 = .ok (.aload_n 0, 1) := by decide +kernel
theorem d10_123 : decode prog_14_method_2_code 123 = .ok (.getfield 9, 3) := by decide +kernel
theorem d10_126 : decode prog_14_method_2_code 126 = .ok (.iload_n 3, 1) := by decide +kernel
theorem d10_127 : decode prog_14_method_2_code 127 = .ok (.aload_n 0, 1) := by decide +kernel
theorem d10_128 : decode prog_14_method_2_code 128 = .ok (.getfield 15, 3) := by decide +kernel
theorem d10_131 : decode prog_14_method_2_code 131 = .ok (.iload_n 2, 1) := by decide +kernel
theorem d10_132 : decode prog_14_method_2_code 132 = .ok (.imul, 1) := by decide +kernel
theorem d10_133 : decode prog_14_method_2_code 133 = .ok (.newarray .long, 2) := by decide +kernel
theorem d10_135 : decode prog_14_method_2_code 135 = .ok (.aastore, 1) := by decide +kernel
theorem d10_136 : decode prog_14_method_2_code 136 = .ok (.aload_n 0, 1) := by decide +kernel
theorem d10_137 : decode prog_14_method_2_code 137 = .ok (.dup, 1) := by decide +kernel
theorem d10_138 : decode prog_14_method_2_code 138 = .ok (.getfield 38, 3) := by decide +kernel
theorem d10_141 : decode prog_14_method_2_code 141 = .ok (.iload_n 2, 1) := by decide +kernel
theorem d10_142 : decode prog_14_method_2_code 142 = .ok (.iadd, 1) := by decide +kernel
theorem d10_143 : decode prog_14_method_2_code 143 = .ok (.putfield 38, 3) := by decide +kernel
theorem d10_146 : decode prog_14_method_2_code 146 = .ok (.goto (-72), 3) := by decide +kernel
theorem d10_149 : decode prog_14_method_2_code 149 = .ok (.return_, 1) := by decide +kernel
theorem ef_reserve0 (m : MethodId) (x0 : Addr) (x1 : Int32) : entryFrame m #[(.ref x0), (.int x1)] 4 = mkF m 0 #[.val (.ref x0), .val (.int x1), .unset, .unset] [] := by first | (simp [entryFrame, mkF, argsToLocals, Value.category]; done) | rfl
set_option maxRecDepth 65536 in
set_option maxHeartbeats 40000000 in
theorem rmreserve0 (l : Launch) (Z : State) (a0 : Array Value) (hw : ∀ d ∈ tables_1, d.before a0 Z = true) (cl : Addr) (h0 : Heap) (n0 : Nat) (Z0 : n0 ≤ h0.size) (Fp : Fld Z h0 cl "com/example/flat_planner/flatplanner/LongColumn" "capacity" "I" (.int (16 : Int32))) :
    Con l Z (⟨"com/example/flat_planner/flatplanner/LongColumn", "reserve", "(I)V"⟩ : MethodName) prog_14_method_2_code 4 none ({ frames := 0, cells := 0, slots := 0, locals := 0 } : Room) #[(.ref cl), (.int (0 : Int32))] h0 n0 (fun v h => v = none ∧ h = h0) := by
  refine Con.of (own := "com/example/flat_planner/flatplanner/LongColumn") (name := "reserve") (plainFor_of_name pn_2) (fun m => ef_reserve0 m cl (0 : Int32)) rfl rfl ?_
  intro p e s m below meth c T F S cx st
  refine E_iloadN (pc' := 1) cx st d10_0 rfl rfl ?_
  refine E_aloadN (pc' := 2) cx st d10_1 rfl rfl rfl ?_
  refine E_getfield (pc' := 5) cx st (wd hw 37 rfl) Fp d10_2 rfl ?_
  intro T1 st1
  refine E_icmp_geN (pc' := 8) cx st1 d10_5 rfl (by decide) ?_
  refine E_return cx st1 d10_8 rfl (by decide) (by decide) ?_
  exact ⟨rfl, rfl⟩
theorem d23_0 : decode prog_14_method_5_code 0 = .ok (.aload_n 0, 1) := by decide +kernel
theorem d23_1 : decode prog_14_method_5_code 1 = .ok (.iload_n 1, 1) := by decide +kernel
theorem d23_2 : decode prog_14_method_5_code 2 = .ok (.invokevirtual 51, 3) := by decide +kernel
theorem d23_5 : decode prog_14_method_5_code 5 = .ok (.aload_n 0, 1) := by decide +kernel
theorem d23_6 : decode prog_14_method_5_code 6 = .ok (.iload_n 1, 1) := by decide +kernel
theorem d23_7 : decode prog_14_method_5_code 7 = .ok (.invokevirtual 55, 3) := by decide +kernel
theorem d23_10 : decode prog_14_method_5_code 10 = .ok (.laload, 1) := by decide +kernel
theorem d23_11 : decode prog_14_method_5_code 11 = .ok (.lreturn, 1) := by decide +kernel
theorem ef_get0 (m : MethodId) (x0 : Addr) (x1 : Int32) : entryFrame m #[(.ref x0), (.int x1)] 2 = mkF m 0 #[.val (.ref x0), .val (.int x1)] [] := by first | (simp [entryFrame, mkF, argsToLocals, Value.category]; done) | rfl
theorem pd_4 : parseMethodDescriptor "(I)[J" = some ⟨[.int], some (.array .long)⟩ := by decide +kernel
set_option maxRecDepth 65536 in
set_option maxHeartbeats 40000000 in
theorem rmget0 (l : Launch) (Z : State) (a0 : Array Value) (hw : ∀ d ∈ tables_1, d.before a0 Z = true) (cl : Addr) (cs : Addr) (c0 : Addr) (e0 : Int64) (e1 : Int64) (h0 : Heap) (n0 : Nat) (Z0 : n0 ≤ h0.size) (kc kd : ClassId) (er : List Int64) (HL : LCF Z h0 cl cs) (V0 : Arv Z h0 cs kc (.array .long) (1 : Int32) [(.ref c0)] .null) (V1 : Arv Z h0 c0 kd .long (16 : Int32) ((.long e0) :: (.long e1) :: (er.map Value.long)) (.long (0 : Int64))) :
    Con l Z (⟨"com/example/flat_planner/flatplanner/LongColumn", "get", "(I)J"⟩ : MethodName) prog_14_method_5_code 2 (some .long) ({ frames := 1, cells := 0, slots := 0, locals := 14 } : Room) #[(.ref cl), (.int (0 : Int32))] h0 n0 (fun v h => v = some (.long e0) ∧ h = h0) := by
  refine Con.of (own := "com/example/flat_planner/flatplanner/LongColumn") (name := "get") (plainFor_of_name pn_2) (fun m => ef_get0 m cl (0 : Int32)) rfl rfl ?_
  intro p e s m below meth c T F S cx st
  obtain ⟨X_cl, Fw, Fs, Fc, Fp⟩ := HL
  refine E_aloadN (pc' := 1) cx st d23_0 rfl rfl rfl ?_
  refine E_iloadN (pc' := 2) cx st d23_1 rfl rfl ?_
  refine E_callV (pc' := 5) (kc' := 0) (ks' := 0) (W := 0) (a := cl) (argsL := [(.int (0 : Int32))]) cx st [] (rmchunk0 l Z a0 hw cl cs c0 h0 n0 Z0 kc Fc Fs V0) X_cl (wd hw 89 rfl) (wd hw 90 rfl) (wd hw 92 rfl) (wd hw 91 rfl) (wd hw 11 rfl) (wd hw 93 rfl) d23_2 rfl rfl (lenOf pd_4 rfl) (Nat.le_of_eq rfl) (by decide) (by decide) (by decide) (by decide) (by decide) (by decide) (by decide) rfl ?_
  intro v1 T1 h1 st1 hq1
  obtain ⟨rfl, hh1⟩ := hq1
  rw [hh1] at st1
  refine E_aloadN (pc' := 6) cx st1 d23_5 rfl rfl rfl ?_
  refine E_iloadN (pc' := 7) cx st1 d23_6 rfl rfl ?_
  refine E_callV (pc' := 10) (kc' := 0) (ks' := 0) (W := 1) (a := cl) (argsL := [(.int (0 : Int32))]) cx st1 [(.ref c0)] (rmoffset0 l Z a0 hw cl h0 n0 Z0 Fw Fs) X_cl (wd hw 94 rfl) (wd hw 95 rfl) (wd hw 97 rfl) (wd hw 96 rfl) (wd hw 11 rfl) (wd hw 98 rfl) d23_7 rfl rfl (lenOf pd_0 rfl) (Nat.le_of_eq rfl) (by decide) (by decide) (by decide) (by decide) (by decide) (by decide) (by decide) rfl ?_
  intro v2 T2 h2 st2 hq2
  obtain ⟨rfl, hh2⟩ := hq2
  rw [hh2] at st2
  refine E_laload (pc' := 11) (x := e0) cx st2 V1 ⟨by decide, by decide⟩ rfl d23_10 rfl ?_
  refine E_lreturn cx st2 d23_11 rfl (by decide) (by decide) ?_
  exact ⟨rfl, rfl⟩
theorem d11_0 : decode prog_14_method_6_code 0 = .ok (.aload_n 0, 1) := by decide +kernel
theorem d11_1 : decode prog_14_method_6_code 1 = .ok (.iload_n 1, 1) := by decide +kernel
theorem d11_2 : decode prog_14_method_6_code 2 = .ok (.invokevirtual 51, 3) := by decide +kernel
theorem d11_5 : decode prog_14_method_6_code 5 = .ok (.aload_n 0, 1) := by decide +kernel
theorem d11_6 : decode prog_14_method_6_code 6 = .ok (.iload_n 1, 1) := by decide +kernel
theorem d11_7 : decode prog_14_method_6_code 7 = .ok (.invokevirtual 55, 3) := by decide +kernel
theorem d11_10 : decode prog_14_method_6_code 10 = .ok (.lload_n 2, 1) := by decide +kernel
theorem d11_11 : decode prog_14_method_6_code 11 = .ok (.lastore, 1) := by decide +kernel
theorem d11_12 : decode prog_14_method_6_code 12 = .ok (.return_, 1) := by decide +kernel
theorem ef_set0 (m : MethodId) (x0 : Addr) (x1 : Int32) (x2 : Int64) : entryFrame m #[(.ref x0), (.int x1), (.long x2)] 4 = mkF m 0 #[.val (.ref x0), .val (.int x1), .val (.long x2), .second] [] := by first | (simp [entryFrame, mkF, argsToLocals, Value.category]; done) | rfl
set_option maxRecDepth 65536 in
set_option maxHeartbeats 40000000 in
theorem rmset0 (l : Launch) (Z : State) (a0 : Array Value) (hw : ∀ d ∈ tables_1, d.before a0 Z = true) (cl : Addr) (cs : Addr) (c0 : Addr) (e0 : Int64) (e1 : Int64) (vv : Int64) (h0 : Heap) (n0 : Nat) (Z0 : n0 ≤ h0.size) (g_c0 : n0 ≤ c0) (kc kd : ClassId) (er : List Int64) (HL : LCF Z h0 cl cs) (V0 : Arv Z h0 cs kc (.array .long) (1 : Int32) [(.ref c0)] .null) (V1 : Arv Z h0 c0 kd .long (16 : Int32) ((.long e0) :: (.long e1) :: (er.map Value.long)) (.long (0 : Int64))) :
    Con l Z (⟨"com/example/flat_planner/flatplanner/LongColumn", "set", "(IJ)V"⟩ : MethodName) prog_14_method_6_code 4 none ({ frames := 1, cells := 0, slots := 0, locals := 14 } : Room) #[(.ref cl), (.int (0 : Int32)), (.long vv)] h0 n0 (fun v h => v = none ∧ Keep h0 h [c0] ∧ Arv Z h c0 kd .long (16 : Int32) ((.long vv) :: (.long e1) :: (er.map Value.long)) (.long (0 : Int64))) := by
  refine Con.of (own := "com/example/flat_planner/flatplanner/LongColumn") (name := "set") (plainFor_of_name pn_2) (fun m => ef_set0 m cl (0 : Int32) vv) rfl rfl ?_
  intro p e s m below meth c T F S cx st
  obtain ⟨X_cl, Fw, Fs, Fc, Fp⟩ := HL
  refine E_aloadN (pc' := 1) cx st d11_0 rfl rfl rfl ?_
  refine E_iloadN (pc' := 2) cx st d11_1 rfl rfl ?_
  refine E_callV (pc' := 5) (kc' := 0) (ks' := 0) (W := 0) (a := cl) (argsL := [(.int (0 : Int32))]) cx st [] (rmchunk0 l Z a0 hw cl cs c0 h0 n0 Z0 kc Fc Fs V0) X_cl (wd hw 89 rfl) (wd hw 90 rfl) (wd hw 92 rfl) (wd hw 91 rfl) (wd hw 11 rfl) (wd hw 93 rfl) d11_2 rfl rfl (lenOf pd_4 rfl) (Nat.le_of_eq rfl) (by decide) (by decide) (by decide) (by decide) (by decide) (by decide) (by decide) rfl ?_
  intro v1 T1 h1 st1 hq1
  obtain ⟨rfl, hh1⟩ := hq1
  rw [hh1] at st1
  refine E_aloadN (pc' := 6) cx st1 d11_5 rfl rfl rfl ?_
  refine E_iloadN (pc' := 7) cx st1 d11_6 rfl rfl ?_
  refine E_callV (pc' := 10) (kc' := 0) (ks' := 0) (W := 1) (a := cl) (argsL := [(.int (0 : Int32))]) cx st1 [(.ref c0)] (rmoffset0 l Z a0 hw cl h0 n0 Z0 Fw Fs) X_cl (wd hw 94 rfl) (wd hw 95 rfl) (wd hw 97 rfl) (wd hw 96 rfl) (wd hw 11 rfl) (wd hw 98 rfl) d11_7 rfl rfl (lenOf pd_0 rfl) (Nat.le_of_eq rfl) (by decide) (by decide) (by decide) (by decide) (by decide) (by decide) (by decide) rfl ?_
  intro v2 T2 h2 st2 hq2
  obtain ⟨rfl, hh2⟩ := hq2
  rw [hh2] at st2
  refine E_lloadN (pc' := 11) cx st2 d11_10 rfl rfl ?_
  refine E_lastore (pc' := 12) (i := 0) cx st2 V1 ⟨by decide, by decide⟩ rfl (Nat.zero_lt_succ _) g_c0 d11_11 rfl ?_
  intro T3 h3 st3 W3 V3
  have Z3 : n0 ≤ h3.size := Nat.le_trans Z0 (Keep.of_wr W3).1
  have K3 : Keep h0 h3 [c0] := (Keep.refl h0 [c0]).wr W3 (mi 0 rfl)
  have V3p : Arv Z h3 c0 kd .long (16 : Int32) ((.long vv) :: (.long e1) :: (er.map Value.long)) (.long (0 : Int64)) := V3
  refine E_return cx st3 d11_12 rfl (by decide) (by decide) ?_
  exact ⟨rfl, K3, V3p⟩
theorem ef_chunk1 (m : MethodId) (x0 : Addr) (x1 : Int32) : entryFrame m #[(.ref x0), (.int x1)] 2 = mkF m 0 #[.val (.ref x0), .val (.int x1)] [] := by first | (simp [entryFrame, mkF, argsToLocals, Value.category]; done) | rfl
set_option maxRecDepth 65536 in
set_option maxHeartbeats 40000000 in
theorem rmchunk1 (l : Launch) (Z : State) (a0 : Array Value) (hw : ∀ d ∈ tables_1, d.before a0 Z = true) (cl : Addr) (cs : Addr) (c0 : Addr) (h0 : Heap) (n0 : Nat) (Z0 : n0 ≤ h0.size) (kc : ClassId) (Fc : Fld Z h0 cl "com/example/flat_planner/flatplanner/LongColumn" "chunks" "[[J" (.ref cs)) (Fs : Fld Z h0 cl "com/example/flat_planner/flatplanner/LongColumn" "shift" "I" (.int (16 : Int32))) (V0 : Arv Z h0 cs kc (.array .long) (1 : Int32) [(.ref c0)] .null) :
    Con l Z (⟨"com/example/flat_planner/flatplanner/LongColumn", "chunk", "(I)[J"⟩ : MethodName) prog_14_method_3_code 2 (some (.array .long)) ({ frames := 0, cells := 0, slots := 0, locals := 0 } : Room) #[(.ref cl), (.int (1 : Int32))] h0 n0 (fun v h => v = some (.ref c0) ∧ h = h0) := by
  refine Con.of (own := "com/example/flat_planner/flatplanner/LongColumn") (name := "chunk") (plainFor_of_name pn_2) (fun m => ef_chunk1 m cl (1 : Int32)) rfl rfl ?_
  intro p e s m below meth c T F S cx st
  refine E_aloadN (pc' := 1) cx st d12_0 rfl rfl rfl ?_
  refine E_getfield (pc' := 4) cx st (wd hw 18 rfl) Fc d12_1 rfl ?_
  intro T1 st1
  refine E_iloadN (pc' := 5) cx st1 d12_4 rfl rfl ?_
  refine E_aloadN (pc' := 6) cx st1 d12_5 rfl rfl rfl ?_
  refine E_getfield (pc' := 9) cx st1 (wd hw 32 rfl) Fs d12_6 rfl ?_
  intro T2 st2
  refine E_iushr (pc' := 10) cx st2 d12_9 rfl ?_
  rw [show (((1 : Int32).toUInt32 >>> ((16 : Int32) &&& 31).toUInt32).toInt32) = (0 : Int32) from by decide]
  refine E_aaload (pc' := 11) cx st2 V0 rfl ⟨by decide, by decide⟩ rfl d12_10 rfl ?_
  refine E_areturn (t := (.array .long)) cx st2 d12_11 rfl rfl rfl rfl (by decide) (by decide) ?_
  exact ⟨rfl, rfl⟩
theorem ef_offset1 (m : MethodId) (x0 : Addr) (x1 : Int32) : entryFrame m #[(.ref x0), (.int x1)] 2 = mkF m 0 #[.val (.ref x0), .val (.int x1)] [] := by first | (simp [entryFrame, mkF, argsToLocals, Value.category]; done) | rfl
set_option maxRecDepth 65536 in
set_option maxHeartbeats 40000000 in
theorem rmoffset1 (l : Launch) (Z : State) (a0 : Array Value) (hw : ∀ d ∈ tables_1, d.before a0 Z = true) (cl : Addr) (h0 : Heap) (n0 : Nat) (Z0 : n0 ≤ h0.size) (Fw : Fld Z h0 cl "com/example/flat_planner/flatplanner/LongColumn" "width" "I" (.int (1 : Int32))) (Fs : Fld Z h0 cl "com/example/flat_planner/flatplanner/LongColumn" "shift" "I" (.int (16 : Int32))) :
    Con l Z (⟨"com/example/flat_planner/flatplanner/LongColumn", "offset", "(I)I"⟩ : MethodName) prog_14_method_4_code 2 (some .int) ({ frames := 0, cells := 0, slots := 0, locals := 0 } : Room) #[(.ref cl), (.int (1 : Int32))] h0 n0 (fun v h => v = some (.int (1 : Int32)) ∧ h = h0) := by
  refine Con.of (own := "com/example/flat_planner/flatplanner/LongColumn") (name := "offset") (plainFor_of_name pn_2) (fun m => ef_offset1 m cl (1 : Int32)) rfl rfl ?_
  intro p e s m below meth c T F S cx st
  refine E_iloadN (pc' := 1) cx st d13_0 rfl rfl ?_
  refine E_iconst (pc' := 2) cx st (1 : Int32) d13_1 rfl rfl ?_
  refine E_aloadN (pc' := 3) cx st d13_2 rfl rfl rfl ?_
  refine E_getfield (pc' := 6) cx st (wd hw 32 rfl) Fs d13_3 rfl ?_
  intro T1 st1
  refine E_ishl (pc' := 7) cx st1 d13_6 rfl ?_
  rw [show ((1 : Int32) <<< ((16 : Int32) &&& 31)) = (65536 : Int32) from by decide]
  refine E_iconst (pc' := 8) cx st1 (1 : Int32) d13_7 rfl rfl ?_
  refine E_isub (pc' := 9) cx st1 d13_8 rfl ?_
  rw [show ((65536 : Int32) - (1 : Int32)) = (65535 : Int32) from by decide]
  refine E_iand (pc' := 10) cx st1 d13_9 rfl ?_
  rw [show ((1 : Int32) &&& (65535 : Int32)) = (1 : Int32) from by decide]
  refine E_aloadN (pc' := 11) cx st1 d13_10 rfl rfl rfl ?_
  refine E_getfield (pc' := 14) cx st1 (wd hw 20 rfl) Fw d13_11 rfl ?_
  intro T2 st2
  refine E_imul (pc' := 15) cx st2 d13_14 rfl ?_
  rw [show ((1 : Int32) * (1 : Int32)) = (1 : Int32) from by decide]
  refine E_ireturn (t := .int) cx st2 d13_15 rfl (by simp) rfl (by decide) (by decide) ?_
  exact ⟨rfl, rfl⟩
theorem ef_reserve1 (m : MethodId) (x0 : Addr) (x1 : Int32) : entryFrame m #[(.ref x0), (.int x1)] 4 = mkF m 0 #[.val (.ref x0), .val (.int x1), .unset, .unset] [] := by first | (simp [entryFrame, mkF, argsToLocals, Value.category]; done) | rfl
set_option maxRecDepth 65536 in
set_option maxHeartbeats 40000000 in
theorem rmreserve1 (l : Launch) (Z : State) (a0 : Array Value) (hw : ∀ d ∈ tables_1, d.before a0 Z = true) (cl : Addr) (h0 : Heap) (n0 : Nat) (Z0 : n0 ≤ h0.size) (Fp : Fld Z h0 cl "com/example/flat_planner/flatplanner/LongColumn" "capacity" "I" (.int (16 : Int32))) :
    Con l Z (⟨"com/example/flat_planner/flatplanner/LongColumn", "reserve", "(I)V"⟩ : MethodName) prog_14_method_2_code 4 none ({ frames := 0, cells := 0, slots := 0, locals := 0 } : Room) #[(.ref cl), (.int (1 : Int32))] h0 n0 (fun v h => v = none ∧ h = h0) := by
  refine Con.of (own := "com/example/flat_planner/flatplanner/LongColumn") (name := "reserve") (plainFor_of_name pn_2) (fun m => ef_reserve1 m cl (1 : Int32)) rfl rfl ?_
  intro p e s m below meth c T F S cx st
  refine E_iloadN (pc' := 1) cx st d10_0 rfl rfl ?_
  refine E_aloadN (pc' := 2) cx st d10_1 rfl rfl rfl ?_
  refine E_getfield (pc' := 5) cx st (wd hw 37 rfl) Fp d10_2 rfl ?_
  intro T1 st1
  refine E_icmp_geN (pc' := 8) cx st1 d10_5 rfl (by decide) ?_
  refine E_return cx st1 d10_8 rfl (by decide) (by decide) ?_
  exact ⟨rfl, rfl⟩
theorem ef_get1 (m : MethodId) (x0 : Addr) (x1 : Int32) : entryFrame m #[(.ref x0), (.int x1)] 2 = mkF m 0 #[.val (.ref x0), .val (.int x1)] [] := by first | (simp [entryFrame, mkF, argsToLocals, Value.category]; done) | rfl
set_option maxRecDepth 65536 in
set_option maxHeartbeats 40000000 in
theorem rmget1 (l : Launch) (Z : State) (a0 : Array Value) (hw : ∀ d ∈ tables_1, d.before a0 Z = true) (cl : Addr) (cs : Addr) (c0 : Addr) (e0 : Int64) (e1 : Int64) (h0 : Heap) (n0 : Nat) (Z0 : n0 ≤ h0.size) (kc kd : ClassId) (er : List Int64) (HL : LCF Z h0 cl cs) (V0 : Arv Z h0 cs kc (.array .long) (1 : Int32) [(.ref c0)] .null) (V1 : Arv Z h0 c0 kd .long (16 : Int32) ((.long e0) :: (.long e1) :: (er.map Value.long)) (.long (0 : Int64))) :
    Con l Z (⟨"com/example/flat_planner/flatplanner/LongColumn", "get", "(I)J"⟩ : MethodName) prog_14_method_5_code 2 (some .long) ({ frames := 1, cells := 0, slots := 0, locals := 14 } : Room) #[(.ref cl), (.int (1 : Int32))] h0 n0 (fun v h => v = some (.long e1) ∧ h = h0) := by
  refine Con.of (own := "com/example/flat_planner/flatplanner/LongColumn") (name := "get") (plainFor_of_name pn_2) (fun m => ef_get1 m cl (1 : Int32)) rfl rfl ?_
  intro p e s m below meth c T F S cx st
  obtain ⟨X_cl, Fw, Fs, Fc, Fp⟩ := HL
  refine E_aloadN (pc' := 1) cx st d23_0 rfl rfl rfl ?_
  refine E_iloadN (pc' := 2) cx st d23_1 rfl rfl ?_
  refine E_callV (pc' := 5) (kc' := 0) (ks' := 0) (W := 0) (a := cl) (argsL := [(.int (1 : Int32))]) cx st [] (rmchunk1 l Z a0 hw cl cs c0 h0 n0 Z0 kc Fc Fs V0) X_cl (wd hw 89 rfl) (wd hw 90 rfl) (wd hw 92 rfl) (wd hw 91 rfl) (wd hw 11 rfl) (wd hw 93 rfl) d23_2 rfl rfl (lenOf pd_4 rfl) (Nat.le_of_eq rfl) (by decide) (by decide) (by decide) (by decide) (by decide) (by decide) (by decide) rfl ?_
  intro v1 T1 h1 st1 hq1
  obtain ⟨rfl, hh1⟩ := hq1
  rw [hh1] at st1
  refine E_aloadN (pc' := 6) cx st1 d23_5 rfl rfl rfl ?_
  refine E_iloadN (pc' := 7) cx st1 d23_6 rfl rfl ?_
  refine E_callV (pc' := 10) (kc' := 0) (ks' := 0) (W := 1) (a := cl) (argsL := [(.int (1 : Int32))]) cx st1 [(.ref c0)] (rmoffset1 l Z a0 hw cl h0 n0 Z0 Fw Fs) X_cl (wd hw 94 rfl) (wd hw 95 rfl) (wd hw 97 rfl) (wd hw 96 rfl) (wd hw 11 rfl) (wd hw 98 rfl) d23_7 rfl rfl (lenOf pd_0 rfl) (Nat.le_of_eq rfl) (by decide) (by decide) (by decide) (by decide) (by decide) (by decide) (by decide) rfl ?_
  intro v2 T2 h2 st2 hq2
  obtain ⟨rfl, hh2⟩ := hq2
  rw [hh2] at st2
  refine E_laload (pc' := 11) (x := e1) cx st2 V1 ⟨by decide, by decide⟩ rfl d23_10 rfl ?_
  refine E_lreturn cx st2 d23_11 rfl (by decide) (by decide) ?_
  exact ⟨rfl, rfl⟩
theorem ef_set1 (m : MethodId) (x0 : Addr) (x1 : Int32) (x2 : Int64) : entryFrame m #[(.ref x0), (.int x1), (.long x2)] 4 = mkF m 0 #[.val (.ref x0), .val (.int x1), .val (.long x2), .second] [] := by first | (simp [entryFrame, mkF, argsToLocals, Value.category]; done) | rfl
set_option maxRecDepth 65536 in
set_option maxHeartbeats 40000000 in
theorem rmset1 (l : Launch) (Z : State) (a0 : Array Value) (hw : ∀ d ∈ tables_1, d.before a0 Z = true) (cl : Addr) (cs : Addr) (c0 : Addr) (e0 : Int64) (e1 : Int64) (vv : Int64) (h0 : Heap) (n0 : Nat) (Z0 : n0 ≤ h0.size) (g_c0 : n0 ≤ c0) (kc kd : ClassId) (er : List Int64) (HL : LCF Z h0 cl cs) (V0 : Arv Z h0 cs kc (.array .long) (1 : Int32) [(.ref c0)] .null) (V1 : Arv Z h0 c0 kd .long (16 : Int32) ((.long e0) :: (.long e1) :: (er.map Value.long)) (.long (0 : Int64))) :
    Con l Z (⟨"com/example/flat_planner/flatplanner/LongColumn", "set", "(IJ)V"⟩ : MethodName) prog_14_method_6_code 4 none ({ frames := 1, cells := 0, slots := 0, locals := 14 } : Room) #[(.ref cl), (.int (1 : Int32)), (.long vv)] h0 n0 (fun v h => v = none ∧ Keep h0 h [c0] ∧ Arv Z h c0 kd .long (16 : Int32) ((.long e0) :: (.long vv) :: (er.map Value.long)) (.long (0 : Int64))) := by
  refine Con.of (own := "com/example/flat_planner/flatplanner/LongColumn") (name := "set") (plainFor_of_name pn_2) (fun m => ef_set1 m cl (1 : Int32) vv) rfl rfl ?_
  intro p e s m below meth c T F S cx st
  obtain ⟨X_cl, Fw, Fs, Fc, Fp⟩ := HL
  refine E_aloadN (pc' := 1) cx st d11_0 rfl rfl rfl ?_
  refine E_iloadN (pc' := 2) cx st d11_1 rfl rfl ?_
  refine E_callV (pc' := 5) (kc' := 0) (ks' := 0) (W := 0) (a := cl) (argsL := [(.int (1 : Int32))]) cx st [] (rmchunk1 l Z a0 hw cl cs c0 h0 n0 Z0 kc Fc Fs V0) X_cl (wd hw 89 rfl) (wd hw 90 rfl) (wd hw 92 rfl) (wd hw 91 rfl) (wd hw 11 rfl) (wd hw 93 rfl) d11_2 rfl rfl (lenOf pd_4 rfl) (Nat.le_of_eq rfl) (by decide) (by decide) (by decide) (by decide) (by decide) (by decide) (by decide) rfl ?_
  intro v1 T1 h1 st1 hq1
  obtain ⟨rfl, hh1⟩ := hq1
  rw [hh1] at st1
  refine E_aloadN (pc' := 6) cx st1 d11_5 rfl rfl rfl ?_
  refine E_iloadN (pc' := 7) cx st1 d11_6 rfl rfl ?_
  refine E_callV (pc' := 10) (kc' := 0) (ks' := 0) (W := 1) (a := cl) (argsL := [(.int (1 : Int32))]) cx st1 [(.ref c0)] (rmoffset1 l Z a0 hw cl h0 n0 Z0 Fw Fs) X_cl (wd hw 94 rfl) (wd hw 95 rfl) (wd hw 97 rfl) (wd hw 96 rfl) (wd hw 11 rfl) (wd hw 98 rfl) d11_7 rfl rfl (lenOf pd_0 rfl) (Nat.le_of_eq rfl) (by decide) (by decide) (by decide) (by decide) (by decide) (by decide) (by decide) rfl ?_
  intro v2 T2 h2 st2 hq2
  obtain ⟨rfl, hh2⟩ := hq2
  rw [hh2] at st2
  refine E_lloadN (pc' := 11) cx st2 d11_10 rfl rfl ?_
  refine E_lastore (pc' := 12) (i := 1) cx st2 V1 ⟨by decide, by decide⟩ rfl (Nat.succ_lt_succ (Nat.zero_lt_succ _)) g_c0 d11_11 rfl ?_
  intro T3 h3 st3 W3 V3
  have Z3 : n0 ≤ h3.size := Nat.le_trans Z0 (Keep.of_wr W3).1
  have K3 : Keep h0 h3 [c0] := (Keep.refl h0 [c0]).wr W3 (mi 0 rfl)
  have V3p : Arv Z h3 c0 kd .long (16 : Int32) ((.long e0) :: (.long vv) :: (er.map Value.long)) (.long (0 : Int64)) := V3
  refine E_return cx st3 d11_12 rfl (by decide) (by decide) ?_
  exact ⟨rfl, K3, V3p⟩
theorem d26_0 : decode prog_16_method_9_code 0 = .ok (.aload_n 0, 1) := by decide +kernel
theorem d26_1 : decode prog_16_method_9_code 1 = .ok (.getfield 12, 3) := by decide +kernel
theorem d26_4 : decode prog_16_method_9_code 4 = .ok (.iload_n 1, 1) := by decide +kernel
theorem d26_5 : decode prog_16_method_9_code 5 = .ok (.invokevirtual 92, 3) := by decide +kernel
theorem d26_8 : decode prog_16_method_9_code 8 = .ok (.l2i, 1) := by decide +kernel
theorem d26_9 : decode prog_16_method_9_code 9 = .ok (.ireturn, 1) := by decide +kernel
theorem ef_next0 (m : MethodId) (x0 : Addr) (x1 : Int32) : entryFrame m #[(.ref x0), (.int x1)] 2 = mkF m 0 #[.val (.ref x0), .val (.int x1)] [] := by first | (simp [entryFrame, mkF, argsToLocals, Value.category]; done) | rfl
theorem pd_5 : parseMethodDescriptor "(I)J" = some ⟨[.int], some .long⟩ := by decide +kernel
set_option maxRecDepth 65536 in
set_option maxHeartbeats 40000000 in
theorem rmnext0 (l : Launch) (Z : State) (a0 : Array Value) (hw : ∀ d ∈ tables_1, d.before a0 Z = true) (o : Addr) (cl : Addr) (cs : Addr) (c0 : Addr) (bF : Addr) (bG : Addr) (bO : Addr) (bH : Addr) (bT : Addr) (hP : Addr) (nw : Addr) (h0 : Heap) (n0 : Nat) (Z0 : n0 ≤ h0.size) (gt : Int32) (fe : Int32) (eu : Int32) (sz : Int32) (fb : Int32) (bu : Int32) (sta : Int64) (hs : Int32) (e0 : Int64) (e1 : Int64) (er : List Int64) (f0 : Int64) (f1 : Int64) (fr : List Int64) (g0 : Int64) (g1 : Int64) (gr : List Int64) (q0 : Int64) (q1 : Int64) (qr : List Int64) (d0 : Int32) (d1 : Int32) (dr : List Int32) (t0 : Int32) (t1 : Int32) (tr : List Int32) (p0 : Int32) (p1 : Int32) (pr : List Int32) (ns : List Int32) (hnd : [o, cl, cs, c0, bF, bG, bO, bH, bT, hP, nw].Nodup) (hge : ∀ a ∈ [o, cl, cs, c0, bF, bG, bO, bH, bT, hP, nw], n0 ≤ a) (H0 : Wd Z h0 o cl cs c0 bF bG bO bH bT hP nw gt fe eu sz fb bu hs sta e0 e1 er f0 f1 fr g0 g1 gr q0 q1 qr d0 d1 dr t0 t1 tr p0 p1 pr ns)  :
    Con l Z (⟨"com/example/flat_planner/flatplanner/OpenList", "next", "(I)I"⟩ : MethodName) prog_16_method_9_code 2 (some .int) ({ frames := 2, cells := 0, slots := 0, locals := 27 } : Room) #[(.ref o), (.int (0 : Int32))] h0 n0 (fun v h => v = some (.int (loV e0)) ∧ h = h0) := by
  refine Con.of (own := "com/example/flat_planner/flatplanner/OpenList") (name := "next") (plainFor_of_name pn_3) (fun m => ef_next0 m o (0 : Int32)) rfl rfl ?_
  intro p e s m below meth c T F S cx st
  have g_o : n0 ≤ o := hge o (by simp)
  have g_c0 : n0 ≤ c0 := hge c0 (by simp)
  have g_bF : n0 ≤ bF := hge bF (by simp)
  have g_bG : n0 ≤ bG := hge bG (by simp)
  have g_bO : n0 ≤ bO := hge bO (by simp)
  have g_bH : n0 ≤ bH := hge bH (by simp)
  have g_bT : n0 ≤ bT := hge bT (by simp)
  have g_hP : n0 ≤ hP := hge hP (by simp)
  have g_nw : n0 ≤ nw := hge nw (by simp)
  obtain ⟨X_o, B_o, HL, ⟨k_cs, V_cs⟩, ⟨k_c0, V_c0⟩, ⟨k_bF, V_bF⟩, ⟨k_bG, V_bG⟩, ⟨k_bO, V_bO⟩, ⟨k_bH, V_bH⟩, ⟨k_bT, V_bT⟩, ⟨k_hP, V_hP⟩, ⟨k_nw, V_nw⟩⟩ := H0
  refine E_aloadN (pc' := 1) cx st d26_0 rfl rfl rfl ?_
  refine E_getfield (pc' := 4) (v := (.ref cl)) cx st (wd hw 41 rfl) (B_o.at 1 (by decide) rfl rfl) d26_1 rfl ?_
  intro T1 st1
  refine E_iloadN (pc' := 5) cx st1 d26_4 rfl rfl ?_
  refine E_callV (pc' := 8) (kc' := 0) (ks' := 0) (W := 0) (a := cl) (argsL := [(.int (0 : Int32))]) cx st1 [] (rmget0 l Z a0 hw cl cs c0 e0 e1 h0 n0 Z0 k_cs k_c0 er HL V_cs V_c0) HL.1 (wd hw 149 rfl) (wd hw 150 rfl) (wd hw 152 rfl) (wd hw 151 rfl) (wd hw 11 rfl) (wd hw 153 rfl) d26_5 rfl rfl (lenOf pd_5 rfl) (Nat.le_of_eq rfl) (by decide) (by decide) (by decide) (by decide) (by decide) (by decide) (by decide) rfl ?_
  intro v2 T2 h2 st2 hq2
  obtain ⟨rfl, hh2⟩ := hq2
  rw [hh2] at st2
  refine E_l2i (pc' := 9) cx st2 d26_8 rfl ?_
  refine E_ireturn (t := .int) cx st2 d26_9 rfl (by simp) rfl (by decide) (by decide) ?_
  exact ⟨rfl, rfl⟩
theorem d24_0 : decode prog_16_method_10_code 0 = .ok (.aload_n 0, 1) := by decide +kernel
theorem d24_1 : decode prog_16_method_10_code 1 = .ok (.getfield 12, 3) := by decide +kernel
theorem d24_4 : decode prog_16_method_10_code 4 = .ok (.iload_n 1, 1) := by decide +kernel
theorem d24_5 : decode prog_16_method_10_code 5 = .ok (.aload_n 0, 1) := by decide +kernel
theorem d24_6 : decode prog_16_method_10_code 6 = .ok (.getfield 12, 3) := by decide +kernel
theorem d24_9 : decode prog_16_method_10_code 9 = .ok (.iload_n 1, 1) := by decide +kernel
theorem d24_10 : decode prog_16_method_10_code 10 = .ok (.invokevirtual 92, 3) := by decide +kernel
theorem d24_13 : decode prog_16_method_10_code 13 = .ok (.ldc2_w 111, 3) := by decide +kernel
theorem d24_16 : decode prog_16_method_10_code 16 = .ok (.land, 1) := by decide +kernel
theorem d24_17 : decode prog_16_method_10_code 17 = .ok (.iload_n 2, 1) := by decide +kernel
theorem d24_18 : decode prog_16_method_10_code 18 = .ok (.i2l, 1) := by decide +kernel
theorem d24_19 : decode prog_16_method_10_code 19 = .ok (.ldc2_w 113, 3) := by decide +kernel
theorem d24_22 : decode prog_16_method_10_code 22 = .ok (.land, 1) := by decide +kernel
theorem d24_23 : decode prog_16_method_10_code 23 = .ok (.lor, 1) := by decide +kernel
theorem d24_24 : decode prog_16_method_10_code 24 = .ok (.invokevirtual 107, 3) := by decide +kernel
theorem d24_27 : decode prog_16_method_10_code 27 = .ok (.return_, 1) := by decide +kernel
theorem ef_setNext0 (m : MethodId) (x0 : Addr) (x1 : Int32) (x2 : Int32) : entryFrame m #[(.ref x0), (.int x1), (.int x2)] 3 = mkF m 0 #[.val (.ref x0), .val (.int x1), .val (.int x2)] [] := by first | (simp [entryFrame, mkF, argsToLocals, Value.category]; done) | rfl
theorem pd_6 : parseMethodDescriptor "(IJ)V" = some ⟨[.int, .long], none⟩ := by decide +kernel
set_option maxRecDepth 65536 in
set_option maxHeartbeats 40000000 in
theorem rmsetNext0 (l : Launch) (Z : State) (a0 : Array Value) (hw : ∀ d ∈ tables_1, d.before a0 Z = true) (o : Addr) (cl : Addr) (cs : Addr) (c0 : Addr) (bF : Addr) (bG : Addr) (bO : Addr) (bH : Addr) (bT : Addr) (hP : Addr) (nw : Addr) (h0 : Heap) (n0 : Nat) (Z0 : n0 ≤ h0.size) (gt : Int32) (fe : Int32) (eu : Int32) (sz : Int32) (fb : Int32) (bu : Int32) (sta : Int64) (hs : Int32) (e0 : Int64) (e1 : Int64) (er : List Int64) (f0 : Int64) (f1 : Int64) (fr : List Int64) (g0 : Int64) (g1 : Int64) (gr : List Int64) (q0 : Int64) (q1 : Int64) (qr : List Int64) (d0 : Int32) (d1 : Int32) (dr : List Int32) (t0 : Int32) (t1 : Int32) (tr : List Int32) (p0 : Int32) (p1 : Int32) (pr : List Int32) (ns : List Int32) (nn : Int32) (hnd : [o, cl, cs, c0, bF, bG, bO, bH, bT, hP, nw].Nodup) (hge : ∀ a ∈ [o, cl, cs, c0, bF, bG, bO, bH, bT, hP, nw], n0 ≤ a) (H0 : Wd Z h0 o cl cs c0 bF bG bO bH bT hP nw gt fe eu sz fb bu hs sta e0 e1 er f0 f1 fr g0 g1 gr q0 q1 qr d0 d1 dr t0 t1 tr p0 p1 pr ns)  :
    Con l Z (⟨"com/example/flat_planner/flatplanner/OpenList", "setNext", "(II)V"⟩ : MethodName) prog_16_method_10_code 3 none ({ frames := 2, cells := 0, slots := 0, locals := 29 } : Room) #[(.ref o), (.int (0 : Int32)), (.int nn)] h0 n0 (fun v h => v = none ∧ Keep h0 h [o, c0, bF, bG, bO, bH, bT, hP, nw] ∧ Wd Z h o cl cs c0 bF bG bO bH bT hP nw gt fe eu sz fb bu hs sta (nxE e0 nn) e1 er f0 f1 fr g0 g1 gr q0 q1 qr d0 d1 dr t0 t1 tr p0 p1 pr ns) := by
  refine Con.of (own := "com/example/flat_planner/flatplanner/OpenList") (name := "setNext") (plainFor_of_name pn_3) (fun m => ef_setNext0 m o (0 : Int32) nn) rfl rfl ?_
  intro p e s m below meth c T F S cx st
  have g_o : n0 ≤ o := hge o (by simp)
  have g_c0 : n0 ≤ c0 := hge c0 (by simp)
  have g_bF : n0 ≤ bF := hge bF (by simp)
  have g_bG : n0 ≤ bG := hge bG (by simp)
  have g_bO : n0 ≤ bO := hge bO (by simp)
  have g_bH : n0 ≤ bH := hge bH (by simp)
  have g_bT : n0 ≤ bT := hge bT (by simp)
  have g_hP : n0 ≤ hP := hge hP (by simp)
  have g_nw : n0 ≤ nw := hge nw (by simp)
  obtain ⟨X_o, B_o, HL, ⟨k_cs, V_cs⟩, ⟨k_c0, V_c0⟩, ⟨k_bF, V_bF⟩, ⟨k_bG, V_bG⟩, ⟨k_bO, V_bO⟩, ⟨k_bH, V_bH⟩, ⟨k_bT, V_bT⟩, ⟨k_hP, V_hP⟩, ⟨k_nw, V_nw⟩⟩ := H0
  refine E_aloadN (pc' := 1) cx st d24_0 rfl rfl rfl ?_
  refine E_getfield (pc' := 4) (v := (.ref cl)) cx st (wd hw 41 rfl) (B_o.at 1 (by decide) rfl rfl) d24_1 rfl ?_
  intro T1 st1
  refine E_iloadN (pc' := 5) cx st1 d24_4 rfl rfl ?_
  refine E_aloadN (pc' := 6) cx st1 d24_5 rfl rfl rfl ?_
  refine E_getfield (pc' := 9) (v := (.ref cl)) cx st1 (wd hw 41 rfl) (B_o.at 1 (by decide) rfl rfl) d24_6 rfl ?_
  intro T2 st2
  refine E_iloadN (pc' := 10) cx st2 d24_9 rfl rfl ?_
  refine E_callV (pc' := 13) (kc' := 0) (ks' := 0) (W := 2) (a := cl) (argsL := [(.int (0 : Int32))]) cx st2 [(.int (0 : Int32)), (.ref cl)] (rmget0 l Z a0 hw cl cs c0 e0 e1 h0 n0 Z0 k_cs k_c0 er HL V_cs V_c0) HL.1 (wd hw 149 rfl) (wd hw 150 rfl) (wd hw 152 rfl) (wd hw 151 rfl) (wd hw 11 rfl) (wd hw 153 rfl) d24_10 rfl rfl (lenOf pd_5 rfl) (Nat.le_of_eq rfl) (by decide) (by decide) (by decide) (by decide) (by decide) (by decide) (by decide) rfl ?_
  intro v3 T3 h3 st3 hq3
  obtain ⟨rfl, hh3⟩ := hq3
  rw [hh3] at st3
  refine E_ldc2_w (pc' := 16) (v := (-4294967296 : Int64)) cx st3 (wd hw 158 rfl) d24_13 rfl ?_
  refine E_land (pc' := 17) cx st3 d24_16 rfl ?_
  refine E_iloadN (pc' := 18) cx st3 d24_17 rfl rfl ?_
  refine E_i2l (pc' := 19) cx st3 d24_18 rfl ?_
  refine E_ldc2_w (pc' := 22) (v := (4294967295 : Int64)) cx st3 (wd hw 159 rfl) d24_19 rfl ?_
  refine E_land (pc' := 23) cx st3 d24_22 rfl ?_
  refine E_lor (pc' := 24) cx st3 d24_23 rfl ?_
  refine E_callV (pc' := 27) (kc' := 0) (ks' := 0) (W := 0) (a := cl) (argsL := [(.int (0 : Int32)), (.long (nxE e0 nn))]) cx st3 [] (rmset0 l Z a0 hw cl cs c0 e0 e1 (nxE e0 nn) h0 n0 Z0 g_c0 k_cs k_c0 er HL V_cs V_c0) HL.1 (wd hw 84 rfl) (wd hw 85 rfl) (wd hw 87 rfl) (wd hw 86 rfl) (wd hw 11 rfl) (wd hw 88 rfl) d24_24 rfl rfl (lenOf pd_6 rfl) (Nat.le_of_eq rfl) (by decide) (by decide) (by decide) (by decide) (by decide) (by decide) (by decide) rfl ?_
  intro v4 T4 h4 st4 hq4
  obtain ⟨rfl, Ks4, Vs4⟩ := hq4
  have Z4 : n0 ≤ h4.size := Nat.le_trans Z0 Ks4.1
  have KKs4' : Keep h0 h4 [o, c0, bF, bG, bO, bH, bT, hP, nw] := (Keep.refl h0 [o, c0, bF, bG, bO, bH, bT, hP, nw]).trans Ks4 (allS (mi 1 rfl) all0)
  have X5 : Exa Z h4 o "com/example/flat_planner/flatplanner/OpenList" := (X_o.keep Ks4)
  have B6 : OL Z h4 o [(.int gt), (.ref cl), (.int fe), (.int eu), (.int sz), (.ref bF), (.ref bG), (.ref bO), (.ref bH), (.ref bT), (.int fb), (.int bu), (.long sta), (.ref hP), (.int hs), (.ref nw)] := (B_o.keep Ks4 (ninS (nd hnd 0 3 rfl rfl) nin0))
  have HL7 : LCF Z h4 cl cs := (HL.keep Ks4 (ninS (nd hnd 1 3 rfl rfl) nin0))
  have V8 : Arv Z h4 cs k_cs (.array .long) (1 : Int32) [(.ref c0)] .null := (V_cs.keep Ks4 (ninS (nd hnd 2 3 rfl rfl) nin0))
  have V9 : Arv Z h4 bF k_bF .long (16 : Int32) ((.long f0) :: (.long f1) :: (fr.map Value.long)) (.long (0 : Int64)) := (V_bF.keep Ks4 (ninS (nd hnd 4 3 rfl rfl) nin0))
  have V10 : Arv Z h4 bG k_bG .long (16 : Int32) ((.long g0) :: (.long g1) :: (gr.map Value.long)) (.long (0 : Int64)) := (V_bG.keep Ks4 (ninS (nd hnd 5 3 rfl rfl) nin0))
  have V11 : Arv Z h4 bO k_bO .long (16 : Int32) ((.long q0) :: (.long q1) :: (qr.map Value.long)) (.long (0 : Int64)) := (V_bO.keep Ks4 (ninS (nd hnd 6 3 rfl rfl) nin0))
  have V12 : Arv Z h4 bH k_bH .int (16 : Int32) ((.int d0) :: (.int d1) :: (dr.map Value.int)) (.int (0 : Int32)) := (V_bH.keep Ks4 (ninS (nd hnd 7 3 rfl rfl) nin0))
  have V13 : Arv Z h4 bT k_bT .int (16 : Int32) ((.int t0) :: (.int t1) :: (tr.map Value.int)) (.int (0 : Int32)) := (V_bT.keep Ks4 (ninS (nd hnd 8 3 rfl rfl) nin0))
  have V14 : Arv Z h4 hP k_hP .int (16 : Int32) ((.int p0) :: (.int p1) :: (pr.map Value.int)) (.int (0 : Int32)) := (V_hP.keep Ks4 (ninS (nd hnd 9 3 rfl rfl) nin0))
  have V15 : Arv Z h4 nw k_nw .int (32 : Int32) (ns.map Value.int) (.int (0 : Int32)) := (V_nw.keep Ks4 (ninS (nd hnd 10 3 rfl rfl) nin0))
  refine E_return cx st4 d24_27 rfl (by decide) (by decide) ?_
  exact ⟨rfl, KKs4', ⟨X5, B6, HL7, ⟨_, V8⟩, ⟨_, Vs4⟩, ⟨_, V9⟩, ⟨_, V10⟩, ⟨_, V11⟩, ⟨_, V12⟩, ⟨_, V13⟩, ⟨_, V14⟩, ⟨_, V15⟩⟩⟩
theorem d9_0 : decode prog_16_method_8_code 0 = .ok (.aload_n 0, 1) := by decide +kernel
theorem d9_1 : decode prog_16_method_8_code 1 = .ok (.getfield 18, 3) := by decide +kernel
theorem d9_4 : decode prog_16_method_8_code 4 = .ok (.iconst (-1), 1) := by decide +kernel
theorem d9_5 : decode prog_16_method_8_code 5 = .ok (.if_icmp .eq 20, 3) := by decide +kernel
theorem d9_8 : decode prog_16_method_8_code 8 = .ok (.aload_n 0, 1) := by decide +kernel
theorem d9_9 : decode prog_16_method_8_code 9 = .ok (.getfield 18, 3) := by decide +kernel
theorem d9_12 : decode prog_16_method_8_code 12 = .ok (.istore_n 2, 1) := by decide +kernel
theorem d9_13 : decode prog_16_method_8_code 13 = .ok (.aload_n 0, 1) := by decide +kernel
theorem d9_14 : decode prog_16_method_8_code 14 = .ok (.aload_n 0, 1) := by decide +kernel
theorem d9_15 : decode prog_16_method_8_code 15 = .ok (.iload_n 2, 1) := by decide +kernel
theorem d9_16 : decode prog_16_method_8_code 16 = .ok (.invokevirtual 98, 3) := by decide +kernel
theorem d9_19 : decode prog_16_method_8_code 19 = .ok (.putfield 18, 3) := by decide +kernel
theorem d9_22 : decode prog_16_method_8_code 22 = .ok (.goto 26, 3) := by decide +kernel
theorem d9_25 : decode prog_16_method_8_code 25 = .ok (.aload_n 0, 1) := by decide +kernel
theorem d9_26 : decode prog_16_method_8_code 26 = .ok (.getfield 12, 3) := by decide +kernel
theorem d9_29 : decode prog_16_method_8_code 29 = .ok (.aload_n 0, 1) := by decide +kernel
theorem d9_30 : decode prog_16_method_8_code 30 = .ok (.getfield 82, 3) := by decide +kernel
theorem d9_33 : decode prog_16_method_8_code 33 = .ok (.invokevirtual 104, 3) := by decide +kernel
theorem d9_36 : decode prog_16_method_8_code 36 = .ok (.aload_n 0, 1) := by decide +kernel
theorem d9_37 : decode prog_16_method_8_code 37 = .ok (.dup, 1) := by decide +kernel
theorem d9_38 : decode prog_16_method_8_code 38 = .ok (.getfield 82, 3) := by decide +kernel
theorem d9_41 : decode prog_16_method_8_code 41 = .ok (.dup_x1, 1) := by decide +kernel
theorem d9_42 : decode prog_16_method_8_code 42 = .ok (.iconst 1, 1) := by decide +kernel
theorem d9_43 : decode prog_16_method_8_code 43 = .ok (.iadd, 1) := by decide +kernel
theorem d9_44 : decode prog_16_method_8_code 44 = .ok (.putfield 82, 3) := by decide +kernel
theorem d9_47 : decode prog_16_method_8_code 47 = .ok (.istore_n 2, 1) := by decide +kernel
theorem d9_48 : decode prog_16_method_8_code 48 = .ok (.aload_n 0, 1) := by decide +kernel
theorem d9_49 : decode prog_16_method_8_code 49 = .ok (.getfield 12, 3) := by decide +kernel
theorem d9_52 : decode prog_16_method_8_code 52 = .ok (.iload_n 2, 1) := by decide +kernel
theorem d9_53 : decode prog_16_method_8_code 53 = .ok (.iload_n 1, 1) := by decide +kernel
theorem d9_54 : decode prog_16_method_8_code 54 = .ok (.i2l, 1) := by decide +kernel
theorem d9_55 : decode prog_16_method_8_code 55 = .ok (.bipush 32, 2) := by decide +kernel
theorem d9_57 : decode prog_16_method_8_code 57 = .ok (.lshl, 1) := by decide +kernel
theorem d9_58 : decode prog_16_method_8_code 58 = .ok (.invokevirtual 107, 3) := by decide +kernel
theorem d9_61 : decode prog_16_method_8_code 61 = .ok (.iload_n 2, 1) := by decide +kernel
theorem d9_62 : decode prog_16_method_8_code 62 = .ok (.ireturn, 1) := by decide +kernel
theorem ef_newEntry0 (m : MethodId) (x0 : Addr) (x1 : Int32) : entryFrame m #[(.ref x0), (.int x1)] 3 = mkF m 0 #[.val (.ref x0), .val (.int x1), .unset] [] := by first | (simp [entryFrame, mkF, argsToLocals, Value.category]; done) | rfl
set_option maxRecDepth 65536 in
set_option maxHeartbeats 40000000 in
theorem rmnewEntry0 (l : Launch) (Z : State) (a0 : Array Value) (hw : ∀ d ∈ tables_1, d.before a0 Z = true) (o : Addr) (cl : Addr) (cs : Addr) (c0 : Addr) (bF : Addr) (bG : Addr) (bO : Addr) (bH : Addr) (bT : Addr) (hP : Addr) (nw : Addr) (h0 : Heap) (n0 : Nat) (Z0 : n0 ≤ h0.size) (gt : Int32) (sz : Int32) (fb : Int32) (bu : Int32) (sta : Int64) (hs : Int32) (e0 : Int64) (e1 : Int64) (er : List Int64) (f0 : Int64) (f1 : Int64) (fr : List Int64) (g0 : Int64) (g1 : Int64) (gr : List Int64) (q0 : Int64) (q1 : Int64) (qr : List Int64) (d0 : Int32) (d1 : Int32) (dr : List Int32) (t0 : Int32) (t1 : Int32) (tr : List Int32) (p0 : Int32) (p1 : Int32) (pr : List Int32) (ns : List Int32) (id : Int32) (hnd : [o, cl, cs, c0, bF, bG, bO, bH, bT, hP, nw].Nodup) (hge : ∀ a ∈ [o, cl, cs, c0, bF, bG, bO, bH, bT, hP, nw], n0 ≤ a) (H0 : Wd Z h0 o cl cs c0 bF bG bO bH bT hP nw gt (-1 : Int32) (0 : Int32) sz fb bu hs sta e0 e1 er f0 f1 fr g0 g1 gr q0 q1 qr d0 d1 dr t0 t1 tr p0 p1 pr ns)  :
    Con l Z (⟨"com/example/flat_planner/flatplanner/OpenList", "newEntry", "(I)I"⟩ : MethodName) prog_16_method_8_code 3 (some .int) ({ frames := 2, cells := 0, slots := 0, locals := 29 } : Room) #[(.ref o), (.int id)] h0 n0 (fun v h => v = some (.int (0 : Int32)) ∧ Keep h0 h [o, c0, bF, bG, bO, bH, bT, hP, nw] ∧ Wd Z h o cl cs c0 bF bG bO bH bT hP nw gt (-1 : Int32) (1 : Int32) sz fb bu hs sta (mkE id) e1 er f0 f1 fr g0 g1 gr q0 q1 qr d0 d1 dr t0 t1 tr p0 p1 pr ns) := by
  refine Con.of (own := "com/example/flat_planner/flatplanner/OpenList") (name := "newEntry") (plainFor_of_name pn_3) (fun m => ef_newEntry0 m o id) rfl rfl ?_
  intro p e s m below meth c T F S cx st
  have g_o : n0 ≤ o := hge o (by simp)
  have g_c0 : n0 ≤ c0 := hge c0 (by simp)
  have g_bF : n0 ≤ bF := hge bF (by simp)
  have g_bG : n0 ≤ bG := hge bG (by simp)
  have g_bO : n0 ≤ bO := hge bO (by simp)
  have g_bH : n0 ≤ bH := hge bH (by simp)
  have g_bT : n0 ≤ bT := hge bT (by simp)
  have g_hP : n0 ≤ hP := hge hP (by simp)
  have g_nw : n0 ≤ nw := hge nw (by simp)
  obtain ⟨X_o, B_o, HL, ⟨k_cs, V_cs⟩, ⟨k_c0, V_c0⟩, ⟨k_bF, V_bF⟩, ⟨k_bG, V_bG⟩, ⟨k_bO, V_bO⟩, ⟨k_bH, V_bH⟩, ⟨k_bT, V_bT⟩, ⟨k_hP, V_hP⟩, ⟨k_nw, V_nw⟩⟩ := H0
  refine E_aloadN (pc' := 1) cx st d9_0 rfl rfl rfl ?_
  refine E_getfield (pc' := 4) (v := (.int (-1 : Int32))) cx st (wd hw 43 rfl) (B_o.at 2 (by decide) rfl rfl) d9_1 rfl ?_
  intro T1 st1
  refine E_iconst (pc' := 5) cx st1 (-1 : Int32) d9_4 rfl rfl ?_
  refine E_icmp_eqY (pc' := 25) cx st1 d9_5 (by decide) (by decide) (by decide) ?_
  refine E_aloadN (pc' := 26) cx st1 d9_25 rfl rfl rfl ?_
  refine E_getfield (pc' := 29) (v := (.ref cl)) cx st1 (wd hw 41 rfl) (B_o.at 1 (by decide) rfl rfl) d9_26 rfl ?_
  intro T2 st2
  refine E_aloadN (pc' := 30) cx st2 d9_29 rfl rfl rfl ?_
  refine E_getfield (pc' := 33) (v := (.int (0 : Int32))) cx st2 (wd hw 77 rfl) (B_o.at 3 (by decide) rfl rfl) d9_30 rfl ?_
  intro T3 st3
  refine E_callV (pc' := 36) (kc' := 0) (ks' := 0) (W := 0) (a := cl) (argsL := [(.int (0 : Int32))]) cx st3 [] (rmreserve0 l Z a0 hw cl h0 n0 Z0 HL.2.2.2.2) HL.1 (wd hw 79 rfl) (wd hw 80 rfl) (wd hw 82 rfl) (wd hw 81 rfl) (wd hw 11 rfl) (wd hw 83 rfl) d9_33 rfl rfl (lenOf pd_2 rfl) (Nat.le_of_eq rfl) (by decide) (by decide) (by decide) (by decide) (by decide) (by decide) (by decide) rfl ?_
  intro v4 T4 h4 st4 hq4
  obtain ⟨rfl, hh4⟩ := hq4
  rw [hh4] at st4
  refine E_aloadN (pc' := 37) cx st4 d9_36 rfl rfl rfl ?_
  refine E_dup (pc' := 38) cx st4 d9_37 rfl rfl ?_
  refine E_getfield (pc' := 41) (v := (.int (0 : Int32))) cx st4 (wd hw 77 rfl) (B_o.at 3 (by decide) rfl rfl) d9_38 rfl ?_
  intro T5 st5
  refine E_dup_x1 (pc' := 42) cx st5 d9_41 rfl rfl rfl ?_
  refine E_iconst (pc' := 43) cx st5 (1 : Int32) d9_42 rfl rfl ?_
  refine E_iadd (pc' := 44) cx st5 d9_43 rfl ?_
  rw [show ((0 : Int32) + (1 : Int32)) = (1 : Int32) from by decide]
  refine E_putfield (pc' := 47) (ty := .int) cx st5 (wd hw 77 rfl) (B_o.at 3 (by decide) rfl rfl) X_o (Or.inl (wd hw 78 rfl)) (wd hw 1 rfl) (by decide) rfl rfl g_o d9_44 rfl ?_
  intro T6 h6 st6 W6
  have Z6 : n0 ≤ h6.size := Nat.le_trans Z0 (Keep.of_wr W6).1
  have K6 : Keep h0 h6 [o, c0, bF, bG, bO, bH, bT, hP, nw] := (Keep.refl h0 [o, c0, bF, bG, bO, bH, bT, hP, nw]).wr W6 (mi 0 rfl)
  have B6w : OL Z h6 o [(.int gt), (.ref cl), (.int (-1 : Int32)), (.int (1 : Int32)), (.int sz), (.ref bF), (.ref bG), (.ref bO), (.ref bH), (.ref bT), (.int fb), (.int bu), (.long sta), (.ref hP), (.int hs), (.ref nw)] := B_o.wr hw 3 (by decide) rfl W6 (Nat.le_of_ble_eq_true rfl)
  refine E_istoreN (pc' := 48) (L' := #[.val (.ref o), .val (.int id), .val (.int (0 : Int32))]) cx st6 d9_47 rfl rfl ?_
  refine E_aloadN (pc' := 49) cx st6 d9_48 rfl rfl rfl ?_
  refine E_getfield (pc' := 52) (v := (.ref cl)) cx st6 (wd hw 41 rfl) (B6w.at 1 (by decide) rfl rfl) d9_49 rfl ?_
  intro T7 st7
  refine E_iloadN (pc' := 53) cx st7 d9_52 rfl rfl ?_
  refine E_iloadN (pc' := 54) cx st7 d9_53 rfl rfl ?_
  refine E_i2l (pc' := 55) cx st7 d9_54 rfl ?_
  refine E_bipush (pc' := 57) cx st7 (32 : Int32) d9_55 rfl rfl ?_
  refine E_lshl (pc' := 58) cx st7 d9_57 rfl ?_
  have HL8 : LCF Z h6 cl cs := (HL.other W6 (nd hnd 1 0 rfl rfl))
  have V9 : Arv Z h6 cs k_cs (.array .long) (1 : Int32) [(.ref c0)] .null := (V_cs.other W6 (nd hnd 2 0 rfl rfl))
  have V10 : Arv Z h6 c0 k_c0 .long (16 : Int32) ((.long e0) :: (.long e1) :: (er.map Value.long)) (.long (0 : Int64)) := (V_c0.other W6 (nd hnd 3 0 rfl rfl))
  refine E_callV (pc' := 61) (kc' := 0) (ks' := 0) (W := 0) (a := cl) (argsL := [(.int (0 : Int32)), (.long (mkE id))]) cx st7 [] (rmset0 l Z a0 hw cl cs c0 e0 e1 (mkE id) h6 n0 Z6 g_c0 k_cs k_c0 er HL8 V9 V10) HL8.1 (wd hw 84 rfl) (wd hw 85 rfl) (wd hw 87 rfl) (wd hw 86 rfl) (wd hw 11 rfl) (wd hw 88 rfl) d9_58 rfl rfl (lenOf pd_6 rfl) (Nat.le_of_eq rfl) (by decide) (by decide) (by decide) (by decide) (by decide) (by decide) (by decide) rfl ?_
  intro v11 T11 h11 st11 hq11
  obtain ⟨rfl, Ks11, Vs11⟩ := hq11
  have Z11 : n0 ≤ h11.size := Nat.le_trans Z6 Ks11.1
  have KKs11' : Keep h0 h11 [o, c0, bF, bG, bO, bH, bT, hP, nw] := K6.trans Ks11 (allS (mi 1 rfl) all0)
  refine E_iloadN (pc' := 62) cx st11 d9_61 rfl rfl ?_
  have X12 : Exa Z h11 o "com/example/flat_planner/flatplanner/OpenList" := ((X_o.wr W6).keep Ks11)
  have B13 : OL Z h11 o [(.int gt), (.ref cl), (.int (-1 : Int32)), (.int (1 : Int32)), (.int sz), (.ref bF), (.ref bG), (.ref bO), (.ref bH), (.ref bT), (.int fb), (.int bu), (.long sta), (.ref hP), (.int hs), (.ref nw)] := (B6w.keep Ks11 (ninS (nd hnd 0 3 rfl rfl) nin0))
  have HL14 : LCF Z h11 cl cs := (HL8.keep Ks11 (ninS (nd hnd 1 3 rfl rfl) nin0))
  have V15 : Arv Z h11 cs k_cs (.array .long) (1 : Int32) [(.ref c0)] .null := (V9.keep Ks11 (ninS (nd hnd 2 3 rfl rfl) nin0))
  have V16 : Arv Z h11 bF k_bF .long (16 : Int32) ((.long f0) :: (.long f1) :: (fr.map Value.long)) (.long (0 : Int64)) := ((V_bF.other W6 (nd hnd 4 0 rfl rfl)).keep Ks11 (ninS (nd hnd 4 3 rfl rfl) nin0))
  have V17 : Arv Z h11 bG k_bG .long (16 : Int32) ((.long g0) :: (.long g1) :: (gr.map Value.long)) (.long (0 : Int64)) := ((V_bG.other W6 (nd hnd 5 0 rfl rfl)).keep Ks11 (ninS (nd hnd 5 3 rfl rfl) nin0))
  have V18 : Arv Z h11 bO k_bO .long (16 : Int32) ((.long q0) :: (.long q1) :: (qr.map Value.long)) (.long (0 : Int64)) := ((V_bO.other W6 (nd hnd 6 0 rfl rfl)).keep Ks11 (ninS (nd hnd 6 3 rfl rfl) nin0))
  have V19 : Arv Z h11 bH k_bH .int (16 : Int32) ((.int d0) :: (.int d1) :: (dr.map Value.int)) (.int (0 : Int32)) := ((V_bH.other W6 (nd hnd 7 0 rfl rfl)).keep Ks11 (ninS (nd hnd 7 3 rfl rfl) nin0))
  have V20 : Arv Z h11 bT k_bT .int (16 : Int32) ((.int t0) :: (.int t1) :: (tr.map Value.int)) (.int (0 : Int32)) := ((V_bT.other W6 (nd hnd 8 0 rfl rfl)).keep Ks11 (ninS (nd hnd 8 3 rfl rfl) nin0))
  have V21 : Arv Z h11 hP k_hP .int (16 : Int32) ((.int p0) :: (.int p1) :: (pr.map Value.int)) (.int (0 : Int32)) := ((V_hP.other W6 (nd hnd 9 0 rfl rfl)).keep Ks11 (ninS (nd hnd 9 3 rfl rfl) nin0))
  have V22 : Arv Z h11 nw k_nw .int (32 : Int32) (ns.map Value.int) (.int (0 : Int32)) := ((V_nw.other W6 (nd hnd 10 0 rfl rfl)).keep Ks11 (ninS (nd hnd 10 3 rfl rfl) nin0))
  refine E_ireturn (t := .int) cx st11 d9_62 rfl (by simp) rfl (by decide) (by decide) ?_
  exact ⟨rfl, KKs11', ⟨X12, B13, HL14, ⟨_, V15⟩, ⟨_, Vs11⟩, ⟨_, V16⟩, ⟨_, V17⟩, ⟨_, V18⟩, ⟨_, V19⟩, ⟨_, V20⟩, ⟨_, V21⟩, ⟨_, V22⟩⟩⟩
theorem d15_0 : decode prog_16_method_11_code 0 = .ok (.aload_n 0, 1) := by decide +kernel
theorem d15_1 : decode prog_16_method_11_code 1 = .ok (.getfield 39, 3) := by decide +kernel
theorem d15_4 : decode prog_16_method_11_code 4 = .ok (.iconst (-1), 1) := by decide +kernel
theorem d15_5 : decode prog_16_method_11_code 5 = .ok (.if_icmp .eq 23, 3) := by decide +kernel
theorem d15_8 : decode prog_16_method_11_code 8 = .ok (.aload_n 0, 1) := by decide +kernel
theorem d15_9 : decode prog_16_method_11_code 9 = .ok (.getfield 39, 3) := by decide +kernel
theorem d15_12 : decode prog_16_method_11_code 12 = .ok (.istore 5, 2) := by decide +kernel
theorem d15_14 : decode prog_16_method_11_code 14 = .ok (.aload_n 0, 1) := by decide +kernel
theorem d15_15 : decode prog_16_method_11_code 15 = .ok (.aload_n 0, 1) := by decide +kernel
theorem d15_16 : decode prog_16_method_11_code 16 = .ok (.getfield 36, 3) := by decide +kernel
theorem d15_19 : decode prog_16_method_11_code 19 = .ok (.iload 5, 2) := by decide +kernel
theorem d15_21 : decode prog_16_method_11_code 21 = .ok (.iaload, 1) := by decide +kernel
theorem d15_22 : decode prog_16_method_11_code 22 = .ok (.putfield 39, 3) := by decide +kernel
theorem d15_25 : decode prog_16_method_11_code 25 = .ok (.goto 32, 3) := by decide +kernel
theorem d15_28 : decode prog_16_method_11_code 28 = .ok (.aload_n 0, 1) := by decide +kernel
theorem d15_29 : decode prog_16_method_11_code 29 = .ok (.getfield 85, 3) := by decide +kernel
theorem d15_32 : decode prog_16_method_11_code 32 = .ok (.aload_n 0, 1) := by decide +kernel
theorem d15_33 : decode prog_16_method_11_code 33 = .ok (.getfield 32, 3) := by decide +kernel
theorem d15_36 : decode prog_16_method_11_code 36 = .ok (.arraylength, 1) := by decide +kernel
theorem d15_37 : decode prog_16_method_11_code 37 = .ok (.if_icmp .ne 7, 3) := by decide +kernel
theorem d15_40 : decode prog_16_method_11_code 40 = .ok (.aload_n 0, 1) := by decide +kernel
theorem d15_41 : decode prog_16_method_11_code 41 = .ok (.invokevirtual 115, 3) := by decide +kernel
theorem d15_44 : decode prog_16_method_11_code 44 = .ok (.aload_n 0, 1) := by decide +kernel
theorem d15_45 : decode prog_16_method_11_code 45 = .ok (.dup, 1) := by decide +kernel
theorem d15_46 : decode prog_16_method_11_code 46 = .ok (.getfield 85, 3) := by decide +kernel
theorem d15_49 : decode prog_16_method_11_code 49 = .ok (.dup_x1, 1) := by decide +kernel
theorem d15_50 : decode prog_16_method_11_code 50 = .ok (.iconst 1, 1) := by decide +kernel
theorem d15_51 : decode prog_16_method_11_code 51 = .ok (.iadd, 1) := by decide +kernel
theorem d15_52 : decode prog_16_method_11_code 52 = .ok (.putfield 85, 3) := by decide +kernel
theorem d15_55 : decode prog_16_method_11_code 55 = .ok (.istore 5, 2) := by decide +kernel
theorem d15_57 : decode prog_16_method_11_code 57 = .ok (.aload_n 0, 1) := by decide +kernel
theorem d15_58 : decode prog_16_method_11_code 58 = .ok (.getfield 22, 3) := by decide +kernel
theorem d15_61 : decode prog_16_method_11_code 61 = .ok (.iload 5, 2) := by decide +kernel
theorem d15_63 : decode prog_16_method_11_code 63 = .ok (.lload_n 1, 1) := by decide +kernel
theorem d15_64 : decode prog_16_method_11_code 64 = .ok (.lastore, 1) := by decide +kernel
theorem d15_65 : decode prog_16_method_11_code 65 = .ok (.aload_n 0, 1) := by decide +kernel
theorem d15_66 : decode prog_16_method_11_code 66 = .ok (.getfield 26, 3) := by decide +kernel
theorem d15_69 : decode prog_16_method_11_code 69 = .ok (.iload 5, 2) := by decide +kernel
theorem d15_71 : decode prog_16_method_11_code 71 = .ok (.lload_n 3, 1) := by decide +kernel
theorem d15_72 : decode prog_16_method_11_code 72 = .ok (.lastore, 1) := by decide +kernel
theorem d15_73 : decode prog_16_method_11_code 73 = .ok (.aload_n 0, 1) := by decide +kernel
theorem d15_74 : decode prog_16_method_11_code 74 = .ok (.getfield 29, 3) := by decide +kernel
theorem d15_77 : decode prog_16_method_11_code 77 = .ok (.iload 5, 2) := by decide +kernel
theorem d15_79 : decode prog_16_method_11_code 79 = .ok (.aload_n 0, 1) := by decide +kernel
theorem d15_80 : decode prog_16_method_11_code 80 = .ok (.dup, 1) := by decide +kernel
theorem d15_81 : decode prog_16_method_11_code 81 = .ok (.getfield 88, 3) := by decide +kernel
theorem d15_84 : decode prog_16_method_11_code 84 = .ok (.dup2_x1, 1) := by decide +kernel
theorem d15_85 : decode prog_16_method_11_code 85 = .ok (.lconst 1, 1) := by decide +kernel
theorem d15_86 : decode prog_16_method_11_code 86 = .ok (.ladd, 1) := by decide +kernel
theorem d15_87 : decode prog_16_method_11_code 87 = .ok (.putfield 88, 3) := by decide +kernel
theorem d15_90 : decode prog_16_method_11_code 90 = .ok (.lastore, 1) := by decide +kernel
theorem d15_91 : decode prog_16_method_11_code 91 = .ok (.iload 5, 2) := by decide +kernel
theorem d15_93 : decode prog_16_method_11_code 93 = .ok (.ireturn, 1) := by decide +kernel
theorem ef_startBucket0 (m : MethodId) (x0 : Addr) (x1 : Int64) (x2 : Int64) : entryFrame m #[(.ref x0), (.long x1), (.long x2)] 6 = mkF m 0 #[.val (.ref x0), .val (.long x1), .second, .val (.long x2), .second, .unset] [] := by first | (simp [entryFrame, mkF, argsToLocals, Value.category]; done) | rfl
set_option maxRecDepth 65536 in
set_option maxHeartbeats 40000000 in
theorem rmstartBucket0 (l : Launch) (Z : State) (a0 : Array Value) (hw : ∀ d ∈ tables_1, d.before a0 Z = true) (o : Addr) (cl : Addr) (cs : Addr) (c0 : Addr) (bF : Addr) (bG : Addr) (bO : Addr) (bH : Addr) (bT : Addr) (hP : Addr) (nw : Addr) (h0 : Heap) (n0 : Nat) (Z0 : n0 ≤ h0.size) (gt : Int32) (fe : Int32) (eu : Int32) (sz : Int32) (hs : Int32) (e0 : Int64) (e1 : Int64) (er : List Int64) (f0 : Int64) (f1 : Int64) (fr : List Int64) (g0 : Int64) (g1 : Int64) (gr : List Int64) (q0 : Int64) (q1 : Int64) (qr : List Int64) (d0 : Int32) (d1 : Int32) (dr : List Int32) (t0 : Int32) (t1 : Int32) (tr : List Int32) (p0 : Int32) (p1 : Int32) (pr : List Int32) (ns : List Int32) (pf : Int64) (pg : Int64) (hnd : [o, cl, cs, c0, bF, bG, bO, bH, bT, hP, nw].Nodup) (hge : ∀ a ∈ [o, cl, cs, c0, bF, bG, bO, bH, bT, hP, nw], n0 ≤ a) (H0 : Wd Z h0 o cl cs c0 bF bG bO bH bT hP nw gt fe eu sz (-1 : Int32) (0 : Int32) hs (0 : Int64) e0 e1 er f0 f1 fr g0 g1 gr q0 q1 qr d0 d1 dr t0 t1 tr p0 p1 pr ns)  :
    Con l Z (⟨"com/example/flat_planner/flatplanner/OpenList", "startBucket", "(JJ)I"⟩ : MethodName) prog_16_method_11_code 6 (some .int) ({ frames := 0, cells := 0, slots := 0, locals := 0 } : Room) #[(.ref o), (.long pf), (.long pg)] h0 n0 (fun v h => v = some (.int (0 : Int32)) ∧ Keep h0 h [o, c0, bF, bG, bO, bH, bT, hP, nw] ∧ Wd Z h o cl cs c0 bF bG bO bH bT hP nw gt fe eu sz (-1 : Int32) (1 : Int32) hs (1 : Int64) e0 e1 er pf f1 fr pg g1 gr (0 : Int64) q1 qr d0 d1 dr t0 t1 tr p0 p1 pr ns) := by
  refine Con.of (own := "com/example/flat_planner/flatplanner/OpenList") (name := "startBucket") (plainFor_of_name pn_3) (fun m => ef_startBucket0 m o pf pg) rfl rfl ?_
  intro p e s m below meth c T F S cx st
  have g_o : n0 ≤ o := hge o (by simp)
  have g_c0 : n0 ≤ c0 := hge c0 (by simp)
  have g_bF : n0 ≤ bF := hge bF (by simp)
  have g_bG : n0 ≤ bG := hge bG (by simp)
  have g_bO : n0 ≤ bO := hge bO (by simp)
  have g_bH : n0 ≤ bH := hge bH (by simp)
  have g_bT : n0 ≤ bT := hge bT (by simp)
  have g_hP : n0 ≤ hP := hge hP (by simp)
  have g_nw : n0 ≤ nw := hge nw (by simp)
  obtain ⟨X_o, B_o, HL, ⟨k_cs, V_cs⟩, ⟨k_c0, V_c0⟩, ⟨k_bF, V_bF⟩, ⟨k_bG, V_bG⟩, ⟨k_bO, V_bO⟩, ⟨k_bH, V_bH⟩, ⟨k_bT, V_bT⟩, ⟨k_hP, V_hP⟩, ⟨k_nw, V_nw⟩⟩ := H0
  refine E_aloadN (pc' := 1) cx st d15_0 rfl rfl rfl ?_
  refine E_getfield (pc' := 4) (v := (.int (-1 : Int32))) cx st (wd hw 56 rfl) (B_o.at 10 (by decide) rfl rfl) d15_1 rfl ?_
  intro T1 st1
  refine E_iconst (pc' := 5) cx st1 (-1 : Int32) d15_4 rfl rfl ?_
  refine E_icmp_eqY (pc' := 28) cx st1 d15_5 (by decide) (by decide) (by decide) ?_
  refine E_aloadN (pc' := 29) cx st1 d15_28 rfl rfl rfl ?_
  refine E_getfield (pc' := 32) (v := (.int (0 : Int32))) cx st1 (wd hw 108 rfl) (B_o.at 11 (by decide) rfl rfl) d15_29 rfl ?_
  intro T2 st2
  refine E_aloadN (pc' := 33) cx st2 d15_32 rfl rfl rfl ?_
  refine E_getfield (pc' := 36) (v := (.ref bH)) cx st2 (wd hw 52 rfl) (B_o.at 8 (by decide) rfl rfl) d15_33 rfl ?_
  intro T3 st3
  refine E_arraylength (pc' := 37) cx st3 V_bH d15_36 rfl ?_
  refine E_icmp_neY (pc' := 44) cx st3 d15_37 (by decide) (by decide) (by decide) ?_
  refine E_aloadN (pc' := 45) cx st3 d15_44 rfl rfl rfl ?_
  refine E_dup (pc' := 46) cx st3 d15_45 rfl rfl ?_
  refine E_getfield (pc' := 49) (v := (.int (0 : Int32))) cx st3 (wd hw 108 rfl) (B_o.at 11 (by decide) rfl rfl) d15_46 rfl ?_
  intro T4 st4
  refine E_dup_x1 (pc' := 50) cx st4 d15_49 rfl rfl rfl ?_
  refine E_iconst (pc' := 51) cx st4 (1 : Int32) d15_50 rfl rfl ?_
  refine E_iadd (pc' := 52) cx st4 d15_51 rfl ?_
  rw [show ((0 : Int32) + (1 : Int32)) = (1 : Int32) from by decide]
  refine E_putfield (pc' := 55) (ty := .int) cx st4 (wd hw 108 rfl) (B_o.at 11 (by decide) rfl rfl) X_o (Or.inl (wd hw 109 rfl)) (wd hw 1 rfl) (by decide) rfl rfl g_o d15_52 rfl ?_
  intro T5 h5 st5 W5
  have Z5 : n0 ≤ h5.size := Nat.le_trans Z0 (Keep.of_wr W5).1
  have K5 : Keep h0 h5 [o, c0, bF, bG, bO, bH, bT, hP, nw] := (Keep.refl h0 [o, c0, bF, bG, bO, bH, bT, hP, nw]).wr W5 (mi 0 rfl)
  have B5w : OL Z h5 o [(.int gt), (.ref cl), (.int fe), (.int eu), (.int sz), (.ref bF), (.ref bG), (.ref bO), (.ref bH), (.ref bT), (.int (-1 : Int32)), (.int (1 : Int32)), (.long (0 : Int64)), (.ref hP), (.int hs), (.ref nw)] := B_o.wr hw 11 (by decide) rfl W5 (Nat.le_of_ble_eq_true rfl)
  refine E_istore (pc' := 57) (L' := #[.val (.ref o), .val (.long pf), .second, .val (.long pg), .second, .val (.int (0 : Int32))]) cx st5 d15_55 rfl rfl ?_
  refine E_aloadN (pc' := 58) cx st5 d15_57 rfl rfl rfl ?_
  refine E_getfield (pc' := 61) (v := (.ref bF)) cx st5 (wd hw 45 rfl) (B5w.at 5 (by decide) rfl rfl) d15_58 rfl ?_
  intro T6 st6
  refine E_iload (pc' := 63) cx st6 d15_61 rfl rfl ?_
  refine E_lloadN (pc' := 64) cx st6 d15_63 rfl rfl ?_
  have V7 : Arv Z h5 bF k_bF .long (16 : Int32) ((.long f0) :: (.long f1) :: (fr.map Value.long)) (.long (0 : Int64)) := (V_bF.other W5 (nd hnd 4 0 rfl rfl))
  refine E_lastore (pc' := 65) (i := 0) cx st6 V7 ⟨by decide, by decide⟩ rfl (Nat.zero_lt_succ _) g_bF d15_64 rfl ?_
  intro T8 h8 st8 W8 V8
  have Z8 : n0 ≤ h8.size := Nat.le_trans Z5 (Keep.of_wr W8).1
  have K8 : Keep h0 h8 [o, c0, bF, bG, bO, bH, bT, hP, nw] := K5.wr W8 (mi 2 rfl)
  have V8p : Arv Z h8 bF k_bF .long (16 : Int32) ((.long pf) :: (.long f1) :: (fr.map Value.long)) (.long (0 : Int64)) := V8
  refine E_aloadN (pc' := 66) cx st8 d15_65 rfl rfl rfl ?_
  have B10 : OL Z h8 o [(.int gt), (.ref cl), (.int fe), (.int eu), (.int sz), (.ref bF), (.ref bG), (.ref bO), (.ref bH), (.ref bT), (.int (-1 : Int32)), (.int (1 : Int32)), (.long (0 : Int64)), (.ref hP), (.int hs), (.ref nw)] := (B5w.other W8 (nd hnd 0 4 rfl rfl))
  refine E_getfield (pc' := 69) (v := (.ref bG)) cx st8 (wd hw 47 rfl) (B10.at 6 (by decide) rfl rfl) d15_66 rfl ?_
  intro T9 st9
  refine E_iload (pc' := 71) cx st9 d15_69 rfl rfl ?_
  refine E_lloadN (pc' := 72) cx st9 d15_71 rfl rfl ?_
  have V11 : Arv Z h8 bG k_bG .long (16 : Int32) ((.long g0) :: (.long g1) :: (gr.map Value.long)) (.long (0 : Int64)) := ((V_bG.other W5 (nd hnd 5 0 rfl rfl)).other W8 (nd hnd 5 4 rfl rfl))
  refine E_lastore (pc' := 73) (i := 0) cx st9 V11 ⟨by decide, by decide⟩ rfl (Nat.zero_lt_succ _) g_bG d15_72 rfl ?_
  intro T12 h12 st12 W12 V12
  have Z12 : n0 ≤ h12.size := Nat.le_trans Z8 (Keep.of_wr W12).1
  have K12 : Keep h0 h12 [o, c0, bF, bG, bO, bH, bT, hP, nw] := K8.wr W12 (mi 3 rfl)
  have V12p : Arv Z h12 bG k_bG .long (16 : Int32) ((.long pg) :: (.long g1) :: (gr.map Value.long)) (.long (0 : Int64)) := V12
  refine E_aloadN (pc' := 74) cx st12 d15_73 rfl rfl rfl ?_
  have B14 : OL Z h12 o [(.int gt), (.ref cl), (.int fe), (.int eu), (.int sz), (.ref bF), (.ref bG), (.ref bO), (.ref bH), (.ref bT), (.int (-1 : Int32)), (.int (1 : Int32)), (.long (0 : Int64)), (.ref hP), (.int hs), (.ref nw)] := (B10.other W12 (nd hnd 0 5 rfl rfl))
  refine E_getfield (pc' := 77) (v := (.ref bO)) cx st12 (wd hw 49 rfl) (B14.at 7 (by decide) rfl rfl) d15_74 rfl ?_
  intro T13 st13
  refine E_iload (pc' := 79) cx st13 d15_77 rfl rfl ?_
  refine E_aloadN (pc' := 80) cx st13 d15_79 rfl rfl rfl ?_
  refine E_dup (pc' := 81) cx st13 d15_80 rfl rfl ?_
  refine E_getfield (pc' := 84) (v := (.long (0 : Int64))) cx st13 (wd hw 110 rfl) (B14.at 12 (by decide) rfl rfl) d15_81 rfl ?_
  intro T15 st15
  refine E_dup2_x1L (pc' := 85) cx st15 d15_84 rfl rfl ?_
  refine E_lconst (pc' := 86) cx st15 (1 : Int64) d15_85 rfl rfl ?_
  refine E_ladd (pc' := 87) cx st15 d15_86 rfl ?_
  rw [show ((0 : Int64) + (1 : Int64)) = (1 : Int64) from by decide]
  have X16 : Exa Z h12 o "com/example/flat_planner/flatplanner/OpenList" := (((X_o.wr W5).wr W8).wr W12)
  refine E_putfield (pc' := 90) (ty := .long) cx st15 (wd hw 110 rfl) (B14.at 12 (by decide) rfl rfl) X16 (Or.inl (wd hw 111 rfl)) (wd hw 1 rfl) (by decide) rfl rfl g_o d15_87 rfl ?_
  intro T17 h17 st17 W17
  have Z17 : n0 ≤ h17.size := Nat.le_trans Z12 (Keep.of_wr W17).1
  have K17 : Keep h0 h17 [o, c0, bF, bG, bO, bH, bT, hP, nw] := K12.wr W17 (mi 0 rfl)
  have B17w : OL Z h17 o [(.int gt), (.ref cl), (.int fe), (.int eu), (.int sz), (.ref bF), (.ref bG), (.ref bO), (.ref bH), (.ref bT), (.int (-1 : Int32)), (.int (1 : Int32)), (.long (1 : Int64)), (.ref hP), (.int hs), (.ref nw)] := B14.wr hw 12 (by decide) rfl W17 (Nat.le_of_ble_eq_true rfl)
  have V18 : Arv Z h17 bO k_bO .long (16 : Int32) ((.long q0) :: (.long q1) :: (qr.map Value.long)) (.long (0 : Int64)) := ((((V_bO.other W5 (nd hnd 6 0 rfl rfl)).other W8 (nd hnd 6 4 rfl rfl)).other W12 (nd hnd 6 5 rfl rfl)).other W17 (nd hnd 6 0 rfl rfl))
  refine E_lastore (pc' := 91) (i := 0) cx st17 V18 ⟨by decide, by decide⟩ rfl (Nat.zero_lt_succ _) g_bO d15_90 rfl ?_
  intro T19 h19 st19 W19 V19
  have Z19 : n0 ≤ h19.size := Nat.le_trans Z17 (Keep.of_wr W19).1
  have K19 : Keep h0 h19 [o, c0, bF, bG, bO, bH, bT, hP, nw] := K17.wr W19 (mi 4 rfl)
  have V19p : Arv Z h19 bO k_bO .long (16 : Int32) ((.long (0 : Int64)) :: (.long q1) :: (qr.map Value.long)) (.long (0 : Int64)) := V19
  refine E_iload (pc' := 93) cx st19 d15_91 rfl rfl ?_
  have X20 : Exa Z h19 o "com/example/flat_planner/flatplanner/OpenList" := ((X16.wr W17).wr W19)
  have B21 : OL Z h19 o [(.int gt), (.ref cl), (.int fe), (.int eu), (.int sz), (.ref bF), (.ref bG), (.ref bO), (.ref bH), (.ref bT), (.int (-1 : Int32)), (.int (1 : Int32)), (.long (1 : Int64)), (.ref hP), (.int hs), (.ref nw)] := (B17w.other W19 (nd hnd 0 6 rfl rfl))
  have HL22 : LCF Z h19 cl cs := (((((HL.other W5 (nd hnd 1 0 rfl rfl)).other W8 (nd hnd 1 4 rfl rfl)).other W12 (nd hnd 1 5 rfl rfl)).other W17 (nd hnd 1 0 rfl rfl)).other W19 (nd hnd 1 6 rfl rfl))
  have V23 : Arv Z h19 cs k_cs (.array .long) (1 : Int32) [(.ref c0)] .null := (((((V_cs.other W5 (nd hnd 2 0 rfl rfl)).other W8 (nd hnd 2 4 rfl rfl)).other W12 (nd hnd 2 5 rfl rfl)).other W17 (nd hnd 2 0 rfl rfl)).other W19 (nd hnd 2 6 rfl rfl))
  have V24 : Arv Z h19 c0 k_c0 .long (16 : Int32) ((.long e0) :: (.long e1) :: (er.map Value.long)) (.long (0 : Int64)) := (((((V_c0.other W5 (nd hnd 3 0 rfl rfl)).other W8 (nd hnd 3 4 rfl rfl)).other W12 (nd hnd 3 5 rfl rfl)).other W17 (nd hnd 3 0 rfl rfl)).other W19 (nd hnd 3 6 rfl rfl))
  have V25 : Arv Z h19 bF k_bF .long (16 : Int32) ((.long pf) :: (.long f1) :: (fr.map Value.long)) (.long (0 : Int64)) := (((V8p.other W12 (nd hnd 4 5 rfl rfl)).other W17 (nd hnd 4 0 rfl rfl)).other W19 (nd hnd 4 6 rfl rfl))
  have V26 : Arv Z h19 bG k_bG .long (16 : Int32) ((.long pg) :: (.long g1) :: (gr.map Value.long)) (.long (0 : Int64)) := ((V12p.other W17 (nd hnd 5 0 rfl rfl)).other W19 (nd hnd 5 6 rfl rfl))
  have V27 : Arv Z h19 bH k_bH .int (16 : Int32) ((.int d0) :: (.int d1) :: (dr.map Value.int)) (.int (0 : Int32)) := (((((V_bH.other W5 (nd hnd 7 0 rfl rfl)).other W8 (nd hnd 7 4 rfl rfl)).other W12 (nd hnd 7 5 rfl rfl)).other W17 (nd hnd 7 0 rfl rfl)).other W19 (nd hnd 7 6 rfl rfl))
  have V28 : Arv Z h19 bT k_bT .int (16 : Int32) ((.int t0) :: (.int t1) :: (tr.map Value.int)) (.int (0 : Int32)) := (((((V_bT.other W5 (nd hnd 8 0 rfl rfl)).other W8 (nd hnd 8 4 rfl rfl)).other W12 (nd hnd 8 5 rfl rfl)).other W17 (nd hnd 8 0 rfl rfl)).other W19 (nd hnd 8 6 rfl rfl))
  have V29 : Arv Z h19 hP k_hP .int (16 : Int32) ((.int p0) :: (.int p1) :: (pr.map Value.int)) (.int (0 : Int32)) := (((((V_hP.other W5 (nd hnd 9 0 rfl rfl)).other W8 (nd hnd 9 4 rfl rfl)).other W12 (nd hnd 9 5 rfl rfl)).other W17 (nd hnd 9 0 rfl rfl)).other W19 (nd hnd 9 6 rfl rfl))
  have V30 : Arv Z h19 nw k_nw .int (32 : Int32) (ns.map Value.int) (.int (0 : Int32)) := (((((V_nw.other W5 (nd hnd 10 0 rfl rfl)).other W8 (nd hnd 10 4 rfl rfl)).other W12 (nd hnd 10 5 rfl rfl)).other W17 (nd hnd 10 0 rfl rfl)).other W19 (nd hnd 10 6 rfl rfl))
  refine E_ireturn (t := .int) cx st19 d15_93 rfl (by simp) rfl (by decide) (by decide) ?_
  exact ⟨rfl, K19, ⟨X20, B21, HL22, ⟨_, V23⟩, ⟨_, V24⟩, ⟨_, V25⟩, ⟨_, V26⟩, ⟨_, V19p⟩, ⟨_, V27⟩, ⟨_, V28⟩, ⟨_, V29⟩, ⟨_, V30⟩⟩⟩
theorem ef_next1 (m : MethodId) (x0 : Addr) (x1 : Int32) : entryFrame m #[(.ref x0), (.int x1)] 2 = mkF m 0 #[.val (.ref x0), .val (.int x1)] [] := by first | (simp [entryFrame, mkF, argsToLocals, Value.category]; done) | rfl
set_option maxRecDepth 65536 in
set_option maxHeartbeats 40000000 in
theorem rmnext1 (l : Launch) (Z : State) (a0 : Array Value) (hw : ∀ d ∈ tables_1, d.before a0 Z = true) (o : Addr) (cl : Addr) (cs : Addr) (c0 : Addr) (bF : Addr) (bG : Addr) (bO : Addr) (bH : Addr) (bT : Addr) (hP : Addr) (nw : Addr) (h0 : Heap) (n0 : Nat) (Z0 : n0 ≤ h0.size) (gt : Int32) (fe : Int32) (eu : Int32) (sz : Int32) (fb : Int32) (bu : Int32) (sta : Int64) (hs : Int32) (e0 : Int64) (e1 : Int64) (er : List Int64) (f0 : Int64) (f1 : Int64) (fr : List Int64) (g0 : Int64) (g1 : Int64) (gr : List Int64) (q0 : Int64) (q1 : Int64) (qr : List Int64) (d0 : Int32) (d1 : Int32) (dr : List Int32) (t0 : Int32) (t1 : Int32) (tr : List Int32) (p0 : Int32) (p1 : Int32) (pr : List Int32) (ns : List Int32) (hnd : [o, cl, cs, c0, bF, bG, bO, bH, bT, hP, nw].Nodup) (hge : ∀ a ∈ [o, cl, cs, c0, bF, bG, bO, bH, bT, hP, nw], n0 ≤ a) (H0 : Wd Z h0 o cl cs c0 bF bG bO bH bT hP nw gt fe eu sz fb bu hs sta e0 e1 er f0 f1 fr g0 g1 gr q0 q1 qr d0 d1 dr t0 t1 tr p0 p1 pr ns)  :
    Con l Z (⟨"com/example/flat_planner/flatplanner/OpenList", "next", "(I)I"⟩ : MethodName) prog_16_method_9_code 2 (some .int) ({ frames := 2, cells := 0, slots := 0, locals := 27 } : Room) #[(.ref o), (.int (1 : Int32))] h0 n0 (fun v h => v = some (.int (loV e1)) ∧ h = h0) := by
  refine Con.of (own := "com/example/flat_planner/flatplanner/OpenList") (name := "next") (plainFor_of_name pn_3) (fun m => ef_next1 m o (1 : Int32)) rfl rfl ?_
  intro p e s m below meth c T F S cx st
  have g_o : n0 ≤ o := hge o (by simp)
  have g_c0 : n0 ≤ c0 := hge c0 (by simp)
  have g_bF : n0 ≤ bF := hge bF (by simp)
  have g_bG : n0 ≤ bG := hge bG (by simp)
  have g_bO : n0 ≤ bO := hge bO (by simp)
  have g_bH : n0 ≤ bH := hge bH (by simp)
  have g_bT : n0 ≤ bT := hge bT (by simp)
  have g_hP : n0 ≤ hP := hge hP (by simp)
  have g_nw : n0 ≤ nw := hge nw (by simp)
  obtain ⟨X_o, B_o, HL, ⟨k_cs, V_cs⟩, ⟨k_c0, V_c0⟩, ⟨k_bF, V_bF⟩, ⟨k_bG, V_bG⟩, ⟨k_bO, V_bO⟩, ⟨k_bH, V_bH⟩, ⟨k_bT, V_bT⟩, ⟨k_hP, V_hP⟩, ⟨k_nw, V_nw⟩⟩ := H0
  refine E_aloadN (pc' := 1) cx st d26_0 rfl rfl rfl ?_
  refine E_getfield (pc' := 4) (v := (.ref cl)) cx st (wd hw 41 rfl) (B_o.at 1 (by decide) rfl rfl) d26_1 rfl ?_
  intro T1 st1
  refine E_iloadN (pc' := 5) cx st1 d26_4 rfl rfl ?_
  refine E_callV (pc' := 8) (kc' := 0) (ks' := 0) (W := 0) (a := cl) (argsL := [(.int (1 : Int32))]) cx st1 [] (rmget1 l Z a0 hw cl cs c0 e0 e1 h0 n0 Z0 k_cs k_c0 er HL V_cs V_c0) HL.1 (wd hw 149 rfl) (wd hw 150 rfl) (wd hw 152 rfl) (wd hw 151 rfl) (wd hw 11 rfl) (wd hw 153 rfl) d26_5 rfl rfl (lenOf pd_5 rfl) (Nat.le_of_eq rfl) (by decide) (by decide) (by decide) (by decide) (by decide) (by decide) (by decide) rfl ?_
  intro v2 T2 h2 st2 hq2
  obtain ⟨rfl, hh2⟩ := hq2
  rw [hh2] at st2
  refine E_l2i (pc' := 9) cx st2 d26_8 rfl ?_
  refine E_ireturn (t := .int) cx st2 d26_9 rfl (by simp) rfl (by decide) (by decide) ?_
  exact ⟨rfl, rfl⟩
theorem ef_setNext1 (m : MethodId) (x0 : Addr) (x1 : Int32) (x2 : Int32) : entryFrame m #[(.ref x0), (.int x1), (.int x2)] 3 = mkF m 0 #[.val (.ref x0), .val (.int x1), .val (.int x2)] [] := by first | (simp [entryFrame, mkF, argsToLocals, Value.category]; done) | rfl
set_option maxRecDepth 65536 in
set_option maxHeartbeats 40000000 in
theorem rmsetNext1 (l : Launch) (Z : State) (a0 : Array Value) (hw : ∀ d ∈ tables_1, d.before a0 Z = true) (o : Addr) (cl : Addr) (cs : Addr) (c0 : Addr) (bF : Addr) (bG : Addr) (bO : Addr) (bH : Addr) (bT : Addr) (hP : Addr) (nw : Addr) (h0 : Heap) (n0 : Nat) (Z0 : n0 ≤ h0.size) (gt : Int32) (fe : Int32) (eu : Int32) (sz : Int32) (fb : Int32) (bu : Int32) (sta : Int64) (hs : Int32) (e0 : Int64) (e1 : Int64) (er : List Int64) (f0 : Int64) (f1 : Int64) (fr : List Int64) (g0 : Int64) (g1 : Int64) (gr : List Int64) (q0 : Int64) (q1 : Int64) (qr : List Int64) (d0 : Int32) (d1 : Int32) (dr : List Int32) (t0 : Int32) (t1 : Int32) (tr : List Int32) (p0 : Int32) (p1 : Int32) (pr : List Int32) (ns : List Int32) (nn : Int32) (hnd : [o, cl, cs, c0, bF, bG, bO, bH, bT, hP, nw].Nodup) (hge : ∀ a ∈ [o, cl, cs, c0, bF, bG, bO, bH, bT, hP, nw], n0 ≤ a) (H0 : Wd Z h0 o cl cs c0 bF bG bO bH bT hP nw gt fe eu sz fb bu hs sta e0 e1 er f0 f1 fr g0 g1 gr q0 q1 qr d0 d1 dr t0 t1 tr p0 p1 pr ns)  :
    Con l Z (⟨"com/example/flat_planner/flatplanner/OpenList", "setNext", "(II)V"⟩ : MethodName) prog_16_method_10_code 3 none ({ frames := 2, cells := 0, slots := 0, locals := 29 } : Room) #[(.ref o), (.int (1 : Int32)), (.int nn)] h0 n0 (fun v h => v = none ∧ Keep h0 h [o, c0, bF, bG, bO, bH, bT, hP, nw] ∧ Wd Z h o cl cs c0 bF bG bO bH bT hP nw gt fe eu sz fb bu hs sta e0 (nxE e1 nn) er f0 f1 fr g0 g1 gr q0 q1 qr d0 d1 dr t0 t1 tr p0 p1 pr ns) := by
  refine Con.of (own := "com/example/flat_planner/flatplanner/OpenList") (name := "setNext") (plainFor_of_name pn_3) (fun m => ef_setNext1 m o (1 : Int32) nn) rfl rfl ?_
  intro p e s m below meth c T F S cx st
  have g_o : n0 ≤ o := hge o (by simp)
  have g_c0 : n0 ≤ c0 := hge c0 (by simp)
  have g_bF : n0 ≤ bF := hge bF (by simp)
  have g_bG : n0 ≤ bG := hge bG (by simp)
  have g_bO : n0 ≤ bO := hge bO (by simp)
  have g_bH : n0 ≤ bH := hge bH (by simp)
  have g_bT : n0 ≤ bT := hge bT (by simp)
  have g_hP : n0 ≤ hP := hge hP (by simp)
  have g_nw : n0 ≤ nw := hge nw (by simp)
  obtain ⟨X_o, B_o, HL, ⟨k_cs, V_cs⟩, ⟨k_c0, V_c0⟩, ⟨k_bF, V_bF⟩, ⟨k_bG, V_bG⟩, ⟨k_bO, V_bO⟩, ⟨k_bH, V_bH⟩, ⟨k_bT, V_bT⟩, ⟨k_hP, V_hP⟩, ⟨k_nw, V_nw⟩⟩ := H0
  refine E_aloadN (pc' := 1) cx st d24_0 rfl rfl rfl ?_
  refine E_getfield (pc' := 4) (v := (.ref cl)) cx st (wd hw 41 rfl) (B_o.at 1 (by decide) rfl rfl) d24_1 rfl ?_
  intro T1 st1
  refine E_iloadN (pc' := 5) cx st1 d24_4 rfl rfl ?_
  refine E_aloadN (pc' := 6) cx st1 d24_5 rfl rfl rfl ?_
  refine E_getfield (pc' := 9) (v := (.ref cl)) cx st1 (wd hw 41 rfl) (B_o.at 1 (by decide) rfl rfl) d24_6 rfl ?_
  intro T2 st2
  refine E_iloadN (pc' := 10) cx st2 d24_9 rfl rfl ?_
  refine E_callV (pc' := 13) (kc' := 0) (ks' := 0) (W := 2) (a := cl) (argsL := [(.int (1 : Int32))]) cx st2 [(.int (1 : Int32)), (.ref cl)] (rmget1 l Z a0 hw cl cs c0 e0 e1 h0 n0 Z0 k_cs k_c0 er HL V_cs V_c0) HL.1 (wd hw 149 rfl) (wd hw 150 rfl) (wd hw 152 rfl) (wd hw 151 rfl) (wd hw 11 rfl) (wd hw 153 rfl) d24_10 rfl rfl (lenOf pd_5 rfl) (Nat.le_of_eq rfl) (by decide) (by decide) (by decide) (by decide) (by decide) (by decide) (by decide) rfl ?_
  intro v3 T3 h3 st3 hq3
  obtain ⟨rfl, hh3⟩ := hq3
  rw [hh3] at st3
  refine E_ldc2_w (pc' := 16) (v := (-4294967296 : Int64)) cx st3 (wd hw 158 rfl) d24_13 rfl ?_
  refine E_land (pc' := 17) cx st3 d24_16 rfl ?_
  refine E_iloadN (pc' := 18) cx st3 d24_17 rfl rfl ?_
  refine E_i2l (pc' := 19) cx st3 d24_18 rfl ?_
  refine E_ldc2_w (pc' := 22) (v := (4294967295 : Int64)) cx st3 (wd hw 159 rfl) d24_19 rfl ?_
  refine E_land (pc' := 23) cx st3 d24_22 rfl ?_
  refine E_lor (pc' := 24) cx st3 d24_23 rfl ?_
  refine E_callV (pc' := 27) (kc' := 0) (ks' := 0) (W := 0) (a := cl) (argsL := [(.int (1 : Int32)), (.long (nxE e1 nn))]) cx st3 [] (rmset1 l Z a0 hw cl cs c0 e0 e1 (nxE e1 nn) h0 n0 Z0 g_c0 k_cs k_c0 er HL V_cs V_c0) HL.1 (wd hw 84 rfl) (wd hw 85 rfl) (wd hw 87 rfl) (wd hw 86 rfl) (wd hw 11 rfl) (wd hw 88 rfl) d24_24 rfl rfl (lenOf pd_6 rfl) (Nat.le_of_eq rfl) (by decide) (by decide) (by decide) (by decide) (by decide) (by decide) (by decide) rfl ?_
  intro v4 T4 h4 st4 hq4
  obtain ⟨rfl, Ks4, Vs4⟩ := hq4
  have Z4 : n0 ≤ h4.size := Nat.le_trans Z0 Ks4.1
  have KKs4' : Keep h0 h4 [o, c0, bF, bG, bO, bH, bT, hP, nw] := (Keep.refl h0 [o, c0, bF, bG, bO, bH, bT, hP, nw]).trans Ks4 (allS (mi 1 rfl) all0)
  have X5 : Exa Z h4 o "com/example/flat_planner/flatplanner/OpenList" := (X_o.keep Ks4)
  have B6 : OL Z h4 o [(.int gt), (.ref cl), (.int fe), (.int eu), (.int sz), (.ref bF), (.ref bG), (.ref bO), (.ref bH), (.ref bT), (.int fb), (.int bu), (.long sta), (.ref hP), (.int hs), (.ref nw)] := (B_o.keep Ks4 (ninS (nd hnd 0 3 rfl rfl) nin0))
  have HL7 : LCF Z h4 cl cs := (HL.keep Ks4 (ninS (nd hnd 1 3 rfl rfl) nin0))
  have V8 : Arv Z h4 cs k_cs (.array .long) (1 : Int32) [(.ref c0)] .null := (V_cs.keep Ks4 (ninS (nd hnd 2 3 rfl rfl) nin0))
  have V9 : Arv Z h4 bF k_bF .long (16 : Int32) ((.long f0) :: (.long f1) :: (fr.map Value.long)) (.long (0 : Int64)) := (V_bF.keep Ks4 (ninS (nd hnd 4 3 rfl rfl) nin0))
  have V10 : Arv Z h4 bG k_bG .long (16 : Int32) ((.long g0) :: (.long g1) :: (gr.map Value.long)) (.long (0 : Int64)) := (V_bG.keep Ks4 (ninS (nd hnd 5 3 rfl rfl) nin0))
  have V11 : Arv Z h4 bO k_bO .long (16 : Int32) ((.long q0) :: (.long q1) :: (qr.map Value.long)) (.long (0 : Int64)) := (V_bO.keep Ks4 (ninS (nd hnd 6 3 rfl rfl) nin0))
  have V12 : Arv Z h4 bH k_bH .int (16 : Int32) ((.int d0) :: (.int d1) :: (dr.map Value.int)) (.int (0 : Int32)) := (V_bH.keep Ks4 (ninS (nd hnd 7 3 rfl rfl) nin0))
  have V13 : Arv Z h4 bT k_bT .int (16 : Int32) ((.int t0) :: (.int t1) :: (tr.map Value.int)) (.int (0 : Int32)) := (V_bT.keep Ks4 (ninS (nd hnd 8 3 rfl rfl) nin0))
  have V14 : Arv Z h4 hP k_hP .int (16 : Int32) ((.int p0) :: (.int p1) :: (pr.map Value.int)) (.int (0 : Int32)) := (V_hP.keep Ks4 (ninS (nd hnd 9 3 rfl rfl) nin0))
  have V15 : Arv Z h4 nw k_nw .int (32 : Int32) (ns.map Value.int) (.int (0 : Int32)) := (V_nw.keep Ks4 (ninS (nd hnd 10 3 rfl rfl) nin0))
  refine E_return cx st4 d24_27 rfl (by decide) (by decide) ?_
  exact ⟨rfl, KKs4', ⟨X5, B6, HL7, ⟨_, V8⟩, ⟨_, Vs4⟩, ⟨_, V9⟩, ⟨_, V10⟩, ⟨_, V11⟩, ⟨_, V12⟩, ⟨_, V13⟩, ⟨_, V14⟩, ⟨_, V15⟩⟩⟩
theorem ef_newEntry1 (m : MethodId) (x0 : Addr) (x1 : Int32) : entryFrame m #[(.ref x0), (.int x1)] 3 = mkF m 0 #[.val (.ref x0), .val (.int x1), .unset] [] := by first | (simp [entryFrame, mkF, argsToLocals, Value.category]; done) | rfl
set_option maxRecDepth 65536 in
set_option maxHeartbeats 40000000 in
theorem rmnewEntry1 (l : Launch) (Z : State) (a0 : Array Value) (hw : ∀ d ∈ tables_1, d.before a0 Z = true) (o : Addr) (cl : Addr) (cs : Addr) (c0 : Addr) (bF : Addr) (bG : Addr) (bO : Addr) (bH : Addr) (bT : Addr) (hP : Addr) (nw : Addr) (h0 : Heap) (n0 : Nat) (Z0 : n0 ≤ h0.size) (gt : Int32) (sz : Int32) (fb : Int32) (bu : Int32) (sta : Int64) (hs : Int32) (e0 : Int64) (e1 : Int64) (er : List Int64) (f0 : Int64) (f1 : Int64) (fr : List Int64) (g0 : Int64) (g1 : Int64) (gr : List Int64) (q0 : Int64) (q1 : Int64) (qr : List Int64) (d0 : Int32) (d1 : Int32) (dr : List Int32) (t0 : Int32) (t1 : Int32) (tr : List Int32) (p0 : Int32) (p1 : Int32) (pr : List Int32) (ns : List Int32) (id : Int32) (hnd : [o, cl, cs, c0, bF, bG, bO, bH, bT, hP, nw].Nodup) (hge : ∀ a ∈ [o, cl, cs, c0, bF, bG, bO, bH, bT, hP, nw], n0 ≤ a) (H0 : Wd Z h0 o cl cs c0 bF bG bO bH bT hP nw gt (-1 : Int32) (1 : Int32) sz fb bu hs sta e0 e1 er f0 f1 fr g0 g1 gr q0 q1 qr d0 d1 dr t0 t1 tr p0 p1 pr ns)  :
    Con l Z (⟨"com/example/flat_planner/flatplanner/OpenList", "newEntry", "(I)I"⟩ : MethodName) prog_16_method_8_code 3 (some .int) ({ frames := 2, cells := 0, slots := 0, locals := 29 } : Room) #[(.ref o), (.int id)] h0 n0 (fun v h => v = some (.int (1 : Int32)) ∧ Keep h0 h [o, c0, bF, bG, bO, bH, bT, hP, nw] ∧ Wd Z h o cl cs c0 bF bG bO bH bT hP nw gt (-1 : Int32) (2 : Int32) sz fb bu hs sta e0 (mkE id) er f0 f1 fr g0 g1 gr q0 q1 qr d0 d1 dr t0 t1 tr p0 p1 pr ns) := by
  refine Con.of (own := "com/example/flat_planner/flatplanner/OpenList") (name := "newEntry") (plainFor_of_name pn_3) (fun m => ef_newEntry1 m o id) rfl rfl ?_
  intro p e s m below meth c T F S cx st
  have g_o : n0 ≤ o := hge o (by simp)
  have g_c0 : n0 ≤ c0 := hge c0 (by simp)
  have g_bF : n0 ≤ bF := hge bF (by simp)
  have g_bG : n0 ≤ bG := hge bG (by simp)
  have g_bO : n0 ≤ bO := hge bO (by simp)
  have g_bH : n0 ≤ bH := hge bH (by simp)
  have g_bT : n0 ≤ bT := hge bT (by simp)
  have g_hP : n0 ≤ hP := hge hP (by simp)
  have g_nw : n0 ≤ nw := hge nw (by simp)
  obtain ⟨X_o, B_o, HL, ⟨k_cs, V_cs⟩, ⟨k_c0, V_c0⟩, ⟨k_bF, V_bF⟩, ⟨k_bG, V_bG⟩, ⟨k_bO, V_bO⟩, ⟨k_bH, V_bH⟩, ⟨k_bT, V_bT⟩, ⟨k_hP, V_hP⟩, ⟨k_nw, V_nw⟩⟩ := H0
  refine E_aloadN (pc' := 1) cx st d9_0 rfl rfl rfl ?_
  refine E_getfield (pc' := 4) (v := (.int (-1 : Int32))) cx st (wd hw 43 rfl) (B_o.at 2 (by decide) rfl rfl) d9_1 rfl ?_
  intro T1 st1
  refine E_iconst (pc' := 5) cx st1 (-1 : Int32) d9_4 rfl rfl ?_
  refine E_icmp_eqY (pc' := 25) cx st1 d9_5 (by decide) (by decide) (by decide) ?_
  refine E_aloadN (pc' := 26) cx st1 d9_25 rfl rfl rfl ?_
  refine E_getfield (pc' := 29) (v := (.ref cl)) cx st1 (wd hw 41 rfl) (B_o.at 1 (by decide) rfl rfl) d9_26 rfl ?_
  intro T2 st2
  refine E_aloadN (pc' := 30) cx st2 d9_29 rfl rfl rfl ?_
  refine E_getfield (pc' := 33) (v := (.int (1 : Int32))) cx st2 (wd hw 77 rfl) (B_o.at 3 (by decide) rfl rfl) d9_30 rfl ?_
  intro T3 st3
  refine E_callV (pc' := 36) (kc' := 0) (ks' := 0) (W := 0) (a := cl) (argsL := [(.int (1 : Int32))]) cx st3 [] (rmreserve1 l Z a0 hw cl h0 n0 Z0 HL.2.2.2.2) HL.1 (wd hw 79 rfl) (wd hw 80 rfl) (wd hw 82 rfl) (wd hw 81 rfl) (wd hw 11 rfl) (wd hw 83 rfl) d9_33 rfl rfl (lenOf pd_2 rfl) (Nat.le_of_eq rfl) (by decide) (by decide) (by decide) (by decide) (by decide) (by decide) (by decide) rfl ?_
  intro v4 T4 h4 st4 hq4
  obtain ⟨rfl, hh4⟩ := hq4
  rw [hh4] at st4
  refine E_aloadN (pc' := 37) cx st4 d9_36 rfl rfl rfl ?_
  refine E_dup (pc' := 38) cx st4 d9_37 rfl rfl ?_
  refine E_getfield (pc' := 41) (v := (.int (1 : Int32))) cx st4 (wd hw 77 rfl) (B_o.at 3 (by decide) rfl rfl) d9_38 rfl ?_
  intro T5 st5
  refine E_dup_x1 (pc' := 42) cx st5 d9_41 rfl rfl rfl ?_
  refine E_iconst (pc' := 43) cx st5 (1 : Int32) d9_42 rfl rfl ?_
  refine E_iadd (pc' := 44) cx st5 d9_43 rfl ?_
  rw [show ((1 : Int32) + (1 : Int32)) = (2 : Int32) from by decide]
  refine E_putfield (pc' := 47) (ty := .int) cx st5 (wd hw 77 rfl) (B_o.at 3 (by decide) rfl rfl) X_o (Or.inl (wd hw 78 rfl)) (wd hw 1 rfl) (by decide) rfl rfl g_o d9_44 rfl ?_
  intro T6 h6 st6 W6
  have Z6 : n0 ≤ h6.size := Nat.le_trans Z0 (Keep.of_wr W6).1
  have K6 : Keep h0 h6 [o, c0, bF, bG, bO, bH, bT, hP, nw] := (Keep.refl h0 [o, c0, bF, bG, bO, bH, bT, hP, nw]).wr W6 (mi 0 rfl)
  have B6w : OL Z h6 o [(.int gt), (.ref cl), (.int (-1 : Int32)), (.int (2 : Int32)), (.int sz), (.ref bF), (.ref bG), (.ref bO), (.ref bH), (.ref bT), (.int fb), (.int bu), (.long sta), (.ref hP), (.int hs), (.ref nw)] := B_o.wr hw 3 (by decide) rfl W6 (Nat.le_of_ble_eq_true rfl)
  refine E_istoreN (pc' := 48) (L' := #[.val (.ref o), .val (.int id), .val (.int (1 : Int32))]) cx st6 d9_47 rfl rfl ?_
  refine E_aloadN (pc' := 49) cx st6 d9_48 rfl rfl rfl ?_
  refine E_getfield (pc' := 52) (v := (.ref cl)) cx st6 (wd hw 41 rfl) (B6w.at 1 (by decide) rfl rfl) d9_49 rfl ?_
  intro T7 st7
  refine E_iloadN (pc' := 53) cx st7 d9_52 rfl rfl ?_
  refine E_iloadN (pc' := 54) cx st7 d9_53 rfl rfl ?_
  refine E_i2l (pc' := 55) cx st7 d9_54 rfl ?_
  refine E_bipush (pc' := 57) cx st7 (32 : Int32) d9_55 rfl rfl ?_
  refine E_lshl (pc' := 58) cx st7 d9_57 rfl ?_
  have HL8 : LCF Z h6 cl cs := (HL.other W6 (nd hnd 1 0 rfl rfl))
  have V9 : Arv Z h6 cs k_cs (.array .long) (1 : Int32) [(.ref c0)] .null := (V_cs.other W6 (nd hnd 2 0 rfl rfl))
  have V10 : Arv Z h6 c0 k_c0 .long (16 : Int32) ((.long e0) :: (.long e1) :: (er.map Value.long)) (.long (0 : Int64)) := (V_c0.other W6 (nd hnd 3 0 rfl rfl))
  refine E_callV (pc' := 61) (kc' := 0) (ks' := 0) (W := 0) (a := cl) (argsL := [(.int (1 : Int32)), (.long (mkE id))]) cx st7 [] (rmset1 l Z a0 hw cl cs c0 e0 e1 (mkE id) h6 n0 Z6 g_c0 k_cs k_c0 er HL8 V9 V10) HL8.1 (wd hw 84 rfl) (wd hw 85 rfl) (wd hw 87 rfl) (wd hw 86 rfl) (wd hw 11 rfl) (wd hw 88 rfl) d9_58 rfl rfl (lenOf pd_6 rfl) (Nat.le_of_eq rfl) (by decide) (by decide) (by decide) (by decide) (by decide) (by decide) (by decide) rfl ?_
  intro v11 T11 h11 st11 hq11
  obtain ⟨rfl, Ks11, Vs11⟩ := hq11
  have Z11 : n0 ≤ h11.size := Nat.le_trans Z6 Ks11.1
  have KKs11' : Keep h0 h11 [o, c0, bF, bG, bO, bH, bT, hP, nw] := K6.trans Ks11 (allS (mi 1 rfl) all0)
  refine E_iloadN (pc' := 62) cx st11 d9_61 rfl rfl ?_
  have X12 : Exa Z h11 o "com/example/flat_planner/flatplanner/OpenList" := ((X_o.wr W6).keep Ks11)
  have B13 : OL Z h11 o [(.int gt), (.ref cl), (.int (-1 : Int32)), (.int (2 : Int32)), (.int sz), (.ref bF), (.ref bG), (.ref bO), (.ref bH), (.ref bT), (.int fb), (.int bu), (.long sta), (.ref hP), (.int hs), (.ref nw)] := (B6w.keep Ks11 (ninS (nd hnd 0 3 rfl rfl) nin0))
  have HL14 : LCF Z h11 cl cs := (HL8.keep Ks11 (ninS (nd hnd 1 3 rfl rfl) nin0))
  have V15 : Arv Z h11 cs k_cs (.array .long) (1 : Int32) [(.ref c0)] .null := (V9.keep Ks11 (ninS (nd hnd 2 3 rfl rfl) nin0))
  have V16 : Arv Z h11 bF k_bF .long (16 : Int32) ((.long f0) :: (.long f1) :: (fr.map Value.long)) (.long (0 : Int64)) := ((V_bF.other W6 (nd hnd 4 0 rfl rfl)).keep Ks11 (ninS (nd hnd 4 3 rfl rfl) nin0))
  have V17 : Arv Z h11 bG k_bG .long (16 : Int32) ((.long g0) :: (.long g1) :: (gr.map Value.long)) (.long (0 : Int64)) := ((V_bG.other W6 (nd hnd 5 0 rfl rfl)).keep Ks11 (ninS (nd hnd 5 3 rfl rfl) nin0))
  have V18 : Arv Z h11 bO k_bO .long (16 : Int32) ((.long q0) :: (.long q1) :: (qr.map Value.long)) (.long (0 : Int64)) := ((V_bO.other W6 (nd hnd 6 0 rfl rfl)).keep Ks11 (ninS (nd hnd 6 3 rfl rfl) nin0))
  have V19 : Arv Z h11 bH k_bH .int (16 : Int32) ((.int d0) :: (.int d1) :: (dr.map Value.int)) (.int (0 : Int32)) := ((V_bH.other W6 (nd hnd 7 0 rfl rfl)).keep Ks11 (ninS (nd hnd 7 3 rfl rfl) nin0))
  have V20 : Arv Z h11 bT k_bT .int (16 : Int32) ((.int t0) :: (.int t1) :: (tr.map Value.int)) (.int (0 : Int32)) := ((V_bT.other W6 (nd hnd 8 0 rfl rfl)).keep Ks11 (ninS (nd hnd 8 3 rfl rfl) nin0))
  have V21 : Arv Z h11 hP k_hP .int (16 : Int32) ((.int p0) :: (.int p1) :: (pr.map Value.int)) (.int (0 : Int32)) := ((V_hP.other W6 (nd hnd 9 0 rfl rfl)).keep Ks11 (ninS (nd hnd 9 3 rfl rfl) nin0))
  have V22 : Arv Z h11 nw k_nw .int (32 : Int32) (ns.map Value.int) (.int (0 : Int32)) := ((V_nw.other W6 (nd hnd 10 0 rfl rfl)).keep Ks11 (ninS (nd hnd 10 3 rfl rfl) nin0))
  refine E_ireturn (t := .int) cx st11 d9_62 rfl (by simp) rfl (by decide) (by decide) ?_
  exact ⟨rfl, KKs11', ⟨X12, B13, HL14, ⟨_, V15⟩, ⟨_, Vs11⟩, ⟨_, V16⟩, ⟨_, V17⟩, ⟨_, V18⟩, ⟨_, V19⟩, ⟨_, V20⟩, ⟨_, V21⟩, ⟨_, V22⟩⟩⟩
theorem ef_startBucket1 (m : MethodId) (x0 : Addr) (x1 : Int64) (x2 : Int64) : entryFrame m #[(.ref x0), (.long x1), (.long x2)] 6 = mkF m 0 #[.val (.ref x0), .val (.long x1), .second, .val (.long x2), .second, .unset] [] := by first | (simp [entryFrame, mkF, argsToLocals, Value.category]; done) | rfl
set_option maxRecDepth 65536 in
set_option maxHeartbeats 40000000 in
theorem rmstartBucket1 (l : Launch) (Z : State) (a0 : Array Value) (hw : ∀ d ∈ tables_1, d.before a0 Z = true) (o : Addr) (cl : Addr) (cs : Addr) (c0 : Addr) (bF : Addr) (bG : Addr) (bO : Addr) (bH : Addr) (bT : Addr) (hP : Addr) (nw : Addr) (h0 : Heap) (n0 : Nat) (Z0 : n0 ≤ h0.size) (gt : Int32) (fe : Int32) (eu : Int32) (sz : Int32) (hs : Int32) (e0 : Int64) (e1 : Int64) (er : List Int64) (f0 : Int64) (f1 : Int64) (fr : List Int64) (g0 : Int64) (g1 : Int64) (gr : List Int64) (q0 : Int64) (q1 : Int64) (qr : List Int64) (d0 : Int32) (d1 : Int32) (dr : List Int32) (t0 : Int32) (t1 : Int32) (tr : List Int32) (p0 : Int32) (p1 : Int32) (pr : List Int32) (ns : List Int32) (pf : Int64) (pg : Int64) (hnd : [o, cl, cs, c0, bF, bG, bO, bH, bT, hP, nw].Nodup) (hge : ∀ a ∈ [o, cl, cs, c0, bF, bG, bO, bH, bT, hP, nw], n0 ≤ a) (H0 : Wd Z h0 o cl cs c0 bF bG bO bH bT hP nw gt fe eu sz (-1 : Int32) (1 : Int32) hs (1 : Int64) e0 e1 er f0 f1 fr g0 g1 gr q0 q1 qr d0 d1 dr t0 t1 tr p0 p1 pr ns)  :
    Con l Z (⟨"com/example/flat_planner/flatplanner/OpenList", "startBucket", "(JJ)I"⟩ : MethodName) prog_16_method_11_code 6 (some .int) ({ frames := 0, cells := 0, slots := 0, locals := 0 } : Room) #[(.ref o), (.long pf), (.long pg)] h0 n0 (fun v h => v = some (.int (1 : Int32)) ∧ Keep h0 h [o, c0, bF, bG, bO, bH, bT, hP, nw] ∧ Wd Z h o cl cs c0 bF bG bO bH bT hP nw gt fe eu sz (-1 : Int32) (2 : Int32) hs (2 : Int64) e0 e1 er f0 pf fr g0 pg gr q0 (1 : Int64) qr d0 d1 dr t0 t1 tr p0 p1 pr ns) := by
  refine Con.of (own := "com/example/flat_planner/flatplanner/OpenList") (name := "startBucket") (plainFor_of_name pn_3) (fun m => ef_startBucket1 m o pf pg) rfl rfl ?_
  intro p e s m below meth c T F S cx st
  have g_o : n0 ≤ o := hge o (by simp)
  have g_c0 : n0 ≤ c0 := hge c0 (by simp)
  have g_bF : n0 ≤ bF := hge bF (by simp)
  have g_bG : n0 ≤ bG := hge bG (by simp)
  have g_bO : n0 ≤ bO := hge bO (by simp)
  have g_bH : n0 ≤ bH := hge bH (by simp)
  have g_bT : n0 ≤ bT := hge bT (by simp)
  have g_hP : n0 ≤ hP := hge hP (by simp)
  have g_nw : n0 ≤ nw := hge nw (by simp)
  obtain ⟨X_o, B_o, HL, ⟨k_cs, V_cs⟩, ⟨k_c0, V_c0⟩, ⟨k_bF, V_bF⟩, ⟨k_bG, V_bG⟩, ⟨k_bO, V_bO⟩, ⟨k_bH, V_bH⟩, ⟨k_bT, V_bT⟩, ⟨k_hP, V_hP⟩, ⟨k_nw, V_nw⟩⟩ := H0
  refine E_aloadN (pc' := 1) cx st d15_0 rfl rfl rfl ?_
  refine E_getfield (pc' := 4) (v := (.int (-1 : Int32))) cx st (wd hw 56 rfl) (B_o.at 10 (by decide) rfl rfl) d15_1 rfl ?_
  intro T1 st1
  refine E_iconst (pc' := 5) cx st1 (-1 : Int32) d15_4 rfl rfl ?_
  refine E_icmp_eqY (pc' := 28) cx st1 d15_5 (by decide) (by decide) (by decide) ?_
  refine E_aloadN (pc' := 29) cx st1 d15_28 rfl rfl rfl ?_
  refine E_getfield (pc' := 32) (v := (.int (1 : Int32))) cx st1 (wd hw 108 rfl) (B_o.at 11 (by decide) rfl rfl) d15_29 rfl ?_
  intro T2 st2
  refine E_aloadN (pc' := 33) cx st2 d15_32 rfl rfl rfl ?_
  refine E_getfield (pc' := 36) (v := (.ref bH)) cx st2 (wd hw 52 rfl) (B_o.at 8 (by decide) rfl rfl) d15_33 rfl ?_
  intro T3 st3
  refine E_arraylength (pc' := 37) cx st3 V_bH d15_36 rfl ?_
  refine E_icmp_neY (pc' := 44) cx st3 d15_37 (by decide) (by decide) (by decide) ?_
  refine E_aloadN (pc' := 45) cx st3 d15_44 rfl rfl rfl ?_
  refine E_dup (pc' := 46) cx st3 d15_45 rfl rfl ?_
  refine E_getfield (pc' := 49) (v := (.int (1 : Int32))) cx st3 (wd hw 108 rfl) (B_o.at 11 (by decide) rfl rfl) d15_46 rfl ?_
  intro T4 st4
  refine E_dup_x1 (pc' := 50) cx st4 d15_49 rfl rfl rfl ?_
  refine E_iconst (pc' := 51) cx st4 (1 : Int32) d15_50 rfl rfl ?_
  refine E_iadd (pc' := 52) cx st4 d15_51 rfl ?_
  rw [show ((1 : Int32) + (1 : Int32)) = (2 : Int32) from by decide]
  refine E_putfield (pc' := 55) (ty := .int) cx st4 (wd hw 108 rfl) (B_o.at 11 (by decide) rfl rfl) X_o (Or.inl (wd hw 109 rfl)) (wd hw 1 rfl) (by decide) rfl rfl g_o d15_52 rfl ?_
  intro T5 h5 st5 W5
  have Z5 : n0 ≤ h5.size := Nat.le_trans Z0 (Keep.of_wr W5).1
  have K5 : Keep h0 h5 [o, c0, bF, bG, bO, bH, bT, hP, nw] := (Keep.refl h0 [o, c0, bF, bG, bO, bH, bT, hP, nw]).wr W5 (mi 0 rfl)
  have B5w : OL Z h5 o [(.int gt), (.ref cl), (.int fe), (.int eu), (.int sz), (.ref bF), (.ref bG), (.ref bO), (.ref bH), (.ref bT), (.int (-1 : Int32)), (.int (2 : Int32)), (.long (1 : Int64)), (.ref hP), (.int hs), (.ref nw)] := B_o.wr hw 11 (by decide) rfl W5 (Nat.le_of_ble_eq_true rfl)
  refine E_istore (pc' := 57) (L' := #[.val (.ref o), .val (.long pf), .second, .val (.long pg), .second, .val (.int (1 : Int32))]) cx st5 d15_55 rfl rfl ?_
  refine E_aloadN (pc' := 58) cx st5 d15_57 rfl rfl rfl ?_
  refine E_getfield (pc' := 61) (v := (.ref bF)) cx st5 (wd hw 45 rfl) (B5w.at 5 (by decide) rfl rfl) d15_58 rfl ?_
  intro T6 st6
  refine E_iload (pc' := 63) cx st6 d15_61 rfl rfl ?_
  refine E_lloadN (pc' := 64) cx st6 d15_63 rfl rfl ?_
  have V7 : Arv Z h5 bF k_bF .long (16 : Int32) ((.long f0) :: (.long f1) :: (fr.map Value.long)) (.long (0 : Int64)) := (V_bF.other W5 (nd hnd 4 0 rfl rfl))
  refine E_lastore (pc' := 65) (i := 1) cx st6 V7 ⟨by decide, by decide⟩ rfl (Nat.succ_lt_succ (Nat.zero_lt_succ _)) g_bF d15_64 rfl ?_
  intro T8 h8 st8 W8 V8
  have Z8 : n0 ≤ h8.size := Nat.le_trans Z5 (Keep.of_wr W8).1
  have K8 : Keep h0 h8 [o, c0, bF, bG, bO, bH, bT, hP, nw] := K5.wr W8 (mi 2 rfl)
  have V8p : Arv Z h8 bF k_bF .long (16 : Int32) ((.long f0) :: (.long pf) :: (fr.map Value.long)) (.long (0 : Int64)) := V8
  refine E_aloadN (pc' := 66) cx st8 d15_65 rfl rfl rfl ?_
  have B10 : OL Z h8 o [(.int gt), (.ref cl), (.int fe), (.int eu), (.int sz), (.ref bF), (.ref bG), (.ref bO), (.ref bH), (.ref bT), (.int (-1 : Int32)), (.int (2 : Int32)), (.long (1 : Int64)), (.ref hP), (.int hs), (.ref nw)] := (B5w.other W8 (nd hnd 0 4 rfl rfl))
  refine E_getfield (pc' := 69) (v := (.ref bG)) cx st8 (wd hw 47 rfl) (B10.at 6 (by decide) rfl rfl) d15_66 rfl ?_
  intro T9 st9
  refine E_iload (pc' := 71) cx st9 d15_69 rfl rfl ?_
  refine E_lloadN (pc' := 72) cx st9 d15_71 rfl rfl ?_
  have V11 : Arv Z h8 bG k_bG .long (16 : Int32) ((.long g0) :: (.long g1) :: (gr.map Value.long)) (.long (0 : Int64)) := ((V_bG.other W5 (nd hnd 5 0 rfl rfl)).other W8 (nd hnd 5 4 rfl rfl))
  refine E_lastore (pc' := 73) (i := 1) cx st9 V11 ⟨by decide, by decide⟩ rfl (Nat.succ_lt_succ (Nat.zero_lt_succ _)) g_bG d15_72 rfl ?_
  intro T12 h12 st12 W12 V12
  have Z12 : n0 ≤ h12.size := Nat.le_trans Z8 (Keep.of_wr W12).1
  have K12 : Keep h0 h12 [o, c0, bF, bG, bO, bH, bT, hP, nw] := K8.wr W12 (mi 3 rfl)
  have V12p : Arv Z h12 bG k_bG .long (16 : Int32) ((.long g0) :: (.long pg) :: (gr.map Value.long)) (.long (0 : Int64)) := V12
  refine E_aloadN (pc' := 74) cx st12 d15_73 rfl rfl rfl ?_
  have B14 : OL Z h12 o [(.int gt), (.ref cl), (.int fe), (.int eu), (.int sz), (.ref bF), (.ref bG), (.ref bO), (.ref bH), (.ref bT), (.int (-1 : Int32)), (.int (2 : Int32)), (.long (1 : Int64)), (.ref hP), (.int hs), (.ref nw)] := (B10.other W12 (nd hnd 0 5 rfl rfl))
  refine E_getfield (pc' := 77) (v := (.ref bO)) cx st12 (wd hw 49 rfl) (B14.at 7 (by decide) rfl rfl) d15_74 rfl ?_
  intro T13 st13
  refine E_iload (pc' := 79) cx st13 d15_77 rfl rfl ?_
  refine E_aloadN (pc' := 80) cx st13 d15_79 rfl rfl rfl ?_
  refine E_dup (pc' := 81) cx st13 d15_80 rfl rfl ?_
  refine E_getfield (pc' := 84) (v := (.long (1 : Int64))) cx st13 (wd hw 110 rfl) (B14.at 12 (by decide) rfl rfl) d15_81 rfl ?_
  intro T15 st15
  refine E_dup2_x1L (pc' := 85) cx st15 d15_84 rfl rfl ?_
  refine E_lconst (pc' := 86) cx st15 (1 : Int64) d15_85 rfl rfl ?_
  refine E_ladd (pc' := 87) cx st15 d15_86 rfl ?_
  rw [show ((1 : Int64) + (1 : Int64)) = (2 : Int64) from by decide]
  have X16 : Exa Z h12 o "com/example/flat_planner/flatplanner/OpenList" := (((X_o.wr W5).wr W8).wr W12)
  refine E_putfield (pc' := 90) (ty := .long) cx st15 (wd hw 110 rfl) (B14.at 12 (by decide) rfl rfl) X16 (Or.inl (wd hw 111 rfl)) (wd hw 1 rfl) (by decide) rfl rfl g_o d15_87 rfl ?_
  intro T17 h17 st17 W17
  have Z17 : n0 ≤ h17.size := Nat.le_trans Z12 (Keep.of_wr W17).1
  have K17 : Keep h0 h17 [o, c0, bF, bG, bO, bH, bT, hP, nw] := K12.wr W17 (mi 0 rfl)
  have B17w : OL Z h17 o [(.int gt), (.ref cl), (.int fe), (.int eu), (.int sz), (.ref bF), (.ref bG), (.ref bO), (.ref bH), (.ref bT), (.int (-1 : Int32)), (.int (2 : Int32)), (.long (2 : Int64)), (.ref hP), (.int hs), (.ref nw)] := B14.wr hw 12 (by decide) rfl W17 (Nat.le_of_ble_eq_true rfl)
  have V18 : Arv Z h17 bO k_bO .long (16 : Int32) ((.long q0) :: (.long q1) :: (qr.map Value.long)) (.long (0 : Int64)) := ((((V_bO.other W5 (nd hnd 6 0 rfl rfl)).other W8 (nd hnd 6 4 rfl rfl)).other W12 (nd hnd 6 5 rfl rfl)).other W17 (nd hnd 6 0 rfl rfl))
  refine E_lastore (pc' := 91) (i := 1) cx st17 V18 ⟨by decide, by decide⟩ rfl (Nat.succ_lt_succ (Nat.zero_lt_succ _)) g_bO d15_90 rfl ?_
  intro T19 h19 st19 W19 V19
  have Z19 : n0 ≤ h19.size := Nat.le_trans Z17 (Keep.of_wr W19).1
  have K19 : Keep h0 h19 [o, c0, bF, bG, bO, bH, bT, hP, nw] := K17.wr W19 (mi 4 rfl)
  have V19p : Arv Z h19 bO k_bO .long (16 : Int32) ((.long q0) :: (.long (1 : Int64)) :: (qr.map Value.long)) (.long (0 : Int64)) := V19
  refine E_iload (pc' := 93) cx st19 d15_91 rfl rfl ?_
  have X20 : Exa Z h19 o "com/example/flat_planner/flatplanner/OpenList" := ((X16.wr W17).wr W19)
  have B21 : OL Z h19 o [(.int gt), (.ref cl), (.int fe), (.int eu), (.int sz), (.ref bF), (.ref bG), (.ref bO), (.ref bH), (.ref bT), (.int (-1 : Int32)), (.int (2 : Int32)), (.long (2 : Int64)), (.ref hP), (.int hs), (.ref nw)] := (B17w.other W19 (nd hnd 0 6 rfl rfl))
  have HL22 : LCF Z h19 cl cs := (((((HL.other W5 (nd hnd 1 0 rfl rfl)).other W8 (nd hnd 1 4 rfl rfl)).other W12 (nd hnd 1 5 rfl rfl)).other W17 (nd hnd 1 0 rfl rfl)).other W19 (nd hnd 1 6 rfl rfl))
  have V23 : Arv Z h19 cs k_cs (.array .long) (1 : Int32) [(.ref c0)] .null := (((((V_cs.other W5 (nd hnd 2 0 rfl rfl)).other W8 (nd hnd 2 4 rfl rfl)).other W12 (nd hnd 2 5 rfl rfl)).other W17 (nd hnd 2 0 rfl rfl)).other W19 (nd hnd 2 6 rfl rfl))
  have V24 : Arv Z h19 c0 k_c0 .long (16 : Int32) ((.long e0) :: (.long e1) :: (er.map Value.long)) (.long (0 : Int64)) := (((((V_c0.other W5 (nd hnd 3 0 rfl rfl)).other W8 (nd hnd 3 4 rfl rfl)).other W12 (nd hnd 3 5 rfl rfl)).other W17 (nd hnd 3 0 rfl rfl)).other W19 (nd hnd 3 6 rfl rfl))
  have V25 : Arv Z h19 bF k_bF .long (16 : Int32) ((.long f0) :: (.long pf) :: (fr.map Value.long)) (.long (0 : Int64)) := (((V8p.other W12 (nd hnd 4 5 rfl rfl)).other W17 (nd hnd 4 0 rfl rfl)).other W19 (nd hnd 4 6 rfl rfl))
  have V26 : Arv Z h19 bG k_bG .long (16 : Int32) ((.long g0) :: (.long pg) :: (gr.map Value.long)) (.long (0 : Int64)) := ((V12p.other W17 (nd hnd 5 0 rfl rfl)).other W19 (nd hnd 5 6 rfl rfl))
  have V27 : Arv Z h19 bH k_bH .int (16 : Int32) ((.int d0) :: (.int d1) :: (dr.map Value.int)) (.int (0 : Int32)) := (((((V_bH.other W5 (nd hnd 7 0 rfl rfl)).other W8 (nd hnd 7 4 rfl rfl)).other W12 (nd hnd 7 5 rfl rfl)).other W17 (nd hnd 7 0 rfl rfl)).other W19 (nd hnd 7 6 rfl rfl))
  have V28 : Arv Z h19 bT k_bT .int (16 : Int32) ((.int t0) :: (.int t1) :: (tr.map Value.int)) (.int (0 : Int32)) := (((((V_bT.other W5 (nd hnd 8 0 rfl rfl)).other W8 (nd hnd 8 4 rfl rfl)).other W12 (nd hnd 8 5 rfl rfl)).other W17 (nd hnd 8 0 rfl rfl)).other W19 (nd hnd 8 6 rfl rfl))
  have V29 : Arv Z h19 hP k_hP .int (16 : Int32) ((.int p0) :: (.int p1) :: (pr.map Value.int)) (.int (0 : Int32)) := (((((V_hP.other W5 (nd hnd 9 0 rfl rfl)).other W8 (nd hnd 9 4 rfl rfl)).other W12 (nd hnd 9 5 rfl rfl)).other W17 (nd hnd 9 0 rfl rfl)).other W19 (nd hnd 9 6 rfl rfl))
  have V30 : Arv Z h19 nw k_nw .int (32 : Int32) (ns.map Value.int) (.int (0 : Int32)) := (((((V_nw.other W5 (nd hnd 10 0 rfl rfl)).other W8 (nd hnd 10 4 rfl rfl)).other W12 (nd hnd 10 5 rfl rfl)).other W17 (nd hnd 10 0 rfl rfl)).other W19 (nd hnd 10 6 rfl rfl))
  refine E_ireturn (t := .int) cx st19 d15_93 rfl (by simp) rfl (by decide) (by decide) ?_
  exact ⟨rfl, K19, ⟨X20, B21, HL22, ⟨_, V23⟩, ⟨_, V24⟩, ⟨_, V25⟩, ⟨_, V26⟩, ⟨_, V19p⟩, ⟨_, V27⟩, ⟨_, V28⟩, ⟨_, V29⟩, ⟨_, V30⟩⟩⟩
def slt (f g : Int64) : Int32 := ((((((f * (-7046029254386353131 : Int64)) + g) * (-7046029254386353131 : Int64)).toUInt64 >>> ((32 : Int32) &&& 0x3f).toInt64.toUInt64).toInt64.toInt32) &&& (31 : Int32))
theorem slt_b (f g : Int64) : ¬ slt f g < 0 ∧ slt f g < 32 := by
  have h := c_mask ((((((f * (-7046029254386353131 : Int64)) + g) * (-7046029254386353131 : Int64)).toUInt64 >>> ((32 : Int32) &&& 0x3f).toInt64.toUInt64).toInt64.toInt32)) 31 5 (by decide) (by decide)
  have k0 : (0 : Int32).toInt = 0 := rfl
  have k1 : (32 : Int32).toInt = 32 := rfl
  unfold slt
  rw [Int32.lt_iff_toInt_lt, Int32.lt_iff_toInt_lt, k0, k1, h]; omega
theorem d14_0 : decode prog_16_method_13_code 0 = .ok (.lload_n 1, 1) := by decide +kernel
theorem d14_1 : decode prog_16_method_13_code 1 = .ok (.ldc2_w 125, 3) := by decide +kernel
theorem d14_4 : decode prog_16_method_13_code 4 = .ok (.lmul, 1) := by decide +kernel
theorem d14_5 : decode prog_16_method_13_code 5 = .ok (.lload_n 3, 1) := by decide +kernel
theorem d14_6 : decode prog_16_method_13_code 6 = .ok (.ladd, 1) := by decide +kernel
theorem d14_7 : decode prog_16_method_13_code 7 = .ok (.ldc2_w 125, 3) := by decide +kernel
theorem d14_10 : decode prog_16_method_13_code 10 = .ok (.lmul, 1) := by decide +kernel
theorem d14_11 : decode prog_16_method_13_code 11 = .ok (.lstore 5, 2) := by decide +kernel
theorem d14_13 : decode prog_16_method_13_code 13 = .ok (.lload 5, 2) := by decide +kernel
theorem d14_15 : decode prog_16_method_13_code 15 = .ok (.bipush 32, 2) := by decide +kernel
theorem d14_17 : decode prog_16_method_13_code 17 = .ok (.lushr, 1) := by decide +kernel
theorem d14_18 : decode prog_16_method_13_code 18 = .ok (.l2i, 1) := by decide +kernel
theorem d14_19 : decode prog_16_method_13_code 19 = .ok (.aload_n 0, 1) := by decide +kernel
theorem d14_20 : decode prog_16_method_13_code 20 = .ok (.getfield 45, 3) := by decide +kernel
theorem d14_23 : decode prog_16_method_13_code 23 = .ok (.arraylength, 1) := by decide +kernel
theorem d14_24 : decode prog_16_method_13_code 24 = .ok (.iconst 1, 1) := by decide +kernel
theorem d14_25 : decode prog_16_method_13_code 25 = .ok (.isub, 1) := by decide +kernel
theorem d14_26 : decode prog_16_method_13_code 26 = .ok (.iand, 1) := by decide +kernel
theorem d14_27 : decode prog_16_method_13_code 27 = .ok (.ireturn, 1) := by decide +kernel
theorem ef_slot (m : MethodId) (x0 : Addr) (x1 : Int64) (x2 : Int64) : entryFrame m #[(.ref x0), (.long x1), (.long x2)] 7 = mkF m 0 #[.val (.ref x0), .val (.long x1), .second, .val (.long x2), .second, .unset, .unset] [] := by first | (simp [entryFrame, mkF, argsToLocals, Value.category]; done) | rfl
set_option maxRecDepth 65536 in
set_option maxHeartbeats 40000000 in
theorem rmslot (l : Launch) (Z : State) (a0 : Array Value) (hw : ∀ d ∈ tables_1, d.before a0 Z = true) (o : Addr) (cl : Addr) (cs : Addr) (c0 : Addr) (bF : Addr) (bG : Addr) (bO : Addr) (bH : Addr) (bT : Addr) (hP : Addr) (nw : Addr) (h0 : Heap) (n0 : Nat) (Z0 : n0 ≤ h0.size) (gt : Int32) (fe : Int32) (eu : Int32) (sz : Int32) (fb : Int32) (bu : Int32) (sta : Int64) (hs : Int32) (e0 : Int64) (e1 : Int64) (er : List Int64) (f0 : Int64) (f1 : Int64) (fr : List Int64) (g0 : Int64) (g1 : Int64) (gr : List Int64) (q0 : Int64) (q1 : Int64) (qr : List Int64) (d0 : Int32) (d1 : Int32) (dr : List Int32) (t0 : Int32) (t1 : Int32) (tr : List Int32) (p0 : Int32) (p1 : Int32) (pr : List Int32) (ns : List Int32) (pf : Int64) (pg : Int64) (hnd : [o, cl, cs, c0, bF, bG, bO, bH, bT, hP, nw].Nodup) (hge : ∀ a ∈ [o, cl, cs, c0, bF, bG, bO, bH, bT, hP, nw], n0 ≤ a) (H0 : Wd Z h0 o cl cs c0 bF bG bO bH bT hP nw gt fe eu sz fb bu hs sta e0 e1 er f0 f1 fr g0 g1 gr q0 q1 qr d0 d1 dr t0 t1 tr p0 p1 pr ns)  :
    Con l Z (⟨"com/example/flat_planner/flatplanner/OpenList", "slot", "(JJ)I"⟩ : MethodName) prog_16_method_13_code 7 (some .int) ({ frames := 0, cells := 0, slots := 0, locals := 0 } : Room) #[(.ref o), (.long pf), (.long pg)] h0 n0 (fun v h => v = some (.int (slt pf pg)) ∧ h = h0) := by
  refine Con.of (own := "com/example/flat_planner/flatplanner/OpenList") (name := "slot") (plainFor_of_name pn_3) (fun m => ef_slot m o pf pg) rfl rfl ?_
  intro p e s m below meth c T F S cx st
  have g_o : n0 ≤ o := hge o (by simp)
  have g_c0 : n0 ≤ c0 := hge c0 (by simp)
  have g_bF : n0 ≤ bF := hge bF (by simp)
  have g_bG : n0 ≤ bG := hge bG (by simp)
  have g_bO : n0 ≤ bO := hge bO (by simp)
  have g_bH : n0 ≤ bH := hge bH (by simp)
  have g_bT : n0 ≤ bT := hge bT (by simp)
  have g_hP : n0 ≤ hP := hge hP (by simp)
  have g_nw : n0 ≤ nw := hge nw (by simp)
  obtain ⟨X_o, B_o, HL, ⟨k_cs, V_cs⟩, ⟨k_c0, V_c0⟩, ⟨k_bF, V_bF⟩, ⟨k_bG, V_bG⟩, ⟨k_bO, V_bO⟩, ⟨k_bH, V_bH⟩, ⟨k_bT, V_bT⟩, ⟨k_hP, V_hP⟩, ⟨k_nw, V_nw⟩⟩ := H0
  refine E_lloadN (pc' := 1) cx st d14_0 rfl rfl ?_
  refine E_ldc2_w (pc' := 4) (v := (-7046029254386353131 : Int64)) cx st (wd hw 103 rfl) d14_1 rfl ?_
  refine E_lmul (pc' := 5) cx st d14_4 rfl ?_
  refine E_lloadN (pc' := 6) cx st d14_5 rfl rfl ?_
  refine E_ladd (pc' := 7) cx st d14_6 rfl ?_
  refine E_ldc2_w (pc' := 10) (v := (-7046029254386353131 : Int64)) cx st (wd hw 103 rfl) d14_7 rfl ?_
  refine E_lmul (pc' := 11) cx st d14_10 rfl ?_
  refine E_lstore (pc' := 13) (L' := #[.val (.ref o), .val (.long pf), .second, .val (.long pg), .second, .val (.long (((pf * (-7046029254386353131 : Int64)) + pg) * (-7046029254386353131 : Int64))), .second]) cx st d14_11 rfl rfl ?_
  refine E_lload (pc' := 15) cx st d14_13 rfl rfl ?_
  refine E_bipush (pc' := 17) cx st (32 : Int32) d14_15 rfl rfl ?_
  refine E_lushr (pc' := 18) cx st d14_17 rfl ?_
  refine E_l2i (pc' := 19) cx st d14_18 rfl ?_
  refine E_aloadN (pc' := 20) cx st d14_19 rfl rfl rfl ?_
  refine E_getfield (pc' := 23) (v := (.ref nw)) cx st (wd hw 60 rfl) (B_o.at 15 (by decide) rfl rfl) d14_20 rfl ?_
  intro T1 st1
  refine E_arraylength (pc' := 24) cx st1 V_nw d14_23 rfl ?_
  refine E_iconst (pc' := 25) cx st1 (1 : Int32) d14_24 rfl rfl ?_
  refine E_isub (pc' := 26) cx st1 d14_25 rfl ?_
  rw [show ((32 : Int32) - (1 : Int32)) = (31 : Int32) from by decide]
  refine E_iand (pc' := 27) cx st1 d14_26 rfl ?_
  refine E_ireturn (t := .int) cx st1 d14_27 rfl (by simp) rfl (by decide) (by decide) ?_
  exact ⟨rfl, rfl⟩
theorem d17_0 : decode prog_16_method_16_code 0 = .ok (.aload_n 0, 1) := by decide +kernel
theorem d17_1 : decode prog_16_method_16_code 1 = .ok (.getfield 22, 3) := by decide +kernel
theorem d17_4 : decode prog_16_method_16_code 4 = .ok (.iload_n 1, 1) := by decide +kernel
theorem d17_5 : decode prog_16_method_16_code 5 = .ok (.laload, 1) := by decide +kernel
theorem d17_6 : decode prog_16_method_16_code 6 = .ok (.aload_n 0, 1) := by decide +kernel
theorem d17_7 : decode prog_16_method_16_code 7 = .ok (.getfield 22, 3) := by decide +kernel
theorem d17_10 : decode prog_16_method_16_code 10 = .ok (.iload_n 2, 1) := by decide +kernel
theorem d17_11 : decode prog_16_method_16_code 11 = .ok (.laload, 1) := by decide +kernel
theorem d17_12 : decode prog_16_method_16_code 12 = .ok (.lcmp, 1) := by decide +kernel
theorem d17_13 : decode prog_16_method_16_code 13 = .ok (.ifCond .eq 25, 3) := by decide +kernel
theorem d17_16 : decode prog_16_method_16_code 16 = .ok (.aload_n 0, 1) := by decide +kernel
theorem d17_17 : decode prog_16_method_16_code 17 = .ok (.getfield 22, 3) := by decide +kernel
theorem d17_20 : decode prog_16_method_16_code 20 = .ok (.iload_n 1, 1) := by decide +kernel
theorem d17_21 : decode prog_16_method_16_code 21 = .ok (.laload, 1) := by decide +kernel
theorem d17_22 : decode prog_16_method_16_code 22 = .ok (.aload_n 0, 1) := by decide +kernel
theorem d17_23 : decode prog_16_method_16_code 23 = .ok (.getfield 22, 3) := by decide +kernel
theorem d17_26 : decode prog_16_method_16_code 26 = .ok (.iload_n 2, 1) := by decide +kernel
theorem d17_27 : decode prog_16_method_16_code 27 = .ok (.laload, 1) := by decide +kernel
theorem d17_28 : decode prog_16_method_16_code 28 = .ok (.lcmp, 1) := by decide +kernel
theorem d17_29 : decode prog_16_method_16_code 29 = .ok (.ifCond .ge 7, 3) := by decide +kernel
theorem d17_32 : decode prog_16_method_16_code 32 = .ok (.iconst 1, 1) := by decide +kernel
theorem d17_33 : decode prog_16_method_16_code 33 = .ok (.goto 4, 3) := by decide +kernel
theorem d17_36 : decode prog_16_method_16_code 36 = .ok (.iconst 0, 1) := by decide +kernel
theorem d17_37 : decode prog_16_method_16_code 37 = .ok (.ireturn, 1) := by decide +kernel
theorem d17_38 : decode prog_16_method_16_code 38 = .ok (.aload_n 0, 1) := by decide +kernel
theorem d17_39 : decode prog_16_method_16_code 39 = .ok (.getfield 26, 3) := by decide +kernel
theorem d17_42 : decode prog_16_method_16_code 42 = .ok (.iload_n 1, 1) := by decide +kernel
theorem d17_43 : decode prog_16_method_16_code 43 = .ok (.laload, 1) := by decide +kernel
theorem d17_44 : decode prog_16_method_16_code 44 = .ok (.aload_n 0, 1) := by decide +kernel
theorem d17_45 : decode prog_16_method_16_code 45 = .ok (.getfield 26, 3) := by decide +kernel
theorem d17_48 : decode prog_16_method_16_code 48 = .ok (.iload_n 2, 1) := by decide +kernel
theorem d17_49 : decode prog_16_method_16_code 49 = .ok (.laload, 1) := by decide +kernel
theorem d17_50 : decode prog_16_method_16_code 50 = .ok (.lcmp, 1) := by decide +kernel
theorem d17_51 : decode prog_16_method_16_code 51 = .ok (.ifCond .eq 37, 3) := by decide +kernel
theorem d17_54 : decode prog_16_method_16_code 54 = .ok (.aload_n 0, 1) := by decide +kernel
theorem d17_55 : decode prog_16_method_16_code 55 = .ok (.getfield 26, 3) := by decide +kernel
theorem d17_58 : decode prog_16_method_16_code 58 = .ok (.iload_n 1, 1) := by decide +kernel
theorem d17_59 : decode prog_16_method_16_code 59 = .ok (.laload, 1) := by decide +kernel
theorem d17_60 : decode prog_16_method_16_code 60 = .ok (.aload_n 0, 1) := by decide +kernel
theorem d17_61 : decode prog_16_method_16_code 61 = .ok (.getfield 26, 3) := by decide +kernel
theorem d17_64 : decode prog_16_method_16_code 64 = .ok (.iload_n 2, 1) := by decide +kernel
theorem d17_65 : decode prog_16_method_16_code 65 = .ok (.laload, 1) := by decide +kernel
theorem d17_66 : decode prog_16_method_16_code 66 = .ok (.lcmp, 1) := by decide +kernel
theorem d17_67 : decode prog_16_method_16_code 67 = .ok (.ifCond .le 7, 3) := by decide +kernel
theorem d17_70 : decode prog_16_method_16_code 70 = .ok (.iconst 1, 1) := by decide +kernel
theorem d17_71 : decode prog_16_method_16_code 71 = .ok (.goto 4, 3) := by decide +kernel
theorem d17_74 : decode prog_16_method_16_code 74 = .ok (.iconst 0, 1) := by decide +kernel
theorem d17_75 : decode prog_16_method_16_code 75 = .ok (.aload_n 0, 1) := by decide +kernel
theorem d17_76 : decode prog_16_method_16_code 76 = .ok (.getfield 48, 3) := by decide +kernel
theorem d17_79 : decode prog_16_method_16_code 79 = .ok (.if_icmp .ne 7, 3) := by decide +kernel
theorem d17_82 : decode prog_16_method_16_code 82 = .ok (.iconst 1, 1) := by decide +kernel
theorem d17_83 : decode prog_16_method_16_code 83 = .ok (.goto 4, 3) := by decide +kernel
theorem d17_86 : decode prog_16_method_16_code 86 = .ok (.iconst 0, 1) := by decide +kernel
theorem d17_87 : decode prog_16_method_16_code 87 = .ok (.ireturn, 1) := by decide +kernel
theorem d17_88 : decode prog_16_method_16_code 88 = .ok (.aload_n 0, 1) := by decide +kernel
theorem d17_89 : decode prog_16_method_16_code 89 = .ok (.getfield 29, 3) := by decide +kernel
theorem d17_92 : decode prog_16_method_16_code 92 = .ok (.iload_n 1, 1) := by decide +kernel
theorem d17_93 : decode prog_16_method_16_code 93 = .ok (.laload, 1) := by decide +kernel
theorem d17_94 : decode prog_16_method_16_code 94 = .ok (.aload_n 0, 1) := by decide +kernel
theorem d17_95 : decode prog_16_method_16_code 95 = .ok (.getfield 29, 3) := by decide +kernel
theorem d17_98 : decode prog_16_method_16_code 98 = .ok (.iload_n 2, 1) := by decide +kernel
theorem d17_99 : decode prog_16_method_16_code 99 = .ok (.laload, 1) := by decide +kernel
theorem d17_100 : decode prog_16_method_16_code 100 = .ok (.lcmp, 1) := by decide +kernel
theorem d17_101 : decode prog_16_method_16_code 101 = .ok (.ifCond .ge 7, 3) := by decide +kernel
theorem d17_104 : decode prog_16_method_16_code 104 = .ok (.iconst 1, 1) := by decide +kernel
theorem d17_105 : decode prog_16_method_16_code 105 = .ok (.goto 4, 3) := by decide +kernel
theorem d17_108 : decode prog_16_method_16_code 108 = .ok (.iconst 0, 1) := by decide +kernel
theorem d17_109 : decode prog_16_method_16_code 109 = .ok (.ireturn, 1) := by decide +kernel
theorem ef_before (m : MethodId) (x0 : Addr) (x1 : Int32) (x2 : Int32) : entryFrame m #[(.ref x0), (.int x1), (.int x2)] 3 = mkF m 0 #[.val (.ref x0), .val (.int x1), .val (.int x2)] [] := by first | (simp [entryFrame, mkF, argsToLocals, Value.category]; done) | rfl
def bfr (f1 f0 g1 g0 q1 q0 : Int64) (gt : Int32) : Int32 := (if f1 = f0 then (if g1 = g0 then (if q1 < q0 then (1 : Int32) else (0 : Int32)) else (if g0 < g1 then (if (1 : Int32) = gt then (1 : Int32) else (0 : Int32)) else (if (0 : Int32) = gt then (1 : Int32) else (0 : Int32)))) else (if f1 < f0 then (1 : Int32) else (0 : Int32)))
set_option maxRecDepth 65536 in
set_option maxHeartbeats 40000000 in
theorem rmbefore (l : Launch) (Z : State) (a0 : Array Value) (hw : ∀ d ∈ tables_1, d.before a0 Z = true) (o : Addr) (cl : Addr) (cs : Addr) (c0 : Addr) (bF : Addr) (bG : Addr) (bO : Addr) (bH : Addr) (bT : Addr) (hP : Addr) (nw : Addr) (h0 : Heap) (n0 : Nat) (Z0 : n0 ≤ h0.size) (gt : Int32) (fe : Int32) (eu : Int32) (sz : Int32) (fb : Int32) (bu : Int32) (sta : Int64) (hs : Int32) (e0 : Int64) (e1 : Int64) (er : List Int64) (f0 : Int64) (f1 : Int64) (fr : List Int64) (g0 : Int64) (g1 : Int64) (gr : List Int64) (q0 : Int64) (q1 : Int64) (qr : List Int64) (d0 : Int32) (d1 : Int32) (dr : List Int32) (t0 : Int32) (t1 : Int32) (tr : List Int32) (p0 : Int32) (p1 : Int32) (pr : List Int32) (ns : List Int32) (hnd : [o, cl, cs, c0, bF, bG, bO, bH, bT, hP, nw].Nodup) (hge : ∀ a ∈ [o, cl, cs, c0, bF, bG, bO, bH, bT, hP, nw], n0 ≤ a) (H0 : Wd Z h0 o cl cs c0 bF bG bO bH bT hP nw gt fe eu sz fb bu hs sta e0 e1 er f0 f1 fr g0 g1 gr q0 q1 qr d0 d1 dr t0 t1 tr p0 p1 pr ns)  :
    Con l Z (⟨"com/example/flat_planner/flatplanner/OpenList", "before", "(II)Z"⟩ : MethodName) prog_16_method_16_code 3 (some .boolean) ({ frames := 0, cells := 0, slots := 0, locals := 0 } : Room) #[(.ref o), (.int (1 : Int32)), (.int (0 : Int32))] h0 n0 (fun v h => v = some (.int (bfr f1 f0 g1 g0 q1 q0 gt)) ∧ h = h0) := by
  refine Con.of (own := "com/example/flat_planner/flatplanner/OpenList") (name := "before") (plainFor_of_name pn_3) (fun m => ef_before m o (1 : Int32) (0 : Int32)) rfl rfl ?_
  intro p e s m below meth c T F S cx st
  have g_o : n0 ≤ o := hge o (by simp)
  have g_c0 : n0 ≤ c0 := hge c0 (by simp)
  have g_bF : n0 ≤ bF := hge bF (by simp)
  have g_bG : n0 ≤ bG := hge bG (by simp)
  have g_bO : n0 ≤ bO := hge bO (by simp)
  have g_bH : n0 ≤ bH := hge bH (by simp)
  have g_bT : n0 ≤ bT := hge bT (by simp)
  have g_hP : n0 ≤ hP := hge hP (by simp)
  have g_nw : n0 ≤ nw := hge nw (by simp)
  obtain ⟨X_o, B_o, HL, ⟨k_cs, V_cs⟩, ⟨k_c0, V_c0⟩, ⟨k_bF, V_bF⟩, ⟨k_bG, V_bG⟩, ⟨k_bO, V_bO⟩, ⟨k_bH, V_bH⟩, ⟨k_bT, V_bT⟩, ⟨k_hP, V_hP⟩, ⟨k_nw, V_nw⟩⟩ := H0
  refine E_aloadN (pc' := 1) cx st d17_0 rfl rfl rfl ?_
  refine E_getfield (pc' := 4) (v := (.ref bF)) cx st (wd hw 45 rfl) (B_o.at 5 (by decide) rfl rfl) d17_1 rfl ?_
  intro T1 st1
  refine E_iloadN (pc' := 5) cx st1 d17_4 rfl rfl ?_
  refine E_laload (pc' := 6) (x := f1) cx st1 V_bF ⟨by decide, by decide⟩ rfl d17_5 rfl ?_
  refine E_aloadN (pc' := 7) cx st1 d17_6 rfl rfl rfl ?_
  refine E_getfield (pc' := 10) (v := (.ref bF)) cx st1 (wd hw 45 rfl) (B_o.at 5 (by decide) rfl rfl) d17_7 rfl ?_
  intro T2 st2
  refine E_iloadN (pc' := 11) cx st2 d17_10 rfl rfl ?_
  refine E_laload (pc' := 12) (x := f0) cx st2 V_bF ⟨by decide, by decide⟩ rfl d17_11 rfl ?_
  by_cases c3 : f1 = f0
  · refine E_lif_eqY (pc' := 38) cx st2 d17_12 d17_13 (by decide) (by decide) c3 ?_
    refine E_aloadN (pc' := 39) cx st2 d17_38 rfl rfl rfl ?_
    refine E_getfield (pc' := 42) (v := (.ref bG)) cx st2 (wd hw 47 rfl) (B_o.at 6 (by decide) rfl rfl) d17_39 rfl ?_
    intro T4 st4
    refine E_iloadN (pc' := 43) cx st4 d17_42 rfl rfl ?_
    refine E_laload (pc' := 44) (x := g1) cx st4 V_bG ⟨by decide, by decide⟩ rfl d17_43 rfl ?_
    refine E_aloadN (pc' := 45) cx st4 d17_44 rfl rfl rfl ?_
    refine E_getfield (pc' := 48) (v := (.ref bG)) cx st4 (wd hw 47 rfl) (B_o.at 6 (by decide) rfl rfl) d17_45 rfl ?_
    intro T5 st5
    refine E_iloadN (pc' := 49) cx st5 d17_48 rfl rfl ?_
    refine E_laload (pc' := 50) (x := g0) cx st5 V_bG ⟨by decide, by decide⟩ rfl d17_49 rfl ?_
    by_cases c6 : g1 = g0
    · refine E_lif_eqY (pc' := 88) cx st5 d17_50 d17_51 (by decide) (by decide) c6 ?_
      refine E_aloadN (pc' := 89) cx st5 d17_88 rfl rfl rfl ?_
      refine E_getfield (pc' := 92) (v := (.ref bO)) cx st5 (wd hw 49 rfl) (B_o.at 7 (by decide) rfl rfl) d17_89 rfl ?_
      intro T7 st7
      refine E_iloadN (pc' := 93) cx st7 d17_92 rfl rfl ?_
      refine E_laload (pc' := 94) (x := q1) cx st7 V_bO ⟨by decide, by decide⟩ rfl d17_93 rfl ?_
      refine E_aloadN (pc' := 95) cx st7 d17_94 rfl rfl rfl ?_
      refine E_getfield (pc' := 98) (v := (.ref bO)) cx st7 (wd hw 49 rfl) (B_o.at 7 (by decide) rfl rfl) d17_95 rfl ?_
      intro T8 st8
      refine E_iloadN (pc' := 99) cx st8 d17_98 rfl rfl ?_
      refine E_laload (pc' := 100) (x := q0) cx st8 V_bO ⟨by decide, by decide⟩ rfl d17_99 rfl ?_
      by_cases c9 : q1 < q0
      · refine E_lif_geN (pc' := 104) cx st8 d17_100 d17_101 rfl c9 ?_
        refine E_iconst (pc' := 105) cx st8 (1 : Int32) d17_104 rfl rfl ?_
        refine E_goto (pc' := 109) cx st8 d17_105 (by decide) (by decide) ?_
        refine E_ireturn (t := .boolean) cx st8 d17_109 rfl (by simp) rfl (by decide) (by decide) ?_
        exact ⟨by unfold bfr; rw [if_pos c3, if_pos c6, if_pos c9], rfl⟩
      · refine E_lif_geY (pc' := 108) cx st8 d17_100 d17_101 (by decide) (by decide) c9 ?_
        refine E_iconst (pc' := 109) cx st8 (0 : Int32) d17_108 rfl rfl ?_
        refine E_ireturn (t := .boolean) cx st8 d17_109 rfl (by simp) rfl (by decide) (by decide) ?_
        exact ⟨by unfold bfr; rw [if_pos c3, if_pos c6, if_neg c9], rfl⟩
    · refine E_lif_eqN (pc' := 54) cx st5 d17_50 d17_51 rfl c6 ?_
      refine E_aloadN (pc' := 55) cx st5 d17_54 rfl rfl rfl ?_
      refine E_getfield (pc' := 58) (v := (.ref bG)) cx st5 (wd hw 47 rfl) (B_o.at 6 (by decide) rfl rfl) d17_55 rfl ?_
      intro T10 st10
      refine E_iloadN (pc' := 59) cx st10 d17_58 rfl rfl ?_
      refine E_laload (pc' := 60) (x := g1) cx st10 V_bG ⟨by decide, by decide⟩ rfl d17_59 rfl ?_
      refine E_aloadN (pc' := 61) cx st10 d17_60 rfl rfl rfl ?_
      refine E_getfield (pc' := 64) (v := (.ref bG)) cx st10 (wd hw 47 rfl) (B_o.at 6 (by decide) rfl rfl) d17_61 rfl ?_
      intro T11 st11
      refine E_iloadN (pc' := 65) cx st11 d17_64 rfl rfl ?_
      refine E_laload (pc' := 66) (x := g0) cx st11 V_bG ⟨by decide, by decide⟩ rfl d17_65 rfl ?_
      by_cases c12 : g0 < g1
      · refine E_lif_leN (pc' := 70) cx st11 d17_66 d17_67 rfl c12 ?_
        refine E_iconst (pc' := 71) cx st11 (1 : Int32) d17_70 rfl rfl ?_
        refine E_goto (pc' := 75) cx st11 d17_71 (by decide) (by decide) ?_
        refine E_aloadN (pc' := 76) cx st11 d17_75 rfl rfl rfl ?_
        refine E_getfield (pc' := 79) (v := (.int gt)) cx st11 (wd hw 62 rfl) (B_o.at 0 (by decide) rfl rfl) d17_76 rfl ?_
        intro T13 st13
        by_cases c14 : (1 : Int32) = gt
        · refine E_icmp_neN (pc' := 82) cx st13 d17_79 rfl c14 ?_
          refine E_iconst (pc' := 83) cx st13 (1 : Int32) d17_82 rfl rfl ?_
          refine E_goto (pc' := 87) cx st13 d17_83 (by decide) (by decide) ?_
          refine E_ireturn (t := .boolean) cx st13 d17_87 rfl (by simp) rfl (by decide) (by decide) ?_
          exact ⟨by unfold bfr; rw [if_pos c3, if_neg c6, if_pos c12, if_pos c14], rfl⟩
        · refine E_icmp_neY (pc' := 86) cx st13 d17_79 (by decide) (by decide) c14 ?_
          refine E_iconst (pc' := 87) cx st13 (0 : Int32) d17_86 rfl rfl ?_
          refine E_ireturn (t := .boolean) cx st13 d17_87 rfl (by simp) rfl (by decide) (by decide) ?_
          exact ⟨by unfold bfr; rw [if_pos c3, if_neg c6, if_pos c12, if_neg c14], rfl⟩
      · refine E_lif_leY (pc' := 74) cx st11 d17_66 d17_67 (by decide) (by decide) c12 ?_
        refine E_iconst (pc' := 75) cx st11 (0 : Int32) d17_74 rfl rfl ?_
        refine E_aloadN (pc' := 76) cx st11 d17_75 rfl rfl rfl ?_
        refine E_getfield (pc' := 79) (v := (.int gt)) cx st11 (wd hw 62 rfl) (B_o.at 0 (by decide) rfl rfl) d17_76 rfl ?_
        intro T15 st15
        by_cases c16 : (0 : Int32) = gt
        · refine E_icmp_neN (pc' := 82) cx st15 d17_79 rfl c16 ?_
          refine E_iconst (pc' := 83) cx st15 (1 : Int32) d17_82 rfl rfl ?_
          refine E_goto (pc' := 87) cx st15 d17_83 (by decide) (by decide) ?_
          refine E_ireturn (t := .boolean) cx st15 d17_87 rfl (by simp) rfl (by decide) (by decide) ?_
          exact ⟨by unfold bfr; rw [if_pos c3, if_neg c6, if_neg c12, if_pos c16], rfl⟩
        · refine E_icmp_neY (pc' := 86) cx st15 d17_79 (by decide) (by decide) c16 ?_
          refine E_iconst (pc' := 87) cx st15 (0 : Int32) d17_86 rfl rfl ?_
          refine E_ireturn (t := .boolean) cx st15 d17_87 rfl (by simp) rfl (by decide) (by decide) ?_
          exact ⟨by unfold bfr; rw [if_pos c3, if_neg c6, if_neg c12, if_neg c16], rfl⟩
  · refine E_lif_eqN (pc' := 16) cx st2 d17_12 d17_13 rfl c3 ?_
    refine E_aloadN (pc' := 17) cx st2 d17_16 rfl rfl rfl ?_
    refine E_getfield (pc' := 20) (v := (.ref bF)) cx st2 (wd hw 45 rfl) (B_o.at 5 (by decide) rfl rfl) d17_17 rfl ?_
    intro T17 st17
    refine E_iloadN (pc' := 21) cx st17 d17_20 rfl rfl ?_
    refine E_laload (pc' := 22) (x := f1) cx st17 V_bF ⟨by decide, by decide⟩ rfl d17_21 rfl ?_
    refine E_aloadN (pc' := 23) cx st17 d17_22 rfl rfl rfl ?_
    refine E_getfield (pc' := 26) (v := (.ref bF)) cx st17 (wd hw 45 rfl) (B_o.at 5 (by decide) rfl rfl) d17_23 rfl ?_
    intro T18 st18
    refine E_iloadN (pc' := 27) cx st18 d17_26 rfl rfl ?_
    refine E_laload (pc' := 28) (x := f0) cx st18 V_bF ⟨by decide, by decide⟩ rfl d17_27 rfl ?_
    by_cases c19 : f1 < f0
    · refine E_lif_geN (pc' := 32) cx st18 d17_28 d17_29 rfl c19 ?_
      refine E_iconst (pc' := 33) cx st18 (1 : Int32) d17_32 rfl rfl ?_
      refine E_goto (pc' := 37) cx st18 d17_33 (by decide) (by decide) ?_
      refine E_ireturn (t := .boolean) cx st18 d17_37 rfl (by simp) rfl (by decide) (by decide) ?_
      exact ⟨by unfold bfr; rw [if_neg c3, if_pos c19], rfl⟩
    · refine E_lif_geY (pc' := 36) cx st18 d17_28 d17_29 (by decide) (by decide) c19 ?_
      refine E_iconst (pc' := 37) cx st18 (0 : Int32) d17_36 rfl rfl ?_
      refine E_ireturn (t := .boolean) cx st18 d17_37 rfl (by simp) rfl (by decide) (by decide) ?_
      exact ⟨by unfold bfr; rw [if_neg c3, if_neg c19], rfl⟩
theorem d16_0 : decode prog_16_method_14_code 0 = .ok (.aload_n 0, 1) := by decide +kernel
theorem d16_1 : decode prog_16_method_14_code 1 = .ok (.dup, 1) := by decide +kernel
theorem d16_2 : decode prog_16_method_14_code 2 = .ok (.getfield 79, 3) := by decide +kernel
theorem d16_5 : decode prog_16_method_14_code 5 = .ok (.dup_x1, 1) := by decide +kernel
theorem d16_6 : decode prog_16_method_14_code 6 = .ok (.iconst 1, 1) := by decide +kernel
theorem d16_7 : decode prog_16_method_14_code 7 = .ok (.iadd, 1) := by decide +kernel
theorem d16_8 : decode prog_16_method_14_code 8 = .ok (.putfield 79, 3) := by decide +kernel
theorem d16_11 : decode prog_16_method_14_code 11 = .ok (.istore_n 2, 1) := by decide +kernel
theorem d16_12 : decode prog_16_method_14_code 12 = .ok (.iload_n 2, 1) := by decide +kernel
theorem d16_13 : decode prog_16_method_14_code 13 = .ok (.ifCond .le 46, 3) := by decide +kernel
theorem d16_16 : decode prog_16_method_14_code 16 = .ok (.aload_n 0, 1) := by decide +kernel
theorem d16_17 : decode prog_16_method_14_code 17 = .ok (.iload_n 1, 1) := by decide +kernel
theorem d16_18 : decode prog_16_method_14_code 18 = .ok (.aload_n 0, 1) := by decide +kernel
theorem d16_19 : decode prog_16_method_14_code 19 = .ok (.getfield 42, 3) := by decide +kernel
theorem d16_22 : decode prog_16_method_14_code 22 = .ok (.iload_n 2, 1) := by decide +kernel
theorem d16_23 : decode prog_16_method_14_code 23 = .ok (.iconst 1, 1) := by decide +kernel
theorem d16_24 : decode prog_16_method_14_code 24 = .ok (.isub, 1) := by decide +kernel
theorem d16_25 : decode prog_16_method_14_code 25 = .ok (.iconst 2, 1) := by decide +kernel
theorem d16_26 : decode prog_16_method_14_code 26 = .ok (.idiv, 1) := by decide +kernel
theorem d16_27 : decode prog_16_method_14_code 27 = .ok (.iaload, 1) := by decide +kernel
theorem d16_28 : decode prog_16_method_14_code 28 = .ok (.invokevirtual 127, 3) := by decide +kernel
theorem d16_31 : decode prog_16_method_14_code 31 = .ok (.ifCond .eq 28, 3) := by decide +kernel
theorem d16_34 : decode prog_16_method_14_code 34 = .ok (.aload_n 0, 1) := by decide +kernel
theorem d16_35 : decode prog_16_method_14_code 35 = .ok (.getfield 42, 3) := by decide +kernel
theorem d16_38 : decode prog_16_method_14_code 38 = .ok (.iload_n 2, 1) := by decide +kernel
theorem d16_39 : decode prog_16_method_14_code 39 = .ok (.aload_n 0, 1) := by decide +kernel
theorem d16_40 : decode prog_16_method_14_code 40 = .ok (.getfield 42, 3) := by decide +kernel
theorem d16_43 : decode prog_16_method_14_code 43 = .ok (.iload_n 2, 1) := by decide +kernel
theorem d16_44 : decode prog_16_method_14_code 44 = .ok (.iconst 1, 1) := by decide +kernel
theorem d16_45 : decode prog_16_method_14_code 45 = .ok (.isub, 1) := by decide +kernel
theorem d16_46 : decode prog_16_method_14_code 46 = .ok (.iconst 2, 1) := by decide +kernel
theorem d16_47 : decode prog_16_method_14_code 47 = .ok (.idiv, 1) := by decide +kernel
theorem d16_48 : decode prog_16_method_14_code 48 = .ok (.iaload, 1) := by decide +kernel
theorem d16_49 : decode prog_16_method_14_code 49 = .ok (.iastore, 1) := by decide +kernel
theorem d16_50 : decode prog_16_method_14_code 50 = .ok (.iload_n 2, 1) := by decide +kernel
theorem d16_51 : decode prog_16_method_14_code 51 = .ok (.iconst 1, 1) := by decide +kernel
theorem d16_52 : decode prog_16_method_14_code 52 = .ok (.isub, 1) := by decide +kernel
theorem d16_53 : decode prog_16_method_14_code 53 = .ok (.iconst 2, 1) := by decide +kernel
theorem d16_54 : decode prog_16_method_14_code 54 = .ok (.idiv, 1) := by decide +kernel
theorem d16_55 : decode prog_16_method_14_code 55 = .ok (.istore_n 2, 1) := by decide +kernel
theorem d16_56 : decode prog_16_method_14_code 56 = .ok (.goto (-44), 3) := by decide +kernel
theorem d16_59 : decode prog_16_method_14_code 59 = .ok (.aload_n 0, 1) := by decide +kernel
theorem d16_60 : decode prog_16_method_14_code 60 = .ok (.getfield 42, 3) := by decide +kernel
theorem d16_63 : decode prog_16_method_14_code 63 = .ok (.iload_n 2, 1) := by decide +kernel
theorem d16_64 : decode prog_16_method_14_code 64 = .ok (.iload_n 1, 1) := by decide +kernel
theorem d16_65 : decode prog_16_method_14_code 65 = .ok (.iastore, 1) := by decide +kernel
theorem d16_66 : decode prog_16_method_14_code 66 = .ok (.return_, 1) := by decide +kernel
theorem ef_heapPush0 (m : MethodId) (x0 : Addr) (x1 : Int32) : entryFrame m #[(.ref x0), (.int x1)] 3 = mkF m 0 #[.val (.ref x0), .val (.int x1), .unset] [] := by first | (simp [entryFrame, mkF, argsToLocals, Value.category]; done) | rfl
set_option maxRecDepth 65536 in
set_option maxHeartbeats 40000000 in
theorem rmheapPush0 (l : Launch) (Z : State) (a0 : Array Value) (hw : ∀ d ∈ tables_1, d.before a0 Z = true) (o : Addr) (cl : Addr) (cs : Addr) (c0 : Addr) (bF : Addr) (bG : Addr) (bO : Addr) (bH : Addr) (bT : Addr) (hP : Addr) (nw : Addr) (h0 : Heap) (n0 : Nat) (Z0 : n0 ≤ h0.size) (gt : Int32) (fe : Int32) (eu : Int32) (sz : Int32) (fb : Int32) (bu : Int32) (sta : Int64) (e0 : Int64) (e1 : Int64) (er : List Int64) (f0 : Int64) (f1 : Int64) (fr : List Int64) (g0 : Int64) (g1 : Int64) (gr : List Int64) (q0 : Int64) (q1 : Int64) (qr : List Int64) (d0 : Int32) (d1 : Int32) (dr : List Int32) (t0 : Int32) (t1 : Int32) (tr : List Int32) (p0 : Int32) (p1 : Int32) (pr : List Int32) (ns : List Int32) (hnd : [o, cl, cs, c0, bF, bG, bO, bH, bT, hP, nw].Nodup) (hge : ∀ a ∈ [o, cl, cs, c0, bF, bG, bO, bH, bT, hP, nw], n0 ≤ a) (H0 : Wd Z h0 o cl cs c0 bF bG bO bH bT hP nw gt fe eu sz fb bu (0 : Int32) sta e0 e1 er f0 f1 fr g0 g1 gr q0 q1 qr d0 d1 dr t0 t1 tr p0 p1 pr ns)  :
    Con l Z (⟨"com/example/flat_planner/flatplanner/OpenList", "heapPush", "(I)V"⟩ : MethodName) prog_16_method_14_code 3 none ({ frames := 1, cells := 0, slots := 0, locals := 14 } : Room) #[(.ref o), (.int (0 : Int32))] h0 n0 (fun v h => v = none ∧ Keep h0 h [o, c0, bF, bG, bO, bH, bT, hP, nw] ∧ Wd Z h o cl cs c0 bF bG bO bH bT hP nw gt fe eu sz fb bu (1 : Int32) sta e0 e1 er f0 f1 fr g0 g1 gr q0 q1 qr d0 d1 dr t0 t1 tr (0 : Int32) p1 pr ns) := by
  refine Con.of (own := "com/example/flat_planner/flatplanner/OpenList") (name := "heapPush") (plainFor_of_name pn_3) (fun m => ef_heapPush0 m o (0 : Int32)) rfl rfl ?_
  intro p e s m below meth c T F S cx st
  have g_o : n0 ≤ o := hge o (by simp)
  have g_c0 : n0 ≤ c0 := hge c0 (by simp)
  have g_bF : n0 ≤ bF := hge bF (by simp)
  have g_bG : n0 ≤ bG := hge bG (by simp)
  have g_bO : n0 ≤ bO := hge bO (by simp)
  have g_bH : n0 ≤ bH := hge bH (by simp)
  have g_bT : n0 ≤ bT := hge bT (by simp)
  have g_hP : n0 ≤ hP := hge hP (by simp)
  have g_nw : n0 ≤ nw := hge nw (by simp)
  obtain ⟨X_o, B_o, HL, ⟨k_cs, V_cs⟩, ⟨k_c0, V_c0⟩, ⟨k_bF, V_bF⟩, ⟨k_bG, V_bG⟩, ⟨k_bO, V_bO⟩, ⟨k_bH, V_bH⟩, ⟨k_bT, V_bT⟩, ⟨k_hP, V_hP⟩, ⟨k_nw, V_nw⟩⟩ := H0
  refine E_aloadN (pc' := 1) cx st d16_0 rfl rfl rfl ?_
  refine E_dup (pc' := 2) cx st d16_1 rfl rfl ?_
  refine E_getfield (pc' := 5) (v := (.int (0 : Int32))) cx st (wd hw 116 rfl) (B_o.at 14 (by decide) rfl rfl) d16_2 rfl ?_
  intro T1 st1
  refine E_dup_x1 (pc' := 6) cx st1 d16_5 rfl rfl rfl ?_
  refine E_iconst (pc' := 7) cx st1 (1 : Int32) d16_6 rfl rfl ?_
  refine E_iadd (pc' := 8) cx st1 d16_7 rfl ?_
  rw [show ((0 : Int32) + (1 : Int32)) = (1 : Int32) from by decide]
  refine E_putfield (pc' := 11) (ty := .int) cx st1 (wd hw 116 rfl) (B_o.at 14 (by decide) rfl rfl) X_o (Or.inl (wd hw 117 rfl)) (wd hw 1 rfl) (by decide) rfl rfl g_o d16_8 rfl ?_
  intro T2 h2 st2 W2
  have Z2 : n0 ≤ h2.size := Nat.le_trans Z0 (Keep.of_wr W2).1
  have K2 : Keep h0 h2 [o, c0, bF, bG, bO, bH, bT, hP, nw] := (Keep.refl h0 [o, c0, bF, bG, bO, bH, bT, hP, nw]).wr W2 (mi 0 rfl)
  have B2w : OL Z h2 o [(.int gt), (.ref cl), (.int fe), (.int eu), (.int sz), (.ref bF), (.ref bG), (.ref bO), (.ref bH), (.ref bT), (.int fb), (.int bu), (.long sta), (.ref hP), (.int (1 : Int32)), (.ref nw)] := B_o.wr hw 14 (by decide) rfl W2 (Nat.le_of_ble_eq_true rfl)
  refine E_istoreN (pc' := 12) (L' := #[.val (.ref o), .val (.int (0 : Int32)), .val (.int (0 : Int32))]) cx st2 d16_11 rfl rfl ?_
  refine E_iloadN (pc' := 13) cx st2 d16_12 rfl rfl ?_
  refine E_if_leY (pc' := 59) cx st2 d16_13 (by decide) (by decide) (by decide) ?_
  refine E_aloadN (pc' := 60) cx st2 d16_59 rfl rfl rfl ?_
  refine E_getfield (pc' := 63) (v := (.ref hP)) cx st2 (wd hw 58 rfl) (B2w.at 13 (by decide) rfl rfl) d16_60 rfl ?_
  intro T3 st3
  refine E_iloadN (pc' := 64) cx st3 d16_63 rfl rfl ?_
  refine E_iloadN (pc' := 65) cx st3 d16_64 rfl rfl ?_
  have V4 : Arv Z h2 hP k_hP .int (16 : Int32) ((.int p0) :: (.int p1) :: (pr.map Value.int)) (.int (0 : Int32)) := (V_hP.other W2 (nd hnd 9 0 rfl rfl))
  refine E_iastore (pc' := 66) (i := 0) cx st3 V4 ⟨by decide, by decide⟩ rfl (Nat.zero_lt_succ _) g_hP d16_65 rfl ?_
  intro T5 h5 st5 W5 V5
  have Z5 : n0 ≤ h5.size := Nat.le_trans Z2 (Keep.of_wr W5).1
  have K5 : Keep h0 h5 [o, c0, bF, bG, bO, bH, bT, hP, nw] := K2.wr W5 (mi 7 rfl)
  have V5p : Arv Z h5 hP k_hP .int (16 : Int32) ((.int (0 : Int32)) :: (.int p1) :: (pr.map Value.int)) (.int (0 : Int32)) := V5
  have X6 : Exa Z h5 o "com/example/flat_planner/flatplanner/OpenList" := ((X_o.wr W2).wr W5)
  have B7 : OL Z h5 o [(.int gt), (.ref cl), (.int fe), (.int eu), (.int sz), (.ref bF), (.ref bG), (.ref bO), (.ref bH), (.ref bT), (.int fb), (.int bu), (.long sta), (.ref hP), (.int (1 : Int32)), (.ref nw)] := (B2w.other W5 (nd hnd 0 9 rfl rfl))
  have HL8 : LCF Z h5 cl cs := ((HL.other W2 (nd hnd 1 0 rfl rfl)).other W5 (nd hnd 1 9 rfl rfl))
  have V9 : Arv Z h5 cs k_cs (.array .long) (1 : Int32) [(.ref c0)] .null := ((V_cs.other W2 (nd hnd 2 0 rfl rfl)).other W5 (nd hnd 2 9 rfl rfl))
  have V10 : Arv Z h5 c0 k_c0 .long (16 : Int32) ((.long e0) :: (.long e1) :: (er.map Value.long)) (.long (0 : Int64)) := ((V_c0.other W2 (nd hnd 3 0 rfl rfl)).other W5 (nd hnd 3 9 rfl rfl))
  have V11 : Arv Z h5 bF k_bF .long (16 : Int32) ((.long f0) :: (.long f1) :: (fr.map Value.long)) (.long (0 : Int64)) := ((V_bF.other W2 (nd hnd 4 0 rfl rfl)).other W5 (nd hnd 4 9 rfl rfl))
  have V12 : Arv Z h5 bG k_bG .long (16 : Int32) ((.long g0) :: (.long g1) :: (gr.map Value.long)) (.long (0 : Int64)) := ((V_bG.other W2 (nd hnd 5 0 rfl rfl)).other W5 (nd hnd 5 9 rfl rfl))
  have V13 : Arv Z h5 bO k_bO .long (16 : Int32) ((.long q0) :: (.long q1) :: (qr.map Value.long)) (.long (0 : Int64)) := ((V_bO.other W2 (nd hnd 6 0 rfl rfl)).other W5 (nd hnd 6 9 rfl rfl))
  have V14 : Arv Z h5 bH k_bH .int (16 : Int32) ((.int d0) :: (.int d1) :: (dr.map Value.int)) (.int (0 : Int32)) := ((V_bH.other W2 (nd hnd 7 0 rfl rfl)).other W5 (nd hnd 7 9 rfl rfl))
  have V15 : Arv Z h5 bT k_bT .int (16 : Int32) ((.int t0) :: (.int t1) :: (tr.map Value.int)) (.int (0 : Int32)) := ((V_bT.other W2 (nd hnd 8 0 rfl rfl)).other W5 (nd hnd 8 9 rfl rfl))
  have V16 : Arv Z h5 nw k_nw .int (32 : Int32) (ns.map Value.int) (.int (0 : Int32)) := ((V_nw.other W2 (nd hnd 10 0 rfl rfl)).other W5 (nd hnd 10 9 rfl rfl))
  refine E_return cx st5 d16_66 rfl (by decide) (by decide) ?_
  exact ⟨rfl, K5, ⟨X6, B7, HL8, ⟨_, V9⟩, ⟨_, V10⟩, ⟨_, V11⟩, ⟨_, V12⟩, ⟨_, V13⟩, ⟨_, V14⟩, ⟨_, V15⟩, ⟨_, V5p⟩, ⟨_, V16⟩⟩⟩
theorem ef_heapPush1 (m : MethodId) (x0 : Addr) (x1 : Int32) : entryFrame m #[(.ref x0), (.int x1)] 3 = mkF m 0 #[.val (.ref x0), .val (.int x1), .unset] [] := by first | (simp [entryFrame, mkF, argsToLocals, Value.category]; done) | rfl
theorem pd_7 : parseMethodDescriptor "(II)Z" = some ⟨[.int, .int], some .boolean⟩ := by decide +kernel
set_option maxRecDepth 65536 in
set_option maxHeartbeats 40000000 in
theorem rmheapPush1 (l : Launch) (Z : State) (a0 : Array Value) (hw : ∀ d ∈ tables_1, d.before a0 Z = true) (o : Addr) (cl : Addr) (cs : Addr) (c0 : Addr) (bF : Addr) (bG : Addr) (bO : Addr) (bH : Addr) (bT : Addr) (hP : Addr) (nw : Addr) (h0 : Heap) (n0 : Nat) (Z0 : n0 ≤ h0.size) (gt : Int32) (fe : Int32) (eu : Int32) (sz : Int32) (fb : Int32) (bu : Int32) (sta : Int64) (e0 : Int64) (e1 : Int64) (er : List Int64) (f0 : Int64) (f1 : Int64) (fr : List Int64) (g0 : Int64) (g1 : Int64) (gr : List Int64) (q0 : Int64) (q1 : Int64) (qr : List Int64) (d0 : Int32) (d1 : Int32) (dr : List Int32) (t0 : Int32) (t1 : Int32) (tr : List Int32) (p1 : Int32) (pr : List Int32) (ns : List Int32) (hnd : [o, cl, cs, c0, bF, bG, bO, bH, bT, hP, nw].Nodup) (hge : ∀ a ∈ [o, cl, cs, c0, bF, bG, bO, bH, bT, hP, nw], n0 ≤ a) (H0 : Wd Z h0 o cl cs c0 bF bG bO bH bT hP nw gt fe eu sz fb bu (1 : Int32) sta e0 e1 er f0 f1 fr g0 g1 gr q0 q1 qr d0 d1 dr t0 t1 tr (0 : Int32) p1 pr ns)  :
    Con l Z (⟨"com/example/flat_planner/flatplanner/OpenList", "heapPush", "(I)V"⟩ : MethodName) prog_16_method_14_code 3 none ({ frames := 1, cells := 0, slots := 0, locals := 14 } : Room) #[(.ref o), (.int (1 : Int32))] h0 n0 (fun v h => ∃ xb xc : Int32, (((xb = 0 ∧ xc = 1) ∧ bfr f1 f0 g1 g0 q1 q0 gt = 0) ∨ ((xb = 1 ∧ xc = 0) ∧ ¬ bfr f1 f0 g1 g0 q1 q0 gt = 0)) ∧ v = none ∧ Keep h0 h [o, c0, bF, bG, bO, bH, bT, hP, nw] ∧ Wd Z h o cl cs c0 bF bG bO bH bT hP nw gt fe eu sz fb bu (2 : Int32) sta e0 e1 er f0 f1 fr g0 g1 gr q0 q1 qr d0 d1 dr t0 t1 tr xb xc pr ns) := by
  refine Con.of (own := "com/example/flat_planner/flatplanner/OpenList") (name := "heapPush") (plainFor_of_name pn_3) (fun m => ef_heapPush1 m o (1 : Int32)) rfl rfl ?_
  intro p e s m below meth c T F S cx st
  have g_o : n0 ≤ o := hge o (by simp)
  have g_c0 : n0 ≤ c0 := hge c0 (by simp)
  have g_bF : n0 ≤ bF := hge bF (by simp)
  have g_bG : n0 ≤ bG := hge bG (by simp)
  have g_bO : n0 ≤ bO := hge bO (by simp)
  have g_bH : n0 ≤ bH := hge bH (by simp)
  have g_bT : n0 ≤ bT := hge bT (by simp)
  have g_hP : n0 ≤ hP := hge hP (by simp)
  have g_nw : n0 ≤ nw := hge nw (by simp)
  obtain ⟨X_o, B_o, HL, ⟨k_cs, V_cs⟩, ⟨k_c0, V_c0⟩, ⟨k_bF, V_bF⟩, ⟨k_bG, V_bG⟩, ⟨k_bO, V_bO⟩, ⟨k_bH, V_bH⟩, ⟨k_bT, V_bT⟩, ⟨k_hP, V_hP⟩, ⟨k_nw, V_nw⟩⟩ := H0
  refine E_aloadN (pc' := 1) cx st d16_0 rfl rfl rfl ?_
  refine E_dup (pc' := 2) cx st d16_1 rfl rfl ?_
  refine E_getfield (pc' := 5) (v := (.int (1 : Int32))) cx st (wd hw 116 rfl) (B_o.at 14 (by decide) rfl rfl) d16_2 rfl ?_
  intro T1 st1
  refine E_dup_x1 (pc' := 6) cx st1 d16_5 rfl rfl rfl ?_
  refine E_iconst (pc' := 7) cx st1 (1 : Int32) d16_6 rfl rfl ?_
  refine E_iadd (pc' := 8) cx st1 d16_7 rfl ?_
  rw [show ((1 : Int32) + (1 : Int32)) = (2 : Int32) from by decide]
  refine E_putfield (pc' := 11) (ty := .int) cx st1 (wd hw 116 rfl) (B_o.at 14 (by decide) rfl rfl) X_o (Or.inl (wd hw 117 rfl)) (wd hw 1 rfl) (by decide) rfl rfl g_o d16_8 rfl ?_
  intro T2 h2 st2 W2
  have Z2 : n0 ≤ h2.size := Nat.le_trans Z0 (Keep.of_wr W2).1
  have K2 : Keep h0 h2 [o, c0, bF, bG, bO, bH, bT, hP, nw] := (Keep.refl h0 [o, c0, bF, bG, bO, bH, bT, hP, nw]).wr W2 (mi 0 rfl)
  have B2w : OL Z h2 o [(.int gt), (.ref cl), (.int fe), (.int eu), (.int sz), (.ref bF), (.ref bG), (.ref bO), (.ref bH), (.ref bT), (.int fb), (.int bu), (.long sta), (.ref hP), (.int (2 : Int32)), (.ref nw)] := B_o.wr hw 14 (by decide) rfl W2 (Nat.le_of_ble_eq_true rfl)
  refine E_istoreN (pc' := 12) (L' := #[.val (.ref o), .val (.int (1 : Int32)), .val (.int (1 : Int32))]) cx st2 d16_11 rfl rfl ?_
  refine E_iloadN (pc' := 13) cx st2 d16_12 rfl rfl ?_
  refine E_if_leN (pc' := 16) cx st2 d16_13 rfl (by decide) ?_
  refine E_aloadN (pc' := 17) cx st2 d16_16 rfl rfl rfl ?_
  refine E_iloadN (pc' := 18) cx st2 d16_17 rfl rfl ?_
  refine E_aloadN (pc' := 19) cx st2 d16_18 rfl rfl rfl ?_
  refine E_getfield (pc' := 22) (v := (.ref hP)) cx st2 (wd hw 58 rfl) (B2w.at 13 (by decide) rfl rfl) d16_19 rfl ?_
  intro T3 st3
  refine E_iloadN (pc' := 23) cx st3 d16_22 rfl rfl ?_
  refine E_iconst (pc' := 24) cx st3 (1 : Int32) d16_23 rfl rfl ?_
  refine E_isub (pc' := 25) cx st3 d16_24 rfl ?_
  rw [show ((1 : Int32) - (1 : Int32)) = (0 : Int32) from by decide]
  refine E_iconst (pc' := 26) cx st3 (2 : Int32) d16_25 rfl rfl ?_
  refine E_idiv (pc' := 27) cx st3 d16_26 (by decide) rfl ?_
  rw [show ((0 : Int32) / (2 : Int32)) = (0 : Int32) from by decide]
  have V4 : Arv Z h2 hP k_hP .int (16 : Int32) ((.int (0 : Int32)) :: (.int p1) :: (pr.map Value.int)) (.int (0 : Int32)) := (V_hP.other W2 (nd hnd 9 0 rfl rfl))
  refine E_iaload (pc' := 28) (x := (0 : Int32)) cx st3 V4 ⟨by decide, by decide⟩ rfl d16_27 rfl ?_
  have X5 : Exa Z h2 o "com/example/flat_planner/flatplanner/OpenList" := (X_o.wr W2)
  have HL6 : LCF Z h2 cl cs := (HL.other W2 (nd hnd 1 0 rfl rfl))
  have V7 : Arv Z h2 cs k_cs (.array .long) (1 : Int32) [(.ref c0)] .null := (V_cs.other W2 (nd hnd 2 0 rfl rfl))
  have V8 : Arv Z h2 c0 k_c0 .long (16 : Int32) ((.long e0) :: (.long e1) :: (er.map Value.long)) (.long (0 : Int64)) := (V_c0.other W2 (nd hnd 3 0 rfl rfl))
  have V9 : Arv Z h2 bF k_bF .long (16 : Int32) ((.long f0) :: (.long f1) :: (fr.map Value.long)) (.long (0 : Int64)) := (V_bF.other W2 (nd hnd 4 0 rfl rfl))
  have V10 : Arv Z h2 bG k_bG .long (16 : Int32) ((.long g0) :: (.long g1) :: (gr.map Value.long)) (.long (0 : Int64)) := (V_bG.other W2 (nd hnd 5 0 rfl rfl))
  have V11 : Arv Z h2 bO k_bO .long (16 : Int32) ((.long q0) :: (.long q1) :: (qr.map Value.long)) (.long (0 : Int64)) := (V_bO.other W2 (nd hnd 6 0 rfl rfl))
  have V12 : Arv Z h2 bH k_bH .int (16 : Int32) ((.int d0) :: (.int d1) :: (dr.map Value.int)) (.int (0 : Int32)) := (V_bH.other W2 (nd hnd 7 0 rfl rfl))
  have V13 : Arv Z h2 bT k_bT .int (16 : Int32) ((.int t0) :: (.int t1) :: (tr.map Value.int)) (.int (0 : Int32)) := (V_bT.other W2 (nd hnd 8 0 rfl rfl))
  have V14 : Arv Z h2 nw k_nw .int (32 : Int32) (ns.map Value.int) (.int (0 : Int32)) := (V_nw.other W2 (nd hnd 10 0 rfl rfl))
  refine E_callP (pc' := 31) (kc' := 0) (ks' := 0) (W := 0) (a := o) (argsL := [(.int (1 : Int32)), (.int (0 : Int32))]) cx st3 [] (rmbefore l Z a0 hw o cl cs c0 bF bG bO bH bT hP nw h2 n0 Z2 gt fe eu sz fb bu sta (2 : Int32) e0 e1 er f0 f1 fr g0 g1 gr q0 q1 qr d0 d1 dr t0 t1 tr (0 : Int32) p1 pr ns hnd hge ⟨X5, B2w, HL6, ⟨_, V7⟩, ⟨_, V8⟩, ⟨_, V9⟩, ⟨_, V10⟩, ⟨_, V11⟩, ⟨_, V12⟩, ⟨_, V13⟩, ⟨_, V4⟩, ⟨_, V14⟩⟩ ) X5 (wd hw 120 rfl) (wd hw 122 rfl) (wd hw 1 rfl) (wd hw 121 rfl) (wd hw 2 rfl) (wd hw 123 rfl) d16_28 rfl rfl (lenOf pd_7 rfl) (Nat.le_of_eq rfl) (by decide) (by decide) (by decide) (by decide) (by decide) (by decide) (by decide) rfl ?_
  intro v15 T15 h15 st15 hq15
  obtain ⟨rfl, hh15⟩ := hq15
  rw [hh15] at st15
  by_cases c16 : (bfr f1 f0 g1 g0 q1 q0 gt) = (0 : Int32)
  · refine E_if_eqY (pc' := 59) cx st15 d16_31 (by decide) (by decide) c16 ?_
    refine E_aloadN (pc' := 60) cx st15 d16_59 rfl rfl rfl ?_
    refine E_getfield (pc' := 63) (v := (.ref hP)) cx st15 (wd hw 58 rfl) (B2w.at 13 (by decide) rfl rfl) d16_60 rfl ?_
    intro T17 st17
    refine E_iloadN (pc' := 64) cx st17 d16_63 rfl rfl ?_
    refine E_iloadN (pc' := 65) cx st17 d16_64 rfl rfl ?_
    refine E_iastore (pc' := 66) (i := 1) cx st17 V4 ⟨by decide, by decide⟩ rfl (Nat.succ_lt_succ (Nat.zero_lt_succ _)) g_hP d16_65 rfl ?_
    intro T18 h18 st18 W18 V18
    have Z18 : n0 ≤ h18.size := Nat.le_trans Z2 (Keep.of_wr W18).1
    have K18 : Keep h0 h18 [o, c0, bF, bG, bO, bH, bT, hP, nw] := K2.wr W18 (mi 7 rfl)
    have V18p : Arv Z h18 hP k_hP .int (16 : Int32) ((.int (0 : Int32)) :: (.int (1 : Int32)) :: (pr.map Value.int)) (.int (0 : Int32)) := V18
    have X19 : Exa Z h18 o "com/example/flat_planner/flatplanner/OpenList" := (X5.wr W18)
    have B20 : OL Z h18 o [(.int gt), (.ref cl), (.int fe), (.int eu), (.int sz), (.ref bF), (.ref bG), (.ref bO), (.ref bH), (.ref bT), (.int fb), (.int bu), (.long sta), (.ref hP), (.int (2 : Int32)), (.ref nw)] := (B2w.other W18 (nd hnd 0 9 rfl rfl))
    have HL21 : LCF Z h18 cl cs := (HL6.other W18 (nd hnd 1 9 rfl rfl))
    have V22 : Arv Z h18 cs k_cs (.array .long) (1 : Int32) [(.ref c0)] .null := (V7.other W18 (nd hnd 2 9 rfl rfl))
    have V23 : Arv Z h18 c0 k_c0 .long (16 : Int32) ((.long e0) :: (.long e1) :: (er.map Value.long)) (.long (0 : Int64)) := (V8.other W18 (nd hnd 3 9 rfl rfl))
    have V24 : Arv Z h18 bF k_bF .long (16 : Int32) ((.long f0) :: (.long f1) :: (fr.map Value.long)) (.long (0 : Int64)) := (V9.other W18 (nd hnd 4 9 rfl rfl))
    have V25 : Arv Z h18 bG k_bG .long (16 : Int32) ((.long g0) :: (.long g1) :: (gr.map Value.long)) (.long (0 : Int64)) := (V10.other W18 (nd hnd 5 9 rfl rfl))
    have V26 : Arv Z h18 bO k_bO .long (16 : Int32) ((.long q0) :: (.long q1) :: (qr.map Value.long)) (.long (0 : Int64)) := (V11.other W18 (nd hnd 6 9 rfl rfl))
    have V27 : Arv Z h18 bH k_bH .int (16 : Int32) ((.int d0) :: (.int d1) :: (dr.map Value.int)) (.int (0 : Int32)) := (V12.other W18 (nd hnd 7 9 rfl rfl))
    have V28 : Arv Z h18 bT k_bT .int (16 : Int32) ((.int t0) :: (.int t1) :: (tr.map Value.int)) (.int (0 : Int32)) := (V13.other W18 (nd hnd 8 9 rfl rfl))
    have V29 : Arv Z h18 nw k_nw .int (32 : Int32) (ns.map Value.int) (.int (0 : Int32)) := (V14.other W18 (nd hnd 10 9 rfl rfl))
    refine E_return cx st18 d16_66 rfl (by decide) (by decide) ?_
    exact ⟨(0 : Int32), (1 : Int32), Or.inl ⟨⟨rfl, rfl⟩, c16⟩, rfl, K18, ⟨X19, B20, HL21, ⟨_, V22⟩, ⟨_, V23⟩, ⟨_, V24⟩, ⟨_, V25⟩, ⟨_, V26⟩, ⟨_, V27⟩, ⟨_, V28⟩, ⟨_, V18p⟩, ⟨_, V29⟩⟩⟩
  · refine E_if_eqN (pc' := 34) cx st15 d16_31 rfl c16 ?_
    refine E_aloadN (pc' := 35) cx st15 d16_34 rfl rfl rfl ?_
    refine E_getfield (pc' := 38) (v := (.ref hP)) cx st15 (wd hw 58 rfl) (B2w.at 13 (by decide) rfl rfl) d16_35 rfl ?_
    intro T30 st30
    refine E_iloadN (pc' := 39) cx st30 d16_38 rfl rfl ?_
    refine E_aloadN (pc' := 40) cx st30 d16_39 rfl rfl rfl ?_
    refine E_getfield (pc' := 43) (v := (.ref hP)) cx st30 (wd hw 58 rfl) (B2w.at 13 (by decide) rfl rfl) d16_40 rfl ?_
    intro T31 st31
    refine E_iloadN (pc' := 44) cx st31 d16_43 rfl rfl ?_
    refine E_iconst (pc' := 45) cx st31 (1 : Int32) d16_44 rfl rfl ?_
    refine E_isub (pc' := 46) cx st31 d16_45 rfl ?_
    rw [show ((1 : Int32) - (1 : Int32)) = (0 : Int32) from by decide]
    refine E_iconst (pc' := 47) cx st31 (2 : Int32) d16_46 rfl rfl ?_
    refine E_idiv (pc' := 48) cx st31 d16_47 (by decide) rfl ?_
    rw [show ((0 : Int32) / (2 : Int32)) = (0 : Int32) from by decide]
    refine E_iaload (pc' := 49) (x := (0 : Int32)) cx st31 V4 ⟨by decide, by decide⟩ rfl d16_48 rfl ?_
    refine E_iastore (pc' := 50) (i := 1) cx st31 V4 ⟨by decide, by decide⟩ rfl (Nat.succ_lt_succ (Nat.zero_lt_succ _)) g_hP d16_49 rfl ?_
    intro T32 h32 st32 W32 V32
    have Z32 : n0 ≤ h32.size := Nat.le_trans Z2 (Keep.of_wr W32).1
    have K32 : Keep h0 h32 [o, c0, bF, bG, bO, bH, bT, hP, nw] := K2.wr W32 (mi 7 rfl)
    have V32p : Arv Z h32 hP k_hP .int (16 : Int32) ((.int (0 : Int32)) :: (.int (0 : Int32)) :: (pr.map Value.int)) (.int (0 : Int32)) := V32
    refine E_iloadN (pc' := 51) cx st32 d16_50 rfl rfl ?_
    refine E_iconst (pc' := 52) cx st32 (1 : Int32) d16_51 rfl rfl ?_
    refine E_isub (pc' := 53) cx st32 d16_52 rfl ?_
    rw [show ((1 : Int32) - (1 : Int32)) = (0 : Int32) from by decide]
    refine E_iconst (pc' := 54) cx st32 (2 : Int32) d16_53 rfl rfl ?_
    refine E_idiv (pc' := 55) cx st32 d16_54 (by decide) rfl ?_
    rw [show ((0 : Int32) / (2 : Int32)) = (0 : Int32) from by decide]
    refine E_istoreN (pc' := 56) (L' := #[.val (.ref o), .val (.int (1 : Int32)), .val (.int (0 : Int32))]) cx st32 d16_55 rfl rfl ?_
    refine E_goto (pc' := 12) cx st32 d16_56 (by decide) (by decide) ?_
    refine E_iloadN (pc' := 13) cx st32 d16_12 rfl rfl ?_
    refine E_if_leY (pc' := 59) cx st32 d16_13 (by decide) (by decide) (by decide) ?_
    refine E_aloadN (pc' := 60) cx st32 d16_59 rfl rfl rfl ?_
    have B34 : OL Z h32 o [(.int gt), (.ref cl), (.int fe), (.int eu), (.int sz), (.ref bF), (.ref bG), (.ref bO), (.ref bH), (.ref bT), (.int fb), (.int bu), (.long sta), (.ref hP), (.int (2 : Int32)), (.ref nw)] := (B2w.other W32 (nd hnd 0 9 rfl rfl))
    refine E_getfield (pc' := 63) (v := (.ref hP)) cx st32 (wd hw 58 rfl) (B34.at 13 (by decide) rfl rfl) d16_60 rfl ?_
    intro T33 st33
    refine E_iloadN (pc' := 64) cx st33 d16_63 rfl rfl ?_
    refine E_iloadN (pc' := 65) cx st33 d16_64 rfl rfl ?_
    refine E_iastore (pc' := 66) (i := 0) cx st33 V32p ⟨by decide, by decide⟩ rfl (Nat.zero_lt_succ _) g_hP d16_65 rfl ?_
    intro T35 h35 st35 W35 V35
    have Z35 : n0 ≤ h35.size := Nat.le_trans Z32 (Keep.of_wr W35).1
    have K35 : Keep h0 h35 [o, c0, bF, bG, bO, bH, bT, hP, nw] := K32.wr W35 (mi 7 rfl)
    have V35p : Arv Z h35 hP k_hP .int (16 : Int32) ((.int (1 : Int32)) :: (.int (0 : Int32)) :: (pr.map Value.int)) (.int (0 : Int32)) := V35
    have X36 : Exa Z h35 o "com/example/flat_planner/flatplanner/OpenList" := ((X5.wr W32).wr W35)
    have B37 : OL Z h35 o [(.int gt), (.ref cl), (.int fe), (.int eu), (.int sz), (.ref bF), (.ref bG), (.ref bO), (.ref bH), (.ref bT), (.int fb), (.int bu), (.long sta), (.ref hP), (.int (2 : Int32)), (.ref nw)] := (B34.other W35 (nd hnd 0 9 rfl rfl))
    have HL38 : LCF Z h35 cl cs := ((HL6.other W32 (nd hnd 1 9 rfl rfl)).other W35 (nd hnd 1 9 rfl rfl))
    have V39 : Arv Z h35 cs k_cs (.array .long) (1 : Int32) [(.ref c0)] .null := ((V7.other W32 (nd hnd 2 9 rfl rfl)).other W35 (nd hnd 2 9 rfl rfl))
    have V40 : Arv Z h35 c0 k_c0 .long (16 : Int32) ((.long e0) :: (.long e1) :: (er.map Value.long)) (.long (0 : Int64)) := ((V8.other W32 (nd hnd 3 9 rfl rfl)).other W35 (nd hnd 3 9 rfl rfl))
    have V41 : Arv Z h35 bF k_bF .long (16 : Int32) ((.long f0) :: (.long f1) :: (fr.map Value.long)) (.long (0 : Int64)) := ((V9.other W32 (nd hnd 4 9 rfl rfl)).other W35 (nd hnd 4 9 rfl rfl))
    have V42 : Arv Z h35 bG k_bG .long (16 : Int32) ((.long g0) :: (.long g1) :: (gr.map Value.long)) (.long (0 : Int64)) := ((V10.other W32 (nd hnd 5 9 rfl rfl)).other W35 (nd hnd 5 9 rfl rfl))
    have V43 : Arv Z h35 bO k_bO .long (16 : Int32) ((.long q0) :: (.long q1) :: (qr.map Value.long)) (.long (0 : Int64)) := ((V11.other W32 (nd hnd 6 9 rfl rfl)).other W35 (nd hnd 6 9 rfl rfl))
    have V44 : Arv Z h35 bH k_bH .int (16 : Int32) ((.int d0) :: (.int d1) :: (dr.map Value.int)) (.int (0 : Int32)) := ((V12.other W32 (nd hnd 7 9 rfl rfl)).other W35 (nd hnd 7 9 rfl rfl))
    have V45 : Arv Z h35 bT k_bT .int (16 : Int32) ((.int t0) :: (.int t1) :: (tr.map Value.int)) (.int (0 : Int32)) := ((V13.other W32 (nd hnd 8 9 rfl rfl)).other W35 (nd hnd 8 9 rfl rfl))
    have V46 : Arv Z h35 nw k_nw .int (32 : Int32) (ns.map Value.int) (.int (0 : Int32)) := ((V14.other W32 (nd hnd 10 9 rfl rfl)).other W35 (nd hnd 10 9 rfl rfl))
    refine E_return cx st35 d16_66 rfl (by decide) (by decide) ?_
    exact ⟨(1 : Int32), (0 : Int32), Or.inr ⟨⟨rfl, rfl⟩, c16⟩, rfl, K35, ⟨X36, B37, HL38, ⟨_, V39⟩, ⟨_, V40⟩, ⟨_, V41⟩, ⟨_, V42⟩, ⟨_, V43⟩, ⟨_, V44⟩, ⟨_, V45⟩, ⟨_, V35p⟩, ⟨_, V46⟩⟩⟩
theorem d25_0 : decode prog_16_method_15_code 0 = .ok (.aload_n 0, 1) := by decide +kernel
theorem d25_1 : decode prog_16_method_15_code 1 = .ok (.getfield 42, 3) := by decide +kernel
theorem d25_4 : decode prog_16_method_15_code 4 = .ok (.aload_n 0, 1) := by decide +kernel
theorem d25_5 : decode prog_16_method_15_code 5 = .ok (.dup, 1) := by decide +kernel
theorem d25_6 : decode prog_16_method_15_code 6 = .ok (.getfield 79, 3) := by decide +kernel
theorem d25_9 : decode prog_16_method_15_code 9 = .ok (.iconst 1, 1) := by decide +kernel
theorem d25_10 : decode prog_16_method_15_code 10 = .ok (.isub, 1) := by decide +kernel
theorem d25_11 : decode prog_16_method_15_code 11 = .ok (.dup_x1, 1) := by decide +kernel
theorem d25_12 : decode prog_16_method_15_code 12 = .ok (.putfield 79, 3) := by decide +kernel
theorem d25_15 : decode prog_16_method_15_code 15 = .ok (.iaload, 1) := by decide +kernel
theorem d25_16 : decode prog_16_method_15_code 16 = .ok (.istore_n 1, 1) := by decide +kernel
theorem d25_17 : decode prog_16_method_15_code 17 = .ok (.iconst 0, 1) := by decide +kernel
theorem d25_18 : decode prog_16_method_15_code 18 = .ok (.istore_n 2, 1) := by decide +kernel
theorem d25_19 : decode prog_16_method_15_code 19 = .ok (.iload_n 1, 1) := by decide +kernel
theorem d25_20 : decode prog_16_method_15_code 20 = .ok (.istore_n 3, 1) := by decide +kernel
theorem d25_21 : decode prog_16_method_15_code 21 = .ok (.iload_n 2, 1) := by decide +kernel
theorem d25_22 : decode prog_16_method_15_code 22 = .ok (.istore 4, 2) := by decide +kernel
theorem d25_24 : decode prog_16_method_15_code 24 = .ok (.iconst 2, 1) := by decide +kernel
theorem d25_25 : decode prog_16_method_15_code 25 = .ok (.iload_n 2, 1) := by decide +kernel
theorem d25_26 : decode prog_16_method_15_code 26 = .ok (.imul, 1) := by decide +kernel
theorem d25_27 : decode prog_16_method_15_code 27 = .ok (.iconst 1, 1) := by decide +kernel
theorem d25_28 : decode prog_16_method_15_code 28 = .ok (.iadd, 1) := by decide +kernel
theorem d25_29 : decode prog_16_method_15_code 29 = .ok (.istore 5, 2) := by decide +kernel
theorem d25_31 : decode prog_16_method_15_code 31 = .ok (.iload 5, 2) := by decide +kernel
theorem d25_33 : decode prog_16_method_15_code 33 = .ok (.iconst 2, 1) := by decide +kernel
theorem d25_34 : decode prog_16_method_15_code 34 = .ok (.iload_n 2, 1) := by decide +kernel
theorem d25_35 : decode prog_16_method_15_code 35 = .ok (.imul, 1) := by decide +kernel
theorem d25_36 : decode prog_16_method_15_code 36 = .ok (.iconst 2, 1) := by decide +kernel
theorem d25_37 : decode prog_16_method_15_code 37 = .ok (.iadd, 1) := by decide +kernel
theorem d25_38 : decode prog_16_method_15_code 38 = .ok (.if_icmp .gt 45, 3) := by decide +kernel
theorem d25_41 : decode prog_16_method_15_code 41 = .ok (.iload 5, 2) := by decide +kernel
theorem d25_43 : decode prog_16_method_15_code 43 = .ok (.aload_n 0, 1) := by decide +kernel
theorem d25_44 : decode prog_16_method_15_code 44 = .ok (.getfield 79, 3) := by decide +kernel
theorem d25_47 : decode prog_16_method_15_code 47 = .ok (.if_icmp .ge 36, 3) := by decide +kernel
theorem d25_50 : decode prog_16_method_15_code 50 = .ok (.aload_n 0, 1) := by decide +kernel
theorem d25_51 : decode prog_16_method_15_code 51 = .ok (.aload_n 0, 1) := by decide +kernel
theorem d25_52 : decode prog_16_method_15_code 52 = .ok (.getfield 42, 3) := by decide +kernel
theorem d25_55 : decode prog_16_method_15_code 55 = .ok (.iload 5, 2) := by decide +kernel
theorem d25_57 : decode prog_16_method_15_code 57 = .ok (.iaload, 1) := by decide +kernel
theorem d25_58 : decode prog_16_method_15_code 58 = .ok (.iload_n 3, 1) := by decide +kernel
theorem d25_59 : decode prog_16_method_15_code 59 = .ok (.invokevirtual 127, 3) := by decide +kernel
theorem d25_62 : decode prog_16_method_15_code 62 = .ok (.ifCond .eq 15, 3) := by decide +kernel
theorem d25_65 : decode prog_16_method_15_code 65 = .ok (.aload_n 0, 1) := by decide +kernel
theorem d25_66 : decode prog_16_method_15_code 66 = .ok (.getfield 42, 3) := by decide +kernel
theorem d25_69 : decode prog_16_method_15_code 69 = .ok (.iload 5, 2) := by decide +kernel
theorem d25_71 : decode prog_16_method_15_code 71 = .ok (.iaload, 1) := by decide +kernel
theorem d25_72 : decode prog_16_method_15_code 72 = .ok (.istore_n 3, 1) := by decide +kernel
theorem d25_73 : decode prog_16_method_15_code 73 = .ok (.iload 5, 2) := by decide +kernel
theorem d25_75 : decode prog_16_method_15_code 75 = .ok (.istore 4, 2) := by decide +kernel
theorem d25_77 : decode prog_16_method_15_code 77 = .ok (.iinc 5 1, 3) := by decide +kernel
theorem d25_80 : decode prog_16_method_15_code 80 = .ok (.goto (-49), 3) := by decide +kernel
theorem d25_83 : decode prog_16_method_15_code 83 = .ok (.aload_n 0, 1) := by decide +kernel
theorem d25_84 : decode prog_16_method_15_code 84 = .ok (.getfield 42, 3) := by decide +kernel
theorem d25_87 : decode prog_16_method_15_code 87 = .ok (.iload_n 2, 1) := by decide +kernel
theorem d25_88 : decode prog_16_method_15_code 88 = .ok (.iload_n 3, 1) := by decide +kernel
theorem d25_89 : decode prog_16_method_15_code 89 = .ok (.iastore, 1) := by decide +kernel
theorem d25_90 : decode prog_16_method_15_code 90 = .ok (.iload 4, 2) := by decide +kernel
theorem d25_92 : decode prog_16_method_15_code 92 = .ok (.iload_n 2, 1) := by decide +kernel
theorem d25_93 : decode prog_16_method_15_code 93 = .ok (.if_icmp .ne 4, 3) := by decide +kernel
theorem d25_96 : decode prog_16_method_15_code 96 = .ok (.return_, 1) := by decide +kernel
theorem d25_97 : decode prog_16_method_15_code 97 = .ok (.iload 4, 2) := by decide +kernel
theorem d25_99 : decode prog_16_method_15_code 99 = .ok (.istore_n 2, 1) := by decide +kernel
theorem d25_100 : decode prog_16_method_15_code 100 = .ok (.goto (-81), 3) := by decide +kernel
theorem ef_heapPop1 (m : MethodId) (x0 : Addr) : entryFrame m #[(.ref x0)] 6 = mkF m 0 #[.val (.ref x0), .unset, .unset, .unset, .unset, .unset] [] := by first | (simp [entryFrame, mkF, argsToLocals, Value.category]; done) | rfl
set_option maxRecDepth 65536 in
set_option maxHeartbeats 40000000 in
theorem rmheapPop1 (l : Launch) (Z : State) (a0 : Array Value) (hw : ∀ d ∈ tables_1, d.before a0 Z = true) (o : Addr) (cl : Addr) (cs : Addr) (c0 : Addr) (bF : Addr) (bG : Addr) (bO : Addr) (bH : Addr) (bT : Addr) (hP : Addr) (nw : Addr) (h0 : Heap) (n0 : Nat) (Z0 : n0 ≤ h0.size) (gt : Int32) (fe : Int32) (eu : Int32) (sz : Int32) (fb : Int32) (bu : Int32) (sta : Int64) (e0 : Int64) (e1 : Int64) (er : List Int64) (f0 : Int64) (f1 : Int64) (fr : List Int64) (g0 : Int64) (g1 : Int64) (gr : List Int64) (q0 : Int64) (q1 : Int64) (qr : List Int64) (d0 : Int32) (d1 : Int32) (dr : List Int32) (t0 : Int32) (t1 : Int32) (tr : List Int32) (p0 : Int32) (p1 : Int32) (pr : List Int32) (ns : List Int32) (hnd : [o, cl, cs, c0, bF, bG, bO, bH, bT, hP, nw].Nodup) (hge : ∀ a ∈ [o, cl, cs, c0, bF, bG, bO, bH, bT, hP, nw], n0 ≤ a) (H0 : Wd Z h0 o cl cs c0 bF bG bO bH bT hP nw gt fe eu sz fb bu (1 : Int32) sta e0 e1 er f0 f1 fr g0 g1 gr q0 q1 qr d0 d1 dr t0 t1 tr p0 p1 pr ns)  :
    Con l Z (⟨"com/example/flat_planner/flatplanner/OpenList", "heapPopFirst", "()V"⟩ : MethodName) prog_16_method_15_code 6 none ({ frames := 0, cells := 0, slots := 0, locals := 0 } : Room) #[(.ref o)] h0 n0 (fun v h => v = none ∧ Keep h0 h [o, c0, bF, bG, bO, bH, bT, hP, nw] ∧ Wd Z h o cl cs c0 bF bG bO bH bT hP nw gt fe eu sz fb bu (0 : Int32) sta e0 e1 er f0 f1 fr g0 g1 gr q0 q1 qr d0 d1 dr t0 t1 tr p0 p1 pr ns) := by
  refine Con.of (own := "com/example/flat_planner/flatplanner/OpenList") (name := "heapPopFirst") (plainFor_of_name pn_3) (fun m => ef_heapPop1 m o) rfl rfl ?_
  intro p e s m below meth c T F S cx st
  have g_o : n0 ≤ o := hge o (by simp)
  have g_c0 : n0 ≤ c0 := hge c0 (by simp)
  have g_bF : n0 ≤ bF := hge bF (by simp)
  have g_bG : n0 ≤ bG := hge bG (by simp)
  have g_bO : n0 ≤ bO := hge bO (by simp)
  have g_bH : n0 ≤ bH := hge bH (by simp)
  have g_bT : n0 ≤ bT := hge bT (by simp)
  have g_hP : n0 ≤ hP := hge hP (by simp)
  have g_nw : n0 ≤ nw := hge nw (by simp)
  obtain ⟨X_o, B_o, HL, ⟨k_cs, V_cs⟩, ⟨k_c0, V_c0⟩, ⟨k_bF, V_bF⟩, ⟨k_bG, V_bG⟩, ⟨k_bO, V_bO⟩, ⟨k_bH, V_bH⟩, ⟨k_bT, V_bT⟩, ⟨k_hP, V_hP⟩, ⟨k_nw, V_nw⟩⟩ := H0
  refine E_aloadN (pc' := 1) cx st d25_0 rfl rfl rfl ?_
  refine E_getfield (pc' := 4) (v := (.ref hP)) cx st (wd hw 58 rfl) (B_o.at 13 (by decide) rfl rfl) d25_1 rfl ?_
  intro T1 st1
  refine E_aloadN (pc' := 5) cx st1 d25_4 rfl rfl rfl ?_
  refine E_dup (pc' := 6) cx st1 d25_5 rfl rfl ?_
  refine E_getfield (pc' := 9) (v := (.int (1 : Int32))) cx st1 (wd hw 116 rfl) (B_o.at 14 (by decide) rfl rfl) d25_6 rfl ?_
  intro T2 st2
  refine E_iconst (pc' := 10) cx st2 (1 : Int32) d25_9 rfl rfl ?_
  refine E_isub (pc' := 11) cx st2 d25_10 rfl ?_
  rw [show ((1 : Int32) - (1 : Int32)) = (0 : Int32) from by decide]
  refine E_dup_x1 (pc' := 12) cx st2 d25_11 rfl rfl rfl ?_
  refine E_putfield (pc' := 15) (ty := .int) cx st2 (wd hw 116 rfl) (B_o.at 14 (by decide) rfl rfl) X_o (Or.inl (wd hw 117 rfl)) (wd hw 1 rfl) (by decide) rfl rfl g_o d25_12 rfl ?_
  intro T3 h3 st3 W3
  have Z3 : n0 ≤ h3.size := Nat.le_trans Z0 (Keep.of_wr W3).1
  have K3 : Keep h0 h3 [o, c0, bF, bG, bO, bH, bT, hP, nw] := (Keep.refl h0 [o, c0, bF, bG, bO, bH, bT, hP, nw]).wr W3 (mi 0 rfl)
  have B3w : OL Z h3 o [(.int gt), (.ref cl), (.int fe), (.int eu), (.int sz), (.ref bF), (.ref bG), (.ref bO), (.ref bH), (.ref bT), (.int fb), (.int bu), (.long sta), (.ref hP), (.int (0 : Int32)), (.ref nw)] := B_o.wr hw 14 (by decide) rfl W3 (Nat.le_of_ble_eq_true rfl)
  have V4 : Arv Z h3 hP k_hP .int (16 : Int32) ((.int p0) :: (.int p1) :: (pr.map Value.int)) (.int (0 : Int32)) := (V_hP.other W3 (nd hnd 9 0 rfl rfl))
  refine E_iaload (pc' := 16) (x := p0) cx st3 V4 ⟨by decide, by decide⟩ rfl d25_15 rfl ?_
  refine E_istoreN (pc' := 17) (L' := #[.val (.ref o), .val (.int p0), .unset, .unset, .unset, .unset]) cx st3 d25_16 rfl rfl ?_
  refine E_iconst (pc' := 18) cx st3 (0 : Int32) d25_17 rfl rfl ?_
  refine E_istoreN (pc' := 19) (L' := #[.val (.ref o), .val (.int p0), .val (.int (0 : Int32)), .unset, .unset, .unset]) cx st3 d25_18 rfl rfl ?_
  refine E_iloadN (pc' := 20) cx st3 d25_19 rfl rfl ?_
  refine E_istoreN (pc' := 21) (L' := #[.val (.ref o), .val (.int p0), .val (.int (0 : Int32)), .val (.int p0), .unset, .unset]) cx st3 d25_20 rfl rfl ?_
  refine E_iloadN (pc' := 22) cx st3 d25_21 rfl rfl ?_
  refine E_istore (pc' := 24) (L' := #[.val (.ref o), .val (.int p0), .val (.int (0 : Int32)), .val (.int p0), .val (.int (0 : Int32)), .unset]) cx st3 d25_22 rfl rfl ?_
  refine E_iconst (pc' := 25) cx st3 (2 : Int32) d25_24 rfl rfl ?_
  refine E_iloadN (pc' := 26) cx st3 d25_25 rfl rfl ?_
  refine E_imul (pc' := 27) cx st3 d25_26 rfl ?_
  rw [show ((2 : Int32) * (0 : Int32)) = (0 : Int32) from by decide]
  refine E_iconst (pc' := 28) cx st3 (1 : Int32) d25_27 rfl rfl ?_
  refine E_iadd (pc' := 29) cx st3 d25_28 rfl ?_
  rw [show ((0 : Int32) + (1 : Int32)) = (1 : Int32) from by decide]
  refine E_istore (pc' := 31) (L' := #[.val (.ref o), .val (.int p0), .val (.int (0 : Int32)), .val (.int p0), .val (.int (0 : Int32)), .val (.int (1 : Int32))]) cx st3 d25_29 rfl rfl ?_
  refine E_iload (pc' := 33) cx st3 d25_31 rfl rfl ?_
  refine E_iconst (pc' := 34) cx st3 (2 : Int32) d25_33 rfl rfl ?_
  refine E_iloadN (pc' := 35) cx st3 d25_34 rfl rfl ?_
  refine E_imul (pc' := 36) cx st3 d25_35 rfl ?_
  rw [show ((2 : Int32) * (0 : Int32)) = (0 : Int32) from by decide]
  refine E_iconst (pc' := 37) cx st3 (2 : Int32) d25_36 rfl rfl ?_
  refine E_iadd (pc' := 38) cx st3 d25_37 rfl ?_
  rw [show ((0 : Int32) + (2 : Int32)) = (2 : Int32) from by decide]
  refine E_icmp_gtN (pc' := 41) cx st3 d25_38 rfl (by decide) ?_
  refine E_iload (pc' := 43) cx st3 d25_41 rfl rfl ?_
  refine E_aloadN (pc' := 44) cx st3 d25_43 rfl rfl rfl ?_
  refine E_getfield (pc' := 47) (v := (.int (0 : Int32))) cx st3 (wd hw 116 rfl) (B3w.at 14 (by decide) rfl rfl) d25_44 rfl ?_
  intro T5 st5
  refine E_icmp_geY (pc' := 83) cx st5 d25_47 (by decide) (by decide) (by decide) ?_
  refine E_aloadN (pc' := 84) cx st5 d25_83 rfl rfl rfl ?_
  refine E_getfield (pc' := 87) (v := (.ref hP)) cx st5 (wd hw 58 rfl) (B3w.at 13 (by decide) rfl rfl) d25_84 rfl ?_
  intro T6 st6
  refine E_iloadN (pc' := 88) cx st6 d25_87 rfl rfl ?_
  refine E_iloadN (pc' := 89) cx st6 d25_88 rfl rfl ?_
  refine E_iastore (pc' := 90) (i := 0) cx st6 V4 ⟨by decide, by decide⟩ rfl (Nat.zero_lt_succ _) g_hP d25_89 rfl ?_
  intro T7 h7 st7 W7 V7
  have Z7 : n0 ≤ h7.size := Nat.le_trans Z3 (Keep.of_wr W7).1
  have K7 : Keep h0 h7 [o, c0, bF, bG, bO, bH, bT, hP, nw] := K3.wr W7 (mi 7 rfl)
  have V7p : Arv Z h7 hP k_hP .int (16 : Int32) ((.int p0) :: (.int p1) :: (pr.map Value.int)) (.int (0 : Int32)) := V7
  refine E_iload (pc' := 92) cx st7 d25_90 rfl rfl ?_
  refine E_iloadN (pc' := 93) cx st7 d25_92 rfl rfl ?_
  refine E_icmp_neN (pc' := 96) cx st7 d25_93 rfl (by decide) ?_
  have X8 : Exa Z h7 o "com/example/flat_planner/flatplanner/OpenList" := ((X_o.wr W3).wr W7)
  have B9 : OL Z h7 o [(.int gt), (.ref cl), (.int fe), (.int eu), (.int sz), (.ref bF), (.ref bG), (.ref bO), (.ref bH), (.ref bT), (.int fb), (.int bu), (.long sta), (.ref hP), (.int (0 : Int32)), (.ref nw)] := (B3w.other W7 (nd hnd 0 9 rfl rfl))
  have HL10 : LCF Z h7 cl cs := ((HL.other W3 (nd hnd 1 0 rfl rfl)).other W7 (nd hnd 1 9 rfl rfl))
  have V11 : Arv Z h7 cs k_cs (.array .long) (1 : Int32) [(.ref c0)] .null := ((V_cs.other W3 (nd hnd 2 0 rfl rfl)).other W7 (nd hnd 2 9 rfl rfl))
  have V12 : Arv Z h7 c0 k_c0 .long (16 : Int32) ((.long e0) :: (.long e1) :: (er.map Value.long)) (.long (0 : Int64)) := ((V_c0.other W3 (nd hnd 3 0 rfl rfl)).other W7 (nd hnd 3 9 rfl rfl))
  have V13 : Arv Z h7 bF k_bF .long (16 : Int32) ((.long f0) :: (.long f1) :: (fr.map Value.long)) (.long (0 : Int64)) := ((V_bF.other W3 (nd hnd 4 0 rfl rfl)).other W7 (nd hnd 4 9 rfl rfl))
  have V14 : Arv Z h7 bG k_bG .long (16 : Int32) ((.long g0) :: (.long g1) :: (gr.map Value.long)) (.long (0 : Int64)) := ((V_bG.other W3 (nd hnd 5 0 rfl rfl)).other W7 (nd hnd 5 9 rfl rfl))
  have V15 : Arv Z h7 bO k_bO .long (16 : Int32) ((.long q0) :: (.long q1) :: (qr.map Value.long)) (.long (0 : Int64)) := ((V_bO.other W3 (nd hnd 6 0 rfl rfl)).other W7 (nd hnd 6 9 rfl rfl))
  have V16 : Arv Z h7 bH k_bH .int (16 : Int32) ((.int d0) :: (.int d1) :: (dr.map Value.int)) (.int (0 : Int32)) := ((V_bH.other W3 (nd hnd 7 0 rfl rfl)).other W7 (nd hnd 7 9 rfl rfl))
  have V17 : Arv Z h7 bT k_bT .int (16 : Int32) ((.int t0) :: (.int t1) :: (tr.map Value.int)) (.int (0 : Int32)) := ((V_bT.other W3 (nd hnd 8 0 rfl rfl)).other W7 (nd hnd 8 9 rfl rfl))
  have V18 : Arv Z h7 nw k_nw .int (32 : Int32) (ns.map Value.int) (.int (0 : Int32)) := ((V_nw.other W3 (nd hnd 10 0 rfl rfl)).other W7 (nd hnd 10 9 rfl rfl))
  refine E_return cx st7 d25_96 rfl (by decide) (by decide) ?_
  exact ⟨rfl, K7, ⟨X8, B9, HL10, ⟨_, V11⟩, ⟨_, V12⟩, ⟨_, V13⟩, ⟨_, V14⟩, ⟨_, V15⟩, ⟨_, V16⟩, ⟨_, V17⟩, ⟨_, V7p⟩, ⟨_, V18⟩⟩⟩
theorem ef_heapPop2 (m : MethodId) (x0 : Addr) : entryFrame m #[(.ref x0)] 6 = mkF m 0 #[.val (.ref x0), .unset, .unset, .unset, .unset, .unset] [] := by first | (simp [entryFrame, mkF, argsToLocals, Value.category]; done) | rfl
set_option maxRecDepth 65536 in
set_option maxHeartbeats 40000000 in
theorem rmheapPop2 (l : Launch) (Z : State) (a0 : Array Value) (hw : ∀ d ∈ tables_1, d.before a0 Z = true) (o : Addr) (cl : Addr) (cs : Addr) (c0 : Addr) (bF : Addr) (bG : Addr) (bO : Addr) (bH : Addr) (bT : Addr) (hP : Addr) (nw : Addr) (h0 : Heap) (n0 : Nat) (Z0 : n0 ≤ h0.size) (gt : Int32) (fe : Int32) (eu : Int32) (sz : Int32) (fb : Int32) (bu : Int32) (sta : Int64) (e0 : Int64) (e1 : Int64) (er : List Int64) (f0 : Int64) (f1 : Int64) (fr : List Int64) (g0 : Int64) (g1 : Int64) (gr : List Int64) (q0 : Int64) (q1 : Int64) (qr : List Int64) (d0 : Int32) (d1 : Int32) (dr : List Int32) (t0 : Int32) (t1 : Int32) (tr : List Int32) (p0 : Int32) (p1 : Int32) (pr : List Int32) (ns : List Int32) (hnd : [o, cl, cs, c0, bF, bG, bO, bH, bT, hP, nw].Nodup) (hge : ∀ a ∈ [o, cl, cs, c0, bF, bG, bO, bH, bT, hP, nw], n0 ≤ a) (H0 : Wd Z h0 o cl cs c0 bF bG bO bH bT hP nw gt fe eu sz fb bu (2 : Int32) sta e0 e1 er f0 f1 fr g0 g1 gr q0 q1 qr d0 d1 dr t0 t1 tr p0 p1 pr ns)  :
    Con l Z (⟨"com/example/flat_planner/flatplanner/OpenList", "heapPopFirst", "()V"⟩ : MethodName) prog_16_method_15_code 6 none ({ frames := 0, cells := 0, slots := 0, locals := 0 } : Room) #[(.ref o)] h0 n0 (fun v h => v = none ∧ Keep h0 h [o, c0, bF, bG, bO, bH, bT, hP, nw] ∧ Wd Z h o cl cs c0 bF bG bO bH bT hP nw gt fe eu sz fb bu (1 : Int32) sta e0 e1 er f0 f1 fr g0 g1 gr q0 q1 qr d0 d1 dr t0 t1 tr p1 p1 pr ns) := by
  refine Con.of (own := "com/example/flat_planner/flatplanner/OpenList") (name := "heapPopFirst") (plainFor_of_name pn_3) (fun m => ef_heapPop2 m o) rfl rfl ?_
  intro p e s m below meth c T F S cx st
  have g_o : n0 ≤ o := hge o (by simp)
  have g_c0 : n0 ≤ c0 := hge c0 (by simp)
  have g_bF : n0 ≤ bF := hge bF (by simp)
  have g_bG : n0 ≤ bG := hge bG (by simp)
  have g_bO : n0 ≤ bO := hge bO (by simp)
  have g_bH : n0 ≤ bH := hge bH (by simp)
  have g_bT : n0 ≤ bT := hge bT (by simp)
  have g_hP : n0 ≤ hP := hge hP (by simp)
  have g_nw : n0 ≤ nw := hge nw (by simp)
  obtain ⟨X_o, B_o, HL, ⟨k_cs, V_cs⟩, ⟨k_c0, V_c0⟩, ⟨k_bF, V_bF⟩, ⟨k_bG, V_bG⟩, ⟨k_bO, V_bO⟩, ⟨k_bH, V_bH⟩, ⟨k_bT, V_bT⟩, ⟨k_hP, V_hP⟩, ⟨k_nw, V_nw⟩⟩ := H0
  refine E_aloadN (pc' := 1) cx st d25_0 rfl rfl rfl ?_
  refine E_getfield (pc' := 4) (v := (.ref hP)) cx st (wd hw 58 rfl) (B_o.at 13 (by decide) rfl rfl) d25_1 rfl ?_
  intro T1 st1
  refine E_aloadN (pc' := 5) cx st1 d25_4 rfl rfl rfl ?_
  refine E_dup (pc' := 6) cx st1 d25_5 rfl rfl ?_
  refine E_getfield (pc' := 9) (v := (.int (2 : Int32))) cx st1 (wd hw 116 rfl) (B_o.at 14 (by decide) rfl rfl) d25_6 rfl ?_
  intro T2 st2
  refine E_iconst (pc' := 10) cx st2 (1 : Int32) d25_9 rfl rfl ?_
  refine E_isub (pc' := 11) cx st2 d25_10 rfl ?_
  rw [show ((2 : Int32) - (1 : Int32)) = (1 : Int32) from by decide]
  refine E_dup_x1 (pc' := 12) cx st2 d25_11 rfl rfl rfl ?_
  refine E_putfield (pc' := 15) (ty := .int) cx st2 (wd hw 116 rfl) (B_o.at 14 (by decide) rfl rfl) X_o (Or.inl (wd hw 117 rfl)) (wd hw 1 rfl) (by decide) rfl rfl g_o d25_12 rfl ?_
  intro T3 h3 st3 W3
  have Z3 : n0 ≤ h3.size := Nat.le_trans Z0 (Keep.of_wr W3).1
  have K3 : Keep h0 h3 [o, c0, bF, bG, bO, bH, bT, hP, nw] := (Keep.refl h0 [o, c0, bF, bG, bO, bH, bT, hP, nw]).wr W3 (mi 0 rfl)
  have B3w : OL Z h3 o [(.int gt), (.ref cl), (.int fe), (.int eu), (.int sz), (.ref bF), (.ref bG), (.ref bO), (.ref bH), (.ref bT), (.int fb), (.int bu), (.long sta), (.ref hP), (.int (1 : Int32)), (.ref nw)] := B_o.wr hw 14 (by decide) rfl W3 (Nat.le_of_ble_eq_true rfl)
  have V4 : Arv Z h3 hP k_hP .int (16 : Int32) ((.int p0) :: (.int p1) :: (pr.map Value.int)) (.int (0 : Int32)) := (V_hP.other W3 (nd hnd 9 0 rfl rfl))
  refine E_iaload (pc' := 16) (x := p1) cx st3 V4 ⟨by decide, by decide⟩ rfl d25_15 rfl ?_
  refine E_istoreN (pc' := 17) (L' := #[.val (.ref o), .val (.int p1), .unset, .unset, .unset, .unset]) cx st3 d25_16 rfl rfl ?_
  refine E_iconst (pc' := 18) cx st3 (0 : Int32) d25_17 rfl rfl ?_
  refine E_istoreN (pc' := 19) (L' := #[.val (.ref o), .val (.int p1), .val (.int (0 : Int32)), .unset, .unset, .unset]) cx st3 d25_18 rfl rfl ?_
  refine E_iloadN (pc' := 20) cx st3 d25_19 rfl rfl ?_
  refine E_istoreN (pc' := 21) (L' := #[.val (.ref o), .val (.int p1), .val (.int (0 : Int32)), .val (.int p1), .unset, .unset]) cx st3 d25_20 rfl rfl ?_
  refine E_iloadN (pc' := 22) cx st3 d25_21 rfl rfl ?_
  refine E_istore (pc' := 24) (L' := #[.val (.ref o), .val (.int p1), .val (.int (0 : Int32)), .val (.int p1), .val (.int (0 : Int32)), .unset]) cx st3 d25_22 rfl rfl ?_
  refine E_iconst (pc' := 25) cx st3 (2 : Int32) d25_24 rfl rfl ?_
  refine E_iloadN (pc' := 26) cx st3 d25_25 rfl rfl ?_
  refine E_imul (pc' := 27) cx st3 d25_26 rfl ?_
  rw [show ((2 : Int32) * (0 : Int32)) = (0 : Int32) from by decide]
  refine E_iconst (pc' := 28) cx st3 (1 : Int32) d25_27 rfl rfl ?_
  refine E_iadd (pc' := 29) cx st3 d25_28 rfl ?_
  rw [show ((0 : Int32) + (1 : Int32)) = (1 : Int32) from by decide]
  refine E_istore (pc' := 31) (L' := #[.val (.ref o), .val (.int p1), .val (.int (0 : Int32)), .val (.int p1), .val (.int (0 : Int32)), .val (.int (1 : Int32))]) cx st3 d25_29 rfl rfl ?_
  refine E_iload (pc' := 33) cx st3 d25_31 rfl rfl ?_
  refine E_iconst (pc' := 34) cx st3 (2 : Int32) d25_33 rfl rfl ?_
  refine E_iloadN (pc' := 35) cx st3 d25_34 rfl rfl ?_
  refine E_imul (pc' := 36) cx st3 d25_35 rfl ?_
  rw [show ((2 : Int32) * (0 : Int32)) = (0 : Int32) from by decide]
  refine E_iconst (pc' := 37) cx st3 (2 : Int32) d25_36 rfl rfl ?_
  refine E_iadd (pc' := 38) cx st3 d25_37 rfl ?_
  rw [show ((0 : Int32) + (2 : Int32)) = (2 : Int32) from by decide]
  refine E_icmp_gtN (pc' := 41) cx st3 d25_38 rfl (by decide) ?_
  refine E_iload (pc' := 43) cx st3 d25_41 rfl rfl ?_
  refine E_aloadN (pc' := 44) cx st3 d25_43 rfl rfl rfl ?_
  refine E_getfield (pc' := 47) (v := (.int (1 : Int32))) cx st3 (wd hw 116 rfl) (B3w.at 14 (by decide) rfl rfl) d25_44 rfl ?_
  intro T5 st5
  refine E_icmp_geY (pc' := 83) cx st5 d25_47 (by decide) (by decide) (by decide) ?_
  refine E_aloadN (pc' := 84) cx st5 d25_83 rfl rfl rfl ?_
  refine E_getfield (pc' := 87) (v := (.ref hP)) cx st5 (wd hw 58 rfl) (B3w.at 13 (by decide) rfl rfl) d25_84 rfl ?_
  intro T6 st6
  refine E_iloadN (pc' := 88) cx st6 d25_87 rfl rfl ?_
  refine E_iloadN (pc' := 89) cx st6 d25_88 rfl rfl ?_
  refine E_iastore (pc' := 90) (i := 0) cx st6 V4 ⟨by decide, by decide⟩ rfl (Nat.zero_lt_succ _) g_hP d25_89 rfl ?_
  intro T7 h7 st7 W7 V7
  have Z7 : n0 ≤ h7.size := Nat.le_trans Z3 (Keep.of_wr W7).1
  have K7 : Keep h0 h7 [o, c0, bF, bG, bO, bH, bT, hP, nw] := K3.wr W7 (mi 7 rfl)
  have V7p : Arv Z h7 hP k_hP .int (16 : Int32) ((.int p1) :: (.int p1) :: (pr.map Value.int)) (.int (0 : Int32)) := V7
  refine E_iload (pc' := 92) cx st7 d25_90 rfl rfl ?_
  refine E_iloadN (pc' := 93) cx st7 d25_92 rfl rfl ?_
  refine E_icmp_neN (pc' := 96) cx st7 d25_93 rfl (by decide) ?_
  have X8 : Exa Z h7 o "com/example/flat_planner/flatplanner/OpenList" := ((X_o.wr W3).wr W7)
  have B9 : OL Z h7 o [(.int gt), (.ref cl), (.int fe), (.int eu), (.int sz), (.ref bF), (.ref bG), (.ref bO), (.ref bH), (.ref bT), (.int fb), (.int bu), (.long sta), (.ref hP), (.int (1 : Int32)), (.ref nw)] := (B3w.other W7 (nd hnd 0 9 rfl rfl))
  have HL10 : LCF Z h7 cl cs := ((HL.other W3 (nd hnd 1 0 rfl rfl)).other W7 (nd hnd 1 9 rfl rfl))
  have V11 : Arv Z h7 cs k_cs (.array .long) (1 : Int32) [(.ref c0)] .null := ((V_cs.other W3 (nd hnd 2 0 rfl rfl)).other W7 (nd hnd 2 9 rfl rfl))
  have V12 : Arv Z h7 c0 k_c0 .long (16 : Int32) ((.long e0) :: (.long e1) :: (er.map Value.long)) (.long (0 : Int64)) := ((V_c0.other W3 (nd hnd 3 0 rfl rfl)).other W7 (nd hnd 3 9 rfl rfl))
  have V13 : Arv Z h7 bF k_bF .long (16 : Int32) ((.long f0) :: (.long f1) :: (fr.map Value.long)) (.long (0 : Int64)) := ((V_bF.other W3 (nd hnd 4 0 rfl rfl)).other W7 (nd hnd 4 9 rfl rfl))
  have V14 : Arv Z h7 bG k_bG .long (16 : Int32) ((.long g0) :: (.long g1) :: (gr.map Value.long)) (.long (0 : Int64)) := ((V_bG.other W3 (nd hnd 5 0 rfl rfl)).other W7 (nd hnd 5 9 rfl rfl))
  have V15 : Arv Z h7 bO k_bO .long (16 : Int32) ((.long q0) :: (.long q1) :: (qr.map Value.long)) (.long (0 : Int64)) := ((V_bO.other W3 (nd hnd 6 0 rfl rfl)).other W7 (nd hnd 6 9 rfl rfl))
  have V16 : Arv Z h7 bH k_bH .int (16 : Int32) ((.int d0) :: (.int d1) :: (dr.map Value.int)) (.int (0 : Int32)) := ((V_bH.other W3 (nd hnd 7 0 rfl rfl)).other W7 (nd hnd 7 9 rfl rfl))
  have V17 : Arv Z h7 bT k_bT .int (16 : Int32) ((.int t0) :: (.int t1) :: (tr.map Value.int)) (.int (0 : Int32)) := ((V_bT.other W3 (nd hnd 8 0 rfl rfl)).other W7 (nd hnd 8 9 rfl rfl))
  have V18 : Arv Z h7 nw k_nw .int (32 : Int32) (ns.map Value.int) (.int (0 : Int32)) := ((V_nw.other W3 (nd hnd 10 0 rfl rfl)).other W7 (nd hnd 10 9 rfl rfl))
  refine E_return cx st7 d25_96 rfl (by decide) (by decide) ?_
  exact ⟨rfl, K7, ⟨X8, B9, HL10, ⟨_, V11⟩, ⟨_, V12⟩, ⟨_, V13⟩, ⟨_, V14⟩, ⟨_, V15⟩, ⟨_, V16⟩, ⟨_, V17⟩, ⟨_, V7p⟩, ⟨_, V18⟩⟩⟩
theorem d8_0 : decode prog_16_method_3_code 0 = .ok (.aload_n 0, 1) := by decide +kernel
theorem d8_1 : decode prog_16_method_3_code 1 = .ok (.iload_n 1, 1) := by decide +kernel
theorem d8_2 : decode prog_16_method_3_code 2 = .ok (.invokevirtual 61, 3) := by decide +kernel
theorem d8_5 : decode prog_16_method_3_code 5 = .ok (.istore 6, 2) := by decide +kernel
theorem d8_7 : decode prog_16_method_3_code 7 = .ok (.aload_n 0, 1) := by decide +kernel
theorem d8_8 : decode prog_16_method_3_code 8 = .ok (.getfield 45, 3) := by decide +kernel
theorem d8_11 : decode prog_16_method_3_code 11 = .ok (.aload_n 0, 1) := by decide +kernel
theorem d8_12 : decode prog_16_method_3_code 12 = .ok (.lload_n 2, 1) := by decide +kernel
theorem d8_13 : decode prog_16_method_3_code 13 = .ok (.lload 4, 2) := by decide +kernel
theorem d8_15 : decode prog_16_method_3_code 15 = .ok (.invokevirtual 65, 3) := by decide +kernel
theorem d8_18 : decode prog_16_method_3_code 18 = .ok (.iaload, 1) := by decide +kernel
theorem d8_19 : decode prog_16_method_3_code 19 = .ok (.istore 7, 2) := by decide +kernel
theorem d8_21 : decode prog_16_method_3_code 21 = .ok (.iload 7, 2) := by decide +kernel
theorem d8_23 : decode prog_16_method_3_code 23 = .ok (.iconst (-1), 1) := by decide +kernel
theorem d8_24 : decode prog_16_method_3_code 24 = .ok (.if_icmp .eq 64, 3) := by decide +kernel
theorem d8_27 : decode prog_16_method_3_code 27 = .ok (.aload_n 0, 1) := by decide +kernel
theorem d8_28 : decode prog_16_method_3_code 28 = .ok (.getfield 32, 3) := by decide +kernel
theorem d8_31 : decode prog_16_method_3_code 31 = .ok (.iload 7, 2) := by decide +kernel
theorem d8_33 : decode prog_16_method_3_code 33 = .ok (.iaload, 1) := by decide +kernel
theorem d8_34 : decode prog_16_method_3_code 34 = .ok (.iconst (-1), 1) := by decide +kernel
theorem d8_35 : decode prog_16_method_3_code 35 = .ok (.if_icmp .eq 53, 3) := by decide +kernel
theorem d8_38 : decode prog_16_method_3_code 38 = .ok (.aload_n 0, 1) := by decide +kernel
theorem d8_39 : decode prog_16_method_3_code 39 = .ok (.getfield 22, 3) := by decide +kernel
theorem d8_42 : decode prog_16_method_3_code 42 = .ok (.iload 7, 2) := by decide +kernel
theorem d8_44 : decode prog_16_method_3_code 44 = .ok (.laload, 1) := by decide +kernel
theorem d8_45 : decode prog_16_method_3_code 45 = .ok (.lload_n 2, 1) := by decide +kernel
theorem d8_46 : decode prog_16_method_3_code 46 = .ok (.lcmp, 1) := by decide +kernel
theorem d8_47 : decode prog_16_method_3_code 47 = .ok (.ifCond .ne 41, 3) := by decide +kernel
theorem d8_50 : decode prog_16_method_3_code 50 = .ok (.aload_n 0, 1) := by decide +kernel
theorem d8_51 : decode prog_16_method_3_code 51 = .ok (.getfield 26, 3) := by decide +kernel
theorem d8_54 : decode prog_16_method_3_code 54 = .ok (.iload 7, 2) := by decide +kernel
theorem d8_56 : decode prog_16_method_3_code 56 = .ok (.laload, 1) := by decide +kernel
theorem d8_57 : decode prog_16_method_3_code 57 = .ok (.lload 4, 2) := by decide +kernel
theorem d8_59 : decode prog_16_method_3_code 59 = .ok (.lcmp, 1) := by decide +kernel
theorem d8_60 : decode prog_16_method_3_code 60 = .ok (.ifCond .ne 28, 3) := by decide +kernel
theorem d8_63 : decode prog_16_method_3_code 63 = .ok (.aload_n 0, 1) := by decide +kernel
theorem d8_64 : decode prog_16_method_3_code 64 = .ok (.aload_n 0, 1) := by decide +kernel
theorem d8_65 : decode prog_16_method_3_code 65 = .ok (.getfield 36, 3) := by decide +kernel
theorem d8_68 : decode prog_16_method_3_code 68 = .ok (.iload 7, 2) := by decide +kernel
theorem d8_70 : decode prog_16_method_3_code 70 = .ok (.iaload, 1) := by decide +kernel
theorem d8_71 : decode prog_16_method_3_code 71 = .ok (.iload 6, 2) := by decide +kernel
theorem d8_73 : decode prog_16_method_3_code 73 = .ok (.invokevirtual 69, 3) := by decide +kernel
theorem d8_76 : decode prog_16_method_3_code 76 = .ok (.aload_n 0, 1) := by decide +kernel
theorem d8_77 : decode prog_16_method_3_code 77 = .ok (.getfield 36, 3) := by decide +kernel
theorem d8_80 : decode prog_16_method_3_code 80 = .ok (.iload 7, 2) := by decide +kernel
theorem d8_82 : decode prog_16_method_3_code 82 = .ok (.iload 6, 2) := by decide +kernel
theorem d8_84 : decode prog_16_method_3_code 84 = .ok (.iastore, 1) := by decide +kernel
theorem d8_85 : decode prog_16_method_3_code 85 = .ok (.goto 50, 3) := by decide +kernel
theorem d8_88 : decode prog_16_method_3_code 88 = .ok (.aload_n 0, 1) := by decide +kernel
theorem d8_89 : decode prog_16_method_3_code 89 = .ok (.lload_n 2, 1) := by decide +kernel
theorem d8_90 : decode prog_16_method_3_code 90 = .ok (.lload 4, 2) := by decide +kernel
theorem d8_92 : decode prog_16_method_3_code 92 = .ok (.invokevirtual 73, 3) := by decide +kernel
theorem d8_95 : decode prog_16_method_3_code 95 = .ok (.istore 8, 2) := by decide +kernel
theorem d8_97 : decode prog_16_method_3_code 97 = .ok (.aload_n 0, 1) := by decide +kernel
theorem d8_98 : decode prog_16_method_3_code 98 = .ok (.getfield 45, 3) := by decide +kernel
theorem d8_101 : decode prog_16_method_3_code 101 = .ok (.aload_n 0, 1) := by decide +kernel
theorem d8_102 : decode prog_16_method_3_code 102 = .ok (.lload_n 2, 1) := by decide +kernel
theorem d8_103 : decode prog_16_method_3_code 103 = .ok (.lload 4, 2) := by decide +kernel
theorem d8_105 : decode prog_16_method_3_code 105 = .ok (.invokevirtual 65, 3) := by decide +kernel
theorem d8_108 : decode prog_16_method_3_code 108 = .ok (.iload 8, 2) := by decide +kernel
theorem d8_110 : decode prog_16_method_3_code 110 = .ok (.iastore, 1) := by decide +kernel
theorem d8_111 : decode prog_16_method_3_code 111 = .ok (.aload_n 0, 1) := by decide +kernel
theorem d8_112 : decode prog_16_method_3_code 112 = .ok (.getfield 32, 3) := by decide +kernel
theorem d8_115 : decode prog_16_method_3_code 115 = .ok (.iload 8, 2) := by decide +kernel
theorem d8_117 : decode prog_16_method_3_code 117 = .ok (.iload 6, 2) := by decide +kernel
theorem d8_119 : decode prog_16_method_3_code 119 = .ok (.iastore, 1) := by decide +kernel
theorem d8_120 : decode prog_16_method_3_code 120 = .ok (.aload_n 0, 1) := by decide +kernel
theorem d8_121 : decode prog_16_method_3_code 121 = .ok (.getfield 36, 3) := by decide +kernel
theorem d8_124 : decode prog_16_method_3_code 124 = .ok (.iload 8, 2) := by decide +kernel
theorem d8_126 : decode prog_16_method_3_code 126 = .ok (.iload 6, 2) := by decide +kernel
theorem d8_128 : decode prog_16_method_3_code 128 = .ok (.iastore, 1) := by decide +kernel
theorem d8_129 : decode prog_16_method_3_code 129 = .ok (.aload_n 0, 1) := by decide +kernel
theorem d8_130 : decode prog_16_method_3_code 130 = .ok (.iload 8, 2) := by decide +kernel
theorem d8_132 : decode prog_16_method_3_code 132 = .ok (.invokevirtual 76, 3) := by decide +kernel
theorem d8_135 : decode prog_16_method_3_code 135 = .ok (.aload_n 0, 1) := by decide +kernel
theorem d8_136 : decode prog_16_method_3_code 136 = .ok (.dup, 1) := by decide +kernel
theorem d8_137 : decode prog_16_method_3_code 137 = .ok (.getfield 58, 3) := by decide +kernel
theorem d8_140 : decode prog_16_method_3_code 140 = .ok (.iconst 1, 1) := by decide +kernel
theorem d8_141 : decode prog_16_method_3_code 141 = .ok (.iadd, 1) := by decide +kernel
theorem d8_142 : decode prog_16_method_3_code 142 = .ok (.putfield 58, 3) := by decide +kernel
theorem d8_145 : decode prog_16_method_3_code 145 = .ok (.return_, 1) := by decide +kernel
theorem ef_push1 (m : MethodId) (x0 : Addr) (x1 : Int32) (x2 : Int64) (x3 : Int64) : entryFrame m #[(.ref x0), (.int x1), (.long x2), (.long x3)] 9 = mkF m 0 #[.val (.ref x0), .val (.int x1), .val (.long x2), .second, .val (.long x3), .second, .unset, .unset, .unset] [] := by first | (simp [entryFrame, mkF, argsToLocals, Value.category]; done) | rfl
theorem pd_8 : parseMethodDescriptor "(JJ)I" = some ⟨[.long, .long], some .int⟩ := by decide +kernel
set_option maxRecDepth 65536 in
set_option maxHeartbeats 40000000 in
theorem rmpush1 (l : Launch) (Z : State) (a0 : Array Value) (hw : ∀ d ∈ tables_1, d.before a0 Z = true) (o : Addr) (cl : Addr) (cs : Addr) (c0 : Addr) (bF : Addr) (bG : Addr) (bO : Addr) (bH : Addr) (bT : Addr) (hP : Addr) (nw : Addr) (h0 : Heap) (n0 : Nat) (Z0 : n0 ≤ h0.size) (gt : Int32) (e0 : Int64) (e1 : Int64) (er : List Int64) (f0 : Int64) (f1 : Int64) (fr : List Int64) (g0 : Int64) (g1 : Int64) (gr : List Int64) (q0 : Int64) (q1 : Int64) (qr : List Int64) (d0 : Int32) (d1 : Int32) (dr : List Int32) (t0 : Int32) (t1 : Int32) (tr : List Int32) (p0 : Int32) (p1 : Int32) (pr : List Int32) (ns : List Int32) (id : Int32) (pf : Int64) (pg : Int64) (hnd : [o, cl, cs, c0, bF, bG, bO, bH, bT, hP, nw].Nodup) (hge : ∀ a ∈ [o, cl, cs, c0, bF, bG, bO, bH, bT, hP, nw], n0 ≤ a) (H0 : Wd Z h0 o cl cs c0 bF bG bO bH bT hP nw gt (-1 : Int32) (0 : Int32) (0 : Int32) (-1 : Int32) (0 : Int32) (0 : Int32) (0 : Int64) e0 e1 er f0 f1 fr g0 g1 gr q0 q1 qr d0 d1 dr t0 t1 tr p0 p1 pr ns) (hnl : ns.length = 32) (hk : (ns.getD (slt pf pg).toNatClampNeg 0) = (-1 : Int32) ∨ ((ns.getD (slt pf pg).toNatClampNeg 0) = 0 ∧ d0 = (-1 : Int32)) ∨ ((ns.getD (slt pf pg).toNatClampNeg 0) = 1 ∧ d1 = (-1 : Int32))) :
    Con l Z (⟨"com/example/flat_planner/flatplanner/OpenList", "push", "(IJJ)V"⟩ : MethodName) prog_16_method_3_code 9 none ({ frames := 3, cells := 0, slots := 0, locals := 43 } : Room) #[(.ref o), (.int id), (.long pf), (.long pg)] h0 n0 (fun v h => v = none ∧ Keep h0 h [o, c0, bF, bG, bO, bH, bT, hP, nw] ∧ Wd Z h o cl cs c0 bF bG bO bH bT hP nw gt (-1 : Int32) (1 : Int32) (1 : Int32) (-1 : Int32) (1 : Int32) (1 : Int32) (1 : Int64) (mkE id) e1 er pf f1 fr pg g1 gr (0 : Int64) q1 qr (0 : Int32) d1 dr (0 : Int32) t1 tr (0 : Int32) p1 pr (ns.set (slt pf pg).toNatClampNeg (0 : Int32))) := by
  refine Con.of (own := "com/example/flat_planner/flatplanner/OpenList") (name := "push") (plainFor_of_name pn_3) (fun m => ef_push1 m o id pf pg) rfl rfl ?_
  intro p e s m below meth c T F S cx st
  have g_o : n0 ≤ o := hge o (by simp)
  have g_c0 : n0 ≤ c0 := hge c0 (by simp)
  have g_bF : n0 ≤ bF := hge bF (by simp)
  have g_bG : n0 ≤ bG := hge bG (by simp)
  have g_bO : n0 ≤ bO := hge bO (by simp)
  have g_bH : n0 ≤ bH := hge bH (by simp)
  have g_bT : n0 ≤ bT := hge bT (by simp)
  have g_hP : n0 ≤ hP := hge hP (by simp)
  have g_nw : n0 ≤ nw := hge nw (by simp)
  obtain ⟨X_o, B_o, HL, ⟨k_cs, V_cs⟩, ⟨k_c0, V_c0⟩, ⟨k_bF, V_bF⟩, ⟨k_bG, V_bG⟩, ⟨k_bO, V_bO⟩, ⟨k_bH, V_bH⟩, ⟨k_bT, V_bT⟩, ⟨k_hP, V_hP⟩, ⟨k_nw, V_nw⟩⟩ := H0
  refine E_aloadN (pc' := 1) cx st d8_0 rfl rfl rfl ?_
  refine E_iloadN (pc' := 2) cx st d8_1 rfl rfl ?_
  refine E_callP (pc' := 5) (kc' := 0) (ks' := 0) (W := 0) (a := o) (argsL := [(.int id)]) cx st [] (rmnewEntry0 l Z a0 hw o cl cs c0 bF bG bO bH bT hP nw h0 n0 Z0 gt (0 : Int32) (-1 : Int32) (0 : Int32) (0 : Int64) (0 : Int32) e0 e1 er f0 f1 fr g0 g1 gr q0 q1 qr d0 d1 dr t0 t1 tr p0 p1 pr ns id hnd hge ⟨X_o, B_o, HL, ⟨_, V_cs⟩, ⟨_, V_c0⟩, ⟨_, V_bF⟩, ⟨_, V_bG⟩, ⟨_, V_bO⟩, ⟨_, V_bH⟩, ⟨_, V_bT⟩, ⟨_, V_hP⟩, ⟨_, V_nw⟩⟩ ) X_o (wd hw 73 rfl) (wd hw 75 rfl) (wd hw 1 rfl) (wd hw 74 rfl) (wd hw 2 rfl) (wd hw 76 rfl) d8_2 rfl rfl (lenOf pd_0 rfl) (Nat.le_of_eq rfl) (by decide) (by decide) (by decide) (by decide) (by decide) (by decide) (by decide) rfl ?_
  intro v1 T1 h1 st1 hq1
  obtain ⟨rfl, Kw1, Hw1⟩ := hq1
  have Z1 : n0 ≤ h1.size := Nat.le_trans Z0 Kw1.1
  have KKw1' : Keep h0 h1 [o, c0, bF, bG, bO, bH, bT, hP, nw] := (Keep.refl h0 [o, c0, bF, bG, bO, bH, bT, hP, nw]).trans Kw1 (allS (mi 0 rfl) (allS (mi 1 rfl) (allS (mi 2 rfl) (allS (mi 3 rfl) (allS (mi 4 rfl) (allS (mi 5 rfl) (allS (mi 6 rfl) (allS (mi 7 rfl) (allS (mi 8 rfl) all0)))))))))
  obtain ⟨X_o_1, B_o_1, HL_1, ⟨k_cs_1, V_cs_1⟩, ⟨k_c0_1, V_c0_1⟩, ⟨k_bF_1, V_bF_1⟩, ⟨k_bG_1, V_bG_1⟩, ⟨k_bO_1, V_bO_1⟩, ⟨k_bH_1, V_bH_1⟩, ⟨k_bT_1, V_bT_1⟩, ⟨k_hP_1, V_hP_1⟩, ⟨k_nw_1, V_nw_1⟩⟩ := Hw1
  refine E_istore (pc' := 7) (L' := #[.val (.ref o), .val (.int id), .val (.long pf), .second, .val (.long pg), .second, .val (.int (0 : Int32)), .unset, .unset]) cx st1 d8_5 rfl rfl ?_
  refine E_aloadN (pc' := 8) cx st1 d8_7 rfl rfl rfl ?_
  refine E_getfield (pc' := 11) (v := (.ref nw)) cx st1 (wd hw 60 rfl) (B_o_1.at 15 (by decide) rfl rfl) d8_8 rfl ?_
  intro T2 st2
  refine E_aloadN (pc' := 12) cx st2 d8_11 rfl rfl rfl ?_
  refine E_lloadN (pc' := 13) cx st2 d8_12 rfl rfl ?_
  refine E_lload (pc' := 15) cx st2 d8_13 rfl rfl ?_
  refine E_callP (pc' := 18) (kc' := 0) (ks' := 0) (W := 1) (a := o) (argsL := [(.long pf), (.long pg)]) cx st2 [(.ref nw)] (rmslot l Z a0 hw o cl cs c0 bF bG bO bH bT hP nw h1 n0 Z1 gt (-1 : Int32) (1 : Int32) (0 : Int32) (-1 : Int32) (0 : Int32) (0 : Int64) (0 : Int32) (mkE id) e1 er f0 f1 fr g0 g1 gr q0 q1 qr d0 d1 dr t0 t1 tr p0 p1 pr ns pf pg hnd hge ⟨X_o_1, B_o_1, HL_1, ⟨_, V_cs_1⟩, ⟨_, V_c0_1⟩, ⟨_, V_bF_1⟩, ⟨_, V_bG_1⟩, ⟨_, V_bO_1⟩, ⟨_, V_bH_1⟩, ⟨_, V_bT_1⟩, ⟨_, V_hP_1⟩, ⟨_, V_nw_1⟩⟩ ) X_o_1 (wd hw 99 rfl) (wd hw 101 rfl) (wd hw 1 rfl) (wd hw 100 rfl) (wd hw 2 rfl) (wd hw 102 rfl) d8_15 rfl rfl (lenOf pd_8 rfl) (Nat.le_of_eq rfl) (by decide) (by decide) (by decide) (by decide) (by decide) (by decide) (by decide) rfl ?_
  intro v3 T3 h3 st3 hq3
  obtain ⟨rfl, hh3⟩ := hq3
  rw [hh3] at st3
  refine E_iaload (pc' := 19) (x := (ns.getD (slt pf pg).toNatClampNeg 0)) cx st3 V_nw_1 (slt_b pf pg) (getD_int ns _ 0) d8_18 rfl ?_
  rcases hk with hk1 | ⟨hk1, hk2⟩ | ⟨hk1, hk2⟩
  · rw [hk1]
    refine E_istore (pc' := 21) (L' := #[.val (.ref o), .val (.int id), .val (.long pf), .second, .val (.long pg), .second, .val (.int (0 : Int32)), .val (.int (-1 : Int32)), .unset]) cx st3 d8_19 rfl rfl ?_
    refine E_iload (pc' := 23) cx st3 d8_21 rfl rfl ?_
    refine E_iconst (pc' := 24) cx st3 (-1 : Int32) d8_23 rfl rfl ?_
    refine E_icmp_eqY (pc' := 88) cx st3 d8_24 (by decide) (by decide) (by decide) ?_
    refine E_aloadN (pc' := 89) cx st3 d8_88 rfl rfl rfl ?_
    refine E_lloadN (pc' := 90) cx st3 d8_89 rfl rfl ?_
    refine E_lload (pc' := 92) cx st3 d8_90 rfl rfl ?_
    refine E_callP (pc' := 95) (kc' := 0) (ks' := 0) (W := 0) (a := o) (argsL := [(.long pf), (.long pg)]) cx st3 [] (rmstartBucket0 l Z a0 hw o cl cs c0 bF bG bO bH bT hP nw h1 n0 Z1 gt (-1 : Int32) (1 : Int32) (0 : Int32) (0 : Int32) (mkE id) e1 er f0 f1 fr g0 g1 gr q0 q1 qr d0 d1 dr t0 t1 tr p0 p1 pr ns pf pg hnd hge ⟨X_o_1, B_o_1, HL_1, ⟨_, V_cs_1⟩, ⟨_, V_c0_1⟩, ⟨_, V_bF_1⟩, ⟨_, V_bG_1⟩, ⟨_, V_bO_1⟩, ⟨_, V_bH_1⟩, ⟨_, V_bT_1⟩, ⟨_, V_hP_1⟩, ⟨_, V_nw_1⟩⟩ ) X_o_1 (wd hw 104 rfl) (wd hw 106 rfl) (wd hw 1 rfl) (wd hw 105 rfl) (wd hw 2 rfl) (wd hw 107 rfl) d8_92 rfl rfl (lenOf pd_8 rfl) (Nat.le_of_eq rfl) (by decide) (by decide) (by decide) (by decide) (by decide) (by decide) (by decide) rfl ?_
    intro v4 T4 h4 st4 hq4
    obtain ⟨rfl, Kw4, Hw4⟩ := hq4
    have Z4 : n0 ≤ h4.size := Nat.le_trans Z1 Kw4.1
    have KKw4' : Keep h0 h4 [o, c0, bF, bG, bO, bH, bT, hP, nw] := KKw1'.trans Kw4 (allS (mi 0 rfl) (allS (mi 1 rfl) (allS (mi 2 rfl) (allS (mi 3 rfl) (allS (mi 4 rfl) (allS (mi 5 rfl) (allS (mi 6 rfl) (allS (mi 7 rfl) (allS (mi 8 rfl) all0)))))))))
    obtain ⟨X_o_4, B_o_4, HL_4, ⟨k_cs_4, V_cs_4⟩, ⟨k_c0_4, V_c0_4⟩, ⟨k_bF_4, V_bF_4⟩, ⟨k_bG_4, V_bG_4⟩, ⟨k_bO_4, V_bO_4⟩, ⟨k_bH_4, V_bH_4⟩, ⟨k_bT_4, V_bT_4⟩, ⟨k_hP_4, V_hP_4⟩, ⟨k_nw_4, V_nw_4⟩⟩ := Hw4
    refine E_istore (pc' := 97) (L' := #[.val (.ref o), .val (.int id), .val (.long pf), .second, .val (.long pg), .second, .val (.int (0 : Int32)), .val (.int (-1 : Int32)), .val (.int (0 : Int32))]) cx st4 d8_95 rfl rfl ?_
    refine E_aloadN (pc' := 98) cx st4 d8_97 rfl rfl rfl ?_
    refine E_getfield (pc' := 101) (v := (.ref nw)) cx st4 (wd hw 60 rfl) (B_o_4.at 15 (by decide) rfl rfl) d8_98 rfl ?_
    intro T5 st5
    refine E_aloadN (pc' := 102) cx st5 d8_101 rfl rfl rfl ?_
    refine E_lloadN (pc' := 103) cx st5 d8_102 rfl rfl ?_
    refine E_lload (pc' := 105) cx st5 d8_103 rfl rfl ?_
    refine E_callP (pc' := 108) (kc' := 0) (ks' := 0) (W := 1) (a := o) (argsL := [(.long pf), (.long pg)]) cx st5 [(.ref nw)] (rmslot l Z a0 hw o cl cs c0 bF bG bO bH bT hP nw h4 n0 Z4 gt (-1 : Int32) (1 : Int32) (0 : Int32) (-1 : Int32) (1 : Int32) (1 : Int64) (0 : Int32) (mkE id) e1 er pf f1 fr pg g1 gr (0 : Int64) q1 qr d0 d1 dr t0 t1 tr p0 p1 pr ns pf pg hnd hge ⟨X_o_4, B_o_4, HL_4, ⟨_, V_cs_4⟩, ⟨_, V_c0_4⟩, ⟨_, V_bF_4⟩, ⟨_, V_bG_4⟩, ⟨_, V_bO_4⟩, ⟨_, V_bH_4⟩, ⟨_, V_bT_4⟩, ⟨_, V_hP_4⟩, ⟨_, V_nw_4⟩⟩ ) X_o_4 (wd hw 99 rfl) (wd hw 101 rfl) (wd hw 1 rfl) (wd hw 100 rfl) (wd hw 2 rfl) (wd hw 102 rfl) d8_105 rfl rfl (lenOf pd_8 rfl) (Nat.le_of_eq rfl) (by decide) (by decide) (by decide) (by decide) (by decide) (by decide) (by decide) rfl ?_
    intro v6 T6 h6 st6 hq6
    obtain ⟨rfl, hh6⟩ := hq6
    rw [hh6] at st6
    refine E_iload (pc' := 110) cx st6 d8_108 rfl rfl ?_
    refine E_iastore (pc' := 111) (i := (slt pf pg).toNatClampNeg) cx st6 V_nw_4 (slt_b pf pg) rfl (by rw [List.length_map, hnl]; exact (i32_small (n := 32) (slt_b pf pg) (by decide)).1) g_nw d8_110 rfl ?_
    intro T7 h7 st7 W7 V7
    have Z7 : n0 ≤ h7.size := Nat.le_trans Z4 (Keep.of_wr W7).1
    have K7 : Keep h0 h7 [o, c0, bF, bG, bO, bH, bT, hP, nw] := KKw4'.wr W7 (mi 8 rfl)
    have V7p : Arv Z h7 nw k_nw_4 .int (32 : Int32) ((ns.set (slt pf pg).toNatClampNeg (0 : Int32)).map Value.int) (.int (0 : Int32)) := by rw [List.map_set]; exact V7
    refine E_aloadN (pc' := 112) cx st7 d8_111 rfl rfl rfl ?_
    have B9 : OL Z h7 o [(.int gt), (.ref cl), (.int (-1 : Int32)), (.int (1 : Int32)), (.int (0 : Int32)), (.ref bF), (.ref bG), (.ref bO), (.ref bH), (.ref bT), (.int (-1 : Int32)), (.int (1 : Int32)), (.long (1 : Int64)), (.ref hP), (.int (0 : Int32)), (.ref nw)] := (B_o_4.other W7 (nd hnd 0 10 rfl rfl))
    refine E_getfield (pc' := 115) (v := (.ref bH)) cx st7 (wd hw 52 rfl) (B9.at 8 (by decide) rfl rfl) d8_112 rfl ?_
    intro T8 st8
    refine E_iload (pc' := 117) cx st8 d8_115 rfl rfl ?_
    refine E_iload (pc' := 119) cx st8 d8_117 rfl rfl ?_
    have V10 : Arv Z h7 bH k_bH_4 .int (16 : Int32) ((.int d0) :: (.int d1) :: (dr.map Value.int)) (.int (0 : Int32)) := (V_bH_4.other W7 (nd hnd 7 10 rfl rfl))
    refine E_iastore (pc' := 120) (i := 0) cx st8 V10 ⟨by decide, by decide⟩ rfl (Nat.zero_lt_succ _) g_bH d8_119 rfl ?_
    intro T11 h11 st11 W11 V11
    have Z11 : n0 ≤ h11.size := Nat.le_trans Z7 (Keep.of_wr W11).1
    have K11 : Keep h0 h11 [o, c0, bF, bG, bO, bH, bT, hP, nw] := K7.wr W11 (mi 5 rfl)
    have V11p : Arv Z h11 bH k_bH_4 .int (16 : Int32) ((.int (0 : Int32)) :: (.int d1) :: (dr.map Value.int)) (.int (0 : Int32)) := V11
    refine E_aloadN (pc' := 121) cx st11 d8_120 rfl rfl rfl ?_
    have B13 : OL Z h11 o [(.int gt), (.ref cl), (.int (-1 : Int32)), (.int (1 : Int32)), (.int (0 : Int32)), (.ref bF), (.ref bG), (.ref bO), (.ref bH), (.ref bT), (.int (-1 : Int32)), (.int (1 : Int32)), (.long (1 : Int64)), (.ref hP), (.int (0 : Int32)), (.ref nw)] := (B9.other W11 (nd hnd 0 7 rfl rfl))
    refine E_getfield (pc' := 124) (v := (.ref bT)) cx st11 (wd hw 54 rfl) (B13.at 9 (by decide) rfl rfl) d8_121 rfl ?_
    intro T12 st12
    refine E_iload (pc' := 126) cx st12 d8_124 rfl rfl ?_
    refine E_iload (pc' := 128) cx st12 d8_126 rfl rfl ?_
    have V14 : Arv Z h11 bT k_bT_4 .int (16 : Int32) ((.int t0) :: (.int t1) :: (tr.map Value.int)) (.int (0 : Int32)) := ((V_bT_4.other W7 (nd hnd 8 10 rfl rfl)).other W11 (nd hnd 8 7 rfl rfl))
    refine E_iastore (pc' := 129) (i := 0) cx st12 V14 ⟨by decide, by decide⟩ rfl (Nat.zero_lt_succ _) g_bT d8_128 rfl ?_
    intro T15 h15 st15 W15 V15
    have Z15 : n0 ≤ h15.size := Nat.le_trans Z11 (Keep.of_wr W15).1
    have K15 : Keep h0 h15 [o, c0, bF, bG, bO, bH, bT, hP, nw] := K11.wr W15 (mi 6 rfl)
    have V15p : Arv Z h15 bT k_bT_4 .int (16 : Int32) ((.int (0 : Int32)) :: (.int t1) :: (tr.map Value.int)) (.int (0 : Int32)) := V15
    refine E_aloadN (pc' := 130) cx st15 d8_129 rfl rfl rfl ?_
    refine E_iload (pc' := 132) cx st15 d8_130 rfl rfl ?_
    have X16 : Exa Z h15 o "com/example/flat_planner/flatplanner/OpenList" := (((X_o_4.wr W7).wr W11).wr W15)
    have B17 : OL Z h15 o [(.int gt), (.ref cl), (.int (-1 : Int32)), (.int (1 : Int32)), (.int (0 : Int32)), (.ref bF), (.ref bG), (.ref bO), (.ref bH), (.ref bT), (.int (-1 : Int32)), (.int (1 : Int32)), (.long (1 : Int64)), (.ref hP), (.int (0 : Int32)), (.ref nw)] := (B13.other W15 (nd hnd 0 8 rfl rfl))
    have HL18 : LCF Z h15 cl cs := (((HL_4.other W7 (nd hnd 1 10 rfl rfl)).other W11 (nd hnd 1 7 rfl rfl)).other W15 (nd hnd 1 8 rfl rfl))
    have V19 : Arv Z h15 cs k_cs_4 (.array .long) (1 : Int32) [(.ref c0)] .null := (((V_cs_4.other W7 (nd hnd 2 10 rfl rfl)).other W11 (nd hnd 2 7 rfl rfl)).other W15 (nd hnd 2 8 rfl rfl))
    have V20 : Arv Z h15 c0 k_c0_4 .long (16 : Int32) ((.long (mkE id)) :: (.long e1) :: (er.map Value.long)) (.long (0 : Int64)) := (((V_c0_4.other W7 (nd hnd 3 10 rfl rfl)).other W11 (nd hnd 3 7 rfl rfl)).other W15 (nd hnd 3 8 rfl rfl))
    have V21 : Arv Z h15 bF k_bF_4 .long (16 : Int32) ((.long pf) :: (.long f1) :: (fr.map Value.long)) (.long (0 : Int64)) := (((V_bF_4.other W7 (nd hnd 4 10 rfl rfl)).other W11 (nd hnd 4 7 rfl rfl)).other W15 (nd hnd 4 8 rfl rfl))
    have V22 : Arv Z h15 bG k_bG_4 .long (16 : Int32) ((.long pg) :: (.long g1) :: (gr.map Value.long)) (.long (0 : Int64)) := (((V_bG_4.other W7 (nd hnd 5 10 rfl rfl)).other W11 (nd hnd 5 7 rfl rfl)).other W15 (nd hnd 5 8 rfl rfl))
    have V23 : Arv Z h15 bO k_bO_4 .long (16 : Int32) ((.long (0 : Int64)) :: (.long q1) :: (qr.map Value.long)) (.long (0 : Int64)) := (((V_bO_4.other W7 (nd hnd 6 10 rfl rfl)).other W11 (nd hnd 6 7 rfl rfl)).other W15 (nd hnd 6 8 rfl rfl))
    have V24 : Arv Z h15 bH k_bH_4 .int (16 : Int32) ((.int (0 : Int32)) :: (.int d1) :: (dr.map Value.int)) (.int (0 : Int32)) := (V11p.other W15 (nd hnd 7 8 rfl rfl))
    have V25 : Arv Z h15 hP k_hP_4 .int (16 : Int32) ((.int p0) :: (.int p1) :: (pr.map Value.int)) (.int (0 : Int32)) := (((V_hP_4.other W7 (nd hnd 9 10 rfl rfl)).other W11 (nd hnd 9 7 rfl rfl)).other W15 (nd hnd 9 8 rfl rfl))
    have V26 : Arv Z h15 nw k_nw_4 .int (32 : Int32) ((ns.set (slt pf pg).toNatClampNeg (0 : Int32)).map Value.int) (.int (0 : Int32)) := ((V7p.other W11 (nd hnd 10 7 rfl rfl)).other W15 (nd hnd 10 8 rfl rfl))
    refine E_callP (pc' := 135) (kc' := 0) (ks' := 0) (W := 0) (a := o) (argsL := [(.int (0 : Int32))]) cx st15 [] (rmheapPush0 l Z a0 hw o cl cs c0 bF bG bO bH bT hP nw h15 n0 Z15 gt (-1 : Int32) (1 : Int32) (0 : Int32) (-1 : Int32) (1 : Int32) (1 : Int64) (mkE id) e1 er pf f1 fr pg g1 gr (0 : Int64) q1 qr (0 : Int32) d1 dr (0 : Int32) t1 tr p0 p1 pr (ns.set (slt pf pg).toNatClampNeg (0 : Int32)) hnd hge ⟨X16, B17, HL18, ⟨_, V19⟩, ⟨_, V20⟩, ⟨_, V21⟩, ⟨_, V22⟩, ⟨_, V23⟩, ⟨_, V24⟩, ⟨_, V15p⟩, ⟨_, V25⟩, ⟨_, V26⟩⟩ ) X16 (wd hw 112 rfl) (wd hw 114 rfl) (wd hw 1 rfl) (wd hw 113 rfl) (wd hw 2 rfl) (wd hw 115 rfl) d8_132 rfl rfl (lenOf pd_2 rfl) (Nat.le_of_eq rfl) (by decide) (by decide) (by decide) (by decide) (by decide) (by decide) (by decide) rfl ?_
    intro v27 T27 h27 st27 hq27
    obtain ⟨rfl, Kw27, Hw27⟩ := hq27
    have Z27 : n0 ≤ h27.size := Nat.le_trans Z15 Kw27.1
    have KKw27' : Keep h0 h27 [o, c0, bF, bG, bO, bH, bT, hP, nw] := K15.trans Kw27 (allS (mi 0 rfl) (allS (mi 1 rfl) (allS (mi 2 rfl) (allS (mi 3 rfl) (allS (mi 4 rfl) (allS (mi 5 rfl) (allS (mi 6 rfl) (allS (mi 7 rfl) (allS (mi 8 rfl) all0)))))))))
    obtain ⟨X_o_27, B_o_27, HL_27, ⟨k_cs_27, V_cs_27⟩, ⟨k_c0_27, V_c0_27⟩, ⟨k_bF_27, V_bF_27⟩, ⟨k_bG_27, V_bG_27⟩, ⟨k_bO_27, V_bO_27⟩, ⟨k_bH_27, V_bH_27⟩, ⟨k_bT_27, V_bT_27⟩, ⟨k_hP_27, V_hP_27⟩, ⟨k_nw_27, V_nw_27⟩⟩ := Hw27
    refine E_aloadN (pc' := 136) cx st27 d8_135 rfl rfl rfl ?_
    refine E_dup (pc' := 137) cx st27 d8_136 rfl rfl ?_
    refine E_getfield (pc' := 140) (v := (.int (0 : Int32))) cx st27 (wd hw 118 rfl) (B_o_27.at 4 (by decide) rfl rfl) d8_137 rfl ?_
    intro T28 st28
    refine E_iconst (pc' := 141) cx st28 (1 : Int32) d8_140 rfl rfl ?_
    refine E_iadd (pc' := 142) cx st28 d8_141 rfl ?_
    rw [show ((0 : Int32) + (1 : Int32)) = (1 : Int32) from by decide]
    refine E_putfield (pc' := 145) (ty := .int) cx st28 (wd hw 118 rfl) (B_o_27.at 4 (by decide) rfl rfl) X_o_27 (Or.inl (wd hw 119 rfl)) (wd hw 1 rfl) (by decide) rfl rfl g_o d8_142 rfl ?_
    intro T29 h29 st29 W29
    have Z29 : n0 ≤ h29.size := Nat.le_trans Z27 (Keep.of_wr W29).1
    have K29 : Keep h0 h29 [o, c0, bF, bG, bO, bH, bT, hP, nw] := KKw27'.wr W29 (mi 0 rfl)
    have B29w : OL Z h29 o [(.int gt), (.ref cl), (.int (-1 : Int32)), (.int (1 : Int32)), (.int (1 : Int32)), (.ref bF), (.ref bG), (.ref bO), (.ref bH), (.ref bT), (.int (-1 : Int32)), (.int (1 : Int32)), (.long (1 : Int64)), (.ref hP), (.int (1 : Int32)), (.ref nw)] := B_o_27.wr hw 4 (by decide) rfl W29 (Nat.le_of_ble_eq_true rfl)
    have X30 : Exa Z h29 o "com/example/flat_planner/flatplanner/OpenList" := (X_o_27.wr W29)
    have HL31 : LCF Z h29 cl cs := (HL_27.other W29 (nd hnd 1 0 rfl rfl))
    have V32 : Arv Z h29 cs k_cs_27 (.array .long) (1 : Int32) [(.ref c0)] .null := (V_cs_27.other W29 (nd hnd 2 0 rfl rfl))
    have V33 : Arv Z h29 c0 k_c0_27 .long (16 : Int32) ((.long (mkE id)) :: (.long e1) :: (er.map Value.long)) (.long (0 : Int64)) := (V_c0_27.other W29 (nd hnd 3 0 rfl rfl))
    have V34 : Arv Z h29 bF k_bF_27 .long (16 : Int32) ((.long pf) :: (.long f1) :: (fr.map Value.long)) (.long (0 : Int64)) := (V_bF_27.other W29 (nd hnd 4 0 rfl rfl))
    have V35 : Arv Z h29 bG k_bG_27 .long (16 : Int32) ((.long pg) :: (.long g1) :: (gr.map Value.long)) (.long (0 : Int64)) := (V_bG_27.other W29 (nd hnd 5 0 rfl rfl))
    have V36 : Arv Z h29 bO k_bO_27 .long (16 : Int32) ((.long (0 : Int64)) :: (.long q1) :: (qr.map Value.long)) (.long (0 : Int64)) := (V_bO_27.other W29 (nd hnd 6 0 rfl rfl))
    have V37 : Arv Z h29 bH k_bH_27 .int (16 : Int32) ((.int (0 : Int32)) :: (.int d1) :: (dr.map Value.int)) (.int (0 : Int32)) := (V_bH_27.other W29 (nd hnd 7 0 rfl rfl))
    have V38 : Arv Z h29 bT k_bT_27 .int (16 : Int32) ((.int (0 : Int32)) :: (.int t1) :: (tr.map Value.int)) (.int (0 : Int32)) := (V_bT_27.other W29 (nd hnd 8 0 rfl rfl))
    have V39 : Arv Z h29 hP k_hP_27 .int (16 : Int32) ((.int (0 : Int32)) :: (.int p1) :: (pr.map Value.int)) (.int (0 : Int32)) := (V_hP_27.other W29 (nd hnd 9 0 rfl rfl))
    have V40 : Arv Z h29 nw k_nw_27 .int (32 : Int32) ((ns.set (slt pf pg).toNatClampNeg (0 : Int32)).map Value.int) (.int (0 : Int32)) := (V_nw_27.other W29 (nd hnd 10 0 rfl rfl))
    refine E_return cx st29 d8_145 rfl (by decide) (by decide) ?_
    exact ⟨rfl, K29, ⟨X30, B29w, HL31, ⟨_, V32⟩, ⟨_, V33⟩, ⟨_, V34⟩, ⟨_, V35⟩, ⟨_, V36⟩, ⟨_, V37⟩, ⟨_, V38⟩, ⟨_, V39⟩, ⟨_, V40⟩⟩⟩
  · rw [hk1]
    refine E_istore (pc' := 21) (L' := #[.val (.ref o), .val (.int id), .val (.long pf), .second, .val (.long pg), .second, .val (.int (0 : Int32)), .val (.int (0 : Int32)), .unset]) cx st3 d8_19 rfl rfl ?_
    refine E_iload (pc' := 23) cx st3 d8_21 rfl rfl ?_
    refine E_iconst (pc' := 24) cx st3 (-1 : Int32) d8_23 rfl rfl ?_
    refine E_icmp_eqN (pc' := 27) cx st3 d8_24 rfl (by decide) ?_
    refine E_aloadN (pc' := 28) cx st3 d8_27 rfl rfl rfl ?_
    refine E_getfield (pc' := 31) (v := (.ref bH)) cx st3 (wd hw 52 rfl) (B_o_1.at 8 (by decide) rfl rfl) d8_28 rfl ?_
    intro T41 st41
    refine E_iload (pc' := 33) cx st41 d8_31 rfl rfl ?_
    refine E_iaload (pc' := 34) (x := d0) cx st41 V_bH_1 ⟨by decide, by decide⟩ rfl d8_33 rfl ?_
    refine E_iconst (pc' := 35) cx st41 (-1 : Int32) d8_34 rfl rfl ?_
    refine E_icmp_eqY (pc' := 88) cx st41 d8_35 (by decide) (by decide) hk2 ?_
    refine E_aloadN (pc' := 89) cx st41 d8_88 rfl rfl rfl ?_
    refine E_lloadN (pc' := 90) cx st41 d8_89 rfl rfl ?_
    refine E_lload (pc' := 92) cx st41 d8_90 rfl rfl ?_
    refine E_callP (pc' := 95) (kc' := 0) (ks' := 0) (W := 0) (a := o) (argsL := [(.long pf), (.long pg)]) cx st41 [] (rmstartBucket0 l Z a0 hw o cl cs c0 bF bG bO bH bT hP nw h1 n0 Z1 gt (-1 : Int32) (1 : Int32) (0 : Int32) (0 : Int32) (mkE id) e1 er f0 f1 fr g0 g1 gr q0 q1 qr d0 d1 dr t0 t1 tr p0 p1 pr ns pf pg hnd hge ⟨X_o_1, B_o_1, HL_1, ⟨_, V_cs_1⟩, ⟨_, V_c0_1⟩, ⟨_, V_bF_1⟩, ⟨_, V_bG_1⟩, ⟨_, V_bO_1⟩, ⟨_, V_bH_1⟩, ⟨_, V_bT_1⟩, ⟨_, V_hP_1⟩, ⟨_, V_nw_1⟩⟩ ) X_o_1 (wd hw 104 rfl) (wd hw 106 rfl) (wd hw 1 rfl) (wd hw 105 rfl) (wd hw 2 rfl) (wd hw 107 rfl) d8_92 rfl rfl (lenOf pd_8 rfl) (Nat.le_of_eq rfl) (by decide) (by decide) (by decide) (by decide) (by decide) (by decide) (by decide) rfl ?_
    intro v42 T42 h42 st42 hq42
    obtain ⟨rfl, Kw42, Hw42⟩ := hq42
    have Z42 : n0 ≤ h42.size := Nat.le_trans Z1 Kw42.1
    have KKw42' : Keep h0 h42 [o, c0, bF, bG, bO, bH, bT, hP, nw] := KKw1'.trans Kw42 (allS (mi 0 rfl) (allS (mi 1 rfl) (allS (mi 2 rfl) (allS (mi 3 rfl) (allS (mi 4 rfl) (allS (mi 5 rfl) (allS (mi 6 rfl) (allS (mi 7 rfl) (allS (mi 8 rfl) all0)))))))))
    obtain ⟨X_o_42, B_o_42, HL_42, ⟨k_cs_42, V_cs_42⟩, ⟨k_c0_42, V_c0_42⟩, ⟨k_bF_42, V_bF_42⟩, ⟨k_bG_42, V_bG_42⟩, ⟨k_bO_42, V_bO_42⟩, ⟨k_bH_42, V_bH_42⟩, ⟨k_bT_42, V_bT_42⟩, ⟨k_hP_42, V_hP_42⟩, ⟨k_nw_42, V_nw_42⟩⟩ := Hw42
    refine E_istore (pc' := 97) (L' := #[.val (.ref o), .val (.int id), .val (.long pf), .second, .val (.long pg), .second, .val (.int (0 : Int32)), .val (.int (0 : Int32)), .val (.int (0 : Int32))]) cx st42 d8_95 rfl rfl ?_
    refine E_aloadN (pc' := 98) cx st42 d8_97 rfl rfl rfl ?_
    refine E_getfield (pc' := 101) (v := (.ref nw)) cx st42 (wd hw 60 rfl) (B_o_42.at 15 (by decide) rfl rfl) d8_98 rfl ?_
    intro T43 st43
    refine E_aloadN (pc' := 102) cx st43 d8_101 rfl rfl rfl ?_
    refine E_lloadN (pc' := 103) cx st43 d8_102 rfl rfl ?_
    refine E_lload (pc' := 105) cx st43 d8_103 rfl rfl ?_
    refine E_callP (pc' := 108) (kc' := 0) (ks' := 0) (W := 1) (a := o) (argsL := [(.long pf), (.long pg)]) cx st43 [(.ref nw)] (rmslot l Z a0 hw o cl cs c0 bF bG bO bH bT hP nw h42 n0 Z42 gt (-1 : Int32) (1 : Int32) (0 : Int32) (-1 : Int32) (1 : Int32) (1 : Int64) (0 : Int32) (mkE id) e1 er pf f1 fr pg g1 gr (0 : Int64) q1 qr d0 d1 dr t0 t1 tr p0 p1 pr ns pf pg hnd hge ⟨X_o_42, B_o_42, HL_42, ⟨_, V_cs_42⟩, ⟨_, V_c0_42⟩, ⟨_, V_bF_42⟩, ⟨_, V_bG_42⟩, ⟨_, V_bO_42⟩, ⟨_, V_bH_42⟩, ⟨_, V_bT_42⟩, ⟨_, V_hP_42⟩, ⟨_, V_nw_42⟩⟩ ) X_o_42 (wd hw 99 rfl) (wd hw 101 rfl) (wd hw 1 rfl) (wd hw 100 rfl) (wd hw 2 rfl) (wd hw 102 rfl) d8_105 rfl rfl (lenOf pd_8 rfl) (Nat.le_of_eq rfl) (by decide) (by decide) (by decide) (by decide) (by decide) (by decide) (by decide) rfl ?_
    intro v44 T44 h44 st44 hq44
    obtain ⟨rfl, hh44⟩ := hq44
    rw [hh44] at st44
    refine E_iload (pc' := 110) cx st44 d8_108 rfl rfl ?_
    refine E_iastore (pc' := 111) (i := (slt pf pg).toNatClampNeg) cx st44 V_nw_42 (slt_b pf pg) rfl (by rw [List.length_map, hnl]; exact (i32_small (n := 32) (slt_b pf pg) (by decide)).1) g_nw d8_110 rfl ?_
    intro T45 h45 st45 W45 V45
    have Z45 : n0 ≤ h45.size := Nat.le_trans Z42 (Keep.of_wr W45).1
    have K45 : Keep h0 h45 [o, c0, bF, bG, bO, bH, bT, hP, nw] := KKw42'.wr W45 (mi 8 rfl)
    have V45p : Arv Z h45 nw k_nw_42 .int (32 : Int32) ((ns.set (slt pf pg).toNatClampNeg (0 : Int32)).map Value.int) (.int (0 : Int32)) := by rw [List.map_set]; exact V45
    refine E_aloadN (pc' := 112) cx st45 d8_111 rfl rfl rfl ?_
    have B47 : OL Z h45 o [(.int gt), (.ref cl), (.int (-1 : Int32)), (.int (1 : Int32)), (.int (0 : Int32)), (.ref bF), (.ref bG), (.ref bO), (.ref bH), (.ref bT), (.int (-1 : Int32)), (.int (1 : Int32)), (.long (1 : Int64)), (.ref hP), (.int (0 : Int32)), (.ref nw)] := (B_o_42.other W45 (nd hnd 0 10 rfl rfl))
    refine E_getfield (pc' := 115) (v := (.ref bH)) cx st45 (wd hw 52 rfl) (B47.at 8 (by decide) rfl rfl) d8_112 rfl ?_
    intro T46 st46
    refine E_iload (pc' := 117) cx st46 d8_115 rfl rfl ?_
    refine E_iload (pc' := 119) cx st46 d8_117 rfl rfl ?_
    have V48 : Arv Z h45 bH k_bH_42 .int (16 : Int32) ((.int d0) :: (.int d1) :: (dr.map Value.int)) (.int (0 : Int32)) := (V_bH_42.other W45 (nd hnd 7 10 rfl rfl))
    refine E_iastore (pc' := 120) (i := 0) cx st46 V48 ⟨by decide, by decide⟩ rfl (Nat.zero_lt_succ _) g_bH d8_119 rfl ?_
    intro T49 h49 st49 W49 V49
    have Z49 : n0 ≤ h49.size := Nat.le_trans Z45 (Keep.of_wr W49).1
    have K49 : Keep h0 h49 [o, c0, bF, bG, bO, bH, bT, hP, nw] := K45.wr W49 (mi 5 rfl)
    have V49p : Arv Z h49 bH k_bH_42 .int (16 : Int32) ((.int (0 : Int32)) :: (.int d1) :: (dr.map Value.int)) (.int (0 : Int32)) := V49
    refine E_aloadN (pc' := 121) cx st49 d8_120 rfl rfl rfl ?_
    have B51 : OL Z h49 o [(.int gt), (.ref cl), (.int (-1 : Int32)), (.int (1 : Int32)), (.int (0 : Int32)), (.ref bF), (.ref bG), (.ref bO), (.ref bH), (.ref bT), (.int (-1 : Int32)), (.int (1 : Int32)), (.long (1 : Int64)), (.ref hP), (.int (0 : Int32)), (.ref nw)] := (B47.other W49 (nd hnd 0 7 rfl rfl))
    refine E_getfield (pc' := 124) (v := (.ref bT)) cx st49 (wd hw 54 rfl) (B51.at 9 (by decide) rfl rfl) d8_121 rfl ?_
    intro T50 st50
    refine E_iload (pc' := 126) cx st50 d8_124 rfl rfl ?_
    refine E_iload (pc' := 128) cx st50 d8_126 rfl rfl ?_
    have V52 : Arv Z h49 bT k_bT_42 .int (16 : Int32) ((.int t0) :: (.int t1) :: (tr.map Value.int)) (.int (0 : Int32)) := ((V_bT_42.other W45 (nd hnd 8 10 rfl rfl)).other W49 (nd hnd 8 7 rfl rfl))
    refine E_iastore (pc' := 129) (i := 0) cx st50 V52 ⟨by decide, by decide⟩ rfl (Nat.zero_lt_succ _) g_bT d8_128 rfl ?_
    intro T53 h53 st53 W53 V53
    have Z53 : n0 ≤ h53.size := Nat.le_trans Z49 (Keep.of_wr W53).1
    have K53 : Keep h0 h53 [o, c0, bF, bG, bO, bH, bT, hP, nw] := K49.wr W53 (mi 6 rfl)
    have V53p : Arv Z h53 bT k_bT_42 .int (16 : Int32) ((.int (0 : Int32)) :: (.int t1) :: (tr.map Value.int)) (.int (0 : Int32)) := V53
    refine E_aloadN (pc' := 130) cx st53 d8_129 rfl rfl rfl ?_
    refine E_iload (pc' := 132) cx st53 d8_130 rfl rfl ?_
    have X54 : Exa Z h53 o "com/example/flat_planner/flatplanner/OpenList" := (((X_o_42.wr W45).wr W49).wr W53)
    have B55 : OL Z h53 o [(.int gt), (.ref cl), (.int (-1 : Int32)), (.int (1 : Int32)), (.int (0 : Int32)), (.ref bF), (.ref bG), (.ref bO), (.ref bH), (.ref bT), (.int (-1 : Int32)), (.int (1 : Int32)), (.long (1 : Int64)), (.ref hP), (.int (0 : Int32)), (.ref nw)] := (B51.other W53 (nd hnd 0 8 rfl rfl))
    have HL56 : LCF Z h53 cl cs := (((HL_42.other W45 (nd hnd 1 10 rfl rfl)).other W49 (nd hnd 1 7 rfl rfl)).other W53 (nd hnd 1 8 rfl rfl))
    have V57 : Arv Z h53 cs k_cs_42 (.array .long) (1 : Int32) [(.ref c0)] .null := (((V_cs_42.other W45 (nd hnd 2 10 rfl rfl)).other W49 (nd hnd 2 7 rfl rfl)).other W53 (nd hnd 2 8 rfl rfl))
    have V58 : Arv Z h53 c0 k_c0_42 .long (16 : Int32) ((.long (mkE id)) :: (.long e1) :: (er.map Value.long)) (.long (0 : Int64)) := (((V_c0_42.other W45 (nd hnd 3 10 rfl rfl)).other W49 (nd hnd 3 7 rfl rfl)).other W53 (nd hnd 3 8 rfl rfl))
    have V59 : Arv Z h53 bF k_bF_42 .long (16 : Int32) ((.long pf) :: (.long f1) :: (fr.map Value.long)) (.long (0 : Int64)) := (((V_bF_42.other W45 (nd hnd 4 10 rfl rfl)).other W49 (nd hnd 4 7 rfl rfl)).other W53 (nd hnd 4 8 rfl rfl))
    have V60 : Arv Z h53 bG k_bG_42 .long (16 : Int32) ((.long pg) :: (.long g1) :: (gr.map Value.long)) (.long (0 : Int64)) := (((V_bG_42.other W45 (nd hnd 5 10 rfl rfl)).other W49 (nd hnd 5 7 rfl rfl)).other W53 (nd hnd 5 8 rfl rfl))
    have V61 : Arv Z h53 bO k_bO_42 .long (16 : Int32) ((.long (0 : Int64)) :: (.long q1) :: (qr.map Value.long)) (.long (0 : Int64)) := (((V_bO_42.other W45 (nd hnd 6 10 rfl rfl)).other W49 (nd hnd 6 7 rfl rfl)).other W53 (nd hnd 6 8 rfl rfl))
    have V62 : Arv Z h53 bH k_bH_42 .int (16 : Int32) ((.int (0 : Int32)) :: (.int d1) :: (dr.map Value.int)) (.int (0 : Int32)) := (V49p.other W53 (nd hnd 7 8 rfl rfl))
    have V63 : Arv Z h53 hP k_hP_42 .int (16 : Int32) ((.int p0) :: (.int p1) :: (pr.map Value.int)) (.int (0 : Int32)) := (((V_hP_42.other W45 (nd hnd 9 10 rfl rfl)).other W49 (nd hnd 9 7 rfl rfl)).other W53 (nd hnd 9 8 rfl rfl))
    have V64 : Arv Z h53 nw k_nw_42 .int (32 : Int32) ((ns.set (slt pf pg).toNatClampNeg (0 : Int32)).map Value.int) (.int (0 : Int32)) := ((V45p.other W49 (nd hnd 10 7 rfl rfl)).other W53 (nd hnd 10 8 rfl rfl))
    refine E_callP (pc' := 135) (kc' := 0) (ks' := 0) (W := 0) (a := o) (argsL := [(.int (0 : Int32))]) cx st53 [] (rmheapPush0 l Z a0 hw o cl cs c0 bF bG bO bH bT hP nw h53 n0 Z53 gt (-1 : Int32) (1 : Int32) (0 : Int32) (-1 : Int32) (1 : Int32) (1 : Int64) (mkE id) e1 er pf f1 fr pg g1 gr (0 : Int64) q1 qr (0 : Int32) d1 dr (0 : Int32) t1 tr p0 p1 pr (ns.set (slt pf pg).toNatClampNeg (0 : Int32)) hnd hge ⟨X54, B55, HL56, ⟨_, V57⟩, ⟨_, V58⟩, ⟨_, V59⟩, ⟨_, V60⟩, ⟨_, V61⟩, ⟨_, V62⟩, ⟨_, V53p⟩, ⟨_, V63⟩, ⟨_, V64⟩⟩ ) X54 (wd hw 112 rfl) (wd hw 114 rfl) (wd hw 1 rfl) (wd hw 113 rfl) (wd hw 2 rfl) (wd hw 115 rfl) d8_132 rfl rfl (lenOf pd_2 rfl) (Nat.le_of_eq rfl) (by decide) (by decide) (by decide) (by decide) (by decide) (by decide) (by decide) rfl ?_
    intro v65 T65 h65 st65 hq65
    obtain ⟨rfl, Kw65, Hw65⟩ := hq65
    have Z65 : n0 ≤ h65.size := Nat.le_trans Z53 Kw65.1
    have KKw65' : Keep h0 h65 [o, c0, bF, bG, bO, bH, bT, hP, nw] := K53.trans Kw65 (allS (mi 0 rfl) (allS (mi 1 rfl) (allS (mi 2 rfl) (allS (mi 3 rfl) (allS (mi 4 rfl) (allS (mi 5 rfl) (allS (mi 6 rfl) (allS (mi 7 rfl) (allS (mi 8 rfl) all0)))))))))
    obtain ⟨X_o_65, B_o_65, HL_65, ⟨k_cs_65, V_cs_65⟩, ⟨k_c0_65, V_c0_65⟩, ⟨k_bF_65, V_bF_65⟩, ⟨k_bG_65, V_bG_65⟩, ⟨k_bO_65, V_bO_65⟩, ⟨k_bH_65, V_bH_65⟩, ⟨k_bT_65, V_bT_65⟩, ⟨k_hP_65, V_hP_65⟩, ⟨k_nw_65, V_nw_65⟩⟩ := Hw65
    refine E_aloadN (pc' := 136) cx st65 d8_135 rfl rfl rfl ?_
    refine E_dup (pc' := 137) cx st65 d8_136 rfl rfl ?_
    refine E_getfield (pc' := 140) (v := (.int (0 : Int32))) cx st65 (wd hw 118 rfl) (B_o_65.at 4 (by decide) rfl rfl) d8_137 rfl ?_
    intro T66 st66
    refine E_iconst (pc' := 141) cx st66 (1 : Int32) d8_140 rfl rfl ?_
    refine E_iadd (pc' := 142) cx st66 d8_141 rfl ?_
    rw [show ((0 : Int32) + (1 : Int32)) = (1 : Int32) from by decide]
    refine E_putfield (pc' := 145) (ty := .int) cx st66 (wd hw 118 rfl) (B_o_65.at 4 (by decide) rfl rfl) X_o_65 (Or.inl (wd hw 119 rfl)) (wd hw 1 rfl) (by decide) rfl rfl g_o d8_142 rfl ?_
    intro T67 h67 st67 W67
    have Z67 : n0 ≤ h67.size := Nat.le_trans Z65 (Keep.of_wr W67).1
    have K67 : Keep h0 h67 [o, c0, bF, bG, bO, bH, bT, hP, nw] := KKw65'.wr W67 (mi 0 rfl)
    have B67w : OL Z h67 o [(.int gt), (.ref cl), (.int (-1 : Int32)), (.int (1 : Int32)), (.int (1 : Int32)), (.ref bF), (.ref bG), (.ref bO), (.ref bH), (.ref bT), (.int (-1 : Int32)), (.int (1 : Int32)), (.long (1 : Int64)), (.ref hP), (.int (1 : Int32)), (.ref nw)] := B_o_65.wr hw 4 (by decide) rfl W67 (Nat.le_of_ble_eq_true rfl)
    have X68 : Exa Z h67 o "com/example/flat_planner/flatplanner/OpenList" := (X_o_65.wr W67)
    have HL69 : LCF Z h67 cl cs := (HL_65.other W67 (nd hnd 1 0 rfl rfl))
    have V70 : Arv Z h67 cs k_cs_65 (.array .long) (1 : Int32) [(.ref c0)] .null := (V_cs_65.other W67 (nd hnd 2 0 rfl rfl))
    have V71 : Arv Z h67 c0 k_c0_65 .long (16 : Int32) ((.long (mkE id)) :: (.long e1) :: (er.map Value.long)) (.long (0 : Int64)) := (V_c0_65.other W67 (nd hnd 3 0 rfl rfl))
    have V72 : Arv Z h67 bF k_bF_65 .long (16 : Int32) ((.long pf) :: (.long f1) :: (fr.map Value.long)) (.long (0 : Int64)) := (V_bF_65.other W67 (nd hnd 4 0 rfl rfl))
    have V73 : Arv Z h67 bG k_bG_65 .long (16 : Int32) ((.long pg) :: (.long g1) :: (gr.map Value.long)) (.long (0 : Int64)) := (V_bG_65.other W67 (nd hnd 5 0 rfl rfl))
    have V74 : Arv Z h67 bO k_bO_65 .long (16 : Int32) ((.long (0 : Int64)) :: (.long q1) :: (qr.map Value.long)) (.long (0 : Int64)) := (V_bO_65.other W67 (nd hnd 6 0 rfl rfl))
    have V75 : Arv Z h67 bH k_bH_65 .int (16 : Int32) ((.int (0 : Int32)) :: (.int d1) :: (dr.map Value.int)) (.int (0 : Int32)) := (V_bH_65.other W67 (nd hnd 7 0 rfl rfl))
    have V76 : Arv Z h67 bT k_bT_65 .int (16 : Int32) ((.int (0 : Int32)) :: (.int t1) :: (tr.map Value.int)) (.int (0 : Int32)) := (V_bT_65.other W67 (nd hnd 8 0 rfl rfl))
    have V77 : Arv Z h67 hP k_hP_65 .int (16 : Int32) ((.int (0 : Int32)) :: (.int p1) :: (pr.map Value.int)) (.int (0 : Int32)) := (V_hP_65.other W67 (nd hnd 9 0 rfl rfl))
    have V78 : Arv Z h67 nw k_nw_65 .int (32 : Int32) ((ns.set (slt pf pg).toNatClampNeg (0 : Int32)).map Value.int) (.int (0 : Int32)) := (V_nw_65.other W67 (nd hnd 10 0 rfl rfl))
    refine E_return cx st67 d8_145 rfl (by decide) (by decide) ?_
    exact ⟨rfl, K67, ⟨X68, B67w, HL69, ⟨_, V70⟩, ⟨_, V71⟩, ⟨_, V72⟩, ⟨_, V73⟩, ⟨_, V74⟩, ⟨_, V75⟩, ⟨_, V76⟩, ⟨_, V77⟩, ⟨_, V78⟩⟩⟩
  · rw [hk1]
    refine E_istore (pc' := 21) (L' := #[.val (.ref o), .val (.int id), .val (.long pf), .second, .val (.long pg), .second, .val (.int (0 : Int32)), .val (.int (1 : Int32)), .unset]) cx st3 d8_19 rfl rfl ?_
    refine E_iload (pc' := 23) cx st3 d8_21 rfl rfl ?_
    refine E_iconst (pc' := 24) cx st3 (-1 : Int32) d8_23 rfl rfl ?_
    refine E_icmp_eqN (pc' := 27) cx st3 d8_24 rfl (by decide) ?_
    refine E_aloadN (pc' := 28) cx st3 d8_27 rfl rfl rfl ?_
    refine E_getfield (pc' := 31) (v := (.ref bH)) cx st3 (wd hw 52 rfl) (B_o_1.at 8 (by decide) rfl rfl) d8_28 rfl ?_
    intro T79 st79
    refine E_iload (pc' := 33) cx st79 d8_31 rfl rfl ?_
    refine E_iaload (pc' := 34) (x := d1) cx st79 V_bH_1 ⟨by decide, by decide⟩ rfl d8_33 rfl ?_
    refine E_iconst (pc' := 35) cx st79 (-1 : Int32) d8_34 rfl rfl ?_
    refine E_icmp_eqY (pc' := 88) cx st79 d8_35 (by decide) (by decide) hk2 ?_
    refine E_aloadN (pc' := 89) cx st79 d8_88 rfl rfl rfl ?_
    refine E_lloadN (pc' := 90) cx st79 d8_89 rfl rfl ?_
    refine E_lload (pc' := 92) cx st79 d8_90 rfl rfl ?_
    refine E_callP (pc' := 95) (kc' := 0) (ks' := 0) (W := 0) (a := o) (argsL := [(.long pf), (.long pg)]) cx st79 [] (rmstartBucket0 l Z a0 hw o cl cs c0 bF bG bO bH bT hP nw h1 n0 Z1 gt (-1 : Int32) (1 : Int32) (0 : Int32) (0 : Int32) (mkE id) e1 er f0 f1 fr g0 g1 gr q0 q1 qr d0 d1 dr t0 t1 tr p0 p1 pr ns pf pg hnd hge ⟨X_o_1, B_o_1, HL_1, ⟨_, V_cs_1⟩, ⟨_, V_c0_1⟩, ⟨_, V_bF_1⟩, ⟨_, V_bG_1⟩, ⟨_, V_bO_1⟩, ⟨_, V_bH_1⟩, ⟨_, V_bT_1⟩, ⟨_, V_hP_1⟩, ⟨_, V_nw_1⟩⟩ ) X_o_1 (wd hw 104 rfl) (wd hw 106 rfl) (wd hw 1 rfl) (wd hw 105 rfl) (wd hw 2 rfl) (wd hw 107 rfl) d8_92 rfl rfl (lenOf pd_8 rfl) (Nat.le_of_eq rfl) (by decide) (by decide) (by decide) (by decide) (by decide) (by decide) (by decide) rfl ?_
    intro v80 T80 h80 st80 hq80
    obtain ⟨rfl, Kw80, Hw80⟩ := hq80
    have Z80 : n0 ≤ h80.size := Nat.le_trans Z1 Kw80.1
    have KKw80' : Keep h0 h80 [o, c0, bF, bG, bO, bH, bT, hP, nw] := KKw1'.trans Kw80 (allS (mi 0 rfl) (allS (mi 1 rfl) (allS (mi 2 rfl) (allS (mi 3 rfl) (allS (mi 4 rfl) (allS (mi 5 rfl) (allS (mi 6 rfl) (allS (mi 7 rfl) (allS (mi 8 rfl) all0)))))))))
    obtain ⟨X_o_80, B_o_80, HL_80, ⟨k_cs_80, V_cs_80⟩, ⟨k_c0_80, V_c0_80⟩, ⟨k_bF_80, V_bF_80⟩, ⟨k_bG_80, V_bG_80⟩, ⟨k_bO_80, V_bO_80⟩, ⟨k_bH_80, V_bH_80⟩, ⟨k_bT_80, V_bT_80⟩, ⟨k_hP_80, V_hP_80⟩, ⟨k_nw_80, V_nw_80⟩⟩ := Hw80
    refine E_istore (pc' := 97) (L' := #[.val (.ref o), .val (.int id), .val (.long pf), .second, .val (.long pg), .second, .val (.int (0 : Int32)), .val (.int (1 : Int32)), .val (.int (0 : Int32))]) cx st80 d8_95 rfl rfl ?_
    refine E_aloadN (pc' := 98) cx st80 d8_97 rfl rfl rfl ?_
    refine E_getfield (pc' := 101) (v := (.ref nw)) cx st80 (wd hw 60 rfl) (B_o_80.at 15 (by decide) rfl rfl) d8_98 rfl ?_
    intro T81 st81
    refine E_aloadN (pc' := 102) cx st81 d8_101 rfl rfl rfl ?_
    refine E_lloadN (pc' := 103) cx st81 d8_102 rfl rfl ?_
    refine E_lload (pc' := 105) cx st81 d8_103 rfl rfl ?_
    refine E_callP (pc' := 108) (kc' := 0) (ks' := 0) (W := 1) (a := o) (argsL := [(.long pf), (.long pg)]) cx st81 [(.ref nw)] (rmslot l Z a0 hw o cl cs c0 bF bG bO bH bT hP nw h80 n0 Z80 gt (-1 : Int32) (1 : Int32) (0 : Int32) (-1 : Int32) (1 : Int32) (1 : Int64) (0 : Int32) (mkE id) e1 er pf f1 fr pg g1 gr (0 : Int64) q1 qr d0 d1 dr t0 t1 tr p0 p1 pr ns pf pg hnd hge ⟨X_o_80, B_o_80, HL_80, ⟨_, V_cs_80⟩, ⟨_, V_c0_80⟩, ⟨_, V_bF_80⟩, ⟨_, V_bG_80⟩, ⟨_, V_bO_80⟩, ⟨_, V_bH_80⟩, ⟨_, V_bT_80⟩, ⟨_, V_hP_80⟩, ⟨_, V_nw_80⟩⟩ ) X_o_80 (wd hw 99 rfl) (wd hw 101 rfl) (wd hw 1 rfl) (wd hw 100 rfl) (wd hw 2 rfl) (wd hw 102 rfl) d8_105 rfl rfl (lenOf pd_8 rfl) (Nat.le_of_eq rfl) (by decide) (by decide) (by decide) (by decide) (by decide) (by decide) (by decide) rfl ?_
    intro v82 T82 h82 st82 hq82
    obtain ⟨rfl, hh82⟩ := hq82
    rw [hh82] at st82
    refine E_iload (pc' := 110) cx st82 d8_108 rfl rfl ?_
    refine E_iastore (pc' := 111) (i := (slt pf pg).toNatClampNeg) cx st82 V_nw_80 (slt_b pf pg) rfl (by rw [List.length_map, hnl]; exact (i32_small (n := 32) (slt_b pf pg) (by decide)).1) g_nw d8_110 rfl ?_
    intro T83 h83 st83 W83 V83
    have Z83 : n0 ≤ h83.size := Nat.le_trans Z80 (Keep.of_wr W83).1
    have K83 : Keep h0 h83 [o, c0, bF, bG, bO, bH, bT, hP, nw] := KKw80'.wr W83 (mi 8 rfl)
    have V83p : Arv Z h83 nw k_nw_80 .int (32 : Int32) ((ns.set (slt pf pg).toNatClampNeg (0 : Int32)).map Value.int) (.int (0 : Int32)) := by rw [List.map_set]; exact V83
    refine E_aloadN (pc' := 112) cx st83 d8_111 rfl rfl rfl ?_
    have B85 : OL Z h83 o [(.int gt), (.ref cl), (.int (-1 : Int32)), (.int (1 : Int32)), (.int (0 : Int32)), (.ref bF), (.ref bG), (.ref bO), (.ref bH), (.ref bT), (.int (-1 : Int32)), (.int (1 : Int32)), (.long (1 : Int64)), (.ref hP), (.int (0 : Int32)), (.ref nw)] := (B_o_80.other W83 (nd hnd 0 10 rfl rfl))
    refine E_getfield (pc' := 115) (v := (.ref bH)) cx st83 (wd hw 52 rfl) (B85.at 8 (by decide) rfl rfl) d8_112 rfl ?_
    intro T84 st84
    refine E_iload (pc' := 117) cx st84 d8_115 rfl rfl ?_
    refine E_iload (pc' := 119) cx st84 d8_117 rfl rfl ?_
    have V86 : Arv Z h83 bH k_bH_80 .int (16 : Int32) ((.int d0) :: (.int d1) :: (dr.map Value.int)) (.int (0 : Int32)) := (V_bH_80.other W83 (nd hnd 7 10 rfl rfl))
    refine E_iastore (pc' := 120) (i := 0) cx st84 V86 ⟨by decide, by decide⟩ rfl (Nat.zero_lt_succ _) g_bH d8_119 rfl ?_
    intro T87 h87 st87 W87 V87
    have Z87 : n0 ≤ h87.size := Nat.le_trans Z83 (Keep.of_wr W87).1
    have K87 : Keep h0 h87 [o, c0, bF, bG, bO, bH, bT, hP, nw] := K83.wr W87 (mi 5 rfl)
    have V87p : Arv Z h87 bH k_bH_80 .int (16 : Int32) ((.int (0 : Int32)) :: (.int d1) :: (dr.map Value.int)) (.int (0 : Int32)) := V87
    refine E_aloadN (pc' := 121) cx st87 d8_120 rfl rfl rfl ?_
    have B89 : OL Z h87 o [(.int gt), (.ref cl), (.int (-1 : Int32)), (.int (1 : Int32)), (.int (0 : Int32)), (.ref bF), (.ref bG), (.ref bO), (.ref bH), (.ref bT), (.int (-1 : Int32)), (.int (1 : Int32)), (.long (1 : Int64)), (.ref hP), (.int (0 : Int32)), (.ref nw)] := (B85.other W87 (nd hnd 0 7 rfl rfl))
    refine E_getfield (pc' := 124) (v := (.ref bT)) cx st87 (wd hw 54 rfl) (B89.at 9 (by decide) rfl rfl) d8_121 rfl ?_
    intro T88 st88
    refine E_iload (pc' := 126) cx st88 d8_124 rfl rfl ?_
    refine E_iload (pc' := 128) cx st88 d8_126 rfl rfl ?_
    have V90 : Arv Z h87 bT k_bT_80 .int (16 : Int32) ((.int t0) :: (.int t1) :: (tr.map Value.int)) (.int (0 : Int32)) := ((V_bT_80.other W83 (nd hnd 8 10 rfl rfl)).other W87 (nd hnd 8 7 rfl rfl))
    refine E_iastore (pc' := 129) (i := 0) cx st88 V90 ⟨by decide, by decide⟩ rfl (Nat.zero_lt_succ _) g_bT d8_128 rfl ?_
    intro T91 h91 st91 W91 V91
    have Z91 : n0 ≤ h91.size := Nat.le_trans Z87 (Keep.of_wr W91).1
    have K91 : Keep h0 h91 [o, c0, bF, bG, bO, bH, bT, hP, nw] := K87.wr W91 (mi 6 rfl)
    have V91p : Arv Z h91 bT k_bT_80 .int (16 : Int32) ((.int (0 : Int32)) :: (.int t1) :: (tr.map Value.int)) (.int (0 : Int32)) := V91
    refine E_aloadN (pc' := 130) cx st91 d8_129 rfl rfl rfl ?_
    refine E_iload (pc' := 132) cx st91 d8_130 rfl rfl ?_
    have X92 : Exa Z h91 o "com/example/flat_planner/flatplanner/OpenList" := (((X_o_80.wr W83).wr W87).wr W91)
    have B93 : OL Z h91 o [(.int gt), (.ref cl), (.int (-1 : Int32)), (.int (1 : Int32)), (.int (0 : Int32)), (.ref bF), (.ref bG), (.ref bO), (.ref bH), (.ref bT), (.int (-1 : Int32)), (.int (1 : Int32)), (.long (1 : Int64)), (.ref hP), (.int (0 : Int32)), (.ref nw)] := (B89.other W91 (nd hnd 0 8 rfl rfl))
    have HL94 : LCF Z h91 cl cs := (((HL_80.other W83 (nd hnd 1 10 rfl rfl)).other W87 (nd hnd 1 7 rfl rfl)).other W91 (nd hnd 1 8 rfl rfl))
    have V95 : Arv Z h91 cs k_cs_80 (.array .long) (1 : Int32) [(.ref c0)] .null := (((V_cs_80.other W83 (nd hnd 2 10 rfl rfl)).other W87 (nd hnd 2 7 rfl rfl)).other W91 (nd hnd 2 8 rfl rfl))
    have V96 : Arv Z h91 c0 k_c0_80 .long (16 : Int32) ((.long (mkE id)) :: (.long e1) :: (er.map Value.long)) (.long (0 : Int64)) := (((V_c0_80.other W83 (nd hnd 3 10 rfl rfl)).other W87 (nd hnd 3 7 rfl rfl)).other W91 (nd hnd 3 8 rfl rfl))
    have V97 : Arv Z h91 bF k_bF_80 .long (16 : Int32) ((.long pf) :: (.long f1) :: (fr.map Value.long)) (.long (0 : Int64)) := (((V_bF_80.other W83 (nd hnd 4 10 rfl rfl)).other W87 (nd hnd 4 7 rfl rfl)).other W91 (nd hnd 4 8 rfl rfl))
    have V98 : Arv Z h91 bG k_bG_80 .long (16 : Int32) ((.long pg) :: (.long g1) :: (gr.map Value.long)) (.long (0 : Int64)) := (((V_bG_80.other W83 (nd hnd 5 10 rfl rfl)).other W87 (nd hnd 5 7 rfl rfl)).other W91 (nd hnd 5 8 rfl rfl))
    have V99 : Arv Z h91 bO k_bO_80 .long (16 : Int32) ((.long (0 : Int64)) :: (.long q1) :: (qr.map Value.long)) (.long (0 : Int64)) := (((V_bO_80.other W83 (nd hnd 6 10 rfl rfl)).other W87 (nd hnd 6 7 rfl rfl)).other W91 (nd hnd 6 8 rfl rfl))
    have V100 : Arv Z h91 bH k_bH_80 .int (16 : Int32) ((.int (0 : Int32)) :: (.int d1) :: (dr.map Value.int)) (.int (0 : Int32)) := (V87p.other W91 (nd hnd 7 8 rfl rfl))
    have V101 : Arv Z h91 hP k_hP_80 .int (16 : Int32) ((.int p0) :: (.int p1) :: (pr.map Value.int)) (.int (0 : Int32)) := (((V_hP_80.other W83 (nd hnd 9 10 rfl rfl)).other W87 (nd hnd 9 7 rfl rfl)).other W91 (nd hnd 9 8 rfl rfl))
    have V102 : Arv Z h91 nw k_nw_80 .int (32 : Int32) ((ns.set (slt pf pg).toNatClampNeg (0 : Int32)).map Value.int) (.int (0 : Int32)) := ((V83p.other W87 (nd hnd 10 7 rfl rfl)).other W91 (nd hnd 10 8 rfl rfl))
    refine E_callP (pc' := 135) (kc' := 0) (ks' := 0) (W := 0) (a := o) (argsL := [(.int (0 : Int32))]) cx st91 [] (rmheapPush0 l Z a0 hw o cl cs c0 bF bG bO bH bT hP nw h91 n0 Z91 gt (-1 : Int32) (1 : Int32) (0 : Int32) (-1 : Int32) (1 : Int32) (1 : Int64) (mkE id) e1 er pf f1 fr pg g1 gr (0 : Int64) q1 qr (0 : Int32) d1 dr (0 : Int32) t1 tr p0 p1 pr (ns.set (slt pf pg).toNatClampNeg (0 : Int32)) hnd hge ⟨X92, B93, HL94, ⟨_, V95⟩, ⟨_, V96⟩, ⟨_, V97⟩, ⟨_, V98⟩, ⟨_, V99⟩, ⟨_, V100⟩, ⟨_, V91p⟩, ⟨_, V101⟩, ⟨_, V102⟩⟩ ) X92 (wd hw 112 rfl) (wd hw 114 rfl) (wd hw 1 rfl) (wd hw 113 rfl) (wd hw 2 rfl) (wd hw 115 rfl) d8_132 rfl rfl (lenOf pd_2 rfl) (Nat.le_of_eq rfl) (by decide) (by decide) (by decide) (by decide) (by decide) (by decide) (by decide) rfl ?_
    intro v103 T103 h103 st103 hq103
    obtain ⟨rfl, Kw103, Hw103⟩ := hq103
    have Z103 : n0 ≤ h103.size := Nat.le_trans Z91 Kw103.1
    have KKw103' : Keep h0 h103 [o, c0, bF, bG, bO, bH, bT, hP, nw] := K91.trans Kw103 (allS (mi 0 rfl) (allS (mi 1 rfl) (allS (mi 2 rfl) (allS (mi 3 rfl) (allS (mi 4 rfl) (allS (mi 5 rfl) (allS (mi 6 rfl) (allS (mi 7 rfl) (allS (mi 8 rfl) all0)))))))))
    obtain ⟨X_o_103, B_o_103, HL_103, ⟨k_cs_103, V_cs_103⟩, ⟨k_c0_103, V_c0_103⟩, ⟨k_bF_103, V_bF_103⟩, ⟨k_bG_103, V_bG_103⟩, ⟨k_bO_103, V_bO_103⟩, ⟨k_bH_103, V_bH_103⟩, ⟨k_bT_103, V_bT_103⟩, ⟨k_hP_103, V_hP_103⟩, ⟨k_nw_103, V_nw_103⟩⟩ := Hw103
    refine E_aloadN (pc' := 136) cx st103 d8_135 rfl rfl rfl ?_
    refine E_dup (pc' := 137) cx st103 d8_136 rfl rfl ?_
    refine E_getfield (pc' := 140) (v := (.int (0 : Int32))) cx st103 (wd hw 118 rfl) (B_o_103.at 4 (by decide) rfl rfl) d8_137 rfl ?_
    intro T104 st104
    refine E_iconst (pc' := 141) cx st104 (1 : Int32) d8_140 rfl rfl ?_
    refine E_iadd (pc' := 142) cx st104 d8_141 rfl ?_
    rw [show ((0 : Int32) + (1 : Int32)) = (1 : Int32) from by decide]
    refine E_putfield (pc' := 145) (ty := .int) cx st104 (wd hw 118 rfl) (B_o_103.at 4 (by decide) rfl rfl) X_o_103 (Or.inl (wd hw 119 rfl)) (wd hw 1 rfl) (by decide) rfl rfl g_o d8_142 rfl ?_
    intro T105 h105 st105 W105
    have Z105 : n0 ≤ h105.size := Nat.le_trans Z103 (Keep.of_wr W105).1
    have K105 : Keep h0 h105 [o, c0, bF, bG, bO, bH, bT, hP, nw] := KKw103'.wr W105 (mi 0 rfl)
    have B105w : OL Z h105 o [(.int gt), (.ref cl), (.int (-1 : Int32)), (.int (1 : Int32)), (.int (1 : Int32)), (.ref bF), (.ref bG), (.ref bO), (.ref bH), (.ref bT), (.int (-1 : Int32)), (.int (1 : Int32)), (.long (1 : Int64)), (.ref hP), (.int (1 : Int32)), (.ref nw)] := B_o_103.wr hw 4 (by decide) rfl W105 (Nat.le_of_ble_eq_true rfl)
    have X106 : Exa Z h105 o "com/example/flat_planner/flatplanner/OpenList" := (X_o_103.wr W105)
    have HL107 : LCF Z h105 cl cs := (HL_103.other W105 (nd hnd 1 0 rfl rfl))
    have V108 : Arv Z h105 cs k_cs_103 (.array .long) (1 : Int32) [(.ref c0)] .null := (V_cs_103.other W105 (nd hnd 2 0 rfl rfl))
    have V109 : Arv Z h105 c0 k_c0_103 .long (16 : Int32) ((.long (mkE id)) :: (.long e1) :: (er.map Value.long)) (.long (0 : Int64)) := (V_c0_103.other W105 (nd hnd 3 0 rfl rfl))
    have V110 : Arv Z h105 bF k_bF_103 .long (16 : Int32) ((.long pf) :: (.long f1) :: (fr.map Value.long)) (.long (0 : Int64)) := (V_bF_103.other W105 (nd hnd 4 0 rfl rfl))
    have V111 : Arv Z h105 bG k_bG_103 .long (16 : Int32) ((.long pg) :: (.long g1) :: (gr.map Value.long)) (.long (0 : Int64)) := (V_bG_103.other W105 (nd hnd 5 0 rfl rfl))
    have V112 : Arv Z h105 bO k_bO_103 .long (16 : Int32) ((.long (0 : Int64)) :: (.long q1) :: (qr.map Value.long)) (.long (0 : Int64)) := (V_bO_103.other W105 (nd hnd 6 0 rfl rfl))
    have V113 : Arv Z h105 bH k_bH_103 .int (16 : Int32) ((.int (0 : Int32)) :: (.int d1) :: (dr.map Value.int)) (.int (0 : Int32)) := (V_bH_103.other W105 (nd hnd 7 0 rfl rfl))
    have V114 : Arv Z h105 bT k_bT_103 .int (16 : Int32) ((.int (0 : Int32)) :: (.int t1) :: (tr.map Value.int)) (.int (0 : Int32)) := (V_bT_103.other W105 (nd hnd 8 0 rfl rfl))
    have V115 : Arv Z h105 hP k_hP_103 .int (16 : Int32) ((.int (0 : Int32)) :: (.int p1) :: (pr.map Value.int)) (.int (0 : Int32)) := (V_hP_103.other W105 (nd hnd 9 0 rfl rfl))
    have V116 : Arv Z h105 nw k_nw_103 .int (32 : Int32) ((ns.set (slt pf pg).toNatClampNeg (0 : Int32)).map Value.int) (.int (0 : Int32)) := (V_nw_103.other W105 (nd hnd 10 0 rfl rfl))
    refine E_return cx st105 d8_145 rfl (by decide) (by decide) ?_
    exact ⟨rfl, K105, ⟨X106, B105w, HL107, ⟨_, V108⟩, ⟨_, V109⟩, ⟨_, V110⟩, ⟨_, V111⟩, ⟨_, V112⟩, ⟨_, V113⟩, ⟨_, V114⟩, ⟨_, V115⟩, ⟨_, V116⟩⟩⟩
theorem ef_push2A (m : MethodId) (x0 : Addr) (x1 : Int32) (x2 : Int64) (x3 : Int64) : entryFrame m #[(.ref x0), (.int x1), (.long x2), (.long x3)] 9 = mkF m 0 #[.val (.ref x0), .val (.int x1), .val (.long x2), .second, .val (.long x3), .second, .unset, .unset, .unset] [] := by first | (simp [entryFrame, mkF, argsToLocals, Value.category]; done) | rfl
theorem pd_9 : parseMethodDescriptor "(II)V" = some ⟨[.int, .int], none⟩ := by decide +kernel
set_option maxRecDepth 65536 in
set_option maxHeartbeats 40000000 in
theorem rmpush2A (l : Launch) (Z : State) (a0 : Array Value) (hw : ∀ d ∈ tables_1, d.before a0 Z = true) (o : Addr) (cl : Addr) (cs : Addr) (c0 : Addr) (bF : Addr) (bG : Addr) (bO : Addr) (bH : Addr) (bT : Addr) (hP : Addr) (nw : Addr) (h0 : Heap) (n0 : Nat) (Z0 : n0 ≤ h0.size) (gt : Int32) (e0 : Int64) (e1 : Int64) (er : List Int64) (pf : Int64) (f1 : Int64) (fr : List Int64) (pg : Int64) (g1 : Int64) (gr : List Int64) (q0 : Int64) (q1 : Int64) (qr : List Int64) (d1 : Int32) (dr : List Int32) (t1 : Int32) (tr : List Int32) (p1 : Int32) (pr : List Int32) (ns : List Int32) (id : Int32) (hnd : [o, cl, cs, c0, bF, bG, bO, bH, bT, hP, nw].Nodup) (hge : ∀ a ∈ [o, cl, cs, c0, bF, bG, bO, bH, bT, hP, nw], n0 ≤ a) (H0 : Wd Z h0 o cl cs c0 bF bG bO bH bT hP nw gt (-1 : Int32) (1 : Int32) (1 : Int32) (-1 : Int32) (1 : Int32) (1 : Int32) (1 : Int64) e0 e1 er pf f1 fr pg g1 gr q0 q1 qr (0 : Int32) d1 dr (0 : Int32) t1 tr (0 : Int32) p1 pr ns) (hnl : ns.length = 32) (hk : (ns.getD (slt pf pg).toNatClampNeg 0) = 0) :
    Con l Z (⟨"com/example/flat_planner/flatplanner/OpenList", "push", "(IJJ)V"⟩ : MethodName) prog_16_method_3_code 9 none ({ frames := 3, cells := 0, slots := 0, locals := 43 } : Room) #[(.ref o), (.int id), (.long pf), (.long pg)] h0 n0 (fun v h => v = none ∧ Keep h0 h [o, c0, bF, bG, bO, bH, bT, hP, nw] ∧ Wd Z h o cl cs c0 bF bG bO bH bT hP nw gt (-1 : Int32) (2 : Int32) (2 : Int32) (-1 : Int32) (1 : Int32) (1 : Int32) (1 : Int64) (nxE e0 (1 : Int32)) (mkE id) er pf f1 fr pg g1 gr q0 q1 qr (0 : Int32) d1 dr (1 : Int32) t1 tr (0 : Int32) p1 pr ns) := by
  refine Con.of (own := "com/example/flat_planner/flatplanner/OpenList") (name := "push") (plainFor_of_name pn_3) (fun m => ef_push2A m o id pf pg) rfl rfl ?_
  intro p e s m below meth c T F S cx st
  have g_o : n0 ≤ o := hge o (by simp)
  have g_c0 : n0 ≤ c0 := hge c0 (by simp)
  have g_bF : n0 ≤ bF := hge bF (by simp)
  have g_bG : n0 ≤ bG := hge bG (by simp)
  have g_bO : n0 ≤ bO := hge bO (by simp)
  have g_bH : n0 ≤ bH := hge bH (by simp)
  have g_bT : n0 ≤ bT := hge bT (by simp)
  have g_hP : n0 ≤ hP := hge hP (by simp)
  have g_nw : n0 ≤ nw := hge nw (by simp)
  obtain ⟨X_o, B_o, HL, ⟨k_cs, V_cs⟩, ⟨k_c0, V_c0⟩, ⟨k_bF, V_bF⟩, ⟨k_bG, V_bG⟩, ⟨k_bO, V_bO⟩, ⟨k_bH, V_bH⟩, ⟨k_bT, V_bT⟩, ⟨k_hP, V_hP⟩, ⟨k_nw, V_nw⟩⟩ := H0
  refine E_aloadN (pc' := 1) cx st d8_0 rfl rfl rfl ?_
  refine E_iloadN (pc' := 2) cx st d8_1 rfl rfl ?_
  refine E_callP (pc' := 5) (kc' := 0) (ks' := 0) (W := 0) (a := o) (argsL := [(.int id)]) cx st [] (rmnewEntry1 l Z a0 hw o cl cs c0 bF bG bO bH bT hP nw h0 n0 Z0 gt (1 : Int32) (-1 : Int32) (1 : Int32) (1 : Int64) (1 : Int32) e0 e1 er pf f1 fr pg g1 gr q0 q1 qr (0 : Int32) d1 dr (0 : Int32) t1 tr (0 : Int32) p1 pr ns id hnd hge ⟨X_o, B_o, HL, ⟨_, V_cs⟩, ⟨_, V_c0⟩, ⟨_, V_bF⟩, ⟨_, V_bG⟩, ⟨_, V_bO⟩, ⟨_, V_bH⟩, ⟨_, V_bT⟩, ⟨_, V_hP⟩, ⟨_, V_nw⟩⟩ ) X_o (wd hw 73 rfl) (wd hw 75 rfl) (wd hw 1 rfl) (wd hw 74 rfl) (wd hw 2 rfl) (wd hw 76 rfl) d8_2 rfl rfl (lenOf pd_0 rfl) (Nat.le_of_eq rfl) (by decide) (by decide) (by decide) (by decide) (by decide) (by decide) (by decide) rfl ?_
  intro v1 T1 h1 st1 hq1
  obtain ⟨rfl, Kw1, Hw1⟩ := hq1
  have Z1 : n0 ≤ h1.size := Nat.le_trans Z0 Kw1.1
  have KKw1' : Keep h0 h1 [o, c0, bF, bG, bO, bH, bT, hP, nw] := (Keep.refl h0 [o, c0, bF, bG, bO, bH, bT, hP, nw]).trans Kw1 (allS (mi 0 rfl) (allS (mi 1 rfl) (allS (mi 2 rfl) (allS (mi 3 rfl) (allS (mi 4 rfl) (allS (mi 5 rfl) (allS (mi 6 rfl) (allS (mi 7 rfl) (allS (mi 8 rfl) all0)))))))))
  obtain ⟨X_o_1, B_o_1, HL_1, ⟨k_cs_1, V_cs_1⟩, ⟨k_c0_1, V_c0_1⟩, ⟨k_bF_1, V_bF_1⟩, ⟨k_bG_1, V_bG_1⟩, ⟨k_bO_1, V_bO_1⟩, ⟨k_bH_1, V_bH_1⟩, ⟨k_bT_1, V_bT_1⟩, ⟨k_hP_1, V_hP_1⟩, ⟨k_nw_1, V_nw_1⟩⟩ := Hw1
  refine E_istore (pc' := 7) (L' := #[.val (.ref o), .val (.int id), .val (.long pf), .second, .val (.long pg), .second, .val (.int (1 : Int32)), .unset, .unset]) cx st1 d8_5 rfl rfl ?_
  refine E_aloadN (pc' := 8) cx st1 d8_7 rfl rfl rfl ?_
  refine E_getfield (pc' := 11) (v := (.ref nw)) cx st1 (wd hw 60 rfl) (B_o_1.at 15 (by decide) rfl rfl) d8_8 rfl ?_
  intro T2 st2
  refine E_aloadN (pc' := 12) cx st2 d8_11 rfl rfl rfl ?_
  refine E_lloadN (pc' := 13) cx st2 d8_12 rfl rfl ?_
  refine E_lload (pc' := 15) cx st2 d8_13 rfl rfl ?_
  refine E_callP (pc' := 18) (kc' := 0) (ks' := 0) (W := 1) (a := o) (argsL := [(.long pf), (.long pg)]) cx st2 [(.ref nw)] (rmslot l Z a0 hw o cl cs c0 bF bG bO bH bT hP nw h1 n0 Z1 gt (-1 : Int32) (2 : Int32) (1 : Int32) (-1 : Int32) (1 : Int32) (1 : Int64) (1 : Int32) e0 (mkE id) er pf f1 fr pg g1 gr q0 q1 qr (0 : Int32) d1 dr (0 : Int32) t1 tr (0 : Int32) p1 pr ns pf pg hnd hge ⟨X_o_1, B_o_1, HL_1, ⟨_, V_cs_1⟩, ⟨_, V_c0_1⟩, ⟨_, V_bF_1⟩, ⟨_, V_bG_1⟩, ⟨_, V_bO_1⟩, ⟨_, V_bH_1⟩, ⟨_, V_bT_1⟩, ⟨_, V_hP_1⟩, ⟨_, V_nw_1⟩⟩ ) X_o_1 (wd hw 99 rfl) (wd hw 101 rfl) (wd hw 1 rfl) (wd hw 100 rfl) (wd hw 2 rfl) (wd hw 102 rfl) d8_15 rfl rfl (lenOf pd_8 rfl) (Nat.le_of_eq rfl) (by decide) (by decide) (by decide) (by decide) (by decide) (by decide) (by decide) rfl ?_
  intro v3 T3 h3 st3 hq3
  obtain ⟨rfl, hh3⟩ := hq3
  rw [hh3] at st3
  refine E_iaload (pc' := 19) (x := (ns.getD (slt pf pg).toNatClampNeg 0)) cx st3 V_nw_1 (slt_b pf pg) (getD_int ns _ 0) d8_18 rfl ?_
  rw [hk]
  refine E_istore (pc' := 21) (L' := #[.val (.ref o), .val (.int id), .val (.long pf), .second, .val (.long pg), .second, .val (.int (1 : Int32)), .val (.int (0 : Int32)), .unset]) cx st3 d8_19 rfl rfl ?_
  refine E_iload (pc' := 23) cx st3 d8_21 rfl rfl ?_
  refine E_iconst (pc' := 24) cx st3 (-1 : Int32) d8_23 rfl rfl ?_
  refine E_icmp_eqN (pc' := 27) cx st3 d8_24 rfl (by decide) ?_
  refine E_aloadN (pc' := 28) cx st3 d8_27 rfl rfl rfl ?_
  refine E_getfield (pc' := 31) (v := (.ref bH)) cx st3 (wd hw 52 rfl) (B_o_1.at 8 (by decide) rfl rfl) d8_28 rfl ?_
  intro T4 st4
  refine E_iload (pc' := 33) cx st4 d8_31 rfl rfl ?_
  refine E_iaload (pc' := 34) (x := (0 : Int32)) cx st4 V_bH_1 ⟨by decide, by decide⟩ rfl d8_33 rfl ?_
  refine E_iconst (pc' := 35) cx st4 (-1 : Int32) d8_34 rfl rfl ?_
  refine E_icmp_eqN (pc' := 38) cx st4 d8_35 rfl (by decide) ?_
  refine E_aloadN (pc' := 39) cx st4 d8_38 rfl rfl rfl ?_
  refine E_getfield (pc' := 42) (v := (.ref bF)) cx st4 (wd hw 45 rfl) (B_o_1.at 5 (by decide) rfl rfl) d8_39 rfl ?_
  intro T5 st5
  refine E_iload (pc' := 44) cx st5 d8_42 rfl rfl ?_
  refine E_laload (pc' := 45) (x := pf) cx st5 V_bF_1 ⟨by decide, by decide⟩ rfl d8_44 rfl ?_
  refine E_lloadN (pc' := 46) cx st5 d8_45 rfl rfl ?_
  refine E_lif_neN (pc' := 50) cx st5 d8_46 d8_47 rfl rfl ?_
  refine E_aloadN (pc' := 51) cx st5 d8_50 rfl rfl rfl ?_
  refine E_getfield (pc' := 54) (v := (.ref bG)) cx st5 (wd hw 47 rfl) (B_o_1.at 6 (by decide) rfl rfl) d8_51 rfl ?_
  intro T6 st6
  refine E_iload (pc' := 56) cx st6 d8_54 rfl rfl ?_
  refine E_laload (pc' := 57) (x := pg) cx st6 V_bG_1 ⟨by decide, by decide⟩ rfl d8_56 rfl ?_
  refine E_lload (pc' := 59) cx st6 d8_57 rfl rfl ?_
  refine E_lif_neN (pc' := 63) cx st6 d8_59 d8_60 rfl rfl ?_
  refine E_aloadN (pc' := 64) cx st6 d8_63 rfl rfl rfl ?_
  refine E_aloadN (pc' := 65) cx st6 d8_64 rfl rfl rfl ?_
  refine E_getfield (pc' := 68) (v := (.ref bT)) cx st6 (wd hw 54 rfl) (B_o_1.at 9 (by decide) rfl rfl) d8_65 rfl ?_
  intro T7 st7
  refine E_iload (pc' := 70) cx st7 d8_68 rfl rfl ?_
  refine E_iaload (pc' := 71) (x := (0 : Int32)) cx st7 V_bT_1 ⟨by decide, by decide⟩ rfl d8_70 rfl ?_
  refine E_iload (pc' := 73) cx st7 d8_71 rfl rfl ?_
  refine E_callP (pc' := 76) (kc' := 0) (ks' := 0) (W := 0) (a := o) (argsL := [(.int (0 : Int32)), (.int (1 : Int32))]) cx st7 [] (rmsetNext0 l Z a0 hw o cl cs c0 bF bG bO bH bT hP nw h1 n0 Z1 gt (-1 : Int32) (2 : Int32) (1 : Int32) (-1 : Int32) (1 : Int32) (1 : Int64) (1 : Int32) e0 (mkE id) er pf f1 fr pg g1 gr q0 q1 qr (0 : Int32) d1 dr (0 : Int32) t1 tr (0 : Int32) p1 pr ns (1 : Int32) hnd hge ⟨X_o_1, B_o_1, HL_1, ⟨_, V_cs_1⟩, ⟨_, V_c0_1⟩, ⟨_, V_bF_1⟩, ⟨_, V_bG_1⟩, ⟨_, V_bO_1⟩, ⟨_, V_bH_1⟩, ⟨_, V_bT_1⟩, ⟨_, V_hP_1⟩, ⟨_, V_nw_1⟩⟩ ) X_o_1 (wd hw 154 rfl) (wd hw 156 rfl) (wd hw 1 rfl) (wd hw 155 rfl) (wd hw 2 rfl) (wd hw 157 rfl) d8_73 rfl rfl (lenOf pd_9 rfl) (Nat.le_of_eq rfl) (by decide) (by decide) (by decide) (by decide) (by decide) (by decide) (by decide) rfl ?_
  intro v8 T8 h8 st8 hq8
  obtain ⟨rfl, Kw8, Hw8⟩ := hq8
  have Z8 : n0 ≤ h8.size := Nat.le_trans Z1 Kw8.1
  have KKw8' : Keep h0 h8 [o, c0, bF, bG, bO, bH, bT, hP, nw] := KKw1'.trans Kw8 (allS (mi 0 rfl) (allS (mi 1 rfl) (allS (mi 2 rfl) (allS (mi 3 rfl) (allS (mi 4 rfl) (allS (mi 5 rfl) (allS (mi 6 rfl) (allS (mi 7 rfl) (allS (mi 8 rfl) all0)))))))))
  obtain ⟨X_o_8, B_o_8, HL_8, ⟨k_cs_8, V_cs_8⟩, ⟨k_c0_8, V_c0_8⟩, ⟨k_bF_8, V_bF_8⟩, ⟨k_bG_8, V_bG_8⟩, ⟨k_bO_8, V_bO_8⟩, ⟨k_bH_8, V_bH_8⟩, ⟨k_bT_8, V_bT_8⟩, ⟨k_hP_8, V_hP_8⟩, ⟨k_nw_8, V_nw_8⟩⟩ := Hw8
  refine E_aloadN (pc' := 77) cx st8 d8_76 rfl rfl rfl ?_
  refine E_getfield (pc' := 80) (v := (.ref bT)) cx st8 (wd hw 54 rfl) (B_o_8.at 9 (by decide) rfl rfl) d8_77 rfl ?_
  intro T9 st9
  refine E_iload (pc' := 82) cx st9 d8_80 rfl rfl ?_
  refine E_iload (pc' := 84) cx st9 d8_82 rfl rfl ?_
  refine E_iastore (pc' := 85) (i := 0) cx st9 V_bT_8 ⟨by decide, by decide⟩ rfl (Nat.zero_lt_succ _) g_bT d8_84 rfl ?_
  intro T10 h10 st10 W10 V10
  have Z10 : n0 ≤ h10.size := Nat.le_trans Z8 (Keep.of_wr W10).1
  have K10 : Keep h0 h10 [o, c0, bF, bG, bO, bH, bT, hP, nw] := KKw8'.wr W10 (mi 6 rfl)
  have V10p : Arv Z h10 bT k_bT_8 .int (16 : Int32) ((.int (1 : Int32)) :: (.int t1) :: (tr.map Value.int)) (.int (0 : Int32)) := V10
  refine E_goto (pc' := 135) cx st10 d8_85 (by decide) (by decide) ?_
  refine E_aloadN (pc' := 136) cx st10 d8_135 rfl rfl rfl ?_
  refine E_dup (pc' := 137) cx st10 d8_136 rfl rfl ?_
  have B12 : OL Z h10 o [(.int gt), (.ref cl), (.int (-1 : Int32)), (.int (2 : Int32)), (.int (1 : Int32)), (.ref bF), (.ref bG), (.ref bO), (.ref bH), (.ref bT), (.int (-1 : Int32)), (.int (1 : Int32)), (.long (1 : Int64)), (.ref hP), (.int (1 : Int32)), (.ref nw)] := (B_o_8.other W10 (nd hnd 0 8 rfl rfl))
  refine E_getfield (pc' := 140) (v := (.int (1 : Int32))) cx st10 (wd hw 118 rfl) (B12.at 4 (by decide) rfl rfl) d8_137 rfl ?_
  intro T11 st11
  refine E_iconst (pc' := 141) cx st11 (1 : Int32) d8_140 rfl rfl ?_
  refine E_iadd (pc' := 142) cx st11 d8_141 rfl ?_
  rw [show ((1 : Int32) + (1 : Int32)) = (2 : Int32) from by decide]
  have X13 : Exa Z h10 o "com/example/flat_planner/flatplanner/OpenList" := (X_o_8.wr W10)
  refine E_putfield (pc' := 145) (ty := .int) cx st11 (wd hw 118 rfl) (B12.at 4 (by decide) rfl rfl) X13 (Or.inl (wd hw 119 rfl)) (wd hw 1 rfl) (by decide) rfl rfl g_o d8_142 rfl ?_
  intro T14 h14 st14 W14
  have Z14 : n0 ≤ h14.size := Nat.le_trans Z10 (Keep.of_wr W14).1
  have K14 : Keep h0 h14 [o, c0, bF, bG, bO, bH, bT, hP, nw] := K10.wr W14 (mi 0 rfl)
  have B14w : OL Z h14 o [(.int gt), (.ref cl), (.int (-1 : Int32)), (.int (2 : Int32)), (.int (2 : Int32)), (.ref bF), (.ref bG), (.ref bO), (.ref bH), (.ref bT), (.int (-1 : Int32)), (.int (1 : Int32)), (.long (1 : Int64)), (.ref hP), (.int (1 : Int32)), (.ref nw)] := B12.wr hw 4 (by decide) rfl W14 (Nat.le_of_ble_eq_true rfl)
  have X15 : Exa Z h14 o "com/example/flat_planner/flatplanner/OpenList" := (X13.wr W14)
  have HL16 : LCF Z h14 cl cs := ((HL_8.other W10 (nd hnd 1 8 rfl rfl)).other W14 (nd hnd 1 0 rfl rfl))
  have V17 : Arv Z h14 cs k_cs_8 (.array .long) (1 : Int32) [(.ref c0)] .null := ((V_cs_8.other W10 (nd hnd 2 8 rfl rfl)).other W14 (nd hnd 2 0 rfl rfl))
  have V18 : Arv Z h14 c0 k_c0_8 .long (16 : Int32) ((.long (nxE e0 (1 : Int32))) :: (.long (mkE id)) :: (er.map Value.long)) (.long (0 : Int64)) := ((V_c0_8.other W10 (nd hnd 3 8 rfl rfl)).other W14 (nd hnd 3 0 rfl rfl))
  have V19 : Arv Z h14 bF k_bF_8 .long (16 : Int32) ((.long pf) :: (.long f1) :: (fr.map Value.long)) (.long (0 : Int64)) := ((V_bF_8.other W10 (nd hnd 4 8 rfl rfl)).other W14 (nd hnd 4 0 rfl rfl))
  have V20 : Arv Z h14 bG k_bG_8 .long (16 : Int32) ((.long pg) :: (.long g1) :: (gr.map Value.long)) (.long (0 : Int64)) := ((V_bG_8.other W10 (nd hnd 5 8 rfl rfl)).other W14 (nd hnd 5 0 rfl rfl))
  have V21 : Arv Z h14 bO k_bO_8 .long (16 : Int32) ((.long q0) :: (.long q1) :: (qr.map Value.long)) (.long (0 : Int64)) := ((V_bO_8.other W10 (nd hnd 6 8 rfl rfl)).other W14 (nd hnd 6 0 rfl rfl))
  have V22 : Arv Z h14 bH k_bH_8 .int (16 : Int32) ((.int (0 : Int32)) :: (.int d1) :: (dr.map Value.int)) (.int (0 : Int32)) := ((V_bH_8.other W10 (nd hnd 7 8 rfl rfl)).other W14 (nd hnd 7 0 rfl rfl))
  have V23 : Arv Z h14 bT k_bT_8 .int (16 : Int32) ((.int (1 : Int32)) :: (.int t1) :: (tr.map Value.int)) (.int (0 : Int32)) := (V10p.other W14 (nd hnd 8 0 rfl rfl))
  have V24 : Arv Z h14 hP k_hP_8 .int (16 : Int32) ((.int (0 : Int32)) :: (.int p1) :: (pr.map Value.int)) (.int (0 : Int32)) := ((V_hP_8.other W10 (nd hnd 9 8 rfl rfl)).other W14 (nd hnd 9 0 rfl rfl))
  have V25 : Arv Z h14 nw k_nw_8 .int (32 : Int32) (ns.map Value.int) (.int (0 : Int32)) := ((V_nw_8.other W10 (nd hnd 10 8 rfl rfl)).other W14 (nd hnd 10 0 rfl rfl))
  refine E_return cx st14 d8_145 rfl (by decide) (by decide) ?_
  exact ⟨rfl, K14, ⟨X15, B14w, HL16, ⟨_, V17⟩, ⟨_, V18⟩, ⟨_, V19⟩, ⟨_, V20⟩, ⟨_, V21⟩, ⟨_, V22⟩, ⟨_, V23⟩, ⟨_, V24⟩, ⟨_, V25⟩⟩⟩
theorem ef_push2B (m : MethodId) (x0 : Addr) (x1 : Int32) (x2 : Int64) (x3 : Int64) : entryFrame m #[(.ref x0), (.int x1), (.long x2), (.long x3)] 9 = mkF m 0 #[.val (.ref x0), .val (.int x1), .val (.long x2), .second, .val (.long x3), .second, .unset, .unset, .unset] [] := by first | (simp [entryFrame, mkF, argsToLocals, Value.category]; done) | rfl
set_option maxRecDepth 65536 in
set_option maxHeartbeats 40000000 in
theorem rmpush2B (l : Launch) (Z : State) (a0 : Array Value) (hw : ∀ d ∈ tables_1, d.before a0 Z = true) (o : Addr) (cl : Addr) (cs : Addr) (c0 : Addr) (bF : Addr) (bG : Addr) (bO : Addr) (bH : Addr) (bT : Addr) (hP : Addr) (nw : Addr) (h0 : Heap) (n0 : Nat) (Z0 : n0 ≤ h0.size) (gt : Int32) (e0 : Int64) (e1 : Int64) (er : List Int64) (f0 : Int64) (f1 : Int64) (fr : List Int64) (g0 : Int64) (g1 : Int64) (gr : List Int64) (q0 : Int64) (q1 : Int64) (qr : List Int64) (d1 : Int32) (dr : List Int32) (t1 : Int32) (tr : List Int32) (p1 : Int32) (pr : List Int32) (ns : List Int32) (id : Int32) (pf : Int64) (pg : Int64) (hnd : [o, cl, cs, c0, bF, bG, bO, bH, bT, hP, nw].Nodup) (hge : ∀ a ∈ [o, cl, cs, c0, bF, bG, bO, bH, bT, hP, nw], n0 ≤ a) (H0 : Wd Z h0 o cl cs c0 bF bG bO bH bT hP nw gt (-1 : Int32) (1 : Int32) (1 : Int32) (-1 : Int32) (1 : Int32) (1 : Int32) (1 : Int64) e0 e1 er f0 f1 fr g0 g1 gr q0 q1 qr (0 : Int32) d1 dr (0 : Int32) t1 tr (0 : Int32) p1 pr ns) (hnl : ns.length = 32) (hneq : ¬ (f0 = pf ∧ g0 = pg)) (hk : (ns.getD (slt pf pg).toNatClampNeg 0) = (-1 : Int32) ∨ (ns.getD (slt pf pg).toNatClampNeg 0) = 0 ∨ ((ns.getD (slt pf pg).toNatClampNeg 0) = 1 ∧ d1 = (-1 : Int32))) :
    Con l Z (⟨"com/example/flat_planner/flatplanner/OpenList", "push", "(IJJ)V"⟩ : MethodName) prog_16_method_3_code 9 none ({ frames := 3, cells := 0, slots := 0, locals := 43 } : Room) #[(.ref o), (.int id), (.long pf), (.long pg)] h0 n0 (fun v h => ∃ xb xc : Int32, (((xb = 0 ∧ xc = 1) ∧ bfr pf f0 pg g0 (1 : Int64) q0 gt = 0) ∨ ((xb = 1 ∧ xc = 0) ∧ ¬ bfr pf f0 pg g0 (1 : Int64) q0 gt = 0)) ∧ v = none ∧ Keep h0 h [o, c0, bF, bG, bO, bH, bT, hP, nw] ∧ Wd Z h o cl cs c0 bF bG bO bH bT hP nw gt (-1 : Int32) (2 : Int32) (2 : Int32) (-1 : Int32) (2 : Int32) (2 : Int32) (2 : Int64) e0 (mkE id) er f0 pf fr g0 pg gr q0 (1 : Int64) qr (0 : Int32) (1 : Int32) dr (0 : Int32) (1 : Int32) tr xb xc pr (ns.set (slt pf pg).toNatClampNeg (1 : Int32))) := by
  refine Con.of (own := "com/example/flat_planner/flatplanner/OpenList") (name := "push") (plainFor_of_name pn_3) (fun m => ef_push2B m o id pf pg) rfl rfl ?_
  intro p e s m below meth c T F S cx st
  have g_o : n0 ≤ o := hge o (by simp)
  have g_c0 : n0 ≤ c0 := hge c0 (by simp)
  have g_bF : n0 ≤ bF := hge bF (by simp)
  have g_bG : n0 ≤ bG := hge bG (by simp)
  have g_bO : n0 ≤ bO := hge bO (by simp)
  have g_bH : n0 ≤ bH := hge bH (by simp)
  have g_bT : n0 ≤ bT := hge bT (by simp)
  have g_hP : n0 ≤ hP := hge hP (by simp)
  have g_nw : n0 ≤ nw := hge nw (by simp)
  obtain ⟨X_o, B_o, HL, ⟨k_cs, V_cs⟩, ⟨k_c0, V_c0⟩, ⟨k_bF, V_bF⟩, ⟨k_bG, V_bG⟩, ⟨k_bO, V_bO⟩, ⟨k_bH, V_bH⟩, ⟨k_bT, V_bT⟩, ⟨k_hP, V_hP⟩, ⟨k_nw, V_nw⟩⟩ := H0
  refine E_aloadN (pc' := 1) cx st d8_0 rfl rfl rfl ?_
  refine E_iloadN (pc' := 2) cx st d8_1 rfl rfl ?_
  refine E_callP (pc' := 5) (kc' := 0) (ks' := 0) (W := 0) (a := o) (argsL := [(.int id)]) cx st [] (rmnewEntry1 l Z a0 hw o cl cs c0 bF bG bO bH bT hP nw h0 n0 Z0 gt (1 : Int32) (-1 : Int32) (1 : Int32) (1 : Int64) (1 : Int32) e0 e1 er f0 f1 fr g0 g1 gr q0 q1 qr (0 : Int32) d1 dr (0 : Int32) t1 tr (0 : Int32) p1 pr ns id hnd hge ⟨X_o, B_o, HL, ⟨_, V_cs⟩, ⟨_, V_c0⟩, ⟨_, V_bF⟩, ⟨_, V_bG⟩, ⟨_, V_bO⟩, ⟨_, V_bH⟩, ⟨_, V_bT⟩, ⟨_, V_hP⟩, ⟨_, V_nw⟩⟩ ) X_o (wd hw 73 rfl) (wd hw 75 rfl) (wd hw 1 rfl) (wd hw 74 rfl) (wd hw 2 rfl) (wd hw 76 rfl) d8_2 rfl rfl (lenOf pd_0 rfl) (Nat.le_of_eq rfl) (by decide) (by decide) (by decide) (by decide) (by decide) (by decide) (by decide) rfl ?_
  intro v1 T1 h1 st1 hq1
  obtain ⟨rfl, Kw1, Hw1⟩ := hq1
  have Z1 : n0 ≤ h1.size := Nat.le_trans Z0 Kw1.1
  have KKw1' : Keep h0 h1 [o, c0, bF, bG, bO, bH, bT, hP, nw] := (Keep.refl h0 [o, c0, bF, bG, bO, bH, bT, hP, nw]).trans Kw1 (allS (mi 0 rfl) (allS (mi 1 rfl) (allS (mi 2 rfl) (allS (mi 3 rfl) (allS (mi 4 rfl) (allS (mi 5 rfl) (allS (mi 6 rfl) (allS (mi 7 rfl) (allS (mi 8 rfl) all0)))))))))
  obtain ⟨X_o_1, B_o_1, HL_1, ⟨k_cs_1, V_cs_1⟩, ⟨k_c0_1, V_c0_1⟩, ⟨k_bF_1, V_bF_1⟩, ⟨k_bG_1, V_bG_1⟩, ⟨k_bO_1, V_bO_1⟩, ⟨k_bH_1, V_bH_1⟩, ⟨k_bT_1, V_bT_1⟩, ⟨k_hP_1, V_hP_1⟩, ⟨k_nw_1, V_nw_1⟩⟩ := Hw1
  refine E_istore (pc' := 7) (L' := #[.val (.ref o), .val (.int id), .val (.long pf), .second, .val (.long pg), .second, .val (.int (1 : Int32)), .unset, .unset]) cx st1 d8_5 rfl rfl ?_
  refine E_aloadN (pc' := 8) cx st1 d8_7 rfl rfl rfl ?_
  refine E_getfield (pc' := 11) (v := (.ref nw)) cx st1 (wd hw 60 rfl) (B_o_1.at 15 (by decide) rfl rfl) d8_8 rfl ?_
  intro T2 st2
  refine E_aloadN (pc' := 12) cx st2 d8_11 rfl rfl rfl ?_
  refine E_lloadN (pc' := 13) cx st2 d8_12 rfl rfl ?_
  refine E_lload (pc' := 15) cx st2 d8_13 rfl rfl ?_
  refine E_callP (pc' := 18) (kc' := 0) (ks' := 0) (W := 1) (a := o) (argsL := [(.long pf), (.long pg)]) cx st2 [(.ref nw)] (rmslot l Z a0 hw o cl cs c0 bF bG bO bH bT hP nw h1 n0 Z1 gt (-1 : Int32) (2 : Int32) (1 : Int32) (-1 : Int32) (1 : Int32) (1 : Int64) (1 : Int32) e0 (mkE id) er f0 f1 fr g0 g1 gr q0 q1 qr (0 : Int32) d1 dr (0 : Int32) t1 tr (0 : Int32) p1 pr ns pf pg hnd hge ⟨X_o_1, B_o_1, HL_1, ⟨_, V_cs_1⟩, ⟨_, V_c0_1⟩, ⟨_, V_bF_1⟩, ⟨_, V_bG_1⟩, ⟨_, V_bO_1⟩, ⟨_, V_bH_1⟩, ⟨_, V_bT_1⟩, ⟨_, V_hP_1⟩, ⟨_, V_nw_1⟩⟩ ) X_o_1 (wd hw 99 rfl) (wd hw 101 rfl) (wd hw 1 rfl) (wd hw 100 rfl) (wd hw 2 rfl) (wd hw 102 rfl) d8_15 rfl rfl (lenOf pd_8 rfl) (Nat.le_of_eq rfl) (by decide) (by decide) (by decide) (by decide) (by decide) (by decide) (by decide) rfl ?_
  intro v3 T3 h3 st3 hq3
  obtain ⟨rfl, hh3⟩ := hq3
  rw [hh3] at st3
  refine E_iaload (pc' := 19) (x := (ns.getD (slt pf pg).toNatClampNeg 0)) cx st3 V_nw_1 (slt_b pf pg) (getD_int ns _ 0) d8_18 rfl ?_
  rcases hk with hk1 | hk1 | ⟨hk1, hk2⟩
  · rw [hk1]
    refine E_istore (pc' := 21) (L' := #[.val (.ref o), .val (.int id), .val (.long pf), .second, .val (.long pg), .second, .val (.int (1 : Int32)), .val (.int (-1 : Int32)), .unset]) cx st3 d8_19 rfl rfl ?_
    refine E_iload (pc' := 23) cx st3 d8_21 rfl rfl ?_
    refine E_iconst (pc' := 24) cx st3 (-1 : Int32) d8_23 rfl rfl ?_
    refine E_icmp_eqY (pc' := 88) cx st3 d8_24 (by decide) (by decide) rfl ?_
    refine E_aloadN (pc' := 89) cx st3 d8_88 rfl rfl rfl ?_
    refine E_lloadN (pc' := 90) cx st3 d8_89 rfl rfl ?_
    refine E_lload (pc' := 92) cx st3 d8_90 rfl rfl ?_
    refine E_callP (pc' := 95) (kc' := 0) (ks' := 0) (W := 0) (a := o) (argsL := [(.long pf), (.long pg)]) cx st3 [] (rmstartBucket1 l Z a0 hw o cl cs c0 bF bG bO bH bT hP nw h1 n0 Z1 gt (-1 : Int32) (2 : Int32) (1 : Int32) (1 : Int32) e0 (mkE id) er f0 f1 fr g0 g1 gr q0 q1 qr (0 : Int32) d1 dr (0 : Int32) t1 tr (0 : Int32) p1 pr ns pf pg hnd hge ⟨X_o_1, B_o_1, HL_1, ⟨_, V_cs_1⟩, ⟨_, V_c0_1⟩, ⟨_, V_bF_1⟩, ⟨_, V_bG_1⟩, ⟨_, V_bO_1⟩, ⟨_, V_bH_1⟩, ⟨_, V_bT_1⟩, ⟨_, V_hP_1⟩, ⟨_, V_nw_1⟩⟩ ) X_o_1 (wd hw 104 rfl) (wd hw 106 rfl) (wd hw 1 rfl) (wd hw 105 rfl) (wd hw 2 rfl) (wd hw 107 rfl) d8_92 rfl rfl (lenOf pd_8 rfl) (Nat.le_of_eq rfl) (by decide) (by decide) (by decide) (by decide) (by decide) (by decide) (by decide) rfl ?_
    intro v4 T4 h4 st4 hq4
    obtain ⟨rfl, Kw4, Hw4⟩ := hq4
    have Z4 : n0 ≤ h4.size := Nat.le_trans Z1 Kw4.1
    have KKw4' : Keep h0 h4 [o, c0, bF, bG, bO, bH, bT, hP, nw] := KKw1'.trans Kw4 (allS (mi 0 rfl) (allS (mi 1 rfl) (allS (mi 2 rfl) (allS (mi 3 rfl) (allS (mi 4 rfl) (allS (mi 5 rfl) (allS (mi 6 rfl) (allS (mi 7 rfl) (allS (mi 8 rfl) all0)))))))))
    obtain ⟨X_o_4, B_o_4, HL_4, ⟨k_cs_4, V_cs_4⟩, ⟨k_c0_4, V_c0_4⟩, ⟨k_bF_4, V_bF_4⟩, ⟨k_bG_4, V_bG_4⟩, ⟨k_bO_4, V_bO_4⟩, ⟨k_bH_4, V_bH_4⟩, ⟨k_bT_4, V_bT_4⟩, ⟨k_hP_4, V_hP_4⟩, ⟨k_nw_4, V_nw_4⟩⟩ := Hw4
    refine E_istore (pc' := 97) (L' := #[.val (.ref o), .val (.int id), .val (.long pf), .second, .val (.long pg), .second, .val (.int (1 : Int32)), .val (.int (-1 : Int32)), .val (.int (1 : Int32))]) cx st4 d8_95 rfl rfl ?_
    refine E_aloadN (pc' := 98) cx st4 d8_97 rfl rfl rfl ?_
    refine E_getfield (pc' := 101) (v := (.ref nw)) cx st4 (wd hw 60 rfl) (B_o_4.at 15 (by decide) rfl rfl) d8_98 rfl ?_
    intro T5 st5
    refine E_aloadN (pc' := 102) cx st5 d8_101 rfl rfl rfl ?_
    refine E_lloadN (pc' := 103) cx st5 d8_102 rfl rfl ?_
    refine E_lload (pc' := 105) cx st5 d8_103 rfl rfl ?_
    refine E_callP (pc' := 108) (kc' := 0) (ks' := 0) (W := 1) (a := o) (argsL := [(.long pf), (.long pg)]) cx st5 [(.ref nw)] (rmslot l Z a0 hw o cl cs c0 bF bG bO bH bT hP nw h4 n0 Z4 gt (-1 : Int32) (2 : Int32) (1 : Int32) (-1 : Int32) (2 : Int32) (2 : Int64) (1 : Int32) e0 (mkE id) er f0 pf fr g0 pg gr q0 (1 : Int64) qr (0 : Int32) d1 dr (0 : Int32) t1 tr (0 : Int32) p1 pr ns pf pg hnd hge ⟨X_o_4, B_o_4, HL_4, ⟨_, V_cs_4⟩, ⟨_, V_c0_4⟩, ⟨_, V_bF_4⟩, ⟨_, V_bG_4⟩, ⟨_, V_bO_4⟩, ⟨_, V_bH_4⟩, ⟨_, V_bT_4⟩, ⟨_, V_hP_4⟩, ⟨_, V_nw_4⟩⟩ ) X_o_4 (wd hw 99 rfl) (wd hw 101 rfl) (wd hw 1 rfl) (wd hw 100 rfl) (wd hw 2 rfl) (wd hw 102 rfl) d8_105 rfl rfl (lenOf pd_8 rfl) (Nat.le_of_eq rfl) (by decide) (by decide) (by decide) (by decide) (by decide) (by decide) (by decide) rfl ?_
    intro v6 T6 h6 st6 hq6
    obtain ⟨rfl, hh6⟩ := hq6
    rw [hh6] at st6
    refine E_iload (pc' := 110) cx st6 d8_108 rfl rfl ?_
    refine E_iastore (pc' := 111) (i := (slt pf pg).toNatClampNeg) cx st6 V_nw_4 (slt_b pf pg) rfl (by rw [List.length_map, hnl]; exact (i32_small (n := 32) (slt_b pf pg) (by decide)).1) g_nw d8_110 rfl ?_
    intro T7 h7 st7 W7 V7
    have Z7 : n0 ≤ h7.size := Nat.le_trans Z4 (Keep.of_wr W7).1
    have K7 : Keep h0 h7 [o, c0, bF, bG, bO, bH, bT, hP, nw] := KKw4'.wr W7 (mi 8 rfl)
    have V7p : Arv Z h7 nw k_nw_4 .int (32 : Int32) ((ns.set (slt pf pg).toNatClampNeg (1 : Int32)).map Value.int) (.int (0 : Int32)) := by rw [List.map_set]; exact V7
    refine E_aloadN (pc' := 112) cx st7 d8_111 rfl rfl rfl ?_
    have B9 : OL Z h7 o [(.int gt), (.ref cl), (.int (-1 : Int32)), (.int (2 : Int32)), (.int (1 : Int32)), (.ref bF), (.ref bG), (.ref bO), (.ref bH), (.ref bT), (.int (-1 : Int32)), (.int (2 : Int32)), (.long (2 : Int64)), (.ref hP), (.int (1 : Int32)), (.ref nw)] := (B_o_4.other W7 (nd hnd 0 10 rfl rfl))
    refine E_getfield (pc' := 115) (v := (.ref bH)) cx st7 (wd hw 52 rfl) (B9.at 8 (by decide) rfl rfl) d8_112 rfl ?_
    intro T8 st8
    refine E_iload (pc' := 117) cx st8 d8_115 rfl rfl ?_
    refine E_iload (pc' := 119) cx st8 d8_117 rfl rfl ?_
    have V10 : Arv Z h7 bH k_bH_4 .int (16 : Int32) ((.int (0 : Int32)) :: (.int d1) :: (dr.map Value.int)) (.int (0 : Int32)) := (V_bH_4.other W7 (nd hnd 7 10 rfl rfl))
    refine E_iastore (pc' := 120) (i := 1) cx st8 V10 ⟨by decide, by decide⟩ rfl (Nat.succ_lt_succ (Nat.zero_lt_succ _)) g_bH d8_119 rfl ?_
    intro T11 h11 st11 W11 V11
    have Z11 : n0 ≤ h11.size := Nat.le_trans Z7 (Keep.of_wr W11).1
    have K11 : Keep h0 h11 [o, c0, bF, bG, bO, bH, bT, hP, nw] := K7.wr W11 (mi 5 rfl)
    have V11p : Arv Z h11 bH k_bH_4 .int (16 : Int32) ((.int (0 : Int32)) :: (.int (1 : Int32)) :: (dr.map Value.int)) (.int (0 : Int32)) := V11
    refine E_aloadN (pc' := 121) cx st11 d8_120 rfl rfl rfl ?_
    have B13 : OL Z h11 o [(.int gt), (.ref cl), (.int (-1 : Int32)), (.int (2 : Int32)), (.int (1 : Int32)), (.ref bF), (.ref bG), (.ref bO), (.ref bH), (.ref bT), (.int (-1 : Int32)), (.int (2 : Int32)), (.long (2 : Int64)), (.ref hP), (.int (1 : Int32)), (.ref nw)] := (B9.other W11 (nd hnd 0 7 rfl rfl))
    refine E_getfield (pc' := 124) (v := (.ref bT)) cx st11 (wd hw 54 rfl) (B13.at 9 (by decide) rfl rfl) d8_121 rfl ?_
    intro T12 st12
    refine E_iload (pc' := 126) cx st12 d8_124 rfl rfl ?_
    refine E_iload (pc' := 128) cx st12 d8_126 rfl rfl ?_
    have V14 : Arv Z h11 bT k_bT_4 .int (16 : Int32) ((.int (0 : Int32)) :: (.int t1) :: (tr.map Value.int)) (.int (0 : Int32)) := ((V_bT_4.other W7 (nd hnd 8 10 rfl rfl)).other W11 (nd hnd 8 7 rfl rfl))
    refine E_iastore (pc' := 129) (i := 1) cx st12 V14 ⟨by decide, by decide⟩ rfl (Nat.succ_lt_succ (Nat.zero_lt_succ _)) g_bT d8_128 rfl ?_
    intro T15 h15 st15 W15 V15
    have Z15 : n0 ≤ h15.size := Nat.le_trans Z11 (Keep.of_wr W15).1
    have K15 : Keep h0 h15 [o, c0, bF, bG, bO, bH, bT, hP, nw] := K11.wr W15 (mi 6 rfl)
    have V15p : Arv Z h15 bT k_bT_4 .int (16 : Int32) ((.int (0 : Int32)) :: (.int (1 : Int32)) :: (tr.map Value.int)) (.int (0 : Int32)) := V15
    refine E_aloadN (pc' := 130) cx st15 d8_129 rfl rfl rfl ?_
    refine E_iload (pc' := 132) cx st15 d8_130 rfl rfl ?_
    have X16 : Exa Z h15 o "com/example/flat_planner/flatplanner/OpenList" := (((X_o_4.wr W7).wr W11).wr W15)
    have B17 : OL Z h15 o [(.int gt), (.ref cl), (.int (-1 : Int32)), (.int (2 : Int32)), (.int (1 : Int32)), (.ref bF), (.ref bG), (.ref bO), (.ref bH), (.ref bT), (.int (-1 : Int32)), (.int (2 : Int32)), (.long (2 : Int64)), (.ref hP), (.int (1 : Int32)), (.ref nw)] := (B13.other W15 (nd hnd 0 8 rfl rfl))
    have HL18 : LCF Z h15 cl cs := (((HL_4.other W7 (nd hnd 1 10 rfl rfl)).other W11 (nd hnd 1 7 rfl rfl)).other W15 (nd hnd 1 8 rfl rfl))
    have V19 : Arv Z h15 cs k_cs_4 (.array .long) (1 : Int32) [(.ref c0)] .null := (((V_cs_4.other W7 (nd hnd 2 10 rfl rfl)).other W11 (nd hnd 2 7 rfl rfl)).other W15 (nd hnd 2 8 rfl rfl))
    have V20 : Arv Z h15 c0 k_c0_4 .long (16 : Int32) ((.long e0) :: (.long (mkE id)) :: (er.map Value.long)) (.long (0 : Int64)) := (((V_c0_4.other W7 (nd hnd 3 10 rfl rfl)).other W11 (nd hnd 3 7 rfl rfl)).other W15 (nd hnd 3 8 rfl rfl))
    have V21 : Arv Z h15 bF k_bF_4 .long (16 : Int32) ((.long f0) :: (.long pf) :: (fr.map Value.long)) (.long (0 : Int64)) := (((V_bF_4.other W7 (nd hnd 4 10 rfl rfl)).other W11 (nd hnd 4 7 rfl rfl)).other W15 (nd hnd 4 8 rfl rfl))
    have V22 : Arv Z h15 bG k_bG_4 .long (16 : Int32) ((.long g0) :: (.long pg) :: (gr.map Value.long)) (.long (0 : Int64)) := (((V_bG_4.other W7 (nd hnd 5 10 rfl rfl)).other W11 (nd hnd 5 7 rfl rfl)).other W15 (nd hnd 5 8 rfl rfl))
    have V23 : Arv Z h15 bO k_bO_4 .long (16 : Int32) ((.long q0) :: (.long (1 : Int64)) :: (qr.map Value.long)) (.long (0 : Int64)) := (((V_bO_4.other W7 (nd hnd 6 10 rfl rfl)).other W11 (nd hnd 6 7 rfl rfl)).other W15 (nd hnd 6 8 rfl rfl))
    have V24 : Arv Z h15 bH k_bH_4 .int (16 : Int32) ((.int (0 : Int32)) :: (.int (1 : Int32)) :: (dr.map Value.int)) (.int (0 : Int32)) := (V11p.other W15 (nd hnd 7 8 rfl rfl))
    have V25 : Arv Z h15 hP k_hP_4 .int (16 : Int32) ((.int (0 : Int32)) :: (.int p1) :: (pr.map Value.int)) (.int (0 : Int32)) := (((V_hP_4.other W7 (nd hnd 9 10 rfl rfl)).other W11 (nd hnd 9 7 rfl rfl)).other W15 (nd hnd 9 8 rfl rfl))
    have V26 : Arv Z h15 nw k_nw_4 .int (32 : Int32) ((ns.set (slt pf pg).toNatClampNeg (1 : Int32)).map Value.int) (.int (0 : Int32)) := ((V7p.other W11 (nd hnd 10 7 rfl rfl)).other W15 (nd hnd 10 8 rfl rfl))
    refine E_callP (pc' := 135) (kc' := 0) (ks' := 0) (W := 0) (a := o) (argsL := [(.int (1 : Int32))]) cx st15 [] (rmheapPush1 l Z a0 hw o cl cs c0 bF bG bO bH bT hP nw h15 n0 Z15 gt (-1 : Int32) (2 : Int32) (1 : Int32) (-1 : Int32) (2 : Int32) (2 : Int64) e0 (mkE id) er f0 pf fr g0 pg gr q0 (1 : Int64) qr (0 : Int32) (1 : Int32) dr (0 : Int32) (1 : Int32) tr p1 pr (ns.set (slt pf pg).toNatClampNeg (1 : Int32)) hnd hge ⟨X16, B17, HL18, ⟨_, V19⟩, ⟨_, V20⟩, ⟨_, V21⟩, ⟨_, V22⟩, ⟨_, V23⟩, ⟨_, V24⟩, ⟨_, V15p⟩, ⟨_, V25⟩, ⟨_, V26⟩⟩ ) X16 (wd hw 112 rfl) (wd hw 114 rfl) (wd hw 1 rfl) (wd hw 113 rfl) (wd hw 2 rfl) (wd hw 115 rfl) d8_132 rfl rfl (lenOf pd_2 rfl) (Nat.le_of_eq rfl) (by decide) (by decide) (by decide) (by decide) (by decide) (by decide) (by decide) rfl ?_
    intro v27 T27 h27 st27 hq27
    obtain ⟨xb, xc, hxbc, rfl, Kw27, Hw27⟩ := hq27
    have Z27 : n0 ≤ h27.size := Nat.le_trans Z15 Kw27.1
    have KKw27' : Keep h0 h27 [o, c0, bF, bG, bO, bH, bT, hP, nw] := K15.trans Kw27 (allS (mi 0 rfl) (allS (mi 1 rfl) (allS (mi 2 rfl) (allS (mi 3 rfl) (allS (mi 4 rfl) (allS (mi 5 rfl) (allS (mi 6 rfl) (allS (mi 7 rfl) (allS (mi 8 rfl) all0)))))))))
    obtain ⟨X_o_27, B_o_27, HL_27, ⟨k_cs_27, V_cs_27⟩, ⟨k_c0_27, V_c0_27⟩, ⟨k_bF_27, V_bF_27⟩, ⟨k_bG_27, V_bG_27⟩, ⟨k_bO_27, V_bO_27⟩, ⟨k_bH_27, V_bH_27⟩, ⟨k_bT_27, V_bT_27⟩, ⟨k_hP_27, V_hP_27⟩, ⟨k_nw_27, V_nw_27⟩⟩ := Hw27
    refine E_aloadN (pc' := 136) cx st27 d8_135 rfl rfl rfl ?_
    refine E_dup (pc' := 137) cx st27 d8_136 rfl rfl ?_
    refine E_getfield (pc' := 140) (v := (.int (1 : Int32))) cx st27 (wd hw 118 rfl) (B_o_27.at 4 (by decide) rfl rfl) d8_137 rfl ?_
    intro T28 st28
    refine E_iconst (pc' := 141) cx st28 (1 : Int32) d8_140 rfl rfl ?_
    refine E_iadd (pc' := 142) cx st28 d8_141 rfl ?_
    rw [show ((1 : Int32) + (1 : Int32)) = (2 : Int32) from by decide]
    refine E_putfield (pc' := 145) (ty := .int) cx st28 (wd hw 118 rfl) (B_o_27.at 4 (by decide) rfl rfl) X_o_27 (Or.inl (wd hw 119 rfl)) (wd hw 1 rfl) (by decide) rfl rfl g_o d8_142 rfl ?_
    intro T29 h29 st29 W29
    have Z29 : n0 ≤ h29.size := Nat.le_trans Z27 (Keep.of_wr W29).1
    have K29 : Keep h0 h29 [o, c0, bF, bG, bO, bH, bT, hP, nw] := KKw27'.wr W29 (mi 0 rfl)
    have B29w : OL Z h29 o [(.int gt), (.ref cl), (.int (-1 : Int32)), (.int (2 : Int32)), (.int (2 : Int32)), (.ref bF), (.ref bG), (.ref bO), (.ref bH), (.ref bT), (.int (-1 : Int32)), (.int (2 : Int32)), (.long (2 : Int64)), (.ref hP), (.int (2 : Int32)), (.ref nw)] := B_o_27.wr hw 4 (by decide) rfl W29 (Nat.le_of_ble_eq_true rfl)
    have X30 : Exa Z h29 o "com/example/flat_planner/flatplanner/OpenList" := (X_o_27.wr W29)
    have HL31 : LCF Z h29 cl cs := (HL_27.other W29 (nd hnd 1 0 rfl rfl))
    have V32 : Arv Z h29 cs k_cs_27 (.array .long) (1 : Int32) [(.ref c0)] .null := (V_cs_27.other W29 (nd hnd 2 0 rfl rfl))
    have V33 : Arv Z h29 c0 k_c0_27 .long (16 : Int32) ((.long e0) :: (.long (mkE id)) :: (er.map Value.long)) (.long (0 : Int64)) := (V_c0_27.other W29 (nd hnd 3 0 rfl rfl))
    have V34 : Arv Z h29 bF k_bF_27 .long (16 : Int32) ((.long f0) :: (.long pf) :: (fr.map Value.long)) (.long (0 : Int64)) := (V_bF_27.other W29 (nd hnd 4 0 rfl rfl))
    have V35 : Arv Z h29 bG k_bG_27 .long (16 : Int32) ((.long g0) :: (.long pg) :: (gr.map Value.long)) (.long (0 : Int64)) := (V_bG_27.other W29 (nd hnd 5 0 rfl rfl))
    have V36 : Arv Z h29 bO k_bO_27 .long (16 : Int32) ((.long q0) :: (.long (1 : Int64)) :: (qr.map Value.long)) (.long (0 : Int64)) := (V_bO_27.other W29 (nd hnd 6 0 rfl rfl))
    have V37 : Arv Z h29 bH k_bH_27 .int (16 : Int32) ((.int (0 : Int32)) :: (.int (1 : Int32)) :: (dr.map Value.int)) (.int (0 : Int32)) := (V_bH_27.other W29 (nd hnd 7 0 rfl rfl))
    have V38 : Arv Z h29 bT k_bT_27 .int (16 : Int32) ((.int (0 : Int32)) :: (.int (1 : Int32)) :: (tr.map Value.int)) (.int (0 : Int32)) := (V_bT_27.other W29 (nd hnd 8 0 rfl rfl))
    have V39 : Arv Z h29 hP k_hP_27 .int (16 : Int32) ((.int xb) :: (.int xc) :: (pr.map Value.int)) (.int (0 : Int32)) := (V_hP_27.other W29 (nd hnd 9 0 rfl rfl))
    have V40 : Arv Z h29 nw k_nw_27 .int (32 : Int32) ((ns.set (slt pf pg).toNatClampNeg (1 : Int32)).map Value.int) (.int (0 : Int32)) := (V_nw_27.other W29 (nd hnd 10 0 rfl rfl))
    refine E_return cx st29 d8_145 rfl (by decide) (by decide) ?_
    exact ⟨xb, xc, hxbc, rfl, K29, ⟨X30, B29w, HL31, ⟨_, V32⟩, ⟨_, V33⟩, ⟨_, V34⟩, ⟨_, V35⟩, ⟨_, V36⟩, ⟨_, V37⟩, ⟨_, V38⟩, ⟨_, V39⟩, ⟨_, V40⟩⟩⟩
  · rw [hk1]
    refine E_istore (pc' := 21) (L' := #[.val (.ref o), .val (.int id), .val (.long pf), .second, .val (.long pg), .second, .val (.int (1 : Int32)), .val (.int (0 : Int32)), .unset]) cx st3 d8_19 rfl rfl ?_
    refine E_iload (pc' := 23) cx st3 d8_21 rfl rfl ?_
    refine E_iconst (pc' := 24) cx st3 (-1 : Int32) d8_23 rfl rfl ?_
    refine E_icmp_eqN (pc' := 27) cx st3 d8_24 rfl (by decide) ?_
    refine E_aloadN (pc' := 28) cx st3 d8_27 rfl rfl rfl ?_
    refine E_getfield (pc' := 31) (v := (.ref bH)) cx st3 (wd hw 52 rfl) (B_o_1.at 8 (by decide) rfl rfl) d8_28 rfl ?_
    intro T41 st41
    refine E_iload (pc' := 33) cx st41 d8_31 rfl rfl ?_
    refine E_iaload (pc' := 34) (x := (0 : Int32)) cx st41 V_bH_1 ⟨by decide, by decide⟩ rfl d8_33 rfl ?_
    refine E_iconst (pc' := 35) cx st41 (-1 : Int32) d8_34 rfl rfl ?_
    refine E_icmp_eqN (pc' := 38) cx st41 d8_35 rfl (by decide) ?_
    refine E_aloadN (pc' := 39) cx st41 d8_38 rfl rfl rfl ?_
    refine E_getfield (pc' := 42) (v := (.ref bF)) cx st41 (wd hw 45 rfl) (B_o_1.at 5 (by decide) rfl rfl) d8_39 rfl ?_
    intro T42 st42
    refine E_iload (pc' := 44) cx st42 d8_42 rfl rfl ?_
    refine E_laload (pc' := 45) (x := f0) cx st42 V_bF_1 ⟨by decide, by decide⟩ rfl d8_44 rfl ?_
    refine E_lloadN (pc' := 46) cx st42 d8_45 rfl rfl ?_
    by_cases c43 : f0 = pf
    · refine E_lif_neN (pc' := 50) cx st42 d8_46 d8_47 rfl c43 ?_
      refine E_aloadN (pc' := 51) cx st42 d8_50 rfl rfl rfl ?_
      refine E_getfield (pc' := 54) (v := (.ref bG)) cx st42 (wd hw 47 rfl) (B_o_1.at 6 (by decide) rfl rfl) d8_51 rfl ?_
      intro T44 st44
      refine E_iload (pc' := 56) cx st44 d8_54 rfl rfl ?_
      refine E_laload (pc' := 57) (x := g0) cx st44 V_bG_1 ⟨by decide, by decide⟩ rfl d8_56 rfl ?_
      refine E_lload (pc' := 59) cx st44 d8_57 rfl rfl ?_
      by_cases c45 : g0 = pg
      · refine E_lif_neN (pc' := 63) cx st44 d8_59 d8_60 rfl c45 ?_
        refine E_aloadN (pc' := 64) cx st44 d8_63 rfl rfl rfl ?_
        refine E_aloadN (pc' := 65) cx st44 d8_64 rfl rfl rfl ?_
        refine E_getfield (pc' := 68) (v := (.ref bT)) cx st44 (wd hw 54 rfl) (B_o_1.at 9 (by decide) rfl rfl) d8_65 rfl ?_
        intro T46 st46
        refine E_iload (pc' := 70) cx st46 d8_68 rfl rfl ?_
        refine E_iaload (pc' := 71) (x := (0 : Int32)) cx st46 V_bT_1 ⟨by decide, by decide⟩ rfl d8_70 rfl ?_
        refine E_iload (pc' := 73) cx st46 d8_71 rfl rfl ?_
        exact absurd ⟨c43, c45⟩ hneq
      · refine E_lif_neY (pc' := 88) cx st44 d8_59 d8_60 (by decide) (by decide) c45 ?_
        refine E_aloadN (pc' := 89) cx st44 d8_88 rfl rfl rfl ?_
        refine E_lloadN (pc' := 90) cx st44 d8_89 rfl rfl ?_
        refine E_lload (pc' := 92) cx st44 d8_90 rfl rfl ?_
        refine E_callP (pc' := 95) (kc' := 0) (ks' := 0) (W := 0) (a := o) (argsL := [(.long pf), (.long pg)]) cx st44 [] (rmstartBucket1 l Z a0 hw o cl cs c0 bF bG bO bH bT hP nw h1 n0 Z1 gt (-1 : Int32) (2 : Int32) (1 : Int32) (1 : Int32) e0 (mkE id) er f0 f1 fr g0 g1 gr q0 q1 qr (0 : Int32) d1 dr (0 : Int32) t1 tr (0 : Int32) p1 pr ns pf pg hnd hge ⟨X_o_1, B_o_1, HL_1, ⟨_, V_cs_1⟩, ⟨_, V_c0_1⟩, ⟨_, V_bF_1⟩, ⟨_, V_bG_1⟩, ⟨_, V_bO_1⟩, ⟨_, V_bH_1⟩, ⟨_, V_bT_1⟩, ⟨_, V_hP_1⟩, ⟨_, V_nw_1⟩⟩ ) X_o_1 (wd hw 104 rfl) (wd hw 106 rfl) (wd hw 1 rfl) (wd hw 105 rfl) (wd hw 2 rfl) (wd hw 107 rfl) d8_92 rfl rfl (lenOf pd_8 rfl) (Nat.le_of_eq rfl) (by decide) (by decide) (by decide) (by decide) (by decide) (by decide) (by decide) rfl ?_
        intro v47 T47 h47 st47 hq47
        obtain ⟨rfl, Kw47, Hw47⟩ := hq47
        have Z47 : n0 ≤ h47.size := Nat.le_trans Z1 Kw47.1
        have KKw47' : Keep h0 h47 [o, c0, bF, bG, bO, bH, bT, hP, nw] := KKw1'.trans Kw47 (allS (mi 0 rfl) (allS (mi 1 rfl) (allS (mi 2 rfl) (allS (mi 3 rfl) (allS (mi 4 rfl) (allS (mi 5 rfl) (allS (mi 6 rfl) (allS (mi 7 rfl) (allS (mi 8 rfl) all0)))))))))
        obtain ⟨X_o_47, B_o_47, HL_47, ⟨k_cs_47, V_cs_47⟩, ⟨k_c0_47, V_c0_47⟩, ⟨k_bF_47, V_bF_47⟩, ⟨k_bG_47, V_bG_47⟩, ⟨k_bO_47, V_bO_47⟩, ⟨k_bH_47, V_bH_47⟩, ⟨k_bT_47, V_bT_47⟩, ⟨k_hP_47, V_hP_47⟩, ⟨k_nw_47, V_nw_47⟩⟩ := Hw47
        refine E_istore (pc' := 97) (L' := #[.val (.ref o), .val (.int id), .val (.long pf), .second, .val (.long pg), .second, .val (.int (1 : Int32)), .val (.int (0 : Int32)), .val (.int (1 : Int32))]) cx st47 d8_95 rfl rfl ?_
        refine E_aloadN (pc' := 98) cx st47 d8_97 rfl rfl rfl ?_
        refine E_getfield (pc' := 101) (v := (.ref nw)) cx st47 (wd hw 60 rfl) (B_o_47.at 15 (by decide) rfl rfl) d8_98 rfl ?_
        intro T48 st48
        refine E_aloadN (pc' := 102) cx st48 d8_101 rfl rfl rfl ?_
        refine E_lloadN (pc' := 103) cx st48 d8_102 rfl rfl ?_
        refine E_lload (pc' := 105) cx st48 d8_103 rfl rfl ?_
        refine E_callP (pc' := 108) (kc' := 0) (ks' := 0) (W := 1) (a := o) (argsL := [(.long pf), (.long pg)]) cx st48 [(.ref nw)] (rmslot l Z a0 hw o cl cs c0 bF bG bO bH bT hP nw h47 n0 Z47 gt (-1 : Int32) (2 : Int32) (1 : Int32) (-1 : Int32) (2 : Int32) (2 : Int64) (1 : Int32) e0 (mkE id) er f0 pf fr g0 pg gr q0 (1 : Int64) qr (0 : Int32) d1 dr (0 : Int32) t1 tr (0 : Int32) p1 pr ns pf pg hnd hge ⟨X_o_47, B_o_47, HL_47, ⟨_, V_cs_47⟩, ⟨_, V_c0_47⟩, ⟨_, V_bF_47⟩, ⟨_, V_bG_47⟩, ⟨_, V_bO_47⟩, ⟨_, V_bH_47⟩, ⟨_, V_bT_47⟩, ⟨_, V_hP_47⟩, ⟨_, V_nw_47⟩⟩ ) X_o_47 (wd hw 99 rfl) (wd hw 101 rfl) (wd hw 1 rfl) (wd hw 100 rfl) (wd hw 2 rfl) (wd hw 102 rfl) d8_105 rfl rfl (lenOf pd_8 rfl) (Nat.le_of_eq rfl) (by decide) (by decide) (by decide) (by decide) (by decide) (by decide) (by decide) rfl ?_
        intro v49 T49 h49 st49 hq49
        obtain ⟨rfl, hh49⟩ := hq49
        rw [hh49] at st49
        refine E_iload (pc' := 110) cx st49 d8_108 rfl rfl ?_
        refine E_iastore (pc' := 111) (i := (slt pf pg).toNatClampNeg) cx st49 V_nw_47 (slt_b pf pg) rfl (by rw [List.length_map, hnl]; exact (i32_small (n := 32) (slt_b pf pg) (by decide)).1) g_nw d8_110 rfl ?_
        intro T50 h50 st50 W50 V50
        have Z50 : n0 ≤ h50.size := Nat.le_trans Z47 (Keep.of_wr W50).1
        have K50 : Keep h0 h50 [o, c0, bF, bG, bO, bH, bT, hP, nw] := KKw47'.wr W50 (mi 8 rfl)
        have V50p : Arv Z h50 nw k_nw_47 .int (32 : Int32) ((ns.set (slt pf pg).toNatClampNeg (1 : Int32)).map Value.int) (.int (0 : Int32)) := by rw [List.map_set]; exact V50
        refine E_aloadN (pc' := 112) cx st50 d8_111 rfl rfl rfl ?_
        have B52 : OL Z h50 o [(.int gt), (.ref cl), (.int (-1 : Int32)), (.int (2 : Int32)), (.int (1 : Int32)), (.ref bF), (.ref bG), (.ref bO), (.ref bH), (.ref bT), (.int (-1 : Int32)), (.int (2 : Int32)), (.long (2 : Int64)), (.ref hP), (.int (1 : Int32)), (.ref nw)] := (B_o_47.other W50 (nd hnd 0 10 rfl rfl))
        refine E_getfield (pc' := 115) (v := (.ref bH)) cx st50 (wd hw 52 rfl) (B52.at 8 (by decide) rfl rfl) d8_112 rfl ?_
        intro T51 st51
        refine E_iload (pc' := 117) cx st51 d8_115 rfl rfl ?_
        refine E_iload (pc' := 119) cx st51 d8_117 rfl rfl ?_
        have V53 : Arv Z h50 bH k_bH_47 .int (16 : Int32) ((.int (0 : Int32)) :: (.int d1) :: (dr.map Value.int)) (.int (0 : Int32)) := (V_bH_47.other W50 (nd hnd 7 10 rfl rfl))
        refine E_iastore (pc' := 120) (i := 1) cx st51 V53 ⟨by decide, by decide⟩ rfl (Nat.succ_lt_succ (Nat.zero_lt_succ _)) g_bH d8_119 rfl ?_
        intro T54 h54 st54 W54 V54
        have Z54 : n0 ≤ h54.size := Nat.le_trans Z50 (Keep.of_wr W54).1
        have K54 : Keep h0 h54 [o, c0, bF, bG, bO, bH, bT, hP, nw] := K50.wr W54 (mi 5 rfl)
        have V54p : Arv Z h54 bH k_bH_47 .int (16 : Int32) ((.int (0 : Int32)) :: (.int (1 : Int32)) :: (dr.map Value.int)) (.int (0 : Int32)) := V54
        refine E_aloadN (pc' := 121) cx st54 d8_120 rfl rfl rfl ?_
        have B56 : OL Z h54 o [(.int gt), (.ref cl), (.int (-1 : Int32)), (.int (2 : Int32)), (.int (1 : Int32)), (.ref bF), (.ref bG), (.ref bO), (.ref bH), (.ref bT), (.int (-1 : Int32)), (.int (2 : Int32)), (.long (2 : Int64)), (.ref hP), (.int (1 : Int32)), (.ref nw)] := (B52.other W54 (nd hnd 0 7 rfl rfl))
        refine E_getfield (pc' := 124) (v := (.ref bT)) cx st54 (wd hw 54 rfl) (B56.at 9 (by decide) rfl rfl) d8_121 rfl ?_
        intro T55 st55
        refine E_iload (pc' := 126) cx st55 d8_124 rfl rfl ?_
        refine E_iload (pc' := 128) cx st55 d8_126 rfl rfl ?_
        have V57 : Arv Z h54 bT k_bT_47 .int (16 : Int32) ((.int (0 : Int32)) :: (.int t1) :: (tr.map Value.int)) (.int (0 : Int32)) := ((V_bT_47.other W50 (nd hnd 8 10 rfl rfl)).other W54 (nd hnd 8 7 rfl rfl))
        refine E_iastore (pc' := 129) (i := 1) cx st55 V57 ⟨by decide, by decide⟩ rfl (Nat.succ_lt_succ (Nat.zero_lt_succ _)) g_bT d8_128 rfl ?_
        intro T58 h58 st58 W58 V58
        have Z58 : n0 ≤ h58.size := Nat.le_trans Z54 (Keep.of_wr W58).1
        have K58 : Keep h0 h58 [o, c0, bF, bG, bO, bH, bT, hP, nw] := K54.wr W58 (mi 6 rfl)
        have V58p : Arv Z h58 bT k_bT_47 .int (16 : Int32) ((.int (0 : Int32)) :: (.int (1 : Int32)) :: (tr.map Value.int)) (.int (0 : Int32)) := V58
        refine E_aloadN (pc' := 130) cx st58 d8_129 rfl rfl rfl ?_
        refine E_iload (pc' := 132) cx st58 d8_130 rfl rfl ?_
        have X59 : Exa Z h58 o "com/example/flat_planner/flatplanner/OpenList" := (((X_o_47.wr W50).wr W54).wr W58)
        have B60 : OL Z h58 o [(.int gt), (.ref cl), (.int (-1 : Int32)), (.int (2 : Int32)), (.int (1 : Int32)), (.ref bF), (.ref bG), (.ref bO), (.ref bH), (.ref bT), (.int (-1 : Int32)), (.int (2 : Int32)), (.long (2 : Int64)), (.ref hP), (.int (1 : Int32)), (.ref nw)] := (B56.other W58 (nd hnd 0 8 rfl rfl))
        have HL61 : LCF Z h58 cl cs := (((HL_47.other W50 (nd hnd 1 10 rfl rfl)).other W54 (nd hnd 1 7 rfl rfl)).other W58 (nd hnd 1 8 rfl rfl))
        have V62 : Arv Z h58 cs k_cs_47 (.array .long) (1 : Int32) [(.ref c0)] .null := (((V_cs_47.other W50 (nd hnd 2 10 rfl rfl)).other W54 (nd hnd 2 7 rfl rfl)).other W58 (nd hnd 2 8 rfl rfl))
        have V63 : Arv Z h58 c0 k_c0_47 .long (16 : Int32) ((.long e0) :: (.long (mkE id)) :: (er.map Value.long)) (.long (0 : Int64)) := (((V_c0_47.other W50 (nd hnd 3 10 rfl rfl)).other W54 (nd hnd 3 7 rfl rfl)).other W58 (nd hnd 3 8 rfl rfl))
        have V64 : Arv Z h58 bF k_bF_47 .long (16 : Int32) ((.long f0) :: (.long pf) :: (fr.map Value.long)) (.long (0 : Int64)) := (((V_bF_47.other W50 (nd hnd 4 10 rfl rfl)).other W54 (nd hnd 4 7 rfl rfl)).other W58 (nd hnd 4 8 rfl rfl))
        have V65 : Arv Z h58 bG k_bG_47 .long (16 : Int32) ((.long g0) :: (.long pg) :: (gr.map Value.long)) (.long (0 : Int64)) := (((V_bG_47.other W50 (nd hnd 5 10 rfl rfl)).other W54 (nd hnd 5 7 rfl rfl)).other W58 (nd hnd 5 8 rfl rfl))
        have V66 : Arv Z h58 bO k_bO_47 .long (16 : Int32) ((.long q0) :: (.long (1 : Int64)) :: (qr.map Value.long)) (.long (0 : Int64)) := (((V_bO_47.other W50 (nd hnd 6 10 rfl rfl)).other W54 (nd hnd 6 7 rfl rfl)).other W58 (nd hnd 6 8 rfl rfl))
        have V67 : Arv Z h58 bH k_bH_47 .int (16 : Int32) ((.int (0 : Int32)) :: (.int (1 : Int32)) :: (dr.map Value.int)) (.int (0 : Int32)) := (V54p.other W58 (nd hnd 7 8 rfl rfl))
        have V68 : Arv Z h58 hP k_hP_47 .int (16 : Int32) ((.int (0 : Int32)) :: (.int p1) :: (pr.map Value.int)) (.int (0 : Int32)) := (((V_hP_47.other W50 (nd hnd 9 10 rfl rfl)).other W54 (nd hnd 9 7 rfl rfl)).other W58 (nd hnd 9 8 rfl rfl))
        have V69 : Arv Z h58 nw k_nw_47 .int (32 : Int32) ((ns.set (slt pf pg).toNatClampNeg (1 : Int32)).map Value.int) (.int (0 : Int32)) := ((V50p.other W54 (nd hnd 10 7 rfl rfl)).other W58 (nd hnd 10 8 rfl rfl))
        refine E_callP (pc' := 135) (kc' := 0) (ks' := 0) (W := 0) (a := o) (argsL := [(.int (1 : Int32))]) cx st58 [] (rmheapPush1 l Z a0 hw o cl cs c0 bF bG bO bH bT hP nw h58 n0 Z58 gt (-1 : Int32) (2 : Int32) (1 : Int32) (-1 : Int32) (2 : Int32) (2 : Int64) e0 (mkE id) er f0 pf fr g0 pg gr q0 (1 : Int64) qr (0 : Int32) (1 : Int32) dr (0 : Int32) (1 : Int32) tr p1 pr (ns.set (slt pf pg).toNatClampNeg (1 : Int32)) hnd hge ⟨X59, B60, HL61, ⟨_, V62⟩, ⟨_, V63⟩, ⟨_, V64⟩, ⟨_, V65⟩, ⟨_, V66⟩, ⟨_, V67⟩, ⟨_, V58p⟩, ⟨_, V68⟩, ⟨_, V69⟩⟩ ) X59 (wd hw 112 rfl) (wd hw 114 rfl) (wd hw 1 rfl) (wd hw 113 rfl) (wd hw 2 rfl) (wd hw 115 rfl) d8_132 rfl rfl (lenOf pd_2 rfl) (Nat.le_of_eq rfl) (by decide) (by decide) (by decide) (by decide) (by decide) (by decide) (by decide) rfl ?_
        intro v70 T70 h70 st70 hq70
        obtain ⟨xb, xc, hxbc, rfl, Kw70, Hw70⟩ := hq70
        have Z70 : n0 ≤ h70.size := Nat.le_trans Z58 Kw70.1
        have KKw70' : Keep h0 h70 [o, c0, bF, bG, bO, bH, bT, hP, nw] := K58.trans Kw70 (allS (mi 0 rfl) (allS (mi 1 rfl) (allS (mi 2 rfl) (allS (mi 3 rfl) (allS (mi 4 rfl) (allS (mi 5 rfl) (allS (mi 6 rfl) (allS (mi 7 rfl) (allS (mi 8 rfl) all0)))))))))
        obtain ⟨X_o_70, B_o_70, HL_70, ⟨k_cs_70, V_cs_70⟩, ⟨k_c0_70, V_c0_70⟩, ⟨k_bF_70, V_bF_70⟩, ⟨k_bG_70, V_bG_70⟩, ⟨k_bO_70, V_bO_70⟩, ⟨k_bH_70, V_bH_70⟩, ⟨k_bT_70, V_bT_70⟩, ⟨k_hP_70, V_hP_70⟩, ⟨k_nw_70, V_nw_70⟩⟩ := Hw70
        refine E_aloadN (pc' := 136) cx st70 d8_135 rfl rfl rfl ?_
        refine E_dup (pc' := 137) cx st70 d8_136 rfl rfl ?_
        refine E_getfield (pc' := 140) (v := (.int (1 : Int32))) cx st70 (wd hw 118 rfl) (B_o_70.at 4 (by decide) rfl rfl) d8_137 rfl ?_
        intro T71 st71
        refine E_iconst (pc' := 141) cx st71 (1 : Int32) d8_140 rfl rfl ?_
        refine E_iadd (pc' := 142) cx st71 d8_141 rfl ?_
        rw [show ((1 : Int32) + (1 : Int32)) = (2 : Int32) from by decide]
        refine E_putfield (pc' := 145) (ty := .int) cx st71 (wd hw 118 rfl) (B_o_70.at 4 (by decide) rfl rfl) X_o_70 (Or.inl (wd hw 119 rfl)) (wd hw 1 rfl) (by decide) rfl rfl g_o d8_142 rfl ?_
        intro T72 h72 st72 W72
        have Z72 : n0 ≤ h72.size := Nat.le_trans Z70 (Keep.of_wr W72).1
        have K72 : Keep h0 h72 [o, c0, bF, bG, bO, bH, bT, hP, nw] := KKw70'.wr W72 (mi 0 rfl)
        have B72w : OL Z h72 o [(.int gt), (.ref cl), (.int (-1 : Int32)), (.int (2 : Int32)), (.int (2 : Int32)), (.ref bF), (.ref bG), (.ref bO), (.ref bH), (.ref bT), (.int (-1 : Int32)), (.int (2 : Int32)), (.long (2 : Int64)), (.ref hP), (.int (2 : Int32)), (.ref nw)] := B_o_70.wr hw 4 (by decide) rfl W72 (Nat.le_of_ble_eq_true rfl)
        have X73 : Exa Z h72 o "com/example/flat_planner/flatplanner/OpenList" := (X_o_70.wr W72)
        have HL74 : LCF Z h72 cl cs := (HL_70.other W72 (nd hnd 1 0 rfl rfl))
        have V75 : Arv Z h72 cs k_cs_70 (.array .long) (1 : Int32) [(.ref c0)] .null := (V_cs_70.other W72 (nd hnd 2 0 rfl rfl))
        have V76 : Arv Z h72 c0 k_c0_70 .long (16 : Int32) ((.long e0) :: (.long (mkE id)) :: (er.map Value.long)) (.long (0 : Int64)) := (V_c0_70.other W72 (nd hnd 3 0 rfl rfl))
        have V77 : Arv Z h72 bF k_bF_70 .long (16 : Int32) ((.long f0) :: (.long pf) :: (fr.map Value.long)) (.long (0 : Int64)) := (V_bF_70.other W72 (nd hnd 4 0 rfl rfl))
        have V78 : Arv Z h72 bG k_bG_70 .long (16 : Int32) ((.long g0) :: (.long pg) :: (gr.map Value.long)) (.long (0 : Int64)) := (V_bG_70.other W72 (nd hnd 5 0 rfl rfl))
        have V79 : Arv Z h72 bO k_bO_70 .long (16 : Int32) ((.long q0) :: (.long (1 : Int64)) :: (qr.map Value.long)) (.long (0 : Int64)) := (V_bO_70.other W72 (nd hnd 6 0 rfl rfl))
        have V80 : Arv Z h72 bH k_bH_70 .int (16 : Int32) ((.int (0 : Int32)) :: (.int (1 : Int32)) :: (dr.map Value.int)) (.int (0 : Int32)) := (V_bH_70.other W72 (nd hnd 7 0 rfl rfl))
        have V81 : Arv Z h72 bT k_bT_70 .int (16 : Int32) ((.int (0 : Int32)) :: (.int (1 : Int32)) :: (tr.map Value.int)) (.int (0 : Int32)) := (V_bT_70.other W72 (nd hnd 8 0 rfl rfl))
        have V82 : Arv Z h72 hP k_hP_70 .int (16 : Int32) ((.int xb) :: (.int xc) :: (pr.map Value.int)) (.int (0 : Int32)) := (V_hP_70.other W72 (nd hnd 9 0 rfl rfl))
        have V83 : Arv Z h72 nw k_nw_70 .int (32 : Int32) ((ns.set (slt pf pg).toNatClampNeg (1 : Int32)).map Value.int) (.int (0 : Int32)) := (V_nw_70.other W72 (nd hnd 10 0 rfl rfl))
        refine E_return cx st72 d8_145 rfl (by decide) (by decide) ?_
        exact ⟨xb, xc, hxbc, rfl, K72, ⟨X73, B72w, HL74, ⟨_, V75⟩, ⟨_, V76⟩, ⟨_, V77⟩, ⟨_, V78⟩, ⟨_, V79⟩, ⟨_, V80⟩, ⟨_, V81⟩, ⟨_, V82⟩, ⟨_, V83⟩⟩⟩
    · refine E_lif_neY (pc' := 88) cx st42 d8_46 d8_47 (by decide) (by decide) c43 ?_
      refine E_aloadN (pc' := 89) cx st42 d8_88 rfl rfl rfl ?_
      refine E_lloadN (pc' := 90) cx st42 d8_89 rfl rfl ?_
      refine E_lload (pc' := 92) cx st42 d8_90 rfl rfl ?_
      refine E_callP (pc' := 95) (kc' := 0) (ks' := 0) (W := 0) (a := o) (argsL := [(.long pf), (.long pg)]) cx st42 [] (rmstartBucket1 l Z a0 hw o cl cs c0 bF bG bO bH bT hP nw h1 n0 Z1 gt (-1 : Int32) (2 : Int32) (1 : Int32) (1 : Int32) e0 (mkE id) er f0 f1 fr g0 g1 gr q0 q1 qr (0 : Int32) d1 dr (0 : Int32) t1 tr (0 : Int32) p1 pr ns pf pg hnd hge ⟨X_o_1, B_o_1, HL_1, ⟨_, V_cs_1⟩, ⟨_, V_c0_1⟩, ⟨_, V_bF_1⟩, ⟨_, V_bG_1⟩, ⟨_, V_bO_1⟩, ⟨_, V_bH_1⟩, ⟨_, V_bT_1⟩, ⟨_, V_hP_1⟩, ⟨_, V_nw_1⟩⟩ ) X_o_1 (wd hw 104 rfl) (wd hw 106 rfl) (wd hw 1 rfl) (wd hw 105 rfl) (wd hw 2 rfl) (wd hw 107 rfl) d8_92 rfl rfl (lenOf pd_8 rfl) (Nat.le_of_eq rfl) (by decide) (by decide) (by decide) (by decide) (by decide) (by decide) (by decide) rfl ?_
      intro v84 T84 h84 st84 hq84
      obtain ⟨rfl, Kw84, Hw84⟩ := hq84
      have Z84 : n0 ≤ h84.size := Nat.le_trans Z1 Kw84.1
      have KKw84' : Keep h0 h84 [o, c0, bF, bG, bO, bH, bT, hP, nw] := KKw1'.trans Kw84 (allS (mi 0 rfl) (allS (mi 1 rfl) (allS (mi 2 rfl) (allS (mi 3 rfl) (allS (mi 4 rfl) (allS (mi 5 rfl) (allS (mi 6 rfl) (allS (mi 7 rfl) (allS (mi 8 rfl) all0)))))))))
      obtain ⟨X_o_84, B_o_84, HL_84, ⟨k_cs_84, V_cs_84⟩, ⟨k_c0_84, V_c0_84⟩, ⟨k_bF_84, V_bF_84⟩, ⟨k_bG_84, V_bG_84⟩, ⟨k_bO_84, V_bO_84⟩, ⟨k_bH_84, V_bH_84⟩, ⟨k_bT_84, V_bT_84⟩, ⟨k_hP_84, V_hP_84⟩, ⟨k_nw_84, V_nw_84⟩⟩ := Hw84
      refine E_istore (pc' := 97) (L' := #[.val (.ref o), .val (.int id), .val (.long pf), .second, .val (.long pg), .second, .val (.int (1 : Int32)), .val (.int (0 : Int32)), .val (.int (1 : Int32))]) cx st84 d8_95 rfl rfl ?_
      refine E_aloadN (pc' := 98) cx st84 d8_97 rfl rfl rfl ?_
      refine E_getfield (pc' := 101) (v := (.ref nw)) cx st84 (wd hw 60 rfl) (B_o_84.at 15 (by decide) rfl rfl) d8_98 rfl ?_
      intro T85 st85
      refine E_aloadN (pc' := 102) cx st85 d8_101 rfl rfl rfl ?_
      refine E_lloadN (pc' := 103) cx st85 d8_102 rfl rfl ?_
      refine E_lload (pc' := 105) cx st85 d8_103 rfl rfl ?_
      refine E_callP (pc' := 108) (kc' := 0) (ks' := 0) (W := 1) (a := o) (argsL := [(.long pf), (.long pg)]) cx st85 [(.ref nw)] (rmslot l Z a0 hw o cl cs c0 bF bG bO bH bT hP nw h84 n0 Z84 gt (-1 : Int32) (2 : Int32) (1 : Int32) (-1 : Int32) (2 : Int32) (2 : Int64) (1 : Int32) e0 (mkE id) er f0 pf fr g0 pg gr q0 (1 : Int64) qr (0 : Int32) d1 dr (0 : Int32) t1 tr (0 : Int32) p1 pr ns pf pg hnd hge ⟨X_o_84, B_o_84, HL_84, ⟨_, V_cs_84⟩, ⟨_, V_c0_84⟩, ⟨_, V_bF_84⟩, ⟨_, V_bG_84⟩, ⟨_, V_bO_84⟩, ⟨_, V_bH_84⟩, ⟨_, V_bT_84⟩, ⟨_, V_hP_84⟩, ⟨_, V_nw_84⟩⟩ ) X_o_84 (wd hw 99 rfl) (wd hw 101 rfl) (wd hw 1 rfl) (wd hw 100 rfl) (wd hw 2 rfl) (wd hw 102 rfl) d8_105 rfl rfl (lenOf pd_8 rfl) (Nat.le_of_eq rfl) (by decide) (by decide) (by decide) (by decide) (by decide) (by decide) (by decide) rfl ?_
      intro v86 T86 h86 st86 hq86
      obtain ⟨rfl, hh86⟩ := hq86
      rw [hh86] at st86
      refine E_iload (pc' := 110) cx st86 d8_108 rfl rfl ?_
      refine E_iastore (pc' := 111) (i := (slt pf pg).toNatClampNeg) cx st86 V_nw_84 (slt_b pf pg) rfl (by rw [List.length_map, hnl]; exact (i32_small (n := 32) (slt_b pf pg) (by decide)).1) g_nw d8_110 rfl ?_
      intro T87 h87 st87 W87 V87
      have Z87 : n0 ≤ h87.size := Nat.le_trans Z84 (Keep.of_wr W87).1
      have K87 : Keep h0 h87 [o, c0, bF, bG, bO, bH, bT, hP, nw] := KKw84'.wr W87 (mi 8 rfl)
      have V87p : Arv Z h87 nw k_nw_84 .int (32 : Int32) ((ns.set (slt pf pg).toNatClampNeg (1 : Int32)).map Value.int) (.int (0 : Int32)) := by rw [List.map_set]; exact V87
      refine E_aloadN (pc' := 112) cx st87 d8_111 rfl rfl rfl ?_
      have B89 : OL Z h87 o [(.int gt), (.ref cl), (.int (-1 : Int32)), (.int (2 : Int32)), (.int (1 : Int32)), (.ref bF), (.ref bG), (.ref bO), (.ref bH), (.ref bT), (.int (-1 : Int32)), (.int (2 : Int32)), (.long (2 : Int64)), (.ref hP), (.int (1 : Int32)), (.ref nw)] := (B_o_84.other W87 (nd hnd 0 10 rfl rfl))
      refine E_getfield (pc' := 115) (v := (.ref bH)) cx st87 (wd hw 52 rfl) (B89.at 8 (by decide) rfl rfl) d8_112 rfl ?_
      intro T88 st88
      refine E_iload (pc' := 117) cx st88 d8_115 rfl rfl ?_
      refine E_iload (pc' := 119) cx st88 d8_117 rfl rfl ?_
      have V90 : Arv Z h87 bH k_bH_84 .int (16 : Int32) ((.int (0 : Int32)) :: (.int d1) :: (dr.map Value.int)) (.int (0 : Int32)) := (V_bH_84.other W87 (nd hnd 7 10 rfl rfl))
      refine E_iastore (pc' := 120) (i := 1) cx st88 V90 ⟨by decide, by decide⟩ rfl (Nat.succ_lt_succ (Nat.zero_lt_succ _)) g_bH d8_119 rfl ?_
      intro T91 h91 st91 W91 V91
      have Z91 : n0 ≤ h91.size := Nat.le_trans Z87 (Keep.of_wr W91).1
      have K91 : Keep h0 h91 [o, c0, bF, bG, bO, bH, bT, hP, nw] := K87.wr W91 (mi 5 rfl)
      have V91p : Arv Z h91 bH k_bH_84 .int (16 : Int32) ((.int (0 : Int32)) :: (.int (1 : Int32)) :: (dr.map Value.int)) (.int (0 : Int32)) := V91
      refine E_aloadN (pc' := 121) cx st91 d8_120 rfl rfl rfl ?_
      have B93 : OL Z h91 o [(.int gt), (.ref cl), (.int (-1 : Int32)), (.int (2 : Int32)), (.int (1 : Int32)), (.ref bF), (.ref bG), (.ref bO), (.ref bH), (.ref bT), (.int (-1 : Int32)), (.int (2 : Int32)), (.long (2 : Int64)), (.ref hP), (.int (1 : Int32)), (.ref nw)] := (B89.other W91 (nd hnd 0 7 rfl rfl))
      refine E_getfield (pc' := 124) (v := (.ref bT)) cx st91 (wd hw 54 rfl) (B93.at 9 (by decide) rfl rfl) d8_121 rfl ?_
      intro T92 st92
      refine E_iload (pc' := 126) cx st92 d8_124 rfl rfl ?_
      refine E_iload (pc' := 128) cx st92 d8_126 rfl rfl ?_
      have V94 : Arv Z h91 bT k_bT_84 .int (16 : Int32) ((.int (0 : Int32)) :: (.int t1) :: (tr.map Value.int)) (.int (0 : Int32)) := ((V_bT_84.other W87 (nd hnd 8 10 rfl rfl)).other W91 (nd hnd 8 7 rfl rfl))
      refine E_iastore (pc' := 129) (i := 1) cx st92 V94 ⟨by decide, by decide⟩ rfl (Nat.succ_lt_succ (Nat.zero_lt_succ _)) g_bT d8_128 rfl ?_
      intro T95 h95 st95 W95 V95
      have Z95 : n0 ≤ h95.size := Nat.le_trans Z91 (Keep.of_wr W95).1
      have K95 : Keep h0 h95 [o, c0, bF, bG, bO, bH, bT, hP, nw] := K91.wr W95 (mi 6 rfl)
      have V95p : Arv Z h95 bT k_bT_84 .int (16 : Int32) ((.int (0 : Int32)) :: (.int (1 : Int32)) :: (tr.map Value.int)) (.int (0 : Int32)) := V95
      refine E_aloadN (pc' := 130) cx st95 d8_129 rfl rfl rfl ?_
      refine E_iload (pc' := 132) cx st95 d8_130 rfl rfl ?_
      have X96 : Exa Z h95 o "com/example/flat_planner/flatplanner/OpenList" := (((X_o_84.wr W87).wr W91).wr W95)
      have B97 : OL Z h95 o [(.int gt), (.ref cl), (.int (-1 : Int32)), (.int (2 : Int32)), (.int (1 : Int32)), (.ref bF), (.ref bG), (.ref bO), (.ref bH), (.ref bT), (.int (-1 : Int32)), (.int (2 : Int32)), (.long (2 : Int64)), (.ref hP), (.int (1 : Int32)), (.ref nw)] := (B93.other W95 (nd hnd 0 8 rfl rfl))
      have HL98 : LCF Z h95 cl cs := (((HL_84.other W87 (nd hnd 1 10 rfl rfl)).other W91 (nd hnd 1 7 rfl rfl)).other W95 (nd hnd 1 8 rfl rfl))
      have V99 : Arv Z h95 cs k_cs_84 (.array .long) (1 : Int32) [(.ref c0)] .null := (((V_cs_84.other W87 (nd hnd 2 10 rfl rfl)).other W91 (nd hnd 2 7 rfl rfl)).other W95 (nd hnd 2 8 rfl rfl))
      have V100 : Arv Z h95 c0 k_c0_84 .long (16 : Int32) ((.long e0) :: (.long (mkE id)) :: (er.map Value.long)) (.long (0 : Int64)) := (((V_c0_84.other W87 (nd hnd 3 10 rfl rfl)).other W91 (nd hnd 3 7 rfl rfl)).other W95 (nd hnd 3 8 rfl rfl))
      have V101 : Arv Z h95 bF k_bF_84 .long (16 : Int32) ((.long f0) :: (.long pf) :: (fr.map Value.long)) (.long (0 : Int64)) := (((V_bF_84.other W87 (nd hnd 4 10 rfl rfl)).other W91 (nd hnd 4 7 rfl rfl)).other W95 (nd hnd 4 8 rfl rfl))
      have V102 : Arv Z h95 bG k_bG_84 .long (16 : Int32) ((.long g0) :: (.long pg) :: (gr.map Value.long)) (.long (0 : Int64)) := (((V_bG_84.other W87 (nd hnd 5 10 rfl rfl)).other W91 (nd hnd 5 7 rfl rfl)).other W95 (nd hnd 5 8 rfl rfl))
      have V103 : Arv Z h95 bO k_bO_84 .long (16 : Int32) ((.long q0) :: (.long (1 : Int64)) :: (qr.map Value.long)) (.long (0 : Int64)) := (((V_bO_84.other W87 (nd hnd 6 10 rfl rfl)).other W91 (nd hnd 6 7 rfl rfl)).other W95 (nd hnd 6 8 rfl rfl))
      have V104 : Arv Z h95 bH k_bH_84 .int (16 : Int32) ((.int (0 : Int32)) :: (.int (1 : Int32)) :: (dr.map Value.int)) (.int (0 : Int32)) := (V91p.other W95 (nd hnd 7 8 rfl rfl))
      have V105 : Arv Z h95 hP k_hP_84 .int (16 : Int32) ((.int (0 : Int32)) :: (.int p1) :: (pr.map Value.int)) (.int (0 : Int32)) := (((V_hP_84.other W87 (nd hnd 9 10 rfl rfl)).other W91 (nd hnd 9 7 rfl rfl)).other W95 (nd hnd 9 8 rfl rfl))
      have V106 : Arv Z h95 nw k_nw_84 .int (32 : Int32) ((ns.set (slt pf pg).toNatClampNeg (1 : Int32)).map Value.int) (.int (0 : Int32)) := ((V87p.other W91 (nd hnd 10 7 rfl rfl)).other W95 (nd hnd 10 8 rfl rfl))
      refine E_callP (pc' := 135) (kc' := 0) (ks' := 0) (W := 0) (a := o) (argsL := [(.int (1 : Int32))]) cx st95 [] (rmheapPush1 l Z a0 hw o cl cs c0 bF bG bO bH bT hP nw h95 n0 Z95 gt (-1 : Int32) (2 : Int32) (1 : Int32) (-1 : Int32) (2 : Int32) (2 : Int64) e0 (mkE id) er f0 pf fr g0 pg gr q0 (1 : Int64) qr (0 : Int32) (1 : Int32) dr (0 : Int32) (1 : Int32) tr p1 pr (ns.set (slt pf pg).toNatClampNeg (1 : Int32)) hnd hge ⟨X96, B97, HL98, ⟨_, V99⟩, ⟨_, V100⟩, ⟨_, V101⟩, ⟨_, V102⟩, ⟨_, V103⟩, ⟨_, V104⟩, ⟨_, V95p⟩, ⟨_, V105⟩, ⟨_, V106⟩⟩ ) X96 (wd hw 112 rfl) (wd hw 114 rfl) (wd hw 1 rfl) (wd hw 113 rfl) (wd hw 2 rfl) (wd hw 115 rfl) d8_132 rfl rfl (lenOf pd_2 rfl) (Nat.le_of_eq rfl) (by decide) (by decide) (by decide) (by decide) (by decide) (by decide) (by decide) rfl ?_
      intro v107 T107 h107 st107 hq107
      obtain ⟨xb, xc, hxbc, rfl, Kw107, Hw107⟩ := hq107
      have Z107 : n0 ≤ h107.size := Nat.le_trans Z95 Kw107.1
      have KKw107' : Keep h0 h107 [o, c0, bF, bG, bO, bH, bT, hP, nw] := K95.trans Kw107 (allS (mi 0 rfl) (allS (mi 1 rfl) (allS (mi 2 rfl) (allS (mi 3 rfl) (allS (mi 4 rfl) (allS (mi 5 rfl) (allS (mi 6 rfl) (allS (mi 7 rfl) (allS (mi 8 rfl) all0)))))))))
      obtain ⟨X_o_107, B_o_107, HL_107, ⟨k_cs_107, V_cs_107⟩, ⟨k_c0_107, V_c0_107⟩, ⟨k_bF_107, V_bF_107⟩, ⟨k_bG_107, V_bG_107⟩, ⟨k_bO_107, V_bO_107⟩, ⟨k_bH_107, V_bH_107⟩, ⟨k_bT_107, V_bT_107⟩, ⟨k_hP_107, V_hP_107⟩, ⟨k_nw_107, V_nw_107⟩⟩ := Hw107
      refine E_aloadN (pc' := 136) cx st107 d8_135 rfl rfl rfl ?_
      refine E_dup (pc' := 137) cx st107 d8_136 rfl rfl ?_
      refine E_getfield (pc' := 140) (v := (.int (1 : Int32))) cx st107 (wd hw 118 rfl) (B_o_107.at 4 (by decide) rfl rfl) d8_137 rfl ?_
      intro T108 st108
      refine E_iconst (pc' := 141) cx st108 (1 : Int32) d8_140 rfl rfl ?_
      refine E_iadd (pc' := 142) cx st108 d8_141 rfl ?_
      rw [show ((1 : Int32) + (1 : Int32)) = (2 : Int32) from by decide]
      refine E_putfield (pc' := 145) (ty := .int) cx st108 (wd hw 118 rfl) (B_o_107.at 4 (by decide) rfl rfl) X_o_107 (Or.inl (wd hw 119 rfl)) (wd hw 1 rfl) (by decide) rfl rfl g_o d8_142 rfl ?_
      intro T109 h109 st109 W109
      have Z109 : n0 ≤ h109.size := Nat.le_trans Z107 (Keep.of_wr W109).1
      have K109 : Keep h0 h109 [o, c0, bF, bG, bO, bH, bT, hP, nw] := KKw107'.wr W109 (mi 0 rfl)
      have B109w : OL Z h109 o [(.int gt), (.ref cl), (.int (-1 : Int32)), (.int (2 : Int32)), (.int (2 : Int32)), (.ref bF), (.ref bG), (.ref bO), (.ref bH), (.ref bT), (.int (-1 : Int32)), (.int (2 : Int32)), (.long (2 : Int64)), (.ref hP), (.int (2 : Int32)), (.ref nw)] := B_o_107.wr hw 4 (by decide) rfl W109 (Nat.le_of_ble_eq_true rfl)
      have X110 : Exa Z h109 o "com/example/flat_planner/flatplanner/OpenList" := (X_o_107.wr W109)
      have HL111 : LCF Z h109 cl cs := (HL_107.other W109 (nd hnd 1 0 rfl rfl))
      have V112 : Arv Z h109 cs k_cs_107 (.array .long) (1 : Int32) [(.ref c0)] .null := (V_cs_107.other W109 (nd hnd 2 0 rfl rfl))
      have V113 : Arv Z h109 c0 k_c0_107 .long (16 : Int32) ((.long e0) :: (.long (mkE id)) :: (er.map Value.long)) (.long (0 : Int64)) := (V_c0_107.other W109 (nd hnd 3 0 rfl rfl))
      have V114 : Arv Z h109 bF k_bF_107 .long (16 : Int32) ((.long f0) :: (.long pf) :: (fr.map Value.long)) (.long (0 : Int64)) := (V_bF_107.other W109 (nd hnd 4 0 rfl rfl))
      have V115 : Arv Z h109 bG k_bG_107 .long (16 : Int32) ((.long g0) :: (.long pg) :: (gr.map Value.long)) (.long (0 : Int64)) := (V_bG_107.other W109 (nd hnd 5 0 rfl rfl))
      have V116 : Arv Z h109 bO k_bO_107 .long (16 : Int32) ((.long q0) :: (.long (1 : Int64)) :: (qr.map Value.long)) (.long (0 : Int64)) := (V_bO_107.other W109 (nd hnd 6 0 rfl rfl))
      have V117 : Arv Z h109 bH k_bH_107 .int (16 : Int32) ((.int (0 : Int32)) :: (.int (1 : Int32)) :: (dr.map Value.int)) (.int (0 : Int32)) := (V_bH_107.other W109 (nd hnd 7 0 rfl rfl))
      have V118 : Arv Z h109 bT k_bT_107 .int (16 : Int32) ((.int (0 : Int32)) :: (.int (1 : Int32)) :: (tr.map Value.int)) (.int (0 : Int32)) := (V_bT_107.other W109 (nd hnd 8 0 rfl rfl))
      have V119 : Arv Z h109 hP k_hP_107 .int (16 : Int32) ((.int xb) :: (.int xc) :: (pr.map Value.int)) (.int (0 : Int32)) := (V_hP_107.other W109 (nd hnd 9 0 rfl rfl))
      have V120 : Arv Z h109 nw k_nw_107 .int (32 : Int32) ((ns.set (slt pf pg).toNatClampNeg (1 : Int32)).map Value.int) (.int (0 : Int32)) := (V_nw_107.other W109 (nd hnd 10 0 rfl rfl))
      refine E_return cx st109 d8_145 rfl (by decide) (by decide) ?_
      exact ⟨xb, xc, hxbc, rfl, K109, ⟨X110, B109w, HL111, ⟨_, V112⟩, ⟨_, V113⟩, ⟨_, V114⟩, ⟨_, V115⟩, ⟨_, V116⟩, ⟨_, V117⟩, ⟨_, V118⟩, ⟨_, V119⟩, ⟨_, V120⟩⟩⟩
  · rw [hk1]
    refine E_istore (pc' := 21) (L' := #[.val (.ref o), .val (.int id), .val (.long pf), .second, .val (.long pg), .second, .val (.int (1 : Int32)), .val (.int (1 : Int32)), .unset]) cx st3 d8_19 rfl rfl ?_
    refine E_iload (pc' := 23) cx st3 d8_21 rfl rfl ?_
    refine E_iconst (pc' := 24) cx st3 (-1 : Int32) d8_23 rfl rfl ?_
    refine E_icmp_eqN (pc' := 27) cx st3 d8_24 rfl (by decide) ?_
    refine E_aloadN (pc' := 28) cx st3 d8_27 rfl rfl rfl ?_
    refine E_getfield (pc' := 31) (v := (.ref bH)) cx st3 (wd hw 52 rfl) (B_o_1.at 8 (by decide) rfl rfl) d8_28 rfl ?_
    intro T121 st121
    refine E_iload (pc' := 33) cx st121 d8_31 rfl rfl ?_
    refine E_iaload (pc' := 34) (x := d1) cx st121 V_bH_1 ⟨by decide, by decide⟩ rfl d8_33 rfl ?_
    refine E_iconst (pc' := 35) cx st121 (-1 : Int32) d8_34 rfl rfl ?_
    refine E_icmp_eqY (pc' := 88) cx st121 d8_35 (by decide) (by decide) hk2 ?_
    refine E_aloadN (pc' := 89) cx st121 d8_88 rfl rfl rfl ?_
    refine E_lloadN (pc' := 90) cx st121 d8_89 rfl rfl ?_
    refine E_lload (pc' := 92) cx st121 d8_90 rfl rfl ?_
    refine E_callP (pc' := 95) (kc' := 0) (ks' := 0) (W := 0) (a := o) (argsL := [(.long pf), (.long pg)]) cx st121 [] (rmstartBucket1 l Z a0 hw o cl cs c0 bF bG bO bH bT hP nw h1 n0 Z1 gt (-1 : Int32) (2 : Int32) (1 : Int32) (1 : Int32) e0 (mkE id) er f0 f1 fr g0 g1 gr q0 q1 qr (0 : Int32) d1 dr (0 : Int32) t1 tr (0 : Int32) p1 pr ns pf pg hnd hge ⟨X_o_1, B_o_1, HL_1, ⟨_, V_cs_1⟩, ⟨_, V_c0_1⟩, ⟨_, V_bF_1⟩, ⟨_, V_bG_1⟩, ⟨_, V_bO_1⟩, ⟨_, V_bH_1⟩, ⟨_, V_bT_1⟩, ⟨_, V_hP_1⟩, ⟨_, V_nw_1⟩⟩ ) X_o_1 (wd hw 104 rfl) (wd hw 106 rfl) (wd hw 1 rfl) (wd hw 105 rfl) (wd hw 2 rfl) (wd hw 107 rfl) d8_92 rfl rfl (lenOf pd_8 rfl) (Nat.le_of_eq rfl) (by decide) (by decide) (by decide) (by decide) (by decide) (by decide) (by decide) rfl ?_
    intro v122 T122 h122 st122 hq122
    obtain ⟨rfl, Kw122, Hw122⟩ := hq122
    have Z122 : n0 ≤ h122.size := Nat.le_trans Z1 Kw122.1
    have KKw122' : Keep h0 h122 [o, c0, bF, bG, bO, bH, bT, hP, nw] := KKw1'.trans Kw122 (allS (mi 0 rfl) (allS (mi 1 rfl) (allS (mi 2 rfl) (allS (mi 3 rfl) (allS (mi 4 rfl) (allS (mi 5 rfl) (allS (mi 6 rfl) (allS (mi 7 rfl) (allS (mi 8 rfl) all0)))))))))
    obtain ⟨X_o_122, B_o_122, HL_122, ⟨k_cs_122, V_cs_122⟩, ⟨k_c0_122, V_c0_122⟩, ⟨k_bF_122, V_bF_122⟩, ⟨k_bG_122, V_bG_122⟩, ⟨k_bO_122, V_bO_122⟩, ⟨k_bH_122, V_bH_122⟩, ⟨k_bT_122, V_bT_122⟩, ⟨k_hP_122, V_hP_122⟩, ⟨k_nw_122, V_nw_122⟩⟩ := Hw122
    refine E_istore (pc' := 97) (L' := #[.val (.ref o), .val (.int id), .val (.long pf), .second, .val (.long pg), .second, .val (.int (1 : Int32)), .val (.int (1 : Int32)), .val (.int (1 : Int32))]) cx st122 d8_95 rfl rfl ?_
    refine E_aloadN (pc' := 98) cx st122 d8_97 rfl rfl rfl ?_
    refine E_getfield (pc' := 101) (v := (.ref nw)) cx st122 (wd hw 60 rfl) (B_o_122.at 15 (by decide) rfl rfl) d8_98 rfl ?_
    intro T123 st123
    refine E_aloadN (pc' := 102) cx st123 d8_101 rfl rfl rfl ?_
    refine E_lloadN (pc' := 103) cx st123 d8_102 rfl rfl ?_
    refine E_lload (pc' := 105) cx st123 d8_103 rfl rfl ?_
    refine E_callP (pc' := 108) (kc' := 0) (ks' := 0) (W := 1) (a := o) (argsL := [(.long pf), (.long pg)]) cx st123 [(.ref nw)] (rmslot l Z a0 hw o cl cs c0 bF bG bO bH bT hP nw h122 n0 Z122 gt (-1 : Int32) (2 : Int32) (1 : Int32) (-1 : Int32) (2 : Int32) (2 : Int64) (1 : Int32) e0 (mkE id) er f0 pf fr g0 pg gr q0 (1 : Int64) qr (0 : Int32) d1 dr (0 : Int32) t1 tr (0 : Int32) p1 pr ns pf pg hnd hge ⟨X_o_122, B_o_122, HL_122, ⟨_, V_cs_122⟩, ⟨_, V_c0_122⟩, ⟨_, V_bF_122⟩, ⟨_, V_bG_122⟩, ⟨_, V_bO_122⟩, ⟨_, V_bH_122⟩, ⟨_, V_bT_122⟩, ⟨_, V_hP_122⟩, ⟨_, V_nw_122⟩⟩ ) X_o_122 (wd hw 99 rfl) (wd hw 101 rfl) (wd hw 1 rfl) (wd hw 100 rfl) (wd hw 2 rfl) (wd hw 102 rfl) d8_105 rfl rfl (lenOf pd_8 rfl) (Nat.le_of_eq rfl) (by decide) (by decide) (by decide) (by decide) (by decide) (by decide) (by decide) rfl ?_
    intro v124 T124 h124 st124 hq124
    obtain ⟨rfl, hh124⟩ := hq124
    rw [hh124] at st124
    refine E_iload (pc' := 110) cx st124 d8_108 rfl rfl ?_
    refine E_iastore (pc' := 111) (i := (slt pf pg).toNatClampNeg) cx st124 V_nw_122 (slt_b pf pg) rfl (by rw [List.length_map, hnl]; exact (i32_small (n := 32) (slt_b pf pg) (by decide)).1) g_nw d8_110 rfl ?_
    intro T125 h125 st125 W125 V125
    have Z125 : n0 ≤ h125.size := Nat.le_trans Z122 (Keep.of_wr W125).1
    have K125 : Keep h0 h125 [o, c0, bF, bG, bO, bH, bT, hP, nw] := KKw122'.wr W125 (mi 8 rfl)
    have V125p : Arv Z h125 nw k_nw_122 .int (32 : Int32) ((ns.set (slt pf pg).toNatClampNeg (1 : Int32)).map Value.int) (.int (0 : Int32)) := by rw [List.map_set]; exact V125
    refine E_aloadN (pc' := 112) cx st125 d8_111 rfl rfl rfl ?_
    have B127 : OL Z h125 o [(.int gt), (.ref cl), (.int (-1 : Int32)), (.int (2 : Int32)), (.int (1 : Int32)), (.ref bF), (.ref bG), (.ref bO), (.ref bH), (.ref bT), (.int (-1 : Int32)), (.int (2 : Int32)), (.long (2 : Int64)), (.ref hP), (.int (1 : Int32)), (.ref nw)] := (B_o_122.other W125 (nd hnd 0 10 rfl rfl))
    refine E_getfield (pc' := 115) (v := (.ref bH)) cx st125 (wd hw 52 rfl) (B127.at 8 (by decide) rfl rfl) d8_112 rfl ?_
    intro T126 st126
    refine E_iload (pc' := 117) cx st126 d8_115 rfl rfl ?_
    refine E_iload (pc' := 119) cx st126 d8_117 rfl rfl ?_
    have V128 : Arv Z h125 bH k_bH_122 .int (16 : Int32) ((.int (0 : Int32)) :: (.int d1) :: (dr.map Value.int)) (.int (0 : Int32)) := (V_bH_122.other W125 (nd hnd 7 10 rfl rfl))
    refine E_iastore (pc' := 120) (i := 1) cx st126 V128 ⟨by decide, by decide⟩ rfl (Nat.succ_lt_succ (Nat.zero_lt_succ _)) g_bH d8_119 rfl ?_
    intro T129 h129 st129 W129 V129
    have Z129 : n0 ≤ h129.size := Nat.le_trans Z125 (Keep.of_wr W129).1
    have K129 : Keep h0 h129 [o, c0, bF, bG, bO, bH, bT, hP, nw] := K125.wr W129 (mi 5 rfl)
    have V129p : Arv Z h129 bH k_bH_122 .int (16 : Int32) ((.int (0 : Int32)) :: (.int (1 : Int32)) :: (dr.map Value.int)) (.int (0 : Int32)) := V129
    refine E_aloadN (pc' := 121) cx st129 d8_120 rfl rfl rfl ?_
    have B131 : OL Z h129 o [(.int gt), (.ref cl), (.int (-1 : Int32)), (.int (2 : Int32)), (.int (1 : Int32)), (.ref bF), (.ref bG), (.ref bO), (.ref bH), (.ref bT), (.int (-1 : Int32)), (.int (2 : Int32)), (.long (2 : Int64)), (.ref hP), (.int (1 : Int32)), (.ref nw)] := (B127.other W129 (nd hnd 0 7 rfl rfl))
    refine E_getfield (pc' := 124) (v := (.ref bT)) cx st129 (wd hw 54 rfl) (B131.at 9 (by decide) rfl rfl) d8_121 rfl ?_
    intro T130 st130
    refine E_iload (pc' := 126) cx st130 d8_124 rfl rfl ?_
    refine E_iload (pc' := 128) cx st130 d8_126 rfl rfl ?_
    have V132 : Arv Z h129 bT k_bT_122 .int (16 : Int32) ((.int (0 : Int32)) :: (.int t1) :: (tr.map Value.int)) (.int (0 : Int32)) := ((V_bT_122.other W125 (nd hnd 8 10 rfl rfl)).other W129 (nd hnd 8 7 rfl rfl))
    refine E_iastore (pc' := 129) (i := 1) cx st130 V132 ⟨by decide, by decide⟩ rfl (Nat.succ_lt_succ (Nat.zero_lt_succ _)) g_bT d8_128 rfl ?_
    intro T133 h133 st133 W133 V133
    have Z133 : n0 ≤ h133.size := Nat.le_trans Z129 (Keep.of_wr W133).1
    have K133 : Keep h0 h133 [o, c0, bF, bG, bO, bH, bT, hP, nw] := K129.wr W133 (mi 6 rfl)
    have V133p : Arv Z h133 bT k_bT_122 .int (16 : Int32) ((.int (0 : Int32)) :: (.int (1 : Int32)) :: (tr.map Value.int)) (.int (0 : Int32)) := V133
    refine E_aloadN (pc' := 130) cx st133 d8_129 rfl rfl rfl ?_
    refine E_iload (pc' := 132) cx st133 d8_130 rfl rfl ?_
    have X134 : Exa Z h133 o "com/example/flat_planner/flatplanner/OpenList" := (((X_o_122.wr W125).wr W129).wr W133)
    have B135 : OL Z h133 o [(.int gt), (.ref cl), (.int (-1 : Int32)), (.int (2 : Int32)), (.int (1 : Int32)), (.ref bF), (.ref bG), (.ref bO), (.ref bH), (.ref bT), (.int (-1 : Int32)), (.int (2 : Int32)), (.long (2 : Int64)), (.ref hP), (.int (1 : Int32)), (.ref nw)] := (B131.other W133 (nd hnd 0 8 rfl rfl))
    have HL136 : LCF Z h133 cl cs := (((HL_122.other W125 (nd hnd 1 10 rfl rfl)).other W129 (nd hnd 1 7 rfl rfl)).other W133 (nd hnd 1 8 rfl rfl))
    have V137 : Arv Z h133 cs k_cs_122 (.array .long) (1 : Int32) [(.ref c0)] .null := (((V_cs_122.other W125 (nd hnd 2 10 rfl rfl)).other W129 (nd hnd 2 7 rfl rfl)).other W133 (nd hnd 2 8 rfl rfl))
    have V138 : Arv Z h133 c0 k_c0_122 .long (16 : Int32) ((.long e0) :: (.long (mkE id)) :: (er.map Value.long)) (.long (0 : Int64)) := (((V_c0_122.other W125 (nd hnd 3 10 rfl rfl)).other W129 (nd hnd 3 7 rfl rfl)).other W133 (nd hnd 3 8 rfl rfl))
    have V139 : Arv Z h133 bF k_bF_122 .long (16 : Int32) ((.long f0) :: (.long pf) :: (fr.map Value.long)) (.long (0 : Int64)) := (((V_bF_122.other W125 (nd hnd 4 10 rfl rfl)).other W129 (nd hnd 4 7 rfl rfl)).other W133 (nd hnd 4 8 rfl rfl))
    have V140 : Arv Z h133 bG k_bG_122 .long (16 : Int32) ((.long g0) :: (.long pg) :: (gr.map Value.long)) (.long (0 : Int64)) := (((V_bG_122.other W125 (nd hnd 5 10 rfl rfl)).other W129 (nd hnd 5 7 rfl rfl)).other W133 (nd hnd 5 8 rfl rfl))
    have V141 : Arv Z h133 bO k_bO_122 .long (16 : Int32) ((.long q0) :: (.long (1 : Int64)) :: (qr.map Value.long)) (.long (0 : Int64)) := (((V_bO_122.other W125 (nd hnd 6 10 rfl rfl)).other W129 (nd hnd 6 7 rfl rfl)).other W133 (nd hnd 6 8 rfl rfl))
    have V142 : Arv Z h133 bH k_bH_122 .int (16 : Int32) ((.int (0 : Int32)) :: (.int (1 : Int32)) :: (dr.map Value.int)) (.int (0 : Int32)) := (V129p.other W133 (nd hnd 7 8 rfl rfl))
    have V143 : Arv Z h133 hP k_hP_122 .int (16 : Int32) ((.int (0 : Int32)) :: (.int p1) :: (pr.map Value.int)) (.int (0 : Int32)) := (((V_hP_122.other W125 (nd hnd 9 10 rfl rfl)).other W129 (nd hnd 9 7 rfl rfl)).other W133 (nd hnd 9 8 rfl rfl))
    have V144 : Arv Z h133 nw k_nw_122 .int (32 : Int32) ((ns.set (slt pf pg).toNatClampNeg (1 : Int32)).map Value.int) (.int (0 : Int32)) := ((V125p.other W129 (nd hnd 10 7 rfl rfl)).other W133 (nd hnd 10 8 rfl rfl))
    refine E_callP (pc' := 135) (kc' := 0) (ks' := 0) (W := 0) (a := o) (argsL := [(.int (1 : Int32))]) cx st133 [] (rmheapPush1 l Z a0 hw o cl cs c0 bF bG bO bH bT hP nw h133 n0 Z133 gt (-1 : Int32) (2 : Int32) (1 : Int32) (-1 : Int32) (2 : Int32) (2 : Int64) e0 (mkE id) er f0 pf fr g0 pg gr q0 (1 : Int64) qr (0 : Int32) (1 : Int32) dr (0 : Int32) (1 : Int32) tr p1 pr (ns.set (slt pf pg).toNatClampNeg (1 : Int32)) hnd hge ⟨X134, B135, HL136, ⟨_, V137⟩, ⟨_, V138⟩, ⟨_, V139⟩, ⟨_, V140⟩, ⟨_, V141⟩, ⟨_, V142⟩, ⟨_, V133p⟩, ⟨_, V143⟩, ⟨_, V144⟩⟩ ) X134 (wd hw 112 rfl) (wd hw 114 rfl) (wd hw 1 rfl) (wd hw 113 rfl) (wd hw 2 rfl) (wd hw 115 rfl) d8_132 rfl rfl (lenOf pd_2 rfl) (Nat.le_of_eq rfl) (by decide) (by decide) (by decide) (by decide) (by decide) (by decide) (by decide) rfl ?_
    intro v145 T145 h145 st145 hq145
    obtain ⟨xb, xc, hxbc, rfl, Kw145, Hw145⟩ := hq145
    have Z145 : n0 ≤ h145.size := Nat.le_trans Z133 Kw145.1
    have KKw145' : Keep h0 h145 [o, c0, bF, bG, bO, bH, bT, hP, nw] := K133.trans Kw145 (allS (mi 0 rfl) (allS (mi 1 rfl) (allS (mi 2 rfl) (allS (mi 3 rfl) (allS (mi 4 rfl) (allS (mi 5 rfl) (allS (mi 6 rfl) (allS (mi 7 rfl) (allS (mi 8 rfl) all0)))))))))
    obtain ⟨X_o_145, B_o_145, HL_145, ⟨k_cs_145, V_cs_145⟩, ⟨k_c0_145, V_c0_145⟩, ⟨k_bF_145, V_bF_145⟩, ⟨k_bG_145, V_bG_145⟩, ⟨k_bO_145, V_bO_145⟩, ⟨k_bH_145, V_bH_145⟩, ⟨k_bT_145, V_bT_145⟩, ⟨k_hP_145, V_hP_145⟩, ⟨k_nw_145, V_nw_145⟩⟩ := Hw145
    refine E_aloadN (pc' := 136) cx st145 d8_135 rfl rfl rfl ?_
    refine E_dup (pc' := 137) cx st145 d8_136 rfl rfl ?_
    refine E_getfield (pc' := 140) (v := (.int (1 : Int32))) cx st145 (wd hw 118 rfl) (B_o_145.at 4 (by decide) rfl rfl) d8_137 rfl ?_
    intro T146 st146
    refine E_iconst (pc' := 141) cx st146 (1 : Int32) d8_140 rfl rfl ?_
    refine E_iadd (pc' := 142) cx st146 d8_141 rfl ?_
    rw [show ((1 : Int32) + (1 : Int32)) = (2 : Int32) from by decide]
    refine E_putfield (pc' := 145) (ty := .int) cx st146 (wd hw 118 rfl) (B_o_145.at 4 (by decide) rfl rfl) X_o_145 (Or.inl (wd hw 119 rfl)) (wd hw 1 rfl) (by decide) rfl rfl g_o d8_142 rfl ?_
    intro T147 h147 st147 W147
    have Z147 : n0 ≤ h147.size := Nat.le_trans Z145 (Keep.of_wr W147).1
    have K147 : Keep h0 h147 [o, c0, bF, bG, bO, bH, bT, hP, nw] := KKw145'.wr W147 (mi 0 rfl)
    have B147w : OL Z h147 o [(.int gt), (.ref cl), (.int (-1 : Int32)), (.int (2 : Int32)), (.int (2 : Int32)), (.ref bF), (.ref bG), (.ref bO), (.ref bH), (.ref bT), (.int (-1 : Int32)), (.int (2 : Int32)), (.long (2 : Int64)), (.ref hP), (.int (2 : Int32)), (.ref nw)] := B_o_145.wr hw 4 (by decide) rfl W147 (Nat.le_of_ble_eq_true rfl)
    have X148 : Exa Z h147 o "com/example/flat_planner/flatplanner/OpenList" := (X_o_145.wr W147)
    have HL149 : LCF Z h147 cl cs := (HL_145.other W147 (nd hnd 1 0 rfl rfl))
    have V150 : Arv Z h147 cs k_cs_145 (.array .long) (1 : Int32) [(.ref c0)] .null := (V_cs_145.other W147 (nd hnd 2 0 rfl rfl))
    have V151 : Arv Z h147 c0 k_c0_145 .long (16 : Int32) ((.long e0) :: (.long (mkE id)) :: (er.map Value.long)) (.long (0 : Int64)) := (V_c0_145.other W147 (nd hnd 3 0 rfl rfl))
    have V152 : Arv Z h147 bF k_bF_145 .long (16 : Int32) ((.long f0) :: (.long pf) :: (fr.map Value.long)) (.long (0 : Int64)) := (V_bF_145.other W147 (nd hnd 4 0 rfl rfl))
    have V153 : Arv Z h147 bG k_bG_145 .long (16 : Int32) ((.long g0) :: (.long pg) :: (gr.map Value.long)) (.long (0 : Int64)) := (V_bG_145.other W147 (nd hnd 5 0 rfl rfl))
    have V154 : Arv Z h147 bO k_bO_145 .long (16 : Int32) ((.long q0) :: (.long (1 : Int64)) :: (qr.map Value.long)) (.long (0 : Int64)) := (V_bO_145.other W147 (nd hnd 6 0 rfl rfl))
    have V155 : Arv Z h147 bH k_bH_145 .int (16 : Int32) ((.int (0 : Int32)) :: (.int (1 : Int32)) :: (dr.map Value.int)) (.int (0 : Int32)) := (V_bH_145.other W147 (nd hnd 7 0 rfl rfl))
    have V156 : Arv Z h147 bT k_bT_145 .int (16 : Int32) ((.int (0 : Int32)) :: (.int (1 : Int32)) :: (tr.map Value.int)) (.int (0 : Int32)) := (V_bT_145.other W147 (nd hnd 8 0 rfl rfl))
    have V157 : Arv Z h147 hP k_hP_145 .int (16 : Int32) ((.int xb) :: (.int xc) :: (pr.map Value.int)) (.int (0 : Int32)) := (V_hP_145.other W147 (nd hnd 9 0 rfl rfl))
    have V158 : Arv Z h147 nw k_nw_145 .int (32 : Int32) ((ns.set (slt pf pg).toNatClampNeg (1 : Int32)).map Value.int) (.int (0 : Int32)) := (V_nw_145.other W147 (nd hnd 10 0 rfl rfl))
    refine E_return cx st147 d8_145 rfl (by decide) (by decide) ?_
    exact ⟨xb, xc, hxbc, rfl, K147, ⟨X148, B147w, HL149, ⟨_, V150⟩, ⟨_, V151⟩, ⟨_, V152⟩, ⟨_, V153⟩, ⟨_, V154⟩, ⟨_, V155⟩, ⟨_, V156⟩, ⟨_, V157⟩, ⟨_, V158⟩⟩⟩
theorem hi_bit (e : Int64) (i : Nat) (hi : i < 32) : (hiV e).toBitVec.getLsbD i = e.toBitVec.getLsbD (32 + i) := by
  have h1 : (e >>> ((32 : Int32) &&& 0x3f).toInt64).toBitVec = e.toBitVec.sshiftRight 32 := by
    show (e.toBitVec.sshiftRight' (((32 : Int32) &&& 0x3f).toInt64.toBitVec.smod 64)) = _
    rfl
  show ((e >>> ((32 : Int32) &&& 0x3f).toInt64).toBitVec.signExtend 32).getLsbD i = _
  rw [h1]
  simp only [BitVec.getLsbD_signExtend, BitVec.getLsbD_sshiftRight]
  have a1 : i < 64 := by omega
  have a2 : 32 + i < 64 := by omega
  simp [hi, a1, a2]
theorem lo_bit (e : Int64) (i : Nat) (hi : i < 32) : (loV e).toBitVec.getLsbD i = e.toBitVec.getLsbD i := by
  show (e.toBitVec.signExtend 32).getLsbD i = _
  simp only [BitVec.getLsbD_signExtend]
  have a1 : i < 64 := by omega
  simp [hi, a1]
theorem hm_bit (j : Nat) (hj : j < 64) : (-4294967296 : Int64).toBitVec.getLsbD j = decide (32 ≤ j) := by
  have : ∀ k : Fin 64, (-4294967296 : Int64).toBitVec.getLsbD k.1 = decide (32 ≤ k.1) := by decide
  exact this ⟨j, hj⟩
theorem lm_bit (j : Nat) (hj : j < 64) : (4294967295 : Int64).toBitVec.getLsbD j = decide (j < 32) := by
  have : ∀ k : Fin 64, (4294967295 : Int64).toBitVec.getLsbD k.1 = decide (k.1 < 32) := by decide
  exact this ⟨j, hj⟩
theorem sx_bit (n : Int32) (j : Nat) (hj : j < 32) : n.toInt64.toBitVec.getLsbD j = n.toBitVec.getLsbD j := by
  show (n.toBitVec.signExtend 64).getLsbD j = _
  simp only [BitVec.getLsbD_signExtend]
  have a1 : j < 64 := by omega
  simp [hj, a1]
theorem hi_mk (x : Int32) : hiV (mkE x) = x := by
  apply Int32.toBitVec_inj.mp
  apply BitVec.eq_of_getLsbD_eq
  intro i hi
  rw [hi_bit _ _ hi]
  have h1 : (mkE x).toBitVec = x.toInt64.toBitVec <<< 32 := rfl
  rw [h1, BitVec.getLsbD_shiftLeft]
  have a2 : 32 + i < 64 := by omega
  have a3 : ¬ (32 + i < 32) := by omega
  simp only [a2, a3, decide_true, decide_false, Bool.not_false, Bool.true_and]
  rw [show 32 + i - 32 = i by omega]
  exact sx_bit x i hi
theorem hi_nx (e : Int64) (n : Int32) : hiV (nxE e n) = hiV e := by
  apply Int32.toBitVec_inj.mp
  apply BitVec.eq_of_getLsbD_eq
  intro i hi
  rw [hi_bit _ _ hi, hi_bit _ _ hi]
  have h1 : (nxE e n).toBitVec = (e.toBitVec &&& (-4294967296 : Int64).toBitVec) ||| (n.toInt64.toBitVec &&& (4294967295 : Int64).toBitVec) := rfl
  rw [h1, BitVec.getLsbD_or, BitVec.getLsbD_and, BitVec.getLsbD_and, hm_bit _ (by omega), lm_bit _ (by omega)]
  have a3 : ¬ (32 + i < 32) := by omega
  have a4 : 32 ≤ 32 + i := by omega
  simp [a3, a4]
theorem lo_nx (e : Int64) (n : Int32) : loV (nxE e n) = n := by
  apply Int32.toBitVec_inj.mp
  apply BitVec.eq_of_getLsbD_eq
  intro i hi
  rw [lo_bit _ _ hi]
  have h1 : (nxE e n).toBitVec = (e.toBitVec &&& (-4294967296 : Int64).toBitVec) ||| (n.toInt64.toBitVec &&& (4294967295 : Int64).toBitVec) := rfl
  rw [h1, BitVec.getLsbD_or, BitVec.getLsbD_and, BitVec.getLsbD_and, hm_bit _ (by omega), lm_bit _ (by omega), sx_bit _ _ hi]
  have a3 : ¬ (32 ≤ i) := by omega
  simp [hi, a3]
def Ck (ns : List Int32) (d0 d1 : Int32) : Prop := ∀ s, s < 32 → ns.getD s 0 = (-1 : Int32) ∨ (ns.getD s 0 = 0 ∧ d0 = (-1 : Int32)) ∨ (ns.getD s 0 = 1 ∧ d1 = (-1 : Int32))
theorem ck0 (d0 d1 : Int32) : Ck (List.replicate 32 (-1 : Int32)) d0 d1 := fun s hs => Or.inl (by rw [List.getD_eq_getElem?_getD, List.getElem?_replicate, if_pos hs]; rfl)
theorem set_get (ns : List Int32) (i s : Nat) (v : Int32) (hl : ns.length = 32) (hs : s < 32) : (s = i → (ns.set i v).getD s 0 = v) ∧ (s ≠ i → (ns.set i v).getD s 0 = ns.getD s 0) := by
  constructor
  · intro e; subst e; simp [List.getD_eq_getElem?_getD, hl, hs]
  · intro e; simp [List.getD_eq_getElem?_getD, List.getElem?_set_ne (Ne.symm e)]
theorem ck_next {ns : List Int32} {d0 d1 : Int32} (h : Ck ns d0 d1) (hl : ns.length = 32) (i s : Nat) (hs : s < 32) : (ns.set i 0).getD s 0 = (-1 : Int32) ∨ (ns.set i 0).getD s 0 = 0 ∨ ((ns.set i 0).getD s 0 = 1 ∧ d1 = (-1 : Int32)) := by
  by_cases e : s = i
  · exact Or.inr (Or.inl ((set_get ns i s 0 hl hs).1 e))
  · rw [(set_get ns i s 0 hl hs).2 e]
    rcases h s hs with q | q | q
    · exact Or.inl q
    · exact Or.inr (Or.inl q.1)
    · exact Or.inr (Or.inr q)
theorem ckA (i : Nat) (d1 : Int32) : Ck ((List.replicate 32 (-1 : Int32)).set i 0) (-1) d1 := fun s hs => by
  by_cases e : s = i
  · exact Or.inr (Or.inl ⟨(set_get _ i s 0 (by simp) hs).1 e, rfl⟩)
  · rw [(set_get _ i s 0 (by simp) hs).2 e]; exact ((ck0 0 0 s hs).imp id fun q => by rcases q with q | q <;> (exact absurd q.2 (by decide)))
theorem ckB (i j : Nat) : Ck (((List.replicate 32 (-1 : Int32)).set i 0).set j 1) (-1) (-1) := fun s hs => by
  by_cases e : s = j
  · exact Or.inr (Or.inr ⟨(set_get _ j s 1 (by simp) hs).1 e, rfl⟩)
  · rw [(set_get _ j s 1 (by simp) hs).2 e]
    rcases ckA i 0 s hs with q | q | q
    · exact Or.inl q
    · exact Or.inr (Or.inl q)
    · exact absurd q.2 (by decide)
theorem i64_asymm {x y : Int64} (h : x < y) : ¬ y < x := by rw [Int64.lt_iff_toInt_lt] at *; omega
theorem i64_total {x y : Int64} (h1 : ¬ x = y) (h2 : ¬ x < y) : y < x := by
  rw [← Int64.toInt_inj] at h1
  rw [Int64.lt_iff_toInt_lt] at *; omega
theorem ite01 (P : Prop) [Decidable P] : (if P then (0 : Int32) else (1 : Int32)) = 0 ∨ (if P then (0 : Int32) else (1 : Int32)) = 1 := by by_cases h : P <;> simp [h]
theorem d22_0 : decode prog_16_method_7_code 0 = .ok (.aload_n 0, 1) := by decide +kernel
theorem d22_1 : decode prog_16_method_7_code 1 = .ok (.getfield 42, 3) := by decide +kernel
theorem d22_4 : decode prog_16_method_7_code 4 = .ok (.iconst 0, 1) := by decide +kernel
theorem d22_5 : decode prog_16_method_7_code 5 = .ok (.iaload, 1) := by decide +kernel
theorem d22_6 : decode prog_16_method_7_code 6 = .ok (.istore_n 1, 1) := by decide +kernel
theorem d22_7 : decode prog_16_method_7_code 7 = .ok (.aload_n 0, 1) := by decide +kernel
theorem d22_8 : decode prog_16_method_7_code 8 = .ok (.getfield 32, 3) := by decide +kernel
theorem d22_11 : decode prog_16_method_7_code 11 = .ok (.iload_n 1, 1) := by decide +kernel
theorem d22_12 : decode prog_16_method_7_code 12 = .ok (.iaload, 1) := by decide +kernel
theorem d22_13 : decode prog_16_method_7_code 13 = .ok (.istore_n 2, 1) := by decide +kernel
theorem d22_14 : decode prog_16_method_7_code 14 = .ok (.aload_n 0, 1) := by decide +kernel
theorem d22_15 : decode prog_16_method_7_code 15 = .ok (.getfield 12, 3) := by decide +kernel
theorem d22_18 : decode prog_16_method_7_code 18 = .ok (.iload_n 2, 1) := by decide +kernel
theorem d22_19 : decode prog_16_method_7_code 19 = .ok (.invokevirtual 92, 3) := by decide +kernel
theorem d22_22 : decode prog_16_method_7_code 22 = .ok (.bipush 32, 2) := by decide +kernel
theorem d22_24 : decode prog_16_method_7_code 24 = .ok (.lshr, 1) := by decide +kernel
theorem d22_25 : decode prog_16_method_7_code 25 = .ok (.l2i, 1) := by decide +kernel
theorem d22_26 : decode prog_16_method_7_code 26 = .ok (.istore_n 3, 1) := by decide +kernel
theorem d22_27 : decode prog_16_method_7_code 27 = .ok (.aload_n 0, 1) := by decide +kernel
theorem d22_28 : decode prog_16_method_7_code 28 = .ok (.getfield 32, 3) := by decide +kernel
theorem d22_31 : decode prog_16_method_7_code 31 = .ok (.iload_n 1, 1) := by decide +kernel
theorem d22_32 : decode prog_16_method_7_code 32 = .ok (.iload_n 2, 1) := by decide +kernel
theorem d22_33 : decode prog_16_method_7_code 33 = .ok (.aload_n 0, 1) := by decide +kernel
theorem d22_34 : decode prog_16_method_7_code 34 = .ok (.getfield 36, 3) := by decide +kernel
theorem d22_37 : decode prog_16_method_7_code 37 = .ok (.iload_n 1, 1) := by decide +kernel
theorem d22_38 : decode prog_16_method_7_code 38 = .ok (.iaload, 1) := by decide +kernel
theorem d22_39 : decode prog_16_method_7_code 39 = .ok (.if_icmp .ne 7, 3) := by decide +kernel
theorem d22_42 : decode prog_16_method_7_code 42 = .ok (.iconst (-1), 1) := by decide +kernel
theorem d22_43 : decode prog_16_method_7_code 43 = .ok (.goto 8, 3) := by decide +kernel
theorem d22_46 : decode prog_16_method_7_code 46 = .ok (.aload_n 0, 1) := by decide +kernel
theorem d22_47 : decode prog_16_method_7_code 47 = .ok (.iload_n 2, 1) := by decide +kernel
theorem d22_48 : decode prog_16_method_7_code 48 = .ok (.invokevirtual 98, 3) := by decide +kernel
theorem d22_51 : decode prog_16_method_7_code 51 = .ok (.iastore, 1) := by decide +kernel
theorem d22_52 : decode prog_16_method_7_code 52 = .ok (.aload_n 0, 1) := by decide +kernel
theorem d22_53 : decode prog_16_method_7_code 53 = .ok (.iload_n 2, 1) := by decide +kernel
theorem d22_54 : decode prog_16_method_7_code 54 = .ok (.aload_n 0, 1) := by decide +kernel
theorem d22_55 : decode prog_16_method_7_code 55 = .ok (.getfield 18, 3) := by decide +kernel
theorem d22_58 : decode prog_16_method_7_code 58 = .ok (.invokevirtual 69, 3) := by decide +kernel
theorem d22_61 : decode prog_16_method_7_code 61 = .ok (.aload_n 0, 1) := by decide +kernel
theorem d22_62 : decode prog_16_method_7_code 62 = .ok (.iload_n 2, 1) := by decide +kernel
theorem d22_63 : decode prog_16_method_7_code 63 = .ok (.putfield 18, 3) := by decide +kernel
theorem d22_66 : decode prog_16_method_7_code 66 = .ok (.aload_n 0, 1) := by decide +kernel
theorem d22_67 : decode prog_16_method_7_code 67 = .ok (.dup, 1) := by decide +kernel
theorem d22_68 : decode prog_16_method_7_code 68 = .ok (.getfield 58, 3) := by decide +kernel
theorem d22_71 : decode prog_16_method_7_code 71 = .ok (.iconst 1, 1) := by decide +kernel
theorem d22_72 : decode prog_16_method_7_code 72 = .ok (.isub, 1) := by decide +kernel
theorem d22_73 : decode prog_16_method_7_code 73 = .ok (.putfield 58, 3) := by decide +kernel
theorem d22_76 : decode prog_16_method_7_code 76 = .ok (.aload_n 0, 1) := by decide +kernel
theorem d22_77 : decode prog_16_method_7_code 77 = .ok (.getfield 32, 3) := by decide +kernel
theorem d22_80 : decode prog_16_method_7_code 80 = .ok (.iload_n 1, 1) := by decide +kernel
theorem d22_81 : decode prog_16_method_7_code 81 = .ok (.iaload, 1) := by decide +kernel
theorem d22_82 : decode prog_16_method_7_code 82 = .ok (.iconst (-1), 1) := by decide +kernel
theorem d22_83 : decode prog_16_method_7_code 83 = .ok (.if_icmp .ne 22, 3) := by decide +kernel
theorem d22_86 : decode prog_16_method_7_code 86 = .ok (.aload_n 0, 1) := by decide +kernel
theorem d22_87 : decode prog_16_method_7_code 87 = .ok (.invokevirtual 101, 3) := by decide +kernel
theorem d22_90 : decode prog_16_method_7_code 90 = .ok (.aload_n 0, 1) := by decide +kernel
theorem d22_91 : decode prog_16_method_7_code 91 = .ok (.getfield 36, 3) := by decide +kernel
theorem d22_94 : decode prog_16_method_7_code 94 = .ok (.iload_n 1, 1) := by decide +kernel
theorem d22_95 : decode prog_16_method_7_code 95 = .ok (.aload_n 0, 1) := by decide +kernel
theorem d22_96 : decode prog_16_method_7_code 96 = .ok (.getfield 39, 3) := by decide +kernel
theorem d22_99 : decode prog_16_method_7_code 99 = .ok (.iastore, 1) := by decide +kernel
theorem d22_100 : decode prog_16_method_7_code 100 = .ok (.aload_n 0, 1) := by decide +kernel
theorem d22_101 : decode prog_16_method_7_code 101 = .ok (.iload_n 1, 1) := by decide +kernel
theorem d22_102 : decode prog_16_method_7_code 102 = .ok (.putfield 39, 3) := by decide +kernel
theorem d22_105 : decode prog_16_method_7_code 105 = .ok (.iload_n 3, 1) := by decide +kernel
theorem d22_106 : decode prog_16_method_7_code 106 = .ok (.ireturn, 1) := by decide +kernel
theorem ef_popA1 (m : MethodId) (x0 : Addr) : entryFrame m #[(.ref x0)] 4 = mkF m 0 #[.val (.ref x0), .unset, .unset, .unset] [] := by first | (simp [entryFrame, mkF, argsToLocals, Value.category]; done) | rfl
set_option maxRecDepth 65536 in
set_option maxHeartbeats 40000000 in
theorem rmpopA1 (l : Launch) (Z : State) (a0 : Array Value) (hw : ∀ d ∈ tables_1, d.before a0 Z = true) (o : Addr) (cl : Addr) (cs : Addr) (c0 : Addr) (bF : Addr) (bG : Addr) (bO : Addr) (bH : Addr) (bT : Addr) (hP : Addr) (nw : Addr) (h0 : Heap) (n0 : Nat) (Z0 : n0 ≤ h0.size) (gt : Int32) (fe : Int32) (eu : Int32) (sz : Int32) (fb : Int32) (bu : Int32) (sta : Int64) (e0 : Int64) (e1 : Int64) (er : List Int64) (f0 : Int64) (f1 : Int64) (fr : List Int64) (g0 : Int64) (g1 : Int64) (gr : List Int64) (q0 : Int64) (q1 : Int64) (qr : List Int64) (d1 : Int32) (dr : List Int32) (t1 : Int32) (tr : List Int32) (p1 : Int32) (pr : List Int32) (ns : List Int32) (hnd : [o, cl, cs, c0, bF, bG, bO, bH, bT, hP, nw].Nodup) (hge : ∀ a ∈ [o, cl, cs, c0, bF, bG, bO, bH, bT, hP, nw], n0 ≤ a) (H0 : Wd Z h0 o cl cs c0 bF bG bO bH bT hP nw gt fe eu sz fb bu (1 : Int32) sta e0 e1 er f0 f1 fr g0 g1 gr q0 q1 qr (0 : Int32) d1 dr (1 : Int32) t1 tr (0 : Int32) p1 pr ns) (hl : loV e0 = (1 : Int32)) :
    Con l Z (⟨"com/example/flat_planner/flatplanner/OpenList", "pop", "()I"⟩ : MethodName) prog_16_method_7_code 4 (some .int) ({ frames := 3, cells := 0, slots := 0, locals := 43 } : Room) #[(.ref o)] h0 n0 (fun v h => v = some (.int (hiV e0)) ∧ Keep h0 h [o, c0, bF, bG, bO, bH, bT, hP, nw] ∧ Wd Z h o cl cs c0 bF bG bO bH bT hP nw gt (0 : Int32) eu (sz - (1 : Int32)) fb bu (1 : Int32) sta (nxE e0 fe) e1 er f0 f1 fr g0 g1 gr q0 q1 qr (1 : Int32) d1 dr (1 : Int32) t1 tr (0 : Int32) p1 pr ns) := by
  refine Con.of (own := "com/example/flat_planner/flatplanner/OpenList") (name := "pop") (plainFor_of_name pn_3) (fun m => ef_popA1 m o) rfl rfl ?_
  intro p e s m below meth c T F S cx st
  have g_o : n0 ≤ o := hge o (by simp)
  have g_c0 : n0 ≤ c0 := hge c0 (by simp)
  have g_bF : n0 ≤ bF := hge bF (by simp)
  have g_bG : n0 ≤ bG := hge bG (by simp)
  have g_bO : n0 ≤ bO := hge bO (by simp)
  have g_bH : n0 ≤ bH := hge bH (by simp)
  have g_bT : n0 ≤ bT := hge bT (by simp)
  have g_hP : n0 ≤ hP := hge hP (by simp)
  have g_nw : n0 ≤ nw := hge nw (by simp)
  obtain ⟨X_o, B_o, HL, ⟨k_cs, V_cs⟩, ⟨k_c0, V_c0⟩, ⟨k_bF, V_bF⟩, ⟨k_bG, V_bG⟩, ⟨k_bO, V_bO⟩, ⟨k_bH, V_bH⟩, ⟨k_bT, V_bT⟩, ⟨k_hP, V_hP⟩, ⟨k_nw, V_nw⟩⟩ := H0
  refine E_aloadN (pc' := 1) cx st d22_0 rfl rfl rfl ?_
  refine E_getfield (pc' := 4) (v := (.ref hP)) cx st (wd hw 58 rfl) (B_o.at 13 (by decide) rfl rfl) d22_1 rfl ?_
  intro T1 st1
  refine E_iconst (pc' := 5) cx st1 (0 : Int32) d22_4 rfl rfl ?_
  refine E_iaload (pc' := 6) (x := (0 : Int32)) cx st1 V_hP ⟨by decide, by decide⟩ rfl d22_5 rfl ?_
  refine E_istoreN (pc' := 7) (L' := #[.val (.ref o), .val (.int (0 : Int32)), .unset, .unset]) cx st1 d22_6 rfl rfl ?_
  refine E_aloadN (pc' := 8) cx st1 d22_7 rfl rfl rfl ?_
  refine E_getfield (pc' := 11) (v := (.ref bH)) cx st1 (wd hw 52 rfl) (B_o.at 8 (by decide) rfl rfl) d22_8 rfl ?_
  intro T2 st2
  refine E_iloadN (pc' := 12) cx st2 d22_11 rfl rfl ?_
  refine E_iaload (pc' := 13) (x := (0 : Int32)) cx st2 V_bH ⟨by decide, by decide⟩ rfl d22_12 rfl ?_
  refine E_istoreN (pc' := 14) (L' := #[.val (.ref o), .val (.int (0 : Int32)), .val (.int (0 : Int32)), .unset]) cx st2 d22_13 rfl rfl ?_
  refine E_aloadN (pc' := 15) cx st2 d22_14 rfl rfl rfl ?_
  refine E_getfield (pc' := 18) (v := (.ref cl)) cx st2 (wd hw 41 rfl) (B_o.at 1 (by decide) rfl rfl) d22_15 rfl ?_
  intro T3 st3
  refine E_iloadN (pc' := 19) cx st3 d22_18 rfl rfl ?_
  refine E_callV (pc' := 22) (kc' := 0) (ks' := 0) (W := 0) (a := cl) (argsL := [(.int (0 : Int32))]) cx st3 [] (rmget0 l Z a0 hw cl cs c0 e0 e1 h0 n0 Z0 k_cs k_c0 er HL V_cs V_c0) HL.1 (wd hw 149 rfl) (wd hw 150 rfl) (wd hw 152 rfl) (wd hw 151 rfl) (wd hw 11 rfl) (wd hw 153 rfl) d22_19 rfl rfl (lenOf pd_5 rfl) (Nat.le_of_eq rfl) (by decide) (by decide) (by decide) (by decide) (by decide) (by decide) (by decide) rfl ?_
  intro v4 T4 h4 st4 hq4
  obtain ⟨rfl, hh4⟩ := hq4
  rw [hh4] at st4
  refine E_bipush (pc' := 24) cx st4 (32 : Int32) d22_22 rfl rfl ?_
  refine E_lshr (pc' := 25) cx st4 d22_24 rfl ?_
  refine E_l2i (pc' := 26) cx st4 d22_25 rfl ?_
  refine E_istoreN (pc' := 27) (L' := #[.val (.ref o), .val (.int (0 : Int32)), .val (.int (0 : Int32)), .val (.int ((e0 >>> ((32 : Int32) &&& 0x3f).toInt64).toInt32))]) cx st4 d22_26 rfl rfl ?_
  refine E_aloadN (pc' := 28) cx st4 d22_27 rfl rfl rfl ?_
  refine E_getfield (pc' := 31) (v := (.ref bH)) cx st4 (wd hw 52 rfl) (B_o.at 8 (by decide) rfl rfl) d22_28 rfl ?_
  intro T5 st5
  refine E_iloadN (pc' := 32) cx st5 d22_31 rfl rfl ?_
  refine E_iloadN (pc' := 33) cx st5 d22_32 rfl rfl ?_
  refine E_aloadN (pc' := 34) cx st5 d22_33 rfl rfl rfl ?_
  refine E_getfield (pc' := 37) (v := (.ref bT)) cx st5 (wd hw 54 rfl) (B_o.at 9 (by decide) rfl rfl) d22_34 rfl ?_
  intro T6 st6
  refine E_iloadN (pc' := 38) cx st6 d22_37 rfl rfl ?_
  refine E_iaload (pc' := 39) (x := (1 : Int32)) cx st6 V_bT ⟨by decide, by decide⟩ rfl d22_38 rfl ?_
  refine E_icmp_neY (pc' := 46) cx st6 d22_39 (by decide) (by decide) (by decide) ?_
  refine E_aloadN (pc' := 47) cx st6 d22_46 rfl rfl rfl ?_
  refine E_iloadN (pc' := 48) cx st6 d22_47 rfl rfl ?_
  refine E_callP (pc' := 51) (kc' := 0) (ks' := 0) (W := 2) (a := o) (argsL := [(.int (0 : Int32))]) cx st6 [(.int (0 : Int32)), (.ref bH)] (rmnext0 l Z a0 hw o cl cs c0 bF bG bO bH bT hP nw h0 n0 Z0 gt fe eu sz fb bu sta (1 : Int32) e0 e1 er f0 f1 fr g0 g1 gr q0 q1 qr (0 : Int32) d1 dr (1 : Int32) t1 tr (0 : Int32) p1 pr ns hnd hge ⟨X_o, B_o, HL, ⟨_, V_cs⟩, ⟨_, V_c0⟩, ⟨_, V_bF⟩, ⟨_, V_bG⟩, ⟨_, V_bO⟩, ⟨_, V_bH⟩, ⟨_, V_bT⟩, ⟨_, V_hP⟩, ⟨_, V_nw⟩⟩ ) X_o (wd hw 164 rfl) (wd hw 166 rfl) (wd hw 1 rfl) (wd hw 165 rfl) (wd hw 2 rfl) (wd hw 167 rfl) d22_48 rfl rfl (lenOf pd_0 rfl) (Nat.le_of_eq rfl) (by decide) (by decide) (by decide) (by decide) (by decide) (by decide) (by decide) rfl ?_
  intro v7 T7 h7 st7 hq7
  obtain ⟨rfl, hh7⟩ := hq7
  rw [hh7] at st7
  rw [hl]
  refine E_iastore (pc' := 52) (i := 0) cx st7 V_bH ⟨by decide, by decide⟩ rfl (Nat.zero_lt_succ _) g_bH d22_51 rfl ?_
  intro T8 h8 st8 W8 V8
  have Z8 : n0 ≤ h8.size := Nat.le_trans Z0 (Keep.of_wr W8).1
  have K8 : Keep h0 h8 [o, c0, bF, bG, bO, bH, bT, hP, nw] := (Keep.refl h0 [o, c0, bF, bG, bO, bH, bT, hP, nw]).wr W8 (mi 5 rfl)
  have V8p : Arv Z h8 bH k_bH .int (16 : Int32) ((.int (1 : Int32)) :: (.int d1) :: (dr.map Value.int)) (.int (0 : Int32)) := V8
  refine E_aloadN (pc' := 53) cx st8 d22_52 rfl rfl rfl ?_
  refine E_iloadN (pc' := 54) cx st8 d22_53 rfl rfl ?_
  refine E_aloadN (pc' := 55) cx st8 d22_54 rfl rfl rfl ?_
  have B10 : OL Z h8 o [(.int gt), (.ref cl), (.int fe), (.int eu), (.int sz), (.ref bF), (.ref bG), (.ref bO), (.ref bH), (.ref bT), (.int fb), (.int bu), (.long sta), (.ref hP), (.int (1 : Int32)), (.ref nw)] := (B_o.other W8 (nd hnd 0 7 rfl rfl))
  refine E_getfield (pc' := 58) (v := (.int fe)) cx st8 (wd hw 43 rfl) (B10.at 2 (by decide) rfl rfl) d22_55 rfl ?_
  intro T9 st9
  have X11 : Exa Z h8 o "com/example/flat_planner/flatplanner/OpenList" := (X_o.wr W8)
  have HL12 : LCF Z h8 cl cs := (HL.other W8 (nd hnd 1 7 rfl rfl))
  have V13 : Arv Z h8 cs k_cs (.array .long) (1 : Int32) [(.ref c0)] .null := (V_cs.other W8 (nd hnd 2 7 rfl rfl))
  have V14 : Arv Z h8 c0 k_c0 .long (16 : Int32) ((.long e0) :: (.long e1) :: (er.map Value.long)) (.long (0 : Int64)) := (V_c0.other W8 (nd hnd 3 7 rfl rfl))
  have V15 : Arv Z h8 bF k_bF .long (16 : Int32) ((.long f0) :: (.long f1) :: (fr.map Value.long)) (.long (0 : Int64)) := (V_bF.other W8 (nd hnd 4 7 rfl rfl))
  have V16 : Arv Z h8 bG k_bG .long (16 : Int32) ((.long g0) :: (.long g1) :: (gr.map Value.long)) (.long (0 : Int64)) := (V_bG.other W8 (nd hnd 5 7 rfl rfl))
  have V17 : Arv Z h8 bO k_bO .long (16 : Int32) ((.long q0) :: (.long q1) :: (qr.map Value.long)) (.long (0 : Int64)) := (V_bO.other W8 (nd hnd 6 7 rfl rfl))
  have V18 : Arv Z h8 bT k_bT .int (16 : Int32) ((.int (1 : Int32)) :: (.int t1) :: (tr.map Value.int)) (.int (0 : Int32)) := (V_bT.other W8 (nd hnd 8 7 rfl rfl))
  have V19 : Arv Z h8 hP k_hP .int (16 : Int32) ((.int (0 : Int32)) :: (.int p1) :: (pr.map Value.int)) (.int (0 : Int32)) := (V_hP.other W8 (nd hnd 9 7 rfl rfl))
  have V20 : Arv Z h8 nw k_nw .int (32 : Int32) (ns.map Value.int) (.int (0 : Int32)) := (V_nw.other W8 (nd hnd 10 7 rfl rfl))
  refine E_callP (pc' := 61) (kc' := 0) (ks' := 0) (W := 0) (a := o) (argsL := [(.int (0 : Int32)), (.int fe)]) cx st9 [] (rmsetNext0 l Z a0 hw o cl cs c0 bF bG bO bH bT hP nw h8 n0 Z8 gt fe eu sz fb bu sta (1 : Int32) e0 e1 er f0 f1 fr g0 g1 gr q0 q1 qr (1 : Int32) d1 dr (1 : Int32) t1 tr (0 : Int32) p1 pr ns fe hnd hge ⟨X11, B10, HL12, ⟨_, V13⟩, ⟨_, V14⟩, ⟨_, V15⟩, ⟨_, V16⟩, ⟨_, V17⟩, ⟨_, V8p⟩, ⟨_, V18⟩, ⟨_, V19⟩, ⟨_, V20⟩⟩ ) X11 (wd hw 154 rfl) (wd hw 156 rfl) (wd hw 1 rfl) (wd hw 155 rfl) (wd hw 2 rfl) (wd hw 157 rfl) d22_58 rfl rfl (lenOf pd_9 rfl) (Nat.le_of_eq rfl) (by decide) (by decide) (by decide) (by decide) (by decide) (by decide) (by decide) rfl ?_
  intro v21 T21 h21 st21 hq21
  obtain ⟨rfl, Kw21, Hw21⟩ := hq21
  have Z21 : n0 ≤ h21.size := Nat.le_trans Z8 Kw21.1
  have KKw21' : Keep h0 h21 [o, c0, bF, bG, bO, bH, bT, hP, nw] := K8.trans Kw21 (allS (mi 0 rfl) (allS (mi 1 rfl) (allS (mi 2 rfl) (allS (mi 3 rfl) (allS (mi 4 rfl) (allS (mi 5 rfl) (allS (mi 6 rfl) (allS (mi 7 rfl) (allS (mi 8 rfl) all0)))))))))
  obtain ⟨X_o_21, B_o_21, HL_21, ⟨k_cs_21, V_cs_21⟩, ⟨k_c0_21, V_c0_21⟩, ⟨k_bF_21, V_bF_21⟩, ⟨k_bG_21, V_bG_21⟩, ⟨k_bO_21, V_bO_21⟩, ⟨k_bH_21, V_bH_21⟩, ⟨k_bT_21, V_bT_21⟩, ⟨k_hP_21, V_hP_21⟩, ⟨k_nw_21, V_nw_21⟩⟩ := Hw21
  refine E_aloadN (pc' := 62) cx st21 d22_61 rfl rfl rfl ?_
  refine E_iloadN (pc' := 63) cx st21 d22_62 rfl rfl ?_
  refine E_putfield (pc' := 66) (ty := .int) cx st21 (wd hw 43 rfl) (B_o_21.at 2 (by decide) rfl rfl) X_o_21 (Or.inl (wd hw 44 rfl)) (wd hw 1 rfl) (by decide) rfl rfl g_o d22_63 rfl ?_
  intro T22 h22 st22 W22
  have Z22 : n0 ≤ h22.size := Nat.le_trans Z21 (Keep.of_wr W22).1
  have K22 : Keep h0 h22 [o, c0, bF, bG, bO, bH, bT, hP, nw] := KKw21'.wr W22 (mi 0 rfl)
  have B22w : OL Z h22 o [(.int gt), (.ref cl), (.int (0 : Int32)), (.int eu), (.int sz), (.ref bF), (.ref bG), (.ref bO), (.ref bH), (.ref bT), (.int fb), (.int bu), (.long sta), (.ref hP), (.int (1 : Int32)), (.ref nw)] := B_o_21.wr hw 2 (by decide) rfl W22 (Nat.le_of_ble_eq_true rfl)
  refine E_aloadN (pc' := 67) cx st22 d22_66 rfl rfl rfl ?_
  refine E_dup (pc' := 68) cx st22 d22_67 rfl rfl ?_
  refine E_getfield (pc' := 71) (v := (.int sz)) cx st22 (wd hw 118 rfl) (B22w.at 4 (by decide) rfl rfl) d22_68 rfl ?_
  intro T23 st23
  refine E_iconst (pc' := 72) cx st23 (1 : Int32) d22_71 rfl rfl ?_
  refine E_isub (pc' := 73) cx st23 d22_72 rfl ?_
  have X24 : Exa Z h22 o "com/example/flat_planner/flatplanner/OpenList" := (X_o_21.wr W22)
  refine E_putfield (pc' := 76) (ty := .int) cx st23 (wd hw 118 rfl) (B22w.at 4 (by decide) rfl rfl) X24 (Or.inl (wd hw 119 rfl)) (wd hw 1 rfl) (by decide) rfl rfl g_o d22_73 rfl ?_
  intro T25 h25 st25 W25
  have Z25 : n0 ≤ h25.size := Nat.le_trans Z22 (Keep.of_wr W25).1
  have K25 : Keep h0 h25 [o, c0, bF, bG, bO, bH, bT, hP, nw] := K22.wr W25 (mi 0 rfl)
  have B25w : OL Z h25 o [(.int gt), (.ref cl), (.int (0 : Int32)), (.int eu), (.int (sz - (1 : Int32))), (.ref bF), (.ref bG), (.ref bO), (.ref bH), (.ref bT), (.int fb), (.int bu), (.long sta), (.ref hP), (.int (1 : Int32)), (.ref nw)] := B22w.wr hw 4 (by decide) rfl W25 (Nat.le_of_ble_eq_true rfl)
  refine E_aloadN (pc' := 77) cx st25 d22_76 rfl rfl rfl ?_
  refine E_getfield (pc' := 80) (v := (.ref bH)) cx st25 (wd hw 52 rfl) (B25w.at 8 (by decide) rfl rfl) d22_77 rfl ?_
  intro T26 st26
  refine E_iloadN (pc' := 81) cx st26 d22_80 rfl rfl ?_
  have V27 : Arv Z h25 bH k_bH_21 .int (16 : Int32) ((.int (1 : Int32)) :: (.int d1) :: (dr.map Value.int)) (.int (0 : Int32)) := ((V_bH_21.other W22 (nd hnd 7 0 rfl rfl)).other W25 (nd hnd 7 0 rfl rfl))
  refine E_iaload (pc' := 82) (x := (1 : Int32)) cx st26 V27 ⟨by decide, by decide⟩ rfl d22_81 rfl ?_
  refine E_iconst (pc' := 83) cx st26 (-1 : Int32) d22_82 rfl rfl ?_
  refine E_icmp_neY (pc' := 105) cx st26 d22_83 (by decide) (by decide) (by decide) ?_
  refine E_iloadN (pc' := 106) cx st26 d22_105 rfl rfl ?_
  have X28 : Exa Z h25 o "com/example/flat_planner/flatplanner/OpenList" := (X24.wr W25)
  have HL29 : LCF Z h25 cl cs := ((HL_21.other W22 (nd hnd 1 0 rfl rfl)).other W25 (nd hnd 1 0 rfl rfl))
  have V30 : Arv Z h25 cs k_cs_21 (.array .long) (1 : Int32) [(.ref c0)] .null := ((V_cs_21.other W22 (nd hnd 2 0 rfl rfl)).other W25 (nd hnd 2 0 rfl rfl))
  have V31 : Arv Z h25 c0 k_c0_21 .long (16 : Int32) ((.long (nxE e0 fe)) :: (.long e1) :: (er.map Value.long)) (.long (0 : Int64)) := ((V_c0_21.other W22 (nd hnd 3 0 rfl rfl)).other W25 (nd hnd 3 0 rfl rfl))
  have V32 : Arv Z h25 bF k_bF_21 .long (16 : Int32) ((.long f0) :: (.long f1) :: (fr.map Value.long)) (.long (0 : Int64)) := ((V_bF_21.other W22 (nd hnd 4 0 rfl rfl)).other W25 (nd hnd 4 0 rfl rfl))
  have V33 : Arv Z h25 bG k_bG_21 .long (16 : Int32) ((.long g0) :: (.long g1) :: (gr.map Value.long)) (.long (0 : Int64)) := ((V_bG_21.other W22 (nd hnd 5 0 rfl rfl)).other W25 (nd hnd 5 0 rfl rfl))
  have V34 : Arv Z h25 bO k_bO_21 .long (16 : Int32) ((.long q0) :: (.long q1) :: (qr.map Value.long)) (.long (0 : Int64)) := ((V_bO_21.other W22 (nd hnd 6 0 rfl rfl)).other W25 (nd hnd 6 0 rfl rfl))
  have V35 : Arv Z h25 bT k_bT_21 .int (16 : Int32) ((.int (1 : Int32)) :: (.int t1) :: (tr.map Value.int)) (.int (0 : Int32)) := ((V_bT_21.other W22 (nd hnd 8 0 rfl rfl)).other W25 (nd hnd 8 0 rfl rfl))
  have V36 : Arv Z h25 hP k_hP_21 .int (16 : Int32) ((.int (0 : Int32)) :: (.int p1) :: (pr.map Value.int)) (.int (0 : Int32)) := ((V_hP_21.other W22 (nd hnd 9 0 rfl rfl)).other W25 (nd hnd 9 0 rfl rfl))
  have V37 : Arv Z h25 nw k_nw_21 .int (32 : Int32) (ns.map Value.int) (.int (0 : Int32)) := ((V_nw_21.other W22 (nd hnd 10 0 rfl rfl)).other W25 (nd hnd 10 0 rfl rfl))
  refine E_ireturn (t := .int) cx st26 d22_106 rfl (by simp) rfl (by decide) (by decide) ?_
  exact ⟨rfl, K25, ⟨X28, B25w, HL29, ⟨_, V30⟩, ⟨_, V31⟩, ⟨_, V32⟩, ⟨_, V33⟩, ⟨_, V34⟩, ⟨_, V27⟩, ⟨_, V35⟩, ⟨_, V36⟩, ⟨_, V37⟩⟩⟩
theorem ef_popA2 (m : MethodId) (x0 : Addr) : entryFrame m #[(.ref x0)] 4 = mkF m 0 #[.val (.ref x0), .unset, .unset, .unset] [] := by first | (simp [entryFrame, mkF, argsToLocals, Value.category]; done) | rfl
theorem pd_10 : parseMethodDescriptor "()V" = some ⟨[], none⟩ := by decide +kernel
set_option maxRecDepth 65536 in
set_option maxHeartbeats 40000000 in
theorem rmpopA2 (l : Launch) (Z : State) (a0 : Array Value) (hw : ∀ d ∈ tables_1, d.before a0 Z = true) (o : Addr) (cl : Addr) (cs : Addr) (c0 : Addr) (bF : Addr) (bG : Addr) (bO : Addr) (bH : Addr) (bT : Addr) (hP : Addr) (nw : Addr) (h0 : Heap) (n0 : Nat) (Z0 : n0 ≤ h0.size) (gt : Int32) (fe : Int32) (eu : Int32) (sz : Int32) (fb : Int32) (bu : Int32) (sta : Int64) (e0 : Int64) (e1 : Int64) (er : List Int64) (f0 : Int64) (f1 : Int64) (fr : List Int64) (g0 : Int64) (g1 : Int64) (gr : List Int64) (q0 : Int64) (q1 : Int64) (qr : List Int64) (d1 : Int32) (dr : List Int32) (t1 : Int32) (tr : List Int32) (p1 : Int32) (pr : List Int32) (ns : List Int32) (hnd : [o, cl, cs, c0, bF, bG, bO, bH, bT, hP, nw].Nodup) (hge : ∀ a ∈ [o, cl, cs, c0, bF, bG, bO, bH, bT, hP, nw], n0 ≤ a) (H0 : Wd Z h0 o cl cs c0 bF bG bO bH bT hP nw gt fe eu sz fb bu (1 : Int32) sta e0 e1 er f0 f1 fr g0 g1 gr q0 q1 qr (1 : Int32) d1 dr (1 : Int32) t1 tr (0 : Int32) p1 pr ns)  :
    Con l Z (⟨"com/example/flat_planner/flatplanner/OpenList", "pop", "()I"⟩ : MethodName) prog_16_method_7_code 4 (some .int) ({ frames := 3, cells := 0, slots := 0, locals := 43 } : Room) #[(.ref o)] h0 n0 (fun v h => v = some (.int (hiV e1)) ∧ Keep h0 h [o, c0, bF, bG, bO, bH, bT, hP, nw] ∧ Wd Z h o cl cs c0 bF bG bO bH bT hP nw gt (1 : Int32) eu (sz - (1 : Int32)) (0 : Int32) bu (0 : Int32) sta e0 (nxE e1 fe) er f0 f1 fr g0 g1 gr q0 q1 qr (-1 : Int32) d1 dr fb t1 tr (0 : Int32) p1 pr ns) := by
  refine Con.of (own := "com/example/flat_planner/flatplanner/OpenList") (name := "pop") (plainFor_of_name pn_3) (fun m => ef_popA2 m o) rfl rfl ?_
  intro p e s m below meth c T F S cx st
  have g_o : n0 ≤ o := hge o (by simp)
  have g_c0 : n0 ≤ c0 := hge c0 (by simp)
  have g_bF : n0 ≤ bF := hge bF (by simp)
  have g_bG : n0 ≤ bG := hge bG (by simp)
  have g_bO : n0 ≤ bO := hge bO (by simp)
  have g_bH : n0 ≤ bH := hge bH (by simp)
  have g_bT : n0 ≤ bT := hge bT (by simp)
  have g_hP : n0 ≤ hP := hge hP (by simp)
  have g_nw : n0 ≤ nw := hge nw (by simp)
  obtain ⟨X_o, B_o, HL, ⟨k_cs, V_cs⟩, ⟨k_c0, V_c0⟩, ⟨k_bF, V_bF⟩, ⟨k_bG, V_bG⟩, ⟨k_bO, V_bO⟩, ⟨k_bH, V_bH⟩, ⟨k_bT, V_bT⟩, ⟨k_hP, V_hP⟩, ⟨k_nw, V_nw⟩⟩ := H0
  refine E_aloadN (pc' := 1) cx st d22_0 rfl rfl rfl ?_
  refine E_getfield (pc' := 4) (v := (.ref hP)) cx st (wd hw 58 rfl) (B_o.at 13 (by decide) rfl rfl) d22_1 rfl ?_
  intro T1 st1
  refine E_iconst (pc' := 5) cx st1 (0 : Int32) d22_4 rfl rfl ?_
  refine E_iaload (pc' := 6) (x := (0 : Int32)) cx st1 V_hP ⟨by decide, by decide⟩ rfl d22_5 rfl ?_
  refine E_istoreN (pc' := 7) (L' := #[.val (.ref o), .val (.int (0 : Int32)), .unset, .unset]) cx st1 d22_6 rfl rfl ?_
  refine E_aloadN (pc' := 8) cx st1 d22_7 rfl rfl rfl ?_
  refine E_getfield (pc' := 11) (v := (.ref bH)) cx st1 (wd hw 52 rfl) (B_o.at 8 (by decide) rfl rfl) d22_8 rfl ?_
  intro T2 st2
  refine E_iloadN (pc' := 12) cx st2 d22_11 rfl rfl ?_
  refine E_iaload (pc' := 13) (x := (1 : Int32)) cx st2 V_bH ⟨by decide, by decide⟩ rfl d22_12 rfl ?_
  refine E_istoreN (pc' := 14) (L' := #[.val (.ref o), .val (.int (0 : Int32)), .val (.int (1 : Int32)), .unset]) cx st2 d22_13 rfl rfl ?_
  refine E_aloadN (pc' := 15) cx st2 d22_14 rfl rfl rfl ?_
  refine E_getfield (pc' := 18) (v := (.ref cl)) cx st2 (wd hw 41 rfl) (B_o.at 1 (by decide) rfl rfl) d22_15 rfl ?_
  intro T3 st3
  refine E_iloadN (pc' := 19) cx st3 d22_18 rfl rfl ?_
  refine E_callV (pc' := 22) (kc' := 0) (ks' := 0) (W := 0) (a := cl) (argsL := [(.int (1 : Int32))]) cx st3 [] (rmget1 l Z a0 hw cl cs c0 e0 e1 h0 n0 Z0 k_cs k_c0 er HL V_cs V_c0) HL.1 (wd hw 149 rfl) (wd hw 150 rfl) (wd hw 152 rfl) (wd hw 151 rfl) (wd hw 11 rfl) (wd hw 153 rfl) d22_19 rfl rfl (lenOf pd_5 rfl) (Nat.le_of_eq rfl) (by decide) (by decide) (by decide) (by decide) (by decide) (by decide) (by decide) rfl ?_
  intro v4 T4 h4 st4 hq4
  obtain ⟨rfl, hh4⟩ := hq4
  rw [hh4] at st4
  refine E_bipush (pc' := 24) cx st4 (32 : Int32) d22_22 rfl rfl ?_
  refine E_lshr (pc' := 25) cx st4 d22_24 rfl ?_
  refine E_l2i (pc' := 26) cx st4 d22_25 rfl ?_
  refine E_istoreN (pc' := 27) (L' := #[.val (.ref o), .val (.int (0 : Int32)), .val (.int (1 : Int32)), .val (.int ((e1 >>> ((32 : Int32) &&& 0x3f).toInt64).toInt32))]) cx st4 d22_26 rfl rfl ?_
  refine E_aloadN (pc' := 28) cx st4 d22_27 rfl rfl rfl ?_
  refine E_getfield (pc' := 31) (v := (.ref bH)) cx st4 (wd hw 52 rfl) (B_o.at 8 (by decide) rfl rfl) d22_28 rfl ?_
  intro T5 st5
  refine E_iloadN (pc' := 32) cx st5 d22_31 rfl rfl ?_
  refine E_iloadN (pc' := 33) cx st5 d22_32 rfl rfl ?_
  refine E_aloadN (pc' := 34) cx st5 d22_33 rfl rfl rfl ?_
  refine E_getfield (pc' := 37) (v := (.ref bT)) cx st5 (wd hw 54 rfl) (B_o.at 9 (by decide) rfl rfl) d22_34 rfl ?_
  intro T6 st6
  refine E_iloadN (pc' := 38) cx st6 d22_37 rfl rfl ?_
  refine E_iaload (pc' := 39) (x := (1 : Int32)) cx st6 V_bT ⟨by decide, by decide⟩ rfl d22_38 rfl ?_
  refine E_icmp_neN (pc' := 42) cx st6 d22_39 rfl rfl ?_
  refine E_iconst (pc' := 43) cx st6 (-1 : Int32) d22_42 rfl rfl ?_
  refine E_goto (pc' := 51) cx st6 d22_43 (by decide) (by decide) ?_
  refine E_iastore (pc' := 52) (i := 0) cx st6 V_bH ⟨by decide, by decide⟩ rfl (Nat.zero_lt_succ _) g_bH d22_51 rfl ?_
  intro T7 h7 st7 W7 V7
  have Z7 : n0 ≤ h7.size := Nat.le_trans Z0 (Keep.of_wr W7).1
  have K7 : Keep h0 h7 [o, c0, bF, bG, bO, bH, bT, hP, nw] := (Keep.refl h0 [o, c0, bF, bG, bO, bH, bT, hP, nw]).wr W7 (mi 5 rfl)
  have V7p : Arv Z h7 bH k_bH .int (16 : Int32) ((.int (-1 : Int32)) :: (.int d1) :: (dr.map Value.int)) (.int (0 : Int32)) := V7
  refine E_aloadN (pc' := 53) cx st7 d22_52 rfl rfl rfl ?_
  refine E_iloadN (pc' := 54) cx st7 d22_53 rfl rfl ?_
  refine E_aloadN (pc' := 55) cx st7 d22_54 rfl rfl rfl ?_
  have B9 : OL Z h7 o [(.int gt), (.ref cl), (.int fe), (.int eu), (.int sz), (.ref bF), (.ref bG), (.ref bO), (.ref bH), (.ref bT), (.int fb), (.int bu), (.long sta), (.ref hP), (.int (1 : Int32)), (.ref nw)] := (B_o.other W7 (nd hnd 0 7 rfl rfl))
  refine E_getfield (pc' := 58) (v := (.int fe)) cx st7 (wd hw 43 rfl) (B9.at 2 (by decide) rfl rfl) d22_55 rfl ?_
  intro T8 st8
  have X10 : Exa Z h7 o "com/example/flat_planner/flatplanner/OpenList" := (X_o.wr W7)
  have HL11 : LCF Z h7 cl cs := (HL.other W7 (nd hnd 1 7 rfl rfl))
  have V12 : Arv Z h7 cs k_cs (.array .long) (1 : Int32) [(.ref c0)] .null := (V_cs.other W7 (nd hnd 2 7 rfl rfl))
  have V13 : Arv Z h7 c0 k_c0 .long (16 : Int32) ((.long e0) :: (.long e1) :: (er.map Value.long)) (.long (0 : Int64)) := (V_c0.other W7 (nd hnd 3 7 rfl rfl))
  have V14 : Arv Z h7 bF k_bF .long (16 : Int32) ((.long f0) :: (.long f1) :: (fr.map Value.long)) (.long (0 : Int64)) := (V_bF.other W7 (nd hnd 4 7 rfl rfl))
  have V15 : Arv Z h7 bG k_bG .long (16 : Int32) ((.long g0) :: (.long g1) :: (gr.map Value.long)) (.long (0 : Int64)) := (V_bG.other W7 (nd hnd 5 7 rfl rfl))
  have V16 : Arv Z h7 bO k_bO .long (16 : Int32) ((.long q0) :: (.long q1) :: (qr.map Value.long)) (.long (0 : Int64)) := (V_bO.other W7 (nd hnd 6 7 rfl rfl))
  have V17 : Arv Z h7 bT k_bT .int (16 : Int32) ((.int (1 : Int32)) :: (.int t1) :: (tr.map Value.int)) (.int (0 : Int32)) := (V_bT.other W7 (nd hnd 8 7 rfl rfl))
  have V18 : Arv Z h7 hP k_hP .int (16 : Int32) ((.int (0 : Int32)) :: (.int p1) :: (pr.map Value.int)) (.int (0 : Int32)) := (V_hP.other W7 (nd hnd 9 7 rfl rfl))
  have V19 : Arv Z h7 nw k_nw .int (32 : Int32) (ns.map Value.int) (.int (0 : Int32)) := (V_nw.other W7 (nd hnd 10 7 rfl rfl))
  refine E_callP (pc' := 61) (kc' := 0) (ks' := 0) (W := 0) (a := o) (argsL := [(.int (1 : Int32)), (.int fe)]) cx st8 [] (rmsetNext1 l Z a0 hw o cl cs c0 bF bG bO bH bT hP nw h7 n0 Z7 gt fe eu sz fb bu sta (1 : Int32) e0 e1 er f0 f1 fr g0 g1 gr q0 q1 qr (-1 : Int32) d1 dr (1 : Int32) t1 tr (0 : Int32) p1 pr ns fe hnd hge ⟨X10, B9, HL11, ⟨_, V12⟩, ⟨_, V13⟩, ⟨_, V14⟩, ⟨_, V15⟩, ⟨_, V16⟩, ⟨_, V7p⟩, ⟨_, V17⟩, ⟨_, V18⟩, ⟨_, V19⟩⟩ ) X10 (wd hw 154 rfl) (wd hw 156 rfl) (wd hw 1 rfl) (wd hw 155 rfl) (wd hw 2 rfl) (wd hw 157 rfl) d22_58 rfl rfl (lenOf pd_9 rfl) (Nat.le_of_eq rfl) (by decide) (by decide) (by decide) (by decide) (by decide) (by decide) (by decide) rfl ?_
  intro v20 T20 h20 st20 hq20
  obtain ⟨rfl, Kw20, Hw20⟩ := hq20
  have Z20 : n0 ≤ h20.size := Nat.le_trans Z7 Kw20.1
  have KKw20' : Keep h0 h20 [o, c0, bF, bG, bO, bH, bT, hP, nw] := K7.trans Kw20 (allS (mi 0 rfl) (allS (mi 1 rfl) (allS (mi 2 rfl) (allS (mi 3 rfl) (allS (mi 4 rfl) (allS (mi 5 rfl) (allS (mi 6 rfl) (allS (mi 7 rfl) (allS (mi 8 rfl) all0)))))))))
  obtain ⟨X_o_20, B_o_20, HL_20, ⟨k_cs_20, V_cs_20⟩, ⟨k_c0_20, V_c0_20⟩, ⟨k_bF_20, V_bF_20⟩, ⟨k_bG_20, V_bG_20⟩, ⟨k_bO_20, V_bO_20⟩, ⟨k_bH_20, V_bH_20⟩, ⟨k_bT_20, V_bT_20⟩, ⟨k_hP_20, V_hP_20⟩, ⟨k_nw_20, V_nw_20⟩⟩ := Hw20
  refine E_aloadN (pc' := 62) cx st20 d22_61 rfl rfl rfl ?_
  refine E_iloadN (pc' := 63) cx st20 d22_62 rfl rfl ?_
  refine E_putfield (pc' := 66) (ty := .int) cx st20 (wd hw 43 rfl) (B_o_20.at 2 (by decide) rfl rfl) X_o_20 (Or.inl (wd hw 44 rfl)) (wd hw 1 rfl) (by decide) rfl rfl g_o d22_63 rfl ?_
  intro T21 h21 st21 W21
  have Z21 : n0 ≤ h21.size := Nat.le_trans Z20 (Keep.of_wr W21).1
  have K21 : Keep h0 h21 [o, c0, bF, bG, bO, bH, bT, hP, nw] := KKw20'.wr W21 (mi 0 rfl)
  have B21w : OL Z h21 o [(.int gt), (.ref cl), (.int (1 : Int32)), (.int eu), (.int sz), (.ref bF), (.ref bG), (.ref bO), (.ref bH), (.ref bT), (.int fb), (.int bu), (.long sta), (.ref hP), (.int (1 : Int32)), (.ref nw)] := B_o_20.wr hw 2 (by decide) rfl W21 (Nat.le_of_ble_eq_true rfl)
  refine E_aloadN (pc' := 67) cx st21 d22_66 rfl rfl rfl ?_
  refine E_dup (pc' := 68) cx st21 d22_67 rfl rfl ?_
  refine E_getfield (pc' := 71) (v := (.int sz)) cx st21 (wd hw 118 rfl) (B21w.at 4 (by decide) rfl rfl) d22_68 rfl ?_
  intro T22 st22
  refine E_iconst (pc' := 72) cx st22 (1 : Int32) d22_71 rfl rfl ?_
  refine E_isub (pc' := 73) cx st22 d22_72 rfl ?_
  have X23 : Exa Z h21 o "com/example/flat_planner/flatplanner/OpenList" := (X_o_20.wr W21)
  refine E_putfield (pc' := 76) (ty := .int) cx st22 (wd hw 118 rfl) (B21w.at 4 (by decide) rfl rfl) X23 (Or.inl (wd hw 119 rfl)) (wd hw 1 rfl) (by decide) rfl rfl g_o d22_73 rfl ?_
  intro T24 h24 st24 W24
  have Z24 : n0 ≤ h24.size := Nat.le_trans Z21 (Keep.of_wr W24).1
  have K24 : Keep h0 h24 [o, c0, bF, bG, bO, bH, bT, hP, nw] := K21.wr W24 (mi 0 rfl)
  have B24w : OL Z h24 o [(.int gt), (.ref cl), (.int (1 : Int32)), (.int eu), (.int (sz - (1 : Int32))), (.ref bF), (.ref bG), (.ref bO), (.ref bH), (.ref bT), (.int fb), (.int bu), (.long sta), (.ref hP), (.int (1 : Int32)), (.ref nw)] := B21w.wr hw 4 (by decide) rfl W24 (Nat.le_of_ble_eq_true rfl)
  refine E_aloadN (pc' := 77) cx st24 d22_76 rfl rfl rfl ?_
  refine E_getfield (pc' := 80) (v := (.ref bH)) cx st24 (wd hw 52 rfl) (B24w.at 8 (by decide) rfl rfl) d22_77 rfl ?_
  intro T25 st25
  refine E_iloadN (pc' := 81) cx st25 d22_80 rfl rfl ?_
  have V26 : Arv Z h24 bH k_bH_20 .int (16 : Int32) ((.int (-1 : Int32)) :: (.int d1) :: (dr.map Value.int)) (.int (0 : Int32)) := ((V_bH_20.other W21 (nd hnd 7 0 rfl rfl)).other W24 (nd hnd 7 0 rfl rfl))
  refine E_iaload (pc' := 82) (x := (-1 : Int32)) cx st25 V26 ⟨by decide, by decide⟩ rfl d22_81 rfl ?_
  refine E_iconst (pc' := 83) cx st25 (-1 : Int32) d22_82 rfl rfl ?_
  refine E_icmp_neN (pc' := 86) cx st25 d22_83 rfl rfl ?_
  refine E_aloadN (pc' := 87) cx st25 d22_86 rfl rfl rfl ?_
  have X27 : Exa Z h24 o "com/example/flat_planner/flatplanner/OpenList" := (X23.wr W24)
  have HL28 : LCF Z h24 cl cs := ((HL_20.other W21 (nd hnd 1 0 rfl rfl)).other W24 (nd hnd 1 0 rfl rfl))
  have V29 : Arv Z h24 cs k_cs_20 (.array .long) (1 : Int32) [(.ref c0)] .null := ((V_cs_20.other W21 (nd hnd 2 0 rfl rfl)).other W24 (nd hnd 2 0 rfl rfl))
  have V30 : Arv Z h24 c0 k_c0_20 .long (16 : Int32) ((.long e0) :: (.long (nxE e1 fe)) :: (er.map Value.long)) (.long (0 : Int64)) := ((V_c0_20.other W21 (nd hnd 3 0 rfl rfl)).other W24 (nd hnd 3 0 rfl rfl))
  have V31 : Arv Z h24 bF k_bF_20 .long (16 : Int32) ((.long f0) :: (.long f1) :: (fr.map Value.long)) (.long (0 : Int64)) := ((V_bF_20.other W21 (nd hnd 4 0 rfl rfl)).other W24 (nd hnd 4 0 rfl rfl))
  have V32 : Arv Z h24 bG k_bG_20 .long (16 : Int32) ((.long g0) :: (.long g1) :: (gr.map Value.long)) (.long (0 : Int64)) := ((V_bG_20.other W21 (nd hnd 5 0 rfl rfl)).other W24 (nd hnd 5 0 rfl rfl))
  have V33 : Arv Z h24 bO k_bO_20 .long (16 : Int32) ((.long q0) :: (.long q1) :: (qr.map Value.long)) (.long (0 : Int64)) := ((V_bO_20.other W21 (nd hnd 6 0 rfl rfl)).other W24 (nd hnd 6 0 rfl rfl))
  have V34 : Arv Z h24 bT k_bT_20 .int (16 : Int32) ((.int (1 : Int32)) :: (.int t1) :: (tr.map Value.int)) (.int (0 : Int32)) := ((V_bT_20.other W21 (nd hnd 8 0 rfl rfl)).other W24 (nd hnd 8 0 rfl rfl))
  have V35 : Arv Z h24 hP k_hP_20 .int (16 : Int32) ((.int (0 : Int32)) :: (.int p1) :: (pr.map Value.int)) (.int (0 : Int32)) := ((V_hP_20.other W21 (nd hnd 9 0 rfl rfl)).other W24 (nd hnd 9 0 rfl rfl))
  have V36 : Arv Z h24 nw k_nw_20 .int (32 : Int32) (ns.map Value.int) (.int (0 : Int32)) := ((V_nw_20.other W21 (nd hnd 10 0 rfl rfl)).other W24 (nd hnd 10 0 rfl rfl))
  refine E_callP (pc' := 90) (kc' := 0) (ks' := 0) (W := 0) (a := o) (argsL := []) cx st25 [] (rmheapPop1 l Z a0 hw o cl cs c0 bF bG bO bH bT hP nw h24 n0 Z24 gt (1 : Int32) eu (sz - (1 : Int32)) fb bu sta e0 (nxE e1 fe) er f0 f1 fr g0 g1 gr q0 q1 qr (-1 : Int32) d1 dr (1 : Int32) t1 tr (0 : Int32) p1 pr ns hnd hge ⟨X27, B24w, HL28, ⟨_, V29⟩, ⟨_, V30⟩, ⟨_, V31⟩, ⟨_, V32⟩, ⟨_, V33⟩, ⟨_, V26⟩, ⟨_, V34⟩, ⟨_, V35⟩, ⟨_, V36⟩⟩ ) X27 (wd hw 160 rfl) (wd hw 162 rfl) (wd hw 1 rfl) (wd hw 161 rfl) (wd hw 2 rfl) (wd hw 163 rfl) d22_87 rfl rfl (lenOf pd_10 rfl) (Nat.le_of_eq rfl) (by decide) (by decide) (by decide) (by decide) (by decide) (by decide) (by decide) rfl ?_
  intro v37 T37 h37 st37 hq37
  obtain ⟨rfl, Kw37, Hw37⟩ := hq37
  have Z37 : n0 ≤ h37.size := Nat.le_trans Z24 Kw37.1
  have KKw37' : Keep h0 h37 [o, c0, bF, bG, bO, bH, bT, hP, nw] := K24.trans Kw37 (allS (mi 0 rfl) (allS (mi 1 rfl) (allS (mi 2 rfl) (allS (mi 3 rfl) (allS (mi 4 rfl) (allS (mi 5 rfl) (allS (mi 6 rfl) (allS (mi 7 rfl) (allS (mi 8 rfl) all0)))))))))
  obtain ⟨X_o_37, B_o_37, HL_37, ⟨k_cs_37, V_cs_37⟩, ⟨k_c0_37, V_c0_37⟩, ⟨k_bF_37, V_bF_37⟩, ⟨k_bG_37, V_bG_37⟩, ⟨k_bO_37, V_bO_37⟩, ⟨k_bH_37, V_bH_37⟩, ⟨k_bT_37, V_bT_37⟩, ⟨k_hP_37, V_hP_37⟩, ⟨k_nw_37, V_nw_37⟩⟩ := Hw37
  refine E_aloadN (pc' := 91) cx st37 d22_90 rfl rfl rfl ?_
  refine E_getfield (pc' := 94) (v := (.ref bT)) cx st37 (wd hw 54 rfl) (B_o_37.at 9 (by decide) rfl rfl) d22_91 rfl ?_
  intro T38 st38
  refine E_iloadN (pc' := 95) cx st38 d22_94 rfl rfl ?_
  refine E_aloadN (pc' := 96) cx st38 d22_95 rfl rfl rfl ?_
  refine E_getfield (pc' := 99) (v := (.int fb)) cx st38 (wd hw 56 rfl) (B_o_37.at 10 (by decide) rfl rfl) d22_96 rfl ?_
  intro T39 st39
  refine E_iastore (pc' := 100) (i := 0) cx st39 V_bT_37 ⟨by decide, by decide⟩ rfl (Nat.zero_lt_succ _) g_bT d22_99 rfl ?_
  intro T40 h40 st40 W40 V40
  have Z40 : n0 ≤ h40.size := Nat.le_trans Z37 (Keep.of_wr W40).1
  have K40 : Keep h0 h40 [o, c0, bF, bG, bO, bH, bT, hP, nw] := KKw37'.wr W40 (mi 6 rfl)
  have V40p : Arv Z h40 bT k_bT_37 .int (16 : Int32) ((.int fb) :: (.int t1) :: (tr.map Value.int)) (.int (0 : Int32)) := V40
  refine E_aloadN (pc' := 101) cx st40 d22_100 rfl rfl rfl ?_
  refine E_iloadN (pc' := 102) cx st40 d22_101 rfl rfl ?_
  have B41 : OL Z h40 o [(.int gt), (.ref cl), (.int (1 : Int32)), (.int eu), (.int (sz - (1 : Int32))), (.ref bF), (.ref bG), (.ref bO), (.ref bH), (.ref bT), (.int fb), (.int bu), (.long sta), (.ref hP), (.int (0 : Int32)), (.ref nw)] := (B_o_37.other W40 (nd hnd 0 8 rfl rfl))
  have X42 : Exa Z h40 o "com/example/flat_planner/flatplanner/OpenList" := (X_o_37.wr W40)
  refine E_putfield (pc' := 105) (ty := .int) cx st40 (wd hw 56 rfl) (B41.at 10 (by decide) rfl rfl) X42 (Or.inl (wd hw 57 rfl)) (wd hw 1 rfl) (by decide) rfl rfl g_o d22_102 rfl ?_
  intro T43 h43 st43 W43
  have Z43 : n0 ≤ h43.size := Nat.le_trans Z40 (Keep.of_wr W43).1
  have K43 : Keep h0 h43 [o, c0, bF, bG, bO, bH, bT, hP, nw] := K40.wr W43 (mi 0 rfl)
  have B43w : OL Z h43 o [(.int gt), (.ref cl), (.int (1 : Int32)), (.int eu), (.int (sz - (1 : Int32))), (.ref bF), (.ref bG), (.ref bO), (.ref bH), (.ref bT), (.int (0 : Int32)), (.int bu), (.long sta), (.ref hP), (.int (0 : Int32)), (.ref nw)] := B41.wr hw 10 (by decide) rfl W43 (Nat.le_of_ble_eq_true rfl)
  refine E_iloadN (pc' := 106) cx st43 d22_105 rfl rfl ?_
  have X44 : Exa Z h43 o "com/example/flat_planner/flatplanner/OpenList" := (X42.wr W43)
  have HL45 : LCF Z h43 cl cs := ((HL_37.other W40 (nd hnd 1 8 rfl rfl)).other W43 (nd hnd 1 0 rfl rfl))
  have V46 : Arv Z h43 cs k_cs_37 (.array .long) (1 : Int32) [(.ref c0)] .null := ((V_cs_37.other W40 (nd hnd 2 8 rfl rfl)).other W43 (nd hnd 2 0 rfl rfl))
  have V47 : Arv Z h43 c0 k_c0_37 .long (16 : Int32) ((.long e0) :: (.long (nxE e1 fe)) :: (er.map Value.long)) (.long (0 : Int64)) := ((V_c0_37.other W40 (nd hnd 3 8 rfl rfl)).other W43 (nd hnd 3 0 rfl rfl))
  have V48 : Arv Z h43 bF k_bF_37 .long (16 : Int32) ((.long f0) :: (.long f1) :: (fr.map Value.long)) (.long (0 : Int64)) := ((V_bF_37.other W40 (nd hnd 4 8 rfl rfl)).other W43 (nd hnd 4 0 rfl rfl))
  have V49 : Arv Z h43 bG k_bG_37 .long (16 : Int32) ((.long g0) :: (.long g1) :: (gr.map Value.long)) (.long (0 : Int64)) := ((V_bG_37.other W40 (nd hnd 5 8 rfl rfl)).other W43 (nd hnd 5 0 rfl rfl))
  have V50 : Arv Z h43 bO k_bO_37 .long (16 : Int32) ((.long q0) :: (.long q1) :: (qr.map Value.long)) (.long (0 : Int64)) := ((V_bO_37.other W40 (nd hnd 6 8 rfl rfl)).other W43 (nd hnd 6 0 rfl rfl))
  have V51 : Arv Z h43 bH k_bH_37 .int (16 : Int32) ((.int (-1 : Int32)) :: (.int d1) :: (dr.map Value.int)) (.int (0 : Int32)) := ((V_bH_37.other W40 (nd hnd 7 8 rfl rfl)).other W43 (nd hnd 7 0 rfl rfl))
  have V52 : Arv Z h43 bT k_bT_37 .int (16 : Int32) ((.int fb) :: (.int t1) :: (tr.map Value.int)) (.int (0 : Int32)) := (V40p.other W43 (nd hnd 8 0 rfl rfl))
  have V53 : Arv Z h43 hP k_hP_37 .int (16 : Int32) ((.int (0 : Int32)) :: (.int p1) :: (pr.map Value.int)) (.int (0 : Int32)) := ((V_hP_37.other W40 (nd hnd 9 8 rfl rfl)).other W43 (nd hnd 9 0 rfl rfl))
  have V54 : Arv Z h43 nw k_nw_37 .int (32 : Int32) (ns.map Value.int) (.int (0 : Int32)) := ((V_nw_37.other W40 (nd hnd 10 8 rfl rfl)).other W43 (nd hnd 10 0 rfl rfl))
  refine E_ireturn (t := .int) cx st43 d22_106 rfl (by simp) rfl (by decide) (by decide) ?_
  exact ⟨rfl, K43, ⟨X44, B43w, HL45, ⟨_, V46⟩, ⟨_, V47⟩, ⟨_, V48⟩, ⟨_, V49⟩, ⟨_, V50⟩, ⟨_, V51⟩, ⟨_, V52⟩, ⟨_, V53⟩, ⟨_, V54⟩⟩⟩
theorem ef_popB10 (m : MethodId) (x0 : Addr) : entryFrame m #[(.ref x0)] 4 = mkF m 0 #[.val (.ref x0), .unset, .unset, .unset] [] := by first | (simp [entryFrame, mkF, argsToLocals, Value.category]; done) | rfl
set_option maxRecDepth 65536 in
set_option maxHeartbeats 40000000 in
theorem rmpopB10 (l : Launch) (Z : State) (a0 : Array Value) (hw : ∀ d ∈ tables_1, d.before a0 Z = true) (o : Addr) (cl : Addr) (cs : Addr) (c0 : Addr) (bF : Addr) (bG : Addr) (bO : Addr) (bH : Addr) (bT : Addr) (hP : Addr) (nw : Addr) (h0 : Heap) (n0 : Nat) (Z0 : n0 ≤ h0.size) (gt : Int32) (fe : Int32) (eu : Int32) (sz : Int32) (fb : Int32) (bu : Int32) (sta : Int64) (e0 : Int64) (e1 : Int64) (er : List Int64) (f0 : Int64) (f1 : Int64) (fr : List Int64) (g0 : Int64) (g1 : Int64) (gr : List Int64) (q0 : Int64) (q1 : Int64) (qr : List Int64) (dr : List Int32) (tr : List Int32) (pr : List Int32) (ns : List Int32) (hnd : [o, cl, cs, c0, bF, bG, bO, bH, bT, hP, nw].Nodup) (hge : ∀ a ∈ [o, cl, cs, c0, bF, bG, bO, bH, bT, hP, nw], n0 ≤ a) (H0 : Wd Z h0 o cl cs c0 bF bG bO bH bT hP nw gt fe eu sz fb bu (2 : Int32) sta e0 e1 er f0 f1 fr g0 g1 gr q0 q1 qr (0 : Int32) (1 : Int32) dr (0 : Int32) (1 : Int32) tr (0 : Int32) (1 : Int32) pr ns)  :
    Con l Z (⟨"com/example/flat_planner/flatplanner/OpenList", "pop", "()I"⟩ : MethodName) prog_16_method_7_code 4 (some .int) ({ frames := 3, cells := 0, slots := 0, locals := 43 } : Room) #[(.ref o)] h0 n0 (fun v h => v = some (.int (hiV e0)) ∧ Keep h0 h [o, c0, bF, bG, bO, bH, bT, hP, nw] ∧ Wd Z h o cl cs c0 bF bG bO bH bT hP nw gt (0 : Int32) eu (sz - (1 : Int32)) (0 : Int32) bu (1 : Int32) sta (nxE e0 fe) e1 er f0 f1 fr g0 g1 gr q0 q1 qr (-1 : Int32) (1 : Int32) dr fb (1 : Int32) tr (1 : Int32) (1 : Int32) pr ns) := by
  refine Con.of (own := "com/example/flat_planner/flatplanner/OpenList") (name := "pop") (plainFor_of_name pn_3) (fun m => ef_popB10 m o) rfl rfl ?_
  intro p e s m below meth c T F S cx st
  have g_o : n0 ≤ o := hge o (by simp)
  have g_c0 : n0 ≤ c0 := hge c0 (by simp)
  have g_bF : n0 ≤ bF := hge bF (by simp)
  have g_bG : n0 ≤ bG := hge bG (by simp)
  have g_bO : n0 ≤ bO := hge bO (by simp)
  have g_bH : n0 ≤ bH := hge bH (by simp)
  have g_bT : n0 ≤ bT := hge bT (by simp)
  have g_hP : n0 ≤ hP := hge hP (by simp)
  have g_nw : n0 ≤ nw := hge nw (by simp)
  obtain ⟨X_o, B_o, HL, ⟨k_cs, V_cs⟩, ⟨k_c0, V_c0⟩, ⟨k_bF, V_bF⟩, ⟨k_bG, V_bG⟩, ⟨k_bO, V_bO⟩, ⟨k_bH, V_bH⟩, ⟨k_bT, V_bT⟩, ⟨k_hP, V_hP⟩, ⟨k_nw, V_nw⟩⟩ := H0
  refine E_aloadN (pc' := 1) cx st d22_0 rfl rfl rfl ?_
  refine E_getfield (pc' := 4) (v := (.ref hP)) cx st (wd hw 58 rfl) (B_o.at 13 (by decide) rfl rfl) d22_1 rfl ?_
  intro T1 st1
  refine E_iconst (pc' := 5) cx st1 (0 : Int32) d22_4 rfl rfl ?_
  refine E_iaload (pc' := 6) (x := (0 : Int32)) cx st1 V_hP ⟨by decide, by decide⟩ rfl d22_5 rfl ?_
  refine E_istoreN (pc' := 7) (L' := #[.val (.ref o), .val (.int (0 : Int32)), .unset, .unset]) cx st1 d22_6 rfl rfl ?_
  refine E_aloadN (pc' := 8) cx st1 d22_7 rfl rfl rfl ?_
  refine E_getfield (pc' := 11) (v := (.ref bH)) cx st1 (wd hw 52 rfl) (B_o.at 8 (by decide) rfl rfl) d22_8 rfl ?_
  intro T2 st2
  refine E_iloadN (pc' := 12) cx st2 d22_11 rfl rfl ?_
  refine E_iaload (pc' := 13) (x := (0 : Int32)) cx st2 V_bH ⟨by decide, by decide⟩ rfl d22_12 rfl ?_
  refine E_istoreN (pc' := 14) (L' := #[.val (.ref o), .val (.int (0 : Int32)), .val (.int (0 : Int32)), .unset]) cx st2 d22_13 rfl rfl ?_
  refine E_aloadN (pc' := 15) cx st2 d22_14 rfl rfl rfl ?_
  refine E_getfield (pc' := 18) (v := (.ref cl)) cx st2 (wd hw 41 rfl) (B_o.at 1 (by decide) rfl rfl) d22_15 rfl ?_
  intro T3 st3
  refine E_iloadN (pc' := 19) cx st3 d22_18 rfl rfl ?_
  refine E_callV (pc' := 22) (kc' := 0) (ks' := 0) (W := 0) (a := cl) (argsL := [(.int (0 : Int32))]) cx st3 [] (rmget0 l Z a0 hw cl cs c0 e0 e1 h0 n0 Z0 k_cs k_c0 er HL V_cs V_c0) HL.1 (wd hw 149 rfl) (wd hw 150 rfl) (wd hw 152 rfl) (wd hw 151 rfl) (wd hw 11 rfl) (wd hw 153 rfl) d22_19 rfl rfl (lenOf pd_5 rfl) (Nat.le_of_eq rfl) (by decide) (by decide) (by decide) (by decide) (by decide) (by decide) (by decide) rfl ?_
  intro v4 T4 h4 st4 hq4
  obtain ⟨rfl, hh4⟩ := hq4
  rw [hh4] at st4
  refine E_bipush (pc' := 24) cx st4 (32 : Int32) d22_22 rfl rfl ?_
  refine E_lshr (pc' := 25) cx st4 d22_24 rfl ?_
  refine E_l2i (pc' := 26) cx st4 d22_25 rfl ?_
  refine E_istoreN (pc' := 27) (L' := #[.val (.ref o), .val (.int (0 : Int32)), .val (.int (0 : Int32)), .val (.int ((e0 >>> ((32 : Int32) &&& 0x3f).toInt64).toInt32))]) cx st4 d22_26 rfl rfl ?_
  refine E_aloadN (pc' := 28) cx st4 d22_27 rfl rfl rfl ?_
  refine E_getfield (pc' := 31) (v := (.ref bH)) cx st4 (wd hw 52 rfl) (B_o.at 8 (by decide) rfl rfl) d22_28 rfl ?_
  intro T5 st5
  refine E_iloadN (pc' := 32) cx st5 d22_31 rfl rfl ?_
  refine E_iloadN (pc' := 33) cx st5 d22_32 rfl rfl ?_
  refine E_aloadN (pc' := 34) cx st5 d22_33 rfl rfl rfl ?_
  refine E_getfield (pc' := 37) (v := (.ref bT)) cx st5 (wd hw 54 rfl) (B_o.at 9 (by decide) rfl rfl) d22_34 rfl ?_
  intro T6 st6
  refine E_iloadN (pc' := 38) cx st6 d22_37 rfl rfl ?_
  refine E_iaload (pc' := 39) (x := (0 : Int32)) cx st6 V_bT ⟨by decide, by decide⟩ rfl d22_38 rfl ?_
  refine E_icmp_neN (pc' := 42) cx st6 d22_39 rfl rfl ?_
  refine E_iconst (pc' := 43) cx st6 (-1 : Int32) d22_42 rfl rfl ?_
  refine E_goto (pc' := 51) cx st6 d22_43 (by decide) (by decide) ?_
  refine E_iastore (pc' := 52) (i := 0) cx st6 V_bH ⟨by decide, by decide⟩ rfl (Nat.zero_lt_succ _) g_bH d22_51 rfl ?_
  intro T7 h7 st7 W7 V7
  have Z7 : n0 ≤ h7.size := Nat.le_trans Z0 (Keep.of_wr W7).1
  have K7 : Keep h0 h7 [o, c0, bF, bG, bO, bH, bT, hP, nw] := (Keep.refl h0 [o, c0, bF, bG, bO, bH, bT, hP, nw]).wr W7 (mi 5 rfl)
  have V7p : Arv Z h7 bH k_bH .int (16 : Int32) ((.int (-1 : Int32)) :: (.int (1 : Int32)) :: (dr.map Value.int)) (.int (0 : Int32)) := V7
  refine E_aloadN (pc' := 53) cx st7 d22_52 rfl rfl rfl ?_
  refine E_iloadN (pc' := 54) cx st7 d22_53 rfl rfl ?_
  refine E_aloadN (pc' := 55) cx st7 d22_54 rfl rfl rfl ?_
  have B9 : OL Z h7 o [(.int gt), (.ref cl), (.int fe), (.int eu), (.int sz), (.ref bF), (.ref bG), (.ref bO), (.ref bH), (.ref bT), (.int fb), (.int bu), (.long sta), (.ref hP), (.int (2 : Int32)), (.ref nw)] := (B_o.other W7 (nd hnd 0 7 rfl rfl))
  refine E_getfield (pc' := 58) (v := (.int fe)) cx st7 (wd hw 43 rfl) (B9.at 2 (by decide) rfl rfl) d22_55 rfl ?_
  intro T8 st8
  have X10 : Exa Z h7 o "com/example/flat_planner/flatplanner/OpenList" := (X_o.wr W7)
  have HL11 : LCF Z h7 cl cs := (HL.other W7 (nd hnd 1 7 rfl rfl))
  have V12 : Arv Z h7 cs k_cs (.array .long) (1 : Int32) [(.ref c0)] .null := (V_cs.other W7 (nd hnd 2 7 rfl rfl))
  have V13 : Arv Z h7 c0 k_c0 .long (16 : Int32) ((.long e0) :: (.long e1) :: (er.map Value.long)) (.long (0 : Int64)) := (V_c0.other W7 (nd hnd 3 7 rfl rfl))
  have V14 : Arv Z h7 bF k_bF .long (16 : Int32) ((.long f0) :: (.long f1) :: (fr.map Value.long)) (.long (0 : Int64)) := (V_bF.other W7 (nd hnd 4 7 rfl rfl))
  have V15 : Arv Z h7 bG k_bG .long (16 : Int32) ((.long g0) :: (.long g1) :: (gr.map Value.long)) (.long (0 : Int64)) := (V_bG.other W7 (nd hnd 5 7 rfl rfl))
  have V16 : Arv Z h7 bO k_bO .long (16 : Int32) ((.long q0) :: (.long q1) :: (qr.map Value.long)) (.long (0 : Int64)) := (V_bO.other W7 (nd hnd 6 7 rfl rfl))
  have V17 : Arv Z h7 bT k_bT .int (16 : Int32) ((.int (0 : Int32)) :: (.int (1 : Int32)) :: (tr.map Value.int)) (.int (0 : Int32)) := (V_bT.other W7 (nd hnd 8 7 rfl rfl))
  have V18 : Arv Z h7 hP k_hP .int (16 : Int32) ((.int (0 : Int32)) :: (.int (1 : Int32)) :: (pr.map Value.int)) (.int (0 : Int32)) := (V_hP.other W7 (nd hnd 9 7 rfl rfl))
  have V19 : Arv Z h7 nw k_nw .int (32 : Int32) (ns.map Value.int) (.int (0 : Int32)) := (V_nw.other W7 (nd hnd 10 7 rfl rfl))
  refine E_callP (pc' := 61) (kc' := 0) (ks' := 0) (W := 0) (a := o) (argsL := [(.int (0 : Int32)), (.int fe)]) cx st8 [] (rmsetNext0 l Z a0 hw o cl cs c0 bF bG bO bH bT hP nw h7 n0 Z7 gt fe eu sz fb bu sta (2 : Int32) e0 e1 er f0 f1 fr g0 g1 gr q0 q1 qr (-1 : Int32) (1 : Int32) dr (0 : Int32) (1 : Int32) tr (0 : Int32) (1 : Int32) pr ns fe hnd hge ⟨X10, B9, HL11, ⟨_, V12⟩, ⟨_, V13⟩, ⟨_, V14⟩, ⟨_, V15⟩, ⟨_, V16⟩, ⟨_, V7p⟩, ⟨_, V17⟩, ⟨_, V18⟩, ⟨_, V19⟩⟩ ) X10 (wd hw 154 rfl) (wd hw 156 rfl) (wd hw 1 rfl) (wd hw 155 rfl) (wd hw 2 rfl) (wd hw 157 rfl) d22_58 rfl rfl (lenOf pd_9 rfl) (Nat.le_of_eq rfl) (by decide) (by decide) (by decide) (by decide) (by decide) (by decide) (by decide) rfl ?_
  intro v20 T20 h20 st20 hq20
  obtain ⟨rfl, Kw20, Hw20⟩ := hq20
  have Z20 : n0 ≤ h20.size := Nat.le_trans Z7 Kw20.1
  have KKw20' : Keep h0 h20 [o, c0, bF, bG, bO, bH, bT, hP, nw] := K7.trans Kw20 (allS (mi 0 rfl) (allS (mi 1 rfl) (allS (mi 2 rfl) (allS (mi 3 rfl) (allS (mi 4 rfl) (allS (mi 5 rfl) (allS (mi 6 rfl) (allS (mi 7 rfl) (allS (mi 8 rfl) all0)))))))))
  obtain ⟨X_o_20, B_o_20, HL_20, ⟨k_cs_20, V_cs_20⟩, ⟨k_c0_20, V_c0_20⟩, ⟨k_bF_20, V_bF_20⟩, ⟨k_bG_20, V_bG_20⟩, ⟨k_bO_20, V_bO_20⟩, ⟨k_bH_20, V_bH_20⟩, ⟨k_bT_20, V_bT_20⟩, ⟨k_hP_20, V_hP_20⟩, ⟨k_nw_20, V_nw_20⟩⟩ := Hw20
  refine E_aloadN (pc' := 62) cx st20 d22_61 rfl rfl rfl ?_
  refine E_iloadN (pc' := 63) cx st20 d22_62 rfl rfl ?_
  refine E_putfield (pc' := 66) (ty := .int) cx st20 (wd hw 43 rfl) (B_o_20.at 2 (by decide) rfl rfl) X_o_20 (Or.inl (wd hw 44 rfl)) (wd hw 1 rfl) (by decide) rfl rfl g_o d22_63 rfl ?_
  intro T21 h21 st21 W21
  have Z21 : n0 ≤ h21.size := Nat.le_trans Z20 (Keep.of_wr W21).1
  have K21 : Keep h0 h21 [o, c0, bF, bG, bO, bH, bT, hP, nw] := KKw20'.wr W21 (mi 0 rfl)
  have B21w : OL Z h21 o [(.int gt), (.ref cl), (.int (0 : Int32)), (.int eu), (.int sz), (.ref bF), (.ref bG), (.ref bO), (.ref bH), (.ref bT), (.int fb), (.int bu), (.long sta), (.ref hP), (.int (2 : Int32)), (.ref nw)] := B_o_20.wr hw 2 (by decide) rfl W21 (Nat.le_of_ble_eq_true rfl)
  refine E_aloadN (pc' := 67) cx st21 d22_66 rfl rfl rfl ?_
  refine E_dup (pc' := 68) cx st21 d22_67 rfl rfl ?_
  refine E_getfield (pc' := 71) (v := (.int sz)) cx st21 (wd hw 118 rfl) (B21w.at 4 (by decide) rfl rfl) d22_68 rfl ?_
  intro T22 st22
  refine E_iconst (pc' := 72) cx st22 (1 : Int32) d22_71 rfl rfl ?_
  refine E_isub (pc' := 73) cx st22 d22_72 rfl ?_
  have X23 : Exa Z h21 o "com/example/flat_planner/flatplanner/OpenList" := (X_o_20.wr W21)
  refine E_putfield (pc' := 76) (ty := .int) cx st22 (wd hw 118 rfl) (B21w.at 4 (by decide) rfl rfl) X23 (Or.inl (wd hw 119 rfl)) (wd hw 1 rfl) (by decide) rfl rfl g_o d22_73 rfl ?_
  intro T24 h24 st24 W24
  have Z24 : n0 ≤ h24.size := Nat.le_trans Z21 (Keep.of_wr W24).1
  have K24 : Keep h0 h24 [o, c0, bF, bG, bO, bH, bT, hP, nw] := K21.wr W24 (mi 0 rfl)
  have B24w : OL Z h24 o [(.int gt), (.ref cl), (.int (0 : Int32)), (.int eu), (.int (sz - (1 : Int32))), (.ref bF), (.ref bG), (.ref bO), (.ref bH), (.ref bT), (.int fb), (.int bu), (.long sta), (.ref hP), (.int (2 : Int32)), (.ref nw)] := B21w.wr hw 4 (by decide) rfl W24 (Nat.le_of_ble_eq_true rfl)
  refine E_aloadN (pc' := 77) cx st24 d22_76 rfl rfl rfl ?_
  refine E_getfield (pc' := 80) (v := (.ref bH)) cx st24 (wd hw 52 rfl) (B24w.at 8 (by decide) rfl rfl) d22_77 rfl ?_
  intro T25 st25
  refine E_iloadN (pc' := 81) cx st25 d22_80 rfl rfl ?_
  have V26 : Arv Z h24 bH k_bH_20 .int (16 : Int32) ((.int (-1 : Int32)) :: (.int (1 : Int32)) :: (dr.map Value.int)) (.int (0 : Int32)) := ((V_bH_20.other W21 (nd hnd 7 0 rfl rfl)).other W24 (nd hnd 7 0 rfl rfl))
  refine E_iaload (pc' := 82) (x := (-1 : Int32)) cx st25 V26 ⟨by decide, by decide⟩ rfl d22_81 rfl ?_
  refine E_iconst (pc' := 83) cx st25 (-1 : Int32) d22_82 rfl rfl ?_
  refine E_icmp_neN (pc' := 86) cx st25 d22_83 rfl rfl ?_
  refine E_aloadN (pc' := 87) cx st25 d22_86 rfl rfl rfl ?_
  have X27 : Exa Z h24 o "com/example/flat_planner/flatplanner/OpenList" := (X23.wr W24)
  have HL28 : LCF Z h24 cl cs := ((HL_20.other W21 (nd hnd 1 0 rfl rfl)).other W24 (nd hnd 1 0 rfl rfl))
  have V29 : Arv Z h24 cs k_cs_20 (.array .long) (1 : Int32) [(.ref c0)] .null := ((V_cs_20.other W21 (nd hnd 2 0 rfl rfl)).other W24 (nd hnd 2 0 rfl rfl))
  have V30 : Arv Z h24 c0 k_c0_20 .long (16 : Int32) ((.long (nxE e0 fe)) :: (.long e1) :: (er.map Value.long)) (.long (0 : Int64)) := ((V_c0_20.other W21 (nd hnd 3 0 rfl rfl)).other W24 (nd hnd 3 0 rfl rfl))
  have V31 : Arv Z h24 bF k_bF_20 .long (16 : Int32) ((.long f0) :: (.long f1) :: (fr.map Value.long)) (.long (0 : Int64)) := ((V_bF_20.other W21 (nd hnd 4 0 rfl rfl)).other W24 (nd hnd 4 0 rfl rfl))
  have V32 : Arv Z h24 bG k_bG_20 .long (16 : Int32) ((.long g0) :: (.long g1) :: (gr.map Value.long)) (.long (0 : Int64)) := ((V_bG_20.other W21 (nd hnd 5 0 rfl rfl)).other W24 (nd hnd 5 0 rfl rfl))
  have V33 : Arv Z h24 bO k_bO_20 .long (16 : Int32) ((.long q0) :: (.long q1) :: (qr.map Value.long)) (.long (0 : Int64)) := ((V_bO_20.other W21 (nd hnd 6 0 rfl rfl)).other W24 (nd hnd 6 0 rfl rfl))
  have V34 : Arv Z h24 bT k_bT_20 .int (16 : Int32) ((.int (0 : Int32)) :: (.int (1 : Int32)) :: (tr.map Value.int)) (.int (0 : Int32)) := ((V_bT_20.other W21 (nd hnd 8 0 rfl rfl)).other W24 (nd hnd 8 0 rfl rfl))
  have V35 : Arv Z h24 hP k_hP_20 .int (16 : Int32) ((.int (0 : Int32)) :: (.int (1 : Int32)) :: (pr.map Value.int)) (.int (0 : Int32)) := ((V_hP_20.other W21 (nd hnd 9 0 rfl rfl)).other W24 (nd hnd 9 0 rfl rfl))
  have V36 : Arv Z h24 nw k_nw_20 .int (32 : Int32) (ns.map Value.int) (.int (0 : Int32)) := ((V_nw_20.other W21 (nd hnd 10 0 rfl rfl)).other W24 (nd hnd 10 0 rfl rfl))
  refine E_callP (pc' := 90) (kc' := 0) (ks' := 0) (W := 0) (a := o) (argsL := []) cx st25 [] (rmheapPop2 l Z a0 hw o cl cs c0 bF bG bO bH bT hP nw h24 n0 Z24 gt (0 : Int32) eu (sz - (1 : Int32)) fb bu sta (nxE e0 fe) e1 er f0 f1 fr g0 g1 gr q0 q1 qr (-1 : Int32) (1 : Int32) dr (0 : Int32) (1 : Int32) tr (0 : Int32) (1 : Int32) pr ns hnd hge ⟨X27, B24w, HL28, ⟨_, V29⟩, ⟨_, V30⟩, ⟨_, V31⟩, ⟨_, V32⟩, ⟨_, V33⟩, ⟨_, V26⟩, ⟨_, V34⟩, ⟨_, V35⟩, ⟨_, V36⟩⟩ ) X27 (wd hw 160 rfl) (wd hw 162 rfl) (wd hw 1 rfl) (wd hw 161 rfl) (wd hw 2 rfl) (wd hw 163 rfl) d22_87 rfl rfl (lenOf pd_10 rfl) (Nat.le_of_eq rfl) (by decide) (by decide) (by decide) (by decide) (by decide) (by decide) (by decide) rfl ?_
  intro v37 T37 h37 st37 hq37
  obtain ⟨rfl, Kw37, Hw37⟩ := hq37
  have Z37 : n0 ≤ h37.size := Nat.le_trans Z24 Kw37.1
  have KKw37' : Keep h0 h37 [o, c0, bF, bG, bO, bH, bT, hP, nw] := K24.trans Kw37 (allS (mi 0 rfl) (allS (mi 1 rfl) (allS (mi 2 rfl) (allS (mi 3 rfl) (allS (mi 4 rfl) (allS (mi 5 rfl) (allS (mi 6 rfl) (allS (mi 7 rfl) (allS (mi 8 rfl) all0)))))))))
  obtain ⟨X_o_37, B_o_37, HL_37, ⟨k_cs_37, V_cs_37⟩, ⟨k_c0_37, V_c0_37⟩, ⟨k_bF_37, V_bF_37⟩, ⟨k_bG_37, V_bG_37⟩, ⟨k_bO_37, V_bO_37⟩, ⟨k_bH_37, V_bH_37⟩, ⟨k_bT_37, V_bT_37⟩, ⟨k_hP_37, V_hP_37⟩, ⟨k_nw_37, V_nw_37⟩⟩ := Hw37
  refine E_aloadN (pc' := 91) cx st37 d22_90 rfl rfl rfl ?_
  refine E_getfield (pc' := 94) (v := (.ref bT)) cx st37 (wd hw 54 rfl) (B_o_37.at 9 (by decide) rfl rfl) d22_91 rfl ?_
  intro T38 st38
  refine E_iloadN (pc' := 95) cx st38 d22_94 rfl rfl ?_
  refine E_aloadN (pc' := 96) cx st38 d22_95 rfl rfl rfl ?_
  refine E_getfield (pc' := 99) (v := (.int fb)) cx st38 (wd hw 56 rfl) (B_o_37.at 10 (by decide) rfl rfl) d22_96 rfl ?_
  intro T39 st39
  refine E_iastore (pc' := 100) (i := 0) cx st39 V_bT_37 ⟨by decide, by decide⟩ rfl (Nat.zero_lt_succ _) g_bT d22_99 rfl ?_
  intro T40 h40 st40 W40 V40
  have Z40 : n0 ≤ h40.size := Nat.le_trans Z37 (Keep.of_wr W40).1
  have K40 : Keep h0 h40 [o, c0, bF, bG, bO, bH, bT, hP, nw] := KKw37'.wr W40 (mi 6 rfl)
  have V40p : Arv Z h40 bT k_bT_37 .int (16 : Int32) ((.int fb) :: (.int (1 : Int32)) :: (tr.map Value.int)) (.int (0 : Int32)) := V40
  refine E_aloadN (pc' := 101) cx st40 d22_100 rfl rfl rfl ?_
  refine E_iloadN (pc' := 102) cx st40 d22_101 rfl rfl ?_
  have B41 : OL Z h40 o [(.int gt), (.ref cl), (.int (0 : Int32)), (.int eu), (.int (sz - (1 : Int32))), (.ref bF), (.ref bG), (.ref bO), (.ref bH), (.ref bT), (.int fb), (.int bu), (.long sta), (.ref hP), (.int (1 : Int32)), (.ref nw)] := (B_o_37.other W40 (nd hnd 0 8 rfl rfl))
  have X42 : Exa Z h40 o "com/example/flat_planner/flatplanner/OpenList" := (X_o_37.wr W40)
  refine E_putfield (pc' := 105) (ty := .int) cx st40 (wd hw 56 rfl) (B41.at 10 (by decide) rfl rfl) X42 (Or.inl (wd hw 57 rfl)) (wd hw 1 rfl) (by decide) rfl rfl g_o d22_102 rfl ?_
  intro T43 h43 st43 W43
  have Z43 : n0 ≤ h43.size := Nat.le_trans Z40 (Keep.of_wr W43).1
  have K43 : Keep h0 h43 [o, c0, bF, bG, bO, bH, bT, hP, nw] := K40.wr W43 (mi 0 rfl)
  have B43w : OL Z h43 o [(.int gt), (.ref cl), (.int (0 : Int32)), (.int eu), (.int (sz - (1 : Int32))), (.ref bF), (.ref bG), (.ref bO), (.ref bH), (.ref bT), (.int (0 : Int32)), (.int bu), (.long sta), (.ref hP), (.int (1 : Int32)), (.ref nw)] := B41.wr hw 10 (by decide) rfl W43 (Nat.le_of_ble_eq_true rfl)
  refine E_iloadN (pc' := 106) cx st43 d22_105 rfl rfl ?_
  have X44 : Exa Z h43 o "com/example/flat_planner/flatplanner/OpenList" := (X42.wr W43)
  have HL45 : LCF Z h43 cl cs := ((HL_37.other W40 (nd hnd 1 8 rfl rfl)).other W43 (nd hnd 1 0 rfl rfl))
  have V46 : Arv Z h43 cs k_cs_37 (.array .long) (1 : Int32) [(.ref c0)] .null := ((V_cs_37.other W40 (nd hnd 2 8 rfl rfl)).other W43 (nd hnd 2 0 rfl rfl))
  have V47 : Arv Z h43 c0 k_c0_37 .long (16 : Int32) ((.long (nxE e0 fe)) :: (.long e1) :: (er.map Value.long)) (.long (0 : Int64)) := ((V_c0_37.other W40 (nd hnd 3 8 rfl rfl)).other W43 (nd hnd 3 0 rfl rfl))
  have V48 : Arv Z h43 bF k_bF_37 .long (16 : Int32) ((.long f0) :: (.long f1) :: (fr.map Value.long)) (.long (0 : Int64)) := ((V_bF_37.other W40 (nd hnd 4 8 rfl rfl)).other W43 (nd hnd 4 0 rfl rfl))
  have V49 : Arv Z h43 bG k_bG_37 .long (16 : Int32) ((.long g0) :: (.long g1) :: (gr.map Value.long)) (.long (0 : Int64)) := ((V_bG_37.other W40 (nd hnd 5 8 rfl rfl)).other W43 (nd hnd 5 0 rfl rfl))
  have V50 : Arv Z h43 bO k_bO_37 .long (16 : Int32) ((.long q0) :: (.long q1) :: (qr.map Value.long)) (.long (0 : Int64)) := ((V_bO_37.other W40 (nd hnd 6 8 rfl rfl)).other W43 (nd hnd 6 0 rfl rfl))
  have V51 : Arv Z h43 bH k_bH_37 .int (16 : Int32) ((.int (-1 : Int32)) :: (.int (1 : Int32)) :: (dr.map Value.int)) (.int (0 : Int32)) := ((V_bH_37.other W40 (nd hnd 7 8 rfl rfl)).other W43 (nd hnd 7 0 rfl rfl))
  have V52 : Arv Z h43 bT k_bT_37 .int (16 : Int32) ((.int fb) :: (.int (1 : Int32)) :: (tr.map Value.int)) (.int (0 : Int32)) := (V40p.other W43 (nd hnd 8 0 rfl rfl))
  have V53 : Arv Z h43 hP k_hP_37 .int (16 : Int32) ((.int (1 : Int32)) :: (.int (1 : Int32)) :: (pr.map Value.int)) (.int (0 : Int32)) := ((V_hP_37.other W40 (nd hnd 9 8 rfl rfl)).other W43 (nd hnd 9 0 rfl rfl))
  have V54 : Arv Z h43 nw k_nw_37 .int (32 : Int32) (ns.map Value.int) (.int (0 : Int32)) := ((V_nw_37.other W40 (nd hnd 10 8 rfl rfl)).other W43 (nd hnd 10 0 rfl rfl))
  refine E_ireturn (t := .int) cx st43 d22_106 rfl (by simp) rfl (by decide) (by decide) ?_
  exact ⟨rfl, K43, ⟨X44, B43w, HL45, ⟨_, V46⟩, ⟨_, V47⟩, ⟨_, V48⟩, ⟨_, V49⟩, ⟨_, V50⟩, ⟨_, V51⟩, ⟨_, V52⟩, ⟨_, V53⟩, ⟨_, V54⟩⟩⟩
theorem ef_popB20 (m : MethodId) (x0 : Addr) : entryFrame m #[(.ref x0)] 4 = mkF m 0 #[.val (.ref x0), .unset, .unset, .unset] [] := by first | (simp [entryFrame, mkF, argsToLocals, Value.category]; done) | rfl
set_option maxRecDepth 65536 in
set_option maxHeartbeats 40000000 in
theorem rmpopB20 (l : Launch) (Z : State) (a0 : Array Value) (hw : ∀ d ∈ tables_1, d.before a0 Z = true) (o : Addr) (cl : Addr) (cs : Addr) (c0 : Addr) (bF : Addr) (bG : Addr) (bO : Addr) (bH : Addr) (bT : Addr) (hP : Addr) (nw : Addr) (h0 : Heap) (n0 : Nat) (Z0 : n0 ≤ h0.size) (gt : Int32) (fe : Int32) (eu : Int32) (sz : Int32) (fb : Int32) (bu : Int32) (sta : Int64) (e0 : Int64) (e1 : Int64) (er : List Int64) (f0 : Int64) (f1 : Int64) (fr : List Int64) (g0 : Int64) (g1 : Int64) (gr : List Int64) (q0 : Int64) (q1 : Int64) (qr : List Int64) (d1 : Int32) (dr : List Int32) (t1 : Int32) (tr : List Int32) (p1 : Int32) (pr : List Int32) (ns : List Int32) (hnd : [o, cl, cs, c0, bF, bG, bO, bH, bT, hP, nw].Nodup) (hge : ∀ a ∈ [o, cl, cs, c0, bF, bG, bO, bH, bT, hP, nw], n0 ≤ a) (H0 : Wd Z h0 o cl cs c0 bF bG bO bH bT hP nw gt fe eu sz fb bu (1 : Int32) sta e0 e1 er f0 f1 fr g0 g1 gr q0 q1 qr (0 : Int32) d1 dr (0 : Int32) t1 tr (0 : Int32) p1 pr ns)  :
    Con l Z (⟨"com/example/flat_planner/flatplanner/OpenList", "pop", "()I"⟩ : MethodName) prog_16_method_7_code 4 (some .int) ({ frames := 3, cells := 0, slots := 0, locals := 43 } : Room) #[(.ref o)] h0 n0 (fun v h => v = some (.int (hiV e0)) ∧ Keep h0 h [o, c0, bF, bG, bO, bH, bT, hP, nw] ∧ Wd Z h o cl cs c0 bF bG bO bH bT hP nw gt (0 : Int32) eu (sz - (1 : Int32)) (0 : Int32) bu (0 : Int32) sta (nxE e0 fe) e1 er f0 f1 fr g0 g1 gr q0 q1 qr (-1 : Int32) d1 dr fb t1 tr (0 : Int32) p1 pr ns) := by
  refine Con.of (own := "com/example/flat_planner/flatplanner/OpenList") (name := "pop") (plainFor_of_name pn_3) (fun m => ef_popB20 m o) rfl rfl ?_
  intro p e s m below meth c T F S cx st
  have g_o : n0 ≤ o := hge o (by simp)
  have g_c0 : n0 ≤ c0 := hge c0 (by simp)
  have g_bF : n0 ≤ bF := hge bF (by simp)
  have g_bG : n0 ≤ bG := hge bG (by simp)
  have g_bO : n0 ≤ bO := hge bO (by simp)
  have g_bH : n0 ≤ bH := hge bH (by simp)
  have g_bT : n0 ≤ bT := hge bT (by simp)
  have g_hP : n0 ≤ hP := hge hP (by simp)
  have g_nw : n0 ≤ nw := hge nw (by simp)
  obtain ⟨X_o, B_o, HL, ⟨k_cs, V_cs⟩, ⟨k_c0, V_c0⟩, ⟨k_bF, V_bF⟩, ⟨k_bG, V_bG⟩, ⟨k_bO, V_bO⟩, ⟨k_bH, V_bH⟩, ⟨k_bT, V_bT⟩, ⟨k_hP, V_hP⟩, ⟨k_nw, V_nw⟩⟩ := H0
  refine E_aloadN (pc' := 1) cx st d22_0 rfl rfl rfl ?_
  refine E_getfield (pc' := 4) (v := (.ref hP)) cx st (wd hw 58 rfl) (B_o.at 13 (by decide) rfl rfl) d22_1 rfl ?_
  intro T1 st1
  refine E_iconst (pc' := 5) cx st1 (0 : Int32) d22_4 rfl rfl ?_
  refine E_iaload (pc' := 6) (x := (0 : Int32)) cx st1 V_hP ⟨by decide, by decide⟩ rfl d22_5 rfl ?_
  refine E_istoreN (pc' := 7) (L' := #[.val (.ref o), .val (.int (0 : Int32)), .unset, .unset]) cx st1 d22_6 rfl rfl ?_
  refine E_aloadN (pc' := 8) cx st1 d22_7 rfl rfl rfl ?_
  refine E_getfield (pc' := 11) (v := (.ref bH)) cx st1 (wd hw 52 rfl) (B_o.at 8 (by decide) rfl rfl) d22_8 rfl ?_
  intro T2 st2
  refine E_iloadN (pc' := 12) cx st2 d22_11 rfl rfl ?_
  refine E_iaload (pc' := 13) (x := (0 : Int32)) cx st2 V_bH ⟨by decide, by decide⟩ rfl d22_12 rfl ?_
  refine E_istoreN (pc' := 14) (L' := #[.val (.ref o), .val (.int (0 : Int32)), .val (.int (0 : Int32)), .unset]) cx st2 d22_13 rfl rfl ?_
  refine E_aloadN (pc' := 15) cx st2 d22_14 rfl rfl rfl ?_
  refine E_getfield (pc' := 18) (v := (.ref cl)) cx st2 (wd hw 41 rfl) (B_o.at 1 (by decide) rfl rfl) d22_15 rfl ?_
  intro T3 st3
  refine E_iloadN (pc' := 19) cx st3 d22_18 rfl rfl ?_
  refine E_callV (pc' := 22) (kc' := 0) (ks' := 0) (W := 0) (a := cl) (argsL := [(.int (0 : Int32))]) cx st3 [] (rmget0 l Z a0 hw cl cs c0 e0 e1 h0 n0 Z0 k_cs k_c0 er HL V_cs V_c0) HL.1 (wd hw 149 rfl) (wd hw 150 rfl) (wd hw 152 rfl) (wd hw 151 rfl) (wd hw 11 rfl) (wd hw 153 rfl) d22_19 rfl rfl (lenOf pd_5 rfl) (Nat.le_of_eq rfl) (by decide) (by decide) (by decide) (by decide) (by decide) (by decide) (by decide) rfl ?_
  intro v4 T4 h4 st4 hq4
  obtain ⟨rfl, hh4⟩ := hq4
  rw [hh4] at st4
  refine E_bipush (pc' := 24) cx st4 (32 : Int32) d22_22 rfl rfl ?_
  refine E_lshr (pc' := 25) cx st4 d22_24 rfl ?_
  refine E_l2i (pc' := 26) cx st4 d22_25 rfl ?_
  refine E_istoreN (pc' := 27) (L' := #[.val (.ref o), .val (.int (0 : Int32)), .val (.int (0 : Int32)), .val (.int ((e0 >>> ((32 : Int32) &&& 0x3f).toInt64).toInt32))]) cx st4 d22_26 rfl rfl ?_
  refine E_aloadN (pc' := 28) cx st4 d22_27 rfl rfl rfl ?_
  refine E_getfield (pc' := 31) (v := (.ref bH)) cx st4 (wd hw 52 rfl) (B_o.at 8 (by decide) rfl rfl) d22_28 rfl ?_
  intro T5 st5
  refine E_iloadN (pc' := 32) cx st5 d22_31 rfl rfl ?_
  refine E_iloadN (pc' := 33) cx st5 d22_32 rfl rfl ?_
  refine E_aloadN (pc' := 34) cx st5 d22_33 rfl rfl rfl ?_
  refine E_getfield (pc' := 37) (v := (.ref bT)) cx st5 (wd hw 54 rfl) (B_o.at 9 (by decide) rfl rfl) d22_34 rfl ?_
  intro T6 st6
  refine E_iloadN (pc' := 38) cx st6 d22_37 rfl rfl ?_
  refine E_iaload (pc' := 39) (x := (0 : Int32)) cx st6 V_bT ⟨by decide, by decide⟩ rfl d22_38 rfl ?_
  refine E_icmp_neN (pc' := 42) cx st6 d22_39 rfl rfl ?_
  refine E_iconst (pc' := 43) cx st6 (-1 : Int32) d22_42 rfl rfl ?_
  refine E_goto (pc' := 51) cx st6 d22_43 (by decide) (by decide) ?_
  refine E_iastore (pc' := 52) (i := 0) cx st6 V_bH ⟨by decide, by decide⟩ rfl (Nat.zero_lt_succ _) g_bH d22_51 rfl ?_
  intro T7 h7 st7 W7 V7
  have Z7 : n0 ≤ h7.size := Nat.le_trans Z0 (Keep.of_wr W7).1
  have K7 : Keep h0 h7 [o, c0, bF, bG, bO, bH, bT, hP, nw] := (Keep.refl h0 [o, c0, bF, bG, bO, bH, bT, hP, nw]).wr W7 (mi 5 rfl)
  have V7p : Arv Z h7 bH k_bH .int (16 : Int32) ((.int (-1 : Int32)) :: (.int d1) :: (dr.map Value.int)) (.int (0 : Int32)) := V7
  refine E_aloadN (pc' := 53) cx st7 d22_52 rfl rfl rfl ?_
  refine E_iloadN (pc' := 54) cx st7 d22_53 rfl rfl ?_
  refine E_aloadN (pc' := 55) cx st7 d22_54 rfl rfl rfl ?_
  have B9 : OL Z h7 o [(.int gt), (.ref cl), (.int fe), (.int eu), (.int sz), (.ref bF), (.ref bG), (.ref bO), (.ref bH), (.ref bT), (.int fb), (.int bu), (.long sta), (.ref hP), (.int (1 : Int32)), (.ref nw)] := (B_o.other W7 (nd hnd 0 7 rfl rfl))
  refine E_getfield (pc' := 58) (v := (.int fe)) cx st7 (wd hw 43 rfl) (B9.at 2 (by decide) rfl rfl) d22_55 rfl ?_
  intro T8 st8
  have X10 : Exa Z h7 o "com/example/flat_planner/flatplanner/OpenList" := (X_o.wr W7)
  have HL11 : LCF Z h7 cl cs := (HL.other W7 (nd hnd 1 7 rfl rfl))
  have V12 : Arv Z h7 cs k_cs (.array .long) (1 : Int32) [(.ref c0)] .null := (V_cs.other W7 (nd hnd 2 7 rfl rfl))
  have V13 : Arv Z h7 c0 k_c0 .long (16 : Int32) ((.long e0) :: (.long e1) :: (er.map Value.long)) (.long (0 : Int64)) := (V_c0.other W7 (nd hnd 3 7 rfl rfl))
  have V14 : Arv Z h7 bF k_bF .long (16 : Int32) ((.long f0) :: (.long f1) :: (fr.map Value.long)) (.long (0 : Int64)) := (V_bF.other W7 (nd hnd 4 7 rfl rfl))
  have V15 : Arv Z h7 bG k_bG .long (16 : Int32) ((.long g0) :: (.long g1) :: (gr.map Value.long)) (.long (0 : Int64)) := (V_bG.other W7 (nd hnd 5 7 rfl rfl))
  have V16 : Arv Z h7 bO k_bO .long (16 : Int32) ((.long q0) :: (.long q1) :: (qr.map Value.long)) (.long (0 : Int64)) := (V_bO.other W7 (nd hnd 6 7 rfl rfl))
  have V17 : Arv Z h7 bT k_bT .int (16 : Int32) ((.int (0 : Int32)) :: (.int t1) :: (tr.map Value.int)) (.int (0 : Int32)) := (V_bT.other W7 (nd hnd 8 7 rfl rfl))
  have V18 : Arv Z h7 hP k_hP .int (16 : Int32) ((.int (0 : Int32)) :: (.int p1) :: (pr.map Value.int)) (.int (0 : Int32)) := (V_hP.other W7 (nd hnd 9 7 rfl rfl))
  have V19 : Arv Z h7 nw k_nw .int (32 : Int32) (ns.map Value.int) (.int (0 : Int32)) := (V_nw.other W7 (nd hnd 10 7 rfl rfl))
  refine E_callP (pc' := 61) (kc' := 0) (ks' := 0) (W := 0) (a := o) (argsL := [(.int (0 : Int32)), (.int fe)]) cx st8 [] (rmsetNext0 l Z a0 hw o cl cs c0 bF bG bO bH bT hP nw h7 n0 Z7 gt fe eu sz fb bu sta (1 : Int32) e0 e1 er f0 f1 fr g0 g1 gr q0 q1 qr (-1 : Int32) d1 dr (0 : Int32) t1 tr (0 : Int32) p1 pr ns fe hnd hge ⟨X10, B9, HL11, ⟨_, V12⟩, ⟨_, V13⟩, ⟨_, V14⟩, ⟨_, V15⟩, ⟨_, V16⟩, ⟨_, V7p⟩, ⟨_, V17⟩, ⟨_, V18⟩, ⟨_, V19⟩⟩ ) X10 (wd hw 154 rfl) (wd hw 156 rfl) (wd hw 1 rfl) (wd hw 155 rfl) (wd hw 2 rfl) (wd hw 157 rfl) d22_58 rfl rfl (lenOf pd_9 rfl) (Nat.le_of_eq rfl) (by decide) (by decide) (by decide) (by decide) (by decide) (by decide) (by decide) rfl ?_
  intro v20 T20 h20 st20 hq20
  obtain ⟨rfl, Kw20, Hw20⟩ := hq20
  have Z20 : n0 ≤ h20.size := Nat.le_trans Z7 Kw20.1
  have KKw20' : Keep h0 h20 [o, c0, bF, bG, bO, bH, bT, hP, nw] := K7.trans Kw20 (allS (mi 0 rfl) (allS (mi 1 rfl) (allS (mi 2 rfl) (allS (mi 3 rfl) (allS (mi 4 rfl) (allS (mi 5 rfl) (allS (mi 6 rfl) (allS (mi 7 rfl) (allS (mi 8 rfl) all0)))))))))
  obtain ⟨X_o_20, B_o_20, HL_20, ⟨k_cs_20, V_cs_20⟩, ⟨k_c0_20, V_c0_20⟩, ⟨k_bF_20, V_bF_20⟩, ⟨k_bG_20, V_bG_20⟩, ⟨k_bO_20, V_bO_20⟩, ⟨k_bH_20, V_bH_20⟩, ⟨k_bT_20, V_bT_20⟩, ⟨k_hP_20, V_hP_20⟩, ⟨k_nw_20, V_nw_20⟩⟩ := Hw20
  refine E_aloadN (pc' := 62) cx st20 d22_61 rfl rfl rfl ?_
  refine E_iloadN (pc' := 63) cx st20 d22_62 rfl rfl ?_
  refine E_putfield (pc' := 66) (ty := .int) cx st20 (wd hw 43 rfl) (B_o_20.at 2 (by decide) rfl rfl) X_o_20 (Or.inl (wd hw 44 rfl)) (wd hw 1 rfl) (by decide) rfl rfl g_o d22_63 rfl ?_
  intro T21 h21 st21 W21
  have Z21 : n0 ≤ h21.size := Nat.le_trans Z20 (Keep.of_wr W21).1
  have K21 : Keep h0 h21 [o, c0, bF, bG, bO, bH, bT, hP, nw] := KKw20'.wr W21 (mi 0 rfl)
  have B21w : OL Z h21 o [(.int gt), (.ref cl), (.int (0 : Int32)), (.int eu), (.int sz), (.ref bF), (.ref bG), (.ref bO), (.ref bH), (.ref bT), (.int fb), (.int bu), (.long sta), (.ref hP), (.int (1 : Int32)), (.ref nw)] := B_o_20.wr hw 2 (by decide) rfl W21 (Nat.le_of_ble_eq_true rfl)
  refine E_aloadN (pc' := 67) cx st21 d22_66 rfl rfl rfl ?_
  refine E_dup (pc' := 68) cx st21 d22_67 rfl rfl ?_
  refine E_getfield (pc' := 71) (v := (.int sz)) cx st21 (wd hw 118 rfl) (B21w.at 4 (by decide) rfl rfl) d22_68 rfl ?_
  intro T22 st22
  refine E_iconst (pc' := 72) cx st22 (1 : Int32) d22_71 rfl rfl ?_
  refine E_isub (pc' := 73) cx st22 d22_72 rfl ?_
  have X23 : Exa Z h21 o "com/example/flat_planner/flatplanner/OpenList" := (X_o_20.wr W21)
  refine E_putfield (pc' := 76) (ty := .int) cx st22 (wd hw 118 rfl) (B21w.at 4 (by decide) rfl rfl) X23 (Or.inl (wd hw 119 rfl)) (wd hw 1 rfl) (by decide) rfl rfl g_o d22_73 rfl ?_
  intro T24 h24 st24 W24
  have Z24 : n0 ≤ h24.size := Nat.le_trans Z21 (Keep.of_wr W24).1
  have K24 : Keep h0 h24 [o, c0, bF, bG, bO, bH, bT, hP, nw] := K21.wr W24 (mi 0 rfl)
  have B24w : OL Z h24 o [(.int gt), (.ref cl), (.int (0 : Int32)), (.int eu), (.int (sz - (1 : Int32))), (.ref bF), (.ref bG), (.ref bO), (.ref bH), (.ref bT), (.int fb), (.int bu), (.long sta), (.ref hP), (.int (1 : Int32)), (.ref nw)] := B21w.wr hw 4 (by decide) rfl W24 (Nat.le_of_ble_eq_true rfl)
  refine E_aloadN (pc' := 77) cx st24 d22_76 rfl rfl rfl ?_
  refine E_getfield (pc' := 80) (v := (.ref bH)) cx st24 (wd hw 52 rfl) (B24w.at 8 (by decide) rfl rfl) d22_77 rfl ?_
  intro T25 st25
  refine E_iloadN (pc' := 81) cx st25 d22_80 rfl rfl ?_
  have V26 : Arv Z h24 bH k_bH_20 .int (16 : Int32) ((.int (-1 : Int32)) :: (.int d1) :: (dr.map Value.int)) (.int (0 : Int32)) := ((V_bH_20.other W21 (nd hnd 7 0 rfl rfl)).other W24 (nd hnd 7 0 rfl rfl))
  refine E_iaload (pc' := 82) (x := (-1 : Int32)) cx st25 V26 ⟨by decide, by decide⟩ rfl d22_81 rfl ?_
  refine E_iconst (pc' := 83) cx st25 (-1 : Int32) d22_82 rfl rfl ?_
  refine E_icmp_neN (pc' := 86) cx st25 d22_83 rfl rfl ?_
  refine E_aloadN (pc' := 87) cx st25 d22_86 rfl rfl rfl ?_
  have X27 : Exa Z h24 o "com/example/flat_planner/flatplanner/OpenList" := (X23.wr W24)
  have HL28 : LCF Z h24 cl cs := ((HL_20.other W21 (nd hnd 1 0 rfl rfl)).other W24 (nd hnd 1 0 rfl rfl))
  have V29 : Arv Z h24 cs k_cs_20 (.array .long) (1 : Int32) [(.ref c0)] .null := ((V_cs_20.other W21 (nd hnd 2 0 rfl rfl)).other W24 (nd hnd 2 0 rfl rfl))
  have V30 : Arv Z h24 c0 k_c0_20 .long (16 : Int32) ((.long (nxE e0 fe)) :: (.long e1) :: (er.map Value.long)) (.long (0 : Int64)) := ((V_c0_20.other W21 (nd hnd 3 0 rfl rfl)).other W24 (nd hnd 3 0 rfl rfl))
  have V31 : Arv Z h24 bF k_bF_20 .long (16 : Int32) ((.long f0) :: (.long f1) :: (fr.map Value.long)) (.long (0 : Int64)) := ((V_bF_20.other W21 (nd hnd 4 0 rfl rfl)).other W24 (nd hnd 4 0 rfl rfl))
  have V32 : Arv Z h24 bG k_bG_20 .long (16 : Int32) ((.long g0) :: (.long g1) :: (gr.map Value.long)) (.long (0 : Int64)) := ((V_bG_20.other W21 (nd hnd 5 0 rfl rfl)).other W24 (nd hnd 5 0 rfl rfl))
  have V33 : Arv Z h24 bO k_bO_20 .long (16 : Int32) ((.long q0) :: (.long q1) :: (qr.map Value.long)) (.long (0 : Int64)) := ((V_bO_20.other W21 (nd hnd 6 0 rfl rfl)).other W24 (nd hnd 6 0 rfl rfl))
  have V34 : Arv Z h24 bT k_bT_20 .int (16 : Int32) ((.int (0 : Int32)) :: (.int t1) :: (tr.map Value.int)) (.int (0 : Int32)) := ((V_bT_20.other W21 (nd hnd 8 0 rfl rfl)).other W24 (nd hnd 8 0 rfl rfl))
  have V35 : Arv Z h24 hP k_hP_20 .int (16 : Int32) ((.int (0 : Int32)) :: (.int p1) :: (pr.map Value.int)) (.int (0 : Int32)) := ((V_hP_20.other W21 (nd hnd 9 0 rfl rfl)).other W24 (nd hnd 9 0 rfl rfl))
  have V36 : Arv Z h24 nw k_nw_20 .int (32 : Int32) (ns.map Value.int) (.int (0 : Int32)) := ((V_nw_20.other W21 (nd hnd 10 0 rfl rfl)).other W24 (nd hnd 10 0 rfl rfl))
  refine E_callP (pc' := 90) (kc' := 0) (ks' := 0) (W := 0) (a := o) (argsL := []) cx st25 [] (rmheapPop1 l Z a0 hw o cl cs c0 bF bG bO bH bT hP nw h24 n0 Z24 gt (0 : Int32) eu (sz - (1 : Int32)) fb bu sta (nxE e0 fe) e1 er f0 f1 fr g0 g1 gr q0 q1 qr (-1 : Int32) d1 dr (0 : Int32) t1 tr (0 : Int32) p1 pr ns hnd hge ⟨X27, B24w, HL28, ⟨_, V29⟩, ⟨_, V30⟩, ⟨_, V31⟩, ⟨_, V32⟩, ⟨_, V33⟩, ⟨_, V26⟩, ⟨_, V34⟩, ⟨_, V35⟩, ⟨_, V36⟩⟩ ) X27 (wd hw 160 rfl) (wd hw 162 rfl) (wd hw 1 rfl) (wd hw 161 rfl) (wd hw 2 rfl) (wd hw 163 rfl) d22_87 rfl rfl (lenOf pd_10 rfl) (Nat.le_of_eq rfl) (by decide) (by decide) (by decide) (by decide) (by decide) (by decide) (by decide) rfl ?_
  intro v37 T37 h37 st37 hq37
  obtain ⟨rfl, Kw37, Hw37⟩ := hq37
  have Z37 : n0 ≤ h37.size := Nat.le_trans Z24 Kw37.1
  have KKw37' : Keep h0 h37 [o, c0, bF, bG, bO, bH, bT, hP, nw] := K24.trans Kw37 (allS (mi 0 rfl) (allS (mi 1 rfl) (allS (mi 2 rfl) (allS (mi 3 rfl) (allS (mi 4 rfl) (allS (mi 5 rfl) (allS (mi 6 rfl) (allS (mi 7 rfl) (allS (mi 8 rfl) all0)))))))))
  obtain ⟨X_o_37, B_o_37, HL_37, ⟨k_cs_37, V_cs_37⟩, ⟨k_c0_37, V_c0_37⟩, ⟨k_bF_37, V_bF_37⟩, ⟨k_bG_37, V_bG_37⟩, ⟨k_bO_37, V_bO_37⟩, ⟨k_bH_37, V_bH_37⟩, ⟨k_bT_37, V_bT_37⟩, ⟨k_hP_37, V_hP_37⟩, ⟨k_nw_37, V_nw_37⟩⟩ := Hw37
  refine E_aloadN (pc' := 91) cx st37 d22_90 rfl rfl rfl ?_
  refine E_getfield (pc' := 94) (v := (.ref bT)) cx st37 (wd hw 54 rfl) (B_o_37.at 9 (by decide) rfl rfl) d22_91 rfl ?_
  intro T38 st38
  refine E_iloadN (pc' := 95) cx st38 d22_94 rfl rfl ?_
  refine E_aloadN (pc' := 96) cx st38 d22_95 rfl rfl rfl ?_
  refine E_getfield (pc' := 99) (v := (.int fb)) cx st38 (wd hw 56 rfl) (B_o_37.at 10 (by decide) rfl rfl) d22_96 rfl ?_
  intro T39 st39
  refine E_iastore (pc' := 100) (i := 0) cx st39 V_bT_37 ⟨by decide, by decide⟩ rfl (Nat.zero_lt_succ _) g_bT d22_99 rfl ?_
  intro T40 h40 st40 W40 V40
  have Z40 : n0 ≤ h40.size := Nat.le_trans Z37 (Keep.of_wr W40).1
  have K40 : Keep h0 h40 [o, c0, bF, bG, bO, bH, bT, hP, nw] := KKw37'.wr W40 (mi 6 rfl)
  have V40p : Arv Z h40 bT k_bT_37 .int (16 : Int32) ((.int fb) :: (.int t1) :: (tr.map Value.int)) (.int (0 : Int32)) := V40
  refine E_aloadN (pc' := 101) cx st40 d22_100 rfl rfl rfl ?_
  refine E_iloadN (pc' := 102) cx st40 d22_101 rfl rfl ?_
  have B41 : OL Z h40 o [(.int gt), (.ref cl), (.int (0 : Int32)), (.int eu), (.int (sz - (1 : Int32))), (.ref bF), (.ref bG), (.ref bO), (.ref bH), (.ref bT), (.int fb), (.int bu), (.long sta), (.ref hP), (.int (0 : Int32)), (.ref nw)] := (B_o_37.other W40 (nd hnd 0 8 rfl rfl))
  have X42 : Exa Z h40 o "com/example/flat_planner/flatplanner/OpenList" := (X_o_37.wr W40)
  refine E_putfield (pc' := 105) (ty := .int) cx st40 (wd hw 56 rfl) (B41.at 10 (by decide) rfl rfl) X42 (Or.inl (wd hw 57 rfl)) (wd hw 1 rfl) (by decide) rfl rfl g_o d22_102 rfl ?_
  intro T43 h43 st43 W43
  have Z43 : n0 ≤ h43.size := Nat.le_trans Z40 (Keep.of_wr W43).1
  have K43 : Keep h0 h43 [o, c0, bF, bG, bO, bH, bT, hP, nw] := K40.wr W43 (mi 0 rfl)
  have B43w : OL Z h43 o [(.int gt), (.ref cl), (.int (0 : Int32)), (.int eu), (.int (sz - (1 : Int32))), (.ref bF), (.ref bG), (.ref bO), (.ref bH), (.ref bT), (.int (0 : Int32)), (.int bu), (.long sta), (.ref hP), (.int (0 : Int32)), (.ref nw)] := B41.wr hw 10 (by decide) rfl W43 (Nat.le_of_ble_eq_true rfl)
  refine E_iloadN (pc' := 106) cx st43 d22_105 rfl rfl ?_
  have X44 : Exa Z h43 o "com/example/flat_planner/flatplanner/OpenList" := (X42.wr W43)
  have HL45 : LCF Z h43 cl cs := ((HL_37.other W40 (nd hnd 1 8 rfl rfl)).other W43 (nd hnd 1 0 rfl rfl))
  have V46 : Arv Z h43 cs k_cs_37 (.array .long) (1 : Int32) [(.ref c0)] .null := ((V_cs_37.other W40 (nd hnd 2 8 rfl rfl)).other W43 (nd hnd 2 0 rfl rfl))
  have V47 : Arv Z h43 c0 k_c0_37 .long (16 : Int32) ((.long (nxE e0 fe)) :: (.long e1) :: (er.map Value.long)) (.long (0 : Int64)) := ((V_c0_37.other W40 (nd hnd 3 8 rfl rfl)).other W43 (nd hnd 3 0 rfl rfl))
  have V48 : Arv Z h43 bF k_bF_37 .long (16 : Int32) ((.long f0) :: (.long f1) :: (fr.map Value.long)) (.long (0 : Int64)) := ((V_bF_37.other W40 (nd hnd 4 8 rfl rfl)).other W43 (nd hnd 4 0 rfl rfl))
  have V49 : Arv Z h43 bG k_bG_37 .long (16 : Int32) ((.long g0) :: (.long g1) :: (gr.map Value.long)) (.long (0 : Int64)) := ((V_bG_37.other W40 (nd hnd 5 8 rfl rfl)).other W43 (nd hnd 5 0 rfl rfl))
  have V50 : Arv Z h43 bO k_bO_37 .long (16 : Int32) ((.long q0) :: (.long q1) :: (qr.map Value.long)) (.long (0 : Int64)) := ((V_bO_37.other W40 (nd hnd 6 8 rfl rfl)).other W43 (nd hnd 6 0 rfl rfl))
  have V51 : Arv Z h43 bH k_bH_37 .int (16 : Int32) ((.int (-1 : Int32)) :: (.int d1) :: (dr.map Value.int)) (.int (0 : Int32)) := ((V_bH_37.other W40 (nd hnd 7 8 rfl rfl)).other W43 (nd hnd 7 0 rfl rfl))
  have V52 : Arv Z h43 bT k_bT_37 .int (16 : Int32) ((.int fb) :: (.int t1) :: (tr.map Value.int)) (.int (0 : Int32)) := (V40p.other W43 (nd hnd 8 0 rfl rfl))
  have V53 : Arv Z h43 hP k_hP_37 .int (16 : Int32) ((.int (0 : Int32)) :: (.int p1) :: (pr.map Value.int)) (.int (0 : Int32)) := ((V_hP_37.other W40 (nd hnd 9 8 rfl rfl)).other W43 (nd hnd 9 0 rfl rfl))
  have V54 : Arv Z h43 nw k_nw_37 .int (32 : Int32) (ns.map Value.int) (.int (0 : Int32)) := ((V_nw_37.other W40 (nd hnd 10 8 rfl rfl)).other W43 (nd hnd 10 0 rfl rfl))
  refine E_ireturn (t := .int) cx st43 d22_106 rfl (by simp) rfl (by decide) (by decide) ?_
  exact ⟨rfl, K43, ⟨X44, B43w, HL45, ⟨_, V46⟩, ⟨_, V47⟩, ⟨_, V48⟩, ⟨_, V49⟩, ⟨_, V50⟩, ⟨_, V51⟩, ⟨_, V52⟩, ⟨_, V53⟩, ⟨_, V54⟩⟩⟩
theorem ef_popB11 (m : MethodId) (x0 : Addr) : entryFrame m #[(.ref x0)] 4 = mkF m 0 #[.val (.ref x0), .unset, .unset, .unset] [] := by first | (simp [entryFrame, mkF, argsToLocals, Value.category]; done) | rfl
set_option maxRecDepth 65536 in
set_option maxHeartbeats 40000000 in
theorem rmpopB11 (l : Launch) (Z : State) (a0 : Array Value) (hw : ∀ d ∈ tables_1, d.before a0 Z = true) (o : Addr) (cl : Addr) (cs : Addr) (c0 : Addr) (bF : Addr) (bG : Addr) (bO : Addr) (bH : Addr) (bT : Addr) (hP : Addr) (nw : Addr) (h0 : Heap) (n0 : Nat) (Z0 : n0 ≤ h0.size) (gt : Int32) (fe : Int32) (eu : Int32) (sz : Int32) (fb : Int32) (bu : Int32) (sta : Int64) (e0 : Int64) (e1 : Int64) (er : List Int64) (f0 : Int64) (f1 : Int64) (fr : List Int64) (g0 : Int64) (g1 : Int64) (gr : List Int64) (q0 : Int64) (q1 : Int64) (qr : List Int64) (dr : List Int32) (tr : List Int32) (pr : List Int32) (ns : List Int32) (hnd : [o, cl, cs, c0, bF, bG, bO, bH, bT, hP, nw].Nodup) (hge : ∀ a ∈ [o, cl, cs, c0, bF, bG, bO, bH, bT, hP, nw], n0 ≤ a) (H0 : Wd Z h0 o cl cs c0 bF bG bO bH bT hP nw gt fe eu sz fb bu (2 : Int32) sta e0 e1 er f0 f1 fr g0 g1 gr q0 q1 qr (0 : Int32) (1 : Int32) dr (0 : Int32) (1 : Int32) tr (1 : Int32) (0 : Int32) pr ns)  :
    Con l Z (⟨"com/example/flat_planner/flatplanner/OpenList", "pop", "()I"⟩ : MethodName) prog_16_method_7_code 4 (some .int) ({ frames := 3, cells := 0, slots := 0, locals := 43 } : Room) #[(.ref o)] h0 n0 (fun v h => v = some (.int (hiV e1)) ∧ Keep h0 h [o, c0, bF, bG, bO, bH, bT, hP, nw] ∧ Wd Z h o cl cs c0 bF bG bO bH bT hP nw gt (1 : Int32) eu (sz - (1 : Int32)) (1 : Int32) bu (1 : Int32) sta e0 (nxE e1 fe) er f0 f1 fr g0 g1 gr q0 q1 qr (0 : Int32) (-1 : Int32) dr (0 : Int32) fb tr (0 : Int32) (0 : Int32) pr ns) := by
  refine Con.of (own := "com/example/flat_planner/flatplanner/OpenList") (name := "pop") (plainFor_of_name pn_3) (fun m => ef_popB11 m o) rfl rfl ?_
  intro p e s m below meth c T F S cx st
  have g_o : n0 ≤ o := hge o (by simp)
  have g_c0 : n0 ≤ c0 := hge c0 (by simp)
  have g_bF : n0 ≤ bF := hge bF (by simp)
  have g_bG : n0 ≤ bG := hge bG (by simp)
  have g_bO : n0 ≤ bO := hge bO (by simp)
  have g_bH : n0 ≤ bH := hge bH (by simp)
  have g_bT : n0 ≤ bT := hge bT (by simp)
  have g_hP : n0 ≤ hP := hge hP (by simp)
  have g_nw : n0 ≤ nw := hge nw (by simp)
  obtain ⟨X_o, B_o, HL, ⟨k_cs, V_cs⟩, ⟨k_c0, V_c0⟩, ⟨k_bF, V_bF⟩, ⟨k_bG, V_bG⟩, ⟨k_bO, V_bO⟩, ⟨k_bH, V_bH⟩, ⟨k_bT, V_bT⟩, ⟨k_hP, V_hP⟩, ⟨k_nw, V_nw⟩⟩ := H0
  refine E_aloadN (pc' := 1) cx st d22_0 rfl rfl rfl ?_
  refine E_getfield (pc' := 4) (v := (.ref hP)) cx st (wd hw 58 rfl) (B_o.at 13 (by decide) rfl rfl) d22_1 rfl ?_
  intro T1 st1
  refine E_iconst (pc' := 5) cx st1 (0 : Int32) d22_4 rfl rfl ?_
  refine E_iaload (pc' := 6) (x := (1 : Int32)) cx st1 V_hP ⟨by decide, by decide⟩ rfl d22_5 rfl ?_
  refine E_istoreN (pc' := 7) (L' := #[.val (.ref o), .val (.int (1 : Int32)), .unset, .unset]) cx st1 d22_6 rfl rfl ?_
  refine E_aloadN (pc' := 8) cx st1 d22_7 rfl rfl rfl ?_
  refine E_getfield (pc' := 11) (v := (.ref bH)) cx st1 (wd hw 52 rfl) (B_o.at 8 (by decide) rfl rfl) d22_8 rfl ?_
  intro T2 st2
  refine E_iloadN (pc' := 12) cx st2 d22_11 rfl rfl ?_
  refine E_iaload (pc' := 13) (x := (1 : Int32)) cx st2 V_bH ⟨by decide, by decide⟩ rfl d22_12 rfl ?_
  refine E_istoreN (pc' := 14) (L' := #[.val (.ref o), .val (.int (1 : Int32)), .val (.int (1 : Int32)), .unset]) cx st2 d22_13 rfl rfl ?_
  refine E_aloadN (pc' := 15) cx st2 d22_14 rfl rfl rfl ?_
  refine E_getfield (pc' := 18) (v := (.ref cl)) cx st2 (wd hw 41 rfl) (B_o.at 1 (by decide) rfl rfl) d22_15 rfl ?_
  intro T3 st3
  refine E_iloadN (pc' := 19) cx st3 d22_18 rfl rfl ?_
  refine E_callV (pc' := 22) (kc' := 0) (ks' := 0) (W := 0) (a := cl) (argsL := [(.int (1 : Int32))]) cx st3 [] (rmget1 l Z a0 hw cl cs c0 e0 e1 h0 n0 Z0 k_cs k_c0 er HL V_cs V_c0) HL.1 (wd hw 149 rfl) (wd hw 150 rfl) (wd hw 152 rfl) (wd hw 151 rfl) (wd hw 11 rfl) (wd hw 153 rfl) d22_19 rfl rfl (lenOf pd_5 rfl) (Nat.le_of_eq rfl) (by decide) (by decide) (by decide) (by decide) (by decide) (by decide) (by decide) rfl ?_
  intro v4 T4 h4 st4 hq4
  obtain ⟨rfl, hh4⟩ := hq4
  rw [hh4] at st4
  refine E_bipush (pc' := 24) cx st4 (32 : Int32) d22_22 rfl rfl ?_
  refine E_lshr (pc' := 25) cx st4 d22_24 rfl ?_
  refine E_l2i (pc' := 26) cx st4 d22_25 rfl ?_
  refine E_istoreN (pc' := 27) (L' := #[.val (.ref o), .val (.int (1 : Int32)), .val (.int (1 : Int32)), .val (.int ((e1 >>> ((32 : Int32) &&& 0x3f).toInt64).toInt32))]) cx st4 d22_26 rfl rfl ?_
  refine E_aloadN (pc' := 28) cx st4 d22_27 rfl rfl rfl ?_
  refine E_getfield (pc' := 31) (v := (.ref bH)) cx st4 (wd hw 52 rfl) (B_o.at 8 (by decide) rfl rfl) d22_28 rfl ?_
  intro T5 st5
  refine E_iloadN (pc' := 32) cx st5 d22_31 rfl rfl ?_
  refine E_iloadN (pc' := 33) cx st5 d22_32 rfl rfl ?_
  refine E_aloadN (pc' := 34) cx st5 d22_33 rfl rfl rfl ?_
  refine E_getfield (pc' := 37) (v := (.ref bT)) cx st5 (wd hw 54 rfl) (B_o.at 9 (by decide) rfl rfl) d22_34 rfl ?_
  intro T6 st6
  refine E_iloadN (pc' := 38) cx st6 d22_37 rfl rfl ?_
  refine E_iaload (pc' := 39) (x := (1 : Int32)) cx st6 V_bT ⟨by decide, by decide⟩ rfl d22_38 rfl ?_
  refine E_icmp_neN (pc' := 42) cx st6 d22_39 rfl rfl ?_
  refine E_iconst (pc' := 43) cx st6 (-1 : Int32) d22_42 rfl rfl ?_
  refine E_goto (pc' := 51) cx st6 d22_43 (by decide) (by decide) ?_
  refine E_iastore (pc' := 52) (i := 1) cx st6 V_bH ⟨by decide, by decide⟩ rfl (Nat.succ_lt_succ (Nat.zero_lt_succ _)) g_bH d22_51 rfl ?_
  intro T7 h7 st7 W7 V7
  have Z7 : n0 ≤ h7.size := Nat.le_trans Z0 (Keep.of_wr W7).1
  have K7 : Keep h0 h7 [o, c0, bF, bG, bO, bH, bT, hP, nw] := (Keep.refl h0 [o, c0, bF, bG, bO, bH, bT, hP, nw]).wr W7 (mi 5 rfl)
  have V7p : Arv Z h7 bH k_bH .int (16 : Int32) ((.int (0 : Int32)) :: (.int (-1 : Int32)) :: (dr.map Value.int)) (.int (0 : Int32)) := V7
  refine E_aloadN (pc' := 53) cx st7 d22_52 rfl rfl rfl ?_
  refine E_iloadN (pc' := 54) cx st7 d22_53 rfl rfl ?_
  refine E_aloadN (pc' := 55) cx st7 d22_54 rfl rfl rfl ?_
  have B9 : OL Z h7 o [(.int gt), (.ref cl), (.int fe), (.int eu), (.int sz), (.ref bF), (.ref bG), (.ref bO), (.ref bH), (.ref bT), (.int fb), (.int bu), (.long sta), (.ref hP), (.int (2 : Int32)), (.ref nw)] := (B_o.other W7 (nd hnd 0 7 rfl rfl))
  refine E_getfield (pc' := 58) (v := (.int fe)) cx st7 (wd hw 43 rfl) (B9.at 2 (by decide) rfl rfl) d22_55 rfl ?_
  intro T8 st8
  have X10 : Exa Z h7 o "com/example/flat_planner/flatplanner/OpenList" := (X_o.wr W7)
  have HL11 : LCF Z h7 cl cs := (HL.other W7 (nd hnd 1 7 rfl rfl))
  have V12 : Arv Z h7 cs k_cs (.array .long) (1 : Int32) [(.ref c0)] .null := (V_cs.other W7 (nd hnd 2 7 rfl rfl))
  have V13 : Arv Z h7 c0 k_c0 .long (16 : Int32) ((.long e0) :: (.long e1) :: (er.map Value.long)) (.long (0 : Int64)) := (V_c0.other W7 (nd hnd 3 7 rfl rfl))
  have V14 : Arv Z h7 bF k_bF .long (16 : Int32) ((.long f0) :: (.long f1) :: (fr.map Value.long)) (.long (0 : Int64)) := (V_bF.other W7 (nd hnd 4 7 rfl rfl))
  have V15 : Arv Z h7 bG k_bG .long (16 : Int32) ((.long g0) :: (.long g1) :: (gr.map Value.long)) (.long (0 : Int64)) := (V_bG.other W7 (nd hnd 5 7 rfl rfl))
  have V16 : Arv Z h7 bO k_bO .long (16 : Int32) ((.long q0) :: (.long q1) :: (qr.map Value.long)) (.long (0 : Int64)) := (V_bO.other W7 (nd hnd 6 7 rfl rfl))
  have V17 : Arv Z h7 bT k_bT .int (16 : Int32) ((.int (0 : Int32)) :: (.int (1 : Int32)) :: (tr.map Value.int)) (.int (0 : Int32)) := (V_bT.other W7 (nd hnd 8 7 rfl rfl))
  have V18 : Arv Z h7 hP k_hP .int (16 : Int32) ((.int (1 : Int32)) :: (.int (0 : Int32)) :: (pr.map Value.int)) (.int (0 : Int32)) := (V_hP.other W7 (nd hnd 9 7 rfl rfl))
  have V19 : Arv Z h7 nw k_nw .int (32 : Int32) (ns.map Value.int) (.int (0 : Int32)) := (V_nw.other W7 (nd hnd 10 7 rfl rfl))
  refine E_callP (pc' := 61) (kc' := 0) (ks' := 0) (W := 0) (a := o) (argsL := [(.int (1 : Int32)), (.int fe)]) cx st8 [] (rmsetNext1 l Z a0 hw o cl cs c0 bF bG bO bH bT hP nw h7 n0 Z7 gt fe eu sz fb bu sta (2 : Int32) e0 e1 er f0 f1 fr g0 g1 gr q0 q1 qr (0 : Int32) (-1 : Int32) dr (0 : Int32) (1 : Int32) tr (1 : Int32) (0 : Int32) pr ns fe hnd hge ⟨X10, B9, HL11, ⟨_, V12⟩, ⟨_, V13⟩, ⟨_, V14⟩, ⟨_, V15⟩, ⟨_, V16⟩, ⟨_, V7p⟩, ⟨_, V17⟩, ⟨_, V18⟩, ⟨_, V19⟩⟩ ) X10 (wd hw 154 rfl) (wd hw 156 rfl) (wd hw 1 rfl) (wd hw 155 rfl) (wd hw 2 rfl) (wd hw 157 rfl) d22_58 rfl rfl (lenOf pd_9 rfl) (Nat.le_of_eq rfl) (by decide) (by decide) (by decide) (by decide) (by decide) (by decide) (by decide) rfl ?_
  intro v20 T20 h20 st20 hq20
  obtain ⟨rfl, Kw20, Hw20⟩ := hq20
  have Z20 : n0 ≤ h20.size := Nat.le_trans Z7 Kw20.1
  have KKw20' : Keep h0 h20 [o, c0, bF, bG, bO, bH, bT, hP, nw] := K7.trans Kw20 (allS (mi 0 rfl) (allS (mi 1 rfl) (allS (mi 2 rfl) (allS (mi 3 rfl) (allS (mi 4 rfl) (allS (mi 5 rfl) (allS (mi 6 rfl) (allS (mi 7 rfl) (allS (mi 8 rfl) all0)))))))))
  obtain ⟨X_o_20, B_o_20, HL_20, ⟨k_cs_20, V_cs_20⟩, ⟨k_c0_20, V_c0_20⟩, ⟨k_bF_20, V_bF_20⟩, ⟨k_bG_20, V_bG_20⟩, ⟨k_bO_20, V_bO_20⟩, ⟨k_bH_20, V_bH_20⟩, ⟨k_bT_20, V_bT_20⟩, ⟨k_hP_20, V_hP_20⟩, ⟨k_nw_20, V_nw_20⟩⟩ := Hw20
  refine E_aloadN (pc' := 62) cx st20 d22_61 rfl rfl rfl ?_
  refine E_iloadN (pc' := 63) cx st20 d22_62 rfl rfl ?_
  refine E_putfield (pc' := 66) (ty := .int) cx st20 (wd hw 43 rfl) (B_o_20.at 2 (by decide) rfl rfl) X_o_20 (Or.inl (wd hw 44 rfl)) (wd hw 1 rfl) (by decide) rfl rfl g_o d22_63 rfl ?_
  intro T21 h21 st21 W21
  have Z21 : n0 ≤ h21.size := Nat.le_trans Z20 (Keep.of_wr W21).1
  have K21 : Keep h0 h21 [o, c0, bF, bG, bO, bH, bT, hP, nw] := KKw20'.wr W21 (mi 0 rfl)
  have B21w : OL Z h21 o [(.int gt), (.ref cl), (.int (1 : Int32)), (.int eu), (.int sz), (.ref bF), (.ref bG), (.ref bO), (.ref bH), (.ref bT), (.int fb), (.int bu), (.long sta), (.ref hP), (.int (2 : Int32)), (.ref nw)] := B_o_20.wr hw 2 (by decide) rfl W21 (Nat.le_of_ble_eq_true rfl)
  refine E_aloadN (pc' := 67) cx st21 d22_66 rfl rfl rfl ?_
  refine E_dup (pc' := 68) cx st21 d22_67 rfl rfl ?_
  refine E_getfield (pc' := 71) (v := (.int sz)) cx st21 (wd hw 118 rfl) (B21w.at 4 (by decide) rfl rfl) d22_68 rfl ?_
  intro T22 st22
  refine E_iconst (pc' := 72) cx st22 (1 : Int32) d22_71 rfl rfl ?_
  refine E_isub (pc' := 73) cx st22 d22_72 rfl ?_
  have X23 : Exa Z h21 o "com/example/flat_planner/flatplanner/OpenList" := (X_o_20.wr W21)
  refine E_putfield (pc' := 76) (ty := .int) cx st22 (wd hw 118 rfl) (B21w.at 4 (by decide) rfl rfl) X23 (Or.inl (wd hw 119 rfl)) (wd hw 1 rfl) (by decide) rfl rfl g_o d22_73 rfl ?_
  intro T24 h24 st24 W24
  have Z24 : n0 ≤ h24.size := Nat.le_trans Z21 (Keep.of_wr W24).1
  have K24 : Keep h0 h24 [o, c0, bF, bG, bO, bH, bT, hP, nw] := K21.wr W24 (mi 0 rfl)
  have B24w : OL Z h24 o [(.int gt), (.ref cl), (.int (1 : Int32)), (.int eu), (.int (sz - (1 : Int32))), (.ref bF), (.ref bG), (.ref bO), (.ref bH), (.ref bT), (.int fb), (.int bu), (.long sta), (.ref hP), (.int (2 : Int32)), (.ref nw)] := B21w.wr hw 4 (by decide) rfl W24 (Nat.le_of_ble_eq_true rfl)
  refine E_aloadN (pc' := 77) cx st24 d22_76 rfl rfl rfl ?_
  refine E_getfield (pc' := 80) (v := (.ref bH)) cx st24 (wd hw 52 rfl) (B24w.at 8 (by decide) rfl rfl) d22_77 rfl ?_
  intro T25 st25
  refine E_iloadN (pc' := 81) cx st25 d22_80 rfl rfl ?_
  have V26 : Arv Z h24 bH k_bH_20 .int (16 : Int32) ((.int (0 : Int32)) :: (.int (-1 : Int32)) :: (dr.map Value.int)) (.int (0 : Int32)) := ((V_bH_20.other W21 (nd hnd 7 0 rfl rfl)).other W24 (nd hnd 7 0 rfl rfl))
  refine E_iaload (pc' := 82) (x := (-1 : Int32)) cx st25 V26 ⟨by decide, by decide⟩ rfl d22_81 rfl ?_
  refine E_iconst (pc' := 83) cx st25 (-1 : Int32) d22_82 rfl rfl ?_
  refine E_icmp_neN (pc' := 86) cx st25 d22_83 rfl rfl ?_
  refine E_aloadN (pc' := 87) cx st25 d22_86 rfl rfl rfl ?_
  have X27 : Exa Z h24 o "com/example/flat_planner/flatplanner/OpenList" := (X23.wr W24)
  have HL28 : LCF Z h24 cl cs := ((HL_20.other W21 (nd hnd 1 0 rfl rfl)).other W24 (nd hnd 1 0 rfl rfl))
  have V29 : Arv Z h24 cs k_cs_20 (.array .long) (1 : Int32) [(.ref c0)] .null := ((V_cs_20.other W21 (nd hnd 2 0 rfl rfl)).other W24 (nd hnd 2 0 rfl rfl))
  have V30 : Arv Z h24 c0 k_c0_20 .long (16 : Int32) ((.long e0) :: (.long (nxE e1 fe)) :: (er.map Value.long)) (.long (0 : Int64)) := ((V_c0_20.other W21 (nd hnd 3 0 rfl rfl)).other W24 (nd hnd 3 0 rfl rfl))
  have V31 : Arv Z h24 bF k_bF_20 .long (16 : Int32) ((.long f0) :: (.long f1) :: (fr.map Value.long)) (.long (0 : Int64)) := ((V_bF_20.other W21 (nd hnd 4 0 rfl rfl)).other W24 (nd hnd 4 0 rfl rfl))
  have V32 : Arv Z h24 bG k_bG_20 .long (16 : Int32) ((.long g0) :: (.long g1) :: (gr.map Value.long)) (.long (0 : Int64)) := ((V_bG_20.other W21 (nd hnd 5 0 rfl rfl)).other W24 (nd hnd 5 0 rfl rfl))
  have V33 : Arv Z h24 bO k_bO_20 .long (16 : Int32) ((.long q0) :: (.long q1) :: (qr.map Value.long)) (.long (0 : Int64)) := ((V_bO_20.other W21 (nd hnd 6 0 rfl rfl)).other W24 (nd hnd 6 0 rfl rfl))
  have V34 : Arv Z h24 bT k_bT_20 .int (16 : Int32) ((.int (0 : Int32)) :: (.int (1 : Int32)) :: (tr.map Value.int)) (.int (0 : Int32)) := ((V_bT_20.other W21 (nd hnd 8 0 rfl rfl)).other W24 (nd hnd 8 0 rfl rfl))
  have V35 : Arv Z h24 hP k_hP_20 .int (16 : Int32) ((.int (1 : Int32)) :: (.int (0 : Int32)) :: (pr.map Value.int)) (.int (0 : Int32)) := ((V_hP_20.other W21 (nd hnd 9 0 rfl rfl)).other W24 (nd hnd 9 0 rfl rfl))
  have V36 : Arv Z h24 nw k_nw_20 .int (32 : Int32) (ns.map Value.int) (.int (0 : Int32)) := ((V_nw_20.other W21 (nd hnd 10 0 rfl rfl)).other W24 (nd hnd 10 0 rfl rfl))
  refine E_callP (pc' := 90) (kc' := 0) (ks' := 0) (W := 0) (a := o) (argsL := []) cx st25 [] (rmheapPop2 l Z a0 hw o cl cs c0 bF bG bO bH bT hP nw h24 n0 Z24 gt (1 : Int32) eu (sz - (1 : Int32)) fb bu sta e0 (nxE e1 fe) er f0 f1 fr g0 g1 gr q0 q1 qr (0 : Int32) (-1 : Int32) dr (0 : Int32) (1 : Int32) tr (1 : Int32) (0 : Int32) pr ns hnd hge ⟨X27, B24w, HL28, ⟨_, V29⟩, ⟨_, V30⟩, ⟨_, V31⟩, ⟨_, V32⟩, ⟨_, V33⟩, ⟨_, V26⟩, ⟨_, V34⟩, ⟨_, V35⟩, ⟨_, V36⟩⟩ ) X27 (wd hw 160 rfl) (wd hw 162 rfl) (wd hw 1 rfl) (wd hw 161 rfl) (wd hw 2 rfl) (wd hw 163 rfl) d22_87 rfl rfl (lenOf pd_10 rfl) (Nat.le_of_eq rfl) (by decide) (by decide) (by decide) (by decide) (by decide) (by decide) (by decide) rfl ?_
  intro v37 T37 h37 st37 hq37
  obtain ⟨rfl, Kw37, Hw37⟩ := hq37
  have Z37 : n0 ≤ h37.size := Nat.le_trans Z24 Kw37.1
  have KKw37' : Keep h0 h37 [o, c0, bF, bG, bO, bH, bT, hP, nw] := K24.trans Kw37 (allS (mi 0 rfl) (allS (mi 1 rfl) (allS (mi 2 rfl) (allS (mi 3 rfl) (allS (mi 4 rfl) (allS (mi 5 rfl) (allS (mi 6 rfl) (allS (mi 7 rfl) (allS (mi 8 rfl) all0)))))))))
  obtain ⟨X_o_37, B_o_37, HL_37, ⟨k_cs_37, V_cs_37⟩, ⟨k_c0_37, V_c0_37⟩, ⟨k_bF_37, V_bF_37⟩, ⟨k_bG_37, V_bG_37⟩, ⟨k_bO_37, V_bO_37⟩, ⟨k_bH_37, V_bH_37⟩, ⟨k_bT_37, V_bT_37⟩, ⟨k_hP_37, V_hP_37⟩, ⟨k_nw_37, V_nw_37⟩⟩ := Hw37
  refine E_aloadN (pc' := 91) cx st37 d22_90 rfl rfl rfl ?_
  refine E_getfield (pc' := 94) (v := (.ref bT)) cx st37 (wd hw 54 rfl) (B_o_37.at 9 (by decide) rfl rfl) d22_91 rfl ?_
  intro T38 st38
  refine E_iloadN (pc' := 95) cx st38 d22_94 rfl rfl ?_
  refine E_aloadN (pc' := 96) cx st38 d22_95 rfl rfl rfl ?_
  refine E_getfield (pc' := 99) (v := (.int fb)) cx st38 (wd hw 56 rfl) (B_o_37.at 10 (by decide) rfl rfl) d22_96 rfl ?_
  intro T39 st39
  refine E_iastore (pc' := 100) (i := 1) cx st39 V_bT_37 ⟨by decide, by decide⟩ rfl (Nat.succ_lt_succ (Nat.zero_lt_succ _)) g_bT d22_99 rfl ?_
  intro T40 h40 st40 W40 V40
  have Z40 : n0 ≤ h40.size := Nat.le_trans Z37 (Keep.of_wr W40).1
  have K40 : Keep h0 h40 [o, c0, bF, bG, bO, bH, bT, hP, nw] := KKw37'.wr W40 (mi 6 rfl)
  have V40p : Arv Z h40 bT k_bT_37 .int (16 : Int32) ((.int (0 : Int32)) :: (.int fb) :: (tr.map Value.int)) (.int (0 : Int32)) := V40
  refine E_aloadN (pc' := 101) cx st40 d22_100 rfl rfl rfl ?_
  refine E_iloadN (pc' := 102) cx st40 d22_101 rfl rfl ?_
  have B41 : OL Z h40 o [(.int gt), (.ref cl), (.int (1 : Int32)), (.int eu), (.int (sz - (1 : Int32))), (.ref bF), (.ref bG), (.ref bO), (.ref bH), (.ref bT), (.int fb), (.int bu), (.long sta), (.ref hP), (.int (1 : Int32)), (.ref nw)] := (B_o_37.other W40 (nd hnd 0 8 rfl rfl))
  have X42 : Exa Z h40 o "com/example/flat_planner/flatplanner/OpenList" := (X_o_37.wr W40)
  refine E_putfield (pc' := 105) (ty := .int) cx st40 (wd hw 56 rfl) (B41.at 10 (by decide) rfl rfl) X42 (Or.inl (wd hw 57 rfl)) (wd hw 1 rfl) (by decide) rfl rfl g_o d22_102 rfl ?_
  intro T43 h43 st43 W43
  have Z43 : n0 ≤ h43.size := Nat.le_trans Z40 (Keep.of_wr W43).1
  have K43 : Keep h0 h43 [o, c0, bF, bG, bO, bH, bT, hP, nw] := K40.wr W43 (mi 0 rfl)
  have B43w : OL Z h43 o [(.int gt), (.ref cl), (.int (1 : Int32)), (.int eu), (.int (sz - (1 : Int32))), (.ref bF), (.ref bG), (.ref bO), (.ref bH), (.ref bT), (.int (1 : Int32)), (.int bu), (.long sta), (.ref hP), (.int (1 : Int32)), (.ref nw)] := B41.wr hw 10 (by decide) rfl W43 (Nat.le_of_ble_eq_true rfl)
  refine E_iloadN (pc' := 106) cx st43 d22_105 rfl rfl ?_
  have X44 : Exa Z h43 o "com/example/flat_planner/flatplanner/OpenList" := (X42.wr W43)
  have HL45 : LCF Z h43 cl cs := ((HL_37.other W40 (nd hnd 1 8 rfl rfl)).other W43 (nd hnd 1 0 rfl rfl))
  have V46 : Arv Z h43 cs k_cs_37 (.array .long) (1 : Int32) [(.ref c0)] .null := ((V_cs_37.other W40 (nd hnd 2 8 rfl rfl)).other W43 (nd hnd 2 0 rfl rfl))
  have V47 : Arv Z h43 c0 k_c0_37 .long (16 : Int32) ((.long e0) :: (.long (nxE e1 fe)) :: (er.map Value.long)) (.long (0 : Int64)) := ((V_c0_37.other W40 (nd hnd 3 8 rfl rfl)).other W43 (nd hnd 3 0 rfl rfl))
  have V48 : Arv Z h43 bF k_bF_37 .long (16 : Int32) ((.long f0) :: (.long f1) :: (fr.map Value.long)) (.long (0 : Int64)) := ((V_bF_37.other W40 (nd hnd 4 8 rfl rfl)).other W43 (nd hnd 4 0 rfl rfl))
  have V49 : Arv Z h43 bG k_bG_37 .long (16 : Int32) ((.long g0) :: (.long g1) :: (gr.map Value.long)) (.long (0 : Int64)) := ((V_bG_37.other W40 (nd hnd 5 8 rfl rfl)).other W43 (nd hnd 5 0 rfl rfl))
  have V50 : Arv Z h43 bO k_bO_37 .long (16 : Int32) ((.long q0) :: (.long q1) :: (qr.map Value.long)) (.long (0 : Int64)) := ((V_bO_37.other W40 (nd hnd 6 8 rfl rfl)).other W43 (nd hnd 6 0 rfl rfl))
  have V51 : Arv Z h43 bH k_bH_37 .int (16 : Int32) ((.int (0 : Int32)) :: (.int (-1 : Int32)) :: (dr.map Value.int)) (.int (0 : Int32)) := ((V_bH_37.other W40 (nd hnd 7 8 rfl rfl)).other W43 (nd hnd 7 0 rfl rfl))
  have V52 : Arv Z h43 bT k_bT_37 .int (16 : Int32) ((.int (0 : Int32)) :: (.int fb) :: (tr.map Value.int)) (.int (0 : Int32)) := (V40p.other W43 (nd hnd 8 0 rfl rfl))
  have V53 : Arv Z h43 hP k_hP_37 .int (16 : Int32) ((.int (0 : Int32)) :: (.int (0 : Int32)) :: (pr.map Value.int)) (.int (0 : Int32)) := ((V_hP_37.other W40 (nd hnd 9 8 rfl rfl)).other W43 (nd hnd 9 0 rfl rfl))
  have V54 : Arv Z h43 nw k_nw_37 .int (32 : Int32) (ns.map Value.int) (.int (0 : Int32)) := ((V_nw_37.other W40 (nd hnd 10 8 rfl rfl)).other W43 (nd hnd 10 0 rfl rfl))
  refine E_ireturn (t := .int) cx st43 d22_106 rfl (by simp) rfl (by decide) (by decide) ?_
  exact ⟨rfl, K43, ⟨X44, B43w, HL45, ⟨_, V46⟩, ⟨_, V47⟩, ⟨_, V48⟩, ⟨_, V49⟩, ⟨_, V50⟩, ⟨_, V51⟩, ⟨_, V52⟩, ⟨_, V53⟩, ⟨_, V54⟩⟩⟩
theorem ef_popB21 (m : MethodId) (x0 : Addr) : entryFrame m #[(.ref x0)] 4 = mkF m 0 #[.val (.ref x0), .unset, .unset, .unset] [] := by first | (simp [entryFrame, mkF, argsToLocals, Value.category]; done) | rfl
set_option maxRecDepth 65536 in
set_option maxHeartbeats 40000000 in
theorem rmpopB21 (l : Launch) (Z : State) (a0 : Array Value) (hw : ∀ d ∈ tables_1, d.before a0 Z = true) (o : Addr) (cl : Addr) (cs : Addr) (c0 : Addr) (bF : Addr) (bG : Addr) (bO : Addr) (bH : Addr) (bT : Addr) (hP : Addr) (nw : Addr) (h0 : Heap) (n0 : Nat) (Z0 : n0 ≤ h0.size) (gt : Int32) (fe : Int32) (eu : Int32) (sz : Int32) (fb : Int32) (bu : Int32) (sta : Int64) (e0 : Int64) (e1 : Int64) (er : List Int64) (f0 : Int64) (f1 : Int64) (fr : List Int64) (g0 : Int64) (g1 : Int64) (gr : List Int64) (q0 : Int64) (q1 : Int64) (qr : List Int64) (d0 : Int32) (dr : List Int32) (t0 : Int32) (tr : List Int32) (p1 : Int32) (pr : List Int32) (ns : List Int32) (hnd : [o, cl, cs, c0, bF, bG, bO, bH, bT, hP, nw].Nodup) (hge : ∀ a ∈ [o, cl, cs, c0, bF, bG, bO, bH, bT, hP, nw], n0 ≤ a) (H0 : Wd Z h0 o cl cs c0 bF bG bO bH bT hP nw gt fe eu sz fb bu (1 : Int32) sta e0 e1 er f0 f1 fr g0 g1 gr q0 q1 qr d0 (1 : Int32) dr t0 (1 : Int32) tr (1 : Int32) p1 pr ns)  :
    Con l Z (⟨"com/example/flat_planner/flatplanner/OpenList", "pop", "()I"⟩ : MethodName) prog_16_method_7_code 4 (some .int) ({ frames := 3, cells := 0, slots := 0, locals := 43 } : Room) #[(.ref o)] h0 n0 (fun v h => v = some (.int (hiV e1)) ∧ Keep h0 h [o, c0, bF, bG, bO, bH, bT, hP, nw] ∧ Wd Z h o cl cs c0 bF bG bO bH bT hP nw gt (1 : Int32) eu (sz - (1 : Int32)) (1 : Int32) bu (0 : Int32) sta e0 (nxE e1 fe) er f0 f1 fr g0 g1 gr q0 q1 qr d0 (-1 : Int32) dr t0 fb tr (1 : Int32) p1 pr ns) := by
  refine Con.of (own := "com/example/flat_planner/flatplanner/OpenList") (name := "pop") (plainFor_of_name pn_3) (fun m => ef_popB21 m o) rfl rfl ?_
  intro p e s m below meth c T F S cx st
  have g_o : n0 ≤ o := hge o (by simp)
  have g_c0 : n0 ≤ c0 := hge c0 (by simp)
  have g_bF : n0 ≤ bF := hge bF (by simp)
  have g_bG : n0 ≤ bG := hge bG (by simp)
  have g_bO : n0 ≤ bO := hge bO (by simp)
  have g_bH : n0 ≤ bH := hge bH (by simp)
  have g_bT : n0 ≤ bT := hge bT (by simp)
  have g_hP : n0 ≤ hP := hge hP (by simp)
  have g_nw : n0 ≤ nw := hge nw (by simp)
  obtain ⟨X_o, B_o, HL, ⟨k_cs, V_cs⟩, ⟨k_c0, V_c0⟩, ⟨k_bF, V_bF⟩, ⟨k_bG, V_bG⟩, ⟨k_bO, V_bO⟩, ⟨k_bH, V_bH⟩, ⟨k_bT, V_bT⟩, ⟨k_hP, V_hP⟩, ⟨k_nw, V_nw⟩⟩ := H0
  refine E_aloadN (pc' := 1) cx st d22_0 rfl rfl rfl ?_
  refine E_getfield (pc' := 4) (v := (.ref hP)) cx st (wd hw 58 rfl) (B_o.at 13 (by decide) rfl rfl) d22_1 rfl ?_
  intro T1 st1
  refine E_iconst (pc' := 5) cx st1 (0 : Int32) d22_4 rfl rfl ?_
  refine E_iaload (pc' := 6) (x := (1 : Int32)) cx st1 V_hP ⟨by decide, by decide⟩ rfl d22_5 rfl ?_
  refine E_istoreN (pc' := 7) (L' := #[.val (.ref o), .val (.int (1 : Int32)), .unset, .unset]) cx st1 d22_6 rfl rfl ?_
  refine E_aloadN (pc' := 8) cx st1 d22_7 rfl rfl rfl ?_
  refine E_getfield (pc' := 11) (v := (.ref bH)) cx st1 (wd hw 52 rfl) (B_o.at 8 (by decide) rfl rfl) d22_8 rfl ?_
  intro T2 st2
  refine E_iloadN (pc' := 12) cx st2 d22_11 rfl rfl ?_
  refine E_iaload (pc' := 13) (x := (1 : Int32)) cx st2 V_bH ⟨by decide, by decide⟩ rfl d22_12 rfl ?_
  refine E_istoreN (pc' := 14) (L' := #[.val (.ref o), .val (.int (1 : Int32)), .val (.int (1 : Int32)), .unset]) cx st2 d22_13 rfl rfl ?_
  refine E_aloadN (pc' := 15) cx st2 d22_14 rfl rfl rfl ?_
  refine E_getfield (pc' := 18) (v := (.ref cl)) cx st2 (wd hw 41 rfl) (B_o.at 1 (by decide) rfl rfl) d22_15 rfl ?_
  intro T3 st3
  refine E_iloadN (pc' := 19) cx st3 d22_18 rfl rfl ?_
  refine E_callV (pc' := 22) (kc' := 0) (ks' := 0) (W := 0) (a := cl) (argsL := [(.int (1 : Int32))]) cx st3 [] (rmget1 l Z a0 hw cl cs c0 e0 e1 h0 n0 Z0 k_cs k_c0 er HL V_cs V_c0) HL.1 (wd hw 149 rfl) (wd hw 150 rfl) (wd hw 152 rfl) (wd hw 151 rfl) (wd hw 11 rfl) (wd hw 153 rfl) d22_19 rfl rfl (lenOf pd_5 rfl) (Nat.le_of_eq rfl) (by decide) (by decide) (by decide) (by decide) (by decide) (by decide) (by decide) rfl ?_
  intro v4 T4 h4 st4 hq4
  obtain ⟨rfl, hh4⟩ := hq4
  rw [hh4] at st4
  refine E_bipush (pc' := 24) cx st4 (32 : Int32) d22_22 rfl rfl ?_
  refine E_lshr (pc' := 25) cx st4 d22_24 rfl ?_
  refine E_l2i (pc' := 26) cx st4 d22_25 rfl ?_
  refine E_istoreN (pc' := 27) (L' := #[.val (.ref o), .val (.int (1 : Int32)), .val (.int (1 : Int32)), .val (.int ((e1 >>> ((32 : Int32) &&& 0x3f).toInt64).toInt32))]) cx st4 d22_26 rfl rfl ?_
  refine E_aloadN (pc' := 28) cx st4 d22_27 rfl rfl rfl ?_
  refine E_getfield (pc' := 31) (v := (.ref bH)) cx st4 (wd hw 52 rfl) (B_o.at 8 (by decide) rfl rfl) d22_28 rfl ?_
  intro T5 st5
  refine E_iloadN (pc' := 32) cx st5 d22_31 rfl rfl ?_
  refine E_iloadN (pc' := 33) cx st5 d22_32 rfl rfl ?_
  refine E_aloadN (pc' := 34) cx st5 d22_33 rfl rfl rfl ?_
  refine E_getfield (pc' := 37) (v := (.ref bT)) cx st5 (wd hw 54 rfl) (B_o.at 9 (by decide) rfl rfl) d22_34 rfl ?_
  intro T6 st6
  refine E_iloadN (pc' := 38) cx st6 d22_37 rfl rfl ?_
  refine E_iaload (pc' := 39) (x := (1 : Int32)) cx st6 V_bT ⟨by decide, by decide⟩ rfl d22_38 rfl ?_
  refine E_icmp_neN (pc' := 42) cx st6 d22_39 rfl rfl ?_
  refine E_iconst (pc' := 43) cx st6 (-1 : Int32) d22_42 rfl rfl ?_
  refine E_goto (pc' := 51) cx st6 d22_43 (by decide) (by decide) ?_
  refine E_iastore (pc' := 52) (i := 1) cx st6 V_bH ⟨by decide, by decide⟩ rfl (Nat.succ_lt_succ (Nat.zero_lt_succ _)) g_bH d22_51 rfl ?_
  intro T7 h7 st7 W7 V7
  have Z7 : n0 ≤ h7.size := Nat.le_trans Z0 (Keep.of_wr W7).1
  have K7 : Keep h0 h7 [o, c0, bF, bG, bO, bH, bT, hP, nw] := (Keep.refl h0 [o, c0, bF, bG, bO, bH, bT, hP, nw]).wr W7 (mi 5 rfl)
  have V7p : Arv Z h7 bH k_bH .int (16 : Int32) ((.int d0) :: (.int (-1 : Int32)) :: (dr.map Value.int)) (.int (0 : Int32)) := V7
  refine E_aloadN (pc' := 53) cx st7 d22_52 rfl rfl rfl ?_
  refine E_iloadN (pc' := 54) cx st7 d22_53 rfl rfl ?_
  refine E_aloadN (pc' := 55) cx st7 d22_54 rfl rfl rfl ?_
  have B9 : OL Z h7 o [(.int gt), (.ref cl), (.int fe), (.int eu), (.int sz), (.ref bF), (.ref bG), (.ref bO), (.ref bH), (.ref bT), (.int fb), (.int bu), (.long sta), (.ref hP), (.int (1 : Int32)), (.ref nw)] := (B_o.other W7 (nd hnd 0 7 rfl rfl))
  refine E_getfield (pc' := 58) (v := (.int fe)) cx st7 (wd hw 43 rfl) (B9.at 2 (by decide) rfl rfl) d22_55 rfl ?_
  intro T8 st8
  have X10 : Exa Z h7 o "com/example/flat_planner/flatplanner/OpenList" := (X_o.wr W7)
  have HL11 : LCF Z h7 cl cs := (HL.other W7 (nd hnd 1 7 rfl rfl))
  have V12 : Arv Z h7 cs k_cs (.array .long) (1 : Int32) [(.ref c0)] .null := (V_cs.other W7 (nd hnd 2 7 rfl rfl))
  have V13 : Arv Z h7 c0 k_c0 .long (16 : Int32) ((.long e0) :: (.long e1) :: (er.map Value.long)) (.long (0 : Int64)) := (V_c0.other W7 (nd hnd 3 7 rfl rfl))
  have V14 : Arv Z h7 bF k_bF .long (16 : Int32) ((.long f0) :: (.long f1) :: (fr.map Value.long)) (.long (0 : Int64)) := (V_bF.other W7 (nd hnd 4 7 rfl rfl))
  have V15 : Arv Z h7 bG k_bG .long (16 : Int32) ((.long g0) :: (.long g1) :: (gr.map Value.long)) (.long (0 : Int64)) := (V_bG.other W7 (nd hnd 5 7 rfl rfl))
  have V16 : Arv Z h7 bO k_bO .long (16 : Int32) ((.long q0) :: (.long q1) :: (qr.map Value.long)) (.long (0 : Int64)) := (V_bO.other W7 (nd hnd 6 7 rfl rfl))
  have V17 : Arv Z h7 bT k_bT .int (16 : Int32) ((.int t0) :: (.int (1 : Int32)) :: (tr.map Value.int)) (.int (0 : Int32)) := (V_bT.other W7 (nd hnd 8 7 rfl rfl))
  have V18 : Arv Z h7 hP k_hP .int (16 : Int32) ((.int (1 : Int32)) :: (.int p1) :: (pr.map Value.int)) (.int (0 : Int32)) := (V_hP.other W7 (nd hnd 9 7 rfl rfl))
  have V19 : Arv Z h7 nw k_nw .int (32 : Int32) (ns.map Value.int) (.int (0 : Int32)) := (V_nw.other W7 (nd hnd 10 7 rfl rfl))
  refine E_callP (pc' := 61) (kc' := 0) (ks' := 0) (W := 0) (a := o) (argsL := [(.int (1 : Int32)), (.int fe)]) cx st8 [] (rmsetNext1 l Z a0 hw o cl cs c0 bF bG bO bH bT hP nw h7 n0 Z7 gt fe eu sz fb bu sta (1 : Int32) e0 e1 er f0 f1 fr g0 g1 gr q0 q1 qr d0 (-1 : Int32) dr t0 (1 : Int32) tr (1 : Int32) p1 pr ns fe hnd hge ⟨X10, B9, HL11, ⟨_, V12⟩, ⟨_, V13⟩, ⟨_, V14⟩, ⟨_, V15⟩, ⟨_, V16⟩, ⟨_, V7p⟩, ⟨_, V17⟩, ⟨_, V18⟩, ⟨_, V19⟩⟩ ) X10 (wd hw 154 rfl) (wd hw 156 rfl) (wd hw 1 rfl) (wd hw 155 rfl) (wd hw 2 rfl) (wd hw 157 rfl) d22_58 rfl rfl (lenOf pd_9 rfl) (Nat.le_of_eq rfl) (by decide) (by decide) (by decide) (by decide) (by decide) (by decide) (by decide) rfl ?_
  intro v20 T20 h20 st20 hq20
  obtain ⟨rfl, Kw20, Hw20⟩ := hq20
  have Z20 : n0 ≤ h20.size := Nat.le_trans Z7 Kw20.1
  have KKw20' : Keep h0 h20 [o, c0, bF, bG, bO, bH, bT, hP, nw] := K7.trans Kw20 (allS (mi 0 rfl) (allS (mi 1 rfl) (allS (mi 2 rfl) (allS (mi 3 rfl) (allS (mi 4 rfl) (allS (mi 5 rfl) (allS (mi 6 rfl) (allS (mi 7 rfl) (allS (mi 8 rfl) all0)))))))))
  obtain ⟨X_o_20, B_o_20, HL_20, ⟨k_cs_20, V_cs_20⟩, ⟨k_c0_20, V_c0_20⟩, ⟨k_bF_20, V_bF_20⟩, ⟨k_bG_20, V_bG_20⟩, ⟨k_bO_20, V_bO_20⟩, ⟨k_bH_20, V_bH_20⟩, ⟨k_bT_20, V_bT_20⟩, ⟨k_hP_20, V_hP_20⟩, ⟨k_nw_20, V_nw_20⟩⟩ := Hw20
  refine E_aloadN (pc' := 62) cx st20 d22_61 rfl rfl rfl ?_
  refine E_iloadN (pc' := 63) cx st20 d22_62 rfl rfl ?_
  refine E_putfield (pc' := 66) (ty := .int) cx st20 (wd hw 43 rfl) (B_o_20.at 2 (by decide) rfl rfl) X_o_20 (Or.inl (wd hw 44 rfl)) (wd hw 1 rfl) (by decide) rfl rfl g_o d22_63 rfl ?_
  intro T21 h21 st21 W21
  have Z21 : n0 ≤ h21.size := Nat.le_trans Z20 (Keep.of_wr W21).1
  have K21 : Keep h0 h21 [o, c0, bF, bG, bO, bH, bT, hP, nw] := KKw20'.wr W21 (mi 0 rfl)
  have B21w : OL Z h21 o [(.int gt), (.ref cl), (.int (1 : Int32)), (.int eu), (.int sz), (.ref bF), (.ref bG), (.ref bO), (.ref bH), (.ref bT), (.int fb), (.int bu), (.long sta), (.ref hP), (.int (1 : Int32)), (.ref nw)] := B_o_20.wr hw 2 (by decide) rfl W21 (Nat.le_of_ble_eq_true rfl)
  refine E_aloadN (pc' := 67) cx st21 d22_66 rfl rfl rfl ?_
  refine E_dup (pc' := 68) cx st21 d22_67 rfl rfl ?_
  refine E_getfield (pc' := 71) (v := (.int sz)) cx st21 (wd hw 118 rfl) (B21w.at 4 (by decide) rfl rfl) d22_68 rfl ?_
  intro T22 st22
  refine E_iconst (pc' := 72) cx st22 (1 : Int32) d22_71 rfl rfl ?_
  refine E_isub (pc' := 73) cx st22 d22_72 rfl ?_
  have X23 : Exa Z h21 o "com/example/flat_planner/flatplanner/OpenList" := (X_o_20.wr W21)
  refine E_putfield (pc' := 76) (ty := .int) cx st22 (wd hw 118 rfl) (B21w.at 4 (by decide) rfl rfl) X23 (Or.inl (wd hw 119 rfl)) (wd hw 1 rfl) (by decide) rfl rfl g_o d22_73 rfl ?_
  intro T24 h24 st24 W24
  have Z24 : n0 ≤ h24.size := Nat.le_trans Z21 (Keep.of_wr W24).1
  have K24 : Keep h0 h24 [o, c0, bF, bG, bO, bH, bT, hP, nw] := K21.wr W24 (mi 0 rfl)
  have B24w : OL Z h24 o [(.int gt), (.ref cl), (.int (1 : Int32)), (.int eu), (.int (sz - (1 : Int32))), (.ref bF), (.ref bG), (.ref bO), (.ref bH), (.ref bT), (.int fb), (.int bu), (.long sta), (.ref hP), (.int (1 : Int32)), (.ref nw)] := B21w.wr hw 4 (by decide) rfl W24 (Nat.le_of_ble_eq_true rfl)
  refine E_aloadN (pc' := 77) cx st24 d22_76 rfl rfl rfl ?_
  refine E_getfield (pc' := 80) (v := (.ref bH)) cx st24 (wd hw 52 rfl) (B24w.at 8 (by decide) rfl rfl) d22_77 rfl ?_
  intro T25 st25
  refine E_iloadN (pc' := 81) cx st25 d22_80 rfl rfl ?_
  have V26 : Arv Z h24 bH k_bH_20 .int (16 : Int32) ((.int d0) :: (.int (-1 : Int32)) :: (dr.map Value.int)) (.int (0 : Int32)) := ((V_bH_20.other W21 (nd hnd 7 0 rfl rfl)).other W24 (nd hnd 7 0 rfl rfl))
  refine E_iaload (pc' := 82) (x := (-1 : Int32)) cx st25 V26 ⟨by decide, by decide⟩ rfl d22_81 rfl ?_
  refine E_iconst (pc' := 83) cx st25 (-1 : Int32) d22_82 rfl rfl ?_
  refine E_icmp_neN (pc' := 86) cx st25 d22_83 rfl rfl ?_
  refine E_aloadN (pc' := 87) cx st25 d22_86 rfl rfl rfl ?_
  have X27 : Exa Z h24 o "com/example/flat_planner/flatplanner/OpenList" := (X23.wr W24)
  have HL28 : LCF Z h24 cl cs := ((HL_20.other W21 (nd hnd 1 0 rfl rfl)).other W24 (nd hnd 1 0 rfl rfl))
  have V29 : Arv Z h24 cs k_cs_20 (.array .long) (1 : Int32) [(.ref c0)] .null := ((V_cs_20.other W21 (nd hnd 2 0 rfl rfl)).other W24 (nd hnd 2 0 rfl rfl))
  have V30 : Arv Z h24 c0 k_c0_20 .long (16 : Int32) ((.long e0) :: (.long (nxE e1 fe)) :: (er.map Value.long)) (.long (0 : Int64)) := ((V_c0_20.other W21 (nd hnd 3 0 rfl rfl)).other W24 (nd hnd 3 0 rfl rfl))
  have V31 : Arv Z h24 bF k_bF_20 .long (16 : Int32) ((.long f0) :: (.long f1) :: (fr.map Value.long)) (.long (0 : Int64)) := ((V_bF_20.other W21 (nd hnd 4 0 rfl rfl)).other W24 (nd hnd 4 0 rfl rfl))
  have V32 : Arv Z h24 bG k_bG_20 .long (16 : Int32) ((.long g0) :: (.long g1) :: (gr.map Value.long)) (.long (0 : Int64)) := ((V_bG_20.other W21 (nd hnd 5 0 rfl rfl)).other W24 (nd hnd 5 0 rfl rfl))
  have V33 : Arv Z h24 bO k_bO_20 .long (16 : Int32) ((.long q0) :: (.long q1) :: (qr.map Value.long)) (.long (0 : Int64)) := ((V_bO_20.other W21 (nd hnd 6 0 rfl rfl)).other W24 (nd hnd 6 0 rfl rfl))
  have V34 : Arv Z h24 bT k_bT_20 .int (16 : Int32) ((.int t0) :: (.int (1 : Int32)) :: (tr.map Value.int)) (.int (0 : Int32)) := ((V_bT_20.other W21 (nd hnd 8 0 rfl rfl)).other W24 (nd hnd 8 0 rfl rfl))
  have V35 : Arv Z h24 hP k_hP_20 .int (16 : Int32) ((.int (1 : Int32)) :: (.int p1) :: (pr.map Value.int)) (.int (0 : Int32)) := ((V_hP_20.other W21 (nd hnd 9 0 rfl rfl)).other W24 (nd hnd 9 0 rfl rfl))
  have V36 : Arv Z h24 nw k_nw_20 .int (32 : Int32) (ns.map Value.int) (.int (0 : Int32)) := ((V_nw_20.other W21 (nd hnd 10 0 rfl rfl)).other W24 (nd hnd 10 0 rfl rfl))
  refine E_callP (pc' := 90) (kc' := 0) (ks' := 0) (W := 0) (a := o) (argsL := []) cx st25 [] (rmheapPop1 l Z a0 hw o cl cs c0 bF bG bO bH bT hP nw h24 n0 Z24 gt (1 : Int32) eu (sz - (1 : Int32)) fb bu sta e0 (nxE e1 fe) er f0 f1 fr g0 g1 gr q0 q1 qr d0 (-1 : Int32) dr t0 (1 : Int32) tr (1 : Int32) p1 pr ns hnd hge ⟨X27, B24w, HL28, ⟨_, V29⟩, ⟨_, V30⟩, ⟨_, V31⟩, ⟨_, V32⟩, ⟨_, V33⟩, ⟨_, V26⟩, ⟨_, V34⟩, ⟨_, V35⟩, ⟨_, V36⟩⟩ ) X27 (wd hw 160 rfl) (wd hw 162 rfl) (wd hw 1 rfl) (wd hw 161 rfl) (wd hw 2 rfl) (wd hw 163 rfl) d22_87 rfl rfl (lenOf pd_10 rfl) (Nat.le_of_eq rfl) (by decide) (by decide) (by decide) (by decide) (by decide) (by decide) (by decide) rfl ?_
  intro v37 T37 h37 st37 hq37
  obtain ⟨rfl, Kw37, Hw37⟩ := hq37
  have Z37 : n0 ≤ h37.size := Nat.le_trans Z24 Kw37.1
  have KKw37' : Keep h0 h37 [o, c0, bF, bG, bO, bH, bT, hP, nw] := K24.trans Kw37 (allS (mi 0 rfl) (allS (mi 1 rfl) (allS (mi 2 rfl) (allS (mi 3 rfl) (allS (mi 4 rfl) (allS (mi 5 rfl) (allS (mi 6 rfl) (allS (mi 7 rfl) (allS (mi 8 rfl) all0)))))))))
  obtain ⟨X_o_37, B_o_37, HL_37, ⟨k_cs_37, V_cs_37⟩, ⟨k_c0_37, V_c0_37⟩, ⟨k_bF_37, V_bF_37⟩, ⟨k_bG_37, V_bG_37⟩, ⟨k_bO_37, V_bO_37⟩, ⟨k_bH_37, V_bH_37⟩, ⟨k_bT_37, V_bT_37⟩, ⟨k_hP_37, V_hP_37⟩, ⟨k_nw_37, V_nw_37⟩⟩ := Hw37
  refine E_aloadN (pc' := 91) cx st37 d22_90 rfl rfl rfl ?_
  refine E_getfield (pc' := 94) (v := (.ref bT)) cx st37 (wd hw 54 rfl) (B_o_37.at 9 (by decide) rfl rfl) d22_91 rfl ?_
  intro T38 st38
  refine E_iloadN (pc' := 95) cx st38 d22_94 rfl rfl ?_
  refine E_aloadN (pc' := 96) cx st38 d22_95 rfl rfl rfl ?_
  refine E_getfield (pc' := 99) (v := (.int fb)) cx st38 (wd hw 56 rfl) (B_o_37.at 10 (by decide) rfl rfl) d22_96 rfl ?_
  intro T39 st39
  refine E_iastore (pc' := 100) (i := 1) cx st39 V_bT_37 ⟨by decide, by decide⟩ rfl (Nat.succ_lt_succ (Nat.zero_lt_succ _)) g_bT d22_99 rfl ?_
  intro T40 h40 st40 W40 V40
  have Z40 : n0 ≤ h40.size := Nat.le_trans Z37 (Keep.of_wr W40).1
  have K40 : Keep h0 h40 [o, c0, bF, bG, bO, bH, bT, hP, nw] := KKw37'.wr W40 (mi 6 rfl)
  have V40p : Arv Z h40 bT k_bT_37 .int (16 : Int32) ((.int t0) :: (.int fb) :: (tr.map Value.int)) (.int (0 : Int32)) := V40
  refine E_aloadN (pc' := 101) cx st40 d22_100 rfl rfl rfl ?_
  refine E_iloadN (pc' := 102) cx st40 d22_101 rfl rfl ?_
  have B41 : OL Z h40 o [(.int gt), (.ref cl), (.int (1 : Int32)), (.int eu), (.int (sz - (1 : Int32))), (.ref bF), (.ref bG), (.ref bO), (.ref bH), (.ref bT), (.int fb), (.int bu), (.long sta), (.ref hP), (.int (0 : Int32)), (.ref nw)] := (B_o_37.other W40 (nd hnd 0 8 rfl rfl))
  have X42 : Exa Z h40 o "com/example/flat_planner/flatplanner/OpenList" := (X_o_37.wr W40)
  refine E_putfield (pc' := 105) (ty := .int) cx st40 (wd hw 56 rfl) (B41.at 10 (by decide) rfl rfl) X42 (Or.inl (wd hw 57 rfl)) (wd hw 1 rfl) (by decide) rfl rfl g_o d22_102 rfl ?_
  intro T43 h43 st43 W43
  have Z43 : n0 ≤ h43.size := Nat.le_trans Z40 (Keep.of_wr W43).1
  have K43 : Keep h0 h43 [o, c0, bF, bG, bO, bH, bT, hP, nw] := K40.wr W43 (mi 0 rfl)
  have B43w : OL Z h43 o [(.int gt), (.ref cl), (.int (1 : Int32)), (.int eu), (.int (sz - (1 : Int32))), (.ref bF), (.ref bG), (.ref bO), (.ref bH), (.ref bT), (.int (1 : Int32)), (.int bu), (.long sta), (.ref hP), (.int (0 : Int32)), (.ref nw)] := B41.wr hw 10 (by decide) rfl W43 (Nat.le_of_ble_eq_true rfl)
  refine E_iloadN (pc' := 106) cx st43 d22_105 rfl rfl ?_
  have X44 : Exa Z h43 o "com/example/flat_planner/flatplanner/OpenList" := (X42.wr W43)
  have HL45 : LCF Z h43 cl cs := ((HL_37.other W40 (nd hnd 1 8 rfl rfl)).other W43 (nd hnd 1 0 rfl rfl))
  have V46 : Arv Z h43 cs k_cs_37 (.array .long) (1 : Int32) [(.ref c0)] .null := ((V_cs_37.other W40 (nd hnd 2 8 rfl rfl)).other W43 (nd hnd 2 0 rfl rfl))
  have V47 : Arv Z h43 c0 k_c0_37 .long (16 : Int32) ((.long e0) :: (.long (nxE e1 fe)) :: (er.map Value.long)) (.long (0 : Int64)) := ((V_c0_37.other W40 (nd hnd 3 8 rfl rfl)).other W43 (nd hnd 3 0 rfl rfl))
  have V48 : Arv Z h43 bF k_bF_37 .long (16 : Int32) ((.long f0) :: (.long f1) :: (fr.map Value.long)) (.long (0 : Int64)) := ((V_bF_37.other W40 (nd hnd 4 8 rfl rfl)).other W43 (nd hnd 4 0 rfl rfl))
  have V49 : Arv Z h43 bG k_bG_37 .long (16 : Int32) ((.long g0) :: (.long g1) :: (gr.map Value.long)) (.long (0 : Int64)) := ((V_bG_37.other W40 (nd hnd 5 8 rfl rfl)).other W43 (nd hnd 5 0 rfl rfl))
  have V50 : Arv Z h43 bO k_bO_37 .long (16 : Int32) ((.long q0) :: (.long q1) :: (qr.map Value.long)) (.long (0 : Int64)) := ((V_bO_37.other W40 (nd hnd 6 8 rfl rfl)).other W43 (nd hnd 6 0 rfl rfl))
  have V51 : Arv Z h43 bH k_bH_37 .int (16 : Int32) ((.int d0) :: (.int (-1 : Int32)) :: (dr.map Value.int)) (.int (0 : Int32)) := ((V_bH_37.other W40 (nd hnd 7 8 rfl rfl)).other W43 (nd hnd 7 0 rfl rfl))
  have V52 : Arv Z h43 bT k_bT_37 .int (16 : Int32) ((.int t0) :: (.int fb) :: (tr.map Value.int)) (.int (0 : Int32)) := (V40p.other W43 (nd hnd 8 0 rfl rfl))
  have V53 : Arv Z h43 hP k_hP_37 .int (16 : Int32) ((.int (1 : Int32)) :: (.int p1) :: (pr.map Value.int)) (.int (0 : Int32)) := ((V_hP_37.other W40 (nd hnd 9 8 rfl rfl)).other W43 (nd hnd 9 0 rfl rfl))
  have V54 : Arv Z h43 nw k_nw_37 .int (32 : Int32) (ns.map Value.int) (.int (0 : Int32)) := ((V_nw_37.other W40 (nd hnd 10 8 rfl rfl)).other W43 (nd hnd 10 0 rfl rfl))
  refine E_ireturn (t := .int) cx st43 d22_106 rfl (by simp) rfl (by decide) (by decide) ?_
  exact ⟨rfl, K43, ⟨X44, B43w, HL45, ⟨_, V46⟩, ⟨_, V47⟩, ⟨_, V48⟩, ⟨_, V49⟩, ⟨_, V50⟩, ⟨_, V51⟩, ⟨_, V52⟩, ⟨_, V53⟩, ⟨_, V54⟩⟩⟩
theorem d18_0 : decode prog_16_method_4_code 0 = .ok (.iconst 0, 1) := by decide +kernel
theorem d18_1 : decode prog_16_method_4_code 1 = .ok (.istore_n 1, 1) := by decide +kernel
theorem d18_2 : decode prog_16_method_4_code 2 = .ok (.iload_n 1, 1) := by decide +kernel
theorem d18_3 : decode prog_16_method_4_code 3 = .ok (.aload_n 0, 1) := by decide +kernel
theorem d18_4 : decode prog_16_method_4_code 4 = .ok (.getfield 79, 3) := by decide +kernel
theorem d18_7 : decode prog_16_method_4_code 7 = .ok (.if_icmp .ge 21, 3) := by decide +kernel
theorem d18_10 : decode prog_16_method_4_code 10 = .ok (.aload_n 0, 1) := by decide +kernel
theorem d18_11 : decode prog_16_method_4_code 11 = .ok (.getfield 32, 3) := by decide +kernel
theorem d18_14 : decode prog_16_method_4_code 14 = .ok (.aload_n 0, 1) := by decide +kernel
theorem d18_15 : decode prog_16_method_4_code 15 = .ok (.getfield 42, 3) := by decide +kernel
theorem d18_18 : decode prog_16_method_4_code 18 = .ok (.iload_n 1, 1) := by decide +kernel
theorem d18_19 : decode prog_16_method_4_code 19 = .ok (.iaload, 1) := by decide +kernel
theorem d18_20 : decode prog_16_method_4_code 20 = .ok (.iconst (-1), 1) := by decide +kernel
theorem d18_21 : decode prog_16_method_4_code 21 = .ok (.iastore, 1) := by decide +kernel
theorem d18_22 : decode prog_16_method_4_code 22 = .ok (.iinc 1 1, 3) := by decide +kernel
theorem d18_25 : decode prog_16_method_4_code 25 = .ok (.goto (-23), 3) := by decide +kernel
theorem d18_28 : decode prog_16_method_4_code 28 = .ok (.aload_n 0, 1) := by decide +kernel
theorem d18_29 : decode prog_16_method_4_code 29 = .ok (.iconst 0, 1) := by decide +kernel
theorem d18_30 : decode prog_16_method_4_code 30 = .ok (.putfield 79, 3) := by decide +kernel
theorem d18_33 : decode prog_16_method_4_code 33 = .ok (.aload_n 0, 1) := by decide +kernel
theorem d18_34 : decode prog_16_method_4_code 34 = .ok (.iconst 0, 1) := by decide +kernel
theorem d18_35 : decode prog_16_method_4_code 35 = .ok (.putfield 58, 3) := by decide +kernel
theorem d18_38 : decode prog_16_method_4_code 38 = .ok (.aload_n 0, 1) := by decide +kernel
theorem d18_39 : decode prog_16_method_4_code 39 = .ok (.iconst (-1), 1) := by decide +kernel
theorem d18_40 : decode prog_16_method_4_code 40 = .ok (.putfield 18, 3) := by decide +kernel
theorem d18_43 : decode prog_16_method_4_code 43 = .ok (.aload_n 0, 1) := by decide +kernel
theorem d18_44 : decode prog_16_method_4_code 44 = .ok (.iconst 0, 1) := by decide +kernel
theorem d18_45 : decode prog_16_method_4_code 45 = .ok (.putfield 82, 3) := by decide +kernel
theorem d18_48 : decode prog_16_method_4_code 48 = .ok (.aload_n 0, 1) := by decide +kernel
theorem d18_49 : decode prog_16_method_4_code 49 = .ok (.iconst (-1), 1) := by decide +kernel
theorem d18_50 : decode prog_16_method_4_code 50 = .ok (.putfield 39, 3) := by decide +kernel
theorem d18_53 : decode prog_16_method_4_code 53 = .ok (.aload_n 0, 1) := by decide +kernel
theorem d18_54 : decode prog_16_method_4_code 54 = .ok (.iconst 0, 1) := by decide +kernel
theorem d18_55 : decode prog_16_method_4_code 55 = .ok (.putfield 85, 3) := by decide +kernel
theorem d18_58 : decode prog_16_method_4_code 58 = .ok (.aload_n 0, 1) := by decide +kernel
theorem d18_59 : decode prog_16_method_4_code 59 = .ok (.lconst 0, 1) := by decide +kernel
theorem d18_60 : decode prog_16_method_4_code 60 = .ok (.putfield 88, 3) := by decide +kernel
theorem d18_63 : decode prog_16_method_4_code 63 = .ok (.return_, 1) := by decide +kernel
theorem ef_clear (m : MethodId) (x0 : Addr) : entryFrame m #[(.ref x0)] 2 = mkF m 0 #[.val (.ref x0), .unset] [] := by first | (simp [entryFrame, mkF, argsToLocals, Value.category]; done) | rfl
set_option maxRecDepth 65536 in
set_option maxHeartbeats 40000000 in
theorem rmclear (l : Launch) (Z : State) (a0 : Array Value) (hw : ∀ d ∈ tables_1, d.before a0 Z = true) (o : Addr) (cl : Addr) (cs : Addr) (c0 : Addr) (bF : Addr) (bG : Addr) (bO : Addr) (bH : Addr) (bT : Addr) (hP : Addr) (nw : Addr) (h0 : Heap) (n0 : Nat) (Z0 : n0 ≤ h0.size) (gt : Int32) (fe : Int32) (eu : Int32) (sz : Int32) (fb : Int32) (bu : Int32) (sta : Int64) (e0 : Int64) (e1 : Int64) (er : List Int64) (f0 : Int64) (f1 : Int64) (fr : List Int64) (g0 : Int64) (g1 : Int64) (gr : List Int64) (q0 : Int64) (q1 : Int64) (qr : List Int64) (d0 : Int32) (d1 : Int32) (dr : List Int32) (t0 : Int32) (t1 : Int32) (tr : List Int32) (p0 : Int32) (p1 : Int32) (pr : List Int32) (ns : List Int32) (hnd : [o, cl, cs, c0, bF, bG, bO, bH, bT, hP, nw].Nodup) (hge : ∀ a ∈ [o, cl, cs, c0, bF, bG, bO, bH, bT, hP, nw], n0 ≤ a) (H0 : Wd Z h0 o cl cs c0 bF bG bO bH bT hP nw gt fe eu sz fb bu (0 : Int32) sta e0 e1 er f0 f1 fr g0 g1 gr q0 q1 qr d0 d1 dr t0 t1 tr p0 p1 pr ns)  :
    Con l Z (⟨"com/example/flat_planner/flatplanner/OpenList", "clear", "()V"⟩ : MethodName) prog_16_method_4_code 2 none ({ frames := 0, cells := 0, slots := 0, locals := 0 } : Room) #[(.ref o)] h0 n0 (fun v h => v = none ∧ Keep h0 h [o, c0, bF, bG, bO, bH, bT, hP, nw] ∧ Wd Z h o cl cs c0 bF bG bO bH bT hP nw gt (-1 : Int32) (0 : Int32) (0 : Int32) (-1 : Int32) (0 : Int32) (0 : Int32) (0 : Int64) e0 e1 er f0 f1 fr g0 g1 gr q0 q1 qr d0 d1 dr t0 t1 tr p0 p1 pr ns) := by
  refine Con.of (own := "com/example/flat_planner/flatplanner/OpenList") (name := "clear") (plainFor_of_name pn_3) (fun m => ef_clear m o) rfl rfl ?_
  intro p e s m below meth c T F S cx st
  have g_o : n0 ≤ o := hge o (by simp)
  have g_c0 : n0 ≤ c0 := hge c0 (by simp)
  have g_bF : n0 ≤ bF := hge bF (by simp)
  have g_bG : n0 ≤ bG := hge bG (by simp)
  have g_bO : n0 ≤ bO := hge bO (by simp)
  have g_bH : n0 ≤ bH := hge bH (by simp)
  have g_bT : n0 ≤ bT := hge bT (by simp)
  have g_hP : n0 ≤ hP := hge hP (by simp)
  have g_nw : n0 ≤ nw := hge nw (by simp)
  obtain ⟨X_o, B_o, HL, ⟨k_cs, V_cs⟩, ⟨k_c0, V_c0⟩, ⟨k_bF, V_bF⟩, ⟨k_bG, V_bG⟩, ⟨k_bO, V_bO⟩, ⟨k_bH, V_bH⟩, ⟨k_bT, V_bT⟩, ⟨k_hP, V_hP⟩, ⟨k_nw, V_nw⟩⟩ := H0
  refine E_iconst (pc' := 1) cx st (0 : Int32) d18_0 rfl rfl ?_
  refine E_istoreN (pc' := 2) (L' := #[.val (.ref o), .val (.int (0 : Int32))]) cx st d18_1 rfl rfl ?_
  refine E_iloadN (pc' := 3) cx st d18_2 rfl rfl ?_
  refine E_aloadN (pc' := 4) cx st d18_3 rfl rfl rfl ?_
  refine E_getfield (pc' := 7) (v := (.int (0 : Int32))) cx st (wd hw 116 rfl) (B_o.at 14 (by decide) rfl rfl) d18_4 rfl ?_
  intro T1 st1
  refine E_icmp_geY (pc' := 28) cx st1 d18_7 (by decide) (by decide) (by decide) ?_
  refine E_aloadN (pc' := 29) cx st1 d18_28 rfl rfl rfl ?_
  refine E_iconst (pc' := 30) cx st1 (0 : Int32) d18_29 rfl rfl ?_
  refine E_putfield (pc' := 33) (ty := .int) cx st1 (wd hw 116 rfl) (B_o.at 14 (by decide) rfl rfl) X_o (Or.inl (wd hw 117 rfl)) (wd hw 1 rfl) (by decide) rfl rfl g_o d18_30 rfl ?_
  intro T2 h2 st2 W2
  have Z2 : n0 ≤ h2.size := Nat.le_trans Z0 (Keep.of_wr W2).1
  have K2 : Keep h0 h2 [o, c0, bF, bG, bO, bH, bT, hP, nw] := (Keep.refl h0 [o, c0, bF, bG, bO, bH, bT, hP, nw]).wr W2 (mi 0 rfl)
  have B2w : OL Z h2 o [(.int gt), (.ref cl), (.int fe), (.int eu), (.int sz), (.ref bF), (.ref bG), (.ref bO), (.ref bH), (.ref bT), (.int fb), (.int bu), (.long sta), (.ref hP), (.int (0 : Int32)), (.ref nw)] := B_o.wr hw 14 (by decide) rfl W2 (Nat.le_of_ble_eq_true rfl)
  refine E_aloadN (pc' := 34) cx st2 d18_33 rfl rfl rfl ?_
  refine E_iconst (pc' := 35) cx st2 (0 : Int32) d18_34 rfl rfl ?_
  have X3 : Exa Z h2 o "com/example/flat_planner/flatplanner/OpenList" := (X_o.wr W2)
  refine E_putfield (pc' := 38) (ty := .int) cx st2 (wd hw 118 rfl) (B2w.at 4 (by decide) rfl rfl) X3 (Or.inl (wd hw 119 rfl)) (wd hw 1 rfl) (by decide) rfl rfl g_o d18_35 rfl ?_
  intro T4 h4 st4 W4
  have Z4 : n0 ≤ h4.size := Nat.le_trans Z2 (Keep.of_wr W4).1
  have K4 : Keep h0 h4 [o, c0, bF, bG, bO, bH, bT, hP, nw] := K2.wr W4 (mi 0 rfl)
  have B4w : OL Z h4 o [(.int gt), (.ref cl), (.int fe), (.int eu), (.int (0 : Int32)), (.ref bF), (.ref bG), (.ref bO), (.ref bH), (.ref bT), (.int fb), (.int bu), (.long sta), (.ref hP), (.int (0 : Int32)), (.ref nw)] := B2w.wr hw 4 (by decide) rfl W4 (Nat.le_of_ble_eq_true rfl)
  refine E_aloadN (pc' := 39) cx st4 d18_38 rfl rfl rfl ?_
  refine E_iconst (pc' := 40) cx st4 (-1 : Int32) d18_39 rfl rfl ?_
  have X5 : Exa Z h4 o "com/example/flat_planner/flatplanner/OpenList" := (X3.wr W4)
  refine E_putfield (pc' := 43) (ty := .int) cx st4 (wd hw 43 rfl) (B4w.at 2 (by decide) rfl rfl) X5 (Or.inl (wd hw 44 rfl)) (wd hw 1 rfl) (by decide) rfl rfl g_o d18_40 rfl ?_
  intro T6 h6 st6 W6
  have Z6 : n0 ≤ h6.size := Nat.le_trans Z4 (Keep.of_wr W6).1
  have K6 : Keep h0 h6 [o, c0, bF, bG, bO, bH, bT, hP, nw] := K4.wr W6 (mi 0 rfl)
  have B6w : OL Z h6 o [(.int gt), (.ref cl), (.int (-1 : Int32)), (.int eu), (.int (0 : Int32)), (.ref bF), (.ref bG), (.ref bO), (.ref bH), (.ref bT), (.int fb), (.int bu), (.long sta), (.ref hP), (.int (0 : Int32)), (.ref nw)] := B4w.wr hw 2 (by decide) rfl W6 (Nat.le_of_ble_eq_true rfl)
  refine E_aloadN (pc' := 44) cx st6 d18_43 rfl rfl rfl ?_
  refine E_iconst (pc' := 45) cx st6 (0 : Int32) d18_44 rfl rfl ?_
  have X7 : Exa Z h6 o "com/example/flat_planner/flatplanner/OpenList" := (X5.wr W6)
  refine E_putfield (pc' := 48) (ty := .int) cx st6 (wd hw 77 rfl) (B6w.at 3 (by decide) rfl rfl) X7 (Or.inl (wd hw 78 rfl)) (wd hw 1 rfl) (by decide) rfl rfl g_o d18_45 rfl ?_
  intro T8 h8 st8 W8
  have Z8 : n0 ≤ h8.size := Nat.le_trans Z6 (Keep.of_wr W8).1
  have K8 : Keep h0 h8 [o, c0, bF, bG, bO, bH, bT, hP, nw] := K6.wr W8 (mi 0 rfl)
  have B8w : OL Z h8 o [(.int gt), (.ref cl), (.int (-1 : Int32)), (.int (0 : Int32)), (.int (0 : Int32)), (.ref bF), (.ref bG), (.ref bO), (.ref bH), (.ref bT), (.int fb), (.int bu), (.long sta), (.ref hP), (.int (0 : Int32)), (.ref nw)] := B6w.wr hw 3 (by decide) rfl W8 (Nat.le_of_ble_eq_true rfl)
  refine E_aloadN (pc' := 49) cx st8 d18_48 rfl rfl rfl ?_
  refine E_iconst (pc' := 50) cx st8 (-1 : Int32) d18_49 rfl rfl ?_
  have X9 : Exa Z h8 o "com/example/flat_planner/flatplanner/OpenList" := (X7.wr W8)
  refine E_putfield (pc' := 53) (ty := .int) cx st8 (wd hw 56 rfl) (B8w.at 10 (by decide) rfl rfl) X9 (Or.inl (wd hw 57 rfl)) (wd hw 1 rfl) (by decide) rfl rfl g_o d18_50 rfl ?_
  intro T10 h10 st10 W10
  have Z10 : n0 ≤ h10.size := Nat.le_trans Z8 (Keep.of_wr W10).1
  have K10 : Keep h0 h10 [o, c0, bF, bG, bO, bH, bT, hP, nw] := K8.wr W10 (mi 0 rfl)
  have B10w : OL Z h10 o [(.int gt), (.ref cl), (.int (-1 : Int32)), (.int (0 : Int32)), (.int (0 : Int32)), (.ref bF), (.ref bG), (.ref bO), (.ref bH), (.ref bT), (.int (-1 : Int32)), (.int bu), (.long sta), (.ref hP), (.int (0 : Int32)), (.ref nw)] := B8w.wr hw 10 (by decide) rfl W10 (Nat.le_of_ble_eq_true rfl)
  refine E_aloadN (pc' := 54) cx st10 d18_53 rfl rfl rfl ?_
  refine E_iconst (pc' := 55) cx st10 (0 : Int32) d18_54 rfl rfl ?_
  have X11 : Exa Z h10 o "com/example/flat_planner/flatplanner/OpenList" := (X9.wr W10)
  refine E_putfield (pc' := 58) (ty := .int) cx st10 (wd hw 108 rfl) (B10w.at 11 (by decide) rfl rfl) X11 (Or.inl (wd hw 109 rfl)) (wd hw 1 rfl) (by decide) rfl rfl g_o d18_55 rfl ?_
  intro T12 h12 st12 W12
  have Z12 : n0 ≤ h12.size := Nat.le_trans Z10 (Keep.of_wr W12).1
  have K12 : Keep h0 h12 [o, c0, bF, bG, bO, bH, bT, hP, nw] := K10.wr W12 (mi 0 rfl)
  have B12w : OL Z h12 o [(.int gt), (.ref cl), (.int (-1 : Int32)), (.int (0 : Int32)), (.int (0 : Int32)), (.ref bF), (.ref bG), (.ref bO), (.ref bH), (.ref bT), (.int (-1 : Int32)), (.int (0 : Int32)), (.long sta), (.ref hP), (.int (0 : Int32)), (.ref nw)] := B10w.wr hw 11 (by decide) rfl W12 (Nat.le_of_ble_eq_true rfl)
  refine E_aloadN (pc' := 59) cx st12 d18_58 rfl rfl rfl ?_
  refine E_lconst (pc' := 60) cx st12 (0 : Int64) d18_59 rfl rfl ?_
  have X13 : Exa Z h12 o "com/example/flat_planner/flatplanner/OpenList" := (X11.wr W12)
  refine E_putfield (pc' := 63) (ty := .long) cx st12 (wd hw 110 rfl) (B12w.at 12 (by decide) rfl rfl) X13 (Or.inl (wd hw 111 rfl)) (wd hw 1 rfl) (by decide) rfl rfl g_o d18_60 rfl ?_
  intro T14 h14 st14 W14
  have Z14 : n0 ≤ h14.size := Nat.le_trans Z12 (Keep.of_wr W14).1
  have K14 : Keep h0 h14 [o, c0, bF, bG, bO, bH, bT, hP, nw] := K12.wr W14 (mi 0 rfl)
  have B14w : OL Z h14 o [(.int gt), (.ref cl), (.int (-1 : Int32)), (.int (0 : Int32)), (.int (0 : Int32)), (.ref bF), (.ref bG), (.ref bO), (.ref bH), (.ref bT), (.int (-1 : Int32)), (.int (0 : Int32)), (.long (0 : Int64)), (.ref hP), (.int (0 : Int32)), (.ref nw)] := B12w.wr hw 12 (by decide) rfl W14 (Nat.le_of_ble_eq_true rfl)
  have X15 : Exa Z h14 o "com/example/flat_planner/flatplanner/OpenList" := (X13.wr W14)
  have HL16 : LCF Z h14 cl cs := (((((((HL.other W2 (nd hnd 1 0 rfl rfl)).other W4 (nd hnd 1 0 rfl rfl)).other W6 (nd hnd 1 0 rfl rfl)).other W8 (nd hnd 1 0 rfl rfl)).other W10 (nd hnd 1 0 rfl rfl)).other W12 (nd hnd 1 0 rfl rfl)).other W14 (nd hnd 1 0 rfl rfl))
  have V17 : Arv Z h14 cs k_cs (.array .long) (1 : Int32) [(.ref c0)] .null := (((((((V_cs.other W2 (nd hnd 2 0 rfl rfl)).other W4 (nd hnd 2 0 rfl rfl)).other W6 (nd hnd 2 0 rfl rfl)).other W8 (nd hnd 2 0 rfl rfl)).other W10 (nd hnd 2 0 rfl rfl)).other W12 (nd hnd 2 0 rfl rfl)).other W14 (nd hnd 2 0 rfl rfl))
  have V18 : Arv Z h14 c0 k_c0 .long (16 : Int32) ((.long e0) :: (.long e1) :: (er.map Value.long)) (.long (0 : Int64)) := (((((((V_c0.other W2 (nd hnd 3 0 rfl rfl)).other W4 (nd hnd 3 0 rfl rfl)).other W6 (nd hnd 3 0 rfl rfl)).other W8 (nd hnd 3 0 rfl rfl)).other W10 (nd hnd 3 0 rfl rfl)).other W12 (nd hnd 3 0 rfl rfl)).other W14 (nd hnd 3 0 rfl rfl))
  have V19 : Arv Z h14 bF k_bF .long (16 : Int32) ((.long f0) :: (.long f1) :: (fr.map Value.long)) (.long (0 : Int64)) := (((((((V_bF.other W2 (nd hnd 4 0 rfl rfl)).other W4 (nd hnd 4 0 rfl rfl)).other W6 (nd hnd 4 0 rfl rfl)).other W8 (nd hnd 4 0 rfl rfl)).other W10 (nd hnd 4 0 rfl rfl)).other W12 (nd hnd 4 0 rfl rfl)).other W14 (nd hnd 4 0 rfl rfl))
  have V20 : Arv Z h14 bG k_bG .long (16 : Int32) ((.long g0) :: (.long g1) :: (gr.map Value.long)) (.long (0 : Int64)) := (((((((V_bG.other W2 (nd hnd 5 0 rfl rfl)).other W4 (nd hnd 5 0 rfl rfl)).other W6 (nd hnd 5 0 rfl rfl)).other W8 (nd hnd 5 0 rfl rfl)).other W10 (nd hnd 5 0 rfl rfl)).other W12 (nd hnd 5 0 rfl rfl)).other W14 (nd hnd 5 0 rfl rfl))
  have V21 : Arv Z h14 bO k_bO .long (16 : Int32) ((.long q0) :: (.long q1) :: (qr.map Value.long)) (.long (0 : Int64)) := (((((((V_bO.other W2 (nd hnd 6 0 rfl rfl)).other W4 (nd hnd 6 0 rfl rfl)).other W6 (nd hnd 6 0 rfl rfl)).other W8 (nd hnd 6 0 rfl rfl)).other W10 (nd hnd 6 0 rfl rfl)).other W12 (nd hnd 6 0 rfl rfl)).other W14 (nd hnd 6 0 rfl rfl))
  have V22 : Arv Z h14 bH k_bH .int (16 : Int32) ((.int d0) :: (.int d1) :: (dr.map Value.int)) (.int (0 : Int32)) := (((((((V_bH.other W2 (nd hnd 7 0 rfl rfl)).other W4 (nd hnd 7 0 rfl rfl)).other W6 (nd hnd 7 0 rfl rfl)).other W8 (nd hnd 7 0 rfl rfl)).other W10 (nd hnd 7 0 rfl rfl)).other W12 (nd hnd 7 0 rfl rfl)).other W14 (nd hnd 7 0 rfl rfl))
  have V23 : Arv Z h14 bT k_bT .int (16 : Int32) ((.int t0) :: (.int t1) :: (tr.map Value.int)) (.int (0 : Int32)) := (((((((V_bT.other W2 (nd hnd 8 0 rfl rfl)).other W4 (nd hnd 8 0 rfl rfl)).other W6 (nd hnd 8 0 rfl rfl)).other W8 (nd hnd 8 0 rfl rfl)).other W10 (nd hnd 8 0 rfl rfl)).other W12 (nd hnd 8 0 rfl rfl)).other W14 (nd hnd 8 0 rfl rfl))
  have V24 : Arv Z h14 hP k_hP .int (16 : Int32) ((.int p0) :: (.int p1) :: (pr.map Value.int)) (.int (0 : Int32)) := (((((((V_hP.other W2 (nd hnd 9 0 rfl rfl)).other W4 (nd hnd 9 0 rfl rfl)).other W6 (nd hnd 9 0 rfl rfl)).other W8 (nd hnd 9 0 rfl rfl)).other W10 (nd hnd 9 0 rfl rfl)).other W12 (nd hnd 9 0 rfl rfl)).other W14 (nd hnd 9 0 rfl rfl))
  have V25 : Arv Z h14 nw k_nw .int (32 : Int32) (ns.map Value.int) (.int (0 : Int32)) := (((((((V_nw.other W2 (nd hnd 10 0 rfl rfl)).other W4 (nd hnd 10 0 rfl rfl)).other W6 (nd hnd 10 0 rfl rfl)).other W8 (nd hnd 10 0 rfl rfl)).other W10 (nd hnd 10 0 rfl rfl)).other W12 (nd hnd 10 0 rfl rfl)).other W14 (nd hnd 10 0 rfl rfl))
  refine E_return cx st14 d18_63 rfl (by decide) (by decide) ?_
  exact ⟨rfl, K14, ⟨X15, B14w, HL16, ⟨_, V17⟩, ⟨_, V18⟩, ⟨_, V19⟩, ⟨_, V20⟩, ⟨_, V21⟩, ⟨_, V22⟩, ⟨_, V23⟩, ⟨_, V24⟩, ⟨_, V25⟩⟩⟩
theorem ef_clear0 (m : MethodId) (x0 : Addr) : entryFrame m #[(.ref x0)] 2 = mkF m 0 #[.val (.ref x0), .unset] [] := by first | (simp [entryFrame, mkF, argsToLocals, Value.category]; done) | rfl
set_option maxRecDepth 65536 in
set_option maxHeartbeats 40000000 in
theorem rmclear0 (l : Launch) (Z : State) (a0 : Array Value) (hw : ∀ d ∈ tables_1, d.before a0 Z = true) (o : Addr) (cl : Addr) (cs : Addr) (c0 : Addr) (bF : Addr) (bG : Addr) (bO : Addr) (bH : Addr) (bT : Addr) (hP : Addr) (nw : Addr) (h0 : Heap) (n0 : Nat) (Z0 : n0 ≤ h0.size) (gt : Int32) (fe : Int32) (eu : Int32) (sz : Int32) (fb : Int32) (bu : Int32) (sta : Int64) (e0 : Int64) (e1 : Int64) (er : List Int64) (f0 : Int64) (f1 : Int64) (fr : List Int64) (g0 : Int64) (g1 : Int64) (gr : List Int64) (q0 : Int64) (q1 : Int64) (qr : List Int64) (d0 : Int32) (d1 : Int32) (dr : List Int32) (t0 : Int32) (t1 : Int32) (tr : List Int32) (p1 : Int32) (pr : List Int32) (ns : List Int32) (hnd : [o, cl, cs, c0, bF, bG, bO, bH, bT, hP, nw].Nodup) (hge : ∀ a ∈ [o, cl, cs, c0, bF, bG, bO, bH, bT, hP, nw], n0 ≤ a) (H0 : Wd Z h0 o cl cs c0 bF bG bO bH bT hP nw gt fe eu sz fb bu (1 : Int32) sta e0 e1 er f0 f1 fr g0 g1 gr q0 q1 qr d0 d1 dr t0 t1 tr (0 : Int32) p1 pr ns)  :
    Con l Z (⟨"com/example/flat_planner/flatplanner/OpenList", "clear", "()V"⟩ : MethodName) prog_16_method_4_code 2 none ({ frames := 0, cells := 0, slots := 0, locals := 0 } : Room) #[(.ref o)] h0 n0 (fun v h => v = none ∧ Keep h0 h [o, c0, bF, bG, bO, bH, bT, hP, nw] ∧ Wd Z h o cl cs c0 bF bG bO bH bT hP nw gt (-1 : Int32) (0 : Int32) (0 : Int32) (-1 : Int32) (0 : Int32) (0 : Int32) (0 : Int64) e0 e1 er f0 f1 fr g0 g1 gr q0 q1 qr (-1 : Int32) d1 dr t0 t1 tr (0 : Int32) p1 pr ns) := by
  refine Con.of (own := "com/example/flat_planner/flatplanner/OpenList") (name := "clear") (plainFor_of_name pn_3) (fun m => ef_clear0 m o) rfl rfl ?_
  intro p e s m below meth c T F S cx st
  have g_o : n0 ≤ o := hge o (by simp)
  have g_c0 : n0 ≤ c0 := hge c0 (by simp)
  have g_bF : n0 ≤ bF := hge bF (by simp)
  have g_bG : n0 ≤ bG := hge bG (by simp)
  have g_bO : n0 ≤ bO := hge bO (by simp)
  have g_bH : n0 ≤ bH := hge bH (by simp)
  have g_bT : n0 ≤ bT := hge bT (by simp)
  have g_hP : n0 ≤ hP := hge hP (by simp)
  have g_nw : n0 ≤ nw := hge nw (by simp)
  obtain ⟨X_o, B_o, HL, ⟨k_cs, V_cs⟩, ⟨k_c0, V_c0⟩, ⟨k_bF, V_bF⟩, ⟨k_bG, V_bG⟩, ⟨k_bO, V_bO⟩, ⟨k_bH, V_bH⟩, ⟨k_bT, V_bT⟩, ⟨k_hP, V_hP⟩, ⟨k_nw, V_nw⟩⟩ := H0
  refine E_iconst (pc' := 1) cx st (0 : Int32) d18_0 rfl rfl ?_
  refine E_istoreN (pc' := 2) (L' := #[.val (.ref o), .val (.int (0 : Int32))]) cx st d18_1 rfl rfl ?_
  refine E_iloadN (pc' := 3) cx st d18_2 rfl rfl ?_
  refine E_aloadN (pc' := 4) cx st d18_3 rfl rfl rfl ?_
  refine E_getfield (pc' := 7) (v := (.int (1 : Int32))) cx st (wd hw 116 rfl) (B_o.at 14 (by decide) rfl rfl) d18_4 rfl ?_
  intro T1 st1
  refine E_icmp_geN (pc' := 10) cx st1 d18_7 rfl (by decide) ?_
  refine E_aloadN (pc' := 11) cx st1 d18_10 rfl rfl rfl ?_
  refine E_getfield (pc' := 14) (v := (.ref bH)) cx st1 (wd hw 52 rfl) (B_o.at 8 (by decide) rfl rfl) d18_11 rfl ?_
  intro T2 st2
  refine E_aloadN (pc' := 15) cx st2 d18_14 rfl rfl rfl ?_
  refine E_getfield (pc' := 18) (v := (.ref hP)) cx st2 (wd hw 58 rfl) (B_o.at 13 (by decide) rfl rfl) d18_15 rfl ?_
  intro T3 st3
  refine E_iloadN (pc' := 19) cx st3 d18_18 rfl rfl ?_
  refine E_iaload (pc' := 20) (x := (0 : Int32)) cx st3 V_hP ⟨by decide, by decide⟩ rfl d18_19 rfl ?_
  refine E_iconst (pc' := 21) cx st3 (-1 : Int32) d18_20 rfl rfl ?_
  refine E_iastore (pc' := 22) (i := 0) cx st3 V_bH ⟨by decide, by decide⟩ rfl (Nat.zero_lt_succ _) g_bH d18_21 rfl ?_
  intro T4 h4 st4 W4 V4
  have Z4 : n0 ≤ h4.size := Nat.le_trans Z0 (Keep.of_wr W4).1
  have K4 : Keep h0 h4 [o, c0, bF, bG, bO, bH, bT, hP, nw] := (Keep.refl h0 [o, c0, bF, bG, bO, bH, bT, hP, nw]).wr W4 (mi 5 rfl)
  have V4p : Arv Z h4 bH k_bH .int (16 : Int32) ((.int (-1 : Int32)) :: (.int d1) :: (dr.map Value.int)) (.int (0 : Int32)) := V4
  refine E_iinc (pc' := 25) (L' := #[.val (.ref o), .val (.int (1 : Int32))]) cx st4 (1 : Int32) d18_22 rfl rfl rfl rfl ?_
  refine E_goto (pc' := 2) cx st4 d18_25 (by decide) (by decide) ?_
  refine E_iloadN (pc' := 3) cx st4 d18_2 rfl rfl ?_
  refine E_aloadN (pc' := 4) cx st4 d18_3 rfl rfl rfl ?_
  have B6 : OL Z h4 o [(.int gt), (.ref cl), (.int fe), (.int eu), (.int sz), (.ref bF), (.ref bG), (.ref bO), (.ref bH), (.ref bT), (.int fb), (.int bu), (.long sta), (.ref hP), (.int (1 : Int32)), (.ref nw)] := (B_o.other W4 (nd hnd 0 7 rfl rfl))
  refine E_getfield (pc' := 7) (v := (.int (1 : Int32))) cx st4 (wd hw 116 rfl) (B6.at 14 (by decide) rfl rfl) d18_4 rfl ?_
  intro T5 st5
  refine E_icmp_geY (pc' := 28) cx st5 d18_7 (by decide) (by decide) (by decide) ?_
  refine E_aloadN (pc' := 29) cx st5 d18_28 rfl rfl rfl ?_
  refine E_iconst (pc' := 30) cx st5 (0 : Int32) d18_29 rfl rfl ?_
  have X7 : Exa Z h4 o "com/example/flat_planner/flatplanner/OpenList" := (X_o.wr W4)
  refine E_putfield (pc' := 33) (ty := .int) cx st5 (wd hw 116 rfl) (B6.at 14 (by decide) rfl rfl) X7 (Or.inl (wd hw 117 rfl)) (wd hw 1 rfl) (by decide) rfl rfl g_o d18_30 rfl ?_
  intro T8 h8 st8 W8
  have Z8 : n0 ≤ h8.size := Nat.le_trans Z4 (Keep.of_wr W8).1
  have K8 : Keep h0 h8 [o, c0, bF, bG, bO, bH, bT, hP, nw] := K4.wr W8 (mi 0 rfl)
  have B8w : OL Z h8 o [(.int gt), (.ref cl), (.int fe), (.int eu), (.int sz), (.ref bF), (.ref bG), (.ref bO), (.ref bH), (.ref bT), (.int fb), (.int bu), (.long sta), (.ref hP), (.int (0 : Int32)), (.ref nw)] := B6.wr hw 14 (by decide) rfl W8 (Nat.le_of_ble_eq_true rfl)
  refine E_aloadN (pc' := 34) cx st8 d18_33 rfl rfl rfl ?_
  refine E_iconst (pc' := 35) cx st8 (0 : Int32) d18_34 rfl rfl ?_
  have X9 : Exa Z h8 o "com/example/flat_planner/flatplanner/OpenList" := (X7.wr W8)
  refine E_putfield (pc' := 38) (ty := .int) cx st8 (wd hw 118 rfl) (B8w.at 4 (by decide) rfl rfl) X9 (Or.inl (wd hw 119 rfl)) (wd hw 1 rfl) (by decide) rfl rfl g_o d18_35 rfl ?_
  intro T10 h10 st10 W10
  have Z10 : n0 ≤ h10.size := Nat.le_trans Z8 (Keep.of_wr W10).1
  have K10 : Keep h0 h10 [o, c0, bF, bG, bO, bH, bT, hP, nw] := K8.wr W10 (mi 0 rfl)
  have B10w : OL Z h10 o [(.int gt), (.ref cl), (.int fe), (.int eu), (.int (0 : Int32)), (.ref bF), (.ref bG), (.ref bO), (.ref bH), (.ref bT), (.int fb), (.int bu), (.long sta), (.ref hP), (.int (0 : Int32)), (.ref nw)] := B8w.wr hw 4 (by decide) rfl W10 (Nat.le_of_ble_eq_true rfl)
  refine E_aloadN (pc' := 39) cx st10 d18_38 rfl rfl rfl ?_
  refine E_iconst (pc' := 40) cx st10 (-1 : Int32) d18_39 rfl rfl ?_
  have X11 : Exa Z h10 o "com/example/flat_planner/flatplanner/OpenList" := (X9.wr W10)
  refine E_putfield (pc' := 43) (ty := .int) cx st10 (wd hw 43 rfl) (B10w.at 2 (by decide) rfl rfl) X11 (Or.inl (wd hw 44 rfl)) (wd hw 1 rfl) (by decide) rfl rfl g_o d18_40 rfl ?_
  intro T12 h12 st12 W12
  have Z12 : n0 ≤ h12.size := Nat.le_trans Z10 (Keep.of_wr W12).1
  have K12 : Keep h0 h12 [o, c0, bF, bG, bO, bH, bT, hP, nw] := K10.wr W12 (mi 0 rfl)
  have B12w : OL Z h12 o [(.int gt), (.ref cl), (.int (-1 : Int32)), (.int eu), (.int (0 : Int32)), (.ref bF), (.ref bG), (.ref bO), (.ref bH), (.ref bT), (.int fb), (.int bu), (.long sta), (.ref hP), (.int (0 : Int32)), (.ref nw)] := B10w.wr hw 2 (by decide) rfl W12 (Nat.le_of_ble_eq_true rfl)
  refine E_aloadN (pc' := 44) cx st12 d18_43 rfl rfl rfl ?_
  refine E_iconst (pc' := 45) cx st12 (0 : Int32) d18_44 rfl rfl ?_
  have X13 : Exa Z h12 o "com/example/flat_planner/flatplanner/OpenList" := (X11.wr W12)
  refine E_putfield (pc' := 48) (ty := .int) cx st12 (wd hw 77 rfl) (B12w.at 3 (by decide) rfl rfl) X13 (Or.inl (wd hw 78 rfl)) (wd hw 1 rfl) (by decide) rfl rfl g_o d18_45 rfl ?_
  intro T14 h14 st14 W14
  have Z14 : n0 ≤ h14.size := Nat.le_trans Z12 (Keep.of_wr W14).1
  have K14 : Keep h0 h14 [o, c0, bF, bG, bO, bH, bT, hP, nw] := K12.wr W14 (mi 0 rfl)
  have B14w : OL Z h14 o [(.int gt), (.ref cl), (.int (-1 : Int32)), (.int (0 : Int32)), (.int (0 : Int32)), (.ref bF), (.ref bG), (.ref bO), (.ref bH), (.ref bT), (.int fb), (.int bu), (.long sta), (.ref hP), (.int (0 : Int32)), (.ref nw)] := B12w.wr hw 3 (by decide) rfl W14 (Nat.le_of_ble_eq_true rfl)
  refine E_aloadN (pc' := 49) cx st14 d18_48 rfl rfl rfl ?_
  refine E_iconst (pc' := 50) cx st14 (-1 : Int32) d18_49 rfl rfl ?_
  have X15 : Exa Z h14 o "com/example/flat_planner/flatplanner/OpenList" := (X13.wr W14)
  refine E_putfield (pc' := 53) (ty := .int) cx st14 (wd hw 56 rfl) (B14w.at 10 (by decide) rfl rfl) X15 (Or.inl (wd hw 57 rfl)) (wd hw 1 rfl) (by decide) rfl rfl g_o d18_50 rfl ?_
  intro T16 h16 st16 W16
  have Z16 : n0 ≤ h16.size := Nat.le_trans Z14 (Keep.of_wr W16).1
  have K16 : Keep h0 h16 [o, c0, bF, bG, bO, bH, bT, hP, nw] := K14.wr W16 (mi 0 rfl)
  have B16w : OL Z h16 o [(.int gt), (.ref cl), (.int (-1 : Int32)), (.int (0 : Int32)), (.int (0 : Int32)), (.ref bF), (.ref bG), (.ref bO), (.ref bH), (.ref bT), (.int (-1 : Int32)), (.int bu), (.long sta), (.ref hP), (.int (0 : Int32)), (.ref nw)] := B14w.wr hw 10 (by decide) rfl W16 (Nat.le_of_ble_eq_true rfl)
  refine E_aloadN (pc' := 54) cx st16 d18_53 rfl rfl rfl ?_
  refine E_iconst (pc' := 55) cx st16 (0 : Int32) d18_54 rfl rfl ?_
  have X17 : Exa Z h16 o "com/example/flat_planner/flatplanner/OpenList" := (X15.wr W16)
  refine E_putfield (pc' := 58) (ty := .int) cx st16 (wd hw 108 rfl) (B16w.at 11 (by decide) rfl rfl) X17 (Or.inl (wd hw 109 rfl)) (wd hw 1 rfl) (by decide) rfl rfl g_o d18_55 rfl ?_
  intro T18 h18 st18 W18
  have Z18 : n0 ≤ h18.size := Nat.le_trans Z16 (Keep.of_wr W18).1
  have K18 : Keep h0 h18 [o, c0, bF, bG, bO, bH, bT, hP, nw] := K16.wr W18 (mi 0 rfl)
  have B18w : OL Z h18 o [(.int gt), (.ref cl), (.int (-1 : Int32)), (.int (0 : Int32)), (.int (0 : Int32)), (.ref bF), (.ref bG), (.ref bO), (.ref bH), (.ref bT), (.int (-1 : Int32)), (.int (0 : Int32)), (.long sta), (.ref hP), (.int (0 : Int32)), (.ref nw)] := B16w.wr hw 11 (by decide) rfl W18 (Nat.le_of_ble_eq_true rfl)
  refine E_aloadN (pc' := 59) cx st18 d18_58 rfl rfl rfl ?_
  refine E_lconst (pc' := 60) cx st18 (0 : Int64) d18_59 rfl rfl ?_
  have X19 : Exa Z h18 o "com/example/flat_planner/flatplanner/OpenList" := (X17.wr W18)
  refine E_putfield (pc' := 63) (ty := .long) cx st18 (wd hw 110 rfl) (B18w.at 12 (by decide) rfl rfl) X19 (Or.inl (wd hw 111 rfl)) (wd hw 1 rfl) (by decide) rfl rfl g_o d18_60 rfl ?_
  intro T20 h20 st20 W20
  have Z20 : n0 ≤ h20.size := Nat.le_trans Z18 (Keep.of_wr W20).1
  have K20 : Keep h0 h20 [o, c0, bF, bG, bO, bH, bT, hP, nw] := K18.wr W20 (mi 0 rfl)
  have B20w : OL Z h20 o [(.int gt), (.ref cl), (.int (-1 : Int32)), (.int (0 : Int32)), (.int (0 : Int32)), (.ref bF), (.ref bG), (.ref bO), (.ref bH), (.ref bT), (.int (-1 : Int32)), (.int (0 : Int32)), (.long (0 : Int64)), (.ref hP), (.int (0 : Int32)), (.ref nw)] := B18w.wr hw 12 (by decide) rfl W20 (Nat.le_of_ble_eq_true rfl)
  have X21 : Exa Z h20 o "com/example/flat_planner/flatplanner/OpenList" := (X19.wr W20)
  have HL22 : LCF Z h20 cl cs := ((((((((HL.other W4 (nd hnd 1 7 rfl rfl)).other W8 (nd hnd 1 0 rfl rfl)).other W10 (nd hnd 1 0 rfl rfl)).other W12 (nd hnd 1 0 rfl rfl)).other W14 (nd hnd 1 0 rfl rfl)).other W16 (nd hnd 1 0 rfl rfl)).other W18 (nd hnd 1 0 rfl rfl)).other W20 (nd hnd 1 0 rfl rfl))
  have V23 : Arv Z h20 cs k_cs (.array .long) (1 : Int32) [(.ref c0)] .null := ((((((((V_cs.other W4 (nd hnd 2 7 rfl rfl)).other W8 (nd hnd 2 0 rfl rfl)).other W10 (nd hnd 2 0 rfl rfl)).other W12 (nd hnd 2 0 rfl rfl)).other W14 (nd hnd 2 0 rfl rfl)).other W16 (nd hnd 2 0 rfl rfl)).other W18 (nd hnd 2 0 rfl rfl)).other W20 (nd hnd 2 0 rfl rfl))
  have V24 : Arv Z h20 c0 k_c0 .long (16 : Int32) ((.long e0) :: (.long e1) :: (er.map Value.long)) (.long (0 : Int64)) := ((((((((V_c0.other W4 (nd hnd 3 7 rfl rfl)).other W8 (nd hnd 3 0 rfl rfl)).other W10 (nd hnd 3 0 rfl rfl)).other W12 (nd hnd 3 0 rfl rfl)).other W14 (nd hnd 3 0 rfl rfl)).other W16 (nd hnd 3 0 rfl rfl)).other W18 (nd hnd 3 0 rfl rfl)).other W20 (nd hnd 3 0 rfl rfl))
  have V25 : Arv Z h20 bF k_bF .long (16 : Int32) ((.long f0) :: (.long f1) :: (fr.map Value.long)) (.long (0 : Int64)) := ((((((((V_bF.other W4 (nd hnd 4 7 rfl rfl)).other W8 (nd hnd 4 0 rfl rfl)).other W10 (nd hnd 4 0 rfl rfl)).other W12 (nd hnd 4 0 rfl rfl)).other W14 (nd hnd 4 0 rfl rfl)).other W16 (nd hnd 4 0 rfl rfl)).other W18 (nd hnd 4 0 rfl rfl)).other W20 (nd hnd 4 0 rfl rfl))
  have V26 : Arv Z h20 bG k_bG .long (16 : Int32) ((.long g0) :: (.long g1) :: (gr.map Value.long)) (.long (0 : Int64)) := ((((((((V_bG.other W4 (nd hnd 5 7 rfl rfl)).other W8 (nd hnd 5 0 rfl rfl)).other W10 (nd hnd 5 0 rfl rfl)).other W12 (nd hnd 5 0 rfl rfl)).other W14 (nd hnd 5 0 rfl rfl)).other W16 (nd hnd 5 0 rfl rfl)).other W18 (nd hnd 5 0 rfl rfl)).other W20 (nd hnd 5 0 rfl rfl))
  have V27 : Arv Z h20 bO k_bO .long (16 : Int32) ((.long q0) :: (.long q1) :: (qr.map Value.long)) (.long (0 : Int64)) := ((((((((V_bO.other W4 (nd hnd 6 7 rfl rfl)).other W8 (nd hnd 6 0 rfl rfl)).other W10 (nd hnd 6 0 rfl rfl)).other W12 (nd hnd 6 0 rfl rfl)).other W14 (nd hnd 6 0 rfl rfl)).other W16 (nd hnd 6 0 rfl rfl)).other W18 (nd hnd 6 0 rfl rfl)).other W20 (nd hnd 6 0 rfl rfl))
  have V28 : Arv Z h20 bH k_bH .int (16 : Int32) ((.int (-1 : Int32)) :: (.int d1) :: (dr.map Value.int)) (.int (0 : Int32)) := (((((((V4p.other W8 (nd hnd 7 0 rfl rfl)).other W10 (nd hnd 7 0 rfl rfl)).other W12 (nd hnd 7 0 rfl rfl)).other W14 (nd hnd 7 0 rfl rfl)).other W16 (nd hnd 7 0 rfl rfl)).other W18 (nd hnd 7 0 rfl rfl)).other W20 (nd hnd 7 0 rfl rfl))
  have V29 : Arv Z h20 bT k_bT .int (16 : Int32) ((.int t0) :: (.int t1) :: (tr.map Value.int)) (.int (0 : Int32)) := ((((((((V_bT.other W4 (nd hnd 8 7 rfl rfl)).other W8 (nd hnd 8 0 rfl rfl)).other W10 (nd hnd 8 0 rfl rfl)).other W12 (nd hnd 8 0 rfl rfl)).other W14 (nd hnd 8 0 rfl rfl)).other W16 (nd hnd 8 0 rfl rfl)).other W18 (nd hnd 8 0 rfl rfl)).other W20 (nd hnd 8 0 rfl rfl))
  have V30 : Arv Z h20 hP k_hP .int (16 : Int32) ((.int (0 : Int32)) :: (.int p1) :: (pr.map Value.int)) (.int (0 : Int32)) := ((((((((V_hP.other W4 (nd hnd 9 7 rfl rfl)).other W8 (nd hnd 9 0 rfl rfl)).other W10 (nd hnd 9 0 rfl rfl)).other W12 (nd hnd 9 0 rfl rfl)).other W14 (nd hnd 9 0 rfl rfl)).other W16 (nd hnd 9 0 rfl rfl)).other W18 (nd hnd 9 0 rfl rfl)).other W20 (nd hnd 9 0 rfl rfl))
  have V31 : Arv Z h20 nw k_nw .int (32 : Int32) (ns.map Value.int) (.int (0 : Int32)) := ((((((((V_nw.other W4 (nd hnd 10 7 rfl rfl)).other W8 (nd hnd 10 0 rfl rfl)).other W10 (nd hnd 10 0 rfl rfl)).other W12 (nd hnd 10 0 rfl rfl)).other W14 (nd hnd 10 0 rfl rfl)).other W16 (nd hnd 10 0 rfl rfl)).other W18 (nd hnd 10 0 rfl rfl)).other W20 (nd hnd 10 0 rfl rfl))
  refine E_return cx st20 d18_63 rfl (by decide) (by decide) ?_
  exact ⟨rfl, K20, ⟨X21, B20w, HL22, ⟨_, V23⟩, ⟨_, V24⟩, ⟨_, V25⟩, ⟨_, V26⟩, ⟨_, V27⟩, ⟨_, V28⟩, ⟨_, V29⟩, ⟨_, V30⟩, ⟨_, V31⟩⟩⟩
theorem ef_clear1 (m : MethodId) (x0 : Addr) : entryFrame m #[(.ref x0)] 2 = mkF m 0 #[.val (.ref x0), .unset] [] := by first | (simp [entryFrame, mkF, argsToLocals, Value.category]; done) | rfl
set_option maxRecDepth 65536 in
set_option maxHeartbeats 40000000 in
theorem rmclear1 (l : Launch) (Z : State) (a0 : Array Value) (hw : ∀ d ∈ tables_1, d.before a0 Z = true) (o : Addr) (cl : Addr) (cs : Addr) (c0 : Addr) (bF : Addr) (bG : Addr) (bO : Addr) (bH : Addr) (bT : Addr) (hP : Addr) (nw : Addr) (h0 : Heap) (n0 : Nat) (Z0 : n0 ≤ h0.size) (gt : Int32) (fe : Int32) (eu : Int32) (sz : Int32) (fb : Int32) (bu : Int32) (sta : Int64) (e0 : Int64) (e1 : Int64) (er : List Int64) (f0 : Int64) (f1 : Int64) (fr : List Int64) (g0 : Int64) (g1 : Int64) (gr : List Int64) (q0 : Int64) (q1 : Int64) (qr : List Int64) (d0 : Int32) (d1 : Int32) (dr : List Int32) (t0 : Int32) (t1 : Int32) (tr : List Int32) (p1 : Int32) (pr : List Int32) (ns : List Int32) (hnd : [o, cl, cs, c0, bF, bG, bO, bH, bT, hP, nw].Nodup) (hge : ∀ a ∈ [o, cl, cs, c0, bF, bG, bO, bH, bT, hP, nw], n0 ≤ a) (H0 : Wd Z h0 o cl cs c0 bF bG bO bH bT hP nw gt fe eu sz fb bu (1 : Int32) sta e0 e1 er f0 f1 fr g0 g1 gr q0 q1 qr d0 d1 dr t0 t1 tr (1 : Int32) p1 pr ns)  :
    Con l Z (⟨"com/example/flat_planner/flatplanner/OpenList", "clear", "()V"⟩ : MethodName) prog_16_method_4_code 2 none ({ frames := 0, cells := 0, slots := 0, locals := 0 } : Room) #[(.ref o)] h0 n0 (fun v h => v = none ∧ Keep h0 h [o, c0, bF, bG, bO, bH, bT, hP, nw] ∧ Wd Z h o cl cs c0 bF bG bO bH bT hP nw gt (-1 : Int32) (0 : Int32) (0 : Int32) (-1 : Int32) (0 : Int32) (0 : Int32) (0 : Int64) e0 e1 er f0 f1 fr g0 g1 gr q0 q1 qr d0 (-1 : Int32) dr t0 t1 tr (1 : Int32) p1 pr ns) := by
  refine Con.of (own := "com/example/flat_planner/flatplanner/OpenList") (name := "clear") (plainFor_of_name pn_3) (fun m => ef_clear1 m o) rfl rfl ?_
  intro p e s m below meth c T F S cx st
  have g_o : n0 ≤ o := hge o (by simp)
  have g_c0 : n0 ≤ c0 := hge c0 (by simp)
  have g_bF : n0 ≤ bF := hge bF (by simp)
  have g_bG : n0 ≤ bG := hge bG (by simp)
  have g_bO : n0 ≤ bO := hge bO (by simp)
  have g_bH : n0 ≤ bH := hge bH (by simp)
  have g_bT : n0 ≤ bT := hge bT (by simp)
  have g_hP : n0 ≤ hP := hge hP (by simp)
  have g_nw : n0 ≤ nw := hge nw (by simp)
  obtain ⟨X_o, B_o, HL, ⟨k_cs, V_cs⟩, ⟨k_c0, V_c0⟩, ⟨k_bF, V_bF⟩, ⟨k_bG, V_bG⟩, ⟨k_bO, V_bO⟩, ⟨k_bH, V_bH⟩, ⟨k_bT, V_bT⟩, ⟨k_hP, V_hP⟩, ⟨k_nw, V_nw⟩⟩ := H0
  refine E_iconst (pc' := 1) cx st (0 : Int32) d18_0 rfl rfl ?_
  refine E_istoreN (pc' := 2) (L' := #[.val (.ref o), .val (.int (0 : Int32))]) cx st d18_1 rfl rfl ?_
  refine E_iloadN (pc' := 3) cx st d18_2 rfl rfl ?_
  refine E_aloadN (pc' := 4) cx st d18_3 rfl rfl rfl ?_
  refine E_getfield (pc' := 7) (v := (.int (1 : Int32))) cx st (wd hw 116 rfl) (B_o.at 14 (by decide) rfl rfl) d18_4 rfl ?_
  intro T1 st1
  refine E_icmp_geN (pc' := 10) cx st1 d18_7 rfl (by decide) ?_
  refine E_aloadN (pc' := 11) cx st1 d18_10 rfl rfl rfl ?_
  refine E_getfield (pc' := 14) (v := (.ref bH)) cx st1 (wd hw 52 rfl) (B_o.at 8 (by decide) rfl rfl) d18_11 rfl ?_
  intro T2 st2
  refine E_aloadN (pc' := 15) cx st2 d18_14 rfl rfl rfl ?_
  refine E_getfield (pc' := 18) (v := (.ref hP)) cx st2 (wd hw 58 rfl) (B_o.at 13 (by decide) rfl rfl) d18_15 rfl ?_
  intro T3 st3
  refine E_iloadN (pc' := 19) cx st3 d18_18 rfl rfl ?_
  refine E_iaload (pc' := 20) (x := (1 : Int32)) cx st3 V_hP ⟨by decide, by decide⟩ rfl d18_19 rfl ?_
  refine E_iconst (pc' := 21) cx st3 (-1 : Int32) d18_20 rfl rfl ?_
  refine E_iastore (pc' := 22) (i := 1) cx st3 V_bH ⟨by decide, by decide⟩ rfl (Nat.succ_lt_succ (Nat.zero_lt_succ _)) g_bH d18_21 rfl ?_
  intro T4 h4 st4 W4 V4
  have Z4 : n0 ≤ h4.size := Nat.le_trans Z0 (Keep.of_wr W4).1
  have K4 : Keep h0 h4 [o, c0, bF, bG, bO, bH, bT, hP, nw] := (Keep.refl h0 [o, c0, bF, bG, bO, bH, bT, hP, nw]).wr W4 (mi 5 rfl)
  have V4p : Arv Z h4 bH k_bH .int (16 : Int32) ((.int d0) :: (.int (-1 : Int32)) :: (dr.map Value.int)) (.int (0 : Int32)) := V4
  refine E_iinc (pc' := 25) (L' := #[.val (.ref o), .val (.int (1 : Int32))]) cx st4 (1 : Int32) d18_22 rfl rfl rfl rfl ?_
  refine E_goto (pc' := 2) cx st4 d18_25 (by decide) (by decide) ?_
  refine E_iloadN (pc' := 3) cx st4 d18_2 rfl rfl ?_
  refine E_aloadN (pc' := 4) cx st4 d18_3 rfl rfl rfl ?_
  have B6 : OL Z h4 o [(.int gt), (.ref cl), (.int fe), (.int eu), (.int sz), (.ref bF), (.ref bG), (.ref bO), (.ref bH), (.ref bT), (.int fb), (.int bu), (.long sta), (.ref hP), (.int (1 : Int32)), (.ref nw)] := (B_o.other W4 (nd hnd 0 7 rfl rfl))
  refine E_getfield (pc' := 7) (v := (.int (1 : Int32))) cx st4 (wd hw 116 rfl) (B6.at 14 (by decide) rfl rfl) d18_4 rfl ?_
  intro T5 st5
  refine E_icmp_geY (pc' := 28) cx st5 d18_7 (by decide) (by decide) (by decide) ?_
  refine E_aloadN (pc' := 29) cx st5 d18_28 rfl rfl rfl ?_
  refine E_iconst (pc' := 30) cx st5 (0 : Int32) d18_29 rfl rfl ?_
  have X7 : Exa Z h4 o "com/example/flat_planner/flatplanner/OpenList" := (X_o.wr W4)
  refine E_putfield (pc' := 33) (ty := .int) cx st5 (wd hw 116 rfl) (B6.at 14 (by decide) rfl rfl) X7 (Or.inl (wd hw 117 rfl)) (wd hw 1 rfl) (by decide) rfl rfl g_o d18_30 rfl ?_
  intro T8 h8 st8 W8
  have Z8 : n0 ≤ h8.size := Nat.le_trans Z4 (Keep.of_wr W8).1
  have K8 : Keep h0 h8 [o, c0, bF, bG, bO, bH, bT, hP, nw] := K4.wr W8 (mi 0 rfl)
  have B8w : OL Z h8 o [(.int gt), (.ref cl), (.int fe), (.int eu), (.int sz), (.ref bF), (.ref bG), (.ref bO), (.ref bH), (.ref bT), (.int fb), (.int bu), (.long sta), (.ref hP), (.int (0 : Int32)), (.ref nw)] := B6.wr hw 14 (by decide) rfl W8 (Nat.le_of_ble_eq_true rfl)
  refine E_aloadN (pc' := 34) cx st8 d18_33 rfl rfl rfl ?_
  refine E_iconst (pc' := 35) cx st8 (0 : Int32) d18_34 rfl rfl ?_
  have X9 : Exa Z h8 o "com/example/flat_planner/flatplanner/OpenList" := (X7.wr W8)
  refine E_putfield (pc' := 38) (ty := .int) cx st8 (wd hw 118 rfl) (B8w.at 4 (by decide) rfl rfl) X9 (Or.inl (wd hw 119 rfl)) (wd hw 1 rfl) (by decide) rfl rfl g_o d18_35 rfl ?_
  intro T10 h10 st10 W10
  have Z10 : n0 ≤ h10.size := Nat.le_trans Z8 (Keep.of_wr W10).1
  have K10 : Keep h0 h10 [o, c0, bF, bG, bO, bH, bT, hP, nw] := K8.wr W10 (mi 0 rfl)
  have B10w : OL Z h10 o [(.int gt), (.ref cl), (.int fe), (.int eu), (.int (0 : Int32)), (.ref bF), (.ref bG), (.ref bO), (.ref bH), (.ref bT), (.int fb), (.int bu), (.long sta), (.ref hP), (.int (0 : Int32)), (.ref nw)] := B8w.wr hw 4 (by decide) rfl W10 (Nat.le_of_ble_eq_true rfl)
  refine E_aloadN (pc' := 39) cx st10 d18_38 rfl rfl rfl ?_
  refine E_iconst (pc' := 40) cx st10 (-1 : Int32) d18_39 rfl rfl ?_
  have X11 : Exa Z h10 o "com/example/flat_planner/flatplanner/OpenList" := (X9.wr W10)
  refine E_putfield (pc' := 43) (ty := .int) cx st10 (wd hw 43 rfl) (B10w.at 2 (by decide) rfl rfl) X11 (Or.inl (wd hw 44 rfl)) (wd hw 1 rfl) (by decide) rfl rfl g_o d18_40 rfl ?_
  intro T12 h12 st12 W12
  have Z12 : n0 ≤ h12.size := Nat.le_trans Z10 (Keep.of_wr W12).1
  have K12 : Keep h0 h12 [o, c0, bF, bG, bO, bH, bT, hP, nw] := K10.wr W12 (mi 0 rfl)
  have B12w : OL Z h12 o [(.int gt), (.ref cl), (.int (-1 : Int32)), (.int eu), (.int (0 : Int32)), (.ref bF), (.ref bG), (.ref bO), (.ref bH), (.ref bT), (.int fb), (.int bu), (.long sta), (.ref hP), (.int (0 : Int32)), (.ref nw)] := B10w.wr hw 2 (by decide) rfl W12 (Nat.le_of_ble_eq_true rfl)
  refine E_aloadN (pc' := 44) cx st12 d18_43 rfl rfl rfl ?_
  refine E_iconst (pc' := 45) cx st12 (0 : Int32) d18_44 rfl rfl ?_
  have X13 : Exa Z h12 o "com/example/flat_planner/flatplanner/OpenList" := (X11.wr W12)
  refine E_putfield (pc' := 48) (ty := .int) cx st12 (wd hw 77 rfl) (B12w.at 3 (by decide) rfl rfl) X13 (Or.inl (wd hw 78 rfl)) (wd hw 1 rfl) (by decide) rfl rfl g_o d18_45 rfl ?_
  intro T14 h14 st14 W14
  have Z14 : n0 ≤ h14.size := Nat.le_trans Z12 (Keep.of_wr W14).1
  have K14 : Keep h0 h14 [o, c0, bF, bG, bO, bH, bT, hP, nw] := K12.wr W14 (mi 0 rfl)
  have B14w : OL Z h14 o [(.int gt), (.ref cl), (.int (-1 : Int32)), (.int (0 : Int32)), (.int (0 : Int32)), (.ref bF), (.ref bG), (.ref bO), (.ref bH), (.ref bT), (.int fb), (.int bu), (.long sta), (.ref hP), (.int (0 : Int32)), (.ref nw)] := B12w.wr hw 3 (by decide) rfl W14 (Nat.le_of_ble_eq_true rfl)
  refine E_aloadN (pc' := 49) cx st14 d18_48 rfl rfl rfl ?_
  refine E_iconst (pc' := 50) cx st14 (-1 : Int32) d18_49 rfl rfl ?_
  have X15 : Exa Z h14 o "com/example/flat_planner/flatplanner/OpenList" := (X13.wr W14)
  refine E_putfield (pc' := 53) (ty := .int) cx st14 (wd hw 56 rfl) (B14w.at 10 (by decide) rfl rfl) X15 (Or.inl (wd hw 57 rfl)) (wd hw 1 rfl) (by decide) rfl rfl g_o d18_50 rfl ?_
  intro T16 h16 st16 W16
  have Z16 : n0 ≤ h16.size := Nat.le_trans Z14 (Keep.of_wr W16).1
  have K16 : Keep h0 h16 [o, c0, bF, bG, bO, bH, bT, hP, nw] := K14.wr W16 (mi 0 rfl)
  have B16w : OL Z h16 o [(.int gt), (.ref cl), (.int (-1 : Int32)), (.int (0 : Int32)), (.int (0 : Int32)), (.ref bF), (.ref bG), (.ref bO), (.ref bH), (.ref bT), (.int (-1 : Int32)), (.int bu), (.long sta), (.ref hP), (.int (0 : Int32)), (.ref nw)] := B14w.wr hw 10 (by decide) rfl W16 (Nat.le_of_ble_eq_true rfl)
  refine E_aloadN (pc' := 54) cx st16 d18_53 rfl rfl rfl ?_
  refine E_iconst (pc' := 55) cx st16 (0 : Int32) d18_54 rfl rfl ?_
  have X17 : Exa Z h16 o "com/example/flat_planner/flatplanner/OpenList" := (X15.wr W16)
  refine E_putfield (pc' := 58) (ty := .int) cx st16 (wd hw 108 rfl) (B16w.at 11 (by decide) rfl rfl) X17 (Or.inl (wd hw 109 rfl)) (wd hw 1 rfl) (by decide) rfl rfl g_o d18_55 rfl ?_
  intro T18 h18 st18 W18
  have Z18 : n0 ≤ h18.size := Nat.le_trans Z16 (Keep.of_wr W18).1
  have K18 : Keep h0 h18 [o, c0, bF, bG, bO, bH, bT, hP, nw] := K16.wr W18 (mi 0 rfl)
  have B18w : OL Z h18 o [(.int gt), (.ref cl), (.int (-1 : Int32)), (.int (0 : Int32)), (.int (0 : Int32)), (.ref bF), (.ref bG), (.ref bO), (.ref bH), (.ref bT), (.int (-1 : Int32)), (.int (0 : Int32)), (.long sta), (.ref hP), (.int (0 : Int32)), (.ref nw)] := B16w.wr hw 11 (by decide) rfl W18 (Nat.le_of_ble_eq_true rfl)
  refine E_aloadN (pc' := 59) cx st18 d18_58 rfl rfl rfl ?_
  refine E_lconst (pc' := 60) cx st18 (0 : Int64) d18_59 rfl rfl ?_
  have X19 : Exa Z h18 o "com/example/flat_planner/flatplanner/OpenList" := (X17.wr W18)
  refine E_putfield (pc' := 63) (ty := .long) cx st18 (wd hw 110 rfl) (B18w.at 12 (by decide) rfl rfl) X19 (Or.inl (wd hw 111 rfl)) (wd hw 1 rfl) (by decide) rfl rfl g_o d18_60 rfl ?_
  intro T20 h20 st20 W20
  have Z20 : n0 ≤ h20.size := Nat.le_trans Z18 (Keep.of_wr W20).1
  have K20 : Keep h0 h20 [o, c0, bF, bG, bO, bH, bT, hP, nw] := K18.wr W20 (mi 0 rfl)
  have B20w : OL Z h20 o [(.int gt), (.ref cl), (.int (-1 : Int32)), (.int (0 : Int32)), (.int (0 : Int32)), (.ref bF), (.ref bG), (.ref bO), (.ref bH), (.ref bT), (.int (-1 : Int32)), (.int (0 : Int32)), (.long (0 : Int64)), (.ref hP), (.int (0 : Int32)), (.ref nw)] := B18w.wr hw 12 (by decide) rfl W20 (Nat.le_of_ble_eq_true rfl)
  have X21 : Exa Z h20 o "com/example/flat_planner/flatplanner/OpenList" := (X19.wr W20)
  have HL22 : LCF Z h20 cl cs := ((((((((HL.other W4 (nd hnd 1 7 rfl rfl)).other W8 (nd hnd 1 0 rfl rfl)).other W10 (nd hnd 1 0 rfl rfl)).other W12 (nd hnd 1 0 rfl rfl)).other W14 (nd hnd 1 0 rfl rfl)).other W16 (nd hnd 1 0 rfl rfl)).other W18 (nd hnd 1 0 rfl rfl)).other W20 (nd hnd 1 0 rfl rfl))
  have V23 : Arv Z h20 cs k_cs (.array .long) (1 : Int32) [(.ref c0)] .null := ((((((((V_cs.other W4 (nd hnd 2 7 rfl rfl)).other W8 (nd hnd 2 0 rfl rfl)).other W10 (nd hnd 2 0 rfl rfl)).other W12 (nd hnd 2 0 rfl rfl)).other W14 (nd hnd 2 0 rfl rfl)).other W16 (nd hnd 2 0 rfl rfl)).other W18 (nd hnd 2 0 rfl rfl)).other W20 (nd hnd 2 0 rfl rfl))
  have V24 : Arv Z h20 c0 k_c0 .long (16 : Int32) ((.long e0) :: (.long e1) :: (er.map Value.long)) (.long (0 : Int64)) := ((((((((V_c0.other W4 (nd hnd 3 7 rfl rfl)).other W8 (nd hnd 3 0 rfl rfl)).other W10 (nd hnd 3 0 rfl rfl)).other W12 (nd hnd 3 0 rfl rfl)).other W14 (nd hnd 3 0 rfl rfl)).other W16 (nd hnd 3 0 rfl rfl)).other W18 (nd hnd 3 0 rfl rfl)).other W20 (nd hnd 3 0 rfl rfl))
  have V25 : Arv Z h20 bF k_bF .long (16 : Int32) ((.long f0) :: (.long f1) :: (fr.map Value.long)) (.long (0 : Int64)) := ((((((((V_bF.other W4 (nd hnd 4 7 rfl rfl)).other W8 (nd hnd 4 0 rfl rfl)).other W10 (nd hnd 4 0 rfl rfl)).other W12 (nd hnd 4 0 rfl rfl)).other W14 (nd hnd 4 0 rfl rfl)).other W16 (nd hnd 4 0 rfl rfl)).other W18 (nd hnd 4 0 rfl rfl)).other W20 (nd hnd 4 0 rfl rfl))
  have V26 : Arv Z h20 bG k_bG .long (16 : Int32) ((.long g0) :: (.long g1) :: (gr.map Value.long)) (.long (0 : Int64)) := ((((((((V_bG.other W4 (nd hnd 5 7 rfl rfl)).other W8 (nd hnd 5 0 rfl rfl)).other W10 (nd hnd 5 0 rfl rfl)).other W12 (nd hnd 5 0 rfl rfl)).other W14 (nd hnd 5 0 rfl rfl)).other W16 (nd hnd 5 0 rfl rfl)).other W18 (nd hnd 5 0 rfl rfl)).other W20 (nd hnd 5 0 rfl rfl))
  have V27 : Arv Z h20 bO k_bO .long (16 : Int32) ((.long q0) :: (.long q1) :: (qr.map Value.long)) (.long (0 : Int64)) := ((((((((V_bO.other W4 (nd hnd 6 7 rfl rfl)).other W8 (nd hnd 6 0 rfl rfl)).other W10 (nd hnd 6 0 rfl rfl)).other W12 (nd hnd 6 0 rfl rfl)).other W14 (nd hnd 6 0 rfl rfl)).other W16 (nd hnd 6 0 rfl rfl)).other W18 (nd hnd 6 0 rfl rfl)).other W20 (nd hnd 6 0 rfl rfl))
  have V28 : Arv Z h20 bH k_bH .int (16 : Int32) ((.int d0) :: (.int (-1 : Int32)) :: (dr.map Value.int)) (.int (0 : Int32)) := (((((((V4p.other W8 (nd hnd 7 0 rfl rfl)).other W10 (nd hnd 7 0 rfl rfl)).other W12 (nd hnd 7 0 rfl rfl)).other W14 (nd hnd 7 0 rfl rfl)).other W16 (nd hnd 7 0 rfl rfl)).other W18 (nd hnd 7 0 rfl rfl)).other W20 (nd hnd 7 0 rfl rfl))
  have V29 : Arv Z h20 bT k_bT .int (16 : Int32) ((.int t0) :: (.int t1) :: (tr.map Value.int)) (.int (0 : Int32)) := ((((((((V_bT.other W4 (nd hnd 8 7 rfl rfl)).other W8 (nd hnd 8 0 rfl rfl)).other W10 (nd hnd 8 0 rfl rfl)).other W12 (nd hnd 8 0 rfl rfl)).other W14 (nd hnd 8 0 rfl rfl)).other W16 (nd hnd 8 0 rfl rfl)).other W18 (nd hnd 8 0 rfl rfl)).other W20 (nd hnd 8 0 rfl rfl))
  have V30 : Arv Z h20 hP k_hP .int (16 : Int32) ((.int (1 : Int32)) :: (.int p1) :: (pr.map Value.int)) (.int (0 : Int32)) := ((((((((V_hP.other W4 (nd hnd 9 7 rfl rfl)).other W8 (nd hnd 9 0 rfl rfl)).other W10 (nd hnd 9 0 rfl rfl)).other W12 (nd hnd 9 0 rfl rfl)).other W14 (nd hnd 9 0 rfl rfl)).other W16 (nd hnd 9 0 rfl rfl)).other W18 (nd hnd 9 0 rfl rfl)).other W20 (nd hnd 9 0 rfl rfl))
  have V31 : Arv Z h20 nw k_nw .int (32 : Int32) (ns.map Value.int) (.int (0 : Int32)) := ((((((((V_nw.other W4 (nd hnd 10 7 rfl rfl)).other W8 (nd hnd 10 0 rfl rfl)).other W10 (nd hnd 10 0 rfl rfl)).other W12 (nd hnd 10 0 rfl rfl)).other W14 (nd hnd 10 0 rfl rfl)).other W16 (nd hnd 10 0 rfl rfl)).other W18 (nd hnd 10 0 rfl rfl)).other W20 (nd hnd 10 0 rfl rfl))
  refine E_return cx st20 d18_63 rfl (by decide) (by decide) ?_
  exact ⟨rfl, K20, ⟨X21, B20w, HL22, ⟨_, V23⟩, ⟨_, V24⟩, ⟨_, V25⟩, ⟨_, V26⟩, ⟨_, V27⟩, ⟨_, V28⟩, ⟨_, V29⟩, ⟨_, V30⟩, ⟨_, V31⟩⟩⟩
theorem ef_clear01 (m : MethodId) (x0 : Addr) : entryFrame m #[(.ref x0)] 2 = mkF m 0 #[.val (.ref x0), .unset] [] := by first | (simp [entryFrame, mkF, argsToLocals, Value.category]; done) | rfl
set_option maxRecDepth 65536 in
set_option maxHeartbeats 40000000 in
theorem rmclear01 (l : Launch) (Z : State) (a0 : Array Value) (hw : ∀ d ∈ tables_1, d.before a0 Z = true) (o : Addr) (cl : Addr) (cs : Addr) (c0 : Addr) (bF : Addr) (bG : Addr) (bO : Addr) (bH : Addr) (bT : Addr) (hP : Addr) (nw : Addr) (h0 : Heap) (n0 : Nat) (Z0 : n0 ≤ h0.size) (gt : Int32) (fe : Int32) (eu : Int32) (sz : Int32) (fb : Int32) (bu : Int32) (sta : Int64) (e0 : Int64) (e1 : Int64) (er : List Int64) (f0 : Int64) (f1 : Int64) (fr : List Int64) (g0 : Int64) (g1 : Int64) (gr : List Int64) (q0 : Int64) (q1 : Int64) (qr : List Int64) (d0 : Int32) (d1 : Int32) (dr : List Int32) (t0 : Int32) (t1 : Int32) (tr : List Int32) (pr : List Int32) (ns : List Int32) (hnd : [o, cl, cs, c0, bF, bG, bO, bH, bT, hP, nw].Nodup) (hge : ∀ a ∈ [o, cl, cs, c0, bF, bG, bO, bH, bT, hP, nw], n0 ≤ a) (H0 : Wd Z h0 o cl cs c0 bF bG bO bH bT hP nw gt fe eu sz fb bu (2 : Int32) sta e0 e1 er f0 f1 fr g0 g1 gr q0 q1 qr d0 d1 dr t0 t1 tr (0 : Int32) (1 : Int32) pr ns)  :
    Con l Z (⟨"com/example/flat_planner/flatplanner/OpenList", "clear", "()V"⟩ : MethodName) prog_16_method_4_code 2 none ({ frames := 0, cells := 0, slots := 0, locals := 0 } : Room) #[(.ref o)] h0 n0 (fun v h => v = none ∧ Keep h0 h [o, c0, bF, bG, bO, bH, bT, hP, nw] ∧ Wd Z h o cl cs c0 bF bG bO bH bT hP nw gt (-1 : Int32) (0 : Int32) (0 : Int32) (-1 : Int32) (0 : Int32) (0 : Int32) (0 : Int64) e0 e1 er f0 f1 fr g0 g1 gr q0 q1 qr (-1 : Int32) (-1 : Int32) dr t0 t1 tr (0 : Int32) (1 : Int32) pr ns) := by
  refine Con.of (own := "com/example/flat_planner/flatplanner/OpenList") (name := "clear") (plainFor_of_name pn_3) (fun m => ef_clear01 m o) rfl rfl ?_
  intro p e s m below meth c T F S cx st
  have g_o : n0 ≤ o := hge o (by simp)
  have g_c0 : n0 ≤ c0 := hge c0 (by simp)
  have g_bF : n0 ≤ bF := hge bF (by simp)
  have g_bG : n0 ≤ bG := hge bG (by simp)
  have g_bO : n0 ≤ bO := hge bO (by simp)
  have g_bH : n0 ≤ bH := hge bH (by simp)
  have g_bT : n0 ≤ bT := hge bT (by simp)
  have g_hP : n0 ≤ hP := hge hP (by simp)
  have g_nw : n0 ≤ nw := hge nw (by simp)
  obtain ⟨X_o, B_o, HL, ⟨k_cs, V_cs⟩, ⟨k_c0, V_c0⟩, ⟨k_bF, V_bF⟩, ⟨k_bG, V_bG⟩, ⟨k_bO, V_bO⟩, ⟨k_bH, V_bH⟩, ⟨k_bT, V_bT⟩, ⟨k_hP, V_hP⟩, ⟨k_nw, V_nw⟩⟩ := H0
  refine E_iconst (pc' := 1) cx st (0 : Int32) d18_0 rfl rfl ?_
  refine E_istoreN (pc' := 2) (L' := #[.val (.ref o), .val (.int (0 : Int32))]) cx st d18_1 rfl rfl ?_
  refine E_iloadN (pc' := 3) cx st d18_2 rfl rfl ?_
  refine E_aloadN (pc' := 4) cx st d18_3 rfl rfl rfl ?_
  refine E_getfield (pc' := 7) (v := (.int (2 : Int32))) cx st (wd hw 116 rfl) (B_o.at 14 (by decide) rfl rfl) d18_4 rfl ?_
  intro T1 st1
  refine E_icmp_geN (pc' := 10) cx st1 d18_7 rfl (by decide) ?_
  refine E_aloadN (pc' := 11) cx st1 d18_10 rfl rfl rfl ?_
  refine E_getfield (pc' := 14) (v := (.ref bH)) cx st1 (wd hw 52 rfl) (B_o.at 8 (by decide) rfl rfl) d18_11 rfl ?_
  intro T2 st2
  refine E_aloadN (pc' := 15) cx st2 d18_14 rfl rfl rfl ?_
  refine E_getfield (pc' := 18) (v := (.ref hP)) cx st2 (wd hw 58 rfl) (B_o.at 13 (by decide) rfl rfl) d18_15 rfl ?_
  intro T3 st3
  refine E_iloadN (pc' := 19) cx st3 d18_18 rfl rfl ?_
  refine E_iaload (pc' := 20) (x := (0 : Int32)) cx st3 V_hP ⟨by decide, by decide⟩ rfl d18_19 rfl ?_
  refine E_iconst (pc' := 21) cx st3 (-1 : Int32) d18_20 rfl rfl ?_
  refine E_iastore (pc' := 22) (i := 0) cx st3 V_bH ⟨by decide, by decide⟩ rfl (Nat.zero_lt_succ _) g_bH d18_21 rfl ?_
  intro T4 h4 st4 W4 V4
  have Z4 : n0 ≤ h4.size := Nat.le_trans Z0 (Keep.of_wr W4).1
  have K4 : Keep h0 h4 [o, c0, bF, bG, bO, bH, bT, hP, nw] := (Keep.refl h0 [o, c0, bF, bG, bO, bH, bT, hP, nw]).wr W4 (mi 5 rfl)
  have V4p : Arv Z h4 bH k_bH .int (16 : Int32) ((.int (-1 : Int32)) :: (.int d1) :: (dr.map Value.int)) (.int (0 : Int32)) := V4
  refine E_iinc (pc' := 25) (L' := #[.val (.ref o), .val (.int (1 : Int32))]) cx st4 (1 : Int32) d18_22 rfl rfl rfl rfl ?_
  refine E_goto (pc' := 2) cx st4 d18_25 (by decide) (by decide) ?_
  refine E_iloadN (pc' := 3) cx st4 d18_2 rfl rfl ?_
  refine E_aloadN (pc' := 4) cx st4 d18_3 rfl rfl rfl ?_
  have B6 : OL Z h4 o [(.int gt), (.ref cl), (.int fe), (.int eu), (.int sz), (.ref bF), (.ref bG), (.ref bO), (.ref bH), (.ref bT), (.int fb), (.int bu), (.long sta), (.ref hP), (.int (2 : Int32)), (.ref nw)] := (B_o.other W4 (nd hnd 0 7 rfl rfl))
  refine E_getfield (pc' := 7) (v := (.int (2 : Int32))) cx st4 (wd hw 116 rfl) (B6.at 14 (by decide) rfl rfl) d18_4 rfl ?_
  intro T5 st5
  refine E_icmp_geN (pc' := 10) cx st5 d18_7 rfl (by decide) ?_
  refine E_aloadN (pc' := 11) cx st5 d18_10 rfl rfl rfl ?_
  refine E_getfield (pc' := 14) (v := (.ref bH)) cx st5 (wd hw 52 rfl) (B6.at 8 (by decide) rfl rfl) d18_11 rfl ?_
  intro T7 st7
  refine E_aloadN (pc' := 15) cx st7 d18_14 rfl rfl rfl ?_
  refine E_getfield (pc' := 18) (v := (.ref hP)) cx st7 (wd hw 58 rfl) (B6.at 13 (by decide) rfl rfl) d18_15 rfl ?_
  intro T8 st8
  refine E_iloadN (pc' := 19) cx st8 d18_18 rfl rfl ?_
  have V9 : Arv Z h4 hP k_hP .int (16 : Int32) ((.int (0 : Int32)) :: (.int (1 : Int32)) :: (pr.map Value.int)) (.int (0 : Int32)) := (V_hP.other W4 (nd hnd 9 7 rfl rfl))
  refine E_iaload (pc' := 20) (x := (1 : Int32)) cx st8 V9 ⟨by decide, by decide⟩ rfl d18_19 rfl ?_
  refine E_iconst (pc' := 21) cx st8 (-1 : Int32) d18_20 rfl rfl ?_
  refine E_iastore (pc' := 22) (i := 1) cx st8 V4p ⟨by decide, by decide⟩ rfl (Nat.succ_lt_succ (Nat.zero_lt_succ _)) g_bH d18_21 rfl ?_
  intro T10 h10 st10 W10 V10
  have Z10 : n0 ≤ h10.size := Nat.le_trans Z4 (Keep.of_wr W10).1
  have K10 : Keep h0 h10 [o, c0, bF, bG, bO, bH, bT, hP, nw] := K4.wr W10 (mi 5 rfl)
  have V10p : Arv Z h10 bH k_bH .int (16 : Int32) ((.int (-1 : Int32)) :: (.int (-1 : Int32)) :: (dr.map Value.int)) (.int (0 : Int32)) := V10
  refine E_iinc (pc' := 25) (L' := #[.val (.ref o), .val (.int (2 : Int32))]) cx st10 (1 : Int32) d18_22 rfl rfl rfl rfl ?_
  refine E_goto (pc' := 2) cx st10 d18_25 (by decide) (by decide) ?_
  refine E_iloadN (pc' := 3) cx st10 d18_2 rfl rfl ?_
  refine E_aloadN (pc' := 4) cx st10 d18_3 rfl rfl rfl ?_
  have B12 : OL Z h10 o [(.int gt), (.ref cl), (.int fe), (.int eu), (.int sz), (.ref bF), (.ref bG), (.ref bO), (.ref bH), (.ref bT), (.int fb), (.int bu), (.long sta), (.ref hP), (.int (2 : Int32)), (.ref nw)] := (B6.other W10 (nd hnd 0 7 rfl rfl))
  refine E_getfield (pc' := 7) (v := (.int (2 : Int32))) cx st10 (wd hw 116 rfl) (B12.at 14 (by decide) rfl rfl) d18_4 rfl ?_
  intro T11 st11
  refine E_icmp_geY (pc' := 28) cx st11 d18_7 (by decide) (by decide) (by decide) ?_
  refine E_aloadN (pc' := 29) cx st11 d18_28 rfl rfl rfl ?_
  refine E_iconst (pc' := 30) cx st11 (0 : Int32) d18_29 rfl rfl ?_
  have X13 : Exa Z h10 o "com/example/flat_planner/flatplanner/OpenList" := ((X_o.wr W4).wr W10)
  refine E_putfield (pc' := 33) (ty := .int) cx st11 (wd hw 116 rfl) (B12.at 14 (by decide) rfl rfl) X13 (Or.inl (wd hw 117 rfl)) (wd hw 1 rfl) (by decide) rfl rfl g_o d18_30 rfl ?_
  intro T14 h14 st14 W14
  have Z14 : n0 ≤ h14.size := Nat.le_trans Z10 (Keep.of_wr W14).1
  have K14 : Keep h0 h14 [o, c0, bF, bG, bO, bH, bT, hP, nw] := K10.wr W14 (mi 0 rfl)
  have B14w : OL Z h14 o [(.int gt), (.ref cl), (.int fe), (.int eu), (.int sz), (.ref bF), (.ref bG), (.ref bO), (.ref bH), (.ref bT), (.int fb), (.int bu), (.long sta), (.ref hP), (.int (0 : Int32)), (.ref nw)] := B12.wr hw 14 (by decide) rfl W14 (Nat.le_of_ble_eq_true rfl)
  refine E_aloadN (pc' := 34) cx st14 d18_33 rfl rfl rfl ?_
  refine E_iconst (pc' := 35) cx st14 (0 : Int32) d18_34 rfl rfl ?_
  have X15 : Exa Z h14 o "com/example/flat_planner/flatplanner/OpenList" := (X13.wr W14)
  refine E_putfield (pc' := 38) (ty := .int) cx st14 (wd hw 118 rfl) (B14w.at 4 (by decide) rfl rfl) X15 (Or.inl (wd hw 119 rfl)) (wd hw 1 rfl) (by decide) rfl rfl g_o d18_35 rfl ?_
  intro T16 h16 st16 W16
  have Z16 : n0 ≤ h16.size := Nat.le_trans Z14 (Keep.of_wr W16).1
  have K16 : Keep h0 h16 [o, c0, bF, bG, bO, bH, bT, hP, nw] := K14.wr W16 (mi 0 rfl)
  have B16w : OL Z h16 o [(.int gt), (.ref cl), (.int fe), (.int eu), (.int (0 : Int32)), (.ref bF), (.ref bG), (.ref bO), (.ref bH), (.ref bT), (.int fb), (.int bu), (.long sta), (.ref hP), (.int (0 : Int32)), (.ref nw)] := B14w.wr hw 4 (by decide) rfl W16 (Nat.le_of_ble_eq_true rfl)
  refine E_aloadN (pc' := 39) cx st16 d18_38 rfl rfl rfl ?_
  refine E_iconst (pc' := 40) cx st16 (-1 : Int32) d18_39 rfl rfl ?_
  have X17 : Exa Z h16 o "com/example/flat_planner/flatplanner/OpenList" := (X15.wr W16)
  refine E_putfield (pc' := 43) (ty := .int) cx st16 (wd hw 43 rfl) (B16w.at 2 (by decide) rfl rfl) X17 (Or.inl (wd hw 44 rfl)) (wd hw 1 rfl) (by decide) rfl rfl g_o d18_40 rfl ?_
  intro T18 h18 st18 W18
  have Z18 : n0 ≤ h18.size := Nat.le_trans Z16 (Keep.of_wr W18).1
  have K18 : Keep h0 h18 [o, c0, bF, bG, bO, bH, bT, hP, nw] := K16.wr W18 (mi 0 rfl)
  have B18w : OL Z h18 o [(.int gt), (.ref cl), (.int (-1 : Int32)), (.int eu), (.int (0 : Int32)), (.ref bF), (.ref bG), (.ref bO), (.ref bH), (.ref bT), (.int fb), (.int bu), (.long sta), (.ref hP), (.int (0 : Int32)), (.ref nw)] := B16w.wr hw 2 (by decide) rfl W18 (Nat.le_of_ble_eq_true rfl)
  refine E_aloadN (pc' := 44) cx st18 d18_43 rfl rfl rfl ?_
  refine E_iconst (pc' := 45) cx st18 (0 : Int32) d18_44 rfl rfl ?_
  have X19 : Exa Z h18 o "com/example/flat_planner/flatplanner/OpenList" := (X17.wr W18)
  refine E_putfield (pc' := 48) (ty := .int) cx st18 (wd hw 77 rfl) (B18w.at 3 (by decide) rfl rfl) X19 (Or.inl (wd hw 78 rfl)) (wd hw 1 rfl) (by decide) rfl rfl g_o d18_45 rfl ?_
  intro T20 h20 st20 W20
  have Z20 : n0 ≤ h20.size := Nat.le_trans Z18 (Keep.of_wr W20).1
  have K20 : Keep h0 h20 [o, c0, bF, bG, bO, bH, bT, hP, nw] := K18.wr W20 (mi 0 rfl)
  have B20w : OL Z h20 o [(.int gt), (.ref cl), (.int (-1 : Int32)), (.int (0 : Int32)), (.int (0 : Int32)), (.ref bF), (.ref bG), (.ref bO), (.ref bH), (.ref bT), (.int fb), (.int bu), (.long sta), (.ref hP), (.int (0 : Int32)), (.ref nw)] := B18w.wr hw 3 (by decide) rfl W20 (Nat.le_of_ble_eq_true rfl)
  refine E_aloadN (pc' := 49) cx st20 d18_48 rfl rfl rfl ?_
  refine E_iconst (pc' := 50) cx st20 (-1 : Int32) d18_49 rfl rfl ?_
  have X21 : Exa Z h20 o "com/example/flat_planner/flatplanner/OpenList" := (X19.wr W20)
  refine E_putfield (pc' := 53) (ty := .int) cx st20 (wd hw 56 rfl) (B20w.at 10 (by decide) rfl rfl) X21 (Or.inl (wd hw 57 rfl)) (wd hw 1 rfl) (by decide) rfl rfl g_o d18_50 rfl ?_
  intro T22 h22 st22 W22
  have Z22 : n0 ≤ h22.size := Nat.le_trans Z20 (Keep.of_wr W22).1
  have K22 : Keep h0 h22 [o, c0, bF, bG, bO, bH, bT, hP, nw] := K20.wr W22 (mi 0 rfl)
  have B22w : OL Z h22 o [(.int gt), (.ref cl), (.int (-1 : Int32)), (.int (0 : Int32)), (.int (0 : Int32)), (.ref bF), (.ref bG), (.ref bO), (.ref bH), (.ref bT), (.int (-1 : Int32)), (.int bu), (.long sta), (.ref hP), (.int (0 : Int32)), (.ref nw)] := B20w.wr hw 10 (by decide) rfl W22 (Nat.le_of_ble_eq_true rfl)
  refine E_aloadN (pc' := 54) cx st22 d18_53 rfl rfl rfl ?_
  refine E_iconst (pc' := 55) cx st22 (0 : Int32) d18_54 rfl rfl ?_
  have X23 : Exa Z h22 o "com/example/flat_planner/flatplanner/OpenList" := (X21.wr W22)
  refine E_putfield (pc' := 58) (ty := .int) cx st22 (wd hw 108 rfl) (B22w.at 11 (by decide) rfl rfl) X23 (Or.inl (wd hw 109 rfl)) (wd hw 1 rfl) (by decide) rfl rfl g_o d18_55 rfl ?_
  intro T24 h24 st24 W24
  have Z24 : n0 ≤ h24.size := Nat.le_trans Z22 (Keep.of_wr W24).1
  have K24 : Keep h0 h24 [o, c0, bF, bG, bO, bH, bT, hP, nw] := K22.wr W24 (mi 0 rfl)
  have B24w : OL Z h24 o [(.int gt), (.ref cl), (.int (-1 : Int32)), (.int (0 : Int32)), (.int (0 : Int32)), (.ref bF), (.ref bG), (.ref bO), (.ref bH), (.ref bT), (.int (-1 : Int32)), (.int (0 : Int32)), (.long sta), (.ref hP), (.int (0 : Int32)), (.ref nw)] := B22w.wr hw 11 (by decide) rfl W24 (Nat.le_of_ble_eq_true rfl)
  refine E_aloadN (pc' := 59) cx st24 d18_58 rfl rfl rfl ?_
  refine E_lconst (pc' := 60) cx st24 (0 : Int64) d18_59 rfl rfl ?_
  have X25 : Exa Z h24 o "com/example/flat_planner/flatplanner/OpenList" := (X23.wr W24)
  refine E_putfield (pc' := 63) (ty := .long) cx st24 (wd hw 110 rfl) (B24w.at 12 (by decide) rfl rfl) X25 (Or.inl (wd hw 111 rfl)) (wd hw 1 rfl) (by decide) rfl rfl g_o d18_60 rfl ?_
  intro T26 h26 st26 W26
  have Z26 : n0 ≤ h26.size := Nat.le_trans Z24 (Keep.of_wr W26).1
  have K26 : Keep h0 h26 [o, c0, bF, bG, bO, bH, bT, hP, nw] := K24.wr W26 (mi 0 rfl)
  have B26w : OL Z h26 o [(.int gt), (.ref cl), (.int (-1 : Int32)), (.int (0 : Int32)), (.int (0 : Int32)), (.ref bF), (.ref bG), (.ref bO), (.ref bH), (.ref bT), (.int (-1 : Int32)), (.int (0 : Int32)), (.long (0 : Int64)), (.ref hP), (.int (0 : Int32)), (.ref nw)] := B24w.wr hw 12 (by decide) rfl W26 (Nat.le_of_ble_eq_true rfl)
  have X27 : Exa Z h26 o "com/example/flat_planner/flatplanner/OpenList" := (X25.wr W26)
  have HL28 : LCF Z h26 cl cs := (((((((((HL.other W4 (nd hnd 1 7 rfl rfl)).other W10 (nd hnd 1 7 rfl rfl)).other W14 (nd hnd 1 0 rfl rfl)).other W16 (nd hnd 1 0 rfl rfl)).other W18 (nd hnd 1 0 rfl rfl)).other W20 (nd hnd 1 0 rfl rfl)).other W22 (nd hnd 1 0 rfl rfl)).other W24 (nd hnd 1 0 rfl rfl)).other W26 (nd hnd 1 0 rfl rfl))
  have V29 : Arv Z h26 cs k_cs (.array .long) (1 : Int32) [(.ref c0)] .null := (((((((((V_cs.other W4 (nd hnd 2 7 rfl rfl)).other W10 (nd hnd 2 7 rfl rfl)).other W14 (nd hnd 2 0 rfl rfl)).other W16 (nd hnd 2 0 rfl rfl)).other W18 (nd hnd 2 0 rfl rfl)).other W20 (nd hnd 2 0 rfl rfl)).other W22 (nd hnd 2 0 rfl rfl)).other W24 (nd hnd 2 0 rfl rfl)).other W26 (nd hnd 2 0 rfl rfl))
  have V30 : Arv Z h26 c0 k_c0 .long (16 : Int32) ((.long e0) :: (.long e1) :: (er.map Value.long)) (.long (0 : Int64)) := (((((((((V_c0.other W4 (nd hnd 3 7 rfl rfl)).other W10 (nd hnd 3 7 rfl rfl)).other W14 (nd hnd 3 0 rfl rfl)).other W16 (nd hnd 3 0 rfl rfl)).other W18 (nd hnd 3 0 rfl rfl)).other W20 (nd hnd 3 0 rfl rfl)).other W22 (nd hnd 3 0 rfl rfl)).other W24 (nd hnd 3 0 rfl rfl)).other W26 (nd hnd 3 0 rfl rfl))
  have V31 : Arv Z h26 bF k_bF .long (16 : Int32) ((.long f0) :: (.long f1) :: (fr.map Value.long)) (.long (0 : Int64)) := (((((((((V_bF.other W4 (nd hnd 4 7 rfl rfl)).other W10 (nd hnd 4 7 rfl rfl)).other W14 (nd hnd 4 0 rfl rfl)).other W16 (nd hnd 4 0 rfl rfl)).other W18 (nd hnd 4 0 rfl rfl)).other W20 (nd hnd 4 0 rfl rfl)).other W22 (nd hnd 4 0 rfl rfl)).other W24 (nd hnd 4 0 rfl rfl)).other W26 (nd hnd 4 0 rfl rfl))
  have V32 : Arv Z h26 bG k_bG .long (16 : Int32) ((.long g0) :: (.long g1) :: (gr.map Value.long)) (.long (0 : Int64)) := (((((((((V_bG.other W4 (nd hnd 5 7 rfl rfl)).other W10 (nd hnd 5 7 rfl rfl)).other W14 (nd hnd 5 0 rfl rfl)).other W16 (nd hnd 5 0 rfl rfl)).other W18 (nd hnd 5 0 rfl rfl)).other W20 (nd hnd 5 0 rfl rfl)).other W22 (nd hnd 5 0 rfl rfl)).other W24 (nd hnd 5 0 rfl rfl)).other W26 (nd hnd 5 0 rfl rfl))
  have V33 : Arv Z h26 bO k_bO .long (16 : Int32) ((.long q0) :: (.long q1) :: (qr.map Value.long)) (.long (0 : Int64)) := (((((((((V_bO.other W4 (nd hnd 6 7 rfl rfl)).other W10 (nd hnd 6 7 rfl rfl)).other W14 (nd hnd 6 0 rfl rfl)).other W16 (nd hnd 6 0 rfl rfl)).other W18 (nd hnd 6 0 rfl rfl)).other W20 (nd hnd 6 0 rfl rfl)).other W22 (nd hnd 6 0 rfl rfl)).other W24 (nd hnd 6 0 rfl rfl)).other W26 (nd hnd 6 0 rfl rfl))
  have V34 : Arv Z h26 bH k_bH .int (16 : Int32) ((.int (-1 : Int32)) :: (.int (-1 : Int32)) :: (dr.map Value.int)) (.int (0 : Int32)) := (((((((V10p.other W14 (nd hnd 7 0 rfl rfl)).other W16 (nd hnd 7 0 rfl rfl)).other W18 (nd hnd 7 0 rfl rfl)).other W20 (nd hnd 7 0 rfl rfl)).other W22 (nd hnd 7 0 rfl rfl)).other W24 (nd hnd 7 0 rfl rfl)).other W26 (nd hnd 7 0 rfl rfl))
  have V35 : Arv Z h26 bT k_bT .int (16 : Int32) ((.int t0) :: (.int t1) :: (tr.map Value.int)) (.int (0 : Int32)) := (((((((((V_bT.other W4 (nd hnd 8 7 rfl rfl)).other W10 (nd hnd 8 7 rfl rfl)).other W14 (nd hnd 8 0 rfl rfl)).other W16 (nd hnd 8 0 rfl rfl)).other W18 (nd hnd 8 0 rfl rfl)).other W20 (nd hnd 8 0 rfl rfl)).other W22 (nd hnd 8 0 rfl rfl)).other W24 (nd hnd 8 0 rfl rfl)).other W26 (nd hnd 8 0 rfl rfl))
  have V36 : Arv Z h26 hP k_hP .int (16 : Int32) ((.int (0 : Int32)) :: (.int (1 : Int32)) :: (pr.map Value.int)) (.int (0 : Int32)) := ((((((((V9.other W10 (nd hnd 9 7 rfl rfl)).other W14 (nd hnd 9 0 rfl rfl)).other W16 (nd hnd 9 0 rfl rfl)).other W18 (nd hnd 9 0 rfl rfl)).other W20 (nd hnd 9 0 rfl rfl)).other W22 (nd hnd 9 0 rfl rfl)).other W24 (nd hnd 9 0 rfl rfl)).other W26 (nd hnd 9 0 rfl rfl))
  have V37 : Arv Z h26 nw k_nw .int (32 : Int32) (ns.map Value.int) (.int (0 : Int32)) := (((((((((V_nw.other W4 (nd hnd 10 7 rfl rfl)).other W10 (nd hnd 10 7 rfl rfl)).other W14 (nd hnd 10 0 rfl rfl)).other W16 (nd hnd 10 0 rfl rfl)).other W18 (nd hnd 10 0 rfl rfl)).other W20 (nd hnd 10 0 rfl rfl)).other W22 (nd hnd 10 0 rfl rfl)).other W24 (nd hnd 10 0 rfl rfl)).other W26 (nd hnd 10 0 rfl rfl))
  refine E_return cx st26 d18_63 rfl (by decide) (by decide) ?_
  exact ⟨rfl, K26, ⟨X27, B26w, HL28, ⟨_, V29⟩, ⟨_, V30⟩, ⟨_, V31⟩, ⟨_, V32⟩, ⟨_, V33⟩, ⟨_, V34⟩, ⟨_, V35⟩, ⟨_, V36⟩, ⟨_, V37⟩⟩⟩
theorem ef_clear10 (m : MethodId) (x0 : Addr) : entryFrame m #[(.ref x0)] 2 = mkF m 0 #[.val (.ref x0), .unset] [] := by first | (simp [entryFrame, mkF, argsToLocals, Value.category]; done) | rfl
set_option maxRecDepth 65536 in
set_option maxHeartbeats 40000000 in
theorem rmclear10 (l : Launch) (Z : State) (a0 : Array Value) (hw : ∀ d ∈ tables_1, d.before a0 Z = true) (o : Addr) (cl : Addr) (cs : Addr) (c0 : Addr) (bF : Addr) (bG : Addr) (bO : Addr) (bH : Addr) (bT : Addr) (hP : Addr) (nw : Addr) (h0 : Heap) (n0 : Nat) (Z0 : n0 ≤ h0.size) (gt : Int32) (fe : Int32) (eu : Int32) (sz : Int32) (fb : Int32) (bu : Int32) (sta : Int64) (e0 : Int64) (e1 : Int64) (er : List Int64) (f0 : Int64) (f1 : Int64) (fr : List Int64) (g0 : Int64) (g1 : Int64) (gr : List Int64) (q0 : Int64) (q1 : Int64) (qr : List Int64) (d0 : Int32) (d1 : Int32) (dr : List Int32) (t0 : Int32) (t1 : Int32) (tr : List Int32) (pr : List Int32) (ns : List Int32) (hnd : [o, cl, cs, c0, bF, bG, bO, bH, bT, hP, nw].Nodup) (hge : ∀ a ∈ [o, cl, cs, c0, bF, bG, bO, bH, bT, hP, nw], n0 ≤ a) (H0 : Wd Z h0 o cl cs c0 bF bG bO bH bT hP nw gt fe eu sz fb bu (2 : Int32) sta e0 e1 er f0 f1 fr g0 g1 gr q0 q1 qr d0 d1 dr t0 t1 tr (1 : Int32) (0 : Int32) pr ns)  :
    Con l Z (⟨"com/example/flat_planner/flatplanner/OpenList", "clear", "()V"⟩ : MethodName) prog_16_method_4_code 2 none ({ frames := 0, cells := 0, slots := 0, locals := 0 } : Room) #[(.ref o)] h0 n0 (fun v h => v = none ∧ Keep h0 h [o, c0, bF, bG, bO, bH, bT, hP, nw] ∧ Wd Z h o cl cs c0 bF bG bO bH bT hP nw gt (-1 : Int32) (0 : Int32) (0 : Int32) (-1 : Int32) (0 : Int32) (0 : Int32) (0 : Int64) e0 e1 er f0 f1 fr g0 g1 gr q0 q1 qr (-1 : Int32) (-1 : Int32) dr t0 t1 tr (1 : Int32) (0 : Int32) pr ns) := by
  refine Con.of (own := "com/example/flat_planner/flatplanner/OpenList") (name := "clear") (plainFor_of_name pn_3) (fun m => ef_clear10 m o) rfl rfl ?_
  intro p e s m below meth c T F S cx st
  have g_o : n0 ≤ o := hge o (by simp)
  have g_c0 : n0 ≤ c0 := hge c0 (by simp)
  have g_bF : n0 ≤ bF := hge bF (by simp)
  have g_bG : n0 ≤ bG := hge bG (by simp)
  have g_bO : n0 ≤ bO := hge bO (by simp)
  have g_bH : n0 ≤ bH := hge bH (by simp)
  have g_bT : n0 ≤ bT := hge bT (by simp)
  have g_hP : n0 ≤ hP := hge hP (by simp)
  have g_nw : n0 ≤ nw := hge nw (by simp)
  obtain ⟨X_o, B_o, HL, ⟨k_cs, V_cs⟩, ⟨k_c0, V_c0⟩, ⟨k_bF, V_bF⟩, ⟨k_bG, V_bG⟩, ⟨k_bO, V_bO⟩, ⟨k_bH, V_bH⟩, ⟨k_bT, V_bT⟩, ⟨k_hP, V_hP⟩, ⟨k_nw, V_nw⟩⟩ := H0
  refine E_iconst (pc' := 1) cx st (0 : Int32) d18_0 rfl rfl ?_
  refine E_istoreN (pc' := 2) (L' := #[.val (.ref o), .val (.int (0 : Int32))]) cx st d18_1 rfl rfl ?_
  refine E_iloadN (pc' := 3) cx st d18_2 rfl rfl ?_
  refine E_aloadN (pc' := 4) cx st d18_3 rfl rfl rfl ?_
  refine E_getfield (pc' := 7) (v := (.int (2 : Int32))) cx st (wd hw 116 rfl) (B_o.at 14 (by decide) rfl rfl) d18_4 rfl ?_
  intro T1 st1
  refine E_icmp_geN (pc' := 10) cx st1 d18_7 rfl (by decide) ?_
  refine E_aloadN (pc' := 11) cx st1 d18_10 rfl rfl rfl ?_
  refine E_getfield (pc' := 14) (v := (.ref bH)) cx st1 (wd hw 52 rfl) (B_o.at 8 (by decide) rfl rfl) d18_11 rfl ?_
  intro T2 st2
  refine E_aloadN (pc' := 15) cx st2 d18_14 rfl rfl rfl ?_
  refine E_getfield (pc' := 18) (v := (.ref hP)) cx st2 (wd hw 58 rfl) (B_o.at 13 (by decide) rfl rfl) d18_15 rfl ?_
  intro T3 st3
  refine E_iloadN (pc' := 19) cx st3 d18_18 rfl rfl ?_
  refine E_iaload (pc' := 20) (x := (1 : Int32)) cx st3 V_hP ⟨by decide, by decide⟩ rfl d18_19 rfl ?_
  refine E_iconst (pc' := 21) cx st3 (-1 : Int32) d18_20 rfl rfl ?_
  refine E_iastore (pc' := 22) (i := 1) cx st3 V_bH ⟨by decide, by decide⟩ rfl (Nat.succ_lt_succ (Nat.zero_lt_succ _)) g_bH d18_21 rfl ?_
  intro T4 h4 st4 W4 V4
  have Z4 : n0 ≤ h4.size := Nat.le_trans Z0 (Keep.of_wr W4).1
  have K4 : Keep h0 h4 [o, c0, bF, bG, bO, bH, bT, hP, nw] := (Keep.refl h0 [o, c0, bF, bG, bO, bH, bT, hP, nw]).wr W4 (mi 5 rfl)
  have V4p : Arv Z h4 bH k_bH .int (16 : Int32) ((.int d0) :: (.int (-1 : Int32)) :: (dr.map Value.int)) (.int (0 : Int32)) := V4
  refine E_iinc (pc' := 25) (L' := #[.val (.ref o), .val (.int (1 : Int32))]) cx st4 (1 : Int32) d18_22 rfl rfl rfl rfl ?_
  refine E_goto (pc' := 2) cx st4 d18_25 (by decide) (by decide) ?_
  refine E_iloadN (pc' := 3) cx st4 d18_2 rfl rfl ?_
  refine E_aloadN (pc' := 4) cx st4 d18_3 rfl rfl rfl ?_
  have B6 : OL Z h4 o [(.int gt), (.ref cl), (.int fe), (.int eu), (.int sz), (.ref bF), (.ref bG), (.ref bO), (.ref bH), (.ref bT), (.int fb), (.int bu), (.long sta), (.ref hP), (.int (2 : Int32)), (.ref nw)] := (B_o.other W4 (nd hnd 0 7 rfl rfl))
  refine E_getfield (pc' := 7) (v := (.int (2 : Int32))) cx st4 (wd hw 116 rfl) (B6.at 14 (by decide) rfl rfl) d18_4 rfl ?_
  intro T5 st5
  refine E_icmp_geN (pc' := 10) cx st5 d18_7 rfl (by decide) ?_
  refine E_aloadN (pc' := 11) cx st5 d18_10 rfl rfl rfl ?_
  refine E_getfield (pc' := 14) (v := (.ref bH)) cx st5 (wd hw 52 rfl) (B6.at 8 (by decide) rfl rfl) d18_11 rfl ?_
  intro T7 st7
  refine E_aloadN (pc' := 15) cx st7 d18_14 rfl rfl rfl ?_
  refine E_getfield (pc' := 18) (v := (.ref hP)) cx st7 (wd hw 58 rfl) (B6.at 13 (by decide) rfl rfl) d18_15 rfl ?_
  intro T8 st8
  refine E_iloadN (pc' := 19) cx st8 d18_18 rfl rfl ?_
  have V9 : Arv Z h4 hP k_hP .int (16 : Int32) ((.int (1 : Int32)) :: (.int (0 : Int32)) :: (pr.map Value.int)) (.int (0 : Int32)) := (V_hP.other W4 (nd hnd 9 7 rfl rfl))
  refine E_iaload (pc' := 20) (x := (0 : Int32)) cx st8 V9 ⟨by decide, by decide⟩ rfl d18_19 rfl ?_
  refine E_iconst (pc' := 21) cx st8 (-1 : Int32) d18_20 rfl rfl ?_
  refine E_iastore (pc' := 22) (i := 0) cx st8 V4p ⟨by decide, by decide⟩ rfl (Nat.zero_lt_succ _) g_bH d18_21 rfl ?_
  intro T10 h10 st10 W10 V10
  have Z10 : n0 ≤ h10.size := Nat.le_trans Z4 (Keep.of_wr W10).1
  have K10 : Keep h0 h10 [o, c0, bF, bG, bO, bH, bT, hP, nw] := K4.wr W10 (mi 5 rfl)
  have V10p : Arv Z h10 bH k_bH .int (16 : Int32) ((.int (-1 : Int32)) :: (.int (-1 : Int32)) :: (dr.map Value.int)) (.int (0 : Int32)) := V10
  refine E_iinc (pc' := 25) (L' := #[.val (.ref o), .val (.int (2 : Int32))]) cx st10 (1 : Int32) d18_22 rfl rfl rfl rfl ?_
  refine E_goto (pc' := 2) cx st10 d18_25 (by decide) (by decide) ?_
  refine E_iloadN (pc' := 3) cx st10 d18_2 rfl rfl ?_
  refine E_aloadN (pc' := 4) cx st10 d18_3 rfl rfl rfl ?_
  have B12 : OL Z h10 o [(.int gt), (.ref cl), (.int fe), (.int eu), (.int sz), (.ref bF), (.ref bG), (.ref bO), (.ref bH), (.ref bT), (.int fb), (.int bu), (.long sta), (.ref hP), (.int (2 : Int32)), (.ref nw)] := (B6.other W10 (nd hnd 0 7 rfl rfl))
  refine E_getfield (pc' := 7) (v := (.int (2 : Int32))) cx st10 (wd hw 116 rfl) (B12.at 14 (by decide) rfl rfl) d18_4 rfl ?_
  intro T11 st11
  refine E_icmp_geY (pc' := 28) cx st11 d18_7 (by decide) (by decide) (by decide) ?_
  refine E_aloadN (pc' := 29) cx st11 d18_28 rfl rfl rfl ?_
  refine E_iconst (pc' := 30) cx st11 (0 : Int32) d18_29 rfl rfl ?_
  have X13 : Exa Z h10 o "com/example/flat_planner/flatplanner/OpenList" := ((X_o.wr W4).wr W10)
  refine E_putfield (pc' := 33) (ty := .int) cx st11 (wd hw 116 rfl) (B12.at 14 (by decide) rfl rfl) X13 (Or.inl (wd hw 117 rfl)) (wd hw 1 rfl) (by decide) rfl rfl g_o d18_30 rfl ?_
  intro T14 h14 st14 W14
  have Z14 : n0 ≤ h14.size := Nat.le_trans Z10 (Keep.of_wr W14).1
  have K14 : Keep h0 h14 [o, c0, bF, bG, bO, bH, bT, hP, nw] := K10.wr W14 (mi 0 rfl)
  have B14w : OL Z h14 o [(.int gt), (.ref cl), (.int fe), (.int eu), (.int sz), (.ref bF), (.ref bG), (.ref bO), (.ref bH), (.ref bT), (.int fb), (.int bu), (.long sta), (.ref hP), (.int (0 : Int32)), (.ref nw)] := B12.wr hw 14 (by decide) rfl W14 (Nat.le_of_ble_eq_true rfl)
  refine E_aloadN (pc' := 34) cx st14 d18_33 rfl rfl rfl ?_
  refine E_iconst (pc' := 35) cx st14 (0 : Int32) d18_34 rfl rfl ?_
  have X15 : Exa Z h14 o "com/example/flat_planner/flatplanner/OpenList" := (X13.wr W14)
  refine E_putfield (pc' := 38) (ty := .int) cx st14 (wd hw 118 rfl) (B14w.at 4 (by decide) rfl rfl) X15 (Or.inl (wd hw 119 rfl)) (wd hw 1 rfl) (by decide) rfl rfl g_o d18_35 rfl ?_
  intro T16 h16 st16 W16
  have Z16 : n0 ≤ h16.size := Nat.le_trans Z14 (Keep.of_wr W16).1
  have K16 : Keep h0 h16 [o, c0, bF, bG, bO, bH, bT, hP, nw] := K14.wr W16 (mi 0 rfl)
  have B16w : OL Z h16 o [(.int gt), (.ref cl), (.int fe), (.int eu), (.int (0 : Int32)), (.ref bF), (.ref bG), (.ref bO), (.ref bH), (.ref bT), (.int fb), (.int bu), (.long sta), (.ref hP), (.int (0 : Int32)), (.ref nw)] := B14w.wr hw 4 (by decide) rfl W16 (Nat.le_of_ble_eq_true rfl)
  refine E_aloadN (pc' := 39) cx st16 d18_38 rfl rfl rfl ?_
  refine E_iconst (pc' := 40) cx st16 (-1 : Int32) d18_39 rfl rfl ?_
  have X17 : Exa Z h16 o "com/example/flat_planner/flatplanner/OpenList" := (X15.wr W16)
  refine E_putfield (pc' := 43) (ty := .int) cx st16 (wd hw 43 rfl) (B16w.at 2 (by decide) rfl rfl) X17 (Or.inl (wd hw 44 rfl)) (wd hw 1 rfl) (by decide) rfl rfl g_o d18_40 rfl ?_
  intro T18 h18 st18 W18
  have Z18 : n0 ≤ h18.size := Nat.le_trans Z16 (Keep.of_wr W18).1
  have K18 : Keep h0 h18 [o, c0, bF, bG, bO, bH, bT, hP, nw] := K16.wr W18 (mi 0 rfl)
  have B18w : OL Z h18 o [(.int gt), (.ref cl), (.int (-1 : Int32)), (.int eu), (.int (0 : Int32)), (.ref bF), (.ref bG), (.ref bO), (.ref bH), (.ref bT), (.int fb), (.int bu), (.long sta), (.ref hP), (.int (0 : Int32)), (.ref nw)] := B16w.wr hw 2 (by decide) rfl W18 (Nat.le_of_ble_eq_true rfl)
  refine E_aloadN (pc' := 44) cx st18 d18_43 rfl rfl rfl ?_
  refine E_iconst (pc' := 45) cx st18 (0 : Int32) d18_44 rfl rfl ?_
  have X19 : Exa Z h18 o "com/example/flat_planner/flatplanner/OpenList" := (X17.wr W18)
  refine E_putfield (pc' := 48) (ty := .int) cx st18 (wd hw 77 rfl) (B18w.at 3 (by decide) rfl rfl) X19 (Or.inl (wd hw 78 rfl)) (wd hw 1 rfl) (by decide) rfl rfl g_o d18_45 rfl ?_
  intro T20 h20 st20 W20
  have Z20 : n0 ≤ h20.size := Nat.le_trans Z18 (Keep.of_wr W20).1
  have K20 : Keep h0 h20 [o, c0, bF, bG, bO, bH, bT, hP, nw] := K18.wr W20 (mi 0 rfl)
  have B20w : OL Z h20 o [(.int gt), (.ref cl), (.int (-1 : Int32)), (.int (0 : Int32)), (.int (0 : Int32)), (.ref bF), (.ref bG), (.ref bO), (.ref bH), (.ref bT), (.int fb), (.int bu), (.long sta), (.ref hP), (.int (0 : Int32)), (.ref nw)] := B18w.wr hw 3 (by decide) rfl W20 (Nat.le_of_ble_eq_true rfl)
  refine E_aloadN (pc' := 49) cx st20 d18_48 rfl rfl rfl ?_
  refine E_iconst (pc' := 50) cx st20 (-1 : Int32) d18_49 rfl rfl ?_
  have X21 : Exa Z h20 o "com/example/flat_planner/flatplanner/OpenList" := (X19.wr W20)
  refine E_putfield (pc' := 53) (ty := .int) cx st20 (wd hw 56 rfl) (B20w.at 10 (by decide) rfl rfl) X21 (Or.inl (wd hw 57 rfl)) (wd hw 1 rfl) (by decide) rfl rfl g_o d18_50 rfl ?_
  intro T22 h22 st22 W22
  have Z22 : n0 ≤ h22.size := Nat.le_trans Z20 (Keep.of_wr W22).1
  have K22 : Keep h0 h22 [o, c0, bF, bG, bO, bH, bT, hP, nw] := K20.wr W22 (mi 0 rfl)
  have B22w : OL Z h22 o [(.int gt), (.ref cl), (.int (-1 : Int32)), (.int (0 : Int32)), (.int (0 : Int32)), (.ref bF), (.ref bG), (.ref bO), (.ref bH), (.ref bT), (.int (-1 : Int32)), (.int bu), (.long sta), (.ref hP), (.int (0 : Int32)), (.ref nw)] := B20w.wr hw 10 (by decide) rfl W22 (Nat.le_of_ble_eq_true rfl)
  refine E_aloadN (pc' := 54) cx st22 d18_53 rfl rfl rfl ?_
  refine E_iconst (pc' := 55) cx st22 (0 : Int32) d18_54 rfl rfl ?_
  have X23 : Exa Z h22 o "com/example/flat_planner/flatplanner/OpenList" := (X21.wr W22)
  refine E_putfield (pc' := 58) (ty := .int) cx st22 (wd hw 108 rfl) (B22w.at 11 (by decide) rfl rfl) X23 (Or.inl (wd hw 109 rfl)) (wd hw 1 rfl) (by decide) rfl rfl g_o d18_55 rfl ?_
  intro T24 h24 st24 W24
  have Z24 : n0 ≤ h24.size := Nat.le_trans Z22 (Keep.of_wr W24).1
  have K24 : Keep h0 h24 [o, c0, bF, bG, bO, bH, bT, hP, nw] := K22.wr W24 (mi 0 rfl)
  have B24w : OL Z h24 o [(.int gt), (.ref cl), (.int (-1 : Int32)), (.int (0 : Int32)), (.int (0 : Int32)), (.ref bF), (.ref bG), (.ref bO), (.ref bH), (.ref bT), (.int (-1 : Int32)), (.int (0 : Int32)), (.long sta), (.ref hP), (.int (0 : Int32)), (.ref nw)] := B22w.wr hw 11 (by decide) rfl W24 (Nat.le_of_ble_eq_true rfl)
  refine E_aloadN (pc' := 59) cx st24 d18_58 rfl rfl rfl ?_
  refine E_lconst (pc' := 60) cx st24 (0 : Int64) d18_59 rfl rfl ?_
  have X25 : Exa Z h24 o "com/example/flat_planner/flatplanner/OpenList" := (X23.wr W24)
  refine E_putfield (pc' := 63) (ty := .long) cx st24 (wd hw 110 rfl) (B24w.at 12 (by decide) rfl rfl) X25 (Or.inl (wd hw 111 rfl)) (wd hw 1 rfl) (by decide) rfl rfl g_o d18_60 rfl ?_
  intro T26 h26 st26 W26
  have Z26 : n0 ≤ h26.size := Nat.le_trans Z24 (Keep.of_wr W26).1
  have K26 : Keep h0 h26 [o, c0, bF, bG, bO, bH, bT, hP, nw] := K24.wr W26 (mi 0 rfl)
  have B26w : OL Z h26 o [(.int gt), (.ref cl), (.int (-1 : Int32)), (.int (0 : Int32)), (.int (0 : Int32)), (.ref bF), (.ref bG), (.ref bO), (.ref bH), (.ref bT), (.int (-1 : Int32)), (.int (0 : Int32)), (.long (0 : Int64)), (.ref hP), (.int (0 : Int32)), (.ref nw)] := B24w.wr hw 12 (by decide) rfl W26 (Nat.le_of_ble_eq_true rfl)
  have X27 : Exa Z h26 o "com/example/flat_planner/flatplanner/OpenList" := (X25.wr W26)
  have HL28 : LCF Z h26 cl cs := (((((((((HL.other W4 (nd hnd 1 7 rfl rfl)).other W10 (nd hnd 1 7 rfl rfl)).other W14 (nd hnd 1 0 rfl rfl)).other W16 (nd hnd 1 0 rfl rfl)).other W18 (nd hnd 1 0 rfl rfl)).other W20 (nd hnd 1 0 rfl rfl)).other W22 (nd hnd 1 0 rfl rfl)).other W24 (nd hnd 1 0 rfl rfl)).other W26 (nd hnd 1 0 rfl rfl))
  have V29 : Arv Z h26 cs k_cs (.array .long) (1 : Int32) [(.ref c0)] .null := (((((((((V_cs.other W4 (nd hnd 2 7 rfl rfl)).other W10 (nd hnd 2 7 rfl rfl)).other W14 (nd hnd 2 0 rfl rfl)).other W16 (nd hnd 2 0 rfl rfl)).other W18 (nd hnd 2 0 rfl rfl)).other W20 (nd hnd 2 0 rfl rfl)).other W22 (nd hnd 2 0 rfl rfl)).other W24 (nd hnd 2 0 rfl rfl)).other W26 (nd hnd 2 0 rfl rfl))
  have V30 : Arv Z h26 c0 k_c0 .long (16 : Int32) ((.long e0) :: (.long e1) :: (er.map Value.long)) (.long (0 : Int64)) := (((((((((V_c0.other W4 (nd hnd 3 7 rfl rfl)).other W10 (nd hnd 3 7 rfl rfl)).other W14 (nd hnd 3 0 rfl rfl)).other W16 (nd hnd 3 0 rfl rfl)).other W18 (nd hnd 3 0 rfl rfl)).other W20 (nd hnd 3 0 rfl rfl)).other W22 (nd hnd 3 0 rfl rfl)).other W24 (nd hnd 3 0 rfl rfl)).other W26 (nd hnd 3 0 rfl rfl))
  have V31 : Arv Z h26 bF k_bF .long (16 : Int32) ((.long f0) :: (.long f1) :: (fr.map Value.long)) (.long (0 : Int64)) := (((((((((V_bF.other W4 (nd hnd 4 7 rfl rfl)).other W10 (nd hnd 4 7 rfl rfl)).other W14 (nd hnd 4 0 rfl rfl)).other W16 (nd hnd 4 0 rfl rfl)).other W18 (nd hnd 4 0 rfl rfl)).other W20 (nd hnd 4 0 rfl rfl)).other W22 (nd hnd 4 0 rfl rfl)).other W24 (nd hnd 4 0 rfl rfl)).other W26 (nd hnd 4 0 rfl rfl))
  have V32 : Arv Z h26 bG k_bG .long (16 : Int32) ((.long g0) :: (.long g1) :: (gr.map Value.long)) (.long (0 : Int64)) := (((((((((V_bG.other W4 (nd hnd 5 7 rfl rfl)).other W10 (nd hnd 5 7 rfl rfl)).other W14 (nd hnd 5 0 rfl rfl)).other W16 (nd hnd 5 0 rfl rfl)).other W18 (nd hnd 5 0 rfl rfl)).other W20 (nd hnd 5 0 rfl rfl)).other W22 (nd hnd 5 0 rfl rfl)).other W24 (nd hnd 5 0 rfl rfl)).other W26 (nd hnd 5 0 rfl rfl))
  have V33 : Arv Z h26 bO k_bO .long (16 : Int32) ((.long q0) :: (.long q1) :: (qr.map Value.long)) (.long (0 : Int64)) := (((((((((V_bO.other W4 (nd hnd 6 7 rfl rfl)).other W10 (nd hnd 6 7 rfl rfl)).other W14 (nd hnd 6 0 rfl rfl)).other W16 (nd hnd 6 0 rfl rfl)).other W18 (nd hnd 6 0 rfl rfl)).other W20 (nd hnd 6 0 rfl rfl)).other W22 (nd hnd 6 0 rfl rfl)).other W24 (nd hnd 6 0 rfl rfl)).other W26 (nd hnd 6 0 rfl rfl))
  have V34 : Arv Z h26 bH k_bH .int (16 : Int32) ((.int (-1 : Int32)) :: (.int (-1 : Int32)) :: (dr.map Value.int)) (.int (0 : Int32)) := (((((((V10p.other W14 (nd hnd 7 0 rfl rfl)).other W16 (nd hnd 7 0 rfl rfl)).other W18 (nd hnd 7 0 rfl rfl)).other W20 (nd hnd 7 0 rfl rfl)).other W22 (nd hnd 7 0 rfl rfl)).other W24 (nd hnd 7 0 rfl rfl)).other W26 (nd hnd 7 0 rfl rfl))
  have V35 : Arv Z h26 bT k_bT .int (16 : Int32) ((.int t0) :: (.int t1) :: (tr.map Value.int)) (.int (0 : Int32)) := (((((((((V_bT.other W4 (nd hnd 8 7 rfl rfl)).other W10 (nd hnd 8 7 rfl rfl)).other W14 (nd hnd 8 0 rfl rfl)).other W16 (nd hnd 8 0 rfl rfl)).other W18 (nd hnd 8 0 rfl rfl)).other W20 (nd hnd 8 0 rfl rfl)).other W22 (nd hnd 8 0 rfl rfl)).other W24 (nd hnd 8 0 rfl rfl)).other W26 (nd hnd 8 0 rfl rfl))
  have V36 : Arv Z h26 hP k_hP .int (16 : Int32) ((.int (1 : Int32)) :: (.int (0 : Int32)) :: (pr.map Value.int)) (.int (0 : Int32)) := ((((((((V9.other W10 (nd hnd 9 7 rfl rfl)).other W14 (nd hnd 9 0 rfl rfl)).other W16 (nd hnd 9 0 rfl rfl)).other W18 (nd hnd 9 0 rfl rfl)).other W20 (nd hnd 9 0 rfl rfl)).other W22 (nd hnd 9 0 rfl rfl)).other W24 (nd hnd 9 0 rfl rfl)).other W26 (nd hnd 9 0 rfl rfl))
  have V37 : Arv Z h26 nw k_nw .int (32 : Int32) (ns.map Value.int) (.int (0 : Int32)) := (((((((((V_nw.other W4 (nd hnd 10 7 rfl rfl)).other W10 (nd hnd 10 7 rfl rfl)).other W14 (nd hnd 10 0 rfl rfl)).other W16 (nd hnd 10 0 rfl rfl)).other W18 (nd hnd 10 0 rfl rfl)).other W20 (nd hnd 10 0 rfl rfl)).other W22 (nd hnd 10 0 rfl rfl)).other W24 (nd hnd 10 0 rfl rfl)).other W26 (nd hnd 10 0 rfl rfl))
  refine E_return cx st26 d18_63 rfl (by decide) (by decide) ?_
  exact ⟨rfl, K26, ⟨X27, B26w, HL28, ⟨_, V29⟩, ⟨_, V30⟩, ⟨_, V31⟩, ⟨_, V32⟩, ⟨_, V33⟩, ⟨_, V34⟩, ⟨_, V35⟩, ⟨_, V36⟩, ⟨_, V37⟩⟩⟩
theorem d19_0 : decode prog_16_method_2_code 0 = .ok (.aload_n 0, 1) := by decide +kernel
theorem d19_1 : decode prog_16_method_2_code 1 = .ok (.getfield 58, 3) := by decide +kernel
theorem d19_4 : decode prog_16_method_2_code 4 = .ok (.ifCond .ne 7, 3) := by decide +kernel
theorem d19_7 : decode prog_16_method_2_code 7 = .ok (.iconst 1, 1) := by decide +kernel
theorem d19_8 : decode prog_16_method_2_code 8 = .ok (.goto 4, 3) := by decide +kernel
theorem d19_11 : decode prog_16_method_2_code 11 = .ok (.iconst 0, 1) := by decide +kernel
theorem d19_12 : decode prog_16_method_2_code 12 = .ok (.ireturn, 1) := by decide +kernel
theorem ef_isEmpty (m : MethodId) (x0 : Addr) : entryFrame m #[(.ref x0)] 1 = mkF m 0 #[.val (.ref x0)] [] := by first | (simp [entryFrame, mkF, argsToLocals, Value.category]; done) | rfl
set_option maxRecDepth 65536 in
set_option maxHeartbeats 40000000 in
theorem rmisEmpty (l : Launch) (Z : State) (a0 : Array Value) (hw : ∀ d ∈ tables_1, d.before a0 Z = true) (o : Addr) (cl : Addr) (cs : Addr) (c0 : Addr) (bF : Addr) (bG : Addr) (bO : Addr) (bH : Addr) (bT : Addr) (hP : Addr) (nw : Addr) (h0 : Heap) (n0 : Nat) (Z0 : n0 ≤ h0.size) (gt : Int32) (fe : Int32) (eu : Int32) (fb : Int32) (bu : Int32) (sta : Int64) (hs : Int32) (e0 : Int64) (e1 : Int64) (er : List Int64) (f0 : Int64) (f1 : Int64) (fr : List Int64) (g0 : Int64) (g1 : Int64) (gr : List Int64) (q0 : Int64) (q1 : Int64) (qr : List Int64) (d0 : Int32) (d1 : Int32) (dr : List Int32) (t0 : Int32) (t1 : Int32) (tr : List Int32) (p0 : Int32) (p1 : Int32) (pr : List Int32) (ns : List Int32) (hnd : [o, cl, cs, c0, bF, bG, bO, bH, bT, hP, nw].Nodup) (hge : ∀ a ∈ [o, cl, cs, c0, bF, bG, bO, bH, bT, hP, nw], n0 ≤ a) (H0 : Wd Z h0 o cl cs c0 bF bG bO bH bT hP nw gt fe eu (0 : Int32) fb bu hs sta e0 e1 er f0 f1 fr g0 g1 gr q0 q1 qr d0 d1 dr t0 t1 tr p0 p1 pr ns)  :
    Con l Z (⟨"com/example/flat_planner/flatplanner/OpenList", "isEmpty", "()Z"⟩ : MethodName) prog_16_method_2_code 1 (some .boolean) ({ frames := 0, cells := 0, slots := 0, locals := 0 } : Room) #[(.ref o)] h0 n0 (fun v h => v = some (.int (1 : Int32)) ∧ h = h0) := by
  refine Con.of (own := "com/example/flat_planner/flatplanner/OpenList") (name := "isEmpty") (plainFor_of_name pn_3) (fun m => ef_isEmpty m o) rfl rfl ?_
  intro p e s m below meth c T F S cx st
  have g_o : n0 ≤ o := hge o (by simp)
  have g_c0 : n0 ≤ c0 := hge c0 (by simp)
  have g_bF : n0 ≤ bF := hge bF (by simp)
  have g_bG : n0 ≤ bG := hge bG (by simp)
  have g_bO : n0 ≤ bO := hge bO (by simp)
  have g_bH : n0 ≤ bH := hge bH (by simp)
  have g_bT : n0 ≤ bT := hge bT (by simp)
  have g_hP : n0 ≤ hP := hge hP (by simp)
  have g_nw : n0 ≤ nw := hge nw (by simp)
  obtain ⟨X_o, B_o, HL, ⟨k_cs, V_cs⟩, ⟨k_c0, V_c0⟩, ⟨k_bF, V_bF⟩, ⟨k_bG, V_bG⟩, ⟨k_bO, V_bO⟩, ⟨k_bH, V_bH⟩, ⟨k_bT, V_bT⟩, ⟨k_hP, V_hP⟩, ⟨k_nw, V_nw⟩⟩ := H0
  refine E_aloadN (pc' := 1) cx st d19_0 rfl rfl rfl ?_
  refine E_getfield (pc' := 4) (v := (.int (0 : Int32))) cx st (wd hw 118 rfl) (B_o.at 4 (by decide) rfl rfl) d19_1 rfl ?_
  intro T1 st1
  refine E_if_neN (pc' := 7) cx st1 d19_4 rfl rfl ?_
  refine E_iconst (pc' := 8) cx st1 (1 : Int32) d19_7 rfl rfl ?_
  refine E_goto (pc' := 12) cx st1 d19_8 (by decide) (by decide) ?_
  refine E_ireturn (t := .boolean) cx st1 d19_12 rfl (by simp) rfl (by decide) (by decide) ?_
  exact ⟨rfl, rfl⟩
theorem d20_0 : decode prog_16_method_5_code 0 = .ok (.aload_n 0, 1) := by decide +kernel
theorem d20_1 : decode prog_16_method_5_code 1 = .ok (.getfield 22, 3) := by decide +kernel
theorem d20_4 : decode prog_16_method_5_code 4 = .ok (.aload_n 0, 1) := by decide +kernel
theorem d20_5 : decode prog_16_method_5_code 5 = .ok (.getfield 42, 3) := by decide +kernel
theorem d20_8 : decode prog_16_method_5_code 8 = .ok (.iconst 0, 1) := by decide +kernel
theorem d20_9 : decode prog_16_method_5_code 9 = .ok (.iaload, 1) := by decide +kernel
theorem d20_10 : decode prog_16_method_5_code 10 = .ok (.laload, 1) := by decide +kernel
theorem d20_11 : decode prog_16_method_5_code 11 = .ok (.lreturn, 1) := by decide +kernel
theorem ef_firstF0 (m : MethodId) (x0 : Addr) : entryFrame m #[(.ref x0)] 1 = mkF m 0 #[.val (.ref x0)] [] := by first | (simp [entryFrame, mkF, argsToLocals, Value.category]; done) | rfl
set_option maxRecDepth 65536 in
set_option maxHeartbeats 40000000 in
theorem rmfirstF0 (l : Launch) (Z : State) (a0 : Array Value) (hw : ∀ d ∈ tables_1, d.before a0 Z = true) (o : Addr) (cl : Addr) (cs : Addr) (c0 : Addr) (bF : Addr) (bG : Addr) (bO : Addr) (bH : Addr) (bT : Addr) (hP : Addr) (nw : Addr) (h0 : Heap) (n0 : Nat) (Z0 : n0 ≤ h0.size) (gt : Int32) (fe : Int32) (eu : Int32) (sz : Int32) (fb : Int32) (bu : Int32) (sta : Int64) (hs : Int32) (e0 : Int64) (e1 : Int64) (er : List Int64) (f0 : Int64) (f1 : Int64) (fr : List Int64) (g0 : Int64) (g1 : Int64) (gr : List Int64) (q0 : Int64) (q1 : Int64) (qr : List Int64) (d0 : Int32) (d1 : Int32) (dr : List Int32) (t0 : Int32) (t1 : Int32) (tr : List Int32) (p1 : Int32) (pr : List Int32) (ns : List Int32) (hnd : [o, cl, cs, c0, bF, bG, bO, bH, bT, hP, nw].Nodup) (hge : ∀ a ∈ [o, cl, cs, c0, bF, bG, bO, bH, bT, hP, nw], n0 ≤ a) (H0 : Wd Z h0 o cl cs c0 bF bG bO bH bT hP nw gt fe eu sz fb bu hs sta e0 e1 er f0 f1 fr g0 g1 gr q0 q1 qr d0 d1 dr t0 t1 tr (0 : Int32) p1 pr ns)  :
    Con l Z (⟨"com/example/flat_planner/flatplanner/OpenList", "firstF", "()J"⟩ : MethodName) prog_16_method_5_code 1 (some .long) ({ frames := 0, cells := 0, slots := 0, locals := 0 } : Room) #[(.ref o)] h0 n0 (fun v h => v = some (.long f0) ∧ h = h0) := by
  refine Con.of (own := "com/example/flat_planner/flatplanner/OpenList") (name := "firstF") (plainFor_of_name pn_3) (fun m => ef_firstF0 m o) rfl rfl ?_
  intro p e s m below meth c T F S cx st
  have g_o : n0 ≤ o := hge o (by simp)
  have g_c0 : n0 ≤ c0 := hge c0 (by simp)
  have g_bF : n0 ≤ bF := hge bF (by simp)
  have g_bG : n0 ≤ bG := hge bG (by simp)
  have g_bO : n0 ≤ bO := hge bO (by simp)
  have g_bH : n0 ≤ bH := hge bH (by simp)
  have g_bT : n0 ≤ bT := hge bT (by simp)
  have g_hP : n0 ≤ hP := hge hP (by simp)
  have g_nw : n0 ≤ nw := hge nw (by simp)
  obtain ⟨X_o, B_o, HL, ⟨k_cs, V_cs⟩, ⟨k_c0, V_c0⟩, ⟨k_bF, V_bF⟩, ⟨k_bG, V_bG⟩, ⟨k_bO, V_bO⟩, ⟨k_bH, V_bH⟩, ⟨k_bT, V_bT⟩, ⟨k_hP, V_hP⟩, ⟨k_nw, V_nw⟩⟩ := H0
  refine E_aloadN (pc' := 1) cx st d20_0 rfl rfl rfl ?_
  refine E_getfield (pc' := 4) (v := (.ref bF)) cx st (wd hw 45 rfl) (B_o.at 5 (by decide) rfl rfl) d20_1 rfl ?_
  intro T1 st1
  refine E_aloadN (pc' := 5) cx st1 d20_4 rfl rfl rfl ?_
  refine E_getfield (pc' := 8) (v := (.ref hP)) cx st1 (wd hw 58 rfl) (B_o.at 13 (by decide) rfl rfl) d20_5 rfl ?_
  intro T2 st2
  refine E_iconst (pc' := 9) cx st2 (0 : Int32) d20_8 rfl rfl ?_
  refine E_iaload (pc' := 10) (x := (0 : Int32)) cx st2 V_hP ⟨by decide, by decide⟩ rfl d20_9 rfl ?_
  refine E_laload (pc' := 11) (x := f0) cx st2 V_bF ⟨by decide, by decide⟩ rfl d20_10 rfl ?_
  refine E_lreturn cx st2 d20_11 rfl (by decide) (by decide) ?_
  exact ⟨rfl, rfl⟩
theorem d21_0 : decode prog_16_method_6_code 0 = .ok (.aload_n 0, 1) := by decide +kernel
theorem d21_1 : decode prog_16_method_6_code 1 = .ok (.getfield 26, 3) := by decide +kernel
theorem d21_4 : decode prog_16_method_6_code 4 = .ok (.aload_n 0, 1) := by decide +kernel
theorem d21_5 : decode prog_16_method_6_code 5 = .ok (.getfield 42, 3) := by decide +kernel
theorem d21_8 : decode prog_16_method_6_code 8 = .ok (.iconst 0, 1) := by decide +kernel
theorem d21_9 : decode prog_16_method_6_code 9 = .ok (.iaload, 1) := by decide +kernel
theorem d21_10 : decode prog_16_method_6_code 10 = .ok (.laload, 1) := by decide +kernel
theorem d21_11 : decode prog_16_method_6_code 11 = .ok (.lreturn, 1) := by decide +kernel
theorem ef_firstG0 (m : MethodId) (x0 : Addr) : entryFrame m #[(.ref x0)] 1 = mkF m 0 #[.val (.ref x0)] [] := by first | (simp [entryFrame, mkF, argsToLocals, Value.category]; done) | rfl
set_option maxRecDepth 65536 in
set_option maxHeartbeats 40000000 in
theorem rmfirstG0 (l : Launch) (Z : State) (a0 : Array Value) (hw : ∀ d ∈ tables_1, d.before a0 Z = true) (o : Addr) (cl : Addr) (cs : Addr) (c0 : Addr) (bF : Addr) (bG : Addr) (bO : Addr) (bH : Addr) (bT : Addr) (hP : Addr) (nw : Addr) (h0 : Heap) (n0 : Nat) (Z0 : n0 ≤ h0.size) (gt : Int32) (fe : Int32) (eu : Int32) (sz : Int32) (fb : Int32) (bu : Int32) (sta : Int64) (hs : Int32) (e0 : Int64) (e1 : Int64) (er : List Int64) (f0 : Int64) (f1 : Int64) (fr : List Int64) (g0 : Int64) (g1 : Int64) (gr : List Int64) (q0 : Int64) (q1 : Int64) (qr : List Int64) (d0 : Int32) (d1 : Int32) (dr : List Int32) (t0 : Int32) (t1 : Int32) (tr : List Int32) (p1 : Int32) (pr : List Int32) (ns : List Int32) (hnd : [o, cl, cs, c0, bF, bG, bO, bH, bT, hP, nw].Nodup) (hge : ∀ a ∈ [o, cl, cs, c0, bF, bG, bO, bH, bT, hP, nw], n0 ≤ a) (H0 : Wd Z h0 o cl cs c0 bF bG bO bH bT hP nw gt fe eu sz fb bu hs sta e0 e1 er f0 f1 fr g0 g1 gr q0 q1 qr d0 d1 dr t0 t1 tr (0 : Int32) p1 pr ns)  :
    Con l Z (⟨"com/example/flat_planner/flatplanner/OpenList", "firstG", "()J"⟩ : MethodName) prog_16_method_6_code 1 (some .long) ({ frames := 0, cells := 0, slots := 0, locals := 0 } : Room) #[(.ref o)] h0 n0 (fun v h => v = some (.long g0) ∧ h = h0) := by
  refine Con.of (own := "com/example/flat_planner/flatplanner/OpenList") (name := "firstG") (plainFor_of_name pn_3) (fun m => ef_firstG0 m o) rfl rfl ?_
  intro p e s m below meth c T F S cx st
  have g_o : n0 ≤ o := hge o (by simp)
  have g_c0 : n0 ≤ c0 := hge c0 (by simp)
  have g_bF : n0 ≤ bF := hge bF (by simp)
  have g_bG : n0 ≤ bG := hge bG (by simp)
  have g_bO : n0 ≤ bO := hge bO (by simp)
  have g_bH : n0 ≤ bH := hge bH (by simp)
  have g_bT : n0 ≤ bT := hge bT (by simp)
  have g_hP : n0 ≤ hP := hge hP (by simp)
  have g_nw : n0 ≤ nw := hge nw (by simp)
  obtain ⟨X_o, B_o, HL, ⟨k_cs, V_cs⟩, ⟨k_c0, V_c0⟩, ⟨k_bF, V_bF⟩, ⟨k_bG, V_bG⟩, ⟨k_bO, V_bO⟩, ⟨k_bH, V_bH⟩, ⟨k_bT, V_bT⟩, ⟨k_hP, V_hP⟩, ⟨k_nw, V_nw⟩⟩ := H0
  refine E_aloadN (pc' := 1) cx st d21_0 rfl rfl rfl ?_
  refine E_getfield (pc' := 4) (v := (.ref bG)) cx st (wd hw 47 rfl) (B_o.at 6 (by decide) rfl rfl) d21_1 rfl ?_
  intro T1 st1
  refine E_aloadN (pc' := 5) cx st1 d21_4 rfl rfl rfl ?_
  refine E_getfield (pc' := 8) (v := (.ref hP)) cx st1 (wd hw 58 rfl) (B_o.at 13 (by decide) rfl rfl) d21_5 rfl ?_
  intro T2 st2
  refine E_iconst (pc' := 9) cx st2 (0 : Int32) d21_8 rfl rfl ?_
  refine E_iaload (pc' := 10) (x := (0 : Int32)) cx st2 V_hP ⟨by decide, by decide⟩ rfl d21_9 rfl ?_
  refine E_laload (pc' := 11) (x := g0) cx st2 V_bG ⟨by decide, by decide⟩ rfl d21_10 rfl ?_
  refine E_lreturn cx st2 d21_11 rfl (by decide) (by decide) ?_
  exact ⟨rfl, rfl⟩
theorem ef_firstF1 (m : MethodId) (x0 : Addr) : entryFrame m #[(.ref x0)] 1 = mkF m 0 #[.val (.ref x0)] [] := by first | (simp [entryFrame, mkF, argsToLocals, Value.category]; done) | rfl
set_option maxRecDepth 65536 in
set_option maxHeartbeats 40000000 in
theorem rmfirstF1 (l : Launch) (Z : State) (a0 : Array Value) (hw : ∀ d ∈ tables_1, d.before a0 Z = true) (o : Addr) (cl : Addr) (cs : Addr) (c0 : Addr) (bF : Addr) (bG : Addr) (bO : Addr) (bH : Addr) (bT : Addr) (hP : Addr) (nw : Addr) (h0 : Heap) (n0 : Nat) (Z0 : n0 ≤ h0.size) (gt : Int32) (fe : Int32) (eu : Int32) (sz : Int32) (fb : Int32) (bu : Int32) (sta : Int64) (hs : Int32) (e0 : Int64) (e1 : Int64) (er : List Int64) (f0 : Int64) (f1 : Int64) (fr : List Int64) (g0 : Int64) (g1 : Int64) (gr : List Int64) (q0 : Int64) (q1 : Int64) (qr : List Int64) (d0 : Int32) (d1 : Int32) (dr : List Int32) (t0 : Int32) (t1 : Int32) (tr : List Int32) (p1 : Int32) (pr : List Int32) (ns : List Int32) (hnd : [o, cl, cs, c0, bF, bG, bO, bH, bT, hP, nw].Nodup) (hge : ∀ a ∈ [o, cl, cs, c0, bF, bG, bO, bH, bT, hP, nw], n0 ≤ a) (H0 : Wd Z h0 o cl cs c0 bF bG bO bH bT hP nw gt fe eu sz fb bu hs sta e0 e1 er f0 f1 fr g0 g1 gr q0 q1 qr d0 d1 dr t0 t1 tr (1 : Int32) p1 pr ns)  :
    Con l Z (⟨"com/example/flat_planner/flatplanner/OpenList", "firstF", "()J"⟩ : MethodName) prog_16_method_5_code 1 (some .long) ({ frames := 0, cells := 0, slots := 0, locals := 0 } : Room) #[(.ref o)] h0 n0 (fun v h => v = some (.long f1) ∧ h = h0) := by
  refine Con.of (own := "com/example/flat_planner/flatplanner/OpenList") (name := "firstF") (plainFor_of_name pn_3) (fun m => ef_firstF1 m o) rfl rfl ?_
  intro p e s m below meth c T F S cx st
  have g_o : n0 ≤ o := hge o (by simp)
  have g_c0 : n0 ≤ c0 := hge c0 (by simp)
  have g_bF : n0 ≤ bF := hge bF (by simp)
  have g_bG : n0 ≤ bG := hge bG (by simp)
  have g_bO : n0 ≤ bO := hge bO (by simp)
  have g_bH : n0 ≤ bH := hge bH (by simp)
  have g_bT : n0 ≤ bT := hge bT (by simp)
  have g_hP : n0 ≤ hP := hge hP (by simp)
  have g_nw : n0 ≤ nw := hge nw (by simp)
  obtain ⟨X_o, B_o, HL, ⟨k_cs, V_cs⟩, ⟨k_c0, V_c0⟩, ⟨k_bF, V_bF⟩, ⟨k_bG, V_bG⟩, ⟨k_bO, V_bO⟩, ⟨k_bH, V_bH⟩, ⟨k_bT, V_bT⟩, ⟨k_hP, V_hP⟩, ⟨k_nw, V_nw⟩⟩ := H0
  refine E_aloadN (pc' := 1) cx st d20_0 rfl rfl rfl ?_
  refine E_getfield (pc' := 4) (v := (.ref bF)) cx st (wd hw 45 rfl) (B_o.at 5 (by decide) rfl rfl) d20_1 rfl ?_
  intro T1 st1
  refine E_aloadN (pc' := 5) cx st1 d20_4 rfl rfl rfl ?_
  refine E_getfield (pc' := 8) (v := (.ref hP)) cx st1 (wd hw 58 rfl) (B_o.at 13 (by decide) rfl rfl) d20_5 rfl ?_
  intro T2 st2
  refine E_iconst (pc' := 9) cx st2 (0 : Int32) d20_8 rfl rfl ?_
  refine E_iaload (pc' := 10) (x := (1 : Int32)) cx st2 V_hP ⟨by decide, by decide⟩ rfl d20_9 rfl ?_
  refine E_laload (pc' := 11) (x := f1) cx st2 V_bF ⟨by decide, by decide⟩ rfl d20_10 rfl ?_
  refine E_lreturn cx st2 d20_11 rfl (by decide) (by decide) ?_
  exact ⟨rfl, rfl⟩
theorem ef_firstG1 (m : MethodId) (x0 : Addr) : entryFrame m #[(.ref x0)] 1 = mkF m 0 #[.val (.ref x0)] [] := by first | (simp [entryFrame, mkF, argsToLocals, Value.category]; done) | rfl
set_option maxRecDepth 65536 in
set_option maxHeartbeats 40000000 in
theorem rmfirstG1 (l : Launch) (Z : State) (a0 : Array Value) (hw : ∀ d ∈ tables_1, d.before a0 Z = true) (o : Addr) (cl : Addr) (cs : Addr) (c0 : Addr) (bF : Addr) (bG : Addr) (bO : Addr) (bH : Addr) (bT : Addr) (hP : Addr) (nw : Addr) (h0 : Heap) (n0 : Nat) (Z0 : n0 ≤ h0.size) (gt : Int32) (fe : Int32) (eu : Int32) (sz : Int32) (fb : Int32) (bu : Int32) (sta : Int64) (hs : Int32) (e0 : Int64) (e1 : Int64) (er : List Int64) (f0 : Int64) (f1 : Int64) (fr : List Int64) (g0 : Int64) (g1 : Int64) (gr : List Int64) (q0 : Int64) (q1 : Int64) (qr : List Int64) (d0 : Int32) (d1 : Int32) (dr : List Int32) (t0 : Int32) (t1 : Int32) (tr : List Int32) (p1 : Int32) (pr : List Int32) (ns : List Int32) (hnd : [o, cl, cs, c0, bF, bG, bO, bH, bT, hP, nw].Nodup) (hge : ∀ a ∈ [o, cl, cs, c0, bF, bG, bO, bH, bT, hP, nw], n0 ≤ a) (H0 : Wd Z h0 o cl cs c0 bF bG bO bH bT hP nw gt fe eu sz fb bu hs sta e0 e1 er f0 f1 fr g0 g1 gr q0 q1 qr d0 d1 dr t0 t1 tr (1 : Int32) p1 pr ns)  :
    Con l Z (⟨"com/example/flat_planner/flatplanner/OpenList", "firstG", "()J"⟩ : MethodName) prog_16_method_6_code 1 (some .long) ({ frames := 0, cells := 0, slots := 0, locals := 0 } : Room) #[(.ref o)] h0 n0 (fun v h => v = some (.long g1) ∧ h = h0) := by
  refine Con.of (own := "com/example/flat_planner/flatplanner/OpenList") (name := "firstG") (plainFor_of_name pn_3) (fun m => ef_firstG1 m o) rfl rfl ?_
  intro p e s m below meth c T F S cx st
  have g_o : n0 ≤ o := hge o (by simp)
  have g_c0 : n0 ≤ c0 := hge c0 (by simp)
  have g_bF : n0 ≤ bF := hge bF (by simp)
  have g_bG : n0 ≤ bG := hge bG (by simp)
  have g_bO : n0 ≤ bO := hge bO (by simp)
  have g_bH : n0 ≤ bH := hge bH (by simp)
  have g_bT : n0 ≤ bT := hge bT (by simp)
  have g_hP : n0 ≤ hP := hge hP (by simp)
  have g_nw : n0 ≤ nw := hge nw (by simp)
  obtain ⟨X_o, B_o, HL, ⟨k_cs, V_cs⟩, ⟨k_c0, V_c0⟩, ⟨k_bF, V_bF⟩, ⟨k_bG, V_bG⟩, ⟨k_bO, V_bO⟩, ⟨k_bH, V_bH⟩, ⟨k_bT, V_bT⟩, ⟨k_hP, V_hP⟩, ⟨k_nw, V_nw⟩⟩ := H0
  refine E_aloadN (pc' := 1) cx st d21_0 rfl rfl rfl ?_
  refine E_getfield (pc' := 4) (v := (.ref bG)) cx st (wd hw 47 rfl) (B_o.at 6 (by decide) rfl rfl) d21_1 rfl ?_
  intro T1 st1
  refine E_aloadN (pc' := 5) cx st1 d21_4 rfl rfl rfl ?_
  refine E_getfield (pc' := 8) (v := (.ref hP)) cx st1 (wd hw 58 rfl) (B_o.at 13 (by decide) rfl rfl) d21_5 rfl ?_
  intro T2 st2
  refine E_iconst (pc' := 9) cx st2 (0 : Int32) d21_8 rfl rfl ?_
  refine E_iaload (pc' := 10) (x := (1 : Int32)) cx st2 V_hP ⟨by decide, by decide⟩ rfl d21_9 rfl ?_
  refine E_laload (pc' := 11) (x := g1) cx st2 V_bG ⟨by decide, by decide⟩ rfl d21_10 rfl ?_
  refine E_lreturn cx st2 d21_11 rfl (by decide) (by decide) ?_
  exact ⟨rfl, rfl⟩
theorem slt_n (f g : Int64) : (slt f g).toNatClampNeg < 32 := (i32_small (n := 32) (slt_b f g) (by decide)).1
theorem pn_4 : plainName "com/example/flat_planner/flatplanner/OpenListClearPinLaw" = true := by first | (simp [plainName, overriddenIn]; done) | decide +kernel
theorem ef_0 (m : MethodId) (x0 : Int32) (x1 : Int64) (x2 : Int64) (x3 : Int64) (x4 : Int64) (x5 : Int32) : entryFrame m #[(.int x0), (.long x1), (.long x2), (.long x3), (.long x4), (.int x5)] maxLocals = mkF m 0 #[.val (.int x0), .val (.long x1), .second, .val (.long x2), .second, .val (.long x3), .second, .val (.long x4), .second, .val (.int x5), .unset, .unset, .unset, .unset, .unset, .unset, .unset, .unset, .unset, .unset, .unset, .unset, .unset, .unset, .unset, .unset, .unset] [] := by first | (simp [entryFrame, mkF, argsToLocals, Value.category, maxLocals]; done) | rfl
theorem pd_11 : parseMethodDescriptor "(Z)V" = some ⟨[.boolean], none⟩ := by decide +kernel
theorem pd_12 : parseMethodDescriptor "(IJJ)V" = some ⟨[.int, .long, .long], none⟩ := by decide +kernel
theorem pd_13 : parseMethodDescriptor "()I" = some ⟨[], some .int⟩ := by decide +kernel
theorem pd_14 : parseMethodDescriptor "()Z" = some ⟨[], some .boolean⟩ := by decide +kernel
theorem g011 {g : Int32} (hg : g = 0 ∨ g = 1) (c : (1 : Int32) = g) : (¬ (0 : Int32) = g) ∧ True := by subst c; exact ⟨by decide, trivial⟩
theorem g010 {g : Int32} (hg : g = 0 ∨ g = 1) (c : (0 : Int32) = g) : (¬ (1 : Int32) = g) ∧ True := by subst c; exact ⟨by decide, trivial⟩
theorem g011n {g : Int32} (hg : g = 0 ∨ g = 1) (c : ¬ (1 : Int32) = g) : (0 : Int32) = g := by rcases hg with rfl | rfl; rfl; exact absurd rfl c
theorem g010n {g : Int32} (hg : g = 0 ∨ g = 1) (c : ¬ (0 : Int32) = g) : (1 : Int32) = g := by rcases hg with rfl | rfl; exact absurd rfl c; rfl
theorem pd_15 : parseMethodDescriptor "()J" = some ⟨[], some .long⟩ := by decide +kernel
set_option maxRecDepth 65536 in
set_option maxHeartbeats 40000000 in
theorem rm0 (l : Launch) (Z : State) (a0 : Array Value) (hw : ∀ d ∈ tables_1, d.before a0 Z = true) (pp : Int32) (A1 : Int64) (G1 : Int64) (A2p : Int64) (G2p : Int64) (xid : Int32) (h0 : Heap) (n0 : Nat) (Z0 : n0 ≤ h0.size) :
    Con l Z x code maxLocals ret room_1 #[(.int pp), (.long A1), (.long G1), (.long A2p), (.long G2p), (.int xid)] h0 n0 (fun v h => v = some (.int 1)) := by
  refine Con.of (own := "com/example/flat_planner/flatplanner/OpenListClearPinLaw") (name := "law") (plainFor_of_name pn_4) (fun m => ef_0 m pp A1 G1 A2p G2p xid) rfl rfl ?_
  intro p e s m below meth c T F S cx st
  refine E_iloadN (pc' := 1) cx st at_0 rfl rfl ?_
  refine E_iconst (pc' := 2) cx st (1 : Int32) at_1 rfl rfl ?_
  refine E_iand (pc' := 3) cx st at_2 rfl ?_
  suffices j2 : F T (mkF m 11 #[.val (.int pp), .val (.long A1), .second, .val (.long G1), .second, .val (.long A2p), .second, .val (.long G2p), .second, .val (.int xid), .unset, .unset, .unset, .unset, .unset, .unset, .unset, .unset, .unset, .unset, .unset, .unset, .unset, .unset, .unset, .unset, .unset] [(.int (if (pp &&& (1 : Int32)) = (0 : Int32) then (0 : Int32) else (1 : Int32)))]) by
    by_cases c1 : (pp &&& (1 : Int32)) = (0 : Int32)
    · refine E_if_eqY (pc' := 10) cx st at_3 (by decide) (by decide) c1 ?_
      refine E_iconst (pc' := 11) cx st (0 : Int32) at_10 rfl rfl ?_
      simp only [if_pos c1] at j2; exact j2
    · refine E_if_eqN (pc' := 6) cx st at_3 rfl c1 ?_
      refine E_iconst (pc' := 7) cx st (1 : Int32) at_6 rfl rfl ?_
      refine E_goto (pc' := 11) cx st at_7 (by decide) (by decide) ?_
      simp only [if_neg c1] at j2; exact j2
  generalize hu3 : (if (pp &&& (1 : Int32)) = (0 : Int32) then (0 : Int32) else (1 : Int32)) = u3
  have hg : u3 = 0 ∨ u3 = 1 := by rw [← hu3]; exact ite01 _
  refine E_istore (pc' := 13) (L' := #[.val (.int pp), .val (.long A1), .second, .val (.long G1), .second, .val (.long A2p), .second, .val (.long G2p), .second, .val (.int xid), .val (.int u3), .unset, .unset, .unset, .unset, .unset, .unset, .unset, .unset, .unset, .unset, .unset, .unset, .unset, .unset, .unset, .unset]) cx st at_11 rfl rfl ?_
  refine E_iloadN (pc' := 14) cx st at_13 rfl rfl ?_
  refine E_iconst (pc' := 15) cx st (4 : Int32) at_14 rfl rfl ?_
  refine E_iand (pc' := 16) cx st at_15 rfl ?_
  suffices j5 : F T (mkF m 25 #[.val (.int pp), .val (.long A1), .second, .val (.long G1), .second, .val (.long A2p), .second, .val (.long G2p), .second, .val (.int xid), .val (.int u3), .unset, .unset, .unset, .unset, .unset, .unset, .unset, .unset, .unset, .unset, .unset, .unset, .unset, .unset, .unset, .unset] [(.long (if (pp &&& (4 : Int32)) = (0 : Int32) then A2p else A1))]) by
    by_cases c4 : (pp &&& (4 : Int32)) = (0 : Int32)
    · refine E_if_eqY (pc' := 23) cx st at_16 (by decide) (by decide) c4 ?_
      refine E_lload (pc' := 25) cx st at_23 rfl rfl ?_
      simp only [if_pos c4] at j5; exact j5
    · refine E_if_eqN (pc' := 19) cx st at_16 rfl c4 ?_
      refine E_lloadN (pc' := 20) cx st at_19 rfl rfl ?_
      refine E_goto (pc' := 25) cx st at_20 (by decide) (by decide) ?_
      simp only [if_neg c4] at j5; exact j5
  generalize hu6 : (if (pp &&& (4 : Int32)) = (0 : Int32) then A2p else A1) = u6
  refine E_lstore (pc' := 27) (L' := #[.val (.int pp), .val (.long A1), .second, .val (.long G1), .second, .val (.long A2p), .second, .val (.long G2p), .second, .val (.int xid), .val (.int u3), .val (.long u6), .second, .unset, .unset, .unset, .unset, .unset, .unset, .unset, .unset, .unset, .unset, .unset, .unset, .unset, .unset]) cx st at_25 rfl rfl ?_
  refine E_iloadN (pc' := 28) cx st at_27 rfl rfl ?_
  refine E_bipush (pc' := 30) cx st (8 : Int32) at_28 rfl rfl ?_
  refine E_iand (pc' := 31) cx st at_30 rfl ?_
  suffices j8 : F T (mkF m 40 #[.val (.int pp), .val (.long A1), .second, .val (.long G1), .second, .val (.long A2p), .second, .val (.long G2p), .second, .val (.int xid), .val (.int u3), .val (.long u6), .second, .unset, .unset, .unset, .unset, .unset, .unset, .unset, .unset, .unset, .unset, .unset, .unset, .unset, .unset] [(.long (if (pp &&& (8 : Int32)) = (0 : Int32) then G2p else G1))]) by
    by_cases c7 : (pp &&& (8 : Int32)) = (0 : Int32)
    · refine E_if_eqY (pc' := 38) cx st at_31 (by decide) (by decide) c7 ?_
      refine E_lload (pc' := 40) cx st at_38 rfl rfl ?_
      simp only [if_pos c7] at j8; exact j8
    · refine E_if_eqN (pc' := 34) cx st at_31 rfl c7 ?_
      refine E_lloadN (pc' := 35) cx st at_34 rfl rfl ?_
      refine E_goto (pc' := 40) cx st at_35 (by decide) (by decide) ?_
      simp only [if_neg c7] at j8; exact j8
  generalize hu9 : (if (pp &&& (8 : Int32)) = (0 : Int32) then G2p else G1) = u9
  refine E_lstore (pc' := 42) (L' := #[.val (.int pp), .val (.long A1), .second, .val (.long G1), .second, .val (.long A2p), .second, .val (.long G2p), .second, .val (.int xid), .val (.int u3), .val (.long u6), .second, .val (.long u9), .second, .unset, .unset, .unset, .unset, .unset, .unset, .unset, .unset, .unset, .unset, .unset, .unset]) cx st at_40 rfl rfl ?_
  refine E_iload (pc' := 44) cx st at_42 rfl rfl ?_
  refine E_istore (pc' := 46) (L' := #[.val (.int pp), .val (.long A1), .second, .val (.long G1), .second, .val (.long A2p), .second, .val (.long G2p), .second, .val (.int xid), .val (.int u3), .val (.long u6), .second, .val (.long u9), .second, .val (.int xid), .unset, .unset, .unset, .unset, .unset, .unset, .unset, .unset, .unset, .unset, .unset]) cx st at_44 rfl rfl ?_
  refine E_iload (pc' := 48) cx st at_46 rfl rfl ?_
  refine E_iconst (pc' := 49) cx st (-1 : Int32) at_48 rfl rfl ?_
  refine E_ixor (pc' := 50) cx st at_49 rfl ?_
  generalize hu10 : (xid ^^^ (-1 : Int32)) = u10
  refine E_istore (pc' := 52) (L' := #[.val (.int pp), .val (.long A1), .second, .val (.long G1), .second, .val (.long A2p), .second, .val (.long G2p), .second, .val (.int xid), .val (.int u3), .val (.long u6), .second, .val (.long u9), .second, .val (.int xid), .val (.int u10), .unset, .unset, .unset, .unset, .unset, .unset, .unset, .unset, .unset, .unset]) cx st at_50 rfl rfl ?_
  refine E_new (pc' := 55) (kc' := 1) (ks' := 16) cx st (wd hw 0 rfl) (wd hw 1 rfl) (wd hw 2 rfl) at_52 (by decide) (by decide) (by decide) (by decide) rfl ?_
  intro T11 h11 o eq11 st11 E11 X11 D11
  have g_o : n0 ≤ o := by rw [eq11]; exact Z0
  have Z11 : n0 ≤ h11.size := Nat.le_trans Z0 E11.1
  have F11_entries : Fld Z h11 o "com/example/flat_planner/flatplanner/OpenList" "entries" "Lcom/example/flat_planner/flatplanner/LongColumn;" .null := D11 (Or.inr (wd hw 42 rfl)) (ty := (.object "com/example/flat_planner/flatplanner/LongColumn")) (by decide)
  have F11_freeEntry : Fld Z h11 o "com/example/flat_planner/flatplanner/OpenList" "freeEntry" "I" (.int (0 : Int32)) := D11 (Or.inl (wd hw 44 rfl)) (ty := .int) (by decide)
  have F11_bucketFs : Fld Z h11 o "com/example/flat_planner/flatplanner/OpenList" "bucketFs" "[J" .null := D11 (Or.inl (wd hw 46 rfl)) (ty := (.array .long)) (by decide)
  have F11_bucketGs : Fld Z h11 o "com/example/flat_planner/flatplanner/OpenList" "bucketGs" "[J" .null := D11 (Or.inl (wd hw 48 rfl)) (ty := (.array .long)) (by decide)
  have F11_bucketOrders : Fld Z h11 o "com/example/flat_planner/flatplanner/OpenList" "bucketOrders" "[J" .null := D11 (Or.inl (wd hw 50 rfl)) (ty := (.array .long)) (by decide)
  have F11_bucketHeads : Fld Z h11 o "com/example/flat_planner/flatplanner/OpenList" "bucketHeads" "[I" .null := D11 (Or.inl (wd hw 53 rfl)) (ty := (.array .int)) (by decide)
  have F11_bucketTails : Fld Z h11 o "com/example/flat_planner/flatplanner/OpenList" "bucketTails" "[I" .null := D11 (Or.inl (wd hw 55 rfl)) (ty := (.array .int)) (by decide)
  have F11_freeBucket : Fld Z h11 o "com/example/flat_planner/flatplanner/OpenList" "freeBucket" "I" (.int (0 : Int32)) := D11 (Or.inl (wd hw 57 rfl)) (ty := .int) (by decide)
  have F11_heap : Fld Z h11 o "com/example/flat_planner/flatplanner/OpenList" "heap" "[I" .null := D11 (Or.inl (wd hw 59 rfl)) (ty := (.array .int)) (by decide)
  have F11_newest : Fld Z h11 o "com/example/flat_planner/flatplanner/OpenList" "newest" "[I" .null := D11 (Or.inl (wd hw 61 rfl)) (ty := (.array .int)) (by decide)
  have F11_greaterGFirst : Fld Z h11 o "com/example/flat_planner/flatplanner/OpenList" "greaterGFirst" "Z" (.int (0 : Int32)) := D11 (Or.inr (wd hw 63 rfl)) (ty := .boolean) (by decide)
  have F11_entriesUsed : Fld Z h11 o "com/example/flat_planner/flatplanner/OpenList" "entriesUsed" "I" (.int (0 : Int32)) := D11 (Or.inl (wd hw 78 rfl)) (ty := .int) (by decide)
  have F11_bucketsUsed : Fld Z h11 o "com/example/flat_planner/flatplanner/OpenList" "bucketsUsed" "I" (.int (0 : Int32)) := D11 (Or.inl (wd hw 109 rfl)) (ty := .int) (by decide)
  have F11_started : Fld Z h11 o "com/example/flat_planner/flatplanner/OpenList" "started" "J" (.long (0 : Int64)) := D11 (Or.inl (wd hw 111 rfl)) (ty := .long) (by decide)
  have F11_heapSize : Fld Z h11 o "com/example/flat_planner/flatplanner/OpenList" "heapSize" "I" (.int (0 : Int32)) := D11 (Or.inl (wd hw 117 rfl)) (ty := .int) (by decide)
  have F11_size : Fld Z h11 o "com/example/flat_planner/flatplanner/OpenList" "size" "I" (.int (0 : Int32)) := D11 (Or.inl (wd hw 119 rfl)) (ty := .int) (by decide)
  have B0 : OL Z h11 o [(.int (0 : Int32)), .null, (.int (0 : Int32)), (.int (0 : Int32)), (.int (0 : Int32)), .null, .null, .null, .null, .null, (.int (0 : Int32)), (.int (0 : Int32)), (.long (0 : Int64)), .null, (.int (0 : Int32)), .null] := fun i hi => by
    match i, hi with
    | 0, _ => exact F11_greaterGFirst
    | 1, _ => exact F11_entries
    | 2, _ => exact F11_freeEntry
    | 3, _ => exact F11_entriesUsed
    | 4, _ => exact F11_size
    | 5, _ => exact F11_bucketFs
    | 6, _ => exact F11_bucketGs
    | 7, _ => exact F11_bucketOrders
    | 8, _ => exact F11_bucketHeads
    | 9, _ => exact F11_bucketTails
    | 10, _ => exact F11_freeBucket
    | 11, _ => exact F11_bucketsUsed
    | 12, _ => exact F11_started
    | 13, _ => exact F11_heap
    | 14, _ => exact F11_heapSize
    | 15, _ => exact F11_newest
    | i + 16, q => exact absurd q (by omega)
  refine E_dup (pc' := 56) cx st11 at_55 rfl rfl ?_
  refine E_iload (pc' := 58) cx st11 at_56 rfl rfl ?_
  refine E_callI (pc' := 61) (kc' := 12) (ks' := 181) (W := 1) (a := o) (argsL := [(.int u3)]) cx st11 [(.ref o)] (rm1 l Z a0 hw o u3 h11 n0 Z11 hg g_o X11 B0) rfl (wd hw 3 rfl) (wd hw 4 rfl) (wd hw 2 rfl) (wd hw 5 rfl) at_58 rfl rfl (lenOf pd_11 rfl) (Nat.le_of_eq rfl) (by decide) (by decide) (by decide) (by decide) (by decide) (by decide) (by decide) rfl ?_
  intro v12 T12 h12 st12 hq12
  obtain ⟨rfl, Kn, cl, cs, c0, bF, bG, bO, bH, bT, hP, nw, hnd, hall, HW⟩ := hq12
  have hge : ∀ a ∈ [o, cl, cs, c0, bF, bG, bO, bH, bT, hP, nw], n0 ≤ a := fun a ha => (hall a ha).elim (fun z => z ▸ g_o) (fun z => Nat.le_trans Z11 z)
  have Z12 : n0 ≤ h12.size := Nat.le_trans Z11 Kn.1
  obtain ⟨X_o_n, B_o_n, HL_n, ⟨k_cs_n, V_cs_n⟩, ⟨k_c0_n, V_c0_n⟩, ⟨k_bF_n, V_bF_n⟩, ⟨k_bG_n, V_bG_n⟩, ⟨k_bO_n, V_bO_n⟩, ⟨k_bH_n, V_bH_n⟩, ⟨k_bT_n, V_bT_n⟩, ⟨k_hP_n, V_hP_n⟩, ⟨k_nw_n, V_nw_n⟩⟩ := HW
  refine E_astore (pc' := 63) (L' := #[.val (.int pp), .val (.long A1), .second, .val (.long G1), .second, .val (.long A2p), .second, .val (.long G2p), .second, .val (.int xid), .val (.int u3), .val (.long u6), .second, .val (.long u9), .second, .val (.int xid), .val (.int u10), .val (.ref o), .unset, .unset, .unset, .unset, .unset, .unset, .unset, .unset, .unset]) cx st12 at_61 rfl rfl rfl ?_
  refine E_aload (pc' := 65) cx st12 at_63 rfl rfl rfl ?_
  refine E_iload (pc' := 67) cx st12 at_65 rfl rfl ?_
  refine E_sipush (pc' := 70) cx st12 (21845 : Int32) at_67 rfl rfl ?_
  refine E_ixor (pc' := 71) cx st12 at_70 rfl ?_
  refine E_lloadN (pc' := 72) cx st12 at_71 rfl rfl ?_
  refine E_lloadN (pc' := 73) cx st12 at_72 rfl rfl ?_
  have hn0 : (List.replicate 32 (-1 : Int32)).length = 32 := List.length_replicate
  refine E_callV (pc' := 76) (kc' := 12) (ks' := 181) (W := 0) (a := o) (argsL := [(.int (xid ^^^ (21845 : Int32))), (.long A1), (.long G1)]) cx st12 [] (rmpush1 l Z a0 hw o cl cs c0 bF bG bO bH bT hP nw h12 n0 Z12 u3 (0 : Int64) (0 : Int64) ([] : List Int64) (0 : Int64) (0 : Int64) ([] : List Int64) (0 : Int64) (0 : Int64) ([] : List Int64) (0 : Int64) (0 : Int64) ([] : List Int64) (0 : Int32) (0 : Int32) ([] : List Int32) (0 : Int32) (0 : Int32) ([] : List Int32) (0 : Int32) (0 : Int32) ([] : List Int32) (List.replicate 32 (-1 : Int32)) (xid ^^^ (21845 : Int32)) A1 G1 hnd hge ⟨X_o_n, B_o_n, HL_n, ⟨_, V_cs_n⟩, ⟨_, V_c0_n⟩, ⟨_, V_bF_n⟩, ⟨_, V_bG_n⟩, ⟨_, V_bO_n⟩, ⟨_, V_bH_n⟩, ⟨_, V_bT_n⟩, ⟨_, V_hP_n⟩, ⟨_, V_nw_n⟩⟩ hn0 (ck0 _ _ _ (slt_n A1 G1))) X_o_n (wd hw 68 rfl) (wd hw 69 rfl) (wd hw 71 rfl) (wd hw 70 rfl) (wd hw 2 rfl) (wd hw 72 rfl) at_73 rfl rfl (lenOf pd_12 rfl) (Nat.le_of_eq rfl) (by decide) (by decide) (by decide) (by decide) (by decide) (by decide) (by decide) rfl ?_
  intro v13 T13 h13 st13 hq13
  obtain ⟨rfl, Kw13, Hw13⟩ := hq13
  have Z13 : n0 ≤ h13.size := Nat.le_trans Z12 Kw13.1
  obtain ⟨X_o_13, B_o_13, HL_13, ⟨k_cs_13, V_cs_13⟩, ⟨k_c0_13, V_c0_13⟩, ⟨k_bF_13, V_bF_13⟩, ⟨k_bG_13, V_bG_13⟩, ⟨k_bO_13, V_bO_13⟩, ⟨k_bH_13, V_bH_13⟩, ⟨k_bT_13, V_bT_13⟩, ⟨k_hP_13, V_hP_13⟩, ⟨k_nw_13, V_nw_13⟩⟩ := Hw13
  refine E_aload (pc' := 78) cx st13 at_76 rfl rfl rfl ?_
  refine E_iload (pc' := 80) cx st13 at_78 rfl rfl ?_
  refine E_sipush (pc' := 83) cx st13 (10922 : Int32) at_80 rfl rfl ?_
  refine E_ixor (pc' := 84) cx st13 at_83 rfl ?_
  refine E_lload (pc' := 86) cx st13 at_84 rfl rfl ?_
  refine E_lload (pc' := 88) cx st13 at_86 rfl rfl ?_
  suffices J : ∀ (T : State) (h : Heap) (e0 : Int64) (e1 : Int64) (er : List Int64) (f0 : Int64) (f1 : Int64) (fr : List Int64) (g0 : Int64) (g1 : Int64) (gr : List Int64) (q0 : Int64) (q1 : Int64) (qr : List Int64) (d0 : Int32) (d1 : Int32) (dr : List Int32) (t0 : Int32) (t1 : Int32) (tr : List Int32) (p0 : Int32) (p1 : Int32) (pr : List Int32) (ns : List Int32), S 12 181 T h → n0 ≤ h.size → (Wd Z h o cl cs c0 bF bG bO bH bT hP nw u3 (-1 : Int32) (0 : Int32) (0 : Int32) (-1 : Int32) (0 : Int32) (0 : Int32) (0 : Int64) e0 e1 er f0 f1 fr g0 g1 gr q0 q1 qr d0 d1 dr t0 t1 tr p0 p1 pr ns) → ns.length = 32 → Ck ns d0 d1 → F T (mkF m 121 #[.val (.int pp), .val (.long A1), .second, .val (.long G1), .second, .val (.long A2p), .second, .val (.long G2p), .second, .val (.int xid), .val (.int u3), .val (.long u6), .second, .val (.long u9), .second, .val (.int xid), .val (.int u10), .val (.ref o), .unset, .unset, .unset, .unset, .unset, .unset, .unset, .unset, .unset] []) by
    by_cases hA1 : A1 = u6 ∧ G1 = u9
    · obtain ⟨rfl, rfl⟩ := hA1
      refine E_callV (pc' := 91) (kc' := 12) (ks' := 181) (W := 0) (a := o) (argsL := [(.int (xid ^^^ (10922 : Int32))), (.long A1), (.long G1)]) cx st13 [] (rmpush2A l Z a0 hw o cl cs c0 bF bG bO bH bT hP nw h13 n0 Z13 u3 (mkE (xid ^^^ (21845 : Int32))) (0 : Int64) ([] : List Int64) A1 (0 : Int64) ([] : List Int64) G1 (0 : Int64) ([] : List Int64) (0 : Int64) (0 : Int64) ([] : List Int64) (0 : Int32) ([] : List Int32) (0 : Int32) ([] : List Int32) (0 : Int32) ([] : List Int32) ((List.replicate 32 (-1 : Int32)).set (slt A1 G1).toNatClampNeg (0 : Int32)) (xid ^^^ (10922 : Int32)) hnd hge ⟨X_o_13, B_o_13, HL_13, ⟨_, V_cs_13⟩, ⟨_, V_c0_13⟩, ⟨_, V_bF_13⟩, ⟨_, V_bG_13⟩, ⟨_, V_bO_13⟩, ⟨_, V_bH_13⟩, ⟨_, V_bT_13⟩, ⟨_, V_hP_13⟩, ⟨_, V_nw_13⟩⟩ (by rw [List.length_set]; exact hn0) ((set_get _ _ _ _ hn0 (slt_n A1 G1)).1 rfl)) X_o_13 (wd hw 68 rfl) (wd hw 69 rfl) (wd hw 71 rfl) (wd hw 70 rfl) (wd hw 2 rfl) (wd hw 72 rfl) at_88 rfl rfl (lenOf pd_12 rfl) (Nat.le_of_eq rfl) (by decide) (by decide) (by decide) (by decide) (by decide) (by decide) (by decide) rfl ?_
      intro v14 T14 h14 st14 hq14
      obtain ⟨rfl, Kw14, Hw14⟩ := hq14
      have Z14 : n0 ≤ h14.size := Nat.le_trans Z13 Kw14.1
      obtain ⟨X_o_14, B_o_14, HL_14, ⟨k_cs_14, V_cs_14⟩, ⟨k_c0_14, V_c0_14⟩, ⟨k_bF_14, V_bF_14⟩, ⟨k_bG_14, V_bG_14⟩, ⟨k_bO_14, V_bO_14⟩, ⟨k_bH_14, V_bH_14⟩, ⟨k_bT_14, V_bT_14⟩, ⟨k_hP_14, V_hP_14⟩, ⟨k_nw_14, V_nw_14⟩⟩ := Hw14
      refine E_iloadN (pc' := 92) cx st14 at_91 rfl rfl ?_
      refine E_iconst (pc' := 93) cx st14 (2 : Int32) at_92 rfl rfl ?_
      refine E_iand (pc' := 94) cx st14 at_93 rfl ?_
      by_cases c15 : (pp &&& (2 : Int32)) = (0 : Int32)
      · refine E_if_eqY (pc' := 116) cx st14 at_94 (by decide) (by decide) c15 ?_
        refine E_aload (pc' := 118) cx st14 at_116 rfl rfl rfl ?_
        refine E_callV (pc' := 121) (kc' := 12) (ks' := 181) (W := 0) (a := o) (argsL := []) cx st14 [] (rmclear0 l Z a0 hw o cl cs c0 bF bG bO bH bT hP nw h14 n0 Z14 u3 (-1 : Int32) (2 : Int32) (2 : Int32) (-1 : Int32) (1 : Int32) (1 : Int64) (nxE (mkE (xid ^^^ (21845 : Int32))) (1 : Int32)) (mkE (xid ^^^ (10922 : Int32))) ([] : List Int64) A1 (0 : Int64) ([] : List Int64) G1 (0 : Int64) ([] : List Int64) (0 : Int64) (0 : Int64) ([] : List Int64) (0 : Int32) (0 : Int32) ([] : List Int32) (1 : Int32) (0 : Int32) ([] : List Int32) (0 : Int32) ([] : List Int32) ((List.replicate 32 (-1 : Int32)).set (slt A1 G1).toNatClampNeg (0 : Int32)) hnd hge ⟨X_o_14, B_o_14, HL_14, ⟨_, V_cs_14⟩, ⟨_, V_c0_14⟩, ⟨_, V_bF_14⟩, ⟨_, V_bG_14⟩, ⟨_, V_bO_14⟩, ⟨_, V_bH_14⟩, ⟨_, V_bT_14⟩, ⟨_, V_hP_14⟩, ⟨_, V_nw_14⟩⟩ ) X_o_14 (wd hw 124 rfl) (wd hw 125 rfl) (wd hw 127 rfl) (wd hw 126 rfl) (wd hw 2 rfl) (wd hw 128 rfl) at_118 rfl rfl (lenOf pd_10 rfl) (Nat.le_of_eq rfl) (by decide) (by decide) (by decide) (by decide) (by decide) (by decide) (by decide) rfl ?_
        intro v16 T16 h16 st16 hq16
        obtain ⟨rfl, Kw16, Hw16⟩ := hq16
        have Z16 : n0 ≤ h16.size := Nat.le_trans Z14 Kw16.1
        obtain ⟨X_o_16, B_o_16, HL_16, ⟨k_cs_16, V_cs_16⟩, ⟨k_c0_16, V_c0_16⟩, ⟨k_bF_16, V_bF_16⟩, ⟨k_bG_16, V_bG_16⟩, ⟨k_bO_16, V_bO_16⟩, ⟨k_bH_16, V_bH_16⟩, ⟨k_bT_16, V_bT_16⟩, ⟨k_hP_16, V_hP_16⟩, ⟨k_nw_16, V_nw_16⟩⟩ := Hw16
        exact J _ _ (nxE (mkE (xid ^^^ (21845 : Int32))) (1 : Int32)) (mkE (xid ^^^ (10922 : Int32))) ([] : List Int64) A1 (0 : Int64) ([] : List Int64) G1 (0 : Int64) ([] : List Int64) (0 : Int64) (0 : Int64) ([] : List Int64) (-1 : Int32) (0 : Int32) ([] : List Int32) (1 : Int32) (0 : Int32) ([] : List Int32) (0 : Int32) (0 : Int32) ([] : List Int32) ((List.replicate 32 (-1 : Int32)).set (slt A1 G1).toNatClampNeg (0 : Int32)) st16 Z16 ⟨X_o_16, B_o_16, HL_16, ⟨_, V_cs_16⟩, ⟨_, V_c0_16⟩, ⟨_, V_bF_16⟩, ⟨_, V_bG_16⟩, ⟨_, V_bO_16⟩, ⟨_, V_bH_16⟩, ⟨_, V_bT_16⟩, ⟨_, V_hP_16⟩, ⟨_, V_nw_16⟩⟩ (by rw [List.length_set]; exact hn0) (ckA _ _)
      · refine E_if_eqN (pc' := 97) cx st14 at_94 rfl c15 ?_
        refine E_aload (pc' := 99) cx st14 at_97 rfl rfl rfl ?_
        refine E_callV (pc' := 102) (kc' := 12) (ks' := 181) (W := 0) (a := o) (argsL := []) cx st14 [] (rmpopA1 l Z a0 hw o cl cs c0 bF bG bO bH bT hP nw h14 n0 Z14 u3 (-1 : Int32) (2 : Int32) (2 : Int32) (-1 : Int32) (1 : Int32) (1 : Int64) (nxE (mkE (xid ^^^ (21845 : Int32))) (1 : Int32)) (mkE (xid ^^^ (10922 : Int32))) ([] : List Int64) A1 (0 : Int64) ([] : List Int64) G1 (0 : Int64) ([] : List Int64) (0 : Int64) (0 : Int64) ([] : List Int64) (0 : Int32) ([] : List Int32) (0 : Int32) ([] : List Int32) (0 : Int32) ([] : List Int32) ((List.replicate 32 (-1 : Int32)).set (slt A1 G1).toNatClampNeg (0 : Int32)) hnd hge ⟨X_o_14, B_o_14, HL_14, ⟨_, V_cs_14⟩, ⟨_, V_c0_14⟩, ⟨_, V_bF_14⟩, ⟨_, V_bG_14⟩, ⟨_, V_bO_14⟩, ⟨_, V_bH_14⟩, ⟨_, V_bT_14⟩, ⟨_, V_hP_14⟩, ⟨_, V_nw_14⟩⟩ (lo_nx _ _)) X_o_14 (wd hw 144 rfl) (wd hw 145 rfl) (wd hw 147 rfl) (wd hw 146 rfl) (wd hw 2 rfl) (wd hw 148 rfl) at_99 rfl rfl (lenOf pd_13 rfl) (Nat.le_of_eq rfl) (by decide) (by decide) (by decide) (by decide) (by decide) (by decide) (by decide) rfl ?_
        intro v17 T17 h17 st17 hq17
        obtain ⟨rfl, Kw17, Hw17⟩ := hq17
        have Z17 : n0 ≤ h17.size := Nat.le_trans Z14 Kw17.1
        obtain ⟨X_o_17, B_o_17, HL_17, ⟨k_cs_17, V_cs_17⟩, ⟨k_c0_17, V_c0_17⟩, ⟨k_bF_17, V_bF_17⟩, ⟨k_bG_17, V_bG_17⟩, ⟨k_bO_17, V_bO_17⟩, ⟨k_bH_17, V_bH_17⟩, ⟨k_bT_17, V_bT_17⟩, ⟨k_hP_17, V_hP_17⟩, ⟨k_nw_17, V_nw_17⟩⟩ := Hw17
        refine E_pop (pc' := 103) cx st17 at_102 rfl rfl ?_
        refine E_iloadN (pc' := 104) cx st17 at_103 rfl rfl ?_
        refine E_bipush (pc' := 106) cx st17 (16 : Int32) at_104 rfl rfl ?_
        refine E_iand (pc' := 107) cx st17 at_106 rfl ?_
        by_cases c18 : (pp &&& (16 : Int32)) = (0 : Int32)
        · refine E_if_eqY (pc' := 116) cx st17 at_107 (by decide) (by decide) c18 ?_
          refine E_aload (pc' := 118) cx st17 at_116 rfl rfl rfl ?_
          refine E_callV (pc' := 121) (kc' := 12) (ks' := 181) (W := 0) (a := o) (argsL := []) cx st17 [] (rmclear0 l Z a0 hw o cl cs c0 bF bG bO bH bT hP nw h17 n0 Z17 u3 (0 : Int32) (2 : Int32) ((2 : Int32) - (1 : Int32)) (-1 : Int32) (1 : Int32) (1 : Int64) (nxE (nxE (mkE (xid ^^^ (21845 : Int32))) (1 : Int32)) (-1 : Int32)) (mkE (xid ^^^ (10922 : Int32))) ([] : List Int64) A1 (0 : Int64) ([] : List Int64) G1 (0 : Int64) ([] : List Int64) (0 : Int64) (0 : Int64) ([] : List Int64) (1 : Int32) (0 : Int32) ([] : List Int32) (1 : Int32) (0 : Int32) ([] : List Int32) (0 : Int32) ([] : List Int32) ((List.replicate 32 (-1 : Int32)).set (slt A1 G1).toNatClampNeg (0 : Int32)) hnd hge ⟨X_o_17, B_o_17, HL_17, ⟨_, V_cs_17⟩, ⟨_, V_c0_17⟩, ⟨_, V_bF_17⟩, ⟨_, V_bG_17⟩, ⟨_, V_bO_17⟩, ⟨_, V_bH_17⟩, ⟨_, V_bT_17⟩, ⟨_, V_hP_17⟩, ⟨_, V_nw_17⟩⟩ ) X_o_17 (wd hw 124 rfl) (wd hw 125 rfl) (wd hw 127 rfl) (wd hw 126 rfl) (wd hw 2 rfl) (wd hw 128 rfl) at_118 rfl rfl (lenOf pd_10 rfl) (Nat.le_of_eq rfl) (by decide) (by decide) (by decide) (by decide) (by decide) (by decide) (by decide) rfl ?_
          intro v19 T19 h19 st19 hq19
          obtain ⟨rfl, Kw19, Hw19⟩ := hq19
          have Z19 : n0 ≤ h19.size := Nat.le_trans Z17 Kw19.1
          obtain ⟨X_o_19, B_o_19, HL_19, ⟨k_cs_19, V_cs_19⟩, ⟨k_c0_19, V_c0_19⟩, ⟨k_bF_19, V_bF_19⟩, ⟨k_bG_19, V_bG_19⟩, ⟨k_bO_19, V_bO_19⟩, ⟨k_bH_19, V_bH_19⟩, ⟨k_bT_19, V_bT_19⟩, ⟨k_hP_19, V_hP_19⟩, ⟨k_nw_19, V_nw_19⟩⟩ := Hw19
          exact J _ _ (nxE (nxE (mkE (xid ^^^ (21845 : Int32))) (1 : Int32)) (-1 : Int32)) (mkE (xid ^^^ (10922 : Int32))) ([] : List Int64) A1 (0 : Int64) ([] : List Int64) G1 (0 : Int64) ([] : List Int64) (0 : Int64) (0 : Int64) ([] : List Int64) (-1 : Int32) (0 : Int32) ([] : List Int32) (1 : Int32) (0 : Int32) ([] : List Int32) (0 : Int32) (0 : Int32) ([] : List Int32) ((List.replicate 32 (-1 : Int32)).set (slt A1 G1).toNatClampNeg (0 : Int32)) st19 Z19 ⟨X_o_19, B_o_19, HL_19, ⟨_, V_cs_19⟩, ⟨_, V_c0_19⟩, ⟨_, V_bF_19⟩, ⟨_, V_bG_19⟩, ⟨_, V_bO_19⟩, ⟨_, V_bH_19⟩, ⟨_, V_bT_19⟩, ⟨_, V_hP_19⟩, ⟨_, V_nw_19⟩⟩ (by rw [List.length_set]; exact hn0) (ckA _ _)
        · refine E_if_eqN (pc' := 110) cx st17 at_107 rfl c18 ?_
          refine E_aload (pc' := 112) cx st17 at_110 rfl rfl rfl ?_
          refine E_callV (pc' := 115) (kc' := 12) (ks' := 181) (W := 0) (a := o) (argsL := []) cx st17 [] (rmpopA2 l Z a0 hw o cl cs c0 bF bG bO bH bT hP nw h17 n0 Z17 u3 (0 : Int32) (2 : Int32) ((2 : Int32) - (1 : Int32)) (-1 : Int32) (1 : Int32) (1 : Int64) (nxE (nxE (mkE (xid ^^^ (21845 : Int32))) (1 : Int32)) (-1 : Int32)) (mkE (xid ^^^ (10922 : Int32))) ([] : List Int64) A1 (0 : Int64) ([] : List Int64) G1 (0 : Int64) ([] : List Int64) (0 : Int64) (0 : Int64) ([] : List Int64) (0 : Int32) ([] : List Int32) (0 : Int32) ([] : List Int32) (0 : Int32) ([] : List Int32) ((List.replicate 32 (-1 : Int32)).set (slt A1 G1).toNatClampNeg (0 : Int32)) hnd hge ⟨X_o_17, B_o_17, HL_17, ⟨_, V_cs_17⟩, ⟨_, V_c0_17⟩, ⟨_, V_bF_17⟩, ⟨_, V_bG_17⟩, ⟨_, V_bO_17⟩, ⟨_, V_bH_17⟩, ⟨_, V_bT_17⟩, ⟨_, V_hP_17⟩, ⟨_, V_nw_17⟩⟩ ) X_o_17 (wd hw 144 rfl) (wd hw 145 rfl) (wd hw 147 rfl) (wd hw 146 rfl) (wd hw 2 rfl) (wd hw 148 rfl) at_112 rfl rfl (lenOf pd_13 rfl) (Nat.le_of_eq rfl) (by decide) (by decide) (by decide) (by decide) (by decide) (by decide) (by decide) rfl ?_
          intro v20 T20 h20 st20 hq20
          obtain ⟨rfl, Kw20, Hw20⟩ := hq20
          have Z20 : n0 ≤ h20.size := Nat.le_trans Z17 Kw20.1
          obtain ⟨X_o_20, B_o_20, HL_20, ⟨k_cs_20, V_cs_20⟩, ⟨k_c0_20, V_c0_20⟩, ⟨k_bF_20, V_bF_20⟩, ⟨k_bG_20, V_bG_20⟩, ⟨k_bO_20, V_bO_20⟩, ⟨k_bH_20, V_bH_20⟩, ⟨k_bT_20, V_bT_20⟩, ⟨k_hP_20, V_hP_20⟩, ⟨k_nw_20, V_nw_20⟩⟩ := Hw20
          refine E_pop (pc' := 116) cx st20 at_115 rfl rfl ?_
          refine E_aload (pc' := 118) cx st20 at_116 rfl rfl rfl ?_
          refine E_callV (pc' := 121) (kc' := 12) (ks' := 181) (W := 0) (a := o) (argsL := []) cx st20 [] (rmclear l Z a0 hw o cl cs c0 bF bG bO bH bT hP nw h20 n0 Z20 u3 (1 : Int32) (2 : Int32) (((2 : Int32) - (1 : Int32)) - (1 : Int32)) (0 : Int32) (1 : Int32) (1 : Int64) (nxE (nxE (mkE (xid ^^^ (21845 : Int32))) (1 : Int32)) (-1 : Int32)) (nxE (mkE (xid ^^^ (10922 : Int32))) (0 : Int32)) ([] : List Int64) A1 (0 : Int64) ([] : List Int64) G1 (0 : Int64) ([] : List Int64) (0 : Int64) (0 : Int64) ([] : List Int64) (-1 : Int32) (0 : Int32) ([] : List Int32) (-1 : Int32) (0 : Int32) ([] : List Int32) (0 : Int32) (0 : Int32) ([] : List Int32) ((List.replicate 32 (-1 : Int32)).set (slt A1 G1).toNatClampNeg (0 : Int32)) hnd hge ⟨X_o_20, B_o_20, HL_20, ⟨_, V_cs_20⟩, ⟨_, V_c0_20⟩, ⟨_, V_bF_20⟩, ⟨_, V_bG_20⟩, ⟨_, V_bO_20⟩, ⟨_, V_bH_20⟩, ⟨_, V_bT_20⟩, ⟨_, V_hP_20⟩, ⟨_, V_nw_20⟩⟩ ) X_o_20 (wd hw 124 rfl) (wd hw 125 rfl) (wd hw 127 rfl) (wd hw 126 rfl) (wd hw 2 rfl) (wd hw 128 rfl) at_118 rfl rfl (lenOf pd_10 rfl) (Nat.le_of_eq rfl) (by decide) (by decide) (by decide) (by decide) (by decide) (by decide) (by decide) rfl ?_
          intro v21 T21 h21 st21 hq21
          obtain ⟨rfl, Kw21, Hw21⟩ := hq21
          have Z21 : n0 ≤ h21.size := Nat.le_trans Z20 Kw21.1
          obtain ⟨X_o_21, B_o_21, HL_21, ⟨k_cs_21, V_cs_21⟩, ⟨k_c0_21, V_c0_21⟩, ⟨k_bF_21, V_bF_21⟩, ⟨k_bG_21, V_bG_21⟩, ⟨k_bO_21, V_bO_21⟩, ⟨k_bH_21, V_bH_21⟩, ⟨k_bT_21, V_bT_21⟩, ⟨k_hP_21, V_hP_21⟩, ⟨k_nw_21, V_nw_21⟩⟩ := Hw21
          exact J _ _ (nxE (nxE (mkE (xid ^^^ (21845 : Int32))) (1 : Int32)) (-1 : Int32)) (nxE (mkE (xid ^^^ (10922 : Int32))) (0 : Int32)) ([] : List Int64) A1 (0 : Int64) ([] : List Int64) G1 (0 : Int64) ([] : List Int64) (0 : Int64) (0 : Int64) ([] : List Int64) (-1 : Int32) (0 : Int32) ([] : List Int32) (-1 : Int32) (0 : Int32) ([] : List Int32) (0 : Int32) (0 : Int32) ([] : List Int32) ((List.replicate 32 (-1 : Int32)).set (slt A1 G1).toNatClampNeg (0 : Int32)) st21 Z21 ⟨X_o_21, B_o_21, HL_21, ⟨_, V_cs_21⟩, ⟨_, V_c0_21⟩, ⟨_, V_bF_21⟩, ⟨_, V_bG_21⟩, ⟨_, V_bO_21⟩, ⟨_, V_bH_21⟩, ⟨_, V_bT_21⟩, ⟨_, V_hP_21⟩, ⟨_, V_nw_21⟩⟩ (by rw [List.length_set]; exact hn0) (ckA _ _)
    · refine E_callV (pc' := 91) (kc' := 12) (ks' := 181) (W := 0) (a := o) (argsL := [(.int (xid ^^^ (10922 : Int32))), (.long u6), (.long u9)]) cx st13 [] (rmpush2B l Z a0 hw o cl cs c0 bF bG bO bH bT hP nw h13 n0 Z13 u3 (mkE (xid ^^^ (21845 : Int32))) (0 : Int64) ([] : List Int64) A1 (0 : Int64) ([] : List Int64) G1 (0 : Int64) ([] : List Int64) (0 : Int64) (0 : Int64) ([] : List Int64) (0 : Int32) ([] : List Int32) (0 : Int32) ([] : List Int32) (0 : Int32) ([] : List Int32) ((List.replicate 32 (-1 : Int32)).set (slt A1 G1).toNatClampNeg (0 : Int32)) (xid ^^^ (10922 : Int32)) u6 u9 hnd hge ⟨X_o_13, B_o_13, HL_13, ⟨_, V_cs_13⟩, ⟨_, V_c0_13⟩, ⟨_, V_bF_13⟩, ⟨_, V_bG_13⟩, ⟨_, V_bO_13⟩, ⟨_, V_bH_13⟩, ⟨_, V_bT_13⟩, ⟨_, V_hP_13⟩, ⟨_, V_nw_13⟩⟩ (by rw [List.length_set]; exact hn0) hA1 (ck_next (ck0 0 0) hn0 _ _ (slt_n u6 u9))) X_o_13 (wd hw 68 rfl) (wd hw 69 rfl) (wd hw 71 rfl) (wd hw 70 rfl) (wd hw 2 rfl) (wd hw 72 rfl) at_88 rfl rfl (lenOf pd_12 rfl) (Nat.le_of_eq rfl) (by decide) (by decide) (by decide) (by decide) (by decide) (by decide) (by decide) rfl ?_
      intro v22 T22 h22 st22 hq22
      obtain ⟨xb1, xc1, hx1, rfl, Kw22, Hw22⟩ := hq22
      have Z22 : n0 ≤ h22.size := Nat.le_trans Z13 Kw22.1
      obtain ⟨X_o_22, B_o_22, HL_22, ⟨k_cs_22, V_cs_22⟩, ⟨k_c0_22, V_c0_22⟩, ⟨k_bF_22, V_bF_22⟩, ⟨k_bG_22, V_bG_22⟩, ⟨k_bO_22, V_bO_22⟩, ⟨k_bH_22, V_bH_22⟩, ⟨k_bT_22, V_bT_22⟩, ⟨k_hP_22, V_hP_22⟩, ⟨k_nw_22, V_nw_22⟩⟩ := Hw22
      rcases hx1 with ⟨⟨rfl, rfl⟩, hb1⟩ | ⟨⟨rfl, rfl⟩, hb1⟩
      · refine E_iloadN (pc' := 92) cx st22 at_91 rfl rfl ?_
        refine E_iconst (pc' := 93) cx st22 (2 : Int32) at_92 rfl rfl ?_
        refine E_iand (pc' := 94) cx st22 at_93 rfl ?_
        by_cases c23 : (pp &&& (2 : Int32)) = (0 : Int32)
        · refine E_if_eqY (pc' := 116) cx st22 at_94 (by decide) (by decide) c23 ?_
          refine E_aload (pc' := 118) cx st22 at_116 rfl rfl rfl ?_
          refine E_callV (pc' := 121) (kc' := 12) (ks' := 181) (W := 0) (a := o) (argsL := []) cx st22 [] (rmclear01 l Z a0 hw o cl cs c0 bF bG bO bH bT hP nw h22 n0 Z22 u3 (-1 : Int32) (2 : Int32) (2 : Int32) (-1 : Int32) (2 : Int32) (2 : Int64) (mkE (xid ^^^ (21845 : Int32))) (mkE (xid ^^^ (10922 : Int32))) ([] : List Int64) A1 u6 ([] : List Int64) G1 u9 ([] : List Int64) (0 : Int64) (1 : Int64) ([] : List Int64) (0 : Int32) (1 : Int32) ([] : List Int32) (0 : Int32) (1 : Int32) ([] : List Int32) ([] : List Int32) (((List.replicate 32 (-1 : Int32)).set (slt A1 G1).toNatClampNeg (0 : Int32)).set (slt u6 u9).toNatClampNeg (1 : Int32)) hnd hge ⟨X_o_22, B_o_22, HL_22, ⟨_, V_cs_22⟩, ⟨_, V_c0_22⟩, ⟨_, V_bF_22⟩, ⟨_, V_bG_22⟩, ⟨_, V_bO_22⟩, ⟨_, V_bH_22⟩, ⟨_, V_bT_22⟩, ⟨_, V_hP_22⟩, ⟨_, V_nw_22⟩⟩ ) X_o_22 (wd hw 124 rfl) (wd hw 125 rfl) (wd hw 127 rfl) (wd hw 126 rfl) (wd hw 2 rfl) (wd hw 128 rfl) at_118 rfl rfl (lenOf pd_10 rfl) (Nat.le_of_eq rfl) (by decide) (by decide) (by decide) (by decide) (by decide) (by decide) (by decide) rfl ?_
          intro v24 T24 h24 st24 hq24
          obtain ⟨rfl, Kw24, Hw24⟩ := hq24
          have Z24 : n0 ≤ h24.size := Nat.le_trans Z22 Kw24.1
          obtain ⟨X_o_24, B_o_24, HL_24, ⟨k_cs_24, V_cs_24⟩, ⟨k_c0_24, V_c0_24⟩, ⟨k_bF_24, V_bF_24⟩, ⟨k_bG_24, V_bG_24⟩, ⟨k_bO_24, V_bO_24⟩, ⟨k_bH_24, V_bH_24⟩, ⟨k_bT_24, V_bT_24⟩, ⟨k_hP_24, V_hP_24⟩, ⟨k_nw_24, V_nw_24⟩⟩ := Hw24
          exact J _ _ (mkE (xid ^^^ (21845 : Int32))) (mkE (xid ^^^ (10922 : Int32))) ([] : List Int64) A1 u6 ([] : List Int64) G1 u9 ([] : List Int64) (0 : Int64) (1 : Int64) ([] : List Int64) (-1 : Int32) (-1 : Int32) ([] : List Int32) (0 : Int32) (1 : Int32) ([] : List Int32) (0 : Int32) (1 : Int32) ([] : List Int32) (((List.replicate 32 (-1 : Int32)).set (slt A1 G1).toNatClampNeg (0 : Int32)).set (slt u6 u9).toNatClampNeg (1 : Int32)) st24 Z24 ⟨X_o_24, B_o_24, HL_24, ⟨_, V_cs_24⟩, ⟨_, V_c0_24⟩, ⟨_, V_bF_24⟩, ⟨_, V_bG_24⟩, ⟨_, V_bO_24⟩, ⟨_, V_bH_24⟩, ⟨_, V_bT_24⟩, ⟨_, V_hP_24⟩, ⟨_, V_nw_24⟩⟩ (by rw [List.length_set, List.length_set]; exact hn0) (ckB _ _)
        · refine E_if_eqN (pc' := 97) cx st22 at_94 rfl c23 ?_
          refine E_aload (pc' := 99) cx st22 at_97 rfl rfl rfl ?_
          refine E_callV (pc' := 102) (kc' := 12) (ks' := 181) (W := 0) (a := o) (argsL := []) cx st22 [] (rmpopB10 l Z a0 hw o cl cs c0 bF bG bO bH bT hP nw h22 n0 Z22 u3 (-1 : Int32) (2 : Int32) (2 : Int32) (-1 : Int32) (2 : Int32) (2 : Int64) (mkE (xid ^^^ (21845 : Int32))) (mkE (xid ^^^ (10922 : Int32))) ([] : List Int64) A1 u6 ([] : List Int64) G1 u9 ([] : List Int64) (0 : Int64) (1 : Int64) ([] : List Int64) ([] : List Int32) ([] : List Int32) ([] : List Int32) (((List.replicate 32 (-1 : Int32)).set (slt A1 G1).toNatClampNeg (0 : Int32)).set (slt u6 u9).toNatClampNeg (1 : Int32)) hnd hge ⟨X_o_22, B_o_22, HL_22, ⟨_, V_cs_22⟩, ⟨_, V_c0_22⟩, ⟨_, V_bF_22⟩, ⟨_, V_bG_22⟩, ⟨_, V_bO_22⟩, ⟨_, V_bH_22⟩, ⟨_, V_bT_22⟩, ⟨_, V_hP_22⟩, ⟨_, V_nw_22⟩⟩ ) X_o_22 (wd hw 144 rfl) (wd hw 145 rfl) (wd hw 147 rfl) (wd hw 146 rfl) (wd hw 2 rfl) (wd hw 148 rfl) at_99 rfl rfl (lenOf pd_13 rfl) (Nat.le_of_eq rfl) (by decide) (by decide) (by decide) (by decide) (by decide) (by decide) (by decide) rfl ?_
          intro v25 T25 h25 st25 hq25
          obtain ⟨rfl, Kw25, Hw25⟩ := hq25
          have Z25 : n0 ≤ h25.size := Nat.le_trans Z22 Kw25.1
          obtain ⟨X_o_25, B_o_25, HL_25, ⟨k_cs_25, V_cs_25⟩, ⟨k_c0_25, V_c0_25⟩, ⟨k_bF_25, V_bF_25⟩, ⟨k_bG_25, V_bG_25⟩, ⟨k_bO_25, V_bO_25⟩, ⟨k_bH_25, V_bH_25⟩, ⟨k_bT_25, V_bT_25⟩, ⟨k_hP_25, V_hP_25⟩, ⟨k_nw_25, V_nw_25⟩⟩ := Hw25
          refine E_pop (pc' := 103) cx st25 at_102 rfl rfl ?_
          refine E_iloadN (pc' := 104) cx st25 at_103 rfl rfl ?_
          refine E_bipush (pc' := 106) cx st25 (16 : Int32) at_104 rfl rfl ?_
          refine E_iand (pc' := 107) cx st25 at_106 rfl ?_
          by_cases c26 : (pp &&& (16 : Int32)) = (0 : Int32)
          · refine E_if_eqY (pc' := 116) cx st25 at_107 (by decide) (by decide) c26 ?_
            refine E_aload (pc' := 118) cx st25 at_116 rfl rfl rfl ?_
            refine E_callV (pc' := 121) (kc' := 12) (ks' := 181) (W := 0) (a := o) (argsL := []) cx st25 [] (rmclear1 l Z a0 hw o cl cs c0 bF bG bO bH bT hP nw h25 n0 Z25 u3 (0 : Int32) (2 : Int32) ((2 : Int32) - (1 : Int32)) (0 : Int32) (2 : Int32) (2 : Int64) (nxE (mkE (xid ^^^ (21845 : Int32))) (-1 : Int32)) (mkE (xid ^^^ (10922 : Int32))) ([] : List Int64) A1 u6 ([] : List Int64) G1 u9 ([] : List Int64) (0 : Int64) (1 : Int64) ([] : List Int64) (-1 : Int32) (1 : Int32) ([] : List Int32) (-1 : Int32) (1 : Int32) ([] : List Int32) (1 : Int32) ([] : List Int32) (((List.replicate 32 (-1 : Int32)).set (slt A1 G1).toNatClampNeg (0 : Int32)).set (slt u6 u9).toNatClampNeg (1 : Int32)) hnd hge ⟨X_o_25, B_o_25, HL_25, ⟨_, V_cs_25⟩, ⟨_, V_c0_25⟩, ⟨_, V_bF_25⟩, ⟨_, V_bG_25⟩, ⟨_, V_bO_25⟩, ⟨_, V_bH_25⟩, ⟨_, V_bT_25⟩, ⟨_, V_hP_25⟩, ⟨_, V_nw_25⟩⟩ ) X_o_25 (wd hw 124 rfl) (wd hw 125 rfl) (wd hw 127 rfl) (wd hw 126 rfl) (wd hw 2 rfl) (wd hw 128 rfl) at_118 rfl rfl (lenOf pd_10 rfl) (Nat.le_of_eq rfl) (by decide) (by decide) (by decide) (by decide) (by decide) (by decide) (by decide) rfl ?_
            intro v27 T27 h27 st27 hq27
            obtain ⟨rfl, Kw27, Hw27⟩ := hq27
            have Z27 : n0 ≤ h27.size := Nat.le_trans Z25 Kw27.1
            obtain ⟨X_o_27, B_o_27, HL_27, ⟨k_cs_27, V_cs_27⟩, ⟨k_c0_27, V_c0_27⟩, ⟨k_bF_27, V_bF_27⟩, ⟨k_bG_27, V_bG_27⟩, ⟨k_bO_27, V_bO_27⟩, ⟨k_bH_27, V_bH_27⟩, ⟨k_bT_27, V_bT_27⟩, ⟨k_hP_27, V_hP_27⟩, ⟨k_nw_27, V_nw_27⟩⟩ := Hw27
            exact J _ _ (nxE (mkE (xid ^^^ (21845 : Int32))) (-1 : Int32)) (mkE (xid ^^^ (10922 : Int32))) ([] : List Int64) A1 u6 ([] : List Int64) G1 u9 ([] : List Int64) (0 : Int64) (1 : Int64) ([] : List Int64) (-1 : Int32) (-1 : Int32) ([] : List Int32) (-1 : Int32) (1 : Int32) ([] : List Int32) (1 : Int32) (1 : Int32) ([] : List Int32) (((List.replicate 32 (-1 : Int32)).set (slt A1 G1).toNatClampNeg (0 : Int32)).set (slt u6 u9).toNatClampNeg (1 : Int32)) st27 Z27 ⟨X_o_27, B_o_27, HL_27, ⟨_, V_cs_27⟩, ⟨_, V_c0_27⟩, ⟨_, V_bF_27⟩, ⟨_, V_bG_27⟩, ⟨_, V_bO_27⟩, ⟨_, V_bH_27⟩, ⟨_, V_bT_27⟩, ⟨_, V_hP_27⟩, ⟨_, V_nw_27⟩⟩ (by rw [List.length_set, List.length_set]; exact hn0) (ckB _ _)
          · refine E_if_eqN (pc' := 110) cx st25 at_107 rfl c26 ?_
            refine E_aload (pc' := 112) cx st25 at_110 rfl rfl rfl ?_
            refine E_callV (pc' := 115) (kc' := 12) (ks' := 181) (W := 0) (a := o) (argsL := []) cx st25 [] (rmpopB21 l Z a0 hw o cl cs c0 bF bG bO bH bT hP nw h25 n0 Z25 u3 (0 : Int32) (2 : Int32) ((2 : Int32) - (1 : Int32)) (0 : Int32) (2 : Int32) (2 : Int64) (nxE (mkE (xid ^^^ (21845 : Int32))) (-1 : Int32)) (mkE (xid ^^^ (10922 : Int32))) ([] : List Int64) A1 u6 ([] : List Int64) G1 u9 ([] : List Int64) (0 : Int64) (1 : Int64) ([] : List Int64) (-1 : Int32) ([] : List Int32) (-1 : Int32) ([] : List Int32) (1 : Int32) ([] : List Int32) (((List.replicate 32 (-1 : Int32)).set (slt A1 G1).toNatClampNeg (0 : Int32)).set (slt u6 u9).toNatClampNeg (1 : Int32)) hnd hge ⟨X_o_25, B_o_25, HL_25, ⟨_, V_cs_25⟩, ⟨_, V_c0_25⟩, ⟨_, V_bF_25⟩, ⟨_, V_bG_25⟩, ⟨_, V_bO_25⟩, ⟨_, V_bH_25⟩, ⟨_, V_bT_25⟩, ⟨_, V_hP_25⟩, ⟨_, V_nw_25⟩⟩ ) X_o_25 (wd hw 144 rfl) (wd hw 145 rfl) (wd hw 147 rfl) (wd hw 146 rfl) (wd hw 2 rfl) (wd hw 148 rfl) at_112 rfl rfl (lenOf pd_13 rfl) (Nat.le_of_eq rfl) (by decide) (by decide) (by decide) (by decide) (by decide) (by decide) (by decide) rfl ?_
            intro v28 T28 h28 st28 hq28
            obtain ⟨rfl, Kw28, Hw28⟩ := hq28
            have Z28 : n0 ≤ h28.size := Nat.le_trans Z25 Kw28.1
            obtain ⟨X_o_28, B_o_28, HL_28, ⟨k_cs_28, V_cs_28⟩, ⟨k_c0_28, V_c0_28⟩, ⟨k_bF_28, V_bF_28⟩, ⟨k_bG_28, V_bG_28⟩, ⟨k_bO_28, V_bO_28⟩, ⟨k_bH_28, V_bH_28⟩, ⟨k_bT_28, V_bT_28⟩, ⟨k_hP_28, V_hP_28⟩, ⟨k_nw_28, V_nw_28⟩⟩ := Hw28
            refine E_pop (pc' := 116) cx st28 at_115 rfl rfl ?_
            refine E_aload (pc' := 118) cx st28 at_116 rfl rfl rfl ?_
            refine E_callV (pc' := 121) (kc' := 12) (ks' := 181) (W := 0) (a := o) (argsL := []) cx st28 [] (rmclear l Z a0 hw o cl cs c0 bF bG bO bH bT hP nw h28 n0 Z28 u3 (1 : Int32) (2 : Int32) (((2 : Int32) - (1 : Int32)) - (1 : Int32)) (1 : Int32) (2 : Int32) (2 : Int64) (nxE (mkE (xid ^^^ (21845 : Int32))) (-1 : Int32)) (nxE (mkE (xid ^^^ (10922 : Int32))) (0 : Int32)) ([] : List Int64) A1 u6 ([] : List Int64) G1 u9 ([] : List Int64) (0 : Int64) (1 : Int64) ([] : List Int64) (-1 : Int32) (-1 : Int32) ([] : List Int32) (-1 : Int32) (0 : Int32) ([] : List Int32) (1 : Int32) (1 : Int32) ([] : List Int32) (((List.replicate 32 (-1 : Int32)).set (slt A1 G1).toNatClampNeg (0 : Int32)).set (slt u6 u9).toNatClampNeg (1 : Int32)) hnd hge ⟨X_o_28, B_o_28, HL_28, ⟨_, V_cs_28⟩, ⟨_, V_c0_28⟩, ⟨_, V_bF_28⟩, ⟨_, V_bG_28⟩, ⟨_, V_bO_28⟩, ⟨_, V_bH_28⟩, ⟨_, V_bT_28⟩, ⟨_, V_hP_28⟩, ⟨_, V_nw_28⟩⟩ ) X_o_28 (wd hw 124 rfl) (wd hw 125 rfl) (wd hw 127 rfl) (wd hw 126 rfl) (wd hw 2 rfl) (wd hw 128 rfl) at_118 rfl rfl (lenOf pd_10 rfl) (Nat.le_of_eq rfl) (by decide) (by decide) (by decide) (by decide) (by decide) (by decide) (by decide) rfl ?_
            intro v29 T29 h29 st29 hq29
            obtain ⟨rfl, Kw29, Hw29⟩ := hq29
            have Z29 : n0 ≤ h29.size := Nat.le_trans Z28 Kw29.1
            obtain ⟨X_o_29, B_o_29, HL_29, ⟨k_cs_29, V_cs_29⟩, ⟨k_c0_29, V_c0_29⟩, ⟨k_bF_29, V_bF_29⟩, ⟨k_bG_29, V_bG_29⟩, ⟨k_bO_29, V_bO_29⟩, ⟨k_bH_29, V_bH_29⟩, ⟨k_bT_29, V_bT_29⟩, ⟨k_hP_29, V_hP_29⟩, ⟨k_nw_29, V_nw_29⟩⟩ := Hw29
            exact J _ _ (nxE (mkE (xid ^^^ (21845 : Int32))) (-1 : Int32)) (nxE (mkE (xid ^^^ (10922 : Int32))) (0 : Int32)) ([] : List Int64) A1 u6 ([] : List Int64) G1 u9 ([] : List Int64) (0 : Int64) (1 : Int64) ([] : List Int64) (-1 : Int32) (-1 : Int32) ([] : List Int32) (-1 : Int32) (0 : Int32) ([] : List Int32) (1 : Int32) (1 : Int32) ([] : List Int32) (((List.replicate 32 (-1 : Int32)).set (slt A1 G1).toNatClampNeg (0 : Int32)).set (slt u6 u9).toNatClampNeg (1 : Int32)) st29 Z29 ⟨X_o_29, B_o_29, HL_29, ⟨_, V_cs_29⟩, ⟨_, V_c0_29⟩, ⟨_, V_bF_29⟩, ⟨_, V_bG_29⟩, ⟨_, V_bO_29⟩, ⟨_, V_bH_29⟩, ⟨_, V_bT_29⟩, ⟨_, V_hP_29⟩, ⟨_, V_nw_29⟩⟩ (by rw [List.length_set, List.length_set]; exact hn0) (ckB _ _)
      · refine E_iloadN (pc' := 92) cx st22 at_91 rfl rfl ?_
        refine E_iconst (pc' := 93) cx st22 (2 : Int32) at_92 rfl rfl ?_
        refine E_iand (pc' := 94) cx st22 at_93 rfl ?_
        by_cases c30 : (pp &&& (2 : Int32)) = (0 : Int32)
        · refine E_if_eqY (pc' := 116) cx st22 at_94 (by decide) (by decide) c30 ?_
          refine E_aload (pc' := 118) cx st22 at_116 rfl rfl rfl ?_
          refine E_callV (pc' := 121) (kc' := 12) (ks' := 181) (W := 0) (a := o) (argsL := []) cx st22 [] (rmclear10 l Z a0 hw o cl cs c0 bF bG bO bH bT hP nw h22 n0 Z22 u3 (-1 : Int32) (2 : Int32) (2 : Int32) (-1 : Int32) (2 : Int32) (2 : Int64) (mkE (xid ^^^ (21845 : Int32))) (mkE (xid ^^^ (10922 : Int32))) ([] : List Int64) A1 u6 ([] : List Int64) G1 u9 ([] : List Int64) (0 : Int64) (1 : Int64) ([] : List Int64) (0 : Int32) (1 : Int32) ([] : List Int32) (0 : Int32) (1 : Int32) ([] : List Int32) ([] : List Int32) (((List.replicate 32 (-1 : Int32)).set (slt A1 G1).toNatClampNeg (0 : Int32)).set (slt u6 u9).toNatClampNeg (1 : Int32)) hnd hge ⟨X_o_22, B_o_22, HL_22, ⟨_, V_cs_22⟩, ⟨_, V_c0_22⟩, ⟨_, V_bF_22⟩, ⟨_, V_bG_22⟩, ⟨_, V_bO_22⟩, ⟨_, V_bH_22⟩, ⟨_, V_bT_22⟩, ⟨_, V_hP_22⟩, ⟨_, V_nw_22⟩⟩ ) X_o_22 (wd hw 124 rfl) (wd hw 125 rfl) (wd hw 127 rfl) (wd hw 126 rfl) (wd hw 2 rfl) (wd hw 128 rfl) at_118 rfl rfl (lenOf pd_10 rfl) (Nat.le_of_eq rfl) (by decide) (by decide) (by decide) (by decide) (by decide) (by decide) (by decide) rfl ?_
          intro v31 T31 h31 st31 hq31
          obtain ⟨rfl, Kw31, Hw31⟩ := hq31
          have Z31 : n0 ≤ h31.size := Nat.le_trans Z22 Kw31.1
          obtain ⟨X_o_31, B_o_31, HL_31, ⟨k_cs_31, V_cs_31⟩, ⟨k_c0_31, V_c0_31⟩, ⟨k_bF_31, V_bF_31⟩, ⟨k_bG_31, V_bG_31⟩, ⟨k_bO_31, V_bO_31⟩, ⟨k_bH_31, V_bH_31⟩, ⟨k_bT_31, V_bT_31⟩, ⟨k_hP_31, V_hP_31⟩, ⟨k_nw_31, V_nw_31⟩⟩ := Hw31
          exact J _ _ (mkE (xid ^^^ (21845 : Int32))) (mkE (xid ^^^ (10922 : Int32))) ([] : List Int64) A1 u6 ([] : List Int64) G1 u9 ([] : List Int64) (0 : Int64) (1 : Int64) ([] : List Int64) (-1 : Int32) (-1 : Int32) ([] : List Int32) (0 : Int32) (1 : Int32) ([] : List Int32) (1 : Int32) (0 : Int32) ([] : List Int32) (((List.replicate 32 (-1 : Int32)).set (slt A1 G1).toNatClampNeg (0 : Int32)).set (slt u6 u9).toNatClampNeg (1 : Int32)) st31 Z31 ⟨X_o_31, B_o_31, HL_31, ⟨_, V_cs_31⟩, ⟨_, V_c0_31⟩, ⟨_, V_bF_31⟩, ⟨_, V_bG_31⟩, ⟨_, V_bO_31⟩, ⟨_, V_bH_31⟩, ⟨_, V_bT_31⟩, ⟨_, V_hP_31⟩, ⟨_, V_nw_31⟩⟩ (by rw [List.length_set, List.length_set]; exact hn0) (ckB _ _)
        · refine E_if_eqN (pc' := 97) cx st22 at_94 rfl c30 ?_
          refine E_aload (pc' := 99) cx st22 at_97 rfl rfl rfl ?_
          refine E_callV (pc' := 102) (kc' := 12) (ks' := 181) (W := 0) (a := o) (argsL := []) cx st22 [] (rmpopB11 l Z a0 hw o cl cs c0 bF bG bO bH bT hP nw h22 n0 Z22 u3 (-1 : Int32) (2 : Int32) (2 : Int32) (-1 : Int32) (2 : Int32) (2 : Int64) (mkE (xid ^^^ (21845 : Int32))) (mkE (xid ^^^ (10922 : Int32))) ([] : List Int64) A1 u6 ([] : List Int64) G1 u9 ([] : List Int64) (0 : Int64) (1 : Int64) ([] : List Int64) ([] : List Int32) ([] : List Int32) ([] : List Int32) (((List.replicate 32 (-1 : Int32)).set (slt A1 G1).toNatClampNeg (0 : Int32)).set (slt u6 u9).toNatClampNeg (1 : Int32)) hnd hge ⟨X_o_22, B_o_22, HL_22, ⟨_, V_cs_22⟩, ⟨_, V_c0_22⟩, ⟨_, V_bF_22⟩, ⟨_, V_bG_22⟩, ⟨_, V_bO_22⟩, ⟨_, V_bH_22⟩, ⟨_, V_bT_22⟩, ⟨_, V_hP_22⟩, ⟨_, V_nw_22⟩⟩ ) X_o_22 (wd hw 144 rfl) (wd hw 145 rfl) (wd hw 147 rfl) (wd hw 146 rfl) (wd hw 2 rfl) (wd hw 148 rfl) at_99 rfl rfl (lenOf pd_13 rfl) (Nat.le_of_eq rfl) (by decide) (by decide) (by decide) (by decide) (by decide) (by decide) (by decide) rfl ?_
          intro v32 T32 h32 st32 hq32
          obtain ⟨rfl, Kw32, Hw32⟩ := hq32
          have Z32 : n0 ≤ h32.size := Nat.le_trans Z22 Kw32.1
          obtain ⟨X_o_32, B_o_32, HL_32, ⟨k_cs_32, V_cs_32⟩, ⟨k_c0_32, V_c0_32⟩, ⟨k_bF_32, V_bF_32⟩, ⟨k_bG_32, V_bG_32⟩, ⟨k_bO_32, V_bO_32⟩, ⟨k_bH_32, V_bH_32⟩, ⟨k_bT_32, V_bT_32⟩, ⟨k_hP_32, V_hP_32⟩, ⟨k_nw_32, V_nw_32⟩⟩ := Hw32
          refine E_pop (pc' := 103) cx st32 at_102 rfl rfl ?_
          refine E_iloadN (pc' := 104) cx st32 at_103 rfl rfl ?_
          refine E_bipush (pc' := 106) cx st32 (16 : Int32) at_104 rfl rfl ?_
          refine E_iand (pc' := 107) cx st32 at_106 rfl ?_
          by_cases c33 : (pp &&& (16 : Int32)) = (0 : Int32)
          · refine E_if_eqY (pc' := 116) cx st32 at_107 (by decide) (by decide) c33 ?_
            refine E_aload (pc' := 118) cx st32 at_116 rfl rfl rfl ?_
            refine E_callV (pc' := 121) (kc' := 12) (ks' := 181) (W := 0) (a := o) (argsL := []) cx st32 [] (rmclear0 l Z a0 hw o cl cs c0 bF bG bO bH bT hP nw h32 n0 Z32 u3 (1 : Int32) (2 : Int32) ((2 : Int32) - (1 : Int32)) (1 : Int32) (2 : Int32) (2 : Int64) (mkE (xid ^^^ (21845 : Int32))) (nxE (mkE (xid ^^^ (10922 : Int32))) (-1 : Int32)) ([] : List Int64) A1 u6 ([] : List Int64) G1 u9 ([] : List Int64) (0 : Int64) (1 : Int64) ([] : List Int64) (0 : Int32) (-1 : Int32) ([] : List Int32) (0 : Int32) (-1 : Int32) ([] : List Int32) (0 : Int32) ([] : List Int32) (((List.replicate 32 (-1 : Int32)).set (slt A1 G1).toNatClampNeg (0 : Int32)).set (slt u6 u9).toNatClampNeg (1 : Int32)) hnd hge ⟨X_o_32, B_o_32, HL_32, ⟨_, V_cs_32⟩, ⟨_, V_c0_32⟩, ⟨_, V_bF_32⟩, ⟨_, V_bG_32⟩, ⟨_, V_bO_32⟩, ⟨_, V_bH_32⟩, ⟨_, V_bT_32⟩, ⟨_, V_hP_32⟩, ⟨_, V_nw_32⟩⟩ ) X_o_32 (wd hw 124 rfl) (wd hw 125 rfl) (wd hw 127 rfl) (wd hw 126 rfl) (wd hw 2 rfl) (wd hw 128 rfl) at_118 rfl rfl (lenOf pd_10 rfl) (Nat.le_of_eq rfl) (by decide) (by decide) (by decide) (by decide) (by decide) (by decide) (by decide) rfl ?_
            intro v34 T34 h34 st34 hq34
            obtain ⟨rfl, Kw34, Hw34⟩ := hq34
            have Z34 : n0 ≤ h34.size := Nat.le_trans Z32 Kw34.1
            obtain ⟨X_o_34, B_o_34, HL_34, ⟨k_cs_34, V_cs_34⟩, ⟨k_c0_34, V_c0_34⟩, ⟨k_bF_34, V_bF_34⟩, ⟨k_bG_34, V_bG_34⟩, ⟨k_bO_34, V_bO_34⟩, ⟨k_bH_34, V_bH_34⟩, ⟨k_bT_34, V_bT_34⟩, ⟨k_hP_34, V_hP_34⟩, ⟨k_nw_34, V_nw_34⟩⟩ := Hw34
            exact J _ _ (mkE (xid ^^^ (21845 : Int32))) (nxE (mkE (xid ^^^ (10922 : Int32))) (-1 : Int32)) ([] : List Int64) A1 u6 ([] : List Int64) G1 u9 ([] : List Int64) (0 : Int64) (1 : Int64) ([] : List Int64) (-1 : Int32) (-1 : Int32) ([] : List Int32) (0 : Int32) (-1 : Int32) ([] : List Int32) (0 : Int32) (0 : Int32) ([] : List Int32) (((List.replicate 32 (-1 : Int32)).set (slt A1 G1).toNatClampNeg (0 : Int32)).set (slt u6 u9).toNatClampNeg (1 : Int32)) st34 Z34 ⟨X_o_34, B_o_34, HL_34, ⟨_, V_cs_34⟩, ⟨_, V_c0_34⟩, ⟨_, V_bF_34⟩, ⟨_, V_bG_34⟩, ⟨_, V_bO_34⟩, ⟨_, V_bH_34⟩, ⟨_, V_bT_34⟩, ⟨_, V_hP_34⟩, ⟨_, V_nw_34⟩⟩ (by rw [List.length_set, List.length_set]; exact hn0) (ckB _ _)
          · refine E_if_eqN (pc' := 110) cx st32 at_107 rfl c33 ?_
            refine E_aload (pc' := 112) cx st32 at_110 rfl rfl rfl ?_
            refine E_callV (pc' := 115) (kc' := 12) (ks' := 181) (W := 0) (a := o) (argsL := []) cx st32 [] (rmpopB20 l Z a0 hw o cl cs c0 bF bG bO bH bT hP nw h32 n0 Z32 u3 (1 : Int32) (2 : Int32) ((2 : Int32) - (1 : Int32)) (1 : Int32) (2 : Int32) (2 : Int64) (mkE (xid ^^^ (21845 : Int32))) (nxE (mkE (xid ^^^ (10922 : Int32))) (-1 : Int32)) ([] : List Int64) A1 u6 ([] : List Int64) G1 u9 ([] : List Int64) (0 : Int64) (1 : Int64) ([] : List Int64) (-1 : Int32) ([] : List Int32) (-1 : Int32) ([] : List Int32) (0 : Int32) ([] : List Int32) (((List.replicate 32 (-1 : Int32)).set (slt A1 G1).toNatClampNeg (0 : Int32)).set (slt u6 u9).toNatClampNeg (1 : Int32)) hnd hge ⟨X_o_32, B_o_32, HL_32, ⟨_, V_cs_32⟩, ⟨_, V_c0_32⟩, ⟨_, V_bF_32⟩, ⟨_, V_bG_32⟩, ⟨_, V_bO_32⟩, ⟨_, V_bH_32⟩, ⟨_, V_bT_32⟩, ⟨_, V_hP_32⟩, ⟨_, V_nw_32⟩⟩ ) X_o_32 (wd hw 144 rfl) (wd hw 145 rfl) (wd hw 147 rfl) (wd hw 146 rfl) (wd hw 2 rfl) (wd hw 148 rfl) at_112 rfl rfl (lenOf pd_13 rfl) (Nat.le_of_eq rfl) (by decide) (by decide) (by decide) (by decide) (by decide) (by decide) (by decide) rfl ?_
            intro v35 T35 h35 st35 hq35
            obtain ⟨rfl, Kw35, Hw35⟩ := hq35
            have Z35 : n0 ≤ h35.size := Nat.le_trans Z32 Kw35.1
            obtain ⟨X_o_35, B_o_35, HL_35, ⟨k_cs_35, V_cs_35⟩, ⟨k_c0_35, V_c0_35⟩, ⟨k_bF_35, V_bF_35⟩, ⟨k_bG_35, V_bG_35⟩, ⟨k_bO_35, V_bO_35⟩, ⟨k_bH_35, V_bH_35⟩, ⟨k_bT_35, V_bT_35⟩, ⟨k_hP_35, V_hP_35⟩, ⟨k_nw_35, V_nw_35⟩⟩ := Hw35
            refine E_pop (pc' := 116) cx st35 at_115 rfl rfl ?_
            refine E_aload (pc' := 118) cx st35 at_116 rfl rfl rfl ?_
            refine E_callV (pc' := 121) (kc' := 12) (ks' := 181) (W := 0) (a := o) (argsL := []) cx st35 [] (rmclear l Z a0 hw o cl cs c0 bF bG bO bH bT hP nw h35 n0 Z35 u3 (0 : Int32) (2 : Int32) (((2 : Int32) - (1 : Int32)) - (1 : Int32)) (0 : Int32) (2 : Int32) (2 : Int64) (nxE (mkE (xid ^^^ (21845 : Int32))) (1 : Int32)) (nxE (mkE (xid ^^^ (10922 : Int32))) (-1 : Int32)) ([] : List Int64) A1 u6 ([] : List Int64) G1 u9 ([] : List Int64) (0 : Int64) (1 : Int64) ([] : List Int64) (-1 : Int32) (-1 : Int32) ([] : List Int32) (1 : Int32) (-1 : Int32) ([] : List Int32) (0 : Int32) (0 : Int32) ([] : List Int32) (((List.replicate 32 (-1 : Int32)).set (slt A1 G1).toNatClampNeg (0 : Int32)).set (slt u6 u9).toNatClampNeg (1 : Int32)) hnd hge ⟨X_o_35, B_o_35, HL_35, ⟨_, V_cs_35⟩, ⟨_, V_c0_35⟩, ⟨_, V_bF_35⟩, ⟨_, V_bG_35⟩, ⟨_, V_bO_35⟩, ⟨_, V_bH_35⟩, ⟨_, V_bT_35⟩, ⟨_, V_hP_35⟩, ⟨_, V_nw_35⟩⟩ ) X_o_35 (wd hw 124 rfl) (wd hw 125 rfl) (wd hw 127 rfl) (wd hw 126 rfl) (wd hw 2 rfl) (wd hw 128 rfl) at_118 rfl rfl (lenOf pd_10 rfl) (Nat.le_of_eq rfl) (by decide) (by decide) (by decide) (by decide) (by decide) (by decide) (by decide) rfl ?_
            intro v36 T36 h36 st36 hq36
            obtain ⟨rfl, Kw36, Hw36⟩ := hq36
            have Z36 : n0 ≤ h36.size := Nat.le_trans Z35 Kw36.1
            obtain ⟨X_o_36, B_o_36, HL_36, ⟨k_cs_36, V_cs_36⟩, ⟨k_c0_36, V_c0_36⟩, ⟨k_bF_36, V_bF_36⟩, ⟨k_bG_36, V_bG_36⟩, ⟨k_bO_36, V_bO_36⟩, ⟨k_bH_36, V_bH_36⟩, ⟨k_bT_36, V_bT_36⟩, ⟨k_hP_36, V_hP_36⟩, ⟨k_nw_36, V_nw_36⟩⟩ := Hw36
            exact J _ _ (nxE (mkE (xid ^^^ (21845 : Int32))) (1 : Int32)) (nxE (mkE (xid ^^^ (10922 : Int32))) (-1 : Int32)) ([] : List Int64) A1 u6 ([] : List Int64) G1 u9 ([] : List Int64) (0 : Int64) (1 : Int64) ([] : List Int64) (-1 : Int32) (-1 : Int32) ([] : List Int32) (1 : Int32) (-1 : Int32) ([] : List Int32) (0 : Int32) (0 : Int32) ([] : List Int32) (((List.replicate 32 (-1 : Int32)).set (slt A1 G1).toNatClampNeg (0 : Int32)).set (slt u6 u9).toNatClampNeg (1 : Int32)) st36 Z36 ⟨X_o_36, B_o_36, HL_36, ⟨_, V_cs_36⟩, ⟨_, V_c0_36⟩, ⟨_, V_bF_36⟩, ⟨_, V_bG_36⟩, ⟨_, V_bO_36⟩, ⟨_, V_bH_36⟩, ⟨_, V_bT_36⟩, ⟨_, V_hP_36⟩, ⟨_, V_nw_36⟩⟩ (by rw [List.length_set, List.length_set]; exact hn0) (ckB _ _)
  intro TJ hJ e0 e1 er f0 f1 fr g0 g1 gr q0 q1 qr d0 d1 dr t0 t1 tr p0 p1 pr ns stJ ZJ HJ hnl hck
  obtain ⟨X_o_j, B_o_j, HL_j, ⟨k_cs_j, V_cs_j⟩, ⟨k_c0_j, V_c0_j⟩, ⟨k_bF_j, V_bF_j⟩, ⟨k_bG_j, V_bG_j⟩, ⟨k_bO_j, V_bO_j⟩, ⟨k_bH_j, V_bH_j⟩, ⟨k_bT_j, V_bT_j⟩, ⟨k_hP_j, V_hP_j⟩, ⟨k_nw_j, V_nw_j⟩⟩ := HJ
  refine E_aload (pc' := 123) cx stJ at_121 rfl rfl rfl ?_
  refine E_callV (pc' := 126) (kc' := 12) (ks' := 181) (W := 0) (a := o) (argsL := []) cx stJ [] (rmisEmpty l Z a0 hw o cl cs c0 bF bG bO bH bT hP nw hJ n0 ZJ u3 (-1 : Int32) (0 : Int32) (-1 : Int32) (0 : Int32) (0 : Int64) (0 : Int32) e0 e1 er f0 f1 fr g0 g1 gr q0 q1 qr d0 d1 dr t0 t1 tr p0 p1 pr ns hnd hge ⟨X_o_j, B_o_j, HL_j, ⟨_, V_cs_j⟩, ⟨_, V_c0_j⟩, ⟨_, V_bF_j⟩, ⟨_, V_bG_j⟩, ⟨_, V_bO_j⟩, ⟨_, V_bH_j⟩, ⟨_, V_bT_j⟩, ⟨_, V_hP_j⟩, ⟨_, V_nw_j⟩⟩ ) X_o_j (wd hw 129 rfl) (wd hw 130 rfl) (wd hw 132 rfl) (wd hw 131 rfl) (wd hw 2 rfl) (wd hw 133 rfl) at_123 rfl rfl (lenOf pd_14 rfl) (Nat.le_of_eq rfl) (by decide) (by decide) (by decide) (by decide) (by decide) (by decide) (by decide) rfl ?_
  intro v37 T37 h37 st37 hq37
  obtain ⟨rfl, hh37⟩ := hq37
  rw [hh37] at st37
  refine E_if_neY (pc' := 131) cx st37 at_126 (by decide) (by decide) (by decide) ?_
  refine E_aload (pc' := 133) cx st37 at_131 rfl rfl rfl ?_
  refine E_iload (pc' := 135) cx st37 at_133 rfl rfl ?_
  refine E_lloadN (pc' := 136) cx st37 at_135 rfl rfl ?_
  refine E_lloadN (pc' := 137) cx st37 at_136 rfl rfl ?_
  refine E_callV (pc' := 140) (kc' := 12) (ks' := 181) (W := 0) (a := o) (argsL := [(.int xid), (.long A1), (.long G1)]) cx st37 [] (rmpush1 l Z a0 hw o cl cs c0 bF bG bO bH bT hP nw hJ n0 ZJ u3 e0 e1 er f0 f1 fr g0 g1 gr q0 q1 qr d0 d1 dr t0 t1 tr p0 p1 pr ns xid A1 G1 hnd hge ⟨X_o_j, B_o_j, HL_j, ⟨_, V_cs_j⟩, ⟨_, V_c0_j⟩, ⟨_, V_bF_j⟩, ⟨_, V_bG_j⟩, ⟨_, V_bO_j⟩, ⟨_, V_bH_j⟩, ⟨_, V_bT_j⟩, ⟨_, V_hP_j⟩, ⟨_, V_nw_j⟩⟩ hnl (hck _ (slt_n A1 G1))) X_o_j (wd hw 68 rfl) (wd hw 69 rfl) (wd hw 71 rfl) (wd hw 70 rfl) (wd hw 2 rfl) (wd hw 72 rfl) at_137 rfl rfl (lenOf pd_12 rfl) (Nat.le_of_eq rfl) (by decide) (by decide) (by decide) (by decide) (by decide) (by decide) (by decide) rfl ?_
  intro v38 T38 h38 st38 hq38
  obtain ⟨rfl, Kw38, Hw38⟩ := hq38
  have Z38 : n0 ≤ h38.size := Nat.le_trans ZJ Kw38.1
  obtain ⟨X_o_38, B_o_38, HL_38, ⟨k_cs_38, V_cs_38⟩, ⟨k_c0_38, V_c0_38⟩, ⟨k_bF_38, V_bF_38⟩, ⟨k_bG_38, V_bG_38⟩, ⟨k_bO_38, V_bO_38⟩, ⟨k_bH_38, V_bH_38⟩, ⟨k_bT_38, V_bT_38⟩, ⟨k_hP_38, V_hP_38⟩, ⟨k_nw_38, V_nw_38⟩⟩ := Hw38
  refine E_aload (pc' := 142) cx st38 at_140 rfl rfl rfl ?_
  refine E_iload (pc' := 144) cx st38 at_142 rfl rfl ?_
  refine E_lload (pc' := 146) cx st38 at_144 rfl rfl ?_
  refine E_lload (pc' := 148) cx st38 at_146 rfl rfl ?_
  by_cases hA2 : A1 = u6 ∧ G1 = u9
  · obtain ⟨rfl, rfl⟩ := hA2
    refine E_callV (pc' := 151) (kc' := 12) (ks' := 181) (W := 0) (a := o) (argsL := [(.int u10), (.long A1), (.long G1)]) cx st38 [] (rmpush2A l Z a0 hw o cl cs c0 bF bG bO bH bT hP nw h38 n0 Z38 u3 (mkE xid) e1 er A1 f1 fr G1 g1 gr (0 : Int64) q1 qr d1 dr t1 tr p1 pr (ns.set (slt A1 G1).toNatClampNeg (0 : Int32)) u10 hnd hge ⟨X_o_38, B_o_38, HL_38, ⟨_, V_cs_38⟩, ⟨_, V_c0_38⟩, ⟨_, V_bF_38⟩, ⟨_, V_bG_38⟩, ⟨_, V_bO_38⟩, ⟨_, V_bH_38⟩, ⟨_, V_bT_38⟩, ⟨_, V_hP_38⟩, ⟨_, V_nw_38⟩⟩ (by rw [List.length_set]; exact hnl) ((set_get _ _ _ _ hnl (slt_n A1 G1)).1 rfl)) X_o_38 (wd hw 68 rfl) (wd hw 69 rfl) (wd hw 71 rfl) (wd hw 70 rfl) (wd hw 2 rfl) (wd hw 72 rfl) at_148 rfl rfl (lenOf pd_12 rfl) (Nat.le_of_eq rfl) (by decide) (by decide) (by decide) (by decide) (by decide) (by decide) (by decide) rfl ?_
    intro v39 T39 h39 st39 hq39
    obtain ⟨rfl, Kw39, Hw39⟩ := hq39
    have Z39 : n0 ≤ h39.size := Nat.le_trans Z38 Kw39.1
    obtain ⟨X_o_39, B_o_39, HL_39, ⟨k_cs_39, V_cs_39⟩, ⟨k_c0_39, V_c0_39⟩, ⟨k_bF_39, V_bF_39⟩, ⟨k_bG_39, V_bG_39⟩, ⟨k_bO_39, V_bO_39⟩, ⟨k_bH_39, V_bH_39⟩, ⟨k_bT_39, V_bT_39⟩, ⟨k_hP_39, V_hP_39⟩, ⟨k_nw_39, V_nw_39⟩⟩ := Hw39
    refine E_lloadN (pc' := 152) cx st39 at_151 rfl rfl ?_
    refine E_lload (pc' := 154) cx st39 at_152 rfl rfl ?_
    refine E_lif_eqY (pc' := 175) cx st39 at_154 at_155 (by decide) (by decide) rfl ?_
    refine E_lloadN (pc' := 176) cx st39 at_175 rfl rfl ?_
    refine E_lload (pc' := 178) cx st39 at_176 rfl rfl ?_
    refine E_lif_eqY (pc' := 209) cx st39 at_178 at_179 (by decide) (by decide) rfl ?_
    refine E_iconst (pc' := 210) cx st39 (1 : Int32) at_209 rfl rfl ?_
    refine E_istore (pc' := 212) (L' := #[.val (.int pp), .val (.long A1), .second, .val (.long G1), .second, .val (.long A2p), .second, .val (.long G2p), .second, .val (.int xid), .val (.int u3), .val (.long A1), .second, .val (.long G1), .second, .val (.int xid), .val (.int u10), .val (.ref o), .val (.int (1 : Int32)), .unset, .unset, .unset, .unset, .unset, .unset, .unset, .unset]) cx st39 at_210 rfl rfl ?_
    refine E_iload (pc' := 214) cx st39 at_212 rfl rfl ?_
    refine E_if_eqN (pc' := 217) cx st39 at_214 rfl (by decide) ?_
    refine E_lloadN (pc' := 218) cx st39 at_217 rfl rfl ?_
    refine E_goto (pc' := 223) cx st39 at_218 (by decide) (by decide) ?_
    refine E_lstore (pc' := 225) (L' := #[.val (.int pp), .val (.long A1), .second, .val (.long G1), .second, .val (.long A2p), .second, .val (.long G2p), .second, .val (.int xid), .val (.int u3), .val (.long A1), .second, .val (.long G1), .second, .val (.int xid), .val (.int u10), .val (.ref o), .val (.int (1 : Int32)), .val (.long A1), .second, .unset, .unset, .unset, .unset, .unset, .unset]) cx st39 at_223 rfl rfl ?_
    refine E_iload (pc' := 227) cx st39 at_225 rfl rfl ?_
    refine E_if_eqN (pc' := 230) cx st39 at_227 rfl (by decide) ?_
    refine E_lloadN (pc' := 231) cx st39 at_230 rfl rfl ?_
    refine E_goto (pc' := 236) cx st39 at_231 (by decide) (by decide) ?_
    refine E_lstore (pc' := 238) (L' := #[.val (.int pp), .val (.long A1), .second, .val (.long G1), .second, .val (.long A2p), .second, .val (.long G2p), .second, .val (.int xid), .val (.int u3), .val (.long A1), .second, .val (.long G1), .second, .val (.int xid), .val (.int u10), .val (.ref o), .val (.int (1 : Int32)), .val (.long A1), .second, .val (.long G1), .second, .unset, .unset, .unset, .unset]) cx st39 at_236 rfl rfl ?_
    refine E_iload (pc' := 240) cx st39 at_238 rfl rfl ?_
    refine E_if_eqN (pc' := 243) cx st39 at_240 rfl (by decide) ?_
    refine E_iload (pc' := 245) cx st39 at_243 rfl rfl ?_
    refine E_goto (pc' := 250) cx st39 at_245 (by decide) (by decide) ?_
    refine E_istore (pc' := 252) (L' := #[.val (.int pp), .val (.long A1), .second, .val (.long G1), .second, .val (.long A2p), .second, .val (.long G2p), .second, .val (.int xid), .val (.int u3), .val (.long A1), .second, .val (.long G1), .second, .val (.int xid), .val (.int u10), .val (.ref o), .val (.int (1 : Int32)), .val (.long A1), .second, .val (.long G1), .second, .val (.int xid), .unset, .unset, .unset]) cx st39 at_250 rfl rfl ?_
    refine E_iload (pc' := 254) cx st39 at_252 rfl rfl ?_
    refine E_if_eqN (pc' := 257) cx st39 at_254 rfl (by decide) ?_
    refine E_iload (pc' := 259) cx st39 at_257 rfl rfl ?_
    refine E_goto (pc' := 264) cx st39 at_259 (by decide) (by decide) ?_
    refine E_istore (pc' := 266) (L' := #[.val (.int pp), .val (.long A1), .second, .val (.long G1), .second, .val (.long A2p), .second, .val (.long G2p), .second, .val (.int xid), .val (.int u3), .val (.long A1), .second, .val (.long G1), .second, .val (.int xid), .val (.int u10), .val (.ref o), .val (.int (1 : Int32)), .val (.long A1), .second, .val (.long G1), .second, .val (.int xid), .val (.int u10), .unset, .unset]) cx st39 at_264 rfl rfl ?_
    refine E_aload (pc' := 268) cx st39 at_266 rfl rfl rfl ?_
    refine E_callV (pc' := 271) (kc' := 12) (ks' := 181) (W := 0) (a := o) (argsL := []) cx st39 [] (rmfirstF0 l Z a0 hw o cl cs c0 bF bG bO bH bT hP nw h39 n0 Z39 u3 (-1 : Int32) (2 : Int32) (2 : Int32) (-1 : Int32) (1 : Int32) (1 : Int64) (1 : Int32) (nxE (mkE xid) (1 : Int32)) (mkE u10) er A1 f1 fr G1 g1 gr (0 : Int64) q1 qr (0 : Int32) d1 dr (1 : Int32) t1 tr p1 pr (ns.set (slt A1 G1).toNatClampNeg (0 : Int32)) hnd hge ⟨X_o_39, B_o_39, HL_39, ⟨_, V_cs_39⟩, ⟨_, V_c0_39⟩, ⟨_, V_bF_39⟩, ⟨_, V_bG_39⟩, ⟨_, V_bO_39⟩, ⟨_, V_bH_39⟩, ⟨_, V_bT_39⟩, ⟨_, V_hP_39⟩, ⟨_, V_nw_39⟩⟩ ) X_o_39 (wd hw 134 rfl) (wd hw 135 rfl) (wd hw 137 rfl) (wd hw 136 rfl) (wd hw 2 rfl) (wd hw 138 rfl) at_268 rfl rfl (lenOf pd_15 rfl) (Nat.le_of_eq rfl) (by decide) (by decide) (by decide) (by decide) (by decide) (by decide) (by decide) rfl ?_
    intro v40 T40 h40 st40 hq40
    obtain ⟨rfl, hh40⟩ := hq40
    rw [hh40] at st40
    refine E_lload (pc' := 273) cx st40 at_271 rfl rfl ?_
    refine E_lif_neN (pc' := 277) cx st40 at_273 at_274 rfl rfl ?_
    refine E_aload (pc' := 279) cx st40 at_277 rfl rfl rfl ?_
    refine E_callV (pc' := 282) (kc' := 12) (ks' := 181) (W := 0) (a := o) (argsL := []) cx st40 [] (rmfirstG0 l Z a0 hw o cl cs c0 bF bG bO bH bT hP nw h39 n0 Z39 u3 (-1 : Int32) (2 : Int32) (2 : Int32) (-1 : Int32) (1 : Int32) (1 : Int64) (1 : Int32) (nxE (mkE xid) (1 : Int32)) (mkE u10) er A1 f1 fr G1 g1 gr (0 : Int64) q1 qr (0 : Int32) d1 dr (1 : Int32) t1 tr p1 pr (ns.set (slt A1 G1).toNatClampNeg (0 : Int32)) hnd hge ⟨X_o_39, B_o_39, HL_39, ⟨_, V_cs_39⟩, ⟨_, V_c0_39⟩, ⟨_, V_bF_39⟩, ⟨_, V_bG_39⟩, ⟨_, V_bO_39⟩, ⟨_, V_bH_39⟩, ⟨_, V_bT_39⟩, ⟨_, V_hP_39⟩, ⟨_, V_nw_39⟩⟩ ) X_o_39 (wd hw 139 rfl) (wd hw 140 rfl) (wd hw 142 rfl) (wd hw 141 rfl) (wd hw 2 rfl) (wd hw 143 rfl) at_279 rfl rfl (lenOf pd_15 rfl) (Nat.le_of_eq rfl) (by decide) (by decide) (by decide) (by decide) (by decide) (by decide) (by decide) rfl ?_
    intro v41 T41 h41 st41 hq41
    obtain ⟨rfl, hh41⟩ := hq41
    rw [hh41] at st41
    refine E_lload (pc' := 284) cx st41 at_282 rfl rfl ?_
    refine E_lif_eqY (pc' := 290) cx st41 at_284 at_285 (by decide) (by decide) rfl ?_
    refine E_aload (pc' := 292) cx st41 at_290 rfl rfl rfl ?_
    refine E_callV (pc' := 295) (kc' := 12) (ks' := 181) (W := 0) (a := o) (argsL := []) cx st41 [] (rmpopA1 l Z a0 hw o cl cs c0 bF bG bO bH bT hP nw h39 n0 Z39 u3 (-1 : Int32) (2 : Int32) (2 : Int32) (-1 : Int32) (1 : Int32) (1 : Int64) (nxE (mkE xid) (1 : Int32)) (mkE u10) er A1 f1 fr G1 g1 gr (0 : Int64) q1 qr d1 dr t1 tr p1 pr (ns.set (slt A1 G1).toNatClampNeg (0 : Int32)) hnd hge ⟨X_o_39, B_o_39, HL_39, ⟨_, V_cs_39⟩, ⟨_, V_c0_39⟩, ⟨_, V_bF_39⟩, ⟨_, V_bG_39⟩, ⟨_, V_bO_39⟩, ⟨_, V_bH_39⟩, ⟨_, V_bT_39⟩, ⟨_, V_hP_39⟩, ⟨_, V_nw_39⟩⟩ (lo_nx _ _)) X_o_39 (wd hw 144 rfl) (wd hw 145 rfl) (wd hw 147 rfl) (wd hw 146 rfl) (wd hw 2 rfl) (wd hw 148 rfl) at_292 rfl rfl (lenOf pd_13 rfl) (Nat.le_of_eq rfl) (by decide) (by decide) (by decide) (by decide) (by decide) (by decide) (by decide) rfl ?_
    intro v42 T42 h42 st42 hq42
    obtain ⟨rfl, Kw42, Hw42⟩ := hq42
    have Z42 : n0 ≤ h42.size := Nat.le_trans Z39 Kw42.1
    obtain ⟨X_o_42, B_o_42, HL_42, ⟨k_cs_42, V_cs_42⟩, ⟨k_c0_42, V_c0_42⟩, ⟨k_bF_42, V_bF_42⟩, ⟨k_bG_42, V_bG_42⟩, ⟨k_bO_42, V_bO_42⟩, ⟨k_bH_42, V_bH_42⟩, ⟨k_bT_42, V_bT_42⟩, ⟨k_hP_42, V_hP_42⟩, ⟨k_nw_42, V_nw_42⟩⟩ := Hw42
    rw [show (hiV (nxE (mkE xid) (1 : Int32))) = xid from by rw [hi_nx, hi_mk]]
    refine E_istore (pc' := 297) (L' := #[.val (.int pp), .val (.long A1), .second, .val (.long G1), .second, .val (.long A2p), .second, .val (.long G2p), .second, .val (.int xid), .val (.int u3), .val (.long A1), .second, .val (.long G1), .second, .val (.int xid), .val (.int u10), .val (.ref o), .val (.int (1 : Int32)), .val (.long A1), .second, .val (.long G1), .second, .val (.int xid), .val (.int u10), .val (.int xid), .unset]) cx st42 at_295 rfl rfl ?_
    refine E_aload (pc' := 299) cx st42 at_297 rfl rfl rfl ?_
    refine E_callV (pc' := 302) (kc' := 12) (ks' := 181) (W := 0) (a := o) (argsL := []) cx st42 [] (rmpopA2 l Z a0 hw o cl cs c0 bF bG bO bH bT hP nw h42 n0 Z42 u3 (0 : Int32) (2 : Int32) ((2 : Int32) - (1 : Int32)) (-1 : Int32) (1 : Int32) (1 : Int64) (nxE (nxE (mkE xid) (1 : Int32)) (-1 : Int32)) (mkE u10) er A1 f1 fr G1 g1 gr (0 : Int64) q1 qr d1 dr t1 tr p1 pr (ns.set (slt A1 G1).toNatClampNeg (0 : Int32)) hnd hge ⟨X_o_42, B_o_42, HL_42, ⟨_, V_cs_42⟩, ⟨_, V_c0_42⟩, ⟨_, V_bF_42⟩, ⟨_, V_bG_42⟩, ⟨_, V_bO_42⟩, ⟨_, V_bH_42⟩, ⟨_, V_bT_42⟩, ⟨_, V_hP_42⟩, ⟨_, V_nw_42⟩⟩ ) X_o_42 (wd hw 144 rfl) (wd hw 145 rfl) (wd hw 147 rfl) (wd hw 146 rfl) (wd hw 2 rfl) (wd hw 148 rfl) at_299 rfl rfl (lenOf pd_13 rfl) (Nat.le_of_eq rfl) (by decide) (by decide) (by decide) (by decide) (by decide) (by decide) (by decide) rfl ?_
    intro v43 T43 h43 st43 hq43
    obtain ⟨rfl, Kw43, Hw43⟩ := hq43
    have Z43 : n0 ≤ h43.size := Nat.le_trans Z42 Kw43.1
    obtain ⟨X_o_43, B_o_43, HL_43, ⟨k_cs_43, V_cs_43⟩, ⟨k_c0_43, V_c0_43⟩, ⟨k_bF_43, V_bF_43⟩, ⟨k_bG_43, V_bG_43⟩, ⟨k_bO_43, V_bO_43⟩, ⟨k_bH_43, V_bH_43⟩, ⟨k_bT_43, V_bT_43⟩, ⟨k_hP_43, V_hP_43⟩, ⟨k_nw_43, V_nw_43⟩⟩ := Hw43
    rw [show (hiV (mkE u10)) = u10 from by rw [hi_mk]]
    refine E_istore (pc' := 304) (L' := #[.val (.int pp), .val (.long A1), .second, .val (.long G1), .second, .val (.long A2p), .second, .val (.long G2p), .second, .val (.int xid), .val (.int u3), .val (.long A1), .second, .val (.long G1), .second, .val (.int xid), .val (.int u10), .val (.ref o), .val (.int (1 : Int32)), .val (.long A1), .second, .val (.long G1), .second, .val (.int xid), .val (.int u10), .val (.int xid), .val (.int u10)]) cx st43 at_302 rfl rfl ?_
    refine E_iload (pc' := 306) cx st43 at_304 rfl rfl ?_
    refine E_iload (pc' := 308) cx st43 at_306 rfl rfl ?_
    refine E_icmp_neN (pc' := 311) cx st43 at_308 rfl rfl ?_
    refine E_iload (pc' := 313) cx st43 at_311 rfl rfl ?_
    refine E_iload (pc' := 315) cx st43 at_313 rfl rfl ?_
    refine E_icmp_neN (pc' := 318) cx st43 at_315 rfl rfl ?_
    refine E_iconst (pc' := 319) cx st43 (1 : Int32) at_318 rfl rfl ?_
    refine E_goto (pc' := 323) cx st43 at_319 (by decide) (by decide) ?_
    refine E_ireturn (t := .boolean) cx st43 at_323 rfl (by simp) rfl (by decide) (by decide) ?_
    exact rfl
  · refine E_callV (pc' := 151) (kc' := 12) (ks' := 181) (W := 0) (a := o) (argsL := [(.int u10), (.long u6), (.long u9)]) cx st38 [] (rmpush2B l Z a0 hw o cl cs c0 bF bG bO bH bT hP nw h38 n0 Z38 u3 (mkE xid) e1 er A1 f1 fr G1 g1 gr (0 : Int64) q1 qr d1 dr t1 tr p1 pr (ns.set (slt A1 G1).toNatClampNeg (0 : Int32)) u10 u6 u9 hnd hge ⟨X_o_38, B_o_38, HL_38, ⟨_, V_cs_38⟩, ⟨_, V_c0_38⟩, ⟨_, V_bF_38⟩, ⟨_, V_bG_38⟩, ⟨_, V_bO_38⟩, ⟨_, V_bH_38⟩, ⟨_, V_bT_38⟩, ⟨_, V_hP_38⟩, ⟨_, V_nw_38⟩⟩ (by rw [List.length_set]; exact hnl) hA2 (ck_next (hck) hnl _ _ (slt_n u6 u9))) X_o_38 (wd hw 68 rfl) (wd hw 69 rfl) (wd hw 71 rfl) (wd hw 70 rfl) (wd hw 2 rfl) (wd hw 72 rfl) at_148 rfl rfl (lenOf pd_12 rfl) (Nat.le_of_eq rfl) (by decide) (by decide) (by decide) (by decide) (by decide) (by decide) (by decide) rfl ?_
    intro v44 T44 h44 st44 hq44
    obtain ⟨xb2, xc2, hx2, rfl, Kw44, Hw44⟩ := hq44
    have Z44 : n0 ≤ h44.size := Nat.le_trans Z38 Kw44.1
    obtain ⟨X_o_44, B_o_44, HL_44, ⟨k_cs_44, V_cs_44⟩, ⟨k_c0_44, V_c0_44⟩, ⟨k_bF_44, V_bF_44⟩, ⟨k_bG_44, V_bG_44⟩, ⟨k_bO_44, V_bO_44⟩, ⟨k_bH_44, V_bH_44⟩, ⟨k_bT_44, V_bT_44⟩, ⟨k_hP_44, V_hP_44⟩, ⟨k_nw_44, V_nw_44⟩⟩ := Hw44
    refine E_lloadN (pc' := 152) cx st44 at_151 rfl rfl ?_
    refine E_lload (pc' := 154) cx st44 at_152 rfl rfl ?_
    by_cases c45 : A1 = u6
    · refine E_lif_eqY (pc' := 175) cx st44 at_154 at_155 (by decide) (by decide) c45 ?_
      refine E_lloadN (pc' := 176) cx st44 at_175 rfl rfl ?_
      refine E_lload (pc' := 178) cx st44 at_176 rfl rfl ?_
      by_cases c46 : G1 = u9
      · refine E_lif_eqY (pc' := 209) cx st44 at_178 at_179 (by decide) (by decide) c46 ?_
        refine E_iconst (pc' := 210) cx st44 (1 : Int32) at_209 rfl rfl ?_
        refine E_istore (pc' := 212) (L' := #[.val (.int pp), .val (.long A1), .second, .val (.long G1), .second, .val (.long A2p), .second, .val (.long G2p), .second, .val (.int xid), .val (.int u3), .val (.long u6), .second, .val (.long u9), .second, .val (.int xid), .val (.int u10), .val (.ref o), .val (.int (1 : Int32)), .unset, .unset, .unset, .unset, .unset, .unset, .unset, .unset]) cx st44 at_210 rfl rfl ?_
        refine E_iload (pc' := 214) cx st44 at_212 rfl rfl ?_
        refine E_if_eqN (pc' := 217) cx st44 at_214 rfl (by decide) ?_
        refine E_lloadN (pc' := 218) cx st44 at_217 rfl rfl ?_
        refine E_goto (pc' := 223) cx st44 at_218 (by decide) (by decide) ?_
        refine E_lstore (pc' := 225) (L' := #[.val (.int pp), .val (.long A1), .second, .val (.long G1), .second, .val (.long A2p), .second, .val (.long G2p), .second, .val (.int xid), .val (.int u3), .val (.long u6), .second, .val (.long u9), .second, .val (.int xid), .val (.int u10), .val (.ref o), .val (.int (1 : Int32)), .val (.long A1), .second, .unset, .unset, .unset, .unset, .unset, .unset]) cx st44 at_223 rfl rfl ?_
        refine E_iload (pc' := 227) cx st44 at_225 rfl rfl ?_
        refine E_if_eqN (pc' := 230) cx st44 at_227 rfl (by decide) ?_
        refine E_lloadN (pc' := 231) cx st44 at_230 rfl rfl ?_
        refine E_goto (pc' := 236) cx st44 at_231 (by decide) (by decide) ?_
        refine E_lstore (pc' := 238) (L' := #[.val (.int pp), .val (.long A1), .second, .val (.long G1), .second, .val (.long A2p), .second, .val (.long G2p), .second, .val (.int xid), .val (.int u3), .val (.long u6), .second, .val (.long u9), .second, .val (.int xid), .val (.int u10), .val (.ref o), .val (.int (1 : Int32)), .val (.long A1), .second, .val (.long G1), .second, .unset, .unset, .unset, .unset]) cx st44 at_236 rfl rfl ?_
        refine E_iload (pc' := 240) cx st44 at_238 rfl rfl ?_
        refine E_if_eqN (pc' := 243) cx st44 at_240 rfl (by decide) ?_
        refine E_iload (pc' := 245) cx st44 at_243 rfl rfl ?_
        refine E_goto (pc' := 250) cx st44 at_245 (by decide) (by decide) ?_
        refine E_istore (pc' := 252) (L' := #[.val (.int pp), .val (.long A1), .second, .val (.long G1), .second, .val (.long A2p), .second, .val (.long G2p), .second, .val (.int xid), .val (.int u3), .val (.long u6), .second, .val (.long u9), .second, .val (.int xid), .val (.int u10), .val (.ref o), .val (.int (1 : Int32)), .val (.long A1), .second, .val (.long G1), .second, .val (.int xid), .unset, .unset, .unset]) cx st44 at_250 rfl rfl ?_
        refine E_iload (pc' := 254) cx st44 at_252 rfl rfl ?_
        refine E_if_eqN (pc' := 257) cx st44 at_254 rfl (by decide) ?_
        refine E_iload (pc' := 259) cx st44 at_257 rfl rfl ?_
        refine E_goto (pc' := 264) cx st44 at_259 (by decide) (by decide) ?_
        refine E_istore (pc' := 266) (L' := #[.val (.int pp), .val (.long A1), .second, .val (.long G1), .second, .val (.long A2p), .second, .val (.long G2p), .second, .val (.int xid), .val (.int u3), .val (.long u6), .second, .val (.long u9), .second, .val (.int xid), .val (.int u10), .val (.ref o), .val (.int (1 : Int32)), .val (.long A1), .second, .val (.long G1), .second, .val (.int xid), .val (.int u10), .unset, .unset]) cx st44 at_264 rfl rfl ?_
        refine E_aload (pc' := 268) cx st44 at_266 rfl rfl rfl ?_
        exact absurd ⟨c45, c46⟩ hA2
      · refine E_lif_eqN (pc' := 182) cx st44 at_178 at_179 rfl c46 ?_
        refine E_lloadN (pc' := 183) cx st44 at_182 rfl rfl ?_
        refine E_lload (pc' := 185) cx st44 at_183 rfl rfl ?_
        by_cases c47 : u9 < G1
        · refine E_lif_leN (pc' := 189) cx st44 at_185 at_186 rfl c47 ?_
          refine E_iconst (pc' := 190) cx st44 (1 : Int32) at_189 rfl rfl ?_
          refine E_goto (pc' := 194) cx st44 at_190 (by decide) (by decide) ?_
          refine E_iload (pc' := 196) cx st44 at_194 rfl rfl ?_
          by_cases c48 : (1 : Int32) = u3
          · refine E_icmp_neN (pc' := 199) cx st44 at_196 rfl c48 ?_
            refine E_iconst (pc' := 200) cx st44 (1 : Int32) at_199 rfl rfl ?_
            refine E_goto (pc' := 204) cx st44 at_200 (by decide) (by decide) ?_
            refine E_istore (pc' := 206) (L' := #[.val (.int pp), .val (.long A1), .second, .val (.long G1), .second, .val (.long A2p), .second, .val (.long G2p), .second, .val (.int xid), .val (.int u3), .val (.long u6), .second, .val (.long u9), .second, .val (.int xid), .val (.int u10), .val (.ref o), .val (.int (1 : Int32)), .unset, .unset, .unset, .unset, .unset, .unset, .unset, .unset]) cx st44 at_204 rfl rfl ?_
            refine E_goto (pc' := 212) cx st44 at_206 (by decide) (by decide) ?_
            refine E_iload (pc' := 214) cx st44 at_212 rfl rfl ?_
            refine E_if_eqN (pc' := 217) cx st44 at_214 rfl (by decide) ?_
            refine E_lloadN (pc' := 218) cx st44 at_217 rfl rfl ?_
            refine E_goto (pc' := 223) cx st44 at_218 (by decide) (by decide) ?_
            refine E_lstore (pc' := 225) (L' := #[.val (.int pp), .val (.long A1), .second, .val (.long G1), .second, .val (.long A2p), .second, .val (.long G2p), .second, .val (.int xid), .val (.int u3), .val (.long u6), .second, .val (.long u9), .second, .val (.int xid), .val (.int u10), .val (.ref o), .val (.int (1 : Int32)), .val (.long A1), .second, .unset, .unset, .unset, .unset, .unset, .unset]) cx st44 at_223 rfl rfl ?_
            refine E_iload (pc' := 227) cx st44 at_225 rfl rfl ?_
            refine E_if_eqN (pc' := 230) cx st44 at_227 rfl (by decide) ?_
            refine E_lloadN (pc' := 231) cx st44 at_230 rfl rfl ?_
            refine E_goto (pc' := 236) cx st44 at_231 (by decide) (by decide) ?_
            refine E_lstore (pc' := 238) (L' := #[.val (.int pp), .val (.long A1), .second, .val (.long G1), .second, .val (.long A2p), .second, .val (.long G2p), .second, .val (.int xid), .val (.int u3), .val (.long u6), .second, .val (.long u9), .second, .val (.int xid), .val (.int u10), .val (.ref o), .val (.int (1 : Int32)), .val (.long A1), .second, .val (.long G1), .second, .unset, .unset, .unset, .unset]) cx st44 at_236 rfl rfl ?_
            refine E_iload (pc' := 240) cx st44 at_238 rfl rfl ?_
            refine E_if_eqN (pc' := 243) cx st44 at_240 rfl (by decide) ?_
            refine E_iload (pc' := 245) cx st44 at_243 rfl rfl ?_
            refine E_goto (pc' := 250) cx st44 at_245 (by decide) (by decide) ?_
            refine E_istore (pc' := 252) (L' := #[.val (.int pp), .val (.long A1), .second, .val (.long G1), .second, .val (.long A2p), .second, .val (.long G2p), .second, .val (.int xid), .val (.int u3), .val (.long u6), .second, .val (.long u9), .second, .val (.int xid), .val (.int u10), .val (.ref o), .val (.int (1 : Int32)), .val (.long A1), .second, .val (.long G1), .second, .val (.int xid), .unset, .unset, .unset]) cx st44 at_250 rfl rfl ?_
            refine E_iload (pc' := 254) cx st44 at_252 rfl rfl ?_
            refine E_if_eqN (pc' := 257) cx st44 at_254 rfl (by decide) ?_
            refine E_iload (pc' := 259) cx st44 at_257 rfl rfl ?_
            refine E_goto (pc' := 264) cx st44 at_259 (by decide) (by decide) ?_
            refine E_istore (pc' := 266) (L' := #[.val (.int pp), .val (.long A1), .second, .val (.long G1), .second, .val (.long A2p), .second, .val (.long G2p), .second, .val (.int xid), .val (.int u3), .val (.long u6), .second, .val (.long u9), .second, .val (.int xid), .val (.int u10), .val (.ref o), .val (.int (1 : Int32)), .val (.long A1), .second, .val (.long G1), .second, .val (.int xid), .val (.int u10), .unset, .unset]) cx st44 at_264 rfl rfl ?_
            refine E_aload (pc' := 268) cx st44 at_266 rfl rfl rfl ?_
            have hbv : bfr u6 A1 u9 G1 (1 : Int64) (0 : Int64) u3 = 0 := by unfold bfr; rw [if_pos c45.symm, if_neg (fun z => c46 z.symm), if_neg (i64_asymm c47), if_neg (g011 hg c48).1]
            have hbc : xb2 = 0 ∧ xc2 = 1 := by
              rcases hx2 with ⟨q1, q2⟩ | ⟨q1, q2⟩
              · exact q1
              · exact absurd hbv q2
            obtain ⟨rfl, rfl⟩ := hbc
            refine E_callV (pc' := 271) (kc' := 12) (ks' := 181) (W := 0) (a := o) (argsL := []) cx st44 [] (rmfirstF0 l Z a0 hw o cl cs c0 bF bG bO bH bT hP nw h44 n0 Z44 u3 (-1 : Int32) (2 : Int32) (2 : Int32) (-1 : Int32) (2 : Int32) (2 : Int64) (2 : Int32) (mkE xid) (mkE u10) er A1 u6 fr G1 u9 gr (0 : Int64) (1 : Int64) qr (0 : Int32) (1 : Int32) dr (0 : Int32) (1 : Int32) tr (1 : Int32) pr ((ns.set (slt A1 G1).toNatClampNeg (0 : Int32)).set (slt u6 u9).toNatClampNeg (1 : Int32)) hnd hge ⟨X_o_44, B_o_44, HL_44, ⟨_, V_cs_44⟩, ⟨_, V_c0_44⟩, ⟨_, V_bF_44⟩, ⟨_, V_bG_44⟩, ⟨_, V_bO_44⟩, ⟨_, V_bH_44⟩, ⟨_, V_bT_44⟩, ⟨_, V_hP_44⟩, ⟨_, V_nw_44⟩⟩ ) X_o_44 (wd hw 134 rfl) (wd hw 135 rfl) (wd hw 137 rfl) (wd hw 136 rfl) (wd hw 2 rfl) (wd hw 138 rfl) at_268 rfl rfl (lenOf pd_15 rfl) (Nat.le_of_eq rfl) (by decide) (by decide) (by decide) (by decide) (by decide) (by decide) (by decide) rfl ?_
            intro v49 T49 h49 st49 hq49
            obtain ⟨rfl, hh49⟩ := hq49
            rw [hh49] at st49
            refine E_lload (pc' := 273) cx st49 at_271 rfl rfl ?_
            refine E_lif_neN (pc' := 277) cx st49 at_273 at_274 rfl rfl ?_
            refine E_aload (pc' := 279) cx st49 at_277 rfl rfl rfl ?_
            refine E_callV (pc' := 282) (kc' := 12) (ks' := 181) (W := 0) (a := o) (argsL := []) cx st49 [] (rmfirstG0 l Z a0 hw o cl cs c0 bF bG bO bH bT hP nw h44 n0 Z44 u3 (-1 : Int32) (2 : Int32) (2 : Int32) (-1 : Int32) (2 : Int32) (2 : Int64) (2 : Int32) (mkE xid) (mkE u10) er A1 u6 fr G1 u9 gr (0 : Int64) (1 : Int64) qr (0 : Int32) (1 : Int32) dr (0 : Int32) (1 : Int32) tr (1 : Int32) pr ((ns.set (slt A1 G1).toNatClampNeg (0 : Int32)).set (slt u6 u9).toNatClampNeg (1 : Int32)) hnd hge ⟨X_o_44, B_o_44, HL_44, ⟨_, V_cs_44⟩, ⟨_, V_c0_44⟩, ⟨_, V_bF_44⟩, ⟨_, V_bG_44⟩, ⟨_, V_bO_44⟩, ⟨_, V_bH_44⟩, ⟨_, V_bT_44⟩, ⟨_, V_hP_44⟩, ⟨_, V_nw_44⟩⟩ ) X_o_44 (wd hw 139 rfl) (wd hw 140 rfl) (wd hw 142 rfl) (wd hw 141 rfl) (wd hw 2 rfl) (wd hw 143 rfl) at_279 rfl rfl (lenOf pd_15 rfl) (Nat.le_of_eq rfl) (by decide) (by decide) (by decide) (by decide) (by decide) (by decide) (by decide) rfl ?_
            intro v50 T50 h50 st50 hq50
            obtain ⟨rfl, hh50⟩ := hq50
            rw [hh50] at st50
            refine E_lload (pc' := 284) cx st50 at_282 rfl rfl ?_
            refine E_lif_eqY (pc' := 290) cx st50 at_284 at_285 (by decide) (by decide) rfl ?_
            refine E_aload (pc' := 292) cx st50 at_290 rfl rfl rfl ?_
            refine E_callV (pc' := 295) (kc' := 12) (ks' := 181) (W := 0) (a := o) (argsL := []) cx st50 [] (rmpopB10 l Z a0 hw o cl cs c0 bF bG bO bH bT hP nw h44 n0 Z44 u3 (-1 : Int32) (2 : Int32) (2 : Int32) (-1 : Int32) (2 : Int32) (2 : Int64) (mkE xid) (mkE u10) er A1 u6 fr G1 u9 gr (0 : Int64) (1 : Int64) qr dr tr pr ((ns.set (slt A1 G1).toNatClampNeg (0 : Int32)).set (slt u6 u9).toNatClampNeg (1 : Int32)) hnd hge ⟨X_o_44, B_o_44, HL_44, ⟨_, V_cs_44⟩, ⟨_, V_c0_44⟩, ⟨_, V_bF_44⟩, ⟨_, V_bG_44⟩, ⟨_, V_bO_44⟩, ⟨_, V_bH_44⟩, ⟨_, V_bT_44⟩, ⟨_, V_hP_44⟩, ⟨_, V_nw_44⟩⟩ ) X_o_44 (wd hw 144 rfl) (wd hw 145 rfl) (wd hw 147 rfl) (wd hw 146 rfl) (wd hw 2 rfl) (wd hw 148 rfl) at_292 rfl rfl (lenOf pd_13 rfl) (Nat.le_of_eq rfl) (by decide) (by decide) (by decide) (by decide) (by decide) (by decide) (by decide) rfl ?_
            intro v51 T51 h51 st51 hq51
            obtain ⟨rfl, Kw51, Hw51⟩ := hq51
            have Z51 : n0 ≤ h51.size := Nat.le_trans Z44 Kw51.1
            obtain ⟨X_o_51, B_o_51, HL_51, ⟨k_cs_51, V_cs_51⟩, ⟨k_c0_51, V_c0_51⟩, ⟨k_bF_51, V_bF_51⟩, ⟨k_bG_51, V_bG_51⟩, ⟨k_bO_51, V_bO_51⟩, ⟨k_bH_51, V_bH_51⟩, ⟨k_bT_51, V_bT_51⟩, ⟨k_hP_51, V_hP_51⟩, ⟨k_nw_51, V_nw_51⟩⟩ := Hw51
            rw [show (hiV (mkE xid)) = xid from by rw [hi_mk]]
            refine E_istore (pc' := 297) (L' := #[.val (.int pp), .val (.long A1), .second, .val (.long G1), .second, .val (.long A2p), .second, .val (.long G2p), .second, .val (.int xid), .val (.int u3), .val (.long u6), .second, .val (.long u9), .second, .val (.int xid), .val (.int u10), .val (.ref o), .val (.int (1 : Int32)), .val (.long A1), .second, .val (.long G1), .second, .val (.int xid), .val (.int u10), .val (.int xid), .unset]) cx st51 at_295 rfl rfl ?_
            refine E_aload (pc' := 299) cx st51 at_297 rfl rfl rfl ?_
            refine E_callV (pc' := 302) (kc' := 12) (ks' := 181) (W := 0) (a := o) (argsL := []) cx st51 [] (rmpopB21 l Z a0 hw o cl cs c0 bF bG bO bH bT hP nw h51 n0 Z51 u3 (0 : Int32) (2 : Int32) ((2 : Int32) - (1 : Int32)) (0 : Int32) (2 : Int32) (2 : Int64) (nxE (mkE xid) (-1 : Int32)) (mkE u10) er A1 u6 fr G1 u9 gr (0 : Int64) (1 : Int64) qr (-1 : Int32) dr (-1 : Int32) tr (1 : Int32) pr ((ns.set (slt A1 G1).toNatClampNeg (0 : Int32)).set (slt u6 u9).toNatClampNeg (1 : Int32)) hnd hge ⟨X_o_51, B_o_51, HL_51, ⟨_, V_cs_51⟩, ⟨_, V_c0_51⟩, ⟨_, V_bF_51⟩, ⟨_, V_bG_51⟩, ⟨_, V_bO_51⟩, ⟨_, V_bH_51⟩, ⟨_, V_bT_51⟩, ⟨_, V_hP_51⟩, ⟨_, V_nw_51⟩⟩ ) X_o_51 (wd hw 144 rfl) (wd hw 145 rfl) (wd hw 147 rfl) (wd hw 146 rfl) (wd hw 2 rfl) (wd hw 148 rfl) at_299 rfl rfl (lenOf pd_13 rfl) (Nat.le_of_eq rfl) (by decide) (by decide) (by decide) (by decide) (by decide) (by decide) (by decide) rfl ?_
            intro v52 T52 h52 st52 hq52
            obtain ⟨rfl, Kw52, Hw52⟩ := hq52
            have Z52 : n0 ≤ h52.size := Nat.le_trans Z51 Kw52.1
            obtain ⟨X_o_52, B_o_52, HL_52, ⟨k_cs_52, V_cs_52⟩, ⟨k_c0_52, V_c0_52⟩, ⟨k_bF_52, V_bF_52⟩, ⟨k_bG_52, V_bG_52⟩, ⟨k_bO_52, V_bO_52⟩, ⟨k_bH_52, V_bH_52⟩, ⟨k_bT_52, V_bT_52⟩, ⟨k_hP_52, V_hP_52⟩, ⟨k_nw_52, V_nw_52⟩⟩ := Hw52
            rw [show (hiV (mkE u10)) = u10 from by rw [hi_mk]]
            refine E_istore (pc' := 304) (L' := #[.val (.int pp), .val (.long A1), .second, .val (.long G1), .second, .val (.long A2p), .second, .val (.long G2p), .second, .val (.int xid), .val (.int u3), .val (.long u6), .second, .val (.long u9), .second, .val (.int xid), .val (.int u10), .val (.ref o), .val (.int (1 : Int32)), .val (.long A1), .second, .val (.long G1), .second, .val (.int xid), .val (.int u10), .val (.int xid), .val (.int u10)]) cx st52 at_302 rfl rfl ?_
            refine E_iload (pc' := 306) cx st52 at_304 rfl rfl ?_
            refine E_iload (pc' := 308) cx st52 at_306 rfl rfl ?_
            refine E_icmp_neN (pc' := 311) cx st52 at_308 rfl rfl ?_
            refine E_iload (pc' := 313) cx st52 at_311 rfl rfl ?_
            refine E_iload (pc' := 315) cx st52 at_313 rfl rfl ?_
            refine E_icmp_neN (pc' := 318) cx st52 at_315 rfl rfl ?_
            refine E_iconst (pc' := 319) cx st52 (1 : Int32) at_318 rfl rfl ?_
            refine E_goto (pc' := 323) cx st52 at_319 (by decide) (by decide) ?_
            refine E_ireturn (t := .boolean) cx st52 at_323 rfl (by simp) rfl (by decide) (by decide) ?_
            exact rfl
          · refine E_icmp_neY (pc' := 203) cx st44 at_196 (by decide) (by decide) c48 ?_
            refine E_iconst (pc' := 204) cx st44 (0 : Int32) at_203 rfl rfl ?_
            refine E_istore (pc' := 206) (L' := #[.val (.int pp), .val (.long A1), .second, .val (.long G1), .second, .val (.long A2p), .second, .val (.long G2p), .second, .val (.int xid), .val (.int u3), .val (.long u6), .second, .val (.long u9), .second, .val (.int xid), .val (.int u10), .val (.ref o), .val (.int (0 : Int32)), .unset, .unset, .unset, .unset, .unset, .unset, .unset, .unset]) cx st44 at_204 rfl rfl ?_
            refine E_goto (pc' := 212) cx st44 at_206 (by decide) (by decide) ?_
            refine E_iload (pc' := 214) cx st44 at_212 rfl rfl ?_
            refine E_if_eqY (pc' := 221) cx st44 at_214 (by decide) (by decide) rfl ?_
            refine E_lload (pc' := 223) cx st44 at_221 rfl rfl ?_
            refine E_lstore (pc' := 225) (L' := #[.val (.int pp), .val (.long A1), .second, .val (.long G1), .second, .val (.long A2p), .second, .val (.long G2p), .second, .val (.int xid), .val (.int u3), .val (.long u6), .second, .val (.long u9), .second, .val (.int xid), .val (.int u10), .val (.ref o), .val (.int (0 : Int32)), .val (.long u6), .second, .unset, .unset, .unset, .unset, .unset, .unset]) cx st44 at_223 rfl rfl ?_
            refine E_iload (pc' := 227) cx st44 at_225 rfl rfl ?_
            refine E_if_eqY (pc' := 234) cx st44 at_227 (by decide) (by decide) rfl ?_
            refine E_lload (pc' := 236) cx st44 at_234 rfl rfl ?_
            refine E_lstore (pc' := 238) (L' := #[.val (.int pp), .val (.long A1), .second, .val (.long G1), .second, .val (.long A2p), .second, .val (.long G2p), .second, .val (.int xid), .val (.int u3), .val (.long u6), .second, .val (.long u9), .second, .val (.int xid), .val (.int u10), .val (.ref o), .val (.int (0 : Int32)), .val (.long u6), .second, .val (.long u9), .second, .unset, .unset, .unset, .unset]) cx st44 at_236 rfl rfl ?_
            refine E_iload (pc' := 240) cx st44 at_238 rfl rfl ?_
            refine E_if_eqY (pc' := 248) cx st44 at_240 (by decide) (by decide) rfl ?_
            refine E_iload (pc' := 250) cx st44 at_248 rfl rfl ?_
            refine E_istore (pc' := 252) (L' := #[.val (.int pp), .val (.long A1), .second, .val (.long G1), .second, .val (.long A2p), .second, .val (.long G2p), .second, .val (.int xid), .val (.int u3), .val (.long u6), .second, .val (.long u9), .second, .val (.int xid), .val (.int u10), .val (.ref o), .val (.int (0 : Int32)), .val (.long u6), .second, .val (.long u9), .second, .val (.int u10), .unset, .unset, .unset]) cx st44 at_250 rfl rfl ?_
            refine E_iload (pc' := 254) cx st44 at_252 rfl rfl ?_
            refine E_if_eqY (pc' := 262) cx st44 at_254 (by decide) (by decide) rfl ?_
            refine E_iload (pc' := 264) cx st44 at_262 rfl rfl ?_
            refine E_istore (pc' := 266) (L' := #[.val (.int pp), .val (.long A1), .second, .val (.long G1), .second, .val (.long A2p), .second, .val (.long G2p), .second, .val (.int xid), .val (.int u3), .val (.long u6), .second, .val (.long u9), .second, .val (.int xid), .val (.int u10), .val (.ref o), .val (.int (0 : Int32)), .val (.long u6), .second, .val (.long u9), .second, .val (.int u10), .val (.int xid), .unset, .unset]) cx st44 at_264 rfl rfl ?_
            refine E_aload (pc' := 268) cx st44 at_266 rfl rfl rfl ?_
            have hbv : bfr u6 A1 u9 G1 (1 : Int64) (0 : Int64) u3 = 1 := by unfold bfr; rw [if_pos c45.symm, if_neg (fun z => c46 z.symm), if_neg (i64_asymm c47), if_pos (g011n hg c48)]
            have hbc : xb2 = 1 ∧ xc2 = 0 := by
              rcases hx2 with ⟨q1, q2⟩ | ⟨q1, q2⟩
              · exact absurd (hbv.symm.trans q2) (by decide)
              · exact q1
            obtain ⟨rfl, rfl⟩ := hbc
            refine E_callV (pc' := 271) (kc' := 12) (ks' := 181) (W := 0) (a := o) (argsL := []) cx st44 [] (rmfirstF1 l Z a0 hw o cl cs c0 bF bG bO bH bT hP nw h44 n0 Z44 u3 (-1 : Int32) (2 : Int32) (2 : Int32) (-1 : Int32) (2 : Int32) (2 : Int64) (2 : Int32) (mkE xid) (mkE u10) er A1 u6 fr G1 u9 gr (0 : Int64) (1 : Int64) qr (0 : Int32) (1 : Int32) dr (0 : Int32) (1 : Int32) tr (0 : Int32) pr ((ns.set (slt A1 G1).toNatClampNeg (0 : Int32)).set (slt u6 u9).toNatClampNeg (1 : Int32)) hnd hge ⟨X_o_44, B_o_44, HL_44, ⟨_, V_cs_44⟩, ⟨_, V_c0_44⟩, ⟨_, V_bF_44⟩, ⟨_, V_bG_44⟩, ⟨_, V_bO_44⟩, ⟨_, V_bH_44⟩, ⟨_, V_bT_44⟩, ⟨_, V_hP_44⟩, ⟨_, V_nw_44⟩⟩ ) X_o_44 (wd hw 134 rfl) (wd hw 135 rfl) (wd hw 137 rfl) (wd hw 136 rfl) (wd hw 2 rfl) (wd hw 138 rfl) at_268 rfl rfl (lenOf pd_15 rfl) (Nat.le_of_eq rfl) (by decide) (by decide) (by decide) (by decide) (by decide) (by decide) (by decide) rfl ?_
            intro v53 T53 h53 st53 hq53
            obtain ⟨rfl, hh53⟩ := hq53
            rw [hh53] at st53
            refine E_lload (pc' := 273) cx st53 at_271 rfl rfl ?_
            refine E_lif_neN (pc' := 277) cx st53 at_273 at_274 rfl rfl ?_
            refine E_aload (pc' := 279) cx st53 at_277 rfl rfl rfl ?_
            refine E_callV (pc' := 282) (kc' := 12) (ks' := 181) (W := 0) (a := o) (argsL := []) cx st53 [] (rmfirstG1 l Z a0 hw o cl cs c0 bF bG bO bH bT hP nw h44 n0 Z44 u3 (-1 : Int32) (2 : Int32) (2 : Int32) (-1 : Int32) (2 : Int32) (2 : Int64) (2 : Int32) (mkE xid) (mkE u10) er A1 u6 fr G1 u9 gr (0 : Int64) (1 : Int64) qr (0 : Int32) (1 : Int32) dr (0 : Int32) (1 : Int32) tr (0 : Int32) pr ((ns.set (slt A1 G1).toNatClampNeg (0 : Int32)).set (slt u6 u9).toNatClampNeg (1 : Int32)) hnd hge ⟨X_o_44, B_o_44, HL_44, ⟨_, V_cs_44⟩, ⟨_, V_c0_44⟩, ⟨_, V_bF_44⟩, ⟨_, V_bG_44⟩, ⟨_, V_bO_44⟩, ⟨_, V_bH_44⟩, ⟨_, V_bT_44⟩, ⟨_, V_hP_44⟩, ⟨_, V_nw_44⟩⟩ ) X_o_44 (wd hw 139 rfl) (wd hw 140 rfl) (wd hw 142 rfl) (wd hw 141 rfl) (wd hw 2 rfl) (wd hw 143 rfl) at_279 rfl rfl (lenOf pd_15 rfl) (Nat.le_of_eq rfl) (by decide) (by decide) (by decide) (by decide) (by decide) (by decide) (by decide) rfl ?_
            intro v54 T54 h54 st54 hq54
            obtain ⟨rfl, hh54⟩ := hq54
            rw [hh54] at st54
            refine E_lload (pc' := 284) cx st54 at_282 rfl rfl ?_
            refine E_lif_eqY (pc' := 290) cx st54 at_284 at_285 (by decide) (by decide) rfl ?_
            refine E_aload (pc' := 292) cx st54 at_290 rfl rfl rfl ?_
            refine E_callV (pc' := 295) (kc' := 12) (ks' := 181) (W := 0) (a := o) (argsL := []) cx st54 [] (rmpopB11 l Z a0 hw o cl cs c0 bF bG bO bH bT hP nw h44 n0 Z44 u3 (-1 : Int32) (2 : Int32) (2 : Int32) (-1 : Int32) (2 : Int32) (2 : Int64) (mkE xid) (mkE u10) er A1 u6 fr G1 u9 gr (0 : Int64) (1 : Int64) qr dr tr pr ((ns.set (slt A1 G1).toNatClampNeg (0 : Int32)).set (slt u6 u9).toNatClampNeg (1 : Int32)) hnd hge ⟨X_o_44, B_o_44, HL_44, ⟨_, V_cs_44⟩, ⟨_, V_c0_44⟩, ⟨_, V_bF_44⟩, ⟨_, V_bG_44⟩, ⟨_, V_bO_44⟩, ⟨_, V_bH_44⟩, ⟨_, V_bT_44⟩, ⟨_, V_hP_44⟩, ⟨_, V_nw_44⟩⟩ ) X_o_44 (wd hw 144 rfl) (wd hw 145 rfl) (wd hw 147 rfl) (wd hw 146 rfl) (wd hw 2 rfl) (wd hw 148 rfl) at_292 rfl rfl (lenOf pd_13 rfl) (Nat.le_of_eq rfl) (by decide) (by decide) (by decide) (by decide) (by decide) (by decide) (by decide) rfl ?_
            intro v55 T55 h55 st55 hq55
            obtain ⟨rfl, Kw55, Hw55⟩ := hq55
            have Z55 : n0 ≤ h55.size := Nat.le_trans Z44 Kw55.1
            obtain ⟨X_o_55, B_o_55, HL_55, ⟨k_cs_55, V_cs_55⟩, ⟨k_c0_55, V_c0_55⟩, ⟨k_bF_55, V_bF_55⟩, ⟨k_bG_55, V_bG_55⟩, ⟨k_bO_55, V_bO_55⟩, ⟨k_bH_55, V_bH_55⟩, ⟨k_bT_55, V_bT_55⟩, ⟨k_hP_55, V_hP_55⟩, ⟨k_nw_55, V_nw_55⟩⟩ := Hw55
            rw [show (hiV (mkE u10)) = u10 from by rw [hi_mk]]
            refine E_istore (pc' := 297) (L' := #[.val (.int pp), .val (.long A1), .second, .val (.long G1), .second, .val (.long A2p), .second, .val (.long G2p), .second, .val (.int xid), .val (.int u3), .val (.long u6), .second, .val (.long u9), .second, .val (.int xid), .val (.int u10), .val (.ref o), .val (.int (0 : Int32)), .val (.long u6), .second, .val (.long u9), .second, .val (.int u10), .val (.int xid), .val (.int u10), .unset]) cx st55 at_295 rfl rfl ?_
            refine E_aload (pc' := 299) cx st55 at_297 rfl rfl rfl ?_
            refine E_callV (pc' := 302) (kc' := 12) (ks' := 181) (W := 0) (a := o) (argsL := []) cx st55 [] (rmpopB20 l Z a0 hw o cl cs c0 bF bG bO bH bT hP nw h55 n0 Z55 u3 (1 : Int32) (2 : Int32) ((2 : Int32) - (1 : Int32)) (1 : Int32) (2 : Int32) (2 : Int64) (mkE xid) (nxE (mkE u10) (-1 : Int32)) er A1 u6 fr G1 u9 gr (0 : Int64) (1 : Int64) qr (-1 : Int32) dr (-1 : Int32) tr (0 : Int32) pr ((ns.set (slt A1 G1).toNatClampNeg (0 : Int32)).set (slt u6 u9).toNatClampNeg (1 : Int32)) hnd hge ⟨X_o_55, B_o_55, HL_55, ⟨_, V_cs_55⟩, ⟨_, V_c0_55⟩, ⟨_, V_bF_55⟩, ⟨_, V_bG_55⟩, ⟨_, V_bO_55⟩, ⟨_, V_bH_55⟩, ⟨_, V_bT_55⟩, ⟨_, V_hP_55⟩, ⟨_, V_nw_55⟩⟩ ) X_o_55 (wd hw 144 rfl) (wd hw 145 rfl) (wd hw 147 rfl) (wd hw 146 rfl) (wd hw 2 rfl) (wd hw 148 rfl) at_299 rfl rfl (lenOf pd_13 rfl) (Nat.le_of_eq rfl) (by decide) (by decide) (by decide) (by decide) (by decide) (by decide) (by decide) rfl ?_
            intro v56 T56 h56 st56 hq56
            obtain ⟨rfl, Kw56, Hw56⟩ := hq56
            have Z56 : n0 ≤ h56.size := Nat.le_trans Z55 Kw56.1
            obtain ⟨X_o_56, B_o_56, HL_56, ⟨k_cs_56, V_cs_56⟩, ⟨k_c0_56, V_c0_56⟩, ⟨k_bF_56, V_bF_56⟩, ⟨k_bG_56, V_bG_56⟩, ⟨k_bO_56, V_bO_56⟩, ⟨k_bH_56, V_bH_56⟩, ⟨k_bT_56, V_bT_56⟩, ⟨k_hP_56, V_hP_56⟩, ⟨k_nw_56, V_nw_56⟩⟩ := Hw56
            rw [show (hiV (mkE xid)) = xid from by rw [hi_mk]]
            refine E_istore (pc' := 304) (L' := #[.val (.int pp), .val (.long A1), .second, .val (.long G1), .second, .val (.long A2p), .second, .val (.long G2p), .second, .val (.int xid), .val (.int u3), .val (.long u6), .second, .val (.long u9), .second, .val (.int xid), .val (.int u10), .val (.ref o), .val (.int (0 : Int32)), .val (.long u6), .second, .val (.long u9), .second, .val (.int u10), .val (.int xid), .val (.int u10), .val (.int xid)]) cx st56 at_302 rfl rfl ?_
            refine E_iload (pc' := 306) cx st56 at_304 rfl rfl ?_
            refine E_iload (pc' := 308) cx st56 at_306 rfl rfl ?_
            refine E_icmp_neN (pc' := 311) cx st56 at_308 rfl rfl ?_
            refine E_iload (pc' := 313) cx st56 at_311 rfl rfl ?_
            refine E_iload (pc' := 315) cx st56 at_313 rfl rfl ?_
            refine E_icmp_neN (pc' := 318) cx st56 at_315 rfl rfl ?_
            refine E_iconst (pc' := 319) cx st56 (1 : Int32) at_318 rfl rfl ?_
            refine E_goto (pc' := 323) cx st56 at_319 (by decide) (by decide) ?_
            refine E_ireturn (t := .boolean) cx st56 at_323 rfl (by simp) rfl (by decide) (by decide) ?_
            exact rfl
        · refine E_lif_leY (pc' := 193) cx st44 at_185 at_186 (by decide) (by decide) c47 ?_
          refine E_iconst (pc' := 194) cx st44 (0 : Int32) at_193 rfl rfl ?_
          refine E_iload (pc' := 196) cx st44 at_194 rfl rfl ?_
          by_cases c57 : (0 : Int32) = u3
          · refine E_icmp_neN (pc' := 199) cx st44 at_196 rfl c57 ?_
            refine E_iconst (pc' := 200) cx st44 (1 : Int32) at_199 rfl rfl ?_
            refine E_goto (pc' := 204) cx st44 at_200 (by decide) (by decide) ?_
            refine E_istore (pc' := 206) (L' := #[.val (.int pp), .val (.long A1), .second, .val (.long G1), .second, .val (.long A2p), .second, .val (.long G2p), .second, .val (.int xid), .val (.int u3), .val (.long u6), .second, .val (.long u9), .second, .val (.int xid), .val (.int u10), .val (.ref o), .val (.int (1 : Int32)), .unset, .unset, .unset, .unset, .unset, .unset, .unset, .unset]) cx st44 at_204 rfl rfl ?_
            refine E_goto (pc' := 212) cx st44 at_206 (by decide) (by decide) ?_
            refine E_iload (pc' := 214) cx st44 at_212 rfl rfl ?_
            refine E_if_eqN (pc' := 217) cx st44 at_214 rfl (by decide) ?_
            refine E_lloadN (pc' := 218) cx st44 at_217 rfl rfl ?_
            refine E_goto (pc' := 223) cx st44 at_218 (by decide) (by decide) ?_
            refine E_lstore (pc' := 225) (L' := #[.val (.int pp), .val (.long A1), .second, .val (.long G1), .second, .val (.long A2p), .second, .val (.long G2p), .second, .val (.int xid), .val (.int u3), .val (.long u6), .second, .val (.long u9), .second, .val (.int xid), .val (.int u10), .val (.ref o), .val (.int (1 : Int32)), .val (.long A1), .second, .unset, .unset, .unset, .unset, .unset, .unset]) cx st44 at_223 rfl rfl ?_
            refine E_iload (pc' := 227) cx st44 at_225 rfl rfl ?_
            refine E_if_eqN (pc' := 230) cx st44 at_227 rfl (by decide) ?_
            refine E_lloadN (pc' := 231) cx st44 at_230 rfl rfl ?_
            refine E_goto (pc' := 236) cx st44 at_231 (by decide) (by decide) ?_
            refine E_lstore (pc' := 238) (L' := #[.val (.int pp), .val (.long A1), .second, .val (.long G1), .second, .val (.long A2p), .second, .val (.long G2p), .second, .val (.int xid), .val (.int u3), .val (.long u6), .second, .val (.long u9), .second, .val (.int xid), .val (.int u10), .val (.ref o), .val (.int (1 : Int32)), .val (.long A1), .second, .val (.long G1), .second, .unset, .unset, .unset, .unset]) cx st44 at_236 rfl rfl ?_
            refine E_iload (pc' := 240) cx st44 at_238 rfl rfl ?_
            refine E_if_eqN (pc' := 243) cx st44 at_240 rfl (by decide) ?_
            refine E_iload (pc' := 245) cx st44 at_243 rfl rfl ?_
            refine E_goto (pc' := 250) cx st44 at_245 (by decide) (by decide) ?_
            refine E_istore (pc' := 252) (L' := #[.val (.int pp), .val (.long A1), .second, .val (.long G1), .second, .val (.long A2p), .second, .val (.long G2p), .second, .val (.int xid), .val (.int u3), .val (.long u6), .second, .val (.long u9), .second, .val (.int xid), .val (.int u10), .val (.ref o), .val (.int (1 : Int32)), .val (.long A1), .second, .val (.long G1), .second, .val (.int xid), .unset, .unset, .unset]) cx st44 at_250 rfl rfl ?_
            refine E_iload (pc' := 254) cx st44 at_252 rfl rfl ?_
            refine E_if_eqN (pc' := 257) cx st44 at_254 rfl (by decide) ?_
            refine E_iload (pc' := 259) cx st44 at_257 rfl rfl ?_
            refine E_goto (pc' := 264) cx st44 at_259 (by decide) (by decide) ?_
            refine E_istore (pc' := 266) (L' := #[.val (.int pp), .val (.long A1), .second, .val (.long G1), .second, .val (.long A2p), .second, .val (.long G2p), .second, .val (.int xid), .val (.int u3), .val (.long u6), .second, .val (.long u9), .second, .val (.int xid), .val (.int u10), .val (.ref o), .val (.int (1 : Int32)), .val (.long A1), .second, .val (.long G1), .second, .val (.int xid), .val (.int u10), .unset, .unset]) cx st44 at_264 rfl rfl ?_
            refine E_aload (pc' := 268) cx st44 at_266 rfl rfl rfl ?_
            have hbv : bfr u6 A1 u9 G1 (1 : Int64) (0 : Int64) u3 = 0 := by unfold bfr; rw [if_pos c45.symm, if_neg (fun z => c46 z.symm), if_pos (i64_total (fun z => c46 z.symm) c47), if_neg (g010 hg c57).1]
            have hbc : xb2 = 0 ∧ xc2 = 1 := by
              rcases hx2 with ⟨q1, q2⟩ | ⟨q1, q2⟩
              · exact q1
              · exact absurd hbv q2
            obtain ⟨rfl, rfl⟩ := hbc
            refine E_callV (pc' := 271) (kc' := 12) (ks' := 181) (W := 0) (a := o) (argsL := []) cx st44 [] (rmfirstF0 l Z a0 hw o cl cs c0 bF bG bO bH bT hP nw h44 n0 Z44 u3 (-1 : Int32) (2 : Int32) (2 : Int32) (-1 : Int32) (2 : Int32) (2 : Int64) (2 : Int32) (mkE xid) (mkE u10) er A1 u6 fr G1 u9 gr (0 : Int64) (1 : Int64) qr (0 : Int32) (1 : Int32) dr (0 : Int32) (1 : Int32) tr (1 : Int32) pr ((ns.set (slt A1 G1).toNatClampNeg (0 : Int32)).set (slt u6 u9).toNatClampNeg (1 : Int32)) hnd hge ⟨X_o_44, B_o_44, HL_44, ⟨_, V_cs_44⟩, ⟨_, V_c0_44⟩, ⟨_, V_bF_44⟩, ⟨_, V_bG_44⟩, ⟨_, V_bO_44⟩, ⟨_, V_bH_44⟩, ⟨_, V_bT_44⟩, ⟨_, V_hP_44⟩, ⟨_, V_nw_44⟩⟩ ) X_o_44 (wd hw 134 rfl) (wd hw 135 rfl) (wd hw 137 rfl) (wd hw 136 rfl) (wd hw 2 rfl) (wd hw 138 rfl) at_268 rfl rfl (lenOf pd_15 rfl) (Nat.le_of_eq rfl) (by decide) (by decide) (by decide) (by decide) (by decide) (by decide) (by decide) rfl ?_
            intro v58 T58 h58 st58 hq58
            obtain ⟨rfl, hh58⟩ := hq58
            rw [hh58] at st58
            refine E_lload (pc' := 273) cx st58 at_271 rfl rfl ?_
            refine E_lif_neN (pc' := 277) cx st58 at_273 at_274 rfl rfl ?_
            refine E_aload (pc' := 279) cx st58 at_277 rfl rfl rfl ?_
            refine E_callV (pc' := 282) (kc' := 12) (ks' := 181) (W := 0) (a := o) (argsL := []) cx st58 [] (rmfirstG0 l Z a0 hw o cl cs c0 bF bG bO bH bT hP nw h44 n0 Z44 u3 (-1 : Int32) (2 : Int32) (2 : Int32) (-1 : Int32) (2 : Int32) (2 : Int64) (2 : Int32) (mkE xid) (mkE u10) er A1 u6 fr G1 u9 gr (0 : Int64) (1 : Int64) qr (0 : Int32) (1 : Int32) dr (0 : Int32) (1 : Int32) tr (1 : Int32) pr ((ns.set (slt A1 G1).toNatClampNeg (0 : Int32)).set (slt u6 u9).toNatClampNeg (1 : Int32)) hnd hge ⟨X_o_44, B_o_44, HL_44, ⟨_, V_cs_44⟩, ⟨_, V_c0_44⟩, ⟨_, V_bF_44⟩, ⟨_, V_bG_44⟩, ⟨_, V_bO_44⟩, ⟨_, V_bH_44⟩, ⟨_, V_bT_44⟩, ⟨_, V_hP_44⟩, ⟨_, V_nw_44⟩⟩ ) X_o_44 (wd hw 139 rfl) (wd hw 140 rfl) (wd hw 142 rfl) (wd hw 141 rfl) (wd hw 2 rfl) (wd hw 143 rfl) at_279 rfl rfl (lenOf pd_15 rfl) (Nat.le_of_eq rfl) (by decide) (by decide) (by decide) (by decide) (by decide) (by decide) (by decide) rfl ?_
            intro v59 T59 h59 st59 hq59
            obtain ⟨rfl, hh59⟩ := hq59
            rw [hh59] at st59
            refine E_lload (pc' := 284) cx st59 at_282 rfl rfl ?_
            refine E_lif_eqY (pc' := 290) cx st59 at_284 at_285 (by decide) (by decide) rfl ?_
            refine E_aload (pc' := 292) cx st59 at_290 rfl rfl rfl ?_
            refine E_callV (pc' := 295) (kc' := 12) (ks' := 181) (W := 0) (a := o) (argsL := []) cx st59 [] (rmpopB10 l Z a0 hw o cl cs c0 bF bG bO bH bT hP nw h44 n0 Z44 u3 (-1 : Int32) (2 : Int32) (2 : Int32) (-1 : Int32) (2 : Int32) (2 : Int64) (mkE xid) (mkE u10) er A1 u6 fr G1 u9 gr (0 : Int64) (1 : Int64) qr dr tr pr ((ns.set (slt A1 G1).toNatClampNeg (0 : Int32)).set (slt u6 u9).toNatClampNeg (1 : Int32)) hnd hge ⟨X_o_44, B_o_44, HL_44, ⟨_, V_cs_44⟩, ⟨_, V_c0_44⟩, ⟨_, V_bF_44⟩, ⟨_, V_bG_44⟩, ⟨_, V_bO_44⟩, ⟨_, V_bH_44⟩, ⟨_, V_bT_44⟩, ⟨_, V_hP_44⟩, ⟨_, V_nw_44⟩⟩ ) X_o_44 (wd hw 144 rfl) (wd hw 145 rfl) (wd hw 147 rfl) (wd hw 146 rfl) (wd hw 2 rfl) (wd hw 148 rfl) at_292 rfl rfl (lenOf pd_13 rfl) (Nat.le_of_eq rfl) (by decide) (by decide) (by decide) (by decide) (by decide) (by decide) (by decide) rfl ?_
            intro v60 T60 h60 st60 hq60
            obtain ⟨rfl, Kw60, Hw60⟩ := hq60
            have Z60 : n0 ≤ h60.size := Nat.le_trans Z44 Kw60.1
            obtain ⟨X_o_60, B_o_60, HL_60, ⟨k_cs_60, V_cs_60⟩, ⟨k_c0_60, V_c0_60⟩, ⟨k_bF_60, V_bF_60⟩, ⟨k_bG_60, V_bG_60⟩, ⟨k_bO_60, V_bO_60⟩, ⟨k_bH_60, V_bH_60⟩, ⟨k_bT_60, V_bT_60⟩, ⟨k_hP_60, V_hP_60⟩, ⟨k_nw_60, V_nw_60⟩⟩ := Hw60
            rw [show (hiV (mkE xid)) = xid from by rw [hi_mk]]
            refine E_istore (pc' := 297) (L' := #[.val (.int pp), .val (.long A1), .second, .val (.long G1), .second, .val (.long A2p), .second, .val (.long G2p), .second, .val (.int xid), .val (.int u3), .val (.long u6), .second, .val (.long u9), .second, .val (.int xid), .val (.int u10), .val (.ref o), .val (.int (1 : Int32)), .val (.long A1), .second, .val (.long G1), .second, .val (.int xid), .val (.int u10), .val (.int xid), .unset]) cx st60 at_295 rfl rfl ?_
            refine E_aload (pc' := 299) cx st60 at_297 rfl rfl rfl ?_
            refine E_callV (pc' := 302) (kc' := 12) (ks' := 181) (W := 0) (a := o) (argsL := []) cx st60 [] (rmpopB21 l Z a0 hw o cl cs c0 bF bG bO bH bT hP nw h60 n0 Z60 u3 (0 : Int32) (2 : Int32) ((2 : Int32) - (1 : Int32)) (0 : Int32) (2 : Int32) (2 : Int64) (nxE (mkE xid) (-1 : Int32)) (mkE u10) er A1 u6 fr G1 u9 gr (0 : Int64) (1 : Int64) qr (-1 : Int32) dr (-1 : Int32) tr (1 : Int32) pr ((ns.set (slt A1 G1).toNatClampNeg (0 : Int32)).set (slt u6 u9).toNatClampNeg (1 : Int32)) hnd hge ⟨X_o_60, B_o_60, HL_60, ⟨_, V_cs_60⟩, ⟨_, V_c0_60⟩, ⟨_, V_bF_60⟩, ⟨_, V_bG_60⟩, ⟨_, V_bO_60⟩, ⟨_, V_bH_60⟩, ⟨_, V_bT_60⟩, ⟨_, V_hP_60⟩, ⟨_, V_nw_60⟩⟩ ) X_o_60 (wd hw 144 rfl) (wd hw 145 rfl) (wd hw 147 rfl) (wd hw 146 rfl) (wd hw 2 rfl) (wd hw 148 rfl) at_299 rfl rfl (lenOf pd_13 rfl) (Nat.le_of_eq rfl) (by decide) (by decide) (by decide) (by decide) (by decide) (by decide) (by decide) rfl ?_
            intro v61 T61 h61 st61 hq61
            obtain ⟨rfl, Kw61, Hw61⟩ := hq61
            have Z61 : n0 ≤ h61.size := Nat.le_trans Z60 Kw61.1
            obtain ⟨X_o_61, B_o_61, HL_61, ⟨k_cs_61, V_cs_61⟩, ⟨k_c0_61, V_c0_61⟩, ⟨k_bF_61, V_bF_61⟩, ⟨k_bG_61, V_bG_61⟩, ⟨k_bO_61, V_bO_61⟩, ⟨k_bH_61, V_bH_61⟩, ⟨k_bT_61, V_bT_61⟩, ⟨k_hP_61, V_hP_61⟩, ⟨k_nw_61, V_nw_61⟩⟩ := Hw61
            rw [show (hiV (mkE u10)) = u10 from by rw [hi_mk]]
            refine E_istore (pc' := 304) (L' := #[.val (.int pp), .val (.long A1), .second, .val (.long G1), .second, .val (.long A2p), .second, .val (.long G2p), .second, .val (.int xid), .val (.int u3), .val (.long u6), .second, .val (.long u9), .second, .val (.int xid), .val (.int u10), .val (.ref o), .val (.int (1 : Int32)), .val (.long A1), .second, .val (.long G1), .second, .val (.int xid), .val (.int u10), .val (.int xid), .val (.int u10)]) cx st61 at_302 rfl rfl ?_
            refine E_iload (pc' := 306) cx st61 at_304 rfl rfl ?_
            refine E_iload (pc' := 308) cx st61 at_306 rfl rfl ?_
            refine E_icmp_neN (pc' := 311) cx st61 at_308 rfl rfl ?_
            refine E_iload (pc' := 313) cx st61 at_311 rfl rfl ?_
            refine E_iload (pc' := 315) cx st61 at_313 rfl rfl ?_
            refine E_icmp_neN (pc' := 318) cx st61 at_315 rfl rfl ?_
            refine E_iconst (pc' := 319) cx st61 (1 : Int32) at_318 rfl rfl ?_
            refine E_goto (pc' := 323) cx st61 at_319 (by decide) (by decide) ?_
            refine E_ireturn (t := .boolean) cx st61 at_323 rfl (by simp) rfl (by decide) (by decide) ?_
            exact rfl
          · refine E_icmp_neY (pc' := 203) cx st44 at_196 (by decide) (by decide) c57 ?_
            refine E_iconst (pc' := 204) cx st44 (0 : Int32) at_203 rfl rfl ?_
            refine E_istore (pc' := 206) (L' := #[.val (.int pp), .val (.long A1), .second, .val (.long G1), .second, .val (.long A2p), .second, .val (.long G2p), .second, .val (.int xid), .val (.int u3), .val (.long u6), .second, .val (.long u9), .second, .val (.int xid), .val (.int u10), .val (.ref o), .val (.int (0 : Int32)), .unset, .unset, .unset, .unset, .unset, .unset, .unset, .unset]) cx st44 at_204 rfl rfl ?_
            refine E_goto (pc' := 212) cx st44 at_206 (by decide) (by decide) ?_
            refine E_iload (pc' := 214) cx st44 at_212 rfl rfl ?_
            refine E_if_eqY (pc' := 221) cx st44 at_214 (by decide) (by decide) rfl ?_
            refine E_lload (pc' := 223) cx st44 at_221 rfl rfl ?_
            refine E_lstore (pc' := 225) (L' := #[.val (.int pp), .val (.long A1), .second, .val (.long G1), .second, .val (.long A2p), .second, .val (.long G2p), .second, .val (.int xid), .val (.int u3), .val (.long u6), .second, .val (.long u9), .second, .val (.int xid), .val (.int u10), .val (.ref o), .val (.int (0 : Int32)), .val (.long u6), .second, .unset, .unset, .unset, .unset, .unset, .unset]) cx st44 at_223 rfl rfl ?_
            refine E_iload (pc' := 227) cx st44 at_225 rfl rfl ?_
            refine E_if_eqY (pc' := 234) cx st44 at_227 (by decide) (by decide) rfl ?_
            refine E_lload (pc' := 236) cx st44 at_234 rfl rfl ?_
            refine E_lstore (pc' := 238) (L' := #[.val (.int pp), .val (.long A1), .second, .val (.long G1), .second, .val (.long A2p), .second, .val (.long G2p), .second, .val (.int xid), .val (.int u3), .val (.long u6), .second, .val (.long u9), .second, .val (.int xid), .val (.int u10), .val (.ref o), .val (.int (0 : Int32)), .val (.long u6), .second, .val (.long u9), .second, .unset, .unset, .unset, .unset]) cx st44 at_236 rfl rfl ?_
            refine E_iload (pc' := 240) cx st44 at_238 rfl rfl ?_
            refine E_if_eqY (pc' := 248) cx st44 at_240 (by decide) (by decide) rfl ?_
            refine E_iload (pc' := 250) cx st44 at_248 rfl rfl ?_
            refine E_istore (pc' := 252) (L' := #[.val (.int pp), .val (.long A1), .second, .val (.long G1), .second, .val (.long A2p), .second, .val (.long G2p), .second, .val (.int xid), .val (.int u3), .val (.long u6), .second, .val (.long u9), .second, .val (.int xid), .val (.int u10), .val (.ref o), .val (.int (0 : Int32)), .val (.long u6), .second, .val (.long u9), .second, .val (.int u10), .unset, .unset, .unset]) cx st44 at_250 rfl rfl ?_
            refine E_iload (pc' := 254) cx st44 at_252 rfl rfl ?_
            refine E_if_eqY (pc' := 262) cx st44 at_254 (by decide) (by decide) rfl ?_
            refine E_iload (pc' := 264) cx st44 at_262 rfl rfl ?_
            refine E_istore (pc' := 266) (L' := #[.val (.int pp), .val (.long A1), .second, .val (.long G1), .second, .val (.long A2p), .second, .val (.long G2p), .second, .val (.int xid), .val (.int u3), .val (.long u6), .second, .val (.long u9), .second, .val (.int xid), .val (.int u10), .val (.ref o), .val (.int (0 : Int32)), .val (.long u6), .second, .val (.long u9), .second, .val (.int u10), .val (.int xid), .unset, .unset]) cx st44 at_264 rfl rfl ?_
            refine E_aload (pc' := 268) cx st44 at_266 rfl rfl rfl ?_
            have hbv : bfr u6 A1 u9 G1 (1 : Int64) (0 : Int64) u3 = 1 := by unfold bfr; rw [if_pos c45.symm, if_neg (fun z => c46 z.symm), if_pos (i64_total (fun z => c46 z.symm) c47), if_pos (g010n hg c57)]
            have hbc : xb2 = 1 ∧ xc2 = 0 := by
              rcases hx2 with ⟨q1, q2⟩ | ⟨q1, q2⟩
              · exact absurd (hbv.symm.trans q2) (by decide)
              · exact q1
            obtain ⟨rfl, rfl⟩ := hbc
            refine E_callV (pc' := 271) (kc' := 12) (ks' := 181) (W := 0) (a := o) (argsL := []) cx st44 [] (rmfirstF1 l Z a0 hw o cl cs c0 bF bG bO bH bT hP nw h44 n0 Z44 u3 (-1 : Int32) (2 : Int32) (2 : Int32) (-1 : Int32) (2 : Int32) (2 : Int64) (2 : Int32) (mkE xid) (mkE u10) er A1 u6 fr G1 u9 gr (0 : Int64) (1 : Int64) qr (0 : Int32) (1 : Int32) dr (0 : Int32) (1 : Int32) tr (0 : Int32) pr ((ns.set (slt A1 G1).toNatClampNeg (0 : Int32)).set (slt u6 u9).toNatClampNeg (1 : Int32)) hnd hge ⟨X_o_44, B_o_44, HL_44, ⟨_, V_cs_44⟩, ⟨_, V_c0_44⟩, ⟨_, V_bF_44⟩, ⟨_, V_bG_44⟩, ⟨_, V_bO_44⟩, ⟨_, V_bH_44⟩, ⟨_, V_bT_44⟩, ⟨_, V_hP_44⟩, ⟨_, V_nw_44⟩⟩ ) X_o_44 (wd hw 134 rfl) (wd hw 135 rfl) (wd hw 137 rfl) (wd hw 136 rfl) (wd hw 2 rfl) (wd hw 138 rfl) at_268 rfl rfl (lenOf pd_15 rfl) (Nat.le_of_eq rfl) (by decide) (by decide) (by decide) (by decide) (by decide) (by decide) (by decide) rfl ?_
            intro v62 T62 h62 st62 hq62
            obtain ⟨rfl, hh62⟩ := hq62
            rw [hh62] at st62
            refine E_lload (pc' := 273) cx st62 at_271 rfl rfl ?_
            refine E_lif_neN (pc' := 277) cx st62 at_273 at_274 rfl rfl ?_
            refine E_aload (pc' := 279) cx st62 at_277 rfl rfl rfl ?_
            refine E_callV (pc' := 282) (kc' := 12) (ks' := 181) (W := 0) (a := o) (argsL := []) cx st62 [] (rmfirstG1 l Z a0 hw o cl cs c0 bF bG bO bH bT hP nw h44 n0 Z44 u3 (-1 : Int32) (2 : Int32) (2 : Int32) (-1 : Int32) (2 : Int32) (2 : Int64) (2 : Int32) (mkE xid) (mkE u10) er A1 u6 fr G1 u9 gr (0 : Int64) (1 : Int64) qr (0 : Int32) (1 : Int32) dr (0 : Int32) (1 : Int32) tr (0 : Int32) pr ((ns.set (slt A1 G1).toNatClampNeg (0 : Int32)).set (slt u6 u9).toNatClampNeg (1 : Int32)) hnd hge ⟨X_o_44, B_o_44, HL_44, ⟨_, V_cs_44⟩, ⟨_, V_c0_44⟩, ⟨_, V_bF_44⟩, ⟨_, V_bG_44⟩, ⟨_, V_bO_44⟩, ⟨_, V_bH_44⟩, ⟨_, V_bT_44⟩, ⟨_, V_hP_44⟩, ⟨_, V_nw_44⟩⟩ ) X_o_44 (wd hw 139 rfl) (wd hw 140 rfl) (wd hw 142 rfl) (wd hw 141 rfl) (wd hw 2 rfl) (wd hw 143 rfl) at_279 rfl rfl (lenOf pd_15 rfl) (Nat.le_of_eq rfl) (by decide) (by decide) (by decide) (by decide) (by decide) (by decide) (by decide) rfl ?_
            intro v63 T63 h63 st63 hq63
            obtain ⟨rfl, hh63⟩ := hq63
            rw [hh63] at st63
            refine E_lload (pc' := 284) cx st63 at_282 rfl rfl ?_
            refine E_lif_eqY (pc' := 290) cx st63 at_284 at_285 (by decide) (by decide) rfl ?_
            refine E_aload (pc' := 292) cx st63 at_290 rfl rfl rfl ?_
            refine E_callV (pc' := 295) (kc' := 12) (ks' := 181) (W := 0) (a := o) (argsL := []) cx st63 [] (rmpopB11 l Z a0 hw o cl cs c0 bF bG bO bH bT hP nw h44 n0 Z44 u3 (-1 : Int32) (2 : Int32) (2 : Int32) (-1 : Int32) (2 : Int32) (2 : Int64) (mkE xid) (mkE u10) er A1 u6 fr G1 u9 gr (0 : Int64) (1 : Int64) qr dr tr pr ((ns.set (slt A1 G1).toNatClampNeg (0 : Int32)).set (slt u6 u9).toNatClampNeg (1 : Int32)) hnd hge ⟨X_o_44, B_o_44, HL_44, ⟨_, V_cs_44⟩, ⟨_, V_c0_44⟩, ⟨_, V_bF_44⟩, ⟨_, V_bG_44⟩, ⟨_, V_bO_44⟩, ⟨_, V_bH_44⟩, ⟨_, V_bT_44⟩, ⟨_, V_hP_44⟩, ⟨_, V_nw_44⟩⟩ ) X_o_44 (wd hw 144 rfl) (wd hw 145 rfl) (wd hw 147 rfl) (wd hw 146 rfl) (wd hw 2 rfl) (wd hw 148 rfl) at_292 rfl rfl (lenOf pd_13 rfl) (Nat.le_of_eq rfl) (by decide) (by decide) (by decide) (by decide) (by decide) (by decide) (by decide) rfl ?_
            intro v64 T64 h64 st64 hq64
            obtain ⟨rfl, Kw64, Hw64⟩ := hq64
            have Z64 : n0 ≤ h64.size := Nat.le_trans Z44 Kw64.1
            obtain ⟨X_o_64, B_o_64, HL_64, ⟨k_cs_64, V_cs_64⟩, ⟨k_c0_64, V_c0_64⟩, ⟨k_bF_64, V_bF_64⟩, ⟨k_bG_64, V_bG_64⟩, ⟨k_bO_64, V_bO_64⟩, ⟨k_bH_64, V_bH_64⟩, ⟨k_bT_64, V_bT_64⟩, ⟨k_hP_64, V_hP_64⟩, ⟨k_nw_64, V_nw_64⟩⟩ := Hw64
            rw [show (hiV (mkE u10)) = u10 from by rw [hi_mk]]
            refine E_istore (pc' := 297) (L' := #[.val (.int pp), .val (.long A1), .second, .val (.long G1), .second, .val (.long A2p), .second, .val (.long G2p), .second, .val (.int xid), .val (.int u3), .val (.long u6), .second, .val (.long u9), .second, .val (.int xid), .val (.int u10), .val (.ref o), .val (.int (0 : Int32)), .val (.long u6), .second, .val (.long u9), .second, .val (.int u10), .val (.int xid), .val (.int u10), .unset]) cx st64 at_295 rfl rfl ?_
            refine E_aload (pc' := 299) cx st64 at_297 rfl rfl rfl ?_
            refine E_callV (pc' := 302) (kc' := 12) (ks' := 181) (W := 0) (a := o) (argsL := []) cx st64 [] (rmpopB20 l Z a0 hw o cl cs c0 bF bG bO bH bT hP nw h64 n0 Z64 u3 (1 : Int32) (2 : Int32) ((2 : Int32) - (1 : Int32)) (1 : Int32) (2 : Int32) (2 : Int64) (mkE xid) (nxE (mkE u10) (-1 : Int32)) er A1 u6 fr G1 u9 gr (0 : Int64) (1 : Int64) qr (-1 : Int32) dr (-1 : Int32) tr (0 : Int32) pr ((ns.set (slt A1 G1).toNatClampNeg (0 : Int32)).set (slt u6 u9).toNatClampNeg (1 : Int32)) hnd hge ⟨X_o_64, B_o_64, HL_64, ⟨_, V_cs_64⟩, ⟨_, V_c0_64⟩, ⟨_, V_bF_64⟩, ⟨_, V_bG_64⟩, ⟨_, V_bO_64⟩, ⟨_, V_bH_64⟩, ⟨_, V_bT_64⟩, ⟨_, V_hP_64⟩, ⟨_, V_nw_64⟩⟩ ) X_o_64 (wd hw 144 rfl) (wd hw 145 rfl) (wd hw 147 rfl) (wd hw 146 rfl) (wd hw 2 rfl) (wd hw 148 rfl) at_299 rfl rfl (lenOf pd_13 rfl) (Nat.le_of_eq rfl) (by decide) (by decide) (by decide) (by decide) (by decide) (by decide) (by decide) rfl ?_
            intro v65 T65 h65 st65 hq65
            obtain ⟨rfl, Kw65, Hw65⟩ := hq65
            have Z65 : n0 ≤ h65.size := Nat.le_trans Z64 Kw65.1
            obtain ⟨X_o_65, B_o_65, HL_65, ⟨k_cs_65, V_cs_65⟩, ⟨k_c0_65, V_c0_65⟩, ⟨k_bF_65, V_bF_65⟩, ⟨k_bG_65, V_bG_65⟩, ⟨k_bO_65, V_bO_65⟩, ⟨k_bH_65, V_bH_65⟩, ⟨k_bT_65, V_bT_65⟩, ⟨k_hP_65, V_hP_65⟩, ⟨k_nw_65, V_nw_65⟩⟩ := Hw65
            rw [show (hiV (mkE xid)) = xid from by rw [hi_mk]]
            refine E_istore (pc' := 304) (L' := #[.val (.int pp), .val (.long A1), .second, .val (.long G1), .second, .val (.long A2p), .second, .val (.long G2p), .second, .val (.int xid), .val (.int u3), .val (.long u6), .second, .val (.long u9), .second, .val (.int xid), .val (.int u10), .val (.ref o), .val (.int (0 : Int32)), .val (.long u6), .second, .val (.long u9), .second, .val (.int u10), .val (.int xid), .val (.int u10), .val (.int xid)]) cx st65 at_302 rfl rfl ?_
            refine E_iload (pc' := 306) cx st65 at_304 rfl rfl ?_
            refine E_iload (pc' := 308) cx st65 at_306 rfl rfl ?_
            refine E_icmp_neN (pc' := 311) cx st65 at_308 rfl rfl ?_
            refine E_iload (pc' := 313) cx st65 at_311 rfl rfl ?_
            refine E_iload (pc' := 315) cx st65 at_313 rfl rfl ?_
            refine E_icmp_neN (pc' := 318) cx st65 at_315 rfl rfl ?_
            refine E_iconst (pc' := 319) cx st65 (1 : Int32) at_318 rfl rfl ?_
            refine E_goto (pc' := 323) cx st65 at_319 (by decide) (by decide) ?_
            refine E_ireturn (t := .boolean) cx st65 at_323 rfl (by simp) rfl (by decide) (by decide) ?_
            exact rfl
    · refine E_lif_eqN (pc' := 158) cx st44 at_154 at_155 rfl c45 ?_
      refine E_lloadN (pc' := 159) cx st44 at_158 rfl rfl ?_
      refine E_lload (pc' := 161) cx st44 at_159 rfl rfl ?_
      by_cases c66 : A1 < u6
      · refine E_lif_geN (pc' := 165) cx st44 at_161 at_162 rfl c66 ?_
        refine E_iconst (pc' := 166) cx st44 (1 : Int32) at_165 rfl rfl ?_
        refine E_goto (pc' := 170) cx st44 at_166 (by decide) (by decide) ?_
        refine E_istore (pc' := 172) (L' := #[.val (.int pp), .val (.long A1), .second, .val (.long G1), .second, .val (.long A2p), .second, .val (.long G2p), .second, .val (.int xid), .val (.int u3), .val (.long u6), .second, .val (.long u9), .second, .val (.int xid), .val (.int u10), .val (.ref o), .val (.int (1 : Int32)), .unset, .unset, .unset, .unset, .unset, .unset, .unset, .unset]) cx st44 at_170 rfl rfl ?_
        refine E_goto (pc' := 212) cx st44 at_172 (by decide) (by decide) ?_
        refine E_iload (pc' := 214) cx st44 at_212 rfl rfl ?_
        refine E_if_eqN (pc' := 217) cx st44 at_214 rfl (by decide) ?_
        refine E_lloadN (pc' := 218) cx st44 at_217 rfl rfl ?_
        refine E_goto (pc' := 223) cx st44 at_218 (by decide) (by decide) ?_
        refine E_lstore (pc' := 225) (L' := #[.val (.int pp), .val (.long A1), .second, .val (.long G1), .second, .val (.long A2p), .second, .val (.long G2p), .second, .val (.int xid), .val (.int u3), .val (.long u6), .second, .val (.long u9), .second, .val (.int xid), .val (.int u10), .val (.ref o), .val (.int (1 : Int32)), .val (.long A1), .second, .unset, .unset, .unset, .unset, .unset, .unset]) cx st44 at_223 rfl rfl ?_
        refine E_iload (pc' := 227) cx st44 at_225 rfl rfl ?_
        refine E_if_eqN (pc' := 230) cx st44 at_227 rfl (by decide) ?_
        refine E_lloadN (pc' := 231) cx st44 at_230 rfl rfl ?_
        refine E_goto (pc' := 236) cx st44 at_231 (by decide) (by decide) ?_
        refine E_lstore (pc' := 238) (L' := #[.val (.int pp), .val (.long A1), .second, .val (.long G1), .second, .val (.long A2p), .second, .val (.long G2p), .second, .val (.int xid), .val (.int u3), .val (.long u6), .second, .val (.long u9), .second, .val (.int xid), .val (.int u10), .val (.ref o), .val (.int (1 : Int32)), .val (.long A1), .second, .val (.long G1), .second, .unset, .unset, .unset, .unset]) cx st44 at_236 rfl rfl ?_
        refine E_iload (pc' := 240) cx st44 at_238 rfl rfl ?_
        refine E_if_eqN (pc' := 243) cx st44 at_240 rfl (by decide) ?_
        refine E_iload (pc' := 245) cx st44 at_243 rfl rfl ?_
        refine E_goto (pc' := 250) cx st44 at_245 (by decide) (by decide) ?_
        refine E_istore (pc' := 252) (L' := #[.val (.int pp), .val (.long A1), .second, .val (.long G1), .second, .val (.long A2p), .second, .val (.long G2p), .second, .val (.int xid), .val (.int u3), .val (.long u6), .second, .val (.long u9), .second, .val (.int xid), .val (.int u10), .val (.ref o), .val (.int (1 : Int32)), .val (.long A1), .second, .val (.long G1), .second, .val (.int xid), .unset, .unset, .unset]) cx st44 at_250 rfl rfl ?_
        refine E_iload (pc' := 254) cx st44 at_252 rfl rfl ?_
        refine E_if_eqN (pc' := 257) cx st44 at_254 rfl (by decide) ?_
        refine E_iload (pc' := 259) cx st44 at_257 rfl rfl ?_
        refine E_goto (pc' := 264) cx st44 at_259 (by decide) (by decide) ?_
        refine E_istore (pc' := 266) (L' := #[.val (.int pp), .val (.long A1), .second, .val (.long G1), .second, .val (.long A2p), .second, .val (.long G2p), .second, .val (.int xid), .val (.int u3), .val (.long u6), .second, .val (.long u9), .second, .val (.int xid), .val (.int u10), .val (.ref o), .val (.int (1 : Int32)), .val (.long A1), .second, .val (.long G1), .second, .val (.int xid), .val (.int u10), .unset, .unset]) cx st44 at_264 rfl rfl ?_
        refine E_aload (pc' := 268) cx st44 at_266 rfl rfl rfl ?_
        have hbv : bfr u6 A1 u9 G1 (1 : Int64) (0 : Int64) u3 = 0 := by unfold bfr; rw [if_neg (fun z => c45 z.symm), if_neg (i64_asymm c66)]
        have hbc : xb2 = 0 ∧ xc2 = 1 := by
          rcases hx2 with ⟨q1, q2⟩ | ⟨q1, q2⟩
          · exact q1
          · exact absurd hbv q2
        obtain ⟨rfl, rfl⟩ := hbc
        refine E_callV (pc' := 271) (kc' := 12) (ks' := 181) (W := 0) (a := o) (argsL := []) cx st44 [] (rmfirstF0 l Z a0 hw o cl cs c0 bF bG bO bH bT hP nw h44 n0 Z44 u3 (-1 : Int32) (2 : Int32) (2 : Int32) (-1 : Int32) (2 : Int32) (2 : Int64) (2 : Int32) (mkE xid) (mkE u10) er A1 u6 fr G1 u9 gr (0 : Int64) (1 : Int64) qr (0 : Int32) (1 : Int32) dr (0 : Int32) (1 : Int32) tr (1 : Int32) pr ((ns.set (slt A1 G1).toNatClampNeg (0 : Int32)).set (slt u6 u9).toNatClampNeg (1 : Int32)) hnd hge ⟨X_o_44, B_o_44, HL_44, ⟨_, V_cs_44⟩, ⟨_, V_c0_44⟩, ⟨_, V_bF_44⟩, ⟨_, V_bG_44⟩, ⟨_, V_bO_44⟩, ⟨_, V_bH_44⟩, ⟨_, V_bT_44⟩, ⟨_, V_hP_44⟩, ⟨_, V_nw_44⟩⟩ ) X_o_44 (wd hw 134 rfl) (wd hw 135 rfl) (wd hw 137 rfl) (wd hw 136 rfl) (wd hw 2 rfl) (wd hw 138 rfl) at_268 rfl rfl (lenOf pd_15 rfl) (Nat.le_of_eq rfl) (by decide) (by decide) (by decide) (by decide) (by decide) (by decide) (by decide) rfl ?_
        intro v67 T67 h67 st67 hq67
        obtain ⟨rfl, hh67⟩ := hq67
        rw [hh67] at st67
        refine E_lload (pc' := 273) cx st67 at_271 rfl rfl ?_
        refine E_lif_neN (pc' := 277) cx st67 at_273 at_274 rfl rfl ?_
        refine E_aload (pc' := 279) cx st67 at_277 rfl rfl rfl ?_
        refine E_callV (pc' := 282) (kc' := 12) (ks' := 181) (W := 0) (a := o) (argsL := []) cx st67 [] (rmfirstG0 l Z a0 hw o cl cs c0 bF bG bO bH bT hP nw h44 n0 Z44 u3 (-1 : Int32) (2 : Int32) (2 : Int32) (-1 : Int32) (2 : Int32) (2 : Int64) (2 : Int32) (mkE xid) (mkE u10) er A1 u6 fr G1 u9 gr (0 : Int64) (1 : Int64) qr (0 : Int32) (1 : Int32) dr (0 : Int32) (1 : Int32) tr (1 : Int32) pr ((ns.set (slt A1 G1).toNatClampNeg (0 : Int32)).set (slt u6 u9).toNatClampNeg (1 : Int32)) hnd hge ⟨X_o_44, B_o_44, HL_44, ⟨_, V_cs_44⟩, ⟨_, V_c0_44⟩, ⟨_, V_bF_44⟩, ⟨_, V_bG_44⟩, ⟨_, V_bO_44⟩, ⟨_, V_bH_44⟩, ⟨_, V_bT_44⟩, ⟨_, V_hP_44⟩, ⟨_, V_nw_44⟩⟩ ) X_o_44 (wd hw 139 rfl) (wd hw 140 rfl) (wd hw 142 rfl) (wd hw 141 rfl) (wd hw 2 rfl) (wd hw 143 rfl) at_279 rfl rfl (lenOf pd_15 rfl) (Nat.le_of_eq rfl) (by decide) (by decide) (by decide) (by decide) (by decide) (by decide) (by decide) rfl ?_
        intro v68 T68 h68 st68 hq68
        obtain ⟨rfl, hh68⟩ := hq68
        rw [hh68] at st68
        refine E_lload (pc' := 284) cx st68 at_282 rfl rfl ?_
        refine E_lif_eqY (pc' := 290) cx st68 at_284 at_285 (by decide) (by decide) rfl ?_
        refine E_aload (pc' := 292) cx st68 at_290 rfl rfl rfl ?_
        refine E_callV (pc' := 295) (kc' := 12) (ks' := 181) (W := 0) (a := o) (argsL := []) cx st68 [] (rmpopB10 l Z a0 hw o cl cs c0 bF bG bO bH bT hP nw h44 n0 Z44 u3 (-1 : Int32) (2 : Int32) (2 : Int32) (-1 : Int32) (2 : Int32) (2 : Int64) (mkE xid) (mkE u10) er A1 u6 fr G1 u9 gr (0 : Int64) (1 : Int64) qr dr tr pr ((ns.set (slt A1 G1).toNatClampNeg (0 : Int32)).set (slt u6 u9).toNatClampNeg (1 : Int32)) hnd hge ⟨X_o_44, B_o_44, HL_44, ⟨_, V_cs_44⟩, ⟨_, V_c0_44⟩, ⟨_, V_bF_44⟩, ⟨_, V_bG_44⟩, ⟨_, V_bO_44⟩, ⟨_, V_bH_44⟩, ⟨_, V_bT_44⟩, ⟨_, V_hP_44⟩, ⟨_, V_nw_44⟩⟩ ) X_o_44 (wd hw 144 rfl) (wd hw 145 rfl) (wd hw 147 rfl) (wd hw 146 rfl) (wd hw 2 rfl) (wd hw 148 rfl) at_292 rfl rfl (lenOf pd_13 rfl) (Nat.le_of_eq rfl) (by decide) (by decide) (by decide) (by decide) (by decide) (by decide) (by decide) rfl ?_
        intro v69 T69 h69 st69 hq69
        obtain ⟨rfl, Kw69, Hw69⟩ := hq69
        have Z69 : n0 ≤ h69.size := Nat.le_trans Z44 Kw69.1
        obtain ⟨X_o_69, B_o_69, HL_69, ⟨k_cs_69, V_cs_69⟩, ⟨k_c0_69, V_c0_69⟩, ⟨k_bF_69, V_bF_69⟩, ⟨k_bG_69, V_bG_69⟩, ⟨k_bO_69, V_bO_69⟩, ⟨k_bH_69, V_bH_69⟩, ⟨k_bT_69, V_bT_69⟩, ⟨k_hP_69, V_hP_69⟩, ⟨k_nw_69, V_nw_69⟩⟩ := Hw69
        rw [show (hiV (mkE xid)) = xid from by rw [hi_mk]]
        refine E_istore (pc' := 297) (L' := #[.val (.int pp), .val (.long A1), .second, .val (.long G1), .second, .val (.long A2p), .second, .val (.long G2p), .second, .val (.int xid), .val (.int u3), .val (.long u6), .second, .val (.long u9), .second, .val (.int xid), .val (.int u10), .val (.ref o), .val (.int (1 : Int32)), .val (.long A1), .second, .val (.long G1), .second, .val (.int xid), .val (.int u10), .val (.int xid), .unset]) cx st69 at_295 rfl rfl ?_
        refine E_aload (pc' := 299) cx st69 at_297 rfl rfl rfl ?_
        refine E_callV (pc' := 302) (kc' := 12) (ks' := 181) (W := 0) (a := o) (argsL := []) cx st69 [] (rmpopB21 l Z a0 hw o cl cs c0 bF bG bO bH bT hP nw h69 n0 Z69 u3 (0 : Int32) (2 : Int32) ((2 : Int32) - (1 : Int32)) (0 : Int32) (2 : Int32) (2 : Int64) (nxE (mkE xid) (-1 : Int32)) (mkE u10) er A1 u6 fr G1 u9 gr (0 : Int64) (1 : Int64) qr (-1 : Int32) dr (-1 : Int32) tr (1 : Int32) pr ((ns.set (slt A1 G1).toNatClampNeg (0 : Int32)).set (slt u6 u9).toNatClampNeg (1 : Int32)) hnd hge ⟨X_o_69, B_o_69, HL_69, ⟨_, V_cs_69⟩, ⟨_, V_c0_69⟩, ⟨_, V_bF_69⟩, ⟨_, V_bG_69⟩, ⟨_, V_bO_69⟩, ⟨_, V_bH_69⟩, ⟨_, V_bT_69⟩, ⟨_, V_hP_69⟩, ⟨_, V_nw_69⟩⟩ ) X_o_69 (wd hw 144 rfl) (wd hw 145 rfl) (wd hw 147 rfl) (wd hw 146 rfl) (wd hw 2 rfl) (wd hw 148 rfl) at_299 rfl rfl (lenOf pd_13 rfl) (Nat.le_of_eq rfl) (by decide) (by decide) (by decide) (by decide) (by decide) (by decide) (by decide) rfl ?_
        intro v70 T70 h70 st70 hq70
        obtain ⟨rfl, Kw70, Hw70⟩ := hq70
        have Z70 : n0 ≤ h70.size := Nat.le_trans Z69 Kw70.1
        obtain ⟨X_o_70, B_o_70, HL_70, ⟨k_cs_70, V_cs_70⟩, ⟨k_c0_70, V_c0_70⟩, ⟨k_bF_70, V_bF_70⟩, ⟨k_bG_70, V_bG_70⟩, ⟨k_bO_70, V_bO_70⟩, ⟨k_bH_70, V_bH_70⟩, ⟨k_bT_70, V_bT_70⟩, ⟨k_hP_70, V_hP_70⟩, ⟨k_nw_70, V_nw_70⟩⟩ := Hw70
        rw [show (hiV (mkE u10)) = u10 from by rw [hi_mk]]
        refine E_istore (pc' := 304) (L' := #[.val (.int pp), .val (.long A1), .second, .val (.long G1), .second, .val (.long A2p), .second, .val (.long G2p), .second, .val (.int xid), .val (.int u3), .val (.long u6), .second, .val (.long u9), .second, .val (.int xid), .val (.int u10), .val (.ref o), .val (.int (1 : Int32)), .val (.long A1), .second, .val (.long G1), .second, .val (.int xid), .val (.int u10), .val (.int xid), .val (.int u10)]) cx st70 at_302 rfl rfl ?_
        refine E_iload (pc' := 306) cx st70 at_304 rfl rfl ?_
        refine E_iload (pc' := 308) cx st70 at_306 rfl rfl ?_
        refine E_icmp_neN (pc' := 311) cx st70 at_308 rfl rfl ?_
        refine E_iload (pc' := 313) cx st70 at_311 rfl rfl ?_
        refine E_iload (pc' := 315) cx st70 at_313 rfl rfl ?_
        refine E_icmp_neN (pc' := 318) cx st70 at_315 rfl rfl ?_
        refine E_iconst (pc' := 319) cx st70 (1 : Int32) at_318 rfl rfl ?_
        refine E_goto (pc' := 323) cx st70 at_319 (by decide) (by decide) ?_
        refine E_ireturn (t := .boolean) cx st70 at_323 rfl (by simp) rfl (by decide) (by decide) ?_
        exact rfl
      · refine E_lif_geY (pc' := 169) cx st44 at_161 at_162 (by decide) (by decide) c66 ?_
        refine E_iconst (pc' := 170) cx st44 (0 : Int32) at_169 rfl rfl ?_
        refine E_istore (pc' := 172) (L' := #[.val (.int pp), .val (.long A1), .second, .val (.long G1), .second, .val (.long A2p), .second, .val (.long G2p), .second, .val (.int xid), .val (.int u3), .val (.long u6), .second, .val (.long u9), .second, .val (.int xid), .val (.int u10), .val (.ref o), .val (.int (0 : Int32)), .unset, .unset, .unset, .unset, .unset, .unset, .unset, .unset]) cx st44 at_170 rfl rfl ?_
        refine E_goto (pc' := 212) cx st44 at_172 (by decide) (by decide) ?_
        refine E_iload (pc' := 214) cx st44 at_212 rfl rfl ?_
        refine E_if_eqY (pc' := 221) cx st44 at_214 (by decide) (by decide) rfl ?_
        refine E_lload (pc' := 223) cx st44 at_221 rfl rfl ?_
        refine E_lstore (pc' := 225) (L' := #[.val (.int pp), .val (.long A1), .second, .val (.long G1), .second, .val (.long A2p), .second, .val (.long G2p), .second, .val (.int xid), .val (.int u3), .val (.long u6), .second, .val (.long u9), .second, .val (.int xid), .val (.int u10), .val (.ref o), .val (.int (0 : Int32)), .val (.long u6), .second, .unset, .unset, .unset, .unset, .unset, .unset]) cx st44 at_223 rfl rfl ?_
        refine E_iload (pc' := 227) cx st44 at_225 rfl rfl ?_
        refine E_if_eqY (pc' := 234) cx st44 at_227 (by decide) (by decide) rfl ?_
        refine E_lload (pc' := 236) cx st44 at_234 rfl rfl ?_
        refine E_lstore (pc' := 238) (L' := #[.val (.int pp), .val (.long A1), .second, .val (.long G1), .second, .val (.long A2p), .second, .val (.long G2p), .second, .val (.int xid), .val (.int u3), .val (.long u6), .second, .val (.long u9), .second, .val (.int xid), .val (.int u10), .val (.ref o), .val (.int (0 : Int32)), .val (.long u6), .second, .val (.long u9), .second, .unset, .unset, .unset, .unset]) cx st44 at_236 rfl rfl ?_
        refine E_iload (pc' := 240) cx st44 at_238 rfl rfl ?_
        refine E_if_eqY (pc' := 248) cx st44 at_240 (by decide) (by decide) rfl ?_
        refine E_iload (pc' := 250) cx st44 at_248 rfl rfl ?_
        refine E_istore (pc' := 252) (L' := #[.val (.int pp), .val (.long A1), .second, .val (.long G1), .second, .val (.long A2p), .second, .val (.long G2p), .second, .val (.int xid), .val (.int u3), .val (.long u6), .second, .val (.long u9), .second, .val (.int xid), .val (.int u10), .val (.ref o), .val (.int (0 : Int32)), .val (.long u6), .second, .val (.long u9), .second, .val (.int u10), .unset, .unset, .unset]) cx st44 at_250 rfl rfl ?_
        refine E_iload (pc' := 254) cx st44 at_252 rfl rfl ?_
        refine E_if_eqY (pc' := 262) cx st44 at_254 (by decide) (by decide) rfl ?_
        refine E_iload (pc' := 264) cx st44 at_262 rfl rfl ?_
        refine E_istore (pc' := 266) (L' := #[.val (.int pp), .val (.long A1), .second, .val (.long G1), .second, .val (.long A2p), .second, .val (.long G2p), .second, .val (.int xid), .val (.int u3), .val (.long u6), .second, .val (.long u9), .second, .val (.int xid), .val (.int u10), .val (.ref o), .val (.int (0 : Int32)), .val (.long u6), .second, .val (.long u9), .second, .val (.int u10), .val (.int xid), .unset, .unset]) cx st44 at_264 rfl rfl ?_
        refine E_aload (pc' := 268) cx st44 at_266 rfl rfl rfl ?_
        have hbv : bfr u6 A1 u9 G1 (1 : Int64) (0 : Int64) u3 = 1 := by unfold bfr; rw [if_neg (fun z => c45 z.symm), if_pos (i64_total c45 c66)]
        have hbc : xb2 = 1 ∧ xc2 = 0 := by
          rcases hx2 with ⟨q1, q2⟩ | ⟨q1, q2⟩
          · exact absurd (hbv.symm.trans q2) (by decide)
          · exact q1
        obtain ⟨rfl, rfl⟩ := hbc
        refine E_callV (pc' := 271) (kc' := 12) (ks' := 181) (W := 0) (a := o) (argsL := []) cx st44 [] (rmfirstF1 l Z a0 hw o cl cs c0 bF bG bO bH bT hP nw h44 n0 Z44 u3 (-1 : Int32) (2 : Int32) (2 : Int32) (-1 : Int32) (2 : Int32) (2 : Int64) (2 : Int32) (mkE xid) (mkE u10) er A1 u6 fr G1 u9 gr (0 : Int64) (1 : Int64) qr (0 : Int32) (1 : Int32) dr (0 : Int32) (1 : Int32) tr (0 : Int32) pr ((ns.set (slt A1 G1).toNatClampNeg (0 : Int32)).set (slt u6 u9).toNatClampNeg (1 : Int32)) hnd hge ⟨X_o_44, B_o_44, HL_44, ⟨_, V_cs_44⟩, ⟨_, V_c0_44⟩, ⟨_, V_bF_44⟩, ⟨_, V_bG_44⟩, ⟨_, V_bO_44⟩, ⟨_, V_bH_44⟩, ⟨_, V_bT_44⟩, ⟨_, V_hP_44⟩, ⟨_, V_nw_44⟩⟩ ) X_o_44 (wd hw 134 rfl) (wd hw 135 rfl) (wd hw 137 rfl) (wd hw 136 rfl) (wd hw 2 rfl) (wd hw 138 rfl) at_268 rfl rfl (lenOf pd_15 rfl) (Nat.le_of_eq rfl) (by decide) (by decide) (by decide) (by decide) (by decide) (by decide) (by decide) rfl ?_
        intro v71 T71 h71 st71 hq71
        obtain ⟨rfl, hh71⟩ := hq71
        rw [hh71] at st71
        refine E_lload (pc' := 273) cx st71 at_271 rfl rfl ?_
        refine E_lif_neN (pc' := 277) cx st71 at_273 at_274 rfl rfl ?_
        refine E_aload (pc' := 279) cx st71 at_277 rfl rfl rfl ?_
        refine E_callV (pc' := 282) (kc' := 12) (ks' := 181) (W := 0) (a := o) (argsL := []) cx st71 [] (rmfirstG1 l Z a0 hw o cl cs c0 bF bG bO bH bT hP nw h44 n0 Z44 u3 (-1 : Int32) (2 : Int32) (2 : Int32) (-1 : Int32) (2 : Int32) (2 : Int64) (2 : Int32) (mkE xid) (mkE u10) er A1 u6 fr G1 u9 gr (0 : Int64) (1 : Int64) qr (0 : Int32) (1 : Int32) dr (0 : Int32) (1 : Int32) tr (0 : Int32) pr ((ns.set (slt A1 G1).toNatClampNeg (0 : Int32)).set (slt u6 u9).toNatClampNeg (1 : Int32)) hnd hge ⟨X_o_44, B_o_44, HL_44, ⟨_, V_cs_44⟩, ⟨_, V_c0_44⟩, ⟨_, V_bF_44⟩, ⟨_, V_bG_44⟩, ⟨_, V_bO_44⟩, ⟨_, V_bH_44⟩, ⟨_, V_bT_44⟩, ⟨_, V_hP_44⟩, ⟨_, V_nw_44⟩⟩ ) X_o_44 (wd hw 139 rfl) (wd hw 140 rfl) (wd hw 142 rfl) (wd hw 141 rfl) (wd hw 2 rfl) (wd hw 143 rfl) at_279 rfl rfl (lenOf pd_15 rfl) (Nat.le_of_eq rfl) (by decide) (by decide) (by decide) (by decide) (by decide) (by decide) (by decide) rfl ?_
        intro v72 T72 h72 st72 hq72
        obtain ⟨rfl, hh72⟩ := hq72
        rw [hh72] at st72
        refine E_lload (pc' := 284) cx st72 at_282 rfl rfl ?_
        refine E_lif_eqY (pc' := 290) cx st72 at_284 at_285 (by decide) (by decide) rfl ?_
        refine E_aload (pc' := 292) cx st72 at_290 rfl rfl rfl ?_
        refine E_callV (pc' := 295) (kc' := 12) (ks' := 181) (W := 0) (a := o) (argsL := []) cx st72 [] (rmpopB11 l Z a0 hw o cl cs c0 bF bG bO bH bT hP nw h44 n0 Z44 u3 (-1 : Int32) (2 : Int32) (2 : Int32) (-1 : Int32) (2 : Int32) (2 : Int64) (mkE xid) (mkE u10) er A1 u6 fr G1 u9 gr (0 : Int64) (1 : Int64) qr dr tr pr ((ns.set (slt A1 G1).toNatClampNeg (0 : Int32)).set (slt u6 u9).toNatClampNeg (1 : Int32)) hnd hge ⟨X_o_44, B_o_44, HL_44, ⟨_, V_cs_44⟩, ⟨_, V_c0_44⟩, ⟨_, V_bF_44⟩, ⟨_, V_bG_44⟩, ⟨_, V_bO_44⟩, ⟨_, V_bH_44⟩, ⟨_, V_bT_44⟩, ⟨_, V_hP_44⟩, ⟨_, V_nw_44⟩⟩ ) X_o_44 (wd hw 144 rfl) (wd hw 145 rfl) (wd hw 147 rfl) (wd hw 146 rfl) (wd hw 2 rfl) (wd hw 148 rfl) at_292 rfl rfl (lenOf pd_13 rfl) (Nat.le_of_eq rfl) (by decide) (by decide) (by decide) (by decide) (by decide) (by decide) (by decide) rfl ?_
        intro v73 T73 h73 st73 hq73
        obtain ⟨rfl, Kw73, Hw73⟩ := hq73
        have Z73 : n0 ≤ h73.size := Nat.le_trans Z44 Kw73.1
        obtain ⟨X_o_73, B_o_73, HL_73, ⟨k_cs_73, V_cs_73⟩, ⟨k_c0_73, V_c0_73⟩, ⟨k_bF_73, V_bF_73⟩, ⟨k_bG_73, V_bG_73⟩, ⟨k_bO_73, V_bO_73⟩, ⟨k_bH_73, V_bH_73⟩, ⟨k_bT_73, V_bT_73⟩, ⟨k_hP_73, V_hP_73⟩, ⟨k_nw_73, V_nw_73⟩⟩ := Hw73
        rw [show (hiV (mkE u10)) = u10 from by rw [hi_mk]]
        refine E_istore (pc' := 297) (L' := #[.val (.int pp), .val (.long A1), .second, .val (.long G1), .second, .val (.long A2p), .second, .val (.long G2p), .second, .val (.int xid), .val (.int u3), .val (.long u6), .second, .val (.long u9), .second, .val (.int xid), .val (.int u10), .val (.ref o), .val (.int (0 : Int32)), .val (.long u6), .second, .val (.long u9), .second, .val (.int u10), .val (.int xid), .val (.int u10), .unset]) cx st73 at_295 rfl rfl ?_
        refine E_aload (pc' := 299) cx st73 at_297 rfl rfl rfl ?_
        refine E_callV (pc' := 302) (kc' := 12) (ks' := 181) (W := 0) (a := o) (argsL := []) cx st73 [] (rmpopB20 l Z a0 hw o cl cs c0 bF bG bO bH bT hP nw h73 n0 Z73 u3 (1 : Int32) (2 : Int32) ((2 : Int32) - (1 : Int32)) (1 : Int32) (2 : Int32) (2 : Int64) (mkE xid) (nxE (mkE u10) (-1 : Int32)) er A1 u6 fr G1 u9 gr (0 : Int64) (1 : Int64) qr (-1 : Int32) dr (-1 : Int32) tr (0 : Int32) pr ((ns.set (slt A1 G1).toNatClampNeg (0 : Int32)).set (slt u6 u9).toNatClampNeg (1 : Int32)) hnd hge ⟨X_o_73, B_o_73, HL_73, ⟨_, V_cs_73⟩, ⟨_, V_c0_73⟩, ⟨_, V_bF_73⟩, ⟨_, V_bG_73⟩, ⟨_, V_bO_73⟩, ⟨_, V_bH_73⟩, ⟨_, V_bT_73⟩, ⟨_, V_hP_73⟩, ⟨_, V_nw_73⟩⟩ ) X_o_73 (wd hw 144 rfl) (wd hw 145 rfl) (wd hw 147 rfl) (wd hw 146 rfl) (wd hw 2 rfl) (wd hw 148 rfl) at_299 rfl rfl (lenOf pd_13 rfl) (Nat.le_of_eq rfl) (by decide) (by decide) (by decide) (by decide) (by decide) (by decide) (by decide) rfl ?_
        intro v74 T74 h74 st74 hq74
        obtain ⟨rfl, Kw74, Hw74⟩ := hq74
        have Z74 : n0 ≤ h74.size := Nat.le_trans Z73 Kw74.1
        obtain ⟨X_o_74, B_o_74, HL_74, ⟨k_cs_74, V_cs_74⟩, ⟨k_c0_74, V_c0_74⟩, ⟨k_bF_74, V_bF_74⟩, ⟨k_bG_74, V_bG_74⟩, ⟨k_bO_74, V_bO_74⟩, ⟨k_bH_74, V_bH_74⟩, ⟨k_bT_74, V_bT_74⟩, ⟨k_hP_74, V_hP_74⟩, ⟨k_nw_74, V_nw_74⟩⟩ := Hw74
        rw [show (hiV (mkE xid)) = xid from by rw [hi_mk]]
        refine E_istore (pc' := 304) (L' := #[.val (.int pp), .val (.long A1), .second, .val (.long G1), .second, .val (.long A2p), .second, .val (.long G2p), .second, .val (.int xid), .val (.int u3), .val (.long u6), .second, .val (.long u9), .second, .val (.int xid), .val (.int u10), .val (.ref o), .val (.int (0 : Int32)), .val (.long u6), .second, .val (.long u9), .second, .val (.int u10), .val (.int xid), .val (.int u10), .val (.int xid)]) cx st74 at_302 rfl rfl ?_
        refine E_iload (pc' := 306) cx st74 at_304 rfl rfl ?_
        refine E_iload (pc' := 308) cx st74 at_306 rfl rfl ?_
        refine E_icmp_neN (pc' := 311) cx st74 at_308 rfl rfl ?_
        refine E_iload (pc' := 313) cx st74 at_311 rfl rfl ?_
        refine E_iload (pc' := 315) cx st74 at_313 rfl rfl ?_
        refine E_icmp_neN (pc' := 318) cx st74 at_315 rfl rfl ?_
        refine E_iconst (pc' := 319) cx st74 (1 : Int32) at_318 rfl rfl ?_
        refine E_goto (pc' := 323) cx st74 at_319 (by decide) (by decide) ?_
        refine E_ireturn (t := .boolean) cx st74 at_323 rfl (by simp) rfl (by decide) (by decide) ?_
        exact rfl
set_option maxRecDepth 65536 in
set_option maxHeartbeats 40000000 in
theorem comes_1 {Post : Tables → Env → Array Value → State → Outcome → State → Prop} (hpost : ∀ tb e args s v u, (limb_1_1.after args s (.returned v) u = true ∧ limb_1_2.after args s (.returned v) u = true ∧ True) → FrameEnd s (.returned v) u (Jvm.fieldLocs frame_1_writes args s ++ Jvm.arrayLocs frame_1_arrays args s ++ Jvm.staticLocs frame_1_statics s) 32 448 → Post tb e args s (.returned v) u) :
    ArmFor flags0 classFile x code maxLocals ret World_1 tables_1 room_1 Calls_1 rest_1 Pre_1 Post := by
  intro l hfl _ _ p e ha hc hk s m args below hf hA hF happ hP
  obtain ⟨hcalls, hrest, hpre⟩ := hP
  obtain ⟨-, -, -, hnamed, -, -, -, hat⟩ := (Spec.applies_iff hf).mp happ
  obtain ⟨hg, hn⟩ := and_e (Cond.before_iff.mp (show (Jvm.Cond.and given_1 narrow_1).before args s = true from hpre))
  obtain ⟨g0, hg⟩ := and_e hg
  obtain ⟨ga0, hg⟩ := and_e hg
  obtain ⟨ga1, hg⟩ := and_e hg
  obtain ⟨ga2, hg⟩ := and_e hg
  obtain ⟨ga3, hg⟩ := and_e hg
  obtain ⟨ga4, hg⟩ := and_e hg
  have ga5 := hg
  obtain ⟨w0, w1, w2, w3, w4, w5, rfl⟩ : ∃ w0 w1 w2 w3 w4 w5 : Value, args = #[w0, w1, w2, w3, w4, w5] := by
    have hs : args.size = 6 := by simpa [Cond.value, given_1] using g0
    obtain ⟨L⟩ := args
    match L, hs with
    | [w0, w1, w2, w3, w4, w5], _ => exact ⟨w0, w1, w2, w3, w4, w5, rfl⟩
  have hw := fun d (hd : d ∈ tables_1) => atoms_spec (ws := Jvm.Cond.code x code maxLocals ret :: tables_1) hat d (List.mem_cons_of_mem _ hd)
  obtain ⟨i0, ei0⟩ := is_v ga0
  obtain rfl : w0 = (.int i0) := Option.some.inj ei0
  obtain ⟨i1, ei1⟩ := isL_v ga1
  obtain rfl : w1 = (.long i1) := Option.some.inj ei1
  obtain ⟨i2, ei2⟩ := isL_v ga2
  obtain rfl : w2 = (.long i2) := Option.some.inj ei2
  obtain ⟨i3, ei3⟩ := isL_v ga3
  obtain rfl : w3 = (.long i3) := Option.some.inj ei3
  obtain ⟨i4, ei4⟩ := isL_v ga4
  obtain rfl : w4 = (.long i4) := Option.some.inj ei4
  obtain ⟨i5, ei5⟩ := is_v ga5
  obtain rfl : w5 = (.int i5) := Option.some.inj ei5
  obtain ⟨n, o, h1, h2, h3, _, L, rfl, ⟨N, rfl⟩, hq⟩ := rm0 l s _ hw i0 i1 i2 i3 i4 i5 s.heap s.heap.size (Nat.le_refl _) tables_1 p e ha hc hk s m _ below hf ((Spec.applies_iff_loose hf).mp happ).1 ⟨rfl, State.Warmed39.refl s, rfl⟩ trivial
  refine ⟨n, _, h1, h2, h3, hpost _ _ _ _ _ _ ⟨Cond.after_iff.mpr rfl, Cond.after_iff.mpr (eq_i res_at (Term.int_eval (1)) rfl), trivial⟩ ⟨hq.1, hq.2.1, (hq.2.2.sift fun y hy => Or.inr (N y hy)).mono (by decide) (by decide)⟩⟩
theorem main_1_1 : Claimed_1_1 := comes_1 fun _ _ _ _ _ _ h hF => ⟨h.1, hF⟩
theorem main_1_2 : Claimed_1_2 := comes_1 fun _ _ _ _ _ _ h hF => ⟨h.2.1, hF⟩
end Jvm.Pilot.@@N@@
namespace Jvm.Pilot.@@N@@
open Jvm Jvm.ClassFile Sem Op Lib Jvm.Free Jvm.Stand Jvm.Pilot.@@N@@.Jvm.D
/-! MADE BY PROGRAM (witnessworld.py) out of the Statement's table words and the real class files: 19 classes; the members and pool entries that the words name. The judged class is class 1, her method 1. -/
namespace start1
open Jvm.ClassFile
def u (s : String) : CpInfo := .utf8 (stringToUtf16 s)
/-- a pool by its gaps: so many unusable entries, then the entry; so many at the end -/
def gap : Nat → List CpInfo → List CpInfo
  | 0, r => r
  | n + 1, r => .unusable :: gap n r
def poolList (es : List (Nat × CpInfo)) (last : Nat) : List CpInfo := es.foldr (fun e r => gap e.1 (e.2 :: r)) (gap last [])
def pool (es : List (Nat × CpInfo)) (last : Nat) : Array CpInfo := ⟨poolList es last⟩
def fileOf (pool : Array CpInfo) (this : Nat) (attrs : Array Attribute := #[]) (ms : Array MethodInfo := #[]) (fl : Nat := 33) (sup : Nat := 0) (ifs : Array Nat := #[]) (fds : Array FieldInfo := #[]) : ClassFile where
  minorVersion := 0
  majorVersion := 65
  constantPool := pool
  accessFlags := fl
  thisClass := this
  superClass := sup
  interfaces := ifs
  fields := fds
  methods := ms
  attributes := attrs
def plain (name : String) (sup : Option ClassId) : Class where
  name := name
  kind := .ordinary
  loader := none
  accessFlags := 33
  super := sup
  interfaces := #[]
  cf := none
  fields := #[]
  methods := #[]
  instanceTypes := #[]
  staticTypes := #[]
  resolved := #[]
  callSites := []
  init := .initialized
  statics := none
  mirror := none

def pool0 : Array CpInfo := pool [(5, u "<init>"), (0, u "()V"), (1, .class_ 10), (1, u "java/lang/Object")] 113

def k0c0 : Code := { maxStack := 0, maxLocals := 1, code := object_method_1_code, exceptionTable := #[], attributes := #[] }
def k0m0 : Method := { name := "<init>", desc := "()V", sig := { parameters := [], returnType := none }, accessFlags := 1, code := some k0c0 }
/-- java/lang/Object -/
def k0 : Class := { plain "java/lang/Object" none with
  accessFlags := 33
  interfaces := #[]
  cf := some (fileOf pool0 8 #[] #[{ accessFlags := 1, nameIndex := 5, descriptorIndex := 6, attributes := #[] }] 33 0 #[] #[])
  fields := #[]
  methods := #[k0m0]
  instanceTypes := #[]
  staticTypes := #[]
  resolved := Array.replicate 124 none
  statics := none }

def pool1 : Array CpInfo := pool [(2, .class_ 4), (1, u "java/lang/Object"), (0, u "<init>"), (0, u "()V"), (0, .class_ 8), (0, u "com/example/flat_planner/flatplanner/OpenList"), (0, .methodref 7 10), (0, .nameAndType 5 11), (0, u "(Z)V"), (0, .methodref 7 13), (0, .nameAndType 14 15), (0, u "push"), (0, u "(IJJ)V"), (0, .methodref 7 17), (0, .nameAndType 18 19), (0, u "pop"), (0, u "()I"), (0, .methodref 7 21), (0, .nameAndType 22 6), (0, u "clear"), (0, .methodref 7 24), (0, .nameAndType 25 26), (0, u "isEmpty"), (0, u "()Z"), (0, .methodref 7 28), (0, .nameAndType 29 30), (0, u "firstF"), (0, u "()J"), (0, .methodref 7 32), (0, .nameAndType 33 30), (0, u "firstG"), (0, .class_ 35), (0, u "com/example/flat_planner/flatplanner/OpenListClearPinLaw"), (2, u "law"), (0, u "(IJJJJI)Z")] 3

def k1m0 : Method := { name := "<init>", desc := "()V", sig := { parameters := [], returnType := none }, accessFlags := 1, code := none }
def k1c1 : Code := { maxStack := 6, maxLocals := 27, code := code, exceptionTable := #[], attributes := #[] }
def k1m1 : Method := { name := "law", desc := "(IJJJJI)Z", sig := { parameters := [.int, .long, .long, .long, .long, .int], returnType := some .boolean }, accessFlags := 9, code := some k1c1 }
/-- com/example/flat_planner/flatplanner/OpenListClearPinLaw -/
def k1 : Class := { plain "com/example/flat_planner/flatplanner/OpenListClearPinLaw" (some 0) with
  accessFlags := 49
  interfaces := #[]
  cf := some (fileOf pool1 34 #[] #[{ accessFlags := 1, nameIndex := 5, descriptorIndex := 6, attributes := #[] }, { accessFlags := 9, nameIndex := 38, descriptorIndex := 39, attributes := #[] }] 49 2 #[] #[])
  fields := #[]
  methods := #[k1m0, k1m1]
  instanceTypes := #[]
  staticTypes := #[]
  resolved := Array.replicate 43 none
  statics := none }

def pool2 : Array CpInfo := pool [(1, .methodref 2 3), (0, .class_ 4), (0, .nameAndType 5 6), (0, u "java/lang/Object"), (0, u "<init>"), (0, u "()V"), (0, .class_ 8), (0, u "com/example/flat_planner/flatplanner/LongColumn"), (0, .methodref 7 10), (0, .nameAndType 5 11), (0, u "(I)V"), (0, .fieldref 13 14), (0, .class_ 15), (0, .nameAndType 16 17), (0, u "com/example/flat_planner/flatplanner/OpenList"), (0, u "entries"), (0, u "Lcom/example/flat_planner/flatplanner/LongColumn;"), (0, .fieldref 13 19), (0, .nameAndType 20 21), (0, u "freeEntry"), (0, u "I"), (0, .fieldref 13 23), (0, .nameAndType 24 25), (0, u "bucketFs"), (0, u "[J"), (0, .fieldref 13 27), (0, .nameAndType 28 25), (0, u "bucketGs"), (0, .fieldref 13 30), (0, .nameAndType 31 25), (0, u "bucketOrders"), (0, .fieldref 13 33), (0, .nameAndType 34 35), (0, u "bucketHeads"), (0, u "[I"), (0, .fieldref 13 37), (0, .nameAndType 38 35), (0, u "bucketTails"), (0, .fieldref 13 40), (0, .nameAndType 41 21), (0, u "freeBucket"), (0, .fieldref 13 43), (0, .nameAndType 44 35), (0, u "heap"), (0, .fieldref 13 46), (0, .nameAndType 47 35), (0, u "newest"), (0, .fieldref 13 49), (0, .nameAndType 50 51), (0, u "greaterGFirst"), (0, u "Z"), (0, .methodref 53 54), (0, .class_ 55), (0, .nameAndType 56 57), (0, u "java/util/Arrays"), (0, u "fill"), (0, u "([II)V"), (0, .fieldref 13 59), (0, .nameAndType 60 21), (0, u "size"), (0, .methodref 13 62), (0, .nameAndType 63 64), (0, u "newEntry"), (0, u "(I)I"), (0, .methodref 13 66), (0, .nameAndType 67 68), (0, u "slot"), (0, u "(JJ)I"), (0, .methodref 13 70), (0, .nameAndType 71 72), (0, u "setNext"), (0, u "(II)V"), (0, .methodref 13 74), (0, .nameAndType 75 68), (0, u "startBucket"), (0, .methodref 13 77), (0, .nameAndType 78 11), (0, u "heapPush"), (0, .fieldref 13 80), (0, .nameAndType 81 21), (0, u "heapSize"), (0, .fieldref 13 83), (0, .nameAndType 84 21), (0, u "entriesUsed"), (0, .fieldref 13 86), (0, .nameAndType 87 21), (0, u "bucketsUsed"), (0, .fieldref 13 89), (0, .nameAndType 90 91), (0, u "started"), (0, u "J"), (0, .methodref 7 93), (0, .nameAndType 94 95), (0, u "get"), (0, u "(I)J"), (2, .methodref 13 99), (0, .nameAndType 100 64), (0, u "next"), (0, .methodref 13 102), (0, .nameAndType 103 6), (0, u "heapPopFirst"), (0, .methodref 7 105), (0, .nameAndType 106 11), (0, u "reserve"), (0, .methodref 7 108), (0, .nameAndType 109 110), (0, u "set"), (0, u "(IJ)V"), (0, .long 18446744069414584320), (1, .long 4294967295), (11, .long 11400714819323198485), (1, .methodref 13 128), (0, .nameAndType 129 130), (0, u "before"), (0, u "(II)Z"), (0, u "NONE"), (2, u "MULTIPLIER"), (0, u "(Z)V"), (2, u "isEmpty"), (0, u "()Z"), (1, u "push"), (0, u "(IJJ)V"), (0, u "clear"), (0, u "firstF"), (0, u "()J"), (0, u "firstG"), (0, u "pop"), (0, u "()I")] 3

def k2c0 : Code := { maxStack := 4, maxLocals := 2, code := prog_16_method_1_code, exceptionTable := #[], attributes := #[] }
def k2m0 : Method := { name := "<init>", desc := "(Z)V", sig := { parameters := [.boolean], returnType := none }, accessFlags := 0, code := some k2c0 }
def k2c1 : Code := { maxStack := 1, maxLocals := 1, code := prog_16_method_2_code, exceptionTable := #[], attributes := #[] }
def k2m1 : Method := { name := "isEmpty", desc := "()Z", sig := { parameters := [], returnType := some .boolean }, accessFlags := 0, code := some k2c1 }
def k2c2 : Code := { maxStack := 6, maxLocals := 9, code := prog_16_method_3_code, exceptionTable := #[], attributes := #[] }
def k2m2 : Method := { name := "push", desc := "(IJJ)V", sig := { parameters := [.int, .long, .long], returnType := none }, accessFlags := 0, code := some k2c2 }
def k2c3 : Code := { maxStack := 3, maxLocals := 2, code := prog_16_method_4_code, exceptionTable := #[], attributes := #[] }
def k2m3 : Method := { name := "clear", desc := "()V", sig := { parameters := [], returnType := none }, accessFlags := 0, code := some k2c3 }
def k2c4 : Code := { maxStack := 3, maxLocals := 1, code := prog_16_method_5_code, exceptionTable := #[], attributes := #[] }
def k2m4 : Method := { name := "firstF", desc := "()J", sig := { parameters := [], returnType := some .long }, accessFlags := 0, code := some k2c4 }
def k2c5 : Code := { maxStack := 3, maxLocals := 1, code := prog_16_method_6_code, exceptionTable := #[], attributes := #[] }
def k2m5 : Method := { name := "firstG", desc := "()J", sig := { parameters := [], returnType := some .long }, accessFlags := 0, code := some k2c5 }
def k2c6 : Code := { maxStack := 5, maxLocals := 4, code := prog_16_method_7_code, exceptionTable := #[], attributes := #[] }
def k2m6 : Method := { name := "pop", desc := "()I", sig := { parameters := [], returnType := some .int }, accessFlags := 0, code := some k2c6 }
def k2c7 : Code := { maxStack := 5, maxLocals := 3, code := prog_16_method_8_code, exceptionTable := #[], attributes := #[] }
def k2m7 : Method := { name := "newEntry", desc := "(I)I", sig := { parameters := [.int], returnType := some .int }, accessFlags := 2, code := some k2c7 }
def k2c8 : Code := { maxStack := 2, maxLocals := 2, code := prog_16_method_9_code, exceptionTable := #[], attributes := #[] }
def k2m8 : Method := { name := "next", desc := "(I)I", sig := { parameters := [.int], returnType := some .int }, accessFlags := 2, code := some k2c8 }
def k2c9 : Code := { maxStack := 8, maxLocals := 3, code := prog_16_method_10_code, exceptionTable := #[], attributes := #[] }
def k2m9 : Method := { name := "setNext", desc := "(II)V", sig := { parameters := [.int, .int], returnType := none }, accessFlags := 2, code := some k2c9 }
def k2c10 : Code := { maxStack := 9, maxLocals := 6, code := prog_16_method_11_code, exceptionTable := #[], attributes := #[] }
def k2m10 : Method := { name := "startBucket", desc := "(JJ)I", sig := { parameters := [.long, .long], returnType := some .int }, accessFlags := 2, code := some k2c10 }
def k2c11 : Code := { maxStack := 4, maxLocals := 7, code := prog_16_method_13_code, exceptionTable := #[], attributes := #[] }
def k2m11 : Method := { name := "slot", desc := "(JJ)I", sig := { parameters := [.long, .long], returnType := some .int }, accessFlags := 2, code := some k2c11 }
def k2c12 : Code := { maxStack := 5, maxLocals := 3, code := prog_16_method_14_code, exceptionTable := #[], attributes := #[] }
def k2m12 : Method := { name := "heapPush", desc := "(I)V", sig := { parameters := [.int], returnType := none }, accessFlags := 2, code := some k2c12 }
def k2c13 : Code := { maxStack := 4, maxLocals := 6, code := prog_16_method_15_code, exceptionTable := #[], attributes := #[] }
def k2m13 : Method := { name := "heapPopFirst", desc := "()V", sig := { parameters := [], returnType := none }, accessFlags := 2, code := some k2c13 }
def k2c14 : Code := { maxStack := 4, maxLocals := 3, code := prog_16_method_16_code, exceptionTable := #[], attributes := #[] }
def k2m14 : Method := { name := "before", desc := "(II)Z", sig := { parameters := [.int, .int], returnType := some .boolean }, accessFlags := 2, code := some k2c14 }
/-- com/example/flat_planner/flatplanner/OpenList -/
def k2 : Class := { plain "com/example/flat_planner/flatplanner/OpenList" (some 0) with
  accessFlags := 48
  interfaces := #[]
  cf := some (fileOf pool2 13 #[] #[{ accessFlags := 0, nameIndex := 5, descriptorIndex := 135, attributes := #[] }, { accessFlags := 0, nameIndex := 138, descriptorIndex := 139, attributes := #[] }, { accessFlags := 0, nameIndex := 141, descriptorIndex := 142, attributes := #[] }, { accessFlags := 0, nameIndex := 143, descriptorIndex := 6, attributes := #[] }, { accessFlags := 0, nameIndex := 144, descriptorIndex := 145, attributes := #[] }, { accessFlags := 0, nameIndex := 146, descriptorIndex := 145, attributes := #[] }, { accessFlags := 0, nameIndex := 147, descriptorIndex := 148, attributes := #[] }, { accessFlags := 2, nameIndex := 63, descriptorIndex := 64, attributes := #[] }, { accessFlags := 2, nameIndex := 100, descriptorIndex := 64, attributes := #[] }, { accessFlags := 2, nameIndex := 71, descriptorIndex := 72, attributes := #[] }, { accessFlags := 2, nameIndex := 75, descriptorIndex := 68, attributes := #[] }, { accessFlags := 2, nameIndex := 67, descriptorIndex := 68, attributes := #[] }, { accessFlags := 2, nameIndex := 78, descriptorIndex := 11, attributes := #[] }, { accessFlags := 2, nameIndex := 103, descriptorIndex := 6, attributes := #[] }, { accessFlags := 2, nameIndex := 129, descriptorIndex := 130, attributes := #[] }] 48 2 #[] #[{ accessFlags := 26, nameIndex := 131, descriptorIndex := 21, attributes := #[] }, { accessFlags := 26, nameIndex := 134, descriptorIndex := 91, attributes := #[] }, { accessFlags := 18, nameIndex := 50, descriptorIndex := 51, attributes := #[] }, { accessFlags := 18, nameIndex := 16, descriptorIndex := 17, attributes := #[] }, { accessFlags := 2, nameIndex := 20, descriptorIndex := 21, attributes := #[] }, { accessFlags := 2, nameIndex := 84, descriptorIndex := 21, attributes := #[] }, { accessFlags := 2, nameIndex := 60, descriptorIndex := 21, attributes := #[] }, { accessFlags := 2, nameIndex := 24, descriptorIndex := 25, attributes := #[] }, { accessFlags := 2, nameIndex := 28, descriptorIndex := 25, attributes := #[] }, { accessFlags := 2, nameIndex := 31, descriptorIndex := 25, attributes := #[] }, { accessFlags := 2, nameIndex := 34, descriptorIndex := 35, attributes := #[] }, { accessFlags := 2, nameIndex := 38, descriptorIndex := 35, attributes := #[] }, { accessFlags := 2, nameIndex := 41, descriptorIndex := 21, attributes := #[] }, { accessFlags := 2, nameIndex := 87, descriptorIndex := 21, attributes := #[] }, { accessFlags := 2, nameIndex := 90, descriptorIndex := 91, attributes := #[] }, { accessFlags := 2, nameIndex := 44, descriptorIndex := 35, attributes := #[] }, { accessFlags := 2, nameIndex := 81, descriptorIndex := 21, attributes := #[] }, { accessFlags := 2, nameIndex := 47, descriptorIndex := 35, attributes := #[] }])
  fields := #[{ name := "NONE", type := .int, accessFlags := 26, slot := 0, constantValue := 0 }, { name := "MULTIPLIER", type := .long, accessFlags := 26, slot := 1, constantValue := 0 }, { name := "greaterGFirst", type := .boolean, accessFlags := 18, slot := 0, constantValue := 0 }, { name := "entries", type := (.object "com/example/flat_planner/flatplanner/LongColumn"), accessFlags := 18, slot := 1, constantValue := 0 }, { name := "freeEntry", type := .int, accessFlags := 2, slot := 2, constantValue := 0 }, { name := "entriesUsed", type := .int, accessFlags := 2, slot := 3, constantValue := 0 }, { name := "size", type := .int, accessFlags := 2, slot := 4, constantValue := 0 }, { name := "bucketFs", type := (.array .long), accessFlags := 2, slot := 5, constantValue := 0 }, { name := "bucketGs", type := (.array .long), accessFlags := 2, slot := 6, constantValue := 0 }, { name := "bucketOrders", type := (.array .long), accessFlags := 2, slot := 7, constantValue := 0 }, { name := "bucketHeads", type := (.array .int), accessFlags := 2, slot := 8, constantValue := 0 }, { name := "bucketTails", type := (.array .int), accessFlags := 2, slot := 9, constantValue := 0 }, { name := "freeBucket", type := .int, accessFlags := 2, slot := 10, constantValue := 0 }, { name := "bucketsUsed", type := .int, accessFlags := 2, slot := 11, constantValue := 0 }, { name := "started", type := .long, accessFlags := 2, slot := 12, constantValue := 0 }, { name := "heap", type := (.array .int), accessFlags := 2, slot := 13, constantValue := 0 }, { name := "heapSize", type := .int, accessFlags := 2, slot := 14, constantValue := 0 }, { name := "newest", type := (.array .int), accessFlags := 2, slot := 15, constantValue := 0 }]
  methods := #[k2m0, k2m1, k2m2, k2m3, k2m4, k2m5, k2m6, k2m7, k2m8, k2m9, k2m10, k2m11, k2m12, k2m13, k2m14]
  instanceTypes := #[.boolean, (.object "com/example/flat_planner/flatplanner/LongColumn"), .int, .int, .int, (.array .long), (.array .long), (.array .long), (.array .int), (.array .int), .int, .int, .long, (.array .int), .int, (.array .int)]
  staticTypes := #[.int, .long]
  resolved := Array.replicate 152 none
  statics := none }

def pool3 : Array CpInfo := pool [(1, .methodref 2 3), (0, .class_ 4), (0, .nameAndType 5 6), (0, u "java/lang/Object"), (0, u "<init>"), (0, u "()V"), (0, .class_ 8), (0, u "[J"), (0, .fieldref 10 11), (0, .class_ 12), (0, .nameAndType 13 14), (0, u "com/example/flat_planner/flatplanner/LongColumn"), (0, u "chunks"), (0, u "[[J"), (0, .fieldref 10 16), (0, .nameAndType 17 18), (0, u "width"), (0, u "I"), (0, .integer 65536), (0, .methodref 21 22), (0, .class_ 23), (0, .nameAndType 24 25), (0, u "java/lang/Integer"), (0, u "numberOfLeadingZeros"), (0, u "(I)I"), (0, .methodref 27 28), (0, .class_ 29), (0, .nameAndType 30 31), (0, u "java/lang/Math"), (0, u "max"), (0, u "(II)I"), (0, .fieldref 10 33), (0, .nameAndType 34 18), (0, u "shift"), (0, .methodref 27 36), (0, .nameAndType 37 31), (0, u "min"), (0, .fieldref 10 39), (0, .nameAndType 40 18), (0, u "capacity"), (10, .methodref 10 52), (0, .nameAndType 53 54), (0, u "chunk"), (0, u "(I)[J"), (0, .methodref 10 56), (0, .nameAndType 57 25), (0, u "offset"), (0, u "CHUNK_LONGS"), (1, u "FIRST_ENTRIES"), (1, u "(I)V"), (3, u "reserve"), (0, u "get"), (0, u "(I)J"), (0, u "set"), (0, u "(IJ)V")] 2

def k3c0 : Code := { maxStack := 5, maxLocals := 2, code := prog_14_method_1_code, exceptionTable := #[], attributes := #[] }
def k3m0 : Method := { name := "<init>", desc := "(I)V", sig := { parameters := [.int], returnType := none }, accessFlags := 0, code := some k3c0 }
def k3c1 : Code := { maxStack := 6, maxLocals := 4, code := prog_14_method_2_code, exceptionTable := #[], attributes := #[] }
def k3m1 : Method := { name := "reserve", desc := "(I)V", sig := { parameters := [.int], returnType := none }, accessFlags := 0, code := some k3c1 }
def k3c2 : Code := { maxStack := 3, maxLocals := 2, code := prog_14_method_3_code, exceptionTable := #[], attributes := #[] }
def k3m2 : Method := { name := "chunk", desc := "(I)[J", sig := { parameters := [.int], returnType := some (.array .long) }, accessFlags := 0, code := some k3c2 }
def k3c3 : Code := { maxStack := 3, maxLocals := 2, code := prog_14_method_4_code, exceptionTable := #[], attributes := #[] }
def k3m3 : Method := { name := "offset", desc := "(I)I", sig := { parameters := [.int], returnType := some .int }, accessFlags := 0, code := some k3c3 }
def k3c4 : Code := { maxStack := 3, maxLocals := 2, code := prog_14_method_5_code, exceptionTable := #[], attributes := #[] }
def k3m4 : Method := { name := "get", desc := "(I)J", sig := { parameters := [.int], returnType := some .long }, accessFlags := 0, code := some k3c4 }
def k3c5 : Code := { maxStack := 4, maxLocals := 4, code := prog_14_method_6_code, exceptionTable := #[], attributes := #[] }
def k3m5 : Method := { name := "set", desc := "(IJ)V", sig := { parameters := [.int, .long], returnType := none }, accessFlags := 0, code := some k3c5 }
/-- com/example/flat_planner/flatplanner/LongColumn -/
def k3 : Class := { plain "com/example/flat_planner/flatplanner/LongColumn" (some 0) with
  accessFlags := 48
  interfaces := #[]
  cf := some (fileOf pool3 10 #[] #[{ accessFlags := 0, nameIndex := 5, descriptorIndex := 62, attributes := #[] }, { accessFlags := 0, nameIndex := 66, descriptorIndex := 62, attributes := #[] }, { accessFlags := 0, nameIndex := 53, descriptorIndex := 54, attributes := #[] }, { accessFlags := 0, nameIndex := 57, descriptorIndex := 25, attributes := #[] }, { accessFlags := 0, nameIndex := 67, descriptorIndex := 68, attributes := #[] }, { accessFlags := 0, nameIndex := 69, descriptorIndex := 70, attributes := #[] }] 48 2 #[] #[{ accessFlags := 26, nameIndex := 58, descriptorIndex := 18, attributes := #[] }, { accessFlags := 26, nameIndex := 60, descriptorIndex := 18, attributes := #[] }, { accessFlags := 18, nameIndex := 17, descriptorIndex := 18, attributes := #[] }, { accessFlags := 18, nameIndex := 34, descriptorIndex := 18, attributes := #[] }, { accessFlags := 2, nameIndex := 13, descriptorIndex := 14, attributes := #[] }, { accessFlags := 2, nameIndex := 40, descriptorIndex := 18, attributes := #[] }])
  fields := #[{ name := "CHUNK_LONGS", type := .int, accessFlags := 26, slot := 0, constantValue := 0 }, { name := "FIRST_ENTRIES", type := .int, accessFlags := 26, slot := 1, constantValue := 0 }, { name := "width", type := .int, accessFlags := 18, slot := 0, constantValue := 0 }, { name := "shift", type := .int, accessFlags := 18, slot := 1, constantValue := 0 }, { name := "chunks", type := (.array (.array .long)), accessFlags := 2, slot := 2, constantValue := 0 }, { name := "capacity", type := .int, accessFlags := 2, slot := 3, constantValue := 0 }]
  methods := #[k3m0, k3m1, k3m2, k3m3, k3m4, k3m5]
  instanceTypes := #[.int, .int, (.array (.array .long)), .int]
  staticTypes := #[.int, .int]
  resolved := Array.replicate 73 none
  statics := none }

def pool4 : Array CpInfo := pool [(1, .class_ 2), (0, u "java/io/Serializable"), (0, .class_ 4), (0, u "java/lang/Object")] 2

/-- java/io/Serializable -/
def k4 : Class := { plain "java/io/Serializable" (some 0) with
  accessFlags := 1537
  interfaces := #[]
  cf := some (fileOf pool4 1 #[] #[] 1537 3 #[] #[])
  fields := #[]
  methods := #[]
  instanceTypes := #[]
  staticTypes := #[]
  resolved := Array.replicate 7 none
  statics := none }

def pool5 : Array CpInfo := pool [(2, .class_ 4), (1, u "java/lang/Object"), (0, u "<init>"), (0, u "()V"), (1, .class_ 10), (1, u "java/lang/Number"), (2, .class_ 14), (0, u "java/io/Serializable"), (0, u "serialVersionUID"), (0, u "J")] 20

def k5m0 : Method := { name := "<init>", desc := "()V", sig := { parameters := [], returnType := none }, accessFlags := 1, code := none }
/-- java/lang/Number -/
def k5 : Class := { plain "java/lang/Number" (some 0) with
  accessFlags := 1057
  interfaces := #[4]
  cf := some (fileOf pool5 8 #[] #[{ accessFlags := 1, nameIndex := 5, descriptorIndex := 6, attributes := #[] }] 1057 2 #[13] #[{ accessFlags := 26, nameIndex := 15, descriptorIndex := 16, attributes := #[] }])
  fields := #[{ name := "serialVersionUID", type := .long, accessFlags := 26, slot := 0, constantValue := 0 }]
  methods := #[k5m0]
  instanceTypes := #[]
  staticTypes := #[.long]
  resolved := Array.replicate 37 none
  statics := none }

def pool6 : Array CpInfo := pool [(1, .class_ 2), (0, u "java/lang/Comparable"), (0, .class_ 4), (0, u "java/lang/Object")] 7

/-- java/lang/Comparable -/
def k6 : Class := { plain "java/lang/Comparable" (some 0) with
  accessFlags := 1537
  interfaces := #[]
  cf := some (fileOf pool6 1 #[] #[] 1537 3 #[] #[])
  fields := #[]
  methods := #[]
  instanceTypes := #[]
  staticTypes := #[]
  resolved := Array.replicate 12 none
  statics := none }

def pool7 : Array CpInfo := pool [(1, .class_ 2), (0, u "java/lang/constant/Constable"), (0, .class_ 4), (0, u "java/lang/Object")] 6

/-- java/lang/constant/Constable -/
def k7 : Class := { plain "java/lang/constant/Constable" (some 0) with
  accessFlags := 1537
  interfaces := #[]
  cf := some (fileOf pool7 1 #[] #[] 1537 3 #[] #[])
  fields := #[]
  methods := #[]
  instanceTypes := #[]
  staticTypes := #[]
  resolved := Array.replicate 11 none
  statics := none }

def pool8 : Array CpInfo := pool [(1, .class_ 2), (0, u "java/lang/constant/ConstantDesc"), (0, .class_ 4), (0, u "java/lang/Object")] 32

/-- java/lang/constant/ConstantDesc -/
def k8 : Class := { plain "java/lang/constant/ConstantDesc" (some 0) with
  accessFlags := 1537
  interfaces := #[]
  cf := some (fileOf pool8 1 #[] #[] 1537 3 #[] #[])
  fields := #[]
  methods := #[]
  instanceTypes := #[]
  staticTypes := #[]
  resolved := Array.replicate 37 none
  statics := none }

def pool9 : Array CpInfo := pool [(1, .class_ 2), (0, u "java/lang/Integer"), (16, u "digits"), (0, u "[C"), (32, u "numberOfLeadingZeros"), (0, u "(I)I"), (30, u "DigitOnes"), (0, u "[B"), (2, u "DigitTens"), (99, .class_ 190), (0, u "java/lang/Integer$IntegerCache"), (3, u "I"), (8, .class_ 204), (0, u "java/lang/Number"), (2, u "value"), (56, .integer 65536), (37, u "TYPE"), (0, u "Ljava/lang/Class;"), (0, .class_ 305), (0, u "java/lang/Comparable"), (0, .class_ 307), (0, u "java/lang/constant/Constable"), (0, .class_ 309), (0, u "java/lang/constant/ConstantDesc"), (0, u "MIN_VALUE"), (1, u "MAX_VALUE"), (3, u "SIZE"), (1, u "BYTES"), (1, u "serialVersionUID"), (0, u "J")] 131

def k9c0 : Code := { maxStack := 3, maxLocals := 2, code := jdk_33_method_47_code, exceptionTable := #[], attributes := #[] }
def k9m0 : Method := { name := "numberOfLeadingZeros", desc := "(I)I", sig := { parameters := [.int], returnType := some .int }, accessFlags := 9, code := some k9c0 }
/-- java/lang/Integer -/
def k9 : Class := { plain "java/lang/Integer" (some 5) with
  accessFlags := 49
  interfaces := #[6, 7, 8]
  cf := some (fileOf pool9 1 #[.nestMembers #[189]] #[{ accessFlags := 9, nameIndex := 53, descriptorIndex := 54, attributes := #[] }] 49 203 #[304, 306, 308] #[{ accessFlags := 25, nameIndex := 310, descriptorIndex := 194, attributes := #[] }, { accessFlags := 25, nameIndex := 312, descriptorIndex := 194, attributes := #[] }, { accessFlags := 25, nameIndex := 302, descriptorIndex := 303, attributes := #[] }, { accessFlags := 24, nameIndex := 19, descriptorIndex := 20, attributes := #[] }, { accessFlags := 24, nameIndex := 89, descriptorIndex := 86, attributes := #[] }, { accessFlags := 24, nameIndex := 85, descriptorIndex := 86, attributes := #[] }, { accessFlags := 18, nameIndex := 207, descriptorIndex := 194, attributes := #[] }, { accessFlags := 25, nameIndex := 316, descriptorIndex := 194, attributes := #[] }, { accessFlags := 25, nameIndex := 318, descriptorIndex := 194, attributes := #[] }, { accessFlags := 26, nameIndex := 320, descriptorIndex := 321, attributes := #[] }])
  fields := #[{ name := "MIN_VALUE", type := .int, accessFlags := 25, slot := 0, constantValue := 0 }, { name := "MAX_VALUE", type := .int, accessFlags := 25, slot := 1, constantValue := 0 }, { name := "TYPE", type := (.object "java/lang/Class"), accessFlags := 25, slot := 2, constantValue := 0 }, { name := "digits", type := (.array .char), accessFlags := 24, slot := 3, constantValue := 0 }, { name := "DigitTens", type := (.array .byte), accessFlags := 24, slot := 4, constantValue := 0 }, { name := "DigitOnes", type := (.array .byte), accessFlags := 24, slot := 5, constantValue := 0 }, { name := "value", type := .int, accessFlags := 18, slot := 0, constantValue := 0 }, { name := "SIZE", type := .int, accessFlags := 25, slot := 6, constantValue := 0 }, { name := "BYTES", type := .int, accessFlags := 25, slot := 7, constantValue := 0 }, { name := "serialVersionUID", type := .long, accessFlags := 26, slot := 8, constantValue := 0 }]
  methods := #[k9m0]
  instanceTypes := #[.int]
  staticTypes := #[.int, .int, (.object "java/lang/Class"), (.array .char), (.array .byte), (.array .byte), .int, .int, .long]
  resolved := Array.replicate 453 none
  statics := none }

def pool10 : Array CpInfo := pool [(1, .class_ 2), (0, u "java/lang/Math"), (1, .class_ 6), (1, u "java/lang/Object"), (0, u "<init>"), (0, u "()V"), (89, .class_ 100), (1, u "java/lang/Math$RandomNumberGeneratorHolder"), (71, u "negativeZeroFloatBits"), (0, u "J"), (2, u "negativeZeroDoubleBits"), (21, u "max"), (2, u "min"), (43, u "$assertionsDisabled"), (0, u "Z"), (88, u "(II)I"), (2, u "twoToTheDoubleScaleDown"), (0, u "D"), (4, u "twoToTheDoubleScaleUp"), (9, u "E"), (3, u "PI"), (2, u "TAU"), (2, u "DEGREES_TO_RADIANS"), (0, u "RADIANS_TO_DEGREES")] 94

def k10m0 : Method := { name := "<init>", desc := "()V", sig := { parameters := [], returnType := none }, accessFlags := 2, code := none }
def k10c1 : Code := { maxStack := 2, maxLocals := 2, code := jdk_29_method_65_code, exceptionTable := #[], attributes := #[] }
def k10m1 : Method := { name := "max", desc := "(II)I", sig := { parameters := [.int, .int], returnType := some .int }, accessFlags := 9, code := some k10c1 }
def k10c2 : Code := { maxStack := 2, maxLocals := 2, code := jdk_29_method_69_code, exceptionTable := #[], attributes := #[] }
def k10m2 : Method := { name := "min", desc := "(II)I", sig := { parameters := [.int, .int], returnType := some .int }, accessFlags := 9, code := some k10c2 }
/-- java/lang/Math -/
def k10 : Class := { plain "java/lang/Math" (some 0) with
  accessFlags := 49
  interfaces := #[]
  cf := some (fileOf pool10 1 #[.nestMembers #[98]] #[{ accessFlags := 2, nameIndex := 7, descriptorIndex := 8, attributes := #[] }, { accessFlags := 9, nameIndex := 198, descriptorIndex := 335, attributes := #[] }, { accessFlags := 9, nameIndex := 201, descriptorIndex := 335, attributes := #[] }] 49 4 #[] #[{ accessFlags := 25, nameIndex := 354, descriptorIndex := 339, attributes := #[] }, { accessFlags := 25, nameIndex := 358, descriptorIndex := 339, attributes := #[] }, { accessFlags := 25, nameIndex := 361, descriptorIndex := 339, attributes := #[] }, { accessFlags := 26, nameIndex := 364, descriptorIndex := 339, attributes := #[] }, { accessFlags := 26, nameIndex := 365, descriptorIndex := 339, attributes := #[] }, { accessFlags := 26, nameIndex := 172, descriptorIndex := 173, attributes := #[] }, { accessFlags := 26, nameIndex := 176, descriptorIndex := 173, attributes := #[] }, { accessFlags := 8, nameIndex := 344, descriptorIndex := 339, attributes := #[] }, { accessFlags := 8, nameIndex := 338, descriptorIndex := 339, attributes := #[] }, { accessFlags := 4120, nameIndex := 245, descriptorIndex := 246, attributes := #[] }])
  fields := #[{ name := "E", type := .double, accessFlags := 25, slot := 0, constantValue := 0 }, { name := "PI", type := .double, accessFlags := 25, slot := 1, constantValue := 0 }, { name := "TAU", type := .double, accessFlags := 25, slot := 2, constantValue := 0 }, { name := "DEGREES_TO_RADIANS", type := .double, accessFlags := 26, slot := 3, constantValue := 0 }, { name := "RADIANS_TO_DEGREES", type := .double, accessFlags := 26, slot := 4, constantValue := 0 }, { name := "negativeZeroFloatBits", type := .long, accessFlags := 26, slot := 5, constantValue := 0 }, { name := "negativeZeroDoubleBits", type := .long, accessFlags := 26, slot := 6, constantValue := 0 }, { name := "twoToTheDoubleScaleUp", type := .double, accessFlags := 8, slot := 7, constantValue := 0 }, { name := "twoToTheDoubleScaleDown", type := .double, accessFlags := 8, slot := 8, constantValue := 0 }, { name := "$assertionsDisabled", type := .boolean, accessFlags := 4120, slot := 9, constantValue := 0 }]
  methods := #[k10m0, k10m1, k10m2]
  instanceTypes := #[]
  staticTypes := #[.double, .double, .double, .double, .double, .long, .long, .double, .double, .boolean]
  resolved := Array.replicate 460 none
  statics := none }

def pool11 : Array CpInfo := pool [(2, .class_ 4), (1, u "java/lang/Object"), (0, u "<init>"), (0, u "()V"), (7, .class_ 16), (1, u "java/util/Arrays"), (57, .class_ 76), (1, u "java/util/Arrays$NaturalOrder"), (36, .class_ 115), (1, u "java/util/Arrays$LegacyMergeSort"), (1, u "Z"), (257, .class_ 376), (0, u "java/util/Arrays$ArrayList"), (68, u "$assertionsDisabled"), (269, u "MIN_ARRAY_SORT_GRAN"), (0, u "I"), (2, u "INSERTIONSORT_THRESHOLD"), (120, u "fill"), (4, u "([II)V"), (129, .class_ 976), (0, u "java/util/Arrays$ArrayItr")] 52

def k11m0 : Method := { name := "<init>", desc := "()V", sig := { parameters := [], returnType := none }, accessFlags := 2, code := none }
def k11c1 : Code := { maxStack := 3, maxLocals := 4, code := jdk_65_method_103_code, exceptionTable := #[], attributes := #[] }
def k11m1 : Method := { name := "fill", desc := "([II)V", sig := { parameters := [(.array .int), .int], returnType := none }, accessFlags := 9, code := some k11c1 }
/-- java/util/Arrays -/
def k11 : Class := { plain "java/util/Arrays" (some 0) with
  accessFlags := 49
  interfaces := #[]
  cf := some (fileOf pool11 14 #[.nestMembers #[975, 375, 113, 74]] #[{ accessFlags := 2, nameIndex := 5, descriptorIndex := 6, attributes := #[] }, { accessFlags := 9, nameIndex := 840, descriptorIndex := 845, attributes := #[] }] 49 2 #[] #[{ accessFlags := 26, nameIndex := 715, descriptorIndex := 716, attributes := #[] }, { accessFlags := 26, nameIndex := 719, descriptorIndex := 716, attributes := #[] }, { accessFlags := 4120, nameIndex := 445, descriptorIndex := 117, attributes := #[] }])
  fields := #[{ name := "MIN_ARRAY_SORT_GRAN", type := .int, accessFlags := 26, slot := 0, constantValue := 0 }, { name := "INSERTIONSORT_THRESHOLD", type := .int, accessFlags := 26, slot := 1, constantValue := 0 }, { name := "$assertionsDisabled", type := .boolean, accessFlags := 4120, slot := 2, constantValue := 0 }]
  methods := #[k11m0, k11m1]
  instanceTypes := #[]
  staticTypes := #[.int, .int, .boolean]
  resolved := Array.replicate 1029 none
  statics := none }

def pool12 : Array CpInfo := pool [(1, u "java/lang/Cloneable"), (0, .class_ 1), (0, u "java/lang/Object"), (0, .class_ 3)] 3

/-- java/lang/Cloneable -/
def k12 : Class := { plain "java/lang/Cloneable" (some 0) with
  accessFlags := 1537
  interfaces := #[]
  cf := some (fileOf pool12 2 #[] #[] 1537 4 #[] #[])
  fields := #[]
  methods := #[]
  instanceTypes := #[]
  staticTypes := #[]
  resolved := Array.replicate 8 none
  statics := none }

/-- the primitive byte -/
def k13 : Class := { plain "byte" none with kind := .primitive 'B', accessFlags := 0x411 }
/-- [B -/
def k14 : Class := { plain "[B" (some 0) with kind := .array 13 .byte, interfaces := #[12, 4], accessFlags := 1041 }

/-- the primitive int -/
def k15 : Class := { plain "int" none with kind := .primitive 'I', accessFlags := 0x411 }
/-- [I -/
def k16 : Class := { plain "[I" (some 0) with kind := .array 15 .int, interfaces := #[12, 4], accessFlags := 1041 }

/-- the primitive long -/
def k17 : Class := { plain "long" none with kind := .primitive 'J', accessFlags := 0x411 }
/-- [J -/
def k18 : Class := { plain "[J" (some 0) with kind := .array 17 .long, interfaces := #[12, 4], accessFlags := 1041 }

def heap : Heap := #[]
/-- arrays of long arrays -/
def k19 : Class := { plain "[[J" (some 0) with kind := .array 18 (.array .long), interfaces := #[12, 4], accessFlags := 1041 }
def classes : Array Class := #[k0, k1, k2, k3, k4, k5, k6, k7, k8, k9, k10, k11, k12, k13, k14, k15, k16, k17, k18, k19]
def interned : List (Array UInt16 × Addr) := []
def slotsUsed : Nat := 0
def theMethod : MethodId := ⟨1, 1⟩
def args0 : Array Value := #[.int 5, .long 7, .long 9, .long 3, .long 4, .int 2]
def aboutOver (below : List Frame) : State where
  vm := { classes := classes, interned := interned.toArray }
  heap := heap
  slotsUsed := slotsUsed
  threads := #[{ frames := .invoking theMethod args0 :: below }]
def below0 : List Frame := [.native { method := ⟨0, 0⟩, args := #[] }]
def about1 : State := aboutOver below0
def p0 : Program := .bare "" "" ""
def e0 : Env := launch0.env 0 0 0
theorem w_frames : about1.frames = Frame.invoking theMethod args0 :: below0 := rfl
set_option maxRecDepth 65536 in
theorem w_args : argsFit about1.vm theMethod args0 = true := by decide +kernel
set_option maxRecDepth 65536 in
theorem w_heap : heapFits about1 = true := by decide +kernel
set_option maxRecDepth 65536 in
theorem w_runnable : about1.curStatus? = some .runnable := by decide +kernel
set_option maxRecDepth 65536 in
theorem w_alone : about1.alone = true := by decide +kernel
set_option maxRecDepth 65536 in
theorem w_named : about1.methodNamed? x = some theMethod := by decide +kernel
set_option maxRecDepth 65536 in
theorem w_hears : about1.hears theMethod below0 = true := by decide +kernel
set_option maxRecDepth 65536 in
theorem w_ripe : about1.ripe theMethod args0 below0 = true := by decide +kernel
theorem w_running : about1.status = .running := rfl
set_option maxRecDepth 65536 in
theorem w_room : about1.hasRoom e0.platform room_1 = true :=
  launch0.hasRoom_least _ room_1 (by decide +kernel) (by decide +kernel) (by decide +kernel) (by decide +kernel) (by decide +kernel) (by decide +kernel)
theorem allAtoms_all (ts : List Jvm.Cond) (a : Array Jvm.Value) (st : Jvm.State) : (allAtoms ts).before a st = ts.all (fun c => c.before a st) := by
  induction ts with
  | nil => rfl
  | cons c t ih =>
    show (Jvm.Cond.and c (allAtoms t)).before a st = _
    rw [Jvm.Cond.before_and, ih, List.all_cons]
def words1 : List Jvm.Cond := Jvm.Cond.code x code maxLocals ret :: tables_1
/-- a 'code' word, met by the world's own term for the bytes: nothing is compared byte by byte -/
theorem code_word {y : MethodName} {bytes : ByteArray} {mx : Nat} {rt : Option FieldType} {a : Array Value} {s : State} {m : MethodId} {meth : Method} {c : Code} (h1 : s.methodNamed? y = some m) (h2 : s.vm.method? m = some meth) (h3 : meth.code = some c) (h4 : c.code = bytes)
    (h5 : (c.maxLocals == mx && c.exceptionTable.isEmpty && decide (c.maxStack ≤ mostOperands) && decide (meth.sig.returnType = rt) && !meth.locks && decide (parseMethodDescriptor y.desc = some meth.sig)) = true) : (Jvm.Cond.code y bytes mx rt).before a s = true := by
  simp only [Bool.and_eq_true, beq_iff_eq, Bool.not_eq_true', decide_eq_true_eq] at h5
  obtain ⟨⟨⟨⟨⟨g1, g2⟩, g3⟩, g4⟩, g5⟩, g6⟩ := h5
  simp [Cond.before, Cond.holds, Cond.value, h1, h2, h3, h4, g1, g2, g3, g4, g5, g6]
def isCode : Jvm.Cond → Bool
  | .code _ _ _ _ => true
  | _ => false
theorem all_split {L : List Jvm.Cond} {P : Jvm.Cond → Bool} (h1 : L.all (fun c => isCode c || P c) = true) (h2 : ∀ c ∈ L.filter isCode, P c = true) : L.all P = true := by
  refine List.all_eq_true.mpr fun c hc => ?_
  have h := List.all_eq_true.mp h1 c hc
  rcases Bool.eq_false_or_eq_true (isCode c) with hi | hi
  · exact h2 c (List.mem_filter.mpr ⟨hc, hi⟩)
  · simpa [hi] using h
set_option maxRecDepth 65536 in
theorem w_c0 : (Jvm.Cond.code x code maxLocals ret).before args0 about1 = true := code_word (m := ⟨1, 1⟩) (meth := k1m1) (c := k1c1) (by decide +kernel) rfl rfl rfl (by decide +kernel)
set_option maxRecDepth 65536 in
theorem w_c1 : (Jvm.Cond.code ({ cls := "com/example/flat_planner/flatplanner/OpenList", name := "<init>", desc := "(Z)V" } : Jvm.MethodName) prog_16_method_1_code (2 : Nat) (Option.none : Option Jvm.ClassFile.FieldType)).before args0 about1 = true := code_word (m := ⟨2, 0⟩) (meth := k2m0) (c := k2c0) (by decide +kernel) rfl rfl rfl (by decide +kernel)
set_option maxRecDepth 65536 in
theorem w_c2 : (Jvm.Cond.code ({ cls := "java/lang/Object", name := "<init>", desc := "()V" } : Jvm.MethodName) object_method_1_code (1 : Nat) (Option.none : Option Jvm.ClassFile.FieldType)).before args0 about1 = true := code_word (m := ⟨0, 0⟩) (meth := k0m0) (c := k0c0) (by decide +kernel) rfl rfl rfl (by decide +kernel)
set_option maxRecDepth 65536 in
theorem w_c3 : (Jvm.Cond.code ({ cls := "com/example/flat_planner/flatplanner/LongColumn", name := "<init>", desc := "(I)V" } : Jvm.MethodName) prog_14_method_1_code (2 : Nat) (Option.none : Option Jvm.ClassFile.FieldType)).before args0 about1 = true := code_word (m := ⟨3, 0⟩) (meth := k3m0) (c := k3c0) (by decide +kernel) rfl rfl rfl (by decide +kernel)
set_option maxRecDepth 65536 in
theorem w_c4 : (Jvm.Cond.code ({ cls := "java/lang/Integer", name := "numberOfLeadingZeros", desc := "(I)I" } : Jvm.MethodName) jdk_33_method_47_code (2 : Nat) (Option.some Jvm.ClassFile.FieldType.int)).before args0 about1 = true := code_word (m := ⟨9, 0⟩) (meth := k9m0) (c := k9c0) (by decide +kernel) rfl rfl rfl (by decide +kernel)
set_option maxRecDepth 65536 in
theorem w_c5 : (Jvm.Cond.code ({ cls := "java/lang/Math", name := "max", desc := "(II)I" } : Jvm.MethodName) jdk_29_method_65_code (2 : Nat) (Option.some Jvm.ClassFile.FieldType.int)).before args0 about1 = true := code_word (m := ⟨10, 1⟩) (meth := k10m1) (c := k10c1) (by decide +kernel) rfl rfl rfl (by decide +kernel)
set_option maxRecDepth 65536 in
theorem w_c6 : (Jvm.Cond.code ({ cls := "java/lang/Math", name := "min", desc := "(II)I" } : Jvm.MethodName) jdk_29_method_69_code (2 : Nat) (Option.some Jvm.ClassFile.FieldType.int)).before args0 about1 = true := code_word (m := ⟨10, 2⟩) (meth := k10m2) (c := k10c2) (by decide +kernel) rfl rfl rfl (by decide +kernel)
set_option maxRecDepth 65536 in
theorem w_c7 : (Jvm.Cond.code ({ cls := "java/util/Arrays", name := "fill", desc := "([II)V" } : Jvm.MethodName) jdk_65_method_103_code (4 : Nat) (Option.none : Option Jvm.ClassFile.FieldType)).before args0 about1 = true := code_word (m := ⟨11, 1⟩) (meth := k11m1) (c := k11c1) (by decide +kernel) rfl rfl rfl (by decide +kernel)
set_option maxRecDepth 65536 in
theorem w_c8 : (Jvm.Cond.code ({ cls := "com/example/flat_planner/flatplanner/OpenList", name := "push", desc := "(IJJ)V" } : Jvm.MethodName) prog_16_method_3_code (9 : Nat) (Option.none : Option Jvm.ClassFile.FieldType)).before args0 about1 = true := code_word (m := ⟨2, 2⟩) (meth := k2m2) (c := k2c2) (by decide +kernel) rfl rfl rfl (by decide +kernel)
set_option maxRecDepth 65536 in
theorem w_c9 : (Jvm.Cond.code ({ cls := "com/example/flat_planner/flatplanner/OpenList", name := "newEntry", desc := "(I)I" } : Jvm.MethodName) prog_16_method_8_code (3 : Nat) (Option.some Jvm.ClassFile.FieldType.int)).before args0 about1 = true := code_word (m := ⟨2, 7⟩) (meth := k2m7) (c := k2c7) (by decide +kernel) rfl rfl rfl (by decide +kernel)
set_option maxRecDepth 65536 in
theorem w_c10 : (Jvm.Cond.code ({ cls := "com/example/flat_planner/flatplanner/LongColumn", name := "reserve", desc := "(I)V" } : Jvm.MethodName) prog_14_method_2_code (4 : Nat) (Option.none : Option Jvm.ClassFile.FieldType)).before args0 about1 = true := code_word (m := ⟨3, 1⟩) (meth := k3m1) (c := k3c1) (by decide +kernel) rfl rfl rfl (by decide +kernel)
set_option maxRecDepth 65536 in
theorem w_c11 : (Jvm.Cond.code ({ cls := "com/example/flat_planner/flatplanner/LongColumn", name := "set", desc := "(IJ)V" } : Jvm.MethodName) prog_14_method_6_code (4 : Nat) (Option.none : Option Jvm.ClassFile.FieldType)).before args0 about1 = true := code_word (m := ⟨3, 5⟩) (meth := k3m5) (c := k3c5) (by decide +kernel) rfl rfl rfl (by decide +kernel)
set_option maxRecDepth 65536 in
theorem w_c12 : (Jvm.Cond.code ({ cls := "com/example/flat_planner/flatplanner/LongColumn", name := "chunk", desc := "(I)[J" } : Jvm.MethodName) prog_14_method_3_code (2 : Nat) (Option.some (Jvm.ClassFile.FieldType.array Jvm.ClassFile.FieldType.long))).before args0 about1 = true := code_word (m := ⟨3, 2⟩) (meth := k3m2) (c := k3c2) (by decide +kernel) rfl rfl rfl (by decide +kernel)
set_option maxRecDepth 65536 in
theorem w_c13 : (Jvm.Cond.code ({ cls := "com/example/flat_planner/flatplanner/LongColumn", name := "offset", desc := "(I)I" } : Jvm.MethodName) prog_14_method_4_code (2 : Nat) (Option.some Jvm.ClassFile.FieldType.int)).before args0 about1 = true := code_word (m := ⟨3, 3⟩) (meth := k3m3) (c := k3c3) (by decide +kernel) rfl rfl rfl (by decide +kernel)
set_option maxRecDepth 65536 in
theorem w_c14 : (Jvm.Cond.code ({ cls := "com/example/flat_planner/flatplanner/OpenList", name := "slot", desc := "(JJ)I" } : Jvm.MethodName) prog_16_method_13_code (7 : Nat) (Option.some Jvm.ClassFile.FieldType.int)).before args0 about1 = true := code_word (m := ⟨2, 11⟩) (meth := k2m11) (c := k2c11) (by decide +kernel) rfl rfl rfl (by decide +kernel)
set_option maxRecDepth 65536 in
theorem w_c15 : (Jvm.Cond.code ({ cls := "com/example/flat_planner/flatplanner/OpenList", name := "startBucket", desc := "(JJ)I" } : Jvm.MethodName) prog_16_method_11_code (6 : Nat) (Option.some Jvm.ClassFile.FieldType.int)).before args0 about1 = true := code_word (m := ⟨2, 10⟩) (meth := k2m10) (c := k2c10) (by decide +kernel) rfl rfl rfl (by decide +kernel)
set_option maxRecDepth 65536 in
theorem w_c16 : (Jvm.Cond.code ({ cls := "com/example/flat_planner/flatplanner/OpenList", name := "heapPush", desc := "(I)V" } : Jvm.MethodName) prog_16_method_14_code (3 : Nat) (Option.none : Option Jvm.ClassFile.FieldType)).before args0 about1 = true := code_word (m := ⟨2, 12⟩) (meth := k2m12) (c := k2c12) (by decide +kernel) rfl rfl rfl (by decide +kernel)
set_option maxRecDepth 65536 in
theorem w_c17 : (Jvm.Cond.code ({ cls := "com/example/flat_planner/flatplanner/OpenList", name := "before", desc := "(II)Z" } : Jvm.MethodName) prog_16_method_16_code (3 : Nat) (Option.some Jvm.ClassFile.FieldType.boolean)).before args0 about1 = true := code_word (m := ⟨2, 14⟩) (meth := k2m14) (c := k2c14) (by decide +kernel) rfl rfl rfl (by decide +kernel)
set_option maxRecDepth 65536 in
theorem w_c18 : (Jvm.Cond.code ({ cls := "com/example/flat_planner/flatplanner/OpenList", name := "clear", desc := "()V" } : Jvm.MethodName) prog_16_method_4_code (2 : Nat) (Option.none : Option Jvm.ClassFile.FieldType)).before args0 about1 = true := code_word (m := ⟨2, 3⟩) (meth := k2m3) (c := k2c3) (by decide +kernel) rfl rfl rfl (by decide +kernel)
set_option maxRecDepth 65536 in
theorem w_c19 : (Jvm.Cond.code ({ cls := "com/example/flat_planner/flatplanner/OpenList", name := "isEmpty", desc := "()Z" } : Jvm.MethodName) prog_16_method_2_code (1 : Nat) (Option.some Jvm.ClassFile.FieldType.boolean)).before args0 about1 = true := code_word (m := ⟨2, 1⟩) (meth := k2m1) (c := k2c1) (by decide +kernel) rfl rfl rfl (by decide +kernel)
set_option maxRecDepth 65536 in
theorem w_c20 : (Jvm.Cond.code ({ cls := "com/example/flat_planner/flatplanner/OpenList", name := "firstF", desc := "()J" } : Jvm.MethodName) prog_16_method_5_code (1 : Nat) (Option.some Jvm.ClassFile.FieldType.long)).before args0 about1 = true := code_word (m := ⟨2, 4⟩) (meth := k2m4) (c := k2c4) (by decide +kernel) rfl rfl rfl (by decide +kernel)
set_option maxRecDepth 65536 in
theorem w_c21 : (Jvm.Cond.code ({ cls := "com/example/flat_planner/flatplanner/OpenList", name := "firstG", desc := "()J" } : Jvm.MethodName) prog_16_method_6_code (1 : Nat) (Option.some Jvm.ClassFile.FieldType.long)).before args0 about1 = true := code_word (m := ⟨2, 5⟩) (meth := k2m5) (c := k2c5) (by decide +kernel) rfl rfl rfl (by decide +kernel)
set_option maxRecDepth 65536 in
theorem w_c22 : (Jvm.Cond.code ({ cls := "com/example/flat_planner/flatplanner/OpenList", name := "pop", desc := "()I" } : Jvm.MethodName) prog_16_method_7_code (4 : Nat) (Option.some Jvm.ClassFile.FieldType.int)).before args0 about1 = true := code_word (m := ⟨2, 6⟩) (meth := k2m6) (c := k2c6) (by decide +kernel) rfl rfl rfl (by decide +kernel)
set_option maxRecDepth 65536 in
theorem w_c23 : (Jvm.Cond.code ({ cls := "com/example/flat_planner/flatplanner/LongColumn", name := "get", desc := "(I)J" } : Jvm.MethodName) prog_14_method_5_code (2 : Nat) (Option.some Jvm.ClassFile.FieldType.long)).before args0 about1 = true := code_word (m := ⟨3, 4⟩) (meth := k3m4) (c := k3c4) (by decide +kernel) rfl rfl rfl (by decide +kernel)
set_option maxRecDepth 65536 in
theorem w_c24 : (Jvm.Cond.code ({ cls := "com/example/flat_planner/flatplanner/OpenList", name := "setNext", desc := "(II)V" } : Jvm.MethodName) prog_16_method_10_code (3 : Nat) (Option.none : Option Jvm.ClassFile.FieldType)).before args0 about1 = true := code_word (m := ⟨2, 9⟩) (meth := k2m9) (c := k2c9) (by decide +kernel) rfl rfl rfl (by decide +kernel)
set_option maxRecDepth 65536 in
theorem w_c25 : (Jvm.Cond.code ({ cls := "com/example/flat_planner/flatplanner/OpenList", name := "heapPopFirst", desc := "()V" } : Jvm.MethodName) prog_16_method_15_code (6 : Nat) (Option.none : Option Jvm.ClassFile.FieldType)).before args0 about1 = true := code_word (m := ⟨2, 13⟩) (meth := k2m13) (c := k2c13) (by decide +kernel) rfl rfl rfl (by decide +kernel)
set_option maxRecDepth 65536 in
theorem w_c26 : (Jvm.Cond.code ({ cls := "com/example/flat_planner/flatplanner/OpenList", name := "next", desc := "(I)I" } : Jvm.MethodName) prog_16_method_9_code (2 : Nat) (Option.some Jvm.ClassFile.FieldType.int)).before args0 about1 = true := code_word (m := ⟨2, 8⟩) (meth := k2m8) (c := k2c8) (by decide +kernel) rfl rfl rfl (by decide +kernel)
def codes1 : List Jvm.Cond := [Jvm.Cond.code x code maxLocals ret, Jvm.Cond.code ({ cls := "com/example/flat_planner/flatplanner/OpenList", name := "<init>", desc := "(Z)V" } : Jvm.MethodName) prog_16_method_1_code (2 : Nat) (Option.none : Option Jvm.ClassFile.FieldType), Jvm.Cond.code ({ cls := "java/lang/Object", name := "<init>", desc := "()V" } : Jvm.MethodName) object_method_1_code (1 : Nat) (Option.none : Option Jvm.ClassFile.FieldType), Jvm.Cond.code ({ cls := "com/example/flat_planner/flatplanner/LongColumn", name := "<init>", desc := "(I)V" } : Jvm.MethodName) prog_14_method_1_code (2 : Nat) (Option.none : Option Jvm.ClassFile.FieldType), Jvm.Cond.code ({ cls := "java/lang/Integer", name := "numberOfLeadingZeros", desc := "(I)I" } : Jvm.MethodName) jdk_33_method_47_code (2 : Nat) (Option.some Jvm.ClassFile.FieldType.int), Jvm.Cond.code ({ cls := "java/lang/Math", name := "max", desc := "(II)I" } : Jvm.MethodName) jdk_29_method_65_code (2 : Nat) (Option.some Jvm.ClassFile.FieldType.int), Jvm.Cond.code ({ cls := "java/lang/Math", name := "min", desc := "(II)I" } : Jvm.MethodName) jdk_29_method_69_code (2 : Nat) (Option.some Jvm.ClassFile.FieldType.int), Jvm.Cond.code ({ cls := "java/util/Arrays", name := "fill", desc := "([II)V" } : Jvm.MethodName) jdk_65_method_103_code (4 : Nat) (Option.none : Option Jvm.ClassFile.FieldType), Jvm.Cond.code ({ cls := "com/example/flat_planner/flatplanner/OpenList", name := "push", desc := "(IJJ)V" } : Jvm.MethodName) prog_16_method_3_code (9 : Nat) (Option.none : Option Jvm.ClassFile.FieldType), Jvm.Cond.code ({ cls := "com/example/flat_planner/flatplanner/OpenList", name := "newEntry", desc := "(I)I" } : Jvm.MethodName) prog_16_method_8_code (3 : Nat) (Option.some Jvm.ClassFile.FieldType.int), Jvm.Cond.code ({ cls := "com/example/flat_planner/flatplanner/LongColumn", name := "reserve", desc := "(I)V" } : Jvm.MethodName) prog_14_method_2_code (4 : Nat) (Option.none : Option Jvm.ClassFile.FieldType), Jvm.Cond.code ({ cls := "com/example/flat_planner/flatplanner/LongColumn", name := "set", desc := "(IJ)V" } : Jvm.MethodName) prog_14_method_6_code (4 : Nat) (Option.none : Option Jvm.ClassFile.FieldType), Jvm.Cond.code ({ cls := "com/example/flat_planner/flatplanner/LongColumn", name := "chunk", desc := "(I)[J" } : Jvm.MethodName) prog_14_method_3_code (2 : Nat) (Option.some (Jvm.ClassFile.FieldType.array Jvm.ClassFile.FieldType.long)), Jvm.Cond.code ({ cls := "com/example/flat_planner/flatplanner/LongColumn", name := "offset", desc := "(I)I" } : Jvm.MethodName) prog_14_method_4_code (2 : Nat) (Option.some Jvm.ClassFile.FieldType.int), Jvm.Cond.code ({ cls := "com/example/flat_planner/flatplanner/OpenList", name := "slot", desc := "(JJ)I" } : Jvm.MethodName) prog_16_method_13_code (7 : Nat) (Option.some Jvm.ClassFile.FieldType.int), Jvm.Cond.code ({ cls := "com/example/flat_planner/flatplanner/OpenList", name := "startBucket", desc := "(JJ)I" } : Jvm.MethodName) prog_16_method_11_code (6 : Nat) (Option.some Jvm.ClassFile.FieldType.int), Jvm.Cond.code ({ cls := "com/example/flat_planner/flatplanner/OpenList", name := "heapPush", desc := "(I)V" } : Jvm.MethodName) prog_16_method_14_code (3 : Nat) (Option.none : Option Jvm.ClassFile.FieldType), Jvm.Cond.code ({ cls := "com/example/flat_planner/flatplanner/OpenList", name := "before", desc := "(II)Z" } : Jvm.MethodName) prog_16_method_16_code (3 : Nat) (Option.some Jvm.ClassFile.FieldType.boolean), Jvm.Cond.code ({ cls := "com/example/flat_planner/flatplanner/OpenList", name := "clear", desc := "()V" } : Jvm.MethodName) prog_16_method_4_code (2 : Nat) (Option.none : Option Jvm.ClassFile.FieldType), Jvm.Cond.code ({ cls := "com/example/flat_planner/flatplanner/OpenList", name := "isEmpty", desc := "()Z" } : Jvm.MethodName) prog_16_method_2_code (1 : Nat) (Option.some Jvm.ClassFile.FieldType.boolean), Jvm.Cond.code ({ cls := "com/example/flat_planner/flatplanner/OpenList", name := "firstF", desc := "()J" } : Jvm.MethodName) prog_16_method_5_code (1 : Nat) (Option.some Jvm.ClassFile.FieldType.long), Jvm.Cond.code ({ cls := "com/example/flat_planner/flatplanner/OpenList", name := "firstG", desc := "()J" } : Jvm.MethodName) prog_16_method_6_code (1 : Nat) (Option.some Jvm.ClassFile.FieldType.long), Jvm.Cond.code ({ cls := "com/example/flat_planner/flatplanner/OpenList", name := "pop", desc := "()I" } : Jvm.MethodName) prog_16_method_7_code (4 : Nat) (Option.some Jvm.ClassFile.FieldType.int), Jvm.Cond.code ({ cls := "com/example/flat_planner/flatplanner/LongColumn", name := "get", desc := "(I)J" } : Jvm.MethodName) prog_14_method_5_code (2 : Nat) (Option.some Jvm.ClassFile.FieldType.long), Jvm.Cond.code ({ cls := "com/example/flat_planner/flatplanner/OpenList", name := "setNext", desc := "(II)V" } : Jvm.MethodName) prog_16_method_10_code (3 : Nat) (Option.none : Option Jvm.ClassFile.FieldType), Jvm.Cond.code ({ cls := "com/example/flat_planner/flatplanner/OpenList", name := "heapPopFirst", desc := "()V" } : Jvm.MethodName) prog_16_method_15_code (6 : Nat) (Option.none : Option Jvm.ClassFile.FieldType), Jvm.Cond.code ({ cls := "com/example/flat_planner/flatplanner/OpenList", name := "next", desc := "(I)I" } : Jvm.MethodName) prog_16_method_9_code (2 : Nat) (Option.some Jvm.ClassFile.FieldType.int)]
set_option maxRecDepth 65536 in
theorem codes_eq : words1.filter isCode = codes1 := rfl
theorem w_codes : ∀ c ∈ words1.filter isCode, c.before args0 about1 = true := by
  rw [codes_eq]
  intro c hc
  simp only [codes1, List.mem_cons, List.not_mem_nil, or_false] at hc
  rcases hc with rfl | rfl | rfl | rfl | rfl | rfl | rfl | rfl | rfl | rfl | rfl | rfl | rfl | rfl | rfl | rfl | rfl | rfl | rfl | rfl | rfl | rfl | rfl | rfl | rfl | rfl | rfl
  · exact w_c0
  · exact w_c1
  · exact w_c2
  · exact w_c3
  · exact w_c4
  · exact w_c5
  · exact w_c6
  · exact w_c7
  · exact w_c8
  · exact w_c9
  · exact w_c10
  · exact w_c11
  · exact w_c12
  · exact w_c13
  · exact w_c14
  · exact w_c15
  · exact w_c16
  · exact w_c17
  · exact w_c18
  · exact w_c19
  · exact w_c20
  · exact w_c21
  · exact w_c22
  · exact w_c23
  · exact w_c24
  · exact w_c25
  · exact w_c26
set_option maxRecDepth 65536 in
theorem w_t1 : (words1.take 24).all (fun c => isCode c || c.before args0 about1) = true := by decide +kernel
set_option maxRecDepth 65536 in
theorem w_t2 : ((words1.drop 24).take 24).all (fun c => isCode c || c.before args0 about1) = true := by decide +kernel
set_option maxRecDepth 65536 in
theorem w_t3 : (((words1.drop 24).drop 24).take 24).all (fun c => isCode c || c.before args0 about1) = true := by decide +kernel
set_option maxRecDepth 65536 in
theorem w_t4 : ((((words1.drop 24).drop 24).drop 24).take 24).all (fun c => isCode c || c.before args0 about1) = true := by decide +kernel
set_option maxRecDepth 65536 in
theorem w_t5 : (((((words1.drop 24).drop 24).drop 24).drop 24).take 24).all (fun c => isCode c || c.before args0 about1) = true := by decide +kernel
set_option maxRecDepth 65536 in
theorem w_t6 : ((((((words1.drop 24).drop 24).drop 24).drop 24).drop 24).take 24).all (fun c => isCode c || c.before args0 about1) = true := by decide +kernel
set_option maxRecDepth 65536 in
theorem w_t7 : (((((((words1.drop 24).drop 24).drop 24).drop 24).drop 24).drop 24).take 24).all (fun c => isCode c || c.before args0 about1) = true := by decide +kernel
set_option maxRecDepth 65536 in
theorem w_t8 : (((((((words1.drop 24).drop 24).drop 24).drop 24).drop 24).drop 24).drop 24).all (fun c => isCode c || c.before args0 about1) = true := by decide +kernel
theorem w_tables : (allAtoms (Jvm.Cond.code x code maxLocals ret :: tables_1)).before args0 about1 = true := by
  rw [allAtoms_all]
  show words1.all (fun c => c.before args0 about1) = true
  refine all_split ?_ w_codes
  rw [← List.take_append_drop 24 words1, List.all_append, w_t1, ← List.take_append_drop 24 (words1.drop 24), List.all_append, w_t2, ← List.take_append_drop 24 ((words1.drop 24).drop 24), List.all_append, w_t3, ← List.take_append_drop 24 (((words1.drop 24).drop 24).drop 24), List.all_append, w_t4, ← List.take_append_drop 24 ((((words1.drop 24).drop 24).drop 24).drop 24), List.all_append, w_t5, ← List.take_append_drop 24 (((((words1.drop 24).drop 24).drop 24).drop 24).drop 24), List.all_append, w_t6, ← List.take_append_drop 24 ((((((words1.drop 24).drop 24).drop 24).drop 24).drop 24).drop 24), List.all_append, w_t7, w_t8]
  rfl
set_option maxRecDepth 65536 in
theorem w_case : (Jvm.Cond.and given_1 narrow_1).before args0 about1 = true := by decide +kernel
theorem w_applies : (headSpec (Jvm.Cond.code x code maxLocals ret :: tables_1) room_1).applies x e0.platform about1 = true :=
  (Spec.applies_iff w_frames).mpr ⟨w_running, w_runnable, w_alone, w_named, w_hears, w_ripe, w_room, w_tables⟩
theorem atStart : AtStart classFile x code maxLocals ret World_1 tables_1 room_1 Calls_1 rest_1 Pre_1 launch0 p0 e0 about1 theMethod args0 below0 :=
  ⟨lists_1, trivial, launch0.admits_env _ _ _, launch0.least_env, fairChoices_fair.cas, fairChoices_fair.clock, w_frames, w_args, w_heap, w_applies, trivial, trivial, w_case⟩
end start1
theorem witness_1 : WitnessClaimed_1 := ⟨start1.p0, start1.e0, start1.about1, start1.theMethod, start1.args0, start1.below0, start1.atStart⟩
end Jvm.Pilot.@@N@@
