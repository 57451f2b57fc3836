import JvmDerived
import JvmDerived.Pilot.@@N@@Statement
import JvmDerived.Pilot.@@N@@Code
set_option linter.unusedVariables false
set_option linter.unusedSimpArgs false
namespace Jvm.Pilot.@@N@@
open Jvm Jvm.ClassFile Sem Op Lib Jvm.Free Jvm.Stand Jvm.LawKit Jvm.RoadKit Bundle Jvm.Pilot.@@N@@.Jvm.D
section OwnKit
/-- where a walk of this body ends: it has returned, wrote nothing below n0, and Q holds of what it returned and of the heap -/
def Ends (n0 : Nat) (p : Program) (e : Env) (s : State) (below : List Frame) (R : Room) (Q : Option Value → Heap → Prop) (T : State) (g : JFrame) : Prop :=
  ∃ s₂ o, Steps p.tables e below (T.setTop g) s₂ ∧ s₂.status = .running ∧ Ended s₂ below o ∧ ∃ v L, o = .returned v ∧ (Fr n0 L ∧ Q v s₂.heap) ∧ FrameEnd s o s₂ L R.cells R.slots
/-- the walk stands at T over the heap h, having made at most kc cells of ks slots -/
def St (l : Launch) (n0 : Nat) (p : Program) (e : Env) (R : Room) (s : State) (m : MethodId) (args : Array Value) (below : List Frame) (meth : Method) (c : Code) (kc ks : Nat) (T : State) (h : Heap) : Prop :=
  ∃ locs cells slots, Stand p l e R s m args below meth c T locs cells slots ∧ T.heap = h ∧ Fr n0 locs ∧ cells ≤ kc ∧ slots ≤ ks
def Cx (l : Launch) (Z : State) (n0 : Nat) (p : Program) (e : Env) (R : Room) (s : State) (m : MethodId) (args : Array Value) (below : List Frame) (meth : Method) (c : Code) (bytes : ByteArray) (ml : Nat) (own name : String) (rt : Option FieldType) (Q : Option Value → Heap → Prop) (F : State → JFrame → Prop) (S : Nat → Nat → State → Heap → Prop) : Prop :=
  (p.tables.exec = Jvm.exec ∧ Z.Warmed39 s.vm ∧ c.code = bytes ∧ c.maxLocals = ml) ∧ (s.vm.findClass own = some m.cls ∧ meth.name = name ∧ meth.sig.returnType = rt ∧ meth.locks = false) ∧ F = Ends n0 p e s below R Q ∧ S = St l n0 p e R s m args below meth c
/-- a body's contract -/
def Con (l : Launch) (Z : State) (y : MethodName) (bytes : ByteArray) (ml : Nat) (rt : Option FieldType) (R : Room) (args : Array Value) (h0 : Heap) (n0 : Nat) (Q : Option Value → Heap → Prop) : Prop :=
  ∀ ws : List Jvm.Cond, MetFree l y (head1 (Jvm.Cond.code y bytes ml rt :: ws) R) (fun a U => a = args ∧ Z.Warmed39 U.vm ∧ U.heap = h0) (fun _ _ _ _ _ => True) (fun _ U o U' => ∃ v L, o = .returned v ∧ (Fr n0 L ∧ Q v U'.heap) ∧ FrameEnd U o U' L R.cells R.slots)
variable {l : Launch} {Z : State} {n0 : Nat} {p : Program} {e : Env} {R : Room} {s : State} {m : MethodId} {args : Array Value} {below : List Frame} {meth : Method} {c : Code} {bytes : ByteArray} {ml : Nat} {own name : String} {rt : Option FieldType} {Q : Option Value → Heap → Prop} {F : State → JFrame → Prop} {S : Nat → Nat → State → Heap → Prop}
variable {a0 : Array Value} {T T' : State} {h h' : Heap} {kc ks kc' ks' pc pc' : Nat} {L L' : Array Slot} {rest : List Value}
theorem Con.of {y : MethodName} {h0 : Heap} {Ls : Array Slot} (hpn : plainFor y = true) (hef : ∀ m, entryFrame m args ml = mkF m 0 Ls []) (ho : y.cls = own) (hn : y.name = name)
    (H : ∀ (p : Program) (e : Env) (s : State) (m : MethodId) (below : List Frame) (meth : Method) (c : Code) (T : State) (F : State → JFrame → Prop) (S : Nat → Nat → State → Heap → Prop), Cx l Z n0 p e R s m args below meth c bytes ml own name rt Q F S → S 0 0 T h0 → F T (mkF m 0 Ls [])) :
    Con l Z y bytes ml rt R args h0 n0 Q := by
  intro ws
  refine MetFree.of_bodySF hpn hisR ?_
  intro p e s m args below meth c s₁ Bd hml0 hP hK
  obtain ⟨rfl, hZ, hh⟩ := hP
  have e0 : s₁.heap = h0 := by rw [← hh, Bd.state]; rfl
  obtain ⟨s₂, o, q1, q2, q3, q4⟩ := H p e s m below meth c s₁ _ _ ⟨⟨Bd.exec, hZ, Bd.bytes, hml0⟩, ⟨by rw [← ho]; exact findClass_of_methodNamed Bd.named, by rw [← hn]; exact (name_of_methodNamed Bd.named Bd.method).1, Bd.returns, Bd.notSynchronized⟩, rfl, rfl⟩ ⟨[], 0, 0, Stand.of_body Bd, e0, Fr.nil n0, Nat.le_refl _, Nat.le_refl _⟩
  exact ⟨s₂, o, castTop (hef m) q1, q2, q3, q4⟩
theorem Cx.step (cx : Cx l Z n0 p e R s m args below meth c bytes ml own name rt Q F S) {g g' : JFrame} (st : ∀ t, Steps p.tables e below (T'.setTop g') t → Steps p.tables e below (T.setTop g) t) (k : F T' g') : F T g := by
  obtain ⟨-, -, rfl, -⟩ := cx
  obtain ⟨s₂, o, q1, q⟩ := k
  exact ⟨s₂, o, st _ q1, q⟩
theorem Cx.at (cx : Cx l Z n0 p e R s m args below meth c bytes ml own name rt Q F S) (st : S kc ks T h) : At T m c below := by
  obtain ⟨-, -, -, rfl⟩ := cx
  obtain ⟨_, _, _, X, -⟩ := st
  exact X.here
theorem Cx.open (cx : Cx l Z n0 p e R s m args below meth c bytes ml own name rt Q F S) (st : S kc ks T h) : ∃ locs cells slots, Stand p l e R s m args below meth c T locs cells slots ∧ T.heap = h ∧ Fr n0 locs ∧ cells ≤ kc ∧ slots ≤ ks := by
  obtain ⟨-, -, -, rfl⟩ := cx
  exact st
theorem Cx.mono (cx : Cx l Z n0 p e R s m args below meth c bytes ml own name rt Q F S) (st : S kc ks T h) (h1 : kc ≤ kc') (h2 : ks ≤ ks') : S kc' ks' T h := by
  obtain ⟨-, -, -, rfl⟩ := cx
  obtain ⟨a, b, d, X, q1, q2, q3, q4⟩ := st
  exact ⟨a, b, d, X, q1, q2, Nat.le_trans q3 h1, Nat.le_trans q4 h2⟩
theorem Cx.dec (cx : Cx l Z n0 p e R s m args below meth c bytes ml own name rt Q F S) {r : Except DecodeError (Instr × Nat)} (hd : decode bytes pc = r) : decode c.code pc = r := hb cx.1.2.2.1 hd
/-- leaving the method -/
theorem Cx.fin (cx : Cx l Z n0 p e R s m args below meth c bytes ml own name rt Q F S) (st : S kc ks T h) {v : Option Value} {g : JFrame} (hv : rt = none → v = none) (hk : kc ≤ R.cells) (hs : ks ≤ R.slots)
    (go : ∀ fs locs cells slots, Stand p l e R s m args below meth c T locs cells slots → (∀ (f : JFrame) (acts : List Action), f.method = m → f.locked = none → f.entered = [] → (doReturn e (T.setTop f) acts v).1 = T.setFrames fs) → Steps p.tables e below (T.setTop g) (T.setFrames fs)) (hQ : Q v h) : F T g := by
  obtain ⟨c1, ⟨c5, c6, c7, c8⟩, rfl, rfl⟩ := cx
  obtain ⟨locs, cells, slots, X, q1, q2, q3, q4⟩ := st
  obtain ⟨fs, hr, hrun, hended, hW, hsame⟩ := X.leave (v := v) (fun q => hv (c7.symm.trans q)) c8
  refine ⟨_, _, go fs _ _ _ X hr, hrun, hended, v, locs, rfl, ⟨q2, ?_⟩, ⟨_, rfl⟩, hW, hsame.mono (Nat.le_trans q3 hk) (Nat.le_trans q4 hs)⟩
  show Q v T.heap
  rw [q1]; exact hQ
theorem E_iadd (cx : Cx l Z n0 p e R s m args below meth c bytes ml own name rt Q F S) (st : S kc ks T h) {x y : Int32} (hd : decode bytes pc = .ok (.iadd, 1))  (hp : pc + 1 = pc') (k : F T (mkF m pc' L (.int (x + y) :: rest))) : F T (mkF m pc L (.int y :: .int x :: rest)) := by
  subst hp; exact cx.step (fun _ q => XS.iadd (cx.at st) cx.1.1 rfl (cx.dec hd) rfl q) k
theorem E_isub (cx : Cx l Z n0 p e R s m args below meth c bytes ml own name rt Q F S) (st : S kc ks T h) {x y : Int32} (hd : decode bytes pc = .ok (.isub, 1))  (hp : pc + 1 = pc') (k : F T (mkF m pc' L (.int (x - y) :: rest))) : F T (mkF m pc L (.int y :: .int x :: rest)) := by
  subst hp; exact cx.step (fun _ q => XS.isub (cx.at st) cx.1.1 rfl (cx.dec hd) rfl q) k
theorem E_imul (cx : Cx l Z n0 p e R s m args below meth c bytes ml own name rt Q F S) (st : S kc ks T h) {x y : Int32} (hd : decode bytes pc = .ok (.imul, 1))  (hp : pc + 1 = pc') (k : F T (mkF m pc' L (.int (x * y) :: rest))) : F T (mkF m pc L (.int y :: .int x :: rest)) := by
  subst hp; exact cx.step (fun _ q => XS.imul (cx.at st) cx.1.1 rfl (cx.dec hd) rfl q) k
theorem E_iand (cx : Cx l Z n0 p e R s m args below meth c bytes ml own name rt Q F S) (st : S kc ks T h) {x y : Int32} (hd : decode bytes pc = .ok (.iand, 1))  (hp : pc + 1 = pc') (k : F T (mkF m pc' L (.int (x &&& y) :: rest))) : F T (mkF m pc L (.int y :: .int x :: rest)) := by
  subst hp; exact cx.step (fun _ q => XS.iand (cx.at st) cx.1.1 rfl (cx.dec hd) rfl q) k
theorem E_ior (cx : Cx l Z n0 p e R s m args below meth c bytes ml own name rt Q F S) (st : S kc ks T h) {x y : Int32} (hd : decode bytes pc = .ok (.ior, 1))  (hp : pc + 1 = pc') (k : F T (mkF m pc' L (.int (x ||| y) :: rest))) : F T (mkF m pc L (.int y :: .int x :: rest)) := by
  subst hp; exact cx.step (fun _ q => XS.ior (cx.at st) cx.1.1 rfl (cx.dec hd) rfl q) k
theorem E_ixor (cx : Cx l Z n0 p e R s m args below meth c bytes ml own name rt Q F S) (st : S kc ks T h) {x y : Int32} (hd : decode bytes pc = .ok (.ixor, 1))  (hp : pc + 1 = pc') (k : F T (mkF m pc' L (.int (x ^^^ y) :: rest))) : F T (mkF m pc L (.int y :: .int x :: rest)) := by
  subst hp; exact cx.step (fun _ q => XS.ixor (cx.at st) cx.1.1 rfl (cx.dec hd) rfl q) k
theorem E_ladd (cx : Cx l Z n0 p e R s m args below meth c bytes ml own name rt Q F S) (st : S kc ks T h) {x y : Int64} (hd : decode bytes pc = .ok (.ladd, 1))  (hp : pc + 1 = pc') (k : F T (mkF m pc' L (.long (x + y) :: rest))) : F T (mkF m pc L (.long y :: .long x :: rest)) := by
  subst hp; exact cx.step (fun _ q => XS.ladd (cx.at st) cx.1.1 rfl (cx.dec hd) rfl q) k
theorem E_lsub (cx : Cx l Z n0 p e R s m args below meth c bytes ml own name rt Q F S) (st : S kc ks T h) {x y : Int64} (hd : decode bytes pc = .ok (.lsub, 1))  (hp : pc + 1 = pc') (k : F T (mkF m pc' L (.long (x - y) :: rest))) : F T (mkF m pc L (.long y :: .long x :: rest)) := by
  subst hp; exact cx.step (fun _ q => XS.lsub (cx.at st) cx.1.1 rfl (cx.dec hd) rfl q) k
theorem E_lmul (cx : Cx l Z n0 p e R s m args below meth c bytes ml own name rt Q F S) (st : S kc ks T h) {x y : Int64} (hd : decode bytes pc = .ok (.lmul, 1))  (hp : pc + 1 = pc') (k : F T (mkF m pc' L (.long (x * y) :: rest))) : F T (mkF m pc L (.long y :: .long x :: rest)) := by
  subst hp; exact cx.step (fun _ q => XS.lmul (cx.at st) cx.1.1 rfl (cx.dec hd) rfl q) k
theorem E_land (cx : Cx l Z n0 p e R s m args below meth c bytes ml own name rt Q F S) (st : S kc ks T h) {x y : Int64} (hd : decode bytes pc = .ok (.land, 1))  (hp : pc + 1 = pc') (k : F T (mkF m pc' L (.long (x &&& y) :: rest))) : F T (mkF m pc L (.long y :: .long x :: rest)) := by
  subst hp; exact cx.step (fun _ q => XS.land (cx.at st) cx.1.1 rfl (cx.dec hd) rfl q) k
theorem E_lor (cx : Cx l Z n0 p e R s m args below meth c bytes ml own name rt Q F S) (st : S kc ks T h) {x y : Int64} (hd : decode bytes pc = .ok (.lor, 1))  (hp : pc + 1 = pc') (k : F T (mkF m pc' L (.long (x ||| y) :: rest))) : F T (mkF m pc L (.long y :: .long x :: rest)) := by
  subst hp; exact cx.step (fun _ q => XS.lor (cx.at st) cx.1.1 rfl (cx.dec hd) rfl q) k
theorem E_lxor (cx : Cx l Z n0 p e R s m args below meth c bytes ml own name rt Q F S) (st : S kc ks T h) {x y : Int64} (hd : decode bytes pc = .ok (.lxor, 1))  (hp : pc + 1 = pc') (k : F T (mkF m pc' L (.long (x ^^^ y) :: rest))) : F T (mkF m pc L (.long y :: .long x :: rest)) := by
  subst hp; exact cx.step (fun _ q => XS.lxor (cx.at st) cx.1.1 rfl (cx.dec hd) rfl q) k
theorem E_idiv (cx : Cx l Z n0 p e R s m args below meth c bytes ml own name rt Q F S) (st : S kc ks T h) {x y : Int32} (hd : decode bytes pc = .ok (.idiv, 1)) (hz : y ≠ 0) (hp : pc + 1 = pc') (k : F T (mkF m pc' L (.int (x / y) :: rest))) : F T (mkF m pc L (.int y :: .int x :: rest)) := by
  subst hp; exact cx.step (fun _ q => XS.idiv (cx.at st) cx.1.1 rfl (cx.dec hd) rfl hz q) k
theorem E_ldiv (cx : Cx l Z n0 p e R s m args below meth c bytes ml own name rt Q F S) (st : S kc ks T h) {x y : Int64} (hd : decode bytes pc = .ok (.ldiv, 1)) (hz : y ≠ 0) (hp : pc + 1 = pc') (k : F T (mkF m pc' L (.long (x / y) :: rest))) : F T (mkF m pc L (.long y :: .long x :: rest)) := by
  subst hp; exact cx.step (fun _ q => XS.ldiv (cx.at st) cx.1.1 rfl (cx.dec hd) rfl hz q) k
theorem E_ishl (cx : Cx l Z n0 p e R s m args below meth c bytes ml own name rt Q F S) (st : S kc ks T h) {x y : Int32} (hd : decode bytes pc = .ok (.ishl, 1))  (hp : pc + 1 = pc') (k : F T (mkF m pc' L (.int (x <<< (y &&& 31)) :: rest))) : F T (mkF m pc L (.int y :: .int x :: rest)) := by
  subst hp; exact cx.step (fun _ q => XS.ishl (cx.at st) cx.1.1 rfl (cx.dec hd) rfl q) k
theorem E_ishr (cx : Cx l Z n0 p e R s m args below meth c bytes ml own name rt Q F S) (st : S kc ks T h) {x y : Int32} (hd : decode bytes pc = .ok (.ishr, 1))  (hp : pc + 1 = pc') (k : F T (mkF m pc' L (.int (x >>> (y &&& 31)) :: rest))) : F T (mkF m pc L (.int y :: .int x :: rest)) := by
  subst hp; exact cx.step (fun _ q => XS.ishr (cx.at st) cx.1.1 rfl (cx.dec hd) rfl q) k
theorem E_iushr (cx : Cx l Z n0 p e R s m args below meth c bytes ml own name rt Q F S) (st : S kc ks T h) {x y : Int32} (hd : decode bytes pc = .ok (.iushr, 1))  (hp : pc + 1 = pc') (k : F T (mkF m pc' L (.int ((x.toUInt32 >>> (y &&& 31).toUInt32).toInt32) :: rest))) : F T (mkF m pc L (.int y :: .int x :: rest)) := by
  subst hp; exact cx.step (fun _ q => XS.iushr (cx.at st) cx.1.1 rfl (cx.dec hd) rfl q) k
theorem E_lshl (cx : Cx l Z n0 p e R s m args below meth c bytes ml own name rt Q F S) (st : S kc ks T h) {x : Int64} {y : Int32} (hd : decode bytes pc = .ok (.lshl, 1))  (hp : pc + 1 = pc') (k : F T (mkF m pc' L (.long (x <<< (y &&& 0x3f).toInt64) :: rest))) : F T (mkF m pc L (.int y :: .long x :: rest)) := by
  subst hp; exact cx.step (fun _ q => XS.lshl (cx.at st) cx.1.1 rfl (cx.dec hd) rfl q) k
theorem E_lshr (cx : Cx l Z n0 p e R s m args below meth c bytes ml own name rt Q F S) (st : S kc ks T h) {x : Int64} {y : Int32} (hd : decode bytes pc = .ok (.lshr, 1))  (hp : pc + 1 = pc') (k : F T (mkF m pc' L (.long (x >>> (y &&& 0x3f).toInt64) :: rest))) : F T (mkF m pc L (.int y :: .long x :: rest)) := by
  subst hp; exact cx.step (fun _ q => XS.lshr (cx.at st) cx.1.1 rfl (cx.dec hd) rfl q) k
theorem E_lushr (cx : Cx l Z n0 p e R s m args below meth c bytes ml own name rt Q F S) (st : S kc ks T h) {x : Int64} {y : Int32} (hd : decode bytes pc = .ok (.lushr, 1))  (hp : pc + 1 = pc') (k : F T (mkF m pc' L (.long ((x.toUInt64 >>> (y &&& 0x3f).toInt64.toUInt64).toInt64) :: rest))) : F T (mkF m pc L (.int y :: .long x :: rest)) := by
  subst hp; exact cx.step (fun _ q => XS.lushr (cx.at st) cx.1.1 rfl (cx.dec hd) rfl q) k
theorem E_ineg (cx : Cx l Z n0 p e R s m args below meth c bytes ml own name rt Q F S) (st : S kc ks T h) {x : Int32} (hd : decode bytes pc = .ok (.ineg, 1))  (hp : pc + 1 = pc') (k : F T (mkF m pc' L (.int (-x) :: rest))) : F T (mkF m pc L (.int x :: rest)) := by
  subst hp; exact cx.step (fun _ q => XS.ineg (cx.at st) cx.1.1 rfl (cx.dec hd) rfl q) k
theorem E_lneg (cx : Cx l Z n0 p e R s m args below meth c bytes ml own name rt Q F S) (st : S kc ks T h) {x : Int64} (hd : decode bytes pc = .ok (.lneg, 1))  (hp : pc + 1 = pc') (k : F T (mkF m pc' L (.long (-x) :: rest))) : F T (mkF m pc L (.long x :: rest)) := by
  subst hp; exact cx.step (fun _ q => XS.lneg (cx.at st) cx.1.1 rfl (cx.dec hd) rfl q) k
theorem E_i2l (cx : Cx l Z n0 p e R s m args below meth c bytes ml own name rt Q F S) (st : S kc ks T h) {x : Int32} (hd : decode bytes pc = .ok (.i2l, 1))  (hp : pc + 1 = pc') (k : F T (mkF m pc' L (.long (x.toInt64) :: rest))) : F T (mkF m pc L (.int x :: rest)) := by
  subst hp; exact cx.step (fun _ q => XS.i2l (cx.at st) cx.1.1 rfl (cx.dec hd) rfl q) k
theorem E_l2i (cx : Cx l Z n0 p e R s m args below meth c bytes ml own name rt Q F S) (st : S kc ks T h) {x : Int64} (hd : decode bytes pc = .ok (.l2i, 1))  (hp : pc + 1 = pc') (k : F T (mkF m pc' L (.int (x.toInt32) :: rest))) : F T (mkF m pc L (.long x :: rest)) := by
  subst hp; exact cx.step (fun _ q => XS.l2i (cx.at st) cx.1.1 rfl (cx.dec hd) rfl q) k
theorem E_lcmp (cx : Cx l Z n0 p e R s m args below meth c bytes ml own name rt Q F S) (st : S kc ks T h) {x y : Int64} (hd : decode bytes pc = .ok (.lcmp, 1))  (hp : pc + 1 = pc') (k : F T (mkF m pc' L (.int (lcmpW x y) :: rest))) : F T (mkF m pc L (.long y :: .long x :: rest)) := by
  subst hp; exact cx.step (fun _ q => XS.lcmp (cx.at st) cx.1.1 rfl (cx.dec hd) rfl q) k
theorem E_pop (cx : Cx l Z n0 p e R s m args below meth c bytes ml own name rt Q F S) (st : S kc ks T h) {x : Value} (hd : decode bytes pc = .ok (.pop, 1)) (hc : x.category = 1) (hp : pc + 1 = pc') (k : F T (mkF m pc' L (rest))) : F T (mkF m pc L (x :: rest)) := by
  subst hp; exact cx.step (fun _ q => XS.pop (cx.at st) cx.1.1 rfl (cx.dec hd) rfl hc q) k
theorem E_dup (cx : Cx l Z n0 p e R s m args below meth c bytes ml own name rt Q F S) (st : S kc ks T h) {x : Value} (hd : decode bytes pc = .ok (.dup, 1)) (hc : x.category = 1) (hp : pc + 1 = pc') (k : F T (mkF m pc' L (x :: x :: rest))) : F T (mkF m pc L (x :: rest)) := by
  subst hp; exact cx.step (fun _ q => XS.dup (cx.at st) cx.1.1 rfl (cx.dec hd) rfl hc q) k
theorem E_dup_x1 (cx : Cx l Z n0 p e R s m args below meth c bytes ml own name rt Q F S) (st : S kc ks T h) {x y : Value} (hd : decode bytes pc = .ok (.dup_x1, 1)) (hc : x.category = 1) (hc2 : y.category = 1) (hp : pc + 1 = pc') (k : F T (mkF m pc' L (x :: y :: x :: rest))) : F T (mkF m pc L (x :: y :: rest)) := by
  subst hp; exact cx.step (fun _ q => XS.dupX1 (cx.at st) cx.1.1 rfl (cx.dec hd) rfl hc hc2 q) k
theorem E_aconst_null (cx : Cx l Z n0 p e R s m args below meth c bytes ml own name rt Q F S) (st : S kc ks T h)  (hd : decode bytes pc = .ok (.aconst_null, 1))  (hp : pc + 1 = pc') (k : F T (mkF m pc' L (.null :: rest))) : F T (mkF m pc L (rest)) := by
  subst hp; exact cx.step (fun _ q => XS.aconstNull (cx.at st) cx.1.1 rfl (cx.dec hd)  q) k
theorem E_iloadN (cx : Cx l Z n0 p e R s m args below meth c bytes ml own name rt Q F S) (st : S kc ks T h) {j : Fin 4} {x : Int32} (hd : decode bytes pc = .ok (.iload_n j, 1)) (hl : L[j.val]? = some (.val (.int x)))  (hp : pc + 1 = pc') (k : F T (mkF m pc' L (.int x :: rest))) : F T (mkF m pc L (rest)) := by
  subst hp; exact cx.step (fun _ q => XS.iloadN (cx.at st) cx.1.1 rfl (cx.dec hd) hl q) k
theorem E_istoreN (cx : Cx l Z n0 p e R s m args below meth c bytes ml own name rt Q F S) (st : S kc ks T h) {j : Fin 4} {x : Int32} (hd : decode bytes pc = .ok (.istore_n j, 1))  (hl : storeLocals L j.val (.int x) = some L') (hp : pc + 1 = pc') (k : F T (mkF m pc' L' (rest))) : F T (mkF m pc L (.int x :: rest)) := by
  subst hp; exact cx.step (fun _ q => XS.istoreN (cx.at st) cx.1.1 rfl (cx.dec hd) rfl hl q) k
theorem E_iload (cx : Cx l Z n0 p e R s m args below meth c bytes ml own name rt Q F S) (st : S kc ks T h) {j : Nat} {x : Int32} (hd : decode bytes pc = .ok (.iload j, 2)) (hl : L[j]? = some (.val (.int x)))  (hp : pc + 2 = pc') (k : F T (mkF m pc' L (.int x :: rest))) : F T (mkF m pc L (rest)) := by
  subst hp; exact cx.step (fun _ q => XS.iload (cx.at st) cx.1.1 rfl (cx.dec hd) hl q) k
theorem E_istore (cx : Cx l Z n0 p e R s m args below meth c bytes ml own name rt Q F S) (st : S kc ks T h) {j : Nat} {x : Int32} (hd : decode bytes pc = .ok (.istore j, 2))  (hl : storeLocals L j (.int x) = some L') (hp : pc + 2 = pc') (k : F T (mkF m pc' L' (rest))) : F T (mkF m pc L (.int x :: rest)) := by
  subst hp; exact cx.step (fun _ q => XS.istore (cx.at st) cx.1.1 rfl (cx.dec hd) rfl hl q) k
theorem E_lloadN (cx : Cx l Z n0 p e R s m args below meth c bytes ml own name rt Q F S) (st : S kc ks T h) {j : Fin 4} {x : Int64} (hd : decode bytes pc = .ok (.lload_n j, 1)) (hl : L[j.val]? = some (.val (.long x)))  (hp : pc + 1 = pc') (k : F T (mkF m pc' L (.long x :: rest))) : F T (mkF m pc L (rest)) := by
  subst hp; exact cx.step (fun _ q => XS.lloadN (cx.at st) cx.1.1 rfl (cx.dec hd) hl q) k
theorem E_lstoreN (cx : Cx l Z n0 p e R s m args below meth c bytes ml own name rt Q F S) (st : S kc ks T h) {j : Fin 4} {x : Int64} (hd : decode bytes pc = .ok (.lstore_n j, 1))  (hl : storeLocals L j.val (.long x) = some L') (hp : pc + 1 = pc') (k : F T (mkF m pc' L' (rest))) : F T (mkF m pc L (.long x :: rest)) := by
  subst hp; exact cx.step (fun _ q => XS.lstoreN (cx.at st) cx.1.1 rfl (cx.dec hd) rfl hl q) k
theorem E_lload (cx : Cx l Z n0 p e R s m args below meth c bytes ml own name rt Q F S) (st : S kc ks T h) {j : Nat} {x : Int64} (hd : decode bytes pc = .ok (.lload j, 2)) (hl : L[j]? = some (.val (.long x)))  (hp : pc + 2 = pc') (k : F T (mkF m pc' L (.long x :: rest))) : F T (mkF m pc L (rest)) := by
  subst hp; exact cx.step (fun _ q => XS.lload (cx.at st) cx.1.1 rfl (cx.dec hd) hl q) k
theorem E_lstore (cx : Cx l Z n0 p e R s m args below meth c bytes ml own name rt Q F S) (st : S kc ks T h) {j : Nat} {x : Int64} (hd : decode bytes pc = .ok (.lstore j, 2))  (hl : storeLocals L j (.long x) = some L') (hp : pc + 2 = pc') (k : F T (mkF m pc' L' (rest))) : F T (mkF m pc L (.long x :: rest)) := by
  subst hp; exact cx.step (fun _ q => XS.lstore (cx.at st) cx.1.1 rfl (cx.dec hd) rfl hl q) k
theorem E_aloadN (cx : Cx l Z n0 p e R s m args below meth c bytes ml own name rt Q F S) (st : S kc ks T h) {j : Fin 4} {x : Value} (hd : decode bytes pc = .ok (.aload_n j, 1)) (hl : L[j.val]? = some (.val (x))) (hv : x.isRef = true) (hp : pc + 1 = pc') (k : F T (mkF m pc' L (x :: rest))) : F T (mkF m pc L (rest)) := by
  subst hp; exact cx.step (fun _ q => XS.aloadN (cx.at st) cx.1.1 rfl (cx.dec hd) hl hv q) k
theorem E_astoreN (cx : Cx l Z n0 p e R s m args below meth c bytes ml own name rt Q F S) (st : S kc ks T h) {j : Fin 4} {x : Value} (hd : decode bytes pc = .ok (.astore_n j, 1)) (hv : x.isRef = true) (hl : storeLocals L j.val (x) = some L') (hp : pc + 1 = pc') (k : F T (mkF m pc' L' (rest))) : F T (mkF m pc L (x :: rest)) := by
  subst hp; exact cx.step (fun _ q => XS.astoreN (cx.at st) cx.1.1 rfl (cx.dec hd) rfl hv hl q) k
theorem E_aload (cx : Cx l Z n0 p e R s m args below meth c bytes ml own name rt Q F S) (st : S kc ks T h) {j : Nat} {x : Value} (hd : decode bytes pc = .ok (.aload j, 2)) (hl : L[j]? = some (.val (x))) (hv : x.isRef = true) (hp : pc + 2 = pc') (k : F T (mkF m pc' L (x :: rest))) : F T (mkF m pc L (rest)) := by
  subst hp; exact cx.step (fun _ q => XS.aload (cx.at st) cx.1.1 rfl (cx.dec hd) hl hv q) k
theorem E_astore (cx : Cx l Z n0 p e R s m args below meth c bytes ml own name rt Q F S) (st : S kc ks T h) {j : Nat} {x : Value} (hd : decode bytes pc = .ok (.astore j, 2)) (hv : x.isRef = true) (hl : storeLocals L j (x) = some L') (hp : pc + 2 = pc') (k : F T (mkF m pc' L' (rest))) : F T (mkF m pc L (x :: rest)) := by
  subst hp; exact cx.step (fun _ q => XS.astore (cx.at st) cx.1.1 rfl (cx.dec hd) rfl hv hl q) k
theorem E_iinc (cx : Cx l Z n0 p e R s m args below meth c bytes ml own name rt Q F S) (st : S kc ks T h) {j : Nat} {cst : Int} {x : Int32} (v : Int32) (hd : decode bytes pc = .ok (.iinc j cst, 3)) (hv : Int32.ofInt cst = v) (hl : L[j]? = some (.val (.int x))) (hl' : storeLocals L j (.int (x + v)) = some L') (hp : pc + 3 = pc') (k : F T (mkF m pc' L' rest)) : F T (mkF m pc L rest) := by
  subst hp hv; exact cx.step (fun _ q => XS.iinc (cx.at st) cx.1.1 rfl (cx.dec hd) hl hl' q) k
theorem E_iconst (cx : Cx l Z n0 p e R s m args below meth c bytes ml own name rt Q F S) (st : S kc ks T h) {i : Int} (v : Int32) (hd : decode bytes pc = .ok (.iconst i, 1)) (hv : Int32.ofInt i = v) (hp : pc + 1 = pc') (k : F T (mkF m pc' L (.int v :: rest))) : F T (mkF m pc L rest) := by
  subst hp hv; exact cx.step (fun _ q => XS.iconst (cx.at st) cx.1.1 rfl (cx.dec hd) q) k
theorem E_bipush (cx : Cx l Z n0 p e R s m args below meth c bytes ml own name rt Q F S) (st : S kc ks T h) {i : Int} (v : Int32) (hd : decode bytes pc = .ok (.bipush i, 2)) (hv : (Int8.ofInt i).toInt32 = v) (hp : pc + 2 = pc') (k : F T (mkF m pc' L (.int v :: rest))) : F T (mkF m pc L rest) := by
  subst hp hv; exact cx.step (fun _ q => XS.bipush (cx.at st) cx.1.1 rfl (cx.dec hd) q) k
theorem E_sipush (cx : Cx l Z n0 p e R s m args below meth c bytes ml own name rt Q F S) (st : S kc ks T h) {i : Int} (v : Int32) (hd : decode bytes pc = .ok (.sipush i, 3)) (hv : (Int16.ofInt i).toInt32 = v) (hp : pc + 3 = pc') (k : F T (mkF m pc' L (.int v :: rest))) : F T (mkF m pc L rest) := by
  subst hp hv; exact cx.step (fun _ q => XS.sipush (cx.at st) cx.1.1 rfl (cx.dec hd) q) k
theorem E_lconst (cx : Cx l Z n0 p e R s m args below meth c bytes ml own name rt Q F S) (st : S kc ks T h) {i : Fin 2} (v : Int64) (hd : decode bytes pc = .ok (.lconst i, 1)) (hv : Int64.ofNat i = v) (hp : pc + 1 = pc') (k : F T (mkF m pc' L (.long v :: rest))) : F T (mkF m pc L rest) := by
  subst hp hv; exact cx.step (fun _ q => XS.lconst (cx.at st) cx.1.1 rfl (cx.dec hd) q) k
theorem E_goto (cx : Cx l Z n0 p e R s m args below meth c bytes ml own name rt Q F S) (st : S kc ks T h) {o : Int} (hd : decode bytes pc = .ok (.goto o, 3)) (ho : 0 ≤ (pc : Int) + o) (hp : ((pc : Int) + o).toNat = pc') (k : F T (mkF m pc' L rest)) : F T (mkF m pc L rest) :=
  cx.step (fun _ q => XS.goto (cx.at st) cx.1.1 rfl (pc0 := pc) rfl (cx.dec hd) ho hp q) k
theorem E_irem (cx : Cx l Z n0 p e R s m args below meth c bytes ml own name rt Q F S) (st : S kc ks T h) {x y : Int32} (hd : decode bytes pc = .ok (.irem, 1)) (hz : y ≠ 0) (hp : pc + 1 = pc') (k : F T (mkF m pc' L (.int (x % y) :: rest))) : F T (mkF m pc L (.int y :: .int x :: rest)) := by
  subst hp
  obtain ⟨_, _, _, X, -⟩ := cx.open st
  exact cx.step (fun _ q => iremM X cx.1.1 rfl (cx.dec hd) rfl hz q) k
theorem E_icmp_ltY (cx : Cx l Z n0 p e R s m args below meth c bytes ml own name rt Q F S) (st : S kc ks T h) {x y : Int32} {o : Int} (hd : decode bytes pc = .ok (.if_icmp .lt o, 3)) (ho : 0 ≤ (pc : Int) + o) (hp : ((pc : Int) + o).toNat = pc') (c1 : x < y) (k : F T (mkF m pc' L rest)) : F T (mkF m pc L (.int y :: .int x :: rest)) :=
  cx.step (fun _ q => XS.icmpYes (cx.at st) cx.1.1 rfl (pc0 := pc) rfl (cx.dec hd) rfl (tlt c1).1 ho hp q) k
theorem E_icmp_ltN (cx : Cx l Z n0 p e R s m args below meth c bytes ml own name rt Q F S) (st : S kc ks T h) {x y : Int32} {o : Int} (hd : decode bytes pc = .ok (.if_icmp .lt o, 3)) (hp : pc + 3 = pc') (c1 : ¬ (x < y)) (k : F T (mkF m pc' L rest)) : F T (mkF m pc L (.int y :: .int x :: rest)) := by
  subst hp; exact cx.step (fun _ q => XS.icmpNo (cx.at st) cx.1.1 rfl (cx.dec hd) rfl (flt c1).1 q) k
theorem E_if_ltY (cx : Cx l Z n0 p e R s m args below meth c bytes ml own name rt Q F S) (st : S kc ks T h) {x : Int32} {o : Int} (hd : decode bytes pc = .ok (.ifCond .lt o, 3)) (ho : 0 ≤ (pc : Int) + o) (hp : ((pc : Int) + o).toNat = pc') (c1 : x < 0) (k : F T (mkF m pc' L rest)) : F T (mkF m pc L (.int x :: rest)) :=
  cx.step (fun _ q => XS.ifYes (cx.at st) cx.1.1 rfl (pc0 := pc) rfl (cx.dec hd) rfl ((if0 _ _).trans (tlt c1).1) ho hp q) k
theorem E_if_ltN (cx : Cx l Z n0 p e R s m args below meth c bytes ml own name rt Q F S) (st : S kc ks T h) {x : Int32} {o : Int} (hd : decode bytes pc = .ok (.ifCond .lt o, 3)) (hp : pc + 3 = pc') (c1 : ¬ (x < 0)) (k : F T (mkF m pc' L rest)) : F T (mkF m pc L (.int x :: rest)) := by
  subst hp; exact cx.step (fun _ q => XS.ifNo (cx.at st) cx.1.1 rfl (cx.dec hd) rfl ((if0 _ _).trans (flt c1).1) q) k
theorem E_icmp_geY (cx : Cx l Z n0 p e R s m args below meth c bytes ml own name rt Q F S) (st : S kc ks T h) {x y : Int32} {o : Int} (hd : decode bytes pc = .ok (.if_icmp .ge o, 3)) (ho : 0 ≤ (pc : Int) + o) (hp : ((pc : Int) + o).toNat = pc') (c1 : ¬ (x < y)) (k : F T (mkF m pc' L rest)) : F T (mkF m pc L (.int y :: .int x :: rest)) :=
  cx.step (fun _ q => XS.icmpYes (cx.at st) cx.1.1 rfl (pc0 := pc) rfl (cx.dec hd) rfl (flt c1).2.1 ho hp q) k
theorem E_icmp_geN (cx : Cx l Z n0 p e R s m args below meth c bytes ml own name rt Q F S) (st : S kc ks T h) {x y : Int32} {o : Int} (hd : decode bytes pc = .ok (.if_icmp .ge o, 3)) (hp : pc + 3 = pc') (c1 : x < y) (k : F T (mkF m pc' L rest)) : F T (mkF m pc L (.int y :: .int x :: rest)) := by
  subst hp; exact cx.step (fun _ q => XS.icmpNo (cx.at st) cx.1.1 rfl (cx.dec hd) rfl (tlt c1).2.1 q) k
theorem E_if_geY (cx : Cx l Z n0 p e R s m args below meth c bytes ml own name rt Q F S) (st : S kc ks T h) {x : Int32} {o : Int} (hd : decode bytes pc = .ok (.ifCond .ge o, 3)) (ho : 0 ≤ (pc : Int) + o) (hp : ((pc : Int) + o).toNat = pc') (c1 : ¬ (x < 0)) (k : F T (mkF m pc' L rest)) : F T (mkF m pc L (.int x :: rest)) :=
  cx.step (fun _ q => XS.ifYes (cx.at st) cx.1.1 rfl (pc0 := pc) rfl (cx.dec hd) rfl ((if0 _ _).trans (flt c1).2.1) ho hp q) k
theorem E_if_geN (cx : Cx l Z n0 p e R s m args below meth c bytes ml own name rt Q F S) (st : S kc ks T h) {x : Int32} {o : Int} (hd : decode bytes pc = .ok (.ifCond .ge o, 3)) (hp : pc + 3 = pc') (c1 : x < 0) (k : F T (mkF m pc' L rest)) : F T (mkF m pc L (.int x :: rest)) := by
  subst hp; exact cx.step (fun _ q => XS.ifNo (cx.at st) cx.1.1 rfl (cx.dec hd) rfl ((if0 _ _).trans (tlt c1).2.1) q) k
theorem E_icmp_gtY (cx : Cx l Z n0 p e R s m args below meth c bytes ml own name rt Q F S) (st : S kc ks T h) {x y : Int32} {o : Int} (hd : decode bytes pc = .ok (.if_icmp .gt o, 3)) (ho : 0 ≤ (pc : Int) + o) (hp : ((pc : Int) + o).toNat = pc') (c1 : y < x) (k : F T (mkF m pc' L rest)) : F T (mkF m pc L (.int y :: .int x :: rest)) :=
  cx.step (fun _ q => XS.icmpYes (cx.at st) cx.1.1 rfl (pc0 := pc) rfl (cx.dec hd) rfl (tlt c1).2.2.1 ho hp q) k
theorem E_icmp_gtN (cx : Cx l Z n0 p e R s m args below meth c bytes ml own name rt Q F S) (st : S kc ks T h) {x y : Int32} {o : Int} (hd : decode bytes pc = .ok (.if_icmp .gt o, 3)) (hp : pc + 3 = pc') (c1 : ¬ (y < x)) (k : F T (mkF m pc' L rest)) : F T (mkF m pc L (.int y :: .int x :: rest)) := by
  subst hp; exact cx.step (fun _ q => XS.icmpNo (cx.at st) cx.1.1 rfl (cx.dec hd) rfl (flt c1).2.2.1 q) k
theorem E_if_gtY (cx : Cx l Z n0 p e R s m args below meth c bytes ml own name rt Q F S) (st : S kc ks T h) {x : Int32} {o : Int} (hd : decode bytes pc = .ok (.ifCond .gt o, 3)) (ho : 0 ≤ (pc : Int) + o) (hp : ((pc : Int) + o).toNat = pc') (c1 : 0 < x) (k : F T (mkF m pc' L rest)) : F T (mkF m pc L (.int x :: rest)) :=
  cx.step (fun _ q => XS.ifYes (cx.at st) cx.1.1 rfl (pc0 := pc) rfl (cx.dec hd) rfl ((if0 _ _).trans (tlt c1).2.2.1) ho hp q) k
theorem E_if_gtN (cx : Cx l Z n0 p e R s m args below meth c bytes ml own name rt Q F S) (st : S kc ks T h) {x : Int32} {o : Int} (hd : decode bytes pc = .ok (.ifCond .gt o, 3)) (hp : pc + 3 = pc') (c1 : ¬ (0 < x)) (k : F T (mkF m pc' L rest)) : F T (mkF m pc L (.int x :: rest)) := by
  subst hp; exact cx.step (fun _ q => XS.ifNo (cx.at st) cx.1.1 rfl (cx.dec hd) rfl ((if0 _ _).trans (flt c1).2.2.1) q) k
theorem E_icmp_leY (cx : Cx l Z n0 p e R s m args below meth c bytes ml own name rt Q F S) (st : S kc ks T h) {x y : Int32} {o : Int} (hd : decode bytes pc = .ok (.if_icmp .le o, 3)) (ho : 0 ≤ (pc : Int) + o) (hp : ((pc : Int) + o).toNat = pc') (c1 : ¬ (y < x)) (k : F T (mkF m pc' L rest)) : F T (mkF m pc L (.int y :: .int x :: rest)) :=
  cx.step (fun _ q => XS.icmpYes (cx.at st) cx.1.1 rfl (pc0 := pc) rfl (cx.dec hd) rfl (flt c1).2.2.2 ho hp q) k
theorem E_icmp_leN (cx : Cx l Z n0 p e R s m args below meth c bytes ml own name rt Q F S) (st : S kc ks T h) {x y : Int32} {o : Int} (hd : decode bytes pc = .ok (.if_icmp .le o, 3)) (hp : pc + 3 = pc') (c1 : y < x) (k : F T (mkF m pc' L rest)) : F T (mkF m pc L (.int y :: .int x :: rest)) := by
  subst hp; exact cx.step (fun _ q => XS.icmpNo (cx.at st) cx.1.1 rfl (cx.dec hd) rfl (tlt c1).2.2.2 q) k
theorem E_if_leY (cx : Cx l Z n0 p e R s m args below meth c bytes ml own name rt Q F S) (st : S kc ks T h) {x : Int32} {o : Int} (hd : decode bytes pc = .ok (.ifCond .le o, 3)) (ho : 0 ≤ (pc : Int) + o) (hp : ((pc : Int) + o).toNat = pc') (c1 : ¬ (0 < x)) (k : F T (mkF m pc' L rest)) : F T (mkF m pc L (.int x :: rest)) :=
  cx.step (fun _ q => XS.ifYes (cx.at st) cx.1.1 rfl (pc0 := pc) rfl (cx.dec hd) rfl ((if0 _ _).trans (flt c1).2.2.2) ho hp q) k
theorem E_if_leN (cx : Cx l Z n0 p e R s m args below meth c bytes ml own name rt Q F S) (st : S kc ks T h) {x : Int32} {o : Int} (hd : decode bytes pc = .ok (.ifCond .le o, 3)) (hp : pc + 3 = pc') (c1 : 0 < x) (k : F T (mkF m pc' L rest)) : F T (mkF m pc L (.int x :: rest)) := by
  subst hp; exact cx.step (fun _ q => XS.ifNo (cx.at st) cx.1.1 rfl (cx.dec hd) rfl ((if0 _ _).trans (tlt c1).2.2.2) q) k
theorem E_icmp_eqY (cx : Cx l Z n0 p e R s m args below meth c bytes ml own name rt Q F S) (st : S kc ks T h) {x y : Int32} {o : Int} (hd : decode bytes pc = .ok (.if_icmp .eq o, 3)) (ho : 0 ≤ (pc : Int) + o) (hp : ((pc : Int) + o).toNat = pc') (c1 : x = y) (k : F T (mkF m pc' L rest)) : F T (mkF m pc L (.int y :: .int x :: rest)) :=
  cx.step (fun _ q => XS.icmpYes (cx.at st) cx.1.1 rfl (pc0 := pc) rfl (cx.dec hd) rfl (teq c1).1 ho hp q) k
theorem E_icmp_eqN (cx : Cx l Z n0 p e R s m args below meth c bytes ml own name rt Q F S) (st : S kc ks T h) {x y : Int32} {o : Int} (hd : decode bytes pc = .ok (.if_icmp .eq o, 3)) (hp : pc + 3 = pc') (c1 : ¬ (x = y)) (k : F T (mkF m pc' L rest)) : F T (mkF m pc L (.int y :: .int x :: rest)) := by
  subst hp; exact cx.step (fun _ q => XS.icmpNo (cx.at st) cx.1.1 rfl (cx.dec hd) rfl (feq c1).1 q) k
theorem E_if_eqY (cx : Cx l Z n0 p e R s m args below meth c bytes ml own name rt Q F S) (st : S kc ks T h) {x : Int32} {o : Int} (hd : decode bytes pc = .ok (.ifCond .eq o, 3)) (ho : 0 ≤ (pc : Int) + o) (hp : ((pc : Int) + o).toNat = pc') (c1 : x = 0) (k : F T (mkF m pc' L rest)) : F T (mkF m pc L (.int x :: rest)) :=
  cx.step (fun _ q => XS.ifYes (cx.at st) cx.1.1 rfl (pc0 := pc) rfl (cx.dec hd) rfl ((if0 _ _).trans (teq c1).1) ho hp q) k
theorem E_if_eqN (cx : Cx l Z n0 p e R s m args below meth c bytes ml own name rt Q F S) (st : S kc ks T h) {x : Int32} {o : Int} (hd : decode bytes pc = .ok (.ifCond .eq o, 3)) (hp : pc + 3 = pc') (c1 : ¬ (x = 0)) (k : F T (mkF m pc' L rest)) : F T (mkF m pc L (.int x :: rest)) := by
  subst hp; exact cx.step (fun _ q => XS.ifNo (cx.at st) cx.1.1 rfl (cx.dec hd) rfl ((if0 _ _).trans (feq c1).1) q) k
theorem E_icmp_neY (cx : Cx l Z n0 p e R s m args below meth c bytes ml own name rt Q F S) (st : S kc ks T h) {x y : Int32} {o : Int} (hd : decode bytes pc = .ok (.if_icmp .ne o, 3)) (ho : 0 ≤ (pc : Int) + o) (hp : ((pc : Int) + o).toNat = pc') (c1 : ¬ (x = y)) (k : F T (mkF m pc' L rest)) : F T (mkF m pc L (.int y :: .int x :: rest)) :=
  cx.step (fun _ q => XS.icmpYes (cx.at st) cx.1.1 rfl (pc0 := pc) rfl (cx.dec hd) rfl (feq c1).2 ho hp q) k
theorem E_icmp_neN (cx : Cx l Z n0 p e R s m args below meth c bytes ml own name rt Q F S) (st : S kc ks T h) {x y : Int32} {o : Int} (hd : decode bytes pc = .ok (.if_icmp .ne o, 3)) (hp : pc + 3 = pc') (c1 : x = y) (k : F T (mkF m pc' L rest)) : F T (mkF m pc L (.int y :: .int x :: rest)) := by
  subst hp; exact cx.step (fun _ q => XS.icmpNo (cx.at st) cx.1.1 rfl (cx.dec hd) rfl (teq c1).2 q) k
theorem E_if_neY (cx : Cx l Z n0 p e R s m args below meth c bytes ml own name rt Q F S) (st : S kc ks T h) {x : Int32} {o : Int} (hd : decode bytes pc = .ok (.ifCond .ne o, 3)) (ho : 0 ≤ (pc : Int) + o) (hp : ((pc : Int) + o).toNat = pc') (c1 : ¬ (x = 0)) (k : F T (mkF m pc' L rest)) : F T (mkF m pc L (.int x :: rest)) :=
  cx.step (fun _ q => XS.ifYes (cx.at st) cx.1.1 rfl (pc0 := pc) rfl (cx.dec hd) rfl ((if0 _ _).trans (feq c1).2) ho hp q) k
theorem E_if_neN (cx : Cx l Z n0 p e R s m args below meth c bytes ml own name rt Q F S) (st : S kc ks T h) {x : Int32} {o : Int} (hd : decode bytes pc = .ok (.ifCond .ne o, 3)) (hp : pc + 3 = pc') (c1 : x = 0) (k : F T (mkF m pc' L rest)) : F T (mkF m pc L (.int x :: rest)) := by
  subst hp; exact cx.step (fun _ q => XS.ifNo (cx.at st) cx.1.1 rfl (cx.dec hd) rfl ((if0 _ _).trans (teq c1).2) q) k
theorem E_lif_ltY (cx : Cx l Z n0 p e R s m args below meth c bytes ml own name rt Q F S) (st : S kc ks T h) {x y : Int64} {o : Int} (hd : decode bytes pc = .ok (.lcmp, 1)) (hd2 : decode bytes (pc + 1) = .ok (.ifCond .lt o, 3)) (ho : 0 ≤ ((pc + 1 : Nat) : Int) + o) (hp : (((pc + 1 : Nat) : Int) + o).toNat = pc') (c1 : x < y) (k : F T (mkF m pc' L rest)) : F T (mkF m pc L (.long y :: .long x :: rest)) :=
  E_lcmp cx st hd rfl (E_if_ltY cx st hd2 ho hp ((lw_lt x y).mpr c1) k)
theorem E_lif_ltN (cx : Cx l Z n0 p e R s m args below meth c bytes ml own name rt Q F S) (st : S kc ks T h) {x y : Int64} {o : Int} (hd : decode bytes pc = .ok (.lcmp, 1)) (hd2 : decode bytes (pc + 1) = .ok (.ifCond .lt o, 3)) (hp : pc + 4 = pc') (c1 : ¬ (x < y)) (k : F T (mkF m pc' L rest)) : F T (mkF m pc L (.long y :: .long x :: rest)) :=
  E_lcmp cx st hd rfl (E_if_ltN cx st hd2 hp (fun z => c1 ((lw_lt x y).mp z)) k)
theorem E_lif_geY (cx : Cx l Z n0 p e R s m args below meth c bytes ml own name rt Q F S) (st : S kc ks T h) {x y : Int64} {o : Int} (hd : decode bytes pc = .ok (.lcmp, 1)) (hd2 : decode bytes (pc + 1) = .ok (.ifCond .ge o, 3)) (ho : 0 ≤ ((pc + 1 : Nat) : Int) + o) (hp : (((pc + 1 : Nat) : Int) + o).toNat = pc') (c1 : ¬ (x < y)) (k : F T (mkF m pc' L rest)) : F T (mkF m pc L (.long y :: .long x :: rest)) :=
  E_lcmp cx st hd rfl (E_if_geY cx st hd2 ho hp (fun z => c1 ((lw_lt x y).mp z)) k)
theorem E_lif_geN (cx : Cx l Z n0 p e R s m args below meth c bytes ml own name rt Q F S) (st : S kc ks T h) {x y : Int64} {o : Int} (hd : decode bytes pc = .ok (.lcmp, 1)) (hd2 : decode bytes (pc + 1) = .ok (.ifCond .ge o, 3)) (hp : pc + 4 = pc') (c1 : x < y) (k : F T (mkF m pc' L rest)) : F T (mkF m pc L (.long y :: .long x :: rest)) :=
  E_lcmp cx st hd rfl (E_if_geN cx st hd2 hp ((lw_lt x y).mpr c1) k)
theorem E_lif_gtY (cx : Cx l Z n0 p e R s m args below meth c bytes ml own name rt Q F S) (st : S kc ks T h) {x y : Int64} {o : Int} (hd : decode bytes pc = .ok (.lcmp, 1)) (hd2 : decode bytes (pc + 1) = .ok (.ifCond .gt o, 3)) (ho : 0 ≤ ((pc + 1 : Nat) : Int) + o) (hp : (((pc + 1 : Nat) : Int) + o).toNat = pc') (c1 : y < x) (k : F T (mkF m pc' L rest)) : F T (mkF m pc L (.long y :: .long x :: rest)) :=
  E_lcmp cx st hd rfl (E_if_gtY cx st hd2 ho hp ((lw_gt x y).mpr c1) k)
theorem E_lif_gtN (cx : Cx l Z n0 p e R s m args below meth c bytes ml own name rt Q F S) (st : S kc ks T h) {x y : Int64} {o : Int} (hd : decode bytes pc = .ok (.lcmp, 1)) (hd2 : decode bytes (pc + 1) = .ok (.ifCond .gt o, 3)) (hp : pc + 4 = pc') (c1 : ¬ (y < x)) (k : F T (mkF m pc' L rest)) : F T (mkF m pc L (.long y :: .long x :: rest)) :=
  E_lcmp cx st hd rfl (E_if_gtN cx st hd2 hp (fun z => c1 ((lw_gt x y).mp z)) k)
theorem E_lif_leY (cx : Cx l Z n0 p e R s m args below meth c bytes ml own name rt Q F S) (st : S kc ks T h) {x y : Int64} {o : Int} (hd : decode bytes pc = .ok (.lcmp, 1)) (hd2 : decode bytes (pc + 1) = .ok (.ifCond .le o, 3)) (ho : 0 ≤ ((pc + 1 : Nat) : Int) + o) (hp : (((pc + 1 : Nat) : Int) + o).toNat = pc') (c1 : ¬ (y < x)) (k : F T (mkF m pc' L rest)) : F T (mkF m pc L (.long y :: .long x :: rest)) :=
  E_lcmp cx st hd rfl (E_if_leY cx st hd2 ho hp (fun z => c1 ((lw_gt x y).mp z)) k)
theorem E_lif_leN (cx : Cx l Z n0 p e R s m args below meth c bytes ml own name rt Q F S) (st : S kc ks T h) {x y : Int64} {o : Int} (hd : decode bytes pc = .ok (.lcmp, 1)) (hd2 : decode bytes (pc + 1) = .ok (.ifCond .le o, 3)) (hp : pc + 4 = pc') (c1 : y < x) (k : F T (mkF m pc' L rest)) : F T (mkF m pc L (.long y :: .long x :: rest)) :=
  E_lcmp cx st hd rfl (E_if_leN cx st hd2 hp ((lw_gt x y).mpr c1) k)
theorem E_lif_eqY (cx : Cx l Z n0 p e R s m args below meth c bytes ml own name rt Q F S) (st : S kc ks T h) {x y : Int64} {o : Int} (hd : decode bytes pc = .ok (.lcmp, 1)) (hd2 : decode bytes (pc + 1) = .ok (.ifCond .eq o, 3)) (ho : 0 ≤ ((pc + 1 : Nat) : Int) + o) (hp : (((pc + 1 : Nat) : Int) + o).toNat = pc') (c1 : x = y) (k : F T (mkF m pc' L rest)) : F T (mkF m pc L (.long y :: .long x :: rest)) :=
  E_lcmp cx st hd rfl (E_if_eqY cx st hd2 ho hp ((lw_eq x y).mpr c1) k)
theorem E_lif_eqN (cx : Cx l Z n0 p e R s m args below meth c bytes ml own name rt Q F S) (st : S kc ks T h) {x y : Int64} {o : Int} (hd : decode bytes pc = .ok (.lcmp, 1)) (hd2 : decode bytes (pc + 1) = .ok (.ifCond .eq o, 3)) (hp : pc + 4 = pc') (c1 : ¬ (x = y)) (k : F T (mkF m pc' L rest)) : F T (mkF m pc L (.long y :: .long x :: rest)) :=
  E_lcmp cx st hd rfl (E_if_eqN cx st hd2 hp (fun z => c1 ((lw_eq x y).mp z)) k)
theorem E_lif_neY (cx : Cx l Z n0 p e R s m args below meth c bytes ml own name rt Q F S) (st : S kc ks T h) {x y : Int64} {o : Int} (hd : decode bytes pc = .ok (.lcmp, 1)) (hd2 : decode bytes (pc + 1) = .ok (.ifCond .ne o, 3)) (ho : 0 ≤ ((pc + 1 : Nat) : Int) + o) (hp : (((pc + 1 : Nat) : Int) + o).toNat = pc') (c1 : ¬ (x = y)) (k : F T (mkF m pc' L rest)) : F T (mkF m pc L (.long y :: .long x :: rest)) :=
  E_lcmp cx st hd rfl (E_if_neY cx st hd2 ho hp (fun z => c1 ((lw_eq x y).mp z)) k)
theorem E_lif_neN (cx : Cx l Z n0 p e R s m args below meth c bytes ml own name rt Q F S) (st : S kc ks T h) {x y : Int64} {o : Int} (hd : decode bytes pc = .ok (.lcmp, 1)) (hd2 : decode bytes (pc + 1) = .ok (.ifCond .ne o, 3)) (hp : pc + 4 = pc') (c1 : x = y) (k : F T (mkF m pc' L rest)) : F T (mkF m pc L (.long y :: .long x :: rest)) :=
  E_lcmp cx st hd rfl (E_if_neN cx st hd2 hp ((lw_eq x y).mpr c1) k)
theorem E_ifnullY (cx : Cx l Z n0 p e R s m args below meth c bytes ml own name rt Q F S) (st : S kc ks T h) {o : Int} (hd : decode bytes pc = .ok (.ifnull o, 3)) (ho : 0 ≤ (pc : Int) + o) (hp : ((pc : Int) + o).toNat = pc') (k : F T (mkF m pc' L rest)) : F T (mkF m pc L (.null :: rest)) :=
  cx.step (fun _ q => XS.ifnullYes (cx.at st) cx.1.1 rfl (pc0 := pc) rfl (cx.dec hd) rfl ho hp q) k
theorem E_ifnullN (cx : Cx l Z n0 p e R s m args below meth c bytes ml own name rt Q F S) (st : S kc ks T h) {b : Addr} {o : Int} (hd : decode bytes pc = .ok (.ifnull o, 3)) (hp : pc + 3 = pc') (k : F T (mkF m pc' L rest)) : F T (mkF m pc L (.ref b :: rest)) := by
  subst hp; exact cx.step (fun _ q => XS.ifnullNo (cx.at st) cx.1.1 rfl (cx.dec hd) rfl q) k
theorem E_ifnonnullY (cx : Cx l Z n0 p e R s m args below meth c bytes ml own name rt Q F S) (st : S kc ks T h) {b : Addr} {o : Int} (hd : decode bytes pc = .ok (.ifnonnull o, 3)) (ho : 0 ≤ (pc : Int) + o) (hp : ((pc : Int) + o).toNat = pc') (k : F T (mkF m pc' L rest)) : F T (mkF m pc L (.ref b :: rest)) :=
  cx.step (fun _ q => XS.ifnonnullYes (cx.at st) cx.1.1 rfl (pc0 := pc) rfl (cx.dec hd) rfl ho hp q) k
theorem E_ifnonnullN (cx : Cx l Z n0 p e R s m args below meth c bytes ml own name rt Q F S) (st : S kc ks T h) {o : Int} (hd : decode bytes pc = .ok (.ifnonnull o, 3)) (hp : pc + 3 = pc') (k : F T (mkF m pc' L rest)) : F T (mkF m pc L (.null :: rest)) := by
  subst hp; exact cx.step (fun _ q => XS.ifnonnullNo (cx.at st) cx.1.1 rfl (cx.dec hd) rfl q) k
theorem E_dup2 (cx : Cx l Z n0 p e R s m args below meth c bytes ml own name rt Q F S) (st : S kc ks T h) {x y : Value} (hd : decode bytes pc = .ok (.dup2, 1)) (hc : x.category = 1) (hc2 : y.category = 1) (hp : pc + 1 = pc') (k : F T (mkF m pc' L (x :: y :: x :: y :: rest))) : F T (mkF m pc L (x :: y :: rest)) := by
  subst hp; exact cx.step (fun _ q => Jvm.Free.XT.dup2 (cx.at st) cx.1.1 rfl (cx.dec hd) rfl hc hc2 q) k
theorem E_dup2L (cx : Cx l Z n0 p e R s m args below meth c bytes ml own name rt Q F S) (st : S kc ks T h) {x : Int64} (hd : decode bytes pc = .ok (.dup2, 1)) (hp : pc + 1 = pc') (k : F T (mkF m pc' L (.long x :: .long x :: rest))) : F T (mkF m pc L (.long x :: rest)) := by
  subst hp; exact cx.step (fun _ q => Jvm.Free.XT.dup2L (cx.at st) cx.1.1 rfl (cx.dec hd) rfl q) k
theorem E_ldc (cx : Cx l Z n0 p e R s m args below meth c bytes ml own name rt Q F S) (st : S kc ks T h) {i : Nat} {v : Int32} (w : (Jvm.Cond.constant own i v).before a0 Z = true) (hd : decode bytes pc = .ok (.ldc i, 2)) (hp : pc + 2 = pc') (k : F T (mkF m pc' L (.int v :: rest))) : F T (mkF m pc L rest) := by
  subst hp
  obtain ⟨_, _, _, X, -⟩ := cx.open st
  exact cx.step (fun t q => X.ldcInt cx.1.1 cx.2.1.1 (mvT cx.1.2.1 w) (g := mkF m pc L rest) rfl (cx.dec hd) t q) k
theorem E_ldc_w (cx : Cx l Z n0 p e R s m args below meth c bytes ml own name rt Q F S) (st : S kc ks T h) {i : Nat} {v : Int32} (w : (Jvm.Cond.constant own i v).before a0 Z = true) (hd : decode bytes pc = .ok (.ldc_w i, 3)) (hp : pc + 3 = pc') (k : F T (mkF m pc' L (.int v :: rest))) : F T (mkF m pc L rest) := by
  subst hp
  obtain ⟨_, _, _, X, -⟩ := cx.open st
  exact cx.step (fun t q => X.ldcwInt cx.1.1 cx.2.1.1 (mvT cx.1.2.1 w) (g := mkF m pc L rest) rfl (cx.dec hd) t q) k
theorem E_ldc2_w (cx : Cx l Z n0 p e R s m args below meth c bytes ml own name rt Q F S) (st : S kc ks T h) {i : Nat} {v : Int64} (w : (Jvm.Cond.constantLong own i v).before a0 Z = true) (hd : decode bytes pc = .ok (.ldc2_w i, 3)) (hp : pc + 3 = pc') (k : F T (mkF m pc' L (.long v :: rest))) : F T (mkF m pc L rest) := by
  subst hp
  obtain ⟨_, _, _, X, -⟩ := cx.open st
  exact cx.step (fun t q => X.ldc2Long cx.1.1 cx.2.1.1 (mvT cx.1.2.1 w) (g := mkF m pc L rest) rfl (cx.dec hd) t q) k
theorem E_ireturn (cx : Cx l Z n0 p e R s m args below meth c bytes ml own name rt Q F S) (st : S kc ks T h) {x : Int32} {t : FieldType} (hd : decode bytes pc = .ok (.ireturn, 1)) (hrt : rt = some t) (ht : t = .int ∨ t = .boolean ∨ t = .byte ∨ t = .char ∨ t = .short) (hn : narrow t (.int x) = .int x) (hk : kc ≤ R.cells) (hs : ks ≤ R.slots) (hQ : Q (some (.int x)) h) : F T (mkF m pc L (.int x :: rest)) :=
  cx.fin st (fun q => by rw [hrt] at q; cases q) hk hs (fun fs _ _ _ X hr => retOut X cx.1.1 (cx.2.1.2.2.1.trans hrt) hn (Or.inl ⟨rfl, ht, x, rfl⟩) (cx.dec hd) hr) hQ
theorem E_lreturn (cx : Cx l Z n0 p e R s m args below meth c bytes ml own name rt Q F S) (st : S kc ks T h) {x : Int64} (hd : decode bytes pc = .ok (.lreturn, 1)) (hrt : rt = some .long) (hk : kc ≤ R.cells) (hs : ks ≤ R.slots) (hQ : Q (some (.long x)) h) : F T (mkF m pc L (.long x :: rest)) :=
  cx.fin st (fun q => by rw [hrt] at q; cases q) hk hs (fun fs _ _ _ X hr => retOut X cx.1.1 (cx.2.1.2.2.1.trans hrt) rfl (Or.inr (Or.inl ⟨rfl, rfl, x, rfl⟩)) (cx.dec hd) hr) hQ
theorem E_areturn (cx : Cx l Z n0 p e R s m args below meth c bytes ml own name rt Q F S) (st : S kc ks T h) {x : Value} {t : FieldType} (hd : decode bytes pc = .ok (.areturn, 1)) (hrt : rt = some t) (ht : t.isReference = true) (hn : narrow t x = x) (hx : x.isRef = true) (hk : kc ≤ R.cells) (hs : ks ≤ R.slots) (hQ : Q (some x) h) : F T (mkF m pc L (x :: rest)) :=
  cx.fin st (fun q => by rw [hrt] at q; cases q) hk hs (fun fs _ _ _ X hr => retOut X cx.1.1 (cx.2.1.2.2.1.trans hrt) hn (Or.inr (Or.inr (Or.inr (Or.inr ⟨rfl, ht, hx⟩)))) (cx.dec hd) hr) hQ
theorem E_return (cx : Cx l Z n0 p e R s m args below meth c bytes ml own name rt Q F S) (st : S kc ks T h) (hd : decode bytes pc = .ok (.return_, 1)) (hrt : rt = none) (hk : kc ≤ R.cells) (hs : ks ≤ R.slots) (hQ : Q none h) : F T (mkF m pc L []) :=
  cx.fin st (fun _ => rfl) hk hs (fun fs _ _ _ X hr => X.returnOut cx.1.1 (cx.2.1.2.2.1.trans hrt) (cx.dec hd) hr) hQ
theorem narrow01 {x : Int32} (q : x = 0 ∨ x = 1) : narrow .boolean (.int x) = .int x := by rcases q with rfl | rfl <;> rfl
theorem E_callS (cx : Cx l Z n0 p e R s m args below meth c bytes ml own name rt Q F S) (st : S kc ks T h) {y : MethodName} {bytes' : ByteArray} {ml' : Nat} {rt' : Option FieldType} {rm : Room} {argsL : List Value} {Q' : Option Value → Heap → Prop} {idx W : Nat} {stk : List Value} (rest : List Value)
    (K : Con l Z y bytes' ml' rt' rm argsL.toArray h n0 Q') (w1 : (Jvm.Cond.methodLink own idx y).before a0 Z = true) (w2 : (Jvm.Cond.static y).before a0 Z = true) (w3 : (Jvm.Cond.initialized y.cls).before a0 Z = true) (w4 : (Jvm.Cond.code y bytes' ml' rt').before a0 Z = true)
    (hd : decode bytes pc = .ok (.invokestatic idx, 3)) (hstk : stk = argsL.reverse ++ rest) (hL : L.size = ml) (hlen : ∀ sig, parseMethodDescriptor y.desc = some sig → argsL.length = sig.parameters.length) (hW : (rest.map fun v => v.category).sum ≤ W)
    (hy : y.cls ≠ "java/lang/invoke/MethodHandle" ∧ y.cls ≠ "java/lang/invoke/VarHandle") (hf : rm.frames + 1 ≤ R.frames) (hlo : W + (ml' + 11) + rm.locals ≤ R.locals) (hc : kc + rm.cells ≤ kc') (hs : ks + rm.slots ≤ ks') (hc' : kc' ≤ R.cells) (hs' : ks' ≤ R.slots) (hp : pc + 3 = pc')
    (k : ∀ v T' h', S kc' ks' T' h' → Q' v h' → F T' (mkF m pc' L (v.toList ++ rest))) : F T (mkF m pc L stk) := by
  subst hp
  obtain ⟨locs, cells, slots, X, q1, q2, q3, q4⟩ := cx.open st
  have hZ := cx.1.2.1
  obtain ⟨v, _, ⟨T₁, L₁, k₁, n₁⟩, -, X₁, ⟨Lc, hQ, e1, e2, e3⟩, stp⟩ := Jvm.LawKit.callS X cx.1.1 (y := y) cx.2.1.1 (mvT hZ w1) (mvT hZ w2) (mvT hZ w3) (mvT hZ w4) hy (backOf (W := W) (Q := fun v h L => Fr n0 L ∧ Q' v h) (K []) hZ w4 w3 hf hlo) (g := mkF m pc L stk) rfl (hL.trans cx.1.2.2.2.symm) (argsL := argsL) (rest := rest) hlen hstk (by show 2 * 0 + _ ≤ _; omega) (cx.dec hd) (fun _ _ => ⟨rfl, q1, by dsimp only [Pt.cells]; omega, by dsimp only [Pt.slots]; omega⟩)
  dsimp only [Pt.U, Pt.locs, Pt.cells, Pt.slots] at X₁ e1 e2 e3 stp hQ
  subst e1 e2 e3
  refine cx.step stp (k v T₁ T₁.heap ?_ hQ.2)
  obtain ⟨-, -, -, rfl⟩ := cx
  exact ⟨_, _, _, X₁, rfl, Fr.app q2 hQ.1, by omega, by omega⟩

theorem E_newP (cx : Cx l Z n0 p e R s m args below meth c bytes ml own name rt Q F S) (st : S kc ks T h) {aty : ArrayType} {n : Int32} {cap : Nat} (w : (Jvm.Cond.arrayClass (newarray.typeOf aty)).before a0 Z = true) (hd : decode bytes pc = .ok (.newarray aty, 2)) (hn : ¬ n < 0) (hcap : n.toNatClampNeg ≤ cap) (hb : cap * 8 ≤ 536870912) (hc : kc + 1 ≤ kc') (hs : ks + cap ≤ ks') (hc' : kc' ≤ R.cells) (hs' : ks' ≤ R.slots) (hp : pc + 2 = pc') {ad : String} (had : "[" ++ (newarray.typeOf aty).toString = ad)
    (k : ∀ T' h' cA a, a = h.size → S kc' ks' T' h' → Ext h h' → Arv Z h' a cA (newarray.typeOf aty) n [] (defaultValue (newarray.typeOf aty)) → Exa Z h' a ad → F T' (mkF m pc' L (.ref a :: rest))) : F T (mkF m pc L (.int n :: rest)) := by
  subst hp
  obtain ⟨locs, cells, slots, X, q1, q2, q3, q4⟩ := cx.open st
  obtain ⟨T', h', cA, X', e', E, A, E2, stp⟩ := newPE X cx.1.1 cx.1.2.1 w q1 (g := mkF m pc L (.int n :: rest)) rfl (cx.dec hd) rfl hn (cap := cap) hcap hb (by omega) (by omega) had
  refine cx.step stp (k T' h' cA h.size rfl ?_ E (Arv.new A hn) E2)
  obtain ⟨-, -, -, rfl⟩ := cx
  exact ⟨_, _, _, X', e', q2, by omega, by omega⟩
theorem getD_int (xs : List Int32) (k : Nat) (d : Int32) : (xs.map Value.int).getD k (.int d) = .int (xs.getD k d) := by
  simp only [List.getD_eq_getElem?_getD, List.getElem?_map]
  cases xs[k]? <;> rfl
theorem getD_long (xs : List Int64) (k : Nat) (d : Int64) : (xs.map Value.long).getD k (.long d) = .long (xs.getD k d) := by
  simp only [List.getD_eq_getElem?_getD, List.getElem?_map]
  cases xs[k]? <;> rfl
theorem i32_small {i : Int32} {n : Nat} (h : ¬ i < 0 ∧ i < Int32.ofNat n) (hn : n < 2147483648) : i.toNatClampNeg < n ∧ i = Int32.ofNat i.toNatClampNeg := by
  obtain ⟨h1, h2⟩ := h
  have e1 := rng32 i
  rw [Int32.lt_iff_toInt_lt] at h1 h2
  have k1 : (0 : Int32).toInt = 0 := rfl
  have k2 : (Int32.ofNat n).toInt = n := Int32.toInt_ofNat_of_lt hn
  rw [k1] at h1; rw [k2] at h2
  have e2 : i.toNatClampNeg = i.toInt.toNat := rfl
  refine ⟨by omega, ?_⟩
  apply Int32.toInt_inj.mp
  rw [Int32.toInt_ofNat_of_lt (by omega)]; omega
theorem i32_rem (k : Int32) (n : Nat) (hk : 0 ≤ k.toInt) (h0 : 0 < n) (hn : n < 2147483648) : ¬ (k % Int32.ofNat n) < 0 ∧ (k % Int32.ofNat n) < Int32.ofNat n := by
  have k2 : (Int32.ofNat n).toInt = n := Int32.toInt_ofNat_of_lt hn
  have r := (c_irem k (Int32.ofNat n) n k2).1 hk
  have q1 := Int.emod_nonneg k.toInt (by omega : (n : Int) ≠ 0)
  have q2 := Int.emod_lt_of_pos k.toInt (by omega : (0 : Int) < n)
  have k1 : (0 : Int32).toInt = 0 := rfl
  rw [Int32.lt_iff_toInt_lt, Int32.lt_iff_toInt_lt, k1, k2, r]
  omega
theorem i32_succ {w : Int32} {n : Nat} (h : ¬ w < 0 ∧ w < Int32.ofNat n) (hn : n < 2147483647) : (¬ (w + 1) < 0 ∧ (w + 1) < Int32.ofNat (n + 1)) ∧ (w + 1).toNatClampNeg = w.toNatClampNeg + 1 := by
  obtain ⟨h1, h2⟩ := h
  have e1 := rng32 w
  rw [Int32.lt_iff_toInt_lt] at h1 h2
  have k1 : (0 : Int32).toInt = 0 := rfl
  have k3 : (1 : Int32).toInt = 1 := rfl
  have k2 : (Int32.ofNat n).toInt = n := Int32.toInt_ofNat_of_lt (by omega)
  have k4 : (Int32.ofNat (n + 1)).toInt = ((n + 1 : Nat) : Int) := Int32.toInt_ofNat_of_lt (by omega)
  rw [k1] at h1; rw [k2] at h2
  have e : (w + 1).toInt = w.toInt + 1 := by
    rw [Jvm.Free.XT.add32, k3]; rw [k3]; exact ⟨by omega, by omega⟩
  refine ⟨?_, ?_⟩
  · rw [Int32.lt_iff_toInt_lt, Int32.lt_iff_toInt_lt, k1, k4, e]; omega
  · show (w + 1).toInt.toNat = w.toInt.toNat + 1
    rw [e]; omega
theorem idx_of {n j : Int32} (h1 : ¬ j < 0) (h2 : j < n) : ¬ j < 0 ∧ j < n := ⟨h1, h2⟩
theorem E_iaload (cx : Cx l Z n0 p e R s m args below meth c bytes ml own name rt Q F S) (st : S kc ks T h) {a : Addr} {kA : ClassId} {n j x : Int32} {vs : List Value} {dv : Value} (V : Arv Z h a kA .int n vs dv) (hj : ¬ j < 0 ∧ j < n) (hv : vs.getD j.toNatClampNeg dv = .int x) (hd : decode bytes pc = .ok (.iaload, 1)) (hp : pc + 1 = pc') (k : F T (mkF m pc' L (.int x :: rest))) : F T (mkF m pc L (.int j :: .ref a :: rest)) := by
  subst hp
  obtain ⟨_, _, _, X, q1, -⟩ := cx.open st
  obtain ⟨cl, A, -, S1, N1, H1, G1⟩ := V
  have hin := inb_of S1 hj
  exact cx.step (fun t q => X.iaload cx.1.1 (j := j) (v := .int x) (by rw [q1]; exact A.1) (State.isArrayOf_alike cx.1.2.1.alike A.2.1) A.2.2 hin (H1.at hin hv) (g := mkF m pc L (.int j :: .ref a :: rest)) rfl rfl (cx.dec hd) t q) k
theorem E_laload (cx : Cx l Z n0 p e R s m args below meth c bytes ml own name rt Q F S) (st : S kc ks T h) {a : Addr} {kA : ClassId} {n j : Int32} {x : Int64} {vs : List Value} {dv : Value} (V : Arv Z h a kA .long n vs dv) (hj : ¬ j < 0 ∧ j < n) (hv : vs.getD j.toNatClampNeg dv = .long x) (hd : decode bytes pc = .ok (.laload, 1)) (hp : pc + 1 = pc') (k : F T (mkF m pc' L (.long x :: rest))) : F T (mkF m pc L (.int j :: .ref a :: rest)) := by
  subst hp
  obtain ⟨_, _, _, X, q1, -⟩ := cx.open st
  obtain ⟨cl, A, -, S1, N1, H1, G1⟩ := V
  have hin := inb_of S1 hj
  exact cx.step (fun t q => X.laload cx.1.1 (j := j) (v := .long x) (by rw [q1]; exact A.1) (State.isArrayOf_alike cx.1.2.1.alike A.2.1) A.2.2 hin (H1.at hin hv) (g := mkF m pc L (.int j :: .ref a :: rest)) rfl rfl (cx.dec hd) t q) k
theorem E_iastore (cx : Cx l Z n0 p e R s m args below meth c bytes ml own name rt Q F S) (st : S kc ks T h) {a : Addr} {kA : ClassId} {n j x : Int32} {vs : List Value} {dv : Value} {i : Nat} (V : Arv Z h a kA .int n vs dv) (hj : ¬ j < 0 ∧ j < n) (hi : j.toNatClampNeg = i) (hlt : i < vs.length) (g : n0 ≤ a) (hd : decode bytes pc = .ok (.iastore, 1)) (hp : pc + 1 = pc')
    (k : ∀ T' h', S kc ks T' h' → Wr h h' a i (.int x) → Arv Z h' a kA .int n (vs.set i (.int x)) dv → F T' (mkF m pc' L rest)) : F T (mkF m pc L (.int x :: .int j :: .ref a :: rest)) := by
  subst hp hi
  obtain ⟨_, _, _, X, q1, q2, q3, q4⟩ := cx.open st
  obtain ⟨cl, A, e1, S1, N1, H1, G1⟩ := V
  obtain ⟨T', h', X', e', W, stp⟩ := Jvm.RoadKit.stI X cx.1.1 cx.1.2.1 q1 A (j := j) (x := x) (inb_of S1 hj) (g := mkF m pc L (.int x :: .int j :: .ref a :: rest)) rfl rfl (cx.dec hd)
  refine cx.step stp (k T' h' ?_ W (Arv.set A e1 S1 N1 H1 G1 rfl W _ rfl hlt))
  obtain ⟨-, -, -, rfl⟩ := cx
  exact ⟨_, _, _, X', e', Fr.snoc X' q2 g, q3, q4⟩
theorem E_lastore (cx : Cx l Z n0 p e R s m args below meth c bytes ml own name rt Q F S) (st : S kc ks T h) {a : Addr} {kA : ClassId} {n j : Int32} {x : Int64} {vs : List Value} {dv : Value} {i : Nat} (V : Arv Z h a kA .long n vs dv) (hj : ¬ j < 0 ∧ j < n) (hi : j.toNatClampNeg = i) (hlt : i < vs.length) (g : n0 ≤ a) (hd : decode bytes pc = .ok (.lastore, 1)) (hp : pc + 1 = pc')
    (k : ∀ T' h', S kc ks T' h' → Wr h h' a i (.long x) → Arv Z h' a kA .long n (vs.set i (.long x)) dv → F T' (mkF m pc' L rest)) : F T (mkF m pc L (.long x :: .int j :: .ref a :: rest)) := by
  subst hp hi
  obtain ⟨_, _, _, X, q1, q2, q3, q4⟩ := cx.open st
  obtain ⟨cl, A, e1, S1, N1, H1, G1⟩ := V
  obtain ⟨T', h', X', e', W, stp⟩ := Jvm.RoadKit.stJ X cx.1.1 cx.1.2.1 q1 A (j := j) (x := x) (inb_of S1 hj) (g := mkF m pc L (.long x :: .int j :: .ref a :: rest)) rfl rfl (cx.dec hd)
  refine cx.step stp (k T' h' ?_ W (Arv.set A e1 S1 N1 H1 G1 rfl W _ rfl hlt))
  obtain ⟨-, -, -, rfl⟩ := cx
  exact ⟨_, _, _, X', e', Fr.snoc X' q2 g, q3, q4⟩
theorem E_arraylength (cx : Cx l Z n0 p e R s m args below meth c bytes ml own name rt Q F S) (st : S kc ks T h) {a : Addr} {kA : ClassId} {n : Int32} {ty : FieldType} {vs : List Value} {dv : Value} (V : Arv Z h a kA ty n vs dv) (hd : decode bytes pc = .ok (.arraylength, 1)) (hp : pc + 1 = pc') (k : F T (mkF m pc' L (.int n :: rest))) : F T (mkF m pc L (.ref a :: rest)) := by
  subst hp
  obtain ⟨_, _, _, X, q1, -⟩ := cx.open st
  obtain ⟨cl, A, -, S1, N1, H1, G1⟩ := V
  refine cx.step (fun t q => X.arraylength cx.1.1 (by rw [q1]; exact A.1) (State.isArrayOf_alike cx.1.2.1.alike A.2.1) (g := mkF m pc L (.ref a :: rest)) rfl rfl (cx.dec hd) t ?_) k
  rw [len_of S1 N1]; exact q

theorem E_new (cx : Cx l Z n0 p e R s m args below meth c bytes ml own name rt Q F S) (st : S kc ks T h) {C : String} {idx n : Nat} (w1 : (Jvm.Cond.classLink own idx C).before a0 Z = true) (w2 : (Jvm.Cond.instantiable C n).before a0 Z = true) (w3 : (Jvm.Cond.initialized C).before a0 Z = true) (hd : decode bytes pc = .ok (.new idx, 3)) (hc : kc + 1 ≤ kc') (hs : ks + n ≤ ks') (hc' : kc' ≤ R.cells) (hs' : ks' ≤ R.slots) (hp : pc + 3 = pc')
    (k : ∀ T' h' a, a = h.size → S kc' ks' T' h' → Ext h h' → Exa Z h' a C → (∀ {O nm d : String} {ty : FieldType}, Laid Z a0 C O nm d → parseFieldDescriptor d = some ty → Fld Z h' a O nm d (defaultValue ty)) → F T' (mkF m pc' L (.ref a :: rest))) : F T (mkF m pc L rest) := by
  subst hp
  obtain ⟨locs, cells, slots, X, q1, q2, q3, q4⟩ := cx.open st
  obtain ⟨T', h', X', e', E, A, D, -, stp⟩ := newO X cx.1.1 cx.1.2.1 cx.2.1.1 w1 w2 w3 q1 (g := mkF m pc L rest) rfl (cx.dec hd) (by omega) (by omega)
  refine cx.step stp (k T' h' h.size rfl ?_ E A D)
  obtain ⟨-, -, -, rfl⟩ := cx
  exact ⟨_, _, _, X', e', q2, by omega, by omega⟩
theorem E_initO (cx : Cx l Z n0 p e R s m args below meth c bytes ml own name rt Q F S) (st : S kc ks T h) {a : Addr} {idx W : Nat} (w1 : (Jvm.Cond.methodLink own idx Lib.objectInit).before a0 Z = true) (w2 : (Jvm.Cond.instanceMethod Lib.objectInit).before a0 Z = true) (w3 : (Jvm.Cond.code Lib.objectInit ⟨#[0xb1]⟩ 1 none).before a0 Z = true) (hd : decode bytes pc = .ok (.invokespecial idx, 3)) (hL : L.size = ml) (hf : 1 ≤ R.frames) (hW : (rest.map fun v => v.category).sum ≤ W) (hl : W + 12 ≤ R.locals) (hp : pc + 3 = pc')
    (k : ∀ T', S kc ks T' h → F T' (mkF m pc' L rest)) : F T (mkF m pc L (.ref a :: rest)) := by
  subst hp
  obtain ⟨locs, cells, slots, X, q1, q2, q3, q4⟩ := cx.open st
  obtain ⟨T', X', e', stp⟩ := initO X cx.1.1 cx.1.2.1 cx.2.1.1 w1 w2 w3 q1 (g := mkF m pc L (.ref a :: rest)) rfl (hL.trans cx.1.2.2.2.symm) rfl (cx.dec hd) hf (W := W) (by show 2 * 0 + _ ≤ _; omega) hl
  refine cx.step stp (k T' ?_)
  obtain ⟨-, -, -, rfl⟩ := cx
  exact ⟨_, _, _, X', e', q2, q3, q4⟩
theorem E_getfield (cx : Cx l Z n0 p e R s m args below meth c bytes ml own name rt Q F S) (st : S kc ks T h) {a : Addr} {v : Value} {C n d : String} {idx : Nat} (w : (Jvm.Cond.fieldLink own idx C n d).before a0 Z = true) (G : Fld Z h a C n d v) (hd : decode bytes pc = .ok (.getfield idx, 3)) (hp : pc + 3 = pc')
    (k : ∀ T', S kc ks T' h → F T' (mkF m pc' L (v :: rest))) : F T (mkF m pc L (.ref a :: rest)) := by
  subst hp
  obtain ⟨locs, cells, slots, X, q1, q2, q3, q4⟩ := cx.open st
  obtain ⟨T', X', e', stp⟩ := getF X cx.1.1 cx.1.2.1 cx.2.1.1 (host := "") (Or.inl w) Via.refl q1 G (g := mkF m pc L (.ref a :: rest)) rfl rfl (cx.dec hd)
  refine cx.step stp (k T' ?_)
  obtain ⟨-, -, -, rfl⟩ := cx
  exact ⟨_, _, _, X', e', q2, q3, q4⟩
theorem E_putfield (cx : Cx l Z n0 p e R s m args below meth c bytes ml own name rt Q F S) (st : S kc ks T h) {a : Addr} {v old : Value} {C O n d : String} {idx kk : Nat} {ty : FieldType} (w : (Jvm.Cond.fieldLink own idx O n d).before a0 Z = true) (G : Fld Z h a O n d old) (E : Exa Z h a C) (La : (Jvm.Cond.lays C O n d).before a0 Z = true ∨ ((Jvm.Cond.laysFinal C O n d).before a0 Z = true ∧ own = O ∧ name = "<init>")) (wi : (Jvm.Cond.instantiable C kk).before a0 Z = true)
    (hty : parseFieldDescriptor d = some ty) (hn : narrow ty v = v) (hf : fits ty v = true) (ga : n0 ≤ a) (hd : decode bytes pc = .ok (.putfield idx, 3)) (hp : pc + 3 = pc')
    (k : ∀ T' h', S kc ks T' h' → Wr h h' a (Jvm.RoadKit.slotOf Z O n d) v → F T' (mkF m pc' L rest)) : F T (mkF m pc L (v :: .ref a :: rest)) := by
  subst hp
  obtain ⟨locs, cells, slots, X, q1, q2, q3, q4⟩ := cx.open st
  obtain ⟨T', h', X', e', W, stp⟩ := putF X cx.1.1 cx.1.2.1 cx.2.1.1 (host := "") (Or.inl w) Via.refl q1 G E (La.imp id fun z => ⟨z.1, z.2.1, cx.2.1.2.1.trans z.2.2⟩) wi hty hn hf (g := mkF m pc L (v :: .ref a :: rest)) rfl rfl (cx.dec hd)
  refine cx.step stp (k T' h' ?_ W)
  obtain ⟨-, -, -, rfl⟩ := cx
  exact ⟨_, _, _, X', e', Fr.snoc X' q2 ga, q3, q4⟩
theorem E_callI (cx : Cx l Z n0 p e R s m args below meth c bytes ml own name rt Q F S) (st : S kc ks T h) {y : MethodName} {bytes' : ByteArray} {ml' : Nat} {rm : Room} {a : Addr} {argsL : List Value} {Q' : Option Value → Heap → Prop} {idx W : Nat} {stk : List Value} (rest : List Value)
    (K : Con l Z y bytes' ml' none rm (.ref a :: argsL).toArray h n0 Q') (hy1 : y.name = "<init>") (w1 : (Jvm.Cond.methodLink own idx y).before a0 Z = true) (w2 : (Jvm.Cond.instanceMethod y).before a0 Z = true) (w3 : (Jvm.Cond.initialized y.cls).before a0 Z = true) (w4 : (Jvm.Cond.code y bytes' ml' none).before a0 Z = true)
    (hd : decode bytes pc = .ok (.invokespecial idx, 3)) (hstk : stk = argsL.reverse ++ .ref a :: rest) (hL : L.size = ml) (hlen : ∀ sig, parseMethodDescriptor y.desc = some sig → argsL.length = sig.parameters.length) (hW : (rest.map fun v => v.category).sum ≤ W)
    (hy : y.cls ≠ "java/lang/invoke/MethodHandle" ∧ y.cls ≠ "java/lang/invoke/VarHandle") (hf : rm.frames + 1 ≤ R.frames) (hlo : W + (ml' + 11) + rm.locals ≤ R.locals) (hc : kc + rm.cells ≤ kc') (hs : ks + rm.slots ≤ ks') (hc' : kc' ≤ R.cells) (hs' : ks' ≤ R.slots) (hp : pc + 3 = pc')
    (k : ∀ v T' h', S kc' ks' T' h' → Q' v h' → F T' (mkF m pc' L (v.toList ++ rest))) : F T (mkF m pc L stk) := by
  subst hp
  obtain ⟨locs, cells, slots, X, q1, q2, q3, q4⟩ := cx.open st
  have hZ := cx.1.2.1
  obtain ⟨v, _, ⟨T₁, L₁, k₁, n₁⟩, -, X₁, ⟨Lc, hQ, e1, e2, e3⟩, stp⟩ := X.specialBack cx.1.1 (y := y) hy1 cx.2.1.1 (mvT hZ w1) (mvT hZ w2) (mvT hZ w4) hy (backOf (W := W) (Q := fun v h L => Fr n0 L ∧ Q' v h) (K []) hZ w4 w3 hf hlo) (g := mkF m pc L stk) rfl (hL.trans cx.1.2.2.2.symm) (Steps.refl _) (a := a) (argsL := argsL) (rest := rest) hlen hstk (by show 2 * 0 + _ ≤ _; omega) (cx.dec hd) (fun _ _ => ⟨rfl, q1, by dsimp only [Pt.cells]; omega, by dsimp only [Pt.slots]; omega⟩)
  dsimp only [Pt.U, Pt.locs, Pt.cells, Pt.slots] at X₁ e1 e2 e3 stp hQ
  subst e1 e2 e3
  refine cx.step (fun _ q => stp.trans q) (k v T₁ T₁.heap ?_ hQ.2)
  obtain ⟨-, -, -, rfl⟩ := cx
  exact ⟨_, _, _, X₁, rfl, Fr.app q2 hQ.1, by omega, by omega⟩
theorem E_callV (cx : Cx l Z n0 p e R s m args below meth c bytes ml own name rt Q F S) (st : S kc ks T h) {y : MethodName} {bytes' : ByteArray} {ml' : Nat} {rt' : Option FieldType} {rm : Room} {a : Addr} {argsL : List Value} {Q' : Option Value → Heap → Prop} {idx W : Nat} {stk : List Value} (rest : List Value)
    (K : Con l Z y bytes' ml' rt' rm (.ref a :: argsL).toArray h n0 Q') (E : Exa Z h a y.cls) (w1 : (Jvm.Cond.methodLink own idx y).before a0 Z = true) (w5 : (Jvm.Cond.declares y).before a0 Z = true) (w6 : (Jvm.Cond.selects y.cls y y).before a0 Z = true) (w2 : (Jvm.Cond.instanceMethod y).before a0 Z = true) (w3 : (Jvm.Cond.initialized y.cls).before a0 Z = true) (w4 : (Jvm.Cond.code y bytes' ml' rt').before a0 Z = true)
    (hd : decode bytes pc = .ok (.invokevirtual idx, 3)) (hstk : stk = argsL.reverse ++ .ref a :: rest) (hL : L.size = ml) (hlen : ∀ sig, parseMethodDescriptor y.desc = some sig → argsL.length = sig.parameters.length) (hW : (rest.map fun v => v.category).sum ≤ W)
    (hy : y.cls ≠ "java/lang/invoke/MethodHandle" ∧ y.cls ≠ "java/lang/invoke/VarHandle") (hf : rm.frames + 1 ≤ R.frames) (hlo : W + (ml' + 11) + rm.locals ≤ R.locals) (hc : kc + rm.cells ≤ kc') (hs : ks + rm.slots ≤ ks') (hc' : kc' ≤ R.cells) (hs' : ks' ≤ R.slots) (hp : pc + 3 = pc')
    (k : ∀ v T' h', S kc' ks' T' h' → Q' v h' → F T' (mkF m pc' L (v.toList ++ rest))) : F T (mkF m pc L stk) := by
  subst hp
  obtain ⟨locs, cells, slots, X, q1, q2, q3, q4⟩ := cx.open st
  have hZ := cx.1.2.1
  obtain ⟨cq, kq, qa, qb, qc⟩ := isOf hZ q1 E
  obtain ⟨v, _, ⟨T₁, L₁, k₁, n₁⟩, -, X₁, ⟨Lc, hQ, e1, e2, e3⟩, stp⟩ := X.virtualBack cx.1.1 (y := y) (z := y) cx.2.1.1 (mvT hZ w1) (mvT hZ w5) (notFace_of_selects (args := #[]) (mvT hZ w6)) (mvT hZ w6) (mvT hZ w2) hy (backOf (W := W) (Q := fun v h L => Fr n0 L ∧ Q' v h) (K []) hZ w4 w3 hf hlo) qa qc (g := mkF m pc L stk) rfl (hL.trans cx.1.2.2.2.symm) (Steps.refl _) (argsL := argsL) (rest := rest) hlen hstk (by show 2 * 0 + _ ≤ _; omega) (cx.dec hd) (fun _ _ => ⟨rfl, q1, by dsimp only [Pt.cells]; omega, by dsimp only [Pt.slots]; omega⟩)
  dsimp only [Pt.U, Pt.locs, Pt.cells, Pt.slots] at X₁ e1 e2 e3 stp hQ
  subst e1 e2 e3
  refine cx.step (fun _ q => stp.trans q) (k v T₁ T₁.heap ?_ hQ.2)
  obtain ⟨-, -, -, rfl⟩ := cx
  exact ⟨_, _, _, X₁, rfl, Fr.app q2 hQ.1, by omega, by omega⟩
theorem E_callP (cx : Cx l Z n0 p e R s m args below meth c bytes ml own name rt Q F S) (st : S kc ks T h) {y : MethodName} {bytes' : ByteArray} {ml' : Nat} {rt' : Option FieldType} {rm : Room} {a : Addr} {argsL : List Value} {Q' : Option Value → Heap → Prop} {idx W : Nat} {stk : List Value} (rest : List Value)
    (K : Con l Z y bytes' ml' rt' rm (.ref a :: argsL).toArray h n0 Q') (E : Exa Z h a y.cls) (w1 : (Jvm.Cond.methodLink own idx y).before a0 Z = true) (w5 : (Jvm.Cond.privateMethod y).before a0 Z = true) (w6 : (Jvm.Cond.selects y.cls y y).before a0 Z = true) (w2 : (Jvm.Cond.instanceMethod y).before a0 Z = true) (w3 : (Jvm.Cond.initialized y.cls).before a0 Z = true) (w4 : (Jvm.Cond.code y bytes' ml' rt').before a0 Z = true)
    (hd : decode bytes pc = .ok (.invokevirtual idx, 3)) (hstk : stk = argsL.reverse ++ .ref a :: rest) (hL : L.size = ml) (hlen : ∀ sig, parseMethodDescriptor y.desc = some sig → argsL.length = sig.parameters.length) (hW : (rest.map fun v => v.category).sum ≤ W)
    (hy : y.cls ≠ "java/lang/invoke/MethodHandle" ∧ y.cls ≠ "java/lang/invoke/VarHandle") (hf : rm.frames + 1 ≤ R.frames) (hlo : W + (ml' + 11) + rm.locals ≤ R.locals) (hc : kc + rm.cells ≤ kc') (hs : ks + rm.slots ≤ ks') (hc' : kc' ≤ R.cells) (hs' : ks' ≤ R.slots) (hp : pc + 3 = pc')
    (k : ∀ v T' h', S kc' ks' T' h' → Q' v h' → F T' (mkF m pc' L (v.toList ++ rest))) : F T (mkF m pc L stk) := by
  subst hp
  obtain ⟨locs, cells, slots, X, q1, q2, q3, q4⟩ := cx.open st
  have hZ := cx.1.2.1
  obtain ⟨cq, qa, qb⟩ := E.cell
  obtain ⟨v, _, ⟨T₁, L₁, k₁, n₁⟩, -, X₁, ⟨Lc, hQ, e1, e2, e3⟩, stp⟩ := X.privateBack cx.1.1 (y := y) cx.2.1.1 (mvT hZ w1) (mvT hZ w2) (mvT hZ w6) (Cond.privateMethod_at (mvP hZ w5 (args := #[]))) (mvT hZ w4) hy (backOf (W := W) (Q := fun v h L => Fr n0 L ∧ Q' v h) (K []) hZ w4 w3 hf hlo) (g := mkF m pc L stk) rfl (hL.trans cx.1.2.2.2.symm) (Steps.refl _) (a := a) (by rw [q1]; exact qa) qb (argsL := argsL) (rest := rest) hlen hstk (by show 2 * 0 + _ ≤ _; omega) (cx.dec hd) (fun _ _ => ⟨rfl, q1, by dsimp only [Pt.cells]; omega, by dsimp only [Pt.slots]; omega⟩)
  dsimp only [Pt.U, Pt.locs, Pt.cells, Pt.slots] at X₁ e1 e2 e3 stp hQ
  subst e1 e2 e3
  refine cx.step (fun _ q => stp.trans q) (k v T₁ T₁.heap ?_ hQ.2)
  obtain ⟨-, -, -, rfl⟩ := cx
  exact ⟨_, _, _, X₁, rfl, Fr.app q2 hQ.1, by omega, by omega⟩
theorem E_clone (cx : Cx l Z n0 p e R s m args below meth c bytes ml own name rt Q F S) (st : S kc ks T h) {a : Addr} {ad : String} {idx W cap : Nat} {kA : ClassId} {z : Int32} {vs : List Value} {dv : Value} {ty : FieldType} (V : Arv Z h a kA ty z vs dv) (E : Exa Z h a ad)
    (w1 : (Jvm.Cond.methodLink own idx ⟨ad, "clone", "()Ljava/lang/Object;"⟩).before a0 Z = true) (w2 : (Jvm.Cond.sameMethod ad "java/lang/Object" "clone" "()Ljava/lang/Object;").before a0 Z = true) (w3 : (Jvm.Cond.native ⟨"java/lang/Object", "clone", "()Ljava/lang/Object;"⟩).before a0 Z = true)
    (w4 : (Jvm.Cond.instanceMethod ⟨"java/lang/Object", "clone", "()Ljava/lang/Object;"⟩).before a0 Z = true) (w5 : (Jvm.Cond.selects ad ⟨ad, "clone", "()Ljava/lang/Object;"⟩ ⟨"java/lang/Object", "clone", "()Ljava/lang/Object;"⟩).before a0 Z = true) (w6 : (Jvm.Cond.castable ad "java/lang/Cloneable").before a0 Z = true)
    (hd : decode bytes pc = .ok (.invokevirtual idx, 3)) (hL : L.size = ml) (hf : 1 ≤ R.frames) (hW : (rest.map fun v => v.category).sum ≤ W) (hlo : W + 14 ≤ R.locals) (hcap : z.toNatClampNeg ≤ cap) (hc : kc + 1 ≤ kc') (hs : ks + cap ≤ ks') (hc' : kc' ≤ R.cells) (hs' : ks' ≤ R.slots) (hp : pc + 3 = pc')
    (k : ∀ T' h' b, b = h.size → S kc' ks' T' h' → Ext h h' → Arv Z h' b kA ty z vs dv → Exa Z h' b ad → F T' (mkF m pc' L (.ref b :: rest))) : F T (mkF m pc L (.ref a :: rest)) := by
  subst hp
  obtain ⟨locs, cells, slots, X, q1, q2, q3, q4⟩ := cx.open st
  obtain ⟨cl, A, e1, S1, e3, H, G⟩ := V
  have FC : FitC Z cl := fitC_of A fun i hi v hv => by rw [H i hi] at hv; cases hv; exact G i hi
  obtain ⟨T', h', X', e', ex, A', E', stp⟩ := cloneA X cx.1.1 cx.1.2.1 cx.2.1.1 w1 w2 w3 w4 w5 w6 q1 A E FC (g := mkF m pc L (.ref a :: rest)) rfl (hL.trans cx.1.2.2.2.symm) rfl (cx.dec hd) hf (W := W) (cap := cap) (by show 2 * 0 + _ ≤ _; omega) hlo (by rw [S1]; exact hcap) (by omega) (by omega)
  refine cx.step stp (k T' h' h.size rfl ?_ ex ⟨cloneOf cl, A', e1, S1, e3, H, G⟩ E')
  obtain ⟨-, -, -, rfl⟩ := cx
  exact ⟨_, _, _, X', e', q2, by omega, by omega⟩
theorem E_checkcast (cx : Cx l Z n0 p e R s m args below meth c bytes ml own name rt Q F S) (st : S kc ks T h) {a : Addr} {C : String} {idx : Nat} (w : (Jvm.Cond.classLink own idx C).before a0 Z = true) (I : Ins Z h a C true) (hd : decode bytes pc = .ok (.checkcast idx, 3)) (hp : pc + 3 = pc')
    (k : ∀ T', S kc ks T' h → F T' (mkF m pc' L (.ref a :: rest))) : F T (mkF m pc L (.ref a :: rest)) := by
  subst hp
  obtain ⟨locs, cells, slots, X, q1, q2, q3, q4⟩ := cx.open st
  obtain ⟨T', X', e', stp⟩ := castY X cx.1.1 cx.1.2.1 cx.2.1.1 w q1 I (g := mkF m pc L (.ref a :: rest)) rfl rfl (cx.dec hd)
  refine cx.step stp (k T' ?_)
  obtain ⟨-, -, -, rfl⟩ := cx
  exact ⟨_, _, _, X', e', q2, q3, q4⟩
theorem E_aaload (cx : Cx l Z n0 p e R s m args below meth c bytes ml own name rt Q F S) (st : S kc ks T h) {a : Addr} {kA : ClassId} {n j : Int32} {ty : FieldType} {v : Value} {vs : List Value} {dv : Value} (V : Arv Z h a kA ty n vs dv) (hty : ty.isReference = true) (hj : ¬ j < 0 ∧ j < n) (hv : vs.getD j.toNatClampNeg dv = v) (hd : decode bytes pc = .ok (.aaload, 1)) (hp : pc + 1 = pc') (k : F T (mkF m pc' L (v :: rest))) : F T (mkF m pc L (.int j :: .ref a :: rest)) := by
  subst hp
  obtain ⟨_, _, _, X, q1, -⟩ := cx.open st
  obtain ⟨cl, A, -, S1, N1, H1, G1⟩ := V
  have hin := inb_of S1 hj
  exact cx.step (fun t q => X.aaload cx.1.1 (j := j) (v := v) (by rw [q1]; exact A.1) (State.isArrayOf_alike cx.1.2.1.alike A.2.1) hty A.2.2 hin (H1.at hin hv) (g := mkF m pc L (.int j :: .ref a :: rest)) rfl rfl (cx.dec hd) t q) k
theorem E_aastore (cx : Cx l Z n0 p e R s m args below meth c bytes ml own name rt Q F S) (st : S kc ks T h) {a : Addr} {kA : ClassId} {n j : Int32} {ty : FieldType} {v : Value} {vs : List Value} {dv : Value} {i : Nat} (V : Arv Z h a kA ty n vs dv) (hty : ty.isReference = true) (hst : Sto Z h a v) (hfv : fits ty v = true) (hj : ¬ j < 0 ∧ j < n) (hi : j.toNatClampNeg = i) (hlt : i < vs.length) (g : n0 ≤ a) (hd : decode bytes pc = .ok (.aastore, 1)) (hp : pc + 1 = pc')
    (k : ∀ T' h', S kc ks T' h' → Wr h h' a i v → Arv Z h' a kA ty n (vs.set i v) dv → F T' (mkF m pc' L rest)) : F T (mkF m pc L (v :: .int j :: .ref a :: rest)) := by
  subst hp hi
  obtain ⟨_, _, _, X, q1, q2, q3, q4⟩ := cx.open st
  obtain ⟨cl, A, e1, S1, N1, H1, G1⟩ := V
  obtain ⟨T', h', X', e', W, stp⟩ := Jvm.RoadKit.stR X cx.1.1 cx.1.2.1 q1 A (j := j) (inb_of S1 hj) hty hst (g := mkF m pc L (v :: .int j :: .ref a :: rest)) rfl rfl (cx.dec hd)
  refine cx.step stp (k T' h' ?_ W (Arv.set A e1 S1 N1 H1 G1 hfv W _ rfl hlt))
  obtain ⟨-, -, -, rfl⟩ := cx
  exact ⟨_, _, _, X', e', Fr.snoc X' q2 g, q3, q4⟩
theorem E_arraycopy (cx : Cx l Z n0 p e R s m args below meth c bytes ml own name rt Q F S) (st : S kc ks T h) {a b : Addr} {kA kB : ClassId} {ty : FieldType} {z z' sp dp nn : Int32} {vs vd us : List Value} {dv dd : Value} {idx W : Nat} (A : Arv Z h a kA ty z vs dv) (B : Arv Z h b kB ty z' vd dd) (hty : refKind ty = false)
    (w1 : (Jvm.Cond.methodLink own idx Jvm.Stand.acN).before a0 Z = true) (w2 : (Jvm.Cond.native Jvm.Stand.acN).before a0 Z = true) (w3 : (Jvm.Cond.static Jvm.Stand.acN).before a0 Z = true) (w4 : (Jvm.Cond.initialized "java/lang/System").before a0 Z = true)
    (h1 : ¬ sp < 0) (h2 : ¬ dp < 0) (h3 : ¬ nn < 0) (h4 : sp.toNatClampNeg + nn.toNatClampNeg ≤ z.toNatClampNeg) (h5 : dp.toNatClampNeg + nn.toNatClampNeg ≤ z'.toNatClampNeg) (hus : us = (List.range nn.toNatClampNeg).map fun i => vs.getD (sp.toNatClampNeg + i) dv) (hl : dp.toNatClampNeg + nn.toNatClampNeg ≤ vd.length) (ge : n0 ≤ b)
    (hd : decode bytes pc = .ok (.invokestatic idx, 3)) (hL : L.size = ml) (hf : 1 ≤ R.frames) (hW : (rest.map fun v => v.category).sum ≤ W) (hlo : W + (nativeFrameWords "java/lang/System" "arraycopy" 5 + 11) ≤ R.locals) (hp : pc + 3 = pc')
    (k : ∀ T' h', S kc ks T' h' → Keep h h' [b] → Arv Z h' b kB ty z' (vd.take dp.toNatClampNeg ++ us ++ vd.drop (dp.toNatClampNeg + nn.toNatClampNeg)) dd → F T' (mkF m pc' L rest)) : F T (mkF m pc L (.int nn :: .int dp :: .ref b :: .int sp :: .ref a :: rest)) := by
  subst hp
  obtain ⟨locs, cells, slots, X, q1, q2, q3, q4⟩ := cx.open st
  obtain ⟨T', h', L', X', e', N', K', B', stp⟩ := cpA X cx.1.1 cx.1.2.1 cx.2.1.1 w1 w2 w3 w4 q1 A B (Or.inl ⟨rfl, hty⟩) h1 h2 h3 h4 h5 hus hl q2 ge (g := mkF m pc L (.int nn :: .int dp :: .ref b :: .int sp :: .ref a :: rest)) rfl (hL.trans cx.1.2.2.2.symm) rfl (cx.dec hd) hf (W := W) (by show 2 * 0 + _ ≤ _; omega) hlo
  refine cx.step stp (k T' h' ?_ K' B')
  obtain ⟨-, -, -, rfl⟩ := cx
  exact ⟨_, _, _, X', e', N', q3, q4⟩
theorem E_grid (cx : Cx l Z n0 p e R s m args below meth c bytes ml own name rt Q F S) (st : S kc ks T h) {ty : FieldType} {C ad : String} {idx : Nat} {n j : Int32} {N cap : Nat} (hC : (FieldType.array ty).toString = C) (had : "[" ++ C = ad) (w1 : (Jvm.Cond.classLink own idx ad).before a0 Z = true) (w2 : (Jvm.Cond.arrayOver (.array ty)).before a0 Z = true) (w3 : (Jvm.Cond.arrayClass ty).before a0 Z = true) (hd : decode bytes pc = .ok (.multianewarray idx 2, 4))
    (hn : ¬ n < 0) (hj : ¬ j < 0) (hN : n.toNatClampNeg = N) (hcap : j.toNatClampNeg ≤ cap) (hb : cap * 8 ≤ 536870912) (hb1 : N ≤ 1000) (hdf : fits ty (defaultValue ty) = true) (hdd : (defaultValue ty).isDefault = true) (hc : kc + (1 + N) ≤ kc') (hs : ks + (N + N * cap) ≤ ks') (hc' : kc' ≤ R.cells) (hs' : ks' ≤ R.slots) (hp : pc + 4 = pc')
    (k : ∀ T' h' cA cB, S kc' ks' T' h' → Ext h h' → Arv Z h' h.size cA (.array ty) n (((List.range N).map fun i => h.size + 1 + i).map .ref) .null → (∀ i, i < N → Arv Z h' (h.size + 1 + i) cB ty j [] (defaultValue ty)) → F T' (mkF m pc' L (.ref h.size :: rest))) : F T (mkF m pc L (.int j :: .int n :: rest)) := by
  subst hp
  obtain ⟨locs, cells, slots, X, q1, q2, q3, q4⟩ := cx.open st
  obtain ⟨T', h', cA, cB, X', e', E, A, -, -, D, stp⟩ := gridM X cx.1.1 cx.1.2.1 cx.2.1.1 hC had w1 w2 w3 q1 (g := mkF m pc L (.int j :: .int n :: rest)) rfl (cx.dec hd) rfl hn hj hN rfl (cap := cap) hcap hb hb1 hdf hdd (by omega) (by omega)
  refine cx.step stp (k T' h' cA cB ?_ E A fun i hi => Arv.new (D i _ (by simp [hi])).1 hj)
  obtain ⟨-, -, -, rfl⟩ := cx
  exact ⟨_, _, _, X', e', q2, by omega, by omega⟩
end OwnKit
def wof (a : Int32) : Int32 := ((a.toUInt32 >>> ((6 : Int32) &&& 31).toUInt32).toInt32)
def bitof (a : Int32) : Int64 := ((1 : Int64) <<< (a &&& 0x3f).toInt64)
def mnI (a b : Int32) : Int32 := (if b < a then b else a)
def AA (t : List Int64) (a : Int32) : Prop := t.getD (wof a).toNatClampNeg 0 &&& bitof a = bitof a
def NN (t : List Int64) (a : Int32) : Prop := t.getD (wof a).toNatClampNeg 0 &&& bitof a = 0
def BB (a : Int32) : Prop := ¬ a < 0 ∧ a < 128
def allB (t : List Int64) : List Int32 → List Int64 → Bool
  | w :: ws, m :: ms => decide (t.getD w.toNatClampNeg 0 &&& m = m) && allB t ws ms
  | _, _ => true
def nonB (t : List Int64) : List Int32 → List Int64 → Bool
  | w :: ws, m :: ms => decide (t.getD w.toNatClampNeg 0 &&& m = 0) && nonB t ws ms
  | _, _ => true
theorem d8_0 : decode prog_27_method_7_code 0 = .ok (.iload_n 0, 1) := by decide +kernel
theorem d8_1 : decode prog_27_method_7_code 1 = .ok (.bipush 6, 2) := by decide +kernel
theorem d8_3 : decode prog_27_method_7_code 3 = .ok (.iushr, 1) := by decide +kernel
theorem d8_4 : decode prog_27_method_7_code 4 = .ok (.ireturn, 1) := by decide +kernel
theorem pn_0 : plainName "com/example/flat_planner/flatplanner/StateBits" = true := by first | (simp [plainName, overriddenIn]; done) | decide +kernel
theorem ef_8 (m : MethodId) (x0 : Int32) : entryFrame m #[(.int x0)] 1 = mkF m 0 #[.val (.int x0)] [] := by first | (simp [entryFrame, mkF, argsToLocals, Value.category]; done) | rfl
set_option maxRecDepth 65536 in
set_option maxHeartbeats 40000000 in
theorem rm8 (l : Launch) (Z : State) (a0 : Array Value) (hw : ∀ d ∈ tables_1, d.before a0 Z = true) (p0 : Int32) (h0 : Heap) (n0 : Nat) (Z0 : n0 ≤ h0.size) :
    Con l Z (⟨"com/example/flat_planner/flatplanner/StateBits", "word", "(I)I"⟩ : MethodName) prog_27_method_7_code 1 (some .int) ({ frames := 0, cells := 0, slots := 0, locals := 0 } : Room) #[(.int p0)] h0 n0 (fun v h => v = some (.int (wof p0)) ∧ h = h0) := by
  refine Con.of (own := "com/example/flat_planner/flatplanner/StateBits") (name := "word") (plainFor_of_name pn_0) (fun m => ef_8 m p0) rfl rfl ?_
  intro p e s m below meth c T F S cx st
  refine E_iloadN (pc' := 1) cx st d8_0 rfl rfl ?_
  refine E_bipush (pc' := 3) cx st (6 : Int32) d8_1 rfl rfl ?_
  refine E_iushr (pc' := 4) cx st d8_3 rfl ?_
  refine E_ireturn (t := .int) cx st d8_4 rfl (by simp) rfl (by decide) (by decide) ?_
  exact ⟨rfl, rfl⟩
theorem d9_0 : decode prog_27_method_8_code 0 = .ok (.lconst 1, 1) := by decide +kernel
theorem d9_1 : decode prog_27_method_8_code 1 = .ok (.iload_n 0, 1) := by decide +kernel
theorem d9_2 : decode prog_27_method_8_code 2 = .ok (.lshl, 1) := by decide +kernel
theorem d9_3 : decode prog_27_method_8_code 3 = .ok (.lreturn, 1) := by decide +kernel
theorem ef_9 (m : MethodId) (x0 : Int32) : entryFrame m #[(.int x0)] 1 = mkF m 0 #[.val (.int x0)] [] := by first | (simp [entryFrame, mkF, argsToLocals, Value.category]; done) | rfl
set_option maxRecDepth 65536 in
set_option maxHeartbeats 40000000 in
theorem rm9 (l : Launch) (Z : State) (a0 : Array Value) (hw : ∀ d ∈ tables_1, d.before a0 Z = true) (p0 : Int32) (h0 : Heap) (n0 : Nat) (Z0 : n0 ≤ h0.size) :
    Con l Z (⟨"com/example/flat_planner/flatplanner/StateBits", "bit", "(I)J"⟩ : MethodName) prog_27_method_8_code 1 (some .long) ({ frames := 0, cells := 0, slots := 0, locals := 0 } : Room) #[(.int p0)] h0 n0 (fun v h => v = some (.long (bitof p0)) ∧ h = h0) := by
  refine Con.of (own := "com/example/flat_planner/flatplanner/StateBits") (name := "bit") (plainFor_of_name pn_0) (fun m => ef_9 m p0) rfl rfl ?_
  intro p e s m below meth c T F S cx st
  refine E_lconst (pc' := 1) cx st (1 : Int64) d9_0 rfl rfl ?_
  refine E_iloadN (pc' := 2) cx st d9_1 rfl rfl ?_
  refine E_lshl (pc' := 3) cx st d9_2 rfl ?_
  refine E_lreturn cx st d9_3 rfl (by decide) (by decide) ?_
  exact ⟨rfl, rfl⟩
theorem d13_0 : decode jdk_29_method_69_code 0 = .ok (.iload_n 0, 1) := by decide +kernel
theorem d13_1 : decode jdk_29_method_69_code 1 = .ok (.iload_n 1, 1) := by decide +kernel
theorem d13_2 : decode jdk_29_method_69_code 2 = .ok (.if_icmp .gt 7, 3) := by decide +kernel
theorem d13_5 : decode jdk_29_method_69_code 5 = .ok (.iload_n 0, 1) := by decide +kernel
theorem d13_6 : decode jdk_29_method_69_code 6 = .ok (.goto 4, 3) := by decide +kernel
theorem d13_9 : decode jdk_29_method_69_code 9 = .ok (.iload_n 1, 1) := by decide +kernel
theorem d13_10 : decode jdk_29_method_69_code 10 = .ok (.ireturn, 1) := by decide +kernel
theorem ef_13 (m : MethodId) (x0 : Int32) (x1 : Int32) : entryFrame m #[(.int x0), (.int x1)] 2 = mkF m 0 #[.val (.int x0), .val (.int x1)] [] := by first | (simp [entryFrame, mkF, argsToLocals, Value.category]; done) | rfl
set_option maxRecDepth 65536 in
set_option maxHeartbeats 40000000 in
theorem rm13 (l : Launch) (Z : State) (a0 : Array Value) (hw : ∀ d ∈ tables_1, d.before a0 Z = true) (p0 : Int32) (p1 : Int32) (h0 : Heap) (n0 : Nat) (Z0 : n0 ≤ h0.size) :
    Con l Z (⟨"java/lang/Math", "min", "(II)I"⟩ : MethodName) jdk_29_method_69_code 2 (some .int) ({ frames := 0, cells := 0, slots := 0, locals := 0 } : Room) #[(.int p0), (.int p1)] h0 n0 (fun v h => v = some (.int (mnI p0 p1)) ∧ h = h0) := by
  refine Con.of (own := "java/lang/Math") (name := "min") (Jvm.Free.JP.mathPlain rfl (by decide +kernel)) (fun m => ef_13 m p0 p1) rfl rfl ?_
  intro p e s m below meth c T F S cx st
  refine E_iloadN (pc' := 1) cx st d13_0 rfl rfl ?_
  refine E_iloadN (pc' := 2) cx st d13_1 rfl rfl ?_
  by_cases c1 : p1 < p0
  · refine E_icmp_gtY (pc' := 9) cx st d13_2 (by decide) (by decide) c1 ?_
    refine E_iloadN (pc' := 10) cx st d13_9 rfl rfl ?_
    refine E_ireturn (t := .int) cx st d13_10 rfl (by simp) rfl (by decide) (by decide) ?_
    exact ⟨by unfold mnI; rw [if_pos c1], rfl⟩
  · refine E_icmp_gtN (pc' := 5) cx st d13_2 rfl c1 ?_
    refine E_iloadN (pc' := 6) cx st d13_5 rfl rfl ?_
    refine E_goto (pc' := 10) cx st d13_6 (by decide) (by decide) ?_
    refine E_ireturn (t := .int) cx st d13_10 rfl (by simp) rfl (by decide) (by decide) ?_
    exact ⟨by unfold mnI; rw [if_neg c1], rfl⟩
theorem d7_0 : decode jdk_2529_method_6_code 0 = .ok (.iload_n 1, 1) := by decide +kernel
theorem d7_1 : decode jdk_2529_method_6_code 1 = .ok (.istore 4, 2) := by decide +kernel
theorem d7_3 : decode jdk_2529_method_6_code 3 = .ok (.iinc 4 1, 3) := by decide +kernel
theorem d7_6 : decode jdk_2529_method_6_code 6 = .ok (.iload 4, 2) := by decide +kernel
theorem d7_8 : decode jdk_2529_method_6_code 8 = .ok (.iload_n 2, 1) := by decide +kernel
theorem d7_9 : decode jdk_2529_method_6_code 9 = .ok (.if_icmp .ge 58, 3) := by decide +kernel
theorem d7_12 : decode jdk_2529_method_6_code 12 = .ok (.aload_n 0, 1) := by decide +kernel
theorem d7_13 : decode jdk_2529_method_6_code 13 = .ok (.iload 4, 2) := by decide +kernel
theorem d7_15 : decode jdk_2529_method_6_code 15 = .ok (.dup, 1) := by decide +kernel
theorem d7_16 : decode jdk_2529_method_6_code 16 = .ok (.istore_n 3, 1) := by decide +kernel
theorem d7_17 : decode jdk_2529_method_6_code 17 = .ok (.iaload, 1) := by decide +kernel
theorem d7_18 : decode jdk_2529_method_6_code 18 = .ok (.istore 5, 2) := by decide +kernel
theorem d7_20 : decode jdk_2529_method_6_code 20 = .ok (.iload 5, 2) := by decide +kernel
theorem d7_22 : decode jdk_2529_method_6_code 22 = .ok (.aload_n 0, 1) := by decide +kernel
theorem d7_23 : decode jdk_2529_method_6_code 23 = .ok (.iload_n 3, 1) := by decide +kernel
theorem d7_24 : decode jdk_2529_method_6_code 24 = .ok (.iconst 1, 1) := by decide +kernel
theorem d7_25 : decode jdk_2529_method_6_code 25 = .ok (.isub, 1) := by decide +kernel
theorem d7_26 : decode jdk_2529_method_6_code 26 = .ok (.iaload, 1) := by decide +kernel
theorem d7_27 : decode jdk_2529_method_6_code 27 = .ok (.if_icmp .ge 37, 3) := by decide +kernel
theorem d7_30 : decode jdk_2529_method_6_code 30 = .ok (.iinc 3 (-1), 3) := by decide +kernel
theorem d7_33 : decode jdk_2529_method_6_code 33 = .ok (.iload_n 3, 1) := by decide +kernel
theorem d7_34 : decode jdk_2529_method_6_code 34 = .ok (.iload_n 1, 1) := by decide +kernel
theorem d7_35 : decode jdk_2529_method_6_code 35 = .ok (.if_icmp .lt 22, 3) := by decide +kernel
theorem d7_38 : decode jdk_2529_method_6_code 38 = .ok (.iload 5, 2) := by decide +kernel
theorem d7_40 : decode jdk_2529_method_6_code 40 = .ok (.aload_n 0, 1) := by decide +kernel
theorem d7_41 : decode jdk_2529_method_6_code 41 = .ok (.iload_n 3, 1) := by decide +kernel
theorem d7_42 : decode jdk_2529_method_6_code 42 = .ok (.iaload, 1) := by decide +kernel
theorem d7_43 : decode jdk_2529_method_6_code 43 = .ok (.if_icmp .ge 14, 3) := by decide +kernel
theorem d7_46 : decode jdk_2529_method_6_code 46 = .ok (.aload_n 0, 1) := by decide +kernel
theorem d7_47 : decode jdk_2529_method_6_code 47 = .ok (.iload_n 3, 1) := by decide +kernel
theorem d7_48 : decode jdk_2529_method_6_code 48 = .ok (.iconst 1, 1) := by decide +kernel
theorem d7_49 : decode jdk_2529_method_6_code 49 = .ok (.iadd, 1) := by decide +kernel
theorem d7_50 : decode jdk_2529_method_6_code 50 = .ok (.aload_n 0, 1) := by decide +kernel
theorem d7_51 : decode jdk_2529_method_6_code 51 = .ok (.iload_n 3, 1) := by decide +kernel
theorem d7_52 : decode jdk_2529_method_6_code 52 = .ok (.iaload, 1) := by decide +kernel
theorem d7_53 : decode jdk_2529_method_6_code 53 = .ok (.iastore, 1) := by decide +kernel
theorem d7_54 : decode jdk_2529_method_6_code 54 = .ok (.goto (-24), 3) := by decide +kernel
theorem d7_57 : decode jdk_2529_method_6_code 57 = .ok (.aload_n 0, 1) := by decide +kernel
theorem d7_58 : decode jdk_2529_method_6_code 58 = .ok (.iload_n 3, 1) := by decide +kernel
theorem d7_59 : decode jdk_2529_method_6_code 59 = .ok (.iconst 1, 1) := by decide +kernel
theorem d7_60 : decode jdk_2529_method_6_code 60 = .ok (.iadd, 1) := by decide +kernel
theorem d7_61 : decode jdk_2529_method_6_code 61 = .ok (.iload 5, 2) := by decide +kernel
theorem d7_63 : decode jdk_2529_method_6_code 63 = .ok (.iastore, 1) := by decide +kernel
theorem d7_64 : decode jdk_2529_method_6_code 64 = .ok (.goto (-61), 3) := by decide +kernel
theorem d7_67 : decode jdk_2529_method_6_code 67 = .ok (.return_, 1) := by decide +kernel
theorem pn_1 : plainName "java/util/DualPivotQuicksort" = true := by first | (simp [plainName, overriddenIn]; done) | decide +kernel
theorem ef_7n0 (m : MethodId) (x0 : Addr) (x1 : Int32) (x2 : Int32) : entryFrame m #[(.ref x0), (.int x1), (.int x2)] 6 = mkF m 0 #[.val (.ref x0), .val (.int x1), .val (.int x2), .unset, .unset, .unset] [] := by first | (simp [entryFrame, mkF, argsToLocals, Value.category]; done) | rfl
set_option maxRecDepth 65536 in
set_option maxHeartbeats 40000000 in
theorem rm7n0 (l : Launch) (Z : State) (a0 : Array Value) (hw : ∀ d ∈ tables_1, d.before a0 Z = true) (a1 : Addr) (h0 : Heap) (n0 : Nat) (Z0 : n0 ≤ h0.size) (kA : ClassId) (g_a1 : n0 ≤ a1) (V0 : Arv Z h0 a1 kA .int (0 : Int32) [] (.int (0 : Int32))) :
    Con l Z (⟨"java/util/DualPivotQuicksort", "insertionSort", "([III)V"⟩ : MethodName) jdk_2529_method_6_code 6 none ({ frames := 0, cells := 0, slots := 0, locals := 0 } : Room) #[(.ref a1), (.int (0 : Int32)), (.int (0 : Int32))] h0 n0 (fun v h => v = none ∧ Keep h0 h [a1] ∧ Arv Z h a1 kA .int (0 : Int32) [] (.int (0 : Int32)) ∧ (∀ P : Int32 → Prop, (True) ↔ (True))) := by
  refine Con.of (own := "java/util/DualPivotQuicksort") (name := "insertionSort") (plainFor_of_name pn_1) (fun m => ef_7n0 m a1 (0 : Int32) (0 : Int32)) rfl rfl ?_
  intro p e s m below meth c T F S cx st
  refine E_iloadN (pc' := 1) cx st d7_0 rfl rfl ?_
  refine E_istore (pc' := 3) (L' := #[.val (.ref a1), .val (.int (0 : Int32)), .val (.int (0 : Int32)), .unset, .val (.int (0 : Int32)), .unset]) cx st d7_1 rfl rfl ?_
  refine E_iinc (pc' := 6) (L' := #[.val (.ref a1), .val (.int (0 : Int32)), .val (.int (0 : Int32)), .unset, .val (.int (1 : Int32)), .unset]) cx st (1 : Int32) d7_3 rfl rfl rfl rfl ?_
  refine E_iload (pc' := 8) cx st d7_6 rfl rfl ?_
  refine E_iloadN (pc' := 9) cx st d7_8 rfl rfl ?_
  refine E_icmp_geY (pc' := 67) cx st d7_9 (by decide) (by decide) (by decide) ?_
  refine E_return cx st d7_67 rfl (by decide) (by decide) ?_
  exact ⟨rfl, (Keep.refl h0 [a1]), V0, fun P => Iff.rfl⟩
theorem ef_7n1 (m : MethodId) (x0 : Addr) (x1 : Int32) (x2 : Int32) : entryFrame m #[(.ref x0), (.int x1), (.int x2)] 6 = mkF m 0 #[.val (.ref x0), .val (.int x1), .val (.int x2), .unset, .unset, .unset] [] := by first | (simp [entryFrame, mkF, argsToLocals, Value.category]; done) | rfl
set_option maxRecDepth 65536 in
set_option maxHeartbeats 40000000 in
theorem rm7n1 (l : Launch) (Z : State) (a0 : Array Value) (hw : ∀ d ∈ tables_1, d.before a0 Z = true) (a1 : Addr) (x0 : Int32) (h0 : Heap) (n0 : Nat) (Z0 : n0 ≤ h0.size) (kA : ClassId) (g_a1 : n0 ≤ a1) (V0 : Arv Z h0 a1 kA .int (1 : Int32) [(.int x0)] (.int (0 : Int32))) :
    Con l Z (⟨"java/util/DualPivotQuicksort", "insertionSort", "([III)V"⟩ : MethodName) jdk_2529_method_6_code 6 none ({ frames := 0, cells := 0, slots := 0, locals := 0 } : Room) #[(.ref a1), (.int (0 : Int32)), (.int (1 : Int32))] h0 n0 (fun v h => v = none ∧ Keep h0 h [a1] ∧ ∃ s0 : Int32, Arv Z h a1 kA .int (1 : Int32) [(.int s0)] (.int (0 : Int32)) ∧ (∀ P : Int32 → Prop, (P s0) ↔ (P x0))) := by
  refine Con.of (own := "java/util/DualPivotQuicksort") (name := "insertionSort") (plainFor_of_name pn_1) (fun m => ef_7n1 m a1 (0 : Int32) (1 : Int32)) rfl rfl ?_
  intro p e s m below meth c T F S cx st
  refine E_iloadN (pc' := 1) cx st d7_0 rfl rfl ?_
  refine E_istore (pc' := 3) (L' := #[.val (.ref a1), .val (.int (0 : Int32)), .val (.int (1 : Int32)), .unset, .val (.int (0 : Int32)), .unset]) cx st d7_1 rfl rfl ?_
  refine E_iinc (pc' := 6) (L' := #[.val (.ref a1), .val (.int (0 : Int32)), .val (.int (1 : Int32)), .unset, .val (.int (1 : Int32)), .unset]) cx st (1 : Int32) d7_3 rfl rfl rfl rfl ?_
  refine E_iload (pc' := 8) cx st d7_6 rfl rfl ?_
  refine E_iloadN (pc' := 9) cx st d7_8 rfl rfl ?_
  refine E_icmp_geY (pc' := 67) cx st d7_9 (by decide) (by decide) (by decide) ?_
  refine E_return cx st d7_67 rfl (by decide) (by decide) ?_
  exact ⟨rfl, (Keep.refl h0 [a1]), x0, V0, fun P => Iff.rfl⟩
theorem ef_7n2 (m : MethodId) (x0 : Addr) (x1 : Int32) (x2 : Int32) : entryFrame m #[(.ref x0), (.int x1), (.int x2)] 6 = mkF m 0 #[.val (.ref x0), .val (.int x1), .val (.int x2), .unset, .unset, .unset] [] := by first | (simp [entryFrame, mkF, argsToLocals, Value.category]; done) | rfl
set_option maxRecDepth 65536 in
set_option maxHeartbeats 40000000 in
theorem rm7n2 (l : Launch) (Z : State) (a0 : Array Value) (hw : ∀ d ∈ tables_1, d.before a0 Z = true) (a1 : Addr) (x0 : Int32) (x1 : Int32) (h0 : Heap) (n0 : Nat) (Z0 : n0 ≤ h0.size) (kA : ClassId) (g_a1 : n0 ≤ a1) (V0 : Arv Z h0 a1 kA .int (2 : Int32) [(.int x0), (.int x1)] (.int (0 : Int32))) :
    Con l Z (⟨"java/util/DualPivotQuicksort", "insertionSort", "([III)V"⟩ : MethodName) jdk_2529_method_6_code 6 none ({ frames := 0, cells := 0, slots := 0, locals := 0 } : Room) #[(.ref a1), (.int (0 : Int32)), (.int (2 : Int32))] h0 n0 (fun v h => v = none ∧ Keep h0 h [a1] ∧ ∃ s0 s1 : Int32, Arv Z h a1 kA .int (2 : Int32) [(.int s0), (.int s1)] (.int (0 : Int32)) ∧ (∀ P : Int32 → Prop, (P s0 ∧ P s1) ↔ (P x0 ∧ P x1))) := by
  refine Con.of (own := "java/util/DualPivotQuicksort") (name := "insertionSort") (plainFor_of_name pn_1) (fun m => ef_7n2 m a1 (0 : Int32) (2 : Int32)) rfl rfl ?_
  intro p e s m below meth c T F S cx st
  refine E_iloadN (pc' := 1) cx st d7_0 rfl rfl ?_
  refine E_istore (pc' := 3) (L' := #[.val (.ref a1), .val (.int (0 : Int32)), .val (.int (2 : Int32)), .unset, .val (.int (0 : Int32)), .unset]) cx st d7_1 rfl rfl ?_
  refine E_iinc (pc' := 6) (L' := #[.val (.ref a1), .val (.int (0 : Int32)), .val (.int (2 : Int32)), .unset, .val (.int (1 : Int32)), .unset]) cx st (1 : Int32) d7_3 rfl rfl rfl rfl ?_
  refine E_iload (pc' := 8) cx st d7_6 rfl rfl ?_
  refine E_iloadN (pc' := 9) cx st d7_8 rfl rfl ?_
  refine E_icmp_geN (pc' := 12) cx st d7_9 rfl (by decide) ?_
  refine E_aloadN (pc' := 13) cx st d7_12 rfl rfl rfl ?_
  refine E_iload (pc' := 15) cx st d7_13 rfl rfl ?_
  refine E_dup (pc' := 16) cx st d7_15 rfl rfl ?_
  refine E_istoreN (pc' := 17) (L' := #[.val (.ref a1), .val (.int (0 : Int32)), .val (.int (2 : Int32)), .val (.int (1 : Int32)), .val (.int (1 : Int32)), .unset]) cx st d7_16 rfl rfl ?_
  refine E_iaload (pc' := 18) (x := x1) cx st V0 ⟨by decide, by decide⟩ rfl d7_17 rfl ?_
  refine E_istore (pc' := 20) (L' := #[.val (.ref a1), .val (.int (0 : Int32)), .val (.int (2 : Int32)), .val (.int (1 : Int32)), .val (.int (1 : Int32)), .val (.int x1)]) cx st d7_18 rfl rfl ?_
  refine E_iload (pc' := 22) cx st d7_20 rfl rfl ?_
  refine E_aloadN (pc' := 23) cx st d7_22 rfl rfl rfl ?_
  refine E_iloadN (pc' := 24) cx st d7_23 rfl rfl ?_
  refine E_iconst (pc' := 25) cx st (1 : Int32) d7_24 rfl rfl ?_
  refine E_isub (pc' := 26) cx st d7_25 rfl ?_
  rw [show ((1 : Int32) - (1 : Int32)) = (0 : Int32) from by decide]
  refine E_iaload (pc' := 27) (x := x0) cx st V0 ⟨by decide, by decide⟩ rfl d7_26 rfl ?_
  by_cases c1 : x1 < x0
  · refine E_icmp_geN (pc' := 30) cx st d7_27 rfl c1 ?_
    refine E_iinc (pc' := 33) (L' := #[.val (.ref a1), .val (.int (0 : Int32)), .val (.int (2 : Int32)), .val (.int (0 : Int32)), .val (.int (1 : Int32)), .val (.int x1)]) cx st (-1 : Int32) d7_30 rfl rfl rfl rfl ?_
    refine E_iloadN (pc' := 34) cx st d7_33 rfl rfl ?_
    refine E_iloadN (pc' := 35) cx st d7_34 rfl rfl ?_
    refine E_icmp_ltN (pc' := 38) cx st d7_35 rfl (by decide) ?_
    refine E_iload (pc' := 40) cx st d7_38 rfl rfl ?_
    refine E_aloadN (pc' := 41) cx st d7_40 rfl rfl rfl ?_
    refine E_iloadN (pc' := 42) cx st d7_41 rfl rfl ?_
    refine E_iaload (pc' := 43) (x := x0) cx st V0 ⟨by decide, by decide⟩ rfl d7_42 rfl ?_
    refine E_icmp_geN (pc' := 46) cx st d7_43 rfl c1 ?_
    refine E_aloadN (pc' := 47) cx st d7_46 rfl rfl rfl ?_
    refine E_iloadN (pc' := 48) cx st d7_47 rfl rfl ?_
    refine E_iconst (pc' := 49) cx st (1 : Int32) d7_48 rfl rfl ?_
    refine E_iadd (pc' := 50) cx st d7_49 rfl ?_
    rw [show ((0 : Int32) + (1 : Int32)) = (1 : Int32) from by decide]
    refine E_aloadN (pc' := 51) cx st d7_50 rfl rfl rfl ?_
    refine E_iloadN (pc' := 52) cx st d7_51 rfl rfl ?_
    refine E_iaload (pc' := 53) (x := x0) cx st V0 ⟨by decide, by decide⟩ rfl d7_52 rfl ?_
    refine E_iastore (pc' := 54) (i := 1) cx st V0 ⟨by decide, by decide⟩ rfl (Nat.le_of_ble_eq_true rfl) g_a1 d7_53 rfl ?_
    intro T2 h2 st2 W2 V2
    have Z2 : n0 ≤ h2.size := Nat.le_trans Z0 (Keep.of_wr W2).1
    have K2 : Keep h0 h2 [a1] := (Keep.refl h0 [a1]).wr W2 (Or.inl (List.mem_of_getElem? (i := 0) rfl))
    have V2p : Arv Z h2 a1 kA .int (2 : Int32) [(.int x0), (.int x0)] (.int (0 : Int32)) := V2
    refine E_goto (pc' := 30) cx st2 d7_54 (by decide) (by decide) ?_
    refine E_iinc (pc' := 33) (L' := #[.val (.ref a1), .val (.int (0 : Int32)), .val (.int (2 : Int32)), .val (.int (-1 : Int32)), .val (.int (1 : Int32)), .val (.int x1)]) cx st2 (-1 : Int32) d7_30 rfl rfl rfl rfl ?_
    refine E_iloadN (pc' := 34) cx st2 d7_33 rfl rfl ?_
    refine E_iloadN (pc' := 35) cx st2 d7_34 rfl rfl ?_
    refine E_icmp_ltY (pc' := 57) cx st2 d7_35 (by decide) (by decide) (by decide) ?_
    refine E_aloadN (pc' := 58) cx st2 d7_57 rfl rfl rfl ?_
    refine E_iloadN (pc' := 59) cx st2 d7_58 rfl rfl ?_
    refine E_iconst (pc' := 60) cx st2 (1 : Int32) d7_59 rfl rfl ?_
    refine E_iadd (pc' := 61) cx st2 d7_60 rfl ?_
    rw [show ((-1 : Int32) + (1 : Int32)) = (0 : Int32) from by decide]
    refine E_iload (pc' := 63) cx st2 d7_61 rfl rfl ?_
    refine E_iastore (pc' := 64) (i := 0) cx st2 V2p ⟨by decide, by decide⟩ rfl (Nat.le_of_ble_eq_true rfl) g_a1 d7_63 rfl ?_
    intro T3 h3 st3 W3 V3
    have Z3 : n0 ≤ h3.size := Nat.le_trans Z2 (Keep.of_wr W3).1
    have K3 : Keep h0 h3 [a1] := K2.wr W3 (Or.inl (List.mem_of_getElem? (i := 0) rfl))
    have V3p : Arv Z h3 a1 kA .int (2 : Int32) [(.int x1), (.int x0)] (.int (0 : Int32)) := V3
    refine E_goto (pc' := 3) cx st3 d7_64 (by decide) (by decide) ?_
    refine E_iinc (pc' := 6) (L' := #[.val (.ref a1), .val (.int (0 : Int32)), .val (.int (2 : Int32)), .val (.int (-1 : Int32)), .val (.int (2 : Int32)), .val (.int x1)]) cx st3 (1 : Int32) d7_3 rfl rfl rfl rfl ?_
    refine E_iload (pc' := 8) cx st3 d7_6 rfl rfl ?_
    refine E_iloadN (pc' := 9) cx st3 d7_8 rfl rfl ?_
    refine E_icmp_geY (pc' := 67) cx st3 d7_9 (by decide) (by decide) (by decide) ?_
    refine E_return cx st3 d7_67 rfl (by decide) (by decide) ?_
    exact ⟨rfl, K3, x1, x0, V3p, fun P => by constructor <;> (rintro ⟨h0, h1⟩; exact ⟨by assumption, by assumption⟩)⟩
  · refine E_icmp_geY (pc' := 64) cx st d7_27 (by decide) (by decide) c1 ?_
    refine E_goto (pc' := 3) cx st d7_64 (by decide) (by decide) ?_
    refine E_iinc (pc' := 6) (L' := #[.val (.ref a1), .val (.int (0 : Int32)), .val (.int (2 : Int32)), .val (.int (1 : Int32)), .val (.int (2 : Int32)), .val (.int x1)]) cx st (1 : Int32) d7_3 rfl rfl rfl rfl ?_
    refine E_iload (pc' := 8) cx st d7_6 rfl rfl ?_
    refine E_iloadN (pc' := 9) cx st d7_8 rfl rfl ?_
    refine E_icmp_geY (pc' := 67) cx st d7_9 (by decide) (by decide) (by decide) ?_
    refine E_return cx st d7_67 rfl (by decide) (by decide) ?_
    exact ⟨rfl, (Keep.refl h0 [a1]), x0, x1, V0, fun P => Iff.rfl⟩
theorem ef_7n3 (m : MethodId) (x0 : Addr) (x1 : Int32) (x2 : Int32) : entryFrame m #[(.ref x0), (.int x1), (.int x2)] 6 = mkF m 0 #[.val (.ref x0), .val (.int x1), .val (.int x2), .unset, .unset, .unset] [] := by first | (simp [entryFrame, mkF, argsToLocals, Value.category]; done) | rfl
set_option maxRecDepth 65536 in
set_option maxHeartbeats 40000000 in
theorem rm7n3 (l : Launch) (Z : State) (a0 : Array Value) (hw : ∀ d ∈ tables_1, d.before a0 Z = true) (a1 : Addr) (x0 : Int32) (x1 : Int32) (x2 : Int32) (h0 : Heap) (n0 : Nat) (Z0 : n0 ≤ h0.size) (kA : ClassId) (g_a1 : n0 ≤ a1) (V0 : Arv Z h0 a1 kA .int (3 : Int32) [(.int x0), (.int x1), (.int x2)] (.int (0 : Int32))) :
    Con l Z (⟨"java/util/DualPivotQuicksort", "insertionSort", "([III)V"⟩ : MethodName) jdk_2529_method_6_code 6 none ({ frames := 0, cells := 0, slots := 0, locals := 0 } : Room) #[(.ref a1), (.int (0 : Int32)), (.int (3 : Int32))] h0 n0 (fun v h => v = none ∧ Keep h0 h [a1] ∧ ∃ s0 s1 s2 : Int32, Arv Z h a1 kA .int (3 : Int32) [(.int s0), (.int s1), (.int s2)] (.int (0 : Int32)) ∧ (∀ P : Int32 → Prop, (P s0 ∧ P s1 ∧ P s2) ↔ (P x0 ∧ P x1 ∧ P x2))) := by
  refine Con.of (own := "java/util/DualPivotQuicksort") (name := "insertionSort") (plainFor_of_name pn_1) (fun m => ef_7n3 m a1 (0 : Int32) (3 : Int32)) rfl rfl ?_
  intro p e s m below meth c T F S cx st
  refine E_iloadN (pc' := 1) cx st d7_0 rfl rfl ?_
  refine E_istore (pc' := 3) (L' := #[.val (.ref a1), .val (.int (0 : Int32)), .val (.int (3 : Int32)), .unset, .val (.int (0 : Int32)), .unset]) cx st d7_1 rfl rfl ?_
  refine E_iinc (pc' := 6) (L' := #[.val (.ref a1), .val (.int (0 : Int32)), .val (.int (3 : Int32)), .unset, .val (.int (1 : Int32)), .unset]) cx st (1 : Int32) d7_3 rfl rfl rfl rfl ?_
  refine E_iload (pc' := 8) cx st d7_6 rfl rfl ?_
  refine E_iloadN (pc' := 9) cx st d7_8 rfl rfl ?_
  refine E_icmp_geN (pc' := 12) cx st d7_9 rfl (by decide) ?_
  refine E_aloadN (pc' := 13) cx st d7_12 rfl rfl rfl ?_
  refine E_iload (pc' := 15) cx st d7_13 rfl rfl ?_
  refine E_dup (pc' := 16) cx st d7_15 rfl rfl ?_
  refine E_istoreN (pc' := 17) (L' := #[.val (.ref a1), .val (.int (0 : Int32)), .val (.int (3 : Int32)), .val (.int (1 : Int32)), .val (.int (1 : Int32)), .unset]) cx st d7_16 rfl rfl ?_
  refine E_iaload (pc' := 18) (x := x1) cx st V0 ⟨by decide, by decide⟩ rfl d7_17 rfl ?_
  refine E_istore (pc' := 20) (L' := #[.val (.ref a1), .val (.int (0 : Int32)), .val (.int (3 : Int32)), .val (.int (1 : Int32)), .val (.int (1 : Int32)), .val (.int x1)]) cx st d7_18 rfl rfl ?_
  refine E_iload (pc' := 22) cx st d7_20 rfl rfl ?_
  refine E_aloadN (pc' := 23) cx st d7_22 rfl rfl rfl ?_
  refine E_iloadN (pc' := 24) cx st d7_23 rfl rfl ?_
  refine E_iconst (pc' := 25) cx st (1 : Int32) d7_24 rfl rfl ?_
  refine E_isub (pc' := 26) cx st d7_25 rfl ?_
  rw [show ((1 : Int32) - (1 : Int32)) = (0 : Int32) from by decide]
  refine E_iaload (pc' := 27) (x := x0) cx st V0 ⟨by decide, by decide⟩ rfl d7_26 rfl ?_
  by_cases c1 : x1 < x0
  · refine E_icmp_geN (pc' := 30) cx st d7_27 rfl c1 ?_
    refine E_iinc (pc' := 33) (L' := #[.val (.ref a1), .val (.int (0 : Int32)), .val (.int (3 : Int32)), .val (.int (0 : Int32)), .val (.int (1 : Int32)), .val (.int x1)]) cx st (-1 : Int32) d7_30 rfl rfl rfl rfl ?_
    refine E_iloadN (pc' := 34) cx st d7_33 rfl rfl ?_
    refine E_iloadN (pc' := 35) cx st d7_34 rfl rfl ?_
    refine E_icmp_ltN (pc' := 38) cx st d7_35 rfl (by decide) ?_
    refine E_iload (pc' := 40) cx st d7_38 rfl rfl ?_
    refine E_aloadN (pc' := 41) cx st d7_40 rfl rfl rfl ?_
    refine E_iloadN (pc' := 42) cx st d7_41 rfl rfl ?_
    refine E_iaload (pc' := 43) (x := x0) cx st V0 ⟨by decide, by decide⟩ rfl d7_42 rfl ?_
    refine E_icmp_geN (pc' := 46) cx st d7_43 rfl c1 ?_
    refine E_aloadN (pc' := 47) cx st d7_46 rfl rfl rfl ?_
    refine E_iloadN (pc' := 48) cx st d7_47 rfl rfl ?_
    refine E_iconst (pc' := 49) cx st (1 : Int32) d7_48 rfl rfl ?_
    refine E_iadd (pc' := 50) cx st d7_49 rfl ?_
    rw [show ((0 : Int32) + (1 : Int32)) = (1 : Int32) from by decide]
    refine E_aloadN (pc' := 51) cx st d7_50 rfl rfl rfl ?_
    refine E_iloadN (pc' := 52) cx st d7_51 rfl rfl ?_
    refine E_iaload (pc' := 53) (x := x0) cx st V0 ⟨by decide, by decide⟩ rfl d7_52 rfl ?_
    refine E_iastore (pc' := 54) (i := 1) cx st V0 ⟨by decide, by decide⟩ rfl (Nat.le_of_ble_eq_true rfl) g_a1 d7_53 rfl ?_
    intro T2 h2 st2 W2 V2
    have Z2 : n0 ≤ h2.size := Nat.le_trans Z0 (Keep.of_wr W2).1
    have K2 : Keep h0 h2 [a1] := (Keep.refl h0 [a1]).wr W2 (Or.inl (List.mem_of_getElem? (i := 0) rfl))
    have V2p : Arv Z h2 a1 kA .int (3 : Int32) [(.int x0), (.int x0), (.int x2)] (.int (0 : Int32)) := V2
    refine E_goto (pc' := 30) cx st2 d7_54 (by decide) (by decide) ?_
    refine E_iinc (pc' := 33) (L' := #[.val (.ref a1), .val (.int (0 : Int32)), .val (.int (3 : Int32)), .val (.int (-1 : Int32)), .val (.int (1 : Int32)), .val (.int x1)]) cx st2 (-1 : Int32) d7_30 rfl rfl rfl rfl ?_
    refine E_iloadN (pc' := 34) cx st2 d7_33 rfl rfl ?_
    refine E_iloadN (pc' := 35) cx st2 d7_34 rfl rfl ?_
    refine E_icmp_ltY (pc' := 57) cx st2 d7_35 (by decide) (by decide) (by decide) ?_
    refine E_aloadN (pc' := 58) cx st2 d7_57 rfl rfl rfl ?_
    refine E_iloadN (pc' := 59) cx st2 d7_58 rfl rfl ?_
    refine E_iconst (pc' := 60) cx st2 (1 : Int32) d7_59 rfl rfl ?_
    refine E_iadd (pc' := 61) cx st2 d7_60 rfl ?_
    rw [show ((-1 : Int32) + (1 : Int32)) = (0 : Int32) from by decide]
    refine E_iload (pc' := 63) cx st2 d7_61 rfl rfl ?_
    refine E_iastore (pc' := 64) (i := 0) cx st2 V2p ⟨by decide, by decide⟩ rfl (Nat.le_of_ble_eq_true rfl) g_a1 d7_63 rfl ?_
    intro T3 h3 st3 W3 V3
    have Z3 : n0 ≤ h3.size := Nat.le_trans Z2 (Keep.of_wr W3).1
    have K3 : Keep h0 h3 [a1] := K2.wr W3 (Or.inl (List.mem_of_getElem? (i := 0) rfl))
    have V3p : Arv Z h3 a1 kA .int (3 : Int32) [(.int x1), (.int x0), (.int x2)] (.int (0 : Int32)) := V3
    refine E_goto (pc' := 3) cx st3 d7_64 (by decide) (by decide) ?_
    refine E_iinc (pc' := 6) (L' := #[.val (.ref a1), .val (.int (0 : Int32)), .val (.int (3 : Int32)), .val (.int (-1 : Int32)), .val (.int (2 : Int32)), .val (.int x1)]) cx st3 (1 : Int32) d7_3 rfl rfl rfl rfl ?_
    refine E_iload (pc' := 8) cx st3 d7_6 rfl rfl ?_
    refine E_iloadN (pc' := 9) cx st3 d7_8 rfl rfl ?_
    refine E_icmp_geN (pc' := 12) cx st3 d7_9 rfl (by decide) ?_
    refine E_aloadN (pc' := 13) cx st3 d7_12 rfl rfl rfl ?_
    refine E_iload (pc' := 15) cx st3 d7_13 rfl rfl ?_
    refine E_dup (pc' := 16) cx st3 d7_15 rfl rfl ?_
    refine E_istoreN (pc' := 17) (L' := #[.val (.ref a1), .val (.int (0 : Int32)), .val (.int (3 : Int32)), .val (.int (2 : Int32)), .val (.int (2 : Int32)), .val (.int x1)]) cx st3 d7_16 rfl rfl ?_
    refine E_iaload (pc' := 18) (x := x2) cx st3 V3p ⟨by decide, by decide⟩ rfl d7_17 rfl ?_
    refine E_istore (pc' := 20) (L' := #[.val (.ref a1), .val (.int (0 : Int32)), .val (.int (3 : Int32)), .val (.int (2 : Int32)), .val (.int (2 : Int32)), .val (.int x2)]) cx st3 d7_18 rfl rfl ?_
    refine E_iload (pc' := 22) cx st3 d7_20 rfl rfl ?_
    refine E_aloadN (pc' := 23) cx st3 d7_22 rfl rfl rfl ?_
    refine E_iloadN (pc' := 24) cx st3 d7_23 rfl rfl ?_
    refine E_iconst (pc' := 25) cx st3 (1 : Int32) d7_24 rfl rfl ?_
    refine E_isub (pc' := 26) cx st3 d7_25 rfl ?_
    rw [show ((2 : Int32) - (1 : Int32)) = (1 : Int32) from by decide]
    refine E_iaload (pc' := 27) (x := x0) cx st3 V3p ⟨by decide, by decide⟩ rfl d7_26 rfl ?_
    by_cases c4 : x2 < x0
    · refine E_icmp_geN (pc' := 30) cx st3 d7_27 rfl c4 ?_
      refine E_iinc (pc' := 33) (L' := #[.val (.ref a1), .val (.int (0 : Int32)), .val (.int (3 : Int32)), .val (.int (1 : Int32)), .val (.int (2 : Int32)), .val (.int x2)]) cx st3 (-1 : Int32) d7_30 rfl rfl rfl rfl ?_
      refine E_iloadN (pc' := 34) cx st3 d7_33 rfl rfl ?_
      refine E_iloadN (pc' := 35) cx st3 d7_34 rfl rfl ?_
      refine E_icmp_ltN (pc' := 38) cx st3 d7_35 rfl (by decide) ?_
      refine E_iload (pc' := 40) cx st3 d7_38 rfl rfl ?_
      refine E_aloadN (pc' := 41) cx st3 d7_40 rfl rfl rfl ?_
      refine E_iloadN (pc' := 42) cx st3 d7_41 rfl rfl ?_
      refine E_iaload (pc' := 43) (x := x0) cx st3 V3p ⟨by decide, by decide⟩ rfl d7_42 rfl ?_
      refine E_icmp_geN (pc' := 46) cx st3 d7_43 rfl c4 ?_
      refine E_aloadN (pc' := 47) cx st3 d7_46 rfl rfl rfl ?_
      refine E_iloadN (pc' := 48) cx st3 d7_47 rfl rfl ?_
      refine E_iconst (pc' := 49) cx st3 (1 : Int32) d7_48 rfl rfl ?_
      refine E_iadd (pc' := 50) cx st3 d7_49 rfl ?_
      rw [show ((1 : Int32) + (1 : Int32)) = (2 : Int32) from by decide]
      refine E_aloadN (pc' := 51) cx st3 d7_50 rfl rfl rfl ?_
      refine E_iloadN (pc' := 52) cx st3 d7_51 rfl rfl ?_
      refine E_iaload (pc' := 53) (x := x0) cx st3 V3p ⟨by decide, by decide⟩ rfl d7_52 rfl ?_
      refine E_iastore (pc' := 54) (i := 2) cx st3 V3p ⟨by decide, by decide⟩ rfl (Nat.le_of_ble_eq_true rfl) g_a1 d7_53 rfl ?_
      intro T5 h5 st5 W5 V5
      have Z5 : n0 ≤ h5.size := Nat.le_trans Z3 (Keep.of_wr W5).1
      have K5 : Keep h0 h5 [a1] := K3.wr W5 (Or.inl (List.mem_of_getElem? (i := 0) rfl))
      have V5p : Arv Z h5 a1 kA .int (3 : Int32) [(.int x1), (.int x0), (.int x0)] (.int (0 : Int32)) := V5
      refine E_goto (pc' := 30) cx st5 d7_54 (by decide) (by decide) ?_
      refine E_iinc (pc' := 33) (L' := #[.val (.ref a1), .val (.int (0 : Int32)), .val (.int (3 : Int32)), .val (.int (0 : Int32)), .val (.int (2 : Int32)), .val (.int x2)]) cx st5 (-1 : Int32) d7_30 rfl rfl rfl rfl ?_
      refine E_iloadN (pc' := 34) cx st5 d7_33 rfl rfl ?_
      refine E_iloadN (pc' := 35) cx st5 d7_34 rfl rfl ?_
      refine E_icmp_ltN (pc' := 38) cx st5 d7_35 rfl (by decide) ?_
      refine E_iload (pc' := 40) cx st5 d7_38 rfl rfl ?_
      refine E_aloadN (pc' := 41) cx st5 d7_40 rfl rfl rfl ?_
      refine E_iloadN (pc' := 42) cx st5 d7_41 rfl rfl ?_
      refine E_iaload (pc' := 43) (x := x1) cx st5 V5p ⟨by decide, by decide⟩ rfl d7_42 rfl ?_
      by_cases c6 : x2 < x1
      · refine E_icmp_geN (pc' := 46) cx st5 d7_43 rfl c6 ?_
        refine E_aloadN (pc' := 47) cx st5 d7_46 rfl rfl rfl ?_
        refine E_iloadN (pc' := 48) cx st5 d7_47 rfl rfl ?_
        refine E_iconst (pc' := 49) cx st5 (1 : Int32) d7_48 rfl rfl ?_
        refine E_iadd (pc' := 50) cx st5 d7_49 rfl ?_
        rw [show ((0 : Int32) + (1 : Int32)) = (1 : Int32) from by decide]
        refine E_aloadN (pc' := 51) cx st5 d7_50 rfl rfl rfl ?_
        refine E_iloadN (pc' := 52) cx st5 d7_51 rfl rfl ?_
        refine E_iaload (pc' := 53) (x := x1) cx st5 V5p ⟨by decide, by decide⟩ rfl d7_52 rfl ?_
        refine E_iastore (pc' := 54) (i := 1) cx st5 V5p ⟨by decide, by decide⟩ rfl (Nat.le_of_ble_eq_true rfl) g_a1 d7_53 rfl ?_
        intro T7 h7 st7 W7 V7
        have Z7 : n0 ≤ h7.size := Nat.le_trans Z5 (Keep.of_wr W7).1
        have K7 : Keep h0 h7 [a1] := K5.wr W7 (Or.inl (List.mem_of_getElem? (i := 0) rfl))
        have V7p : Arv Z h7 a1 kA .int (3 : Int32) [(.int x1), (.int x1), (.int x0)] (.int (0 : Int32)) := V7
        refine E_goto (pc' := 30) cx st7 d7_54 (by decide) (by decide) ?_
        refine E_iinc (pc' := 33) (L' := #[.val (.ref a1), .val (.int (0 : Int32)), .val (.int (3 : Int32)), .val (.int (-1 : Int32)), .val (.int (2 : Int32)), .val (.int x2)]) cx st7 (-1 : Int32) d7_30 rfl rfl rfl rfl ?_
        refine E_iloadN (pc' := 34) cx st7 d7_33 rfl rfl ?_
        refine E_iloadN (pc' := 35) cx st7 d7_34 rfl rfl ?_
        refine E_icmp_ltY (pc' := 57) cx st7 d7_35 (by decide) (by decide) (by decide) ?_
        refine E_aloadN (pc' := 58) cx st7 d7_57 rfl rfl rfl ?_
        refine E_iloadN (pc' := 59) cx st7 d7_58 rfl rfl ?_
        refine E_iconst (pc' := 60) cx st7 (1 : Int32) d7_59 rfl rfl ?_
        refine E_iadd (pc' := 61) cx st7 d7_60 rfl ?_
        rw [show ((-1 : Int32) + (1 : Int32)) = (0 : Int32) from by decide]
        refine E_iload (pc' := 63) cx st7 d7_61 rfl rfl ?_
        refine E_iastore (pc' := 64) (i := 0) cx st7 V7p ⟨by decide, by decide⟩ rfl (Nat.le_of_ble_eq_true rfl) g_a1 d7_63 rfl ?_
        intro T8 h8 st8 W8 V8
        have Z8 : n0 ≤ h8.size := Nat.le_trans Z7 (Keep.of_wr W8).1
        have K8 : Keep h0 h8 [a1] := K7.wr W8 (Or.inl (List.mem_of_getElem? (i := 0) rfl))
        have V8p : Arv Z h8 a1 kA .int (3 : Int32) [(.int x2), (.int x1), (.int x0)] (.int (0 : Int32)) := V8
        refine E_goto (pc' := 3) cx st8 d7_64 (by decide) (by decide) ?_
        refine E_iinc (pc' := 6) (L' := #[.val (.ref a1), .val (.int (0 : Int32)), .val (.int (3 : Int32)), .val (.int (-1 : Int32)), .val (.int (3 : Int32)), .val (.int x2)]) cx st8 (1 : Int32) d7_3 rfl rfl rfl rfl ?_
        refine E_iload (pc' := 8) cx st8 d7_6 rfl rfl ?_
        refine E_iloadN (pc' := 9) cx st8 d7_8 rfl rfl ?_
        refine E_icmp_geY (pc' := 67) cx st8 d7_9 (by decide) (by decide) (by decide) ?_
        refine E_return cx st8 d7_67 rfl (by decide) (by decide) ?_
        exact ⟨rfl, K8, x2, x1, x0, V8p, fun P => by constructor <;> (rintro ⟨h0, h1, h2⟩; exact ⟨by assumption, by assumption, by assumption⟩)⟩
      · refine E_icmp_geY (pc' := 57) cx st5 d7_43 (by decide) (by decide) c6 ?_
        refine E_aloadN (pc' := 58) cx st5 d7_57 rfl rfl rfl ?_
        refine E_iloadN (pc' := 59) cx st5 d7_58 rfl rfl ?_
        refine E_iconst (pc' := 60) cx st5 (1 : Int32) d7_59 rfl rfl ?_
        refine E_iadd (pc' := 61) cx st5 d7_60 rfl ?_
        rw [show ((0 : Int32) + (1 : Int32)) = (1 : Int32) from by decide]
        refine E_iload (pc' := 63) cx st5 d7_61 rfl rfl ?_
        refine E_iastore (pc' := 64) (i := 1) cx st5 V5p ⟨by decide, by decide⟩ rfl (Nat.le_of_ble_eq_true rfl) g_a1 d7_63 rfl ?_
        intro T9 h9 st9 W9 V9
        have Z9 : n0 ≤ h9.size := Nat.le_trans Z5 (Keep.of_wr W9).1
        have K9 : Keep h0 h9 [a1] := K5.wr W9 (Or.inl (List.mem_of_getElem? (i := 0) rfl))
        have V9p : Arv Z h9 a1 kA .int (3 : Int32) [(.int x1), (.int x2), (.int x0)] (.int (0 : Int32)) := V9
        refine E_goto (pc' := 3) cx st9 d7_64 (by decide) (by decide) ?_
        refine E_iinc (pc' := 6) (L' := #[.val (.ref a1), .val (.int (0 : Int32)), .val (.int (3 : Int32)), .val (.int (0 : Int32)), .val (.int (3 : Int32)), .val (.int x2)]) cx st9 (1 : Int32) d7_3 rfl rfl rfl rfl ?_
        refine E_iload (pc' := 8) cx st9 d7_6 rfl rfl ?_
        refine E_iloadN (pc' := 9) cx st9 d7_8 rfl rfl ?_
        refine E_icmp_geY (pc' := 67) cx st9 d7_9 (by decide) (by decide) (by decide) ?_
        refine E_return cx st9 d7_67 rfl (by decide) (by decide) ?_
        exact ⟨rfl, K9, x1, x2, x0, V9p, fun P => by constructor <;> (rintro ⟨h0, h1, h2⟩; exact ⟨by assumption, by assumption, by assumption⟩)⟩
    · refine E_icmp_geY (pc' := 64) cx st3 d7_27 (by decide) (by decide) c4 ?_
      refine E_goto (pc' := 3) cx st3 d7_64 (by decide) (by decide) ?_
      refine E_iinc (pc' := 6) (L' := #[.val (.ref a1), .val (.int (0 : Int32)), .val (.int (3 : Int32)), .val (.int (2 : Int32)), .val (.int (3 : Int32)), .val (.int x2)]) cx st3 (1 : Int32) d7_3 rfl rfl rfl rfl ?_
      refine E_iload (pc' := 8) cx st3 d7_6 rfl rfl ?_
      refine E_iloadN (pc' := 9) cx st3 d7_8 rfl rfl ?_
      refine E_icmp_geY (pc' := 67) cx st3 d7_9 (by decide) (by decide) (by decide) ?_
      refine E_return cx st3 d7_67 rfl (by decide) (by decide) ?_
      exact ⟨rfl, K3, x1, x0, x2, V3p, fun P => by constructor <;> (rintro ⟨h0, h1, h2⟩; exact ⟨by assumption, by assumption, by assumption⟩)⟩
  · refine E_icmp_geY (pc' := 64) cx st d7_27 (by decide) (by decide) c1 ?_
    refine E_goto (pc' := 3) cx st d7_64 (by decide) (by decide) ?_
    refine E_iinc (pc' := 6) (L' := #[.val (.ref a1), .val (.int (0 : Int32)), .val (.int (3 : Int32)), .val (.int (1 : Int32)), .val (.int (2 : Int32)), .val (.int x1)]) cx st (1 : Int32) d7_3 rfl rfl rfl rfl ?_
    refine E_iload (pc' := 8) cx st d7_6 rfl rfl ?_
    refine E_iloadN (pc' := 9) cx st d7_8 rfl rfl ?_
    refine E_icmp_geN (pc' := 12) cx st d7_9 rfl (by decide) ?_
    refine E_aloadN (pc' := 13) cx st d7_12 rfl rfl rfl ?_
    refine E_iload (pc' := 15) cx st d7_13 rfl rfl ?_
    refine E_dup (pc' := 16) cx st d7_15 rfl rfl ?_
    refine E_istoreN (pc' := 17) (L' := #[.val (.ref a1), .val (.int (0 : Int32)), .val (.int (3 : Int32)), .val (.int (2 : Int32)), .val (.int (2 : Int32)), .val (.int x1)]) cx st d7_16 rfl rfl ?_
    refine E_iaload (pc' := 18) (x := x2) cx st V0 ⟨by decide, by decide⟩ rfl d7_17 rfl ?_
    refine E_istore (pc' := 20) (L' := #[.val (.ref a1), .val (.int (0 : Int32)), .val (.int (3 : Int32)), .val (.int (2 : Int32)), .val (.int (2 : Int32)), .val (.int x2)]) cx st d7_18 rfl rfl ?_
    refine E_iload (pc' := 22) cx st d7_20 rfl rfl ?_
    refine E_aloadN (pc' := 23) cx st d7_22 rfl rfl rfl ?_
    refine E_iloadN (pc' := 24) cx st d7_23 rfl rfl ?_
    refine E_iconst (pc' := 25) cx st (1 : Int32) d7_24 rfl rfl ?_
    refine E_isub (pc' := 26) cx st d7_25 rfl ?_
    rw [show ((2 : Int32) - (1 : Int32)) = (1 : Int32) from by decide]
    refine E_iaload (pc' := 27) (x := x1) cx st V0 ⟨by decide, by decide⟩ rfl d7_26 rfl ?_
    by_cases c10 : x2 < x1
    · refine E_icmp_geN (pc' := 30) cx st d7_27 rfl c10 ?_
      refine E_iinc (pc' := 33) (L' := #[.val (.ref a1), .val (.int (0 : Int32)), .val (.int (3 : Int32)), .val (.int (1 : Int32)), .val (.int (2 : Int32)), .val (.int x2)]) cx st (-1 : Int32) d7_30 rfl rfl rfl rfl ?_
      refine E_iloadN (pc' := 34) cx st d7_33 rfl rfl ?_
      refine E_iloadN (pc' := 35) cx st d7_34 rfl rfl ?_
      refine E_icmp_ltN (pc' := 38) cx st d7_35 rfl (by decide) ?_
      refine E_iload (pc' := 40) cx st d7_38 rfl rfl ?_
      refine E_aloadN (pc' := 41) cx st d7_40 rfl rfl rfl ?_
      refine E_iloadN (pc' := 42) cx st d7_41 rfl rfl ?_
      refine E_iaload (pc' := 43) (x := x1) cx st V0 ⟨by decide, by decide⟩ rfl d7_42 rfl ?_
      refine E_icmp_geN (pc' := 46) cx st d7_43 rfl c10 ?_
      refine E_aloadN (pc' := 47) cx st d7_46 rfl rfl rfl ?_
      refine E_iloadN (pc' := 48) cx st d7_47 rfl rfl ?_
      refine E_iconst (pc' := 49) cx st (1 : Int32) d7_48 rfl rfl ?_
      refine E_iadd (pc' := 50) cx st d7_49 rfl ?_
      rw [show ((1 : Int32) + (1 : Int32)) = (2 : Int32) from by decide]
      refine E_aloadN (pc' := 51) cx st d7_50 rfl rfl rfl ?_
      refine E_iloadN (pc' := 52) cx st d7_51 rfl rfl ?_
      refine E_iaload (pc' := 53) (x := x1) cx st V0 ⟨by decide, by decide⟩ rfl d7_52 rfl ?_
      refine E_iastore (pc' := 54) (i := 2) cx st V0 ⟨by decide, by decide⟩ rfl (Nat.le_of_ble_eq_true rfl) g_a1 d7_53 rfl ?_
      intro T11 h11 st11 W11 V11
      have Z11 : n0 ≤ h11.size := Nat.le_trans Z0 (Keep.of_wr W11).1
      have K11 : Keep h0 h11 [a1] := (Keep.refl h0 [a1]).wr W11 (Or.inl (List.mem_of_getElem? (i := 0) rfl))
      have V11p : Arv Z h11 a1 kA .int (3 : Int32) [(.int x0), (.int x1), (.int x1)] (.int (0 : Int32)) := V11
      refine E_goto (pc' := 30) cx st11 d7_54 (by decide) (by decide) ?_
      refine E_iinc (pc' := 33) (L' := #[.val (.ref a1), .val (.int (0 : Int32)), .val (.int (3 : Int32)), .val (.int (0 : Int32)), .val (.int (2 : Int32)), .val (.int x2)]) cx st11 (-1 : Int32) d7_30 rfl rfl rfl rfl ?_
      refine E_iloadN (pc' := 34) cx st11 d7_33 rfl rfl ?_
      refine E_iloadN (pc' := 35) cx st11 d7_34 rfl rfl ?_
      refine E_icmp_ltN (pc' := 38) cx st11 d7_35 rfl (by decide) ?_
      refine E_iload (pc' := 40) cx st11 d7_38 rfl rfl ?_
      refine E_aloadN (pc' := 41) cx st11 d7_40 rfl rfl rfl ?_
      refine E_iloadN (pc' := 42) cx st11 d7_41 rfl rfl ?_
      refine E_iaload (pc' := 43) (x := x0) cx st11 V11p ⟨by decide, by decide⟩ rfl d7_42 rfl ?_
      by_cases c12 : x2 < x0
      · refine E_icmp_geN (pc' := 46) cx st11 d7_43 rfl c12 ?_
        refine E_aloadN (pc' := 47) cx st11 d7_46 rfl rfl rfl ?_
        refine E_iloadN (pc' := 48) cx st11 d7_47 rfl rfl ?_
        refine E_iconst (pc' := 49) cx st11 (1 : Int32) d7_48 rfl rfl ?_
        refine E_iadd (pc' := 50) cx st11 d7_49 rfl ?_
        rw [show ((0 : Int32) + (1 : Int32)) = (1 : Int32) from by decide]
        refine E_aloadN (pc' := 51) cx st11 d7_50 rfl rfl rfl ?_
        refine E_iloadN (pc' := 52) cx st11 d7_51 rfl rfl ?_
        refine E_iaload (pc' := 53) (x := x0) cx st11 V11p ⟨by decide, by decide⟩ rfl d7_52 rfl ?_
        refine E_iastore (pc' := 54) (i := 1) cx st11 V11p ⟨by decide, by decide⟩ rfl (Nat.le_of_ble_eq_true rfl) g_a1 d7_53 rfl ?_
        intro T13 h13 st13 W13 V13
        have Z13 : n0 ≤ h13.size := Nat.le_trans Z11 (Keep.of_wr W13).1
        have K13 : Keep h0 h13 [a1] := K11.wr W13 (Or.inl (List.mem_of_getElem? (i := 0) rfl))
        have V13p : Arv Z h13 a1 kA .int (3 : Int32) [(.int x0), (.int x0), (.int x1)] (.int (0 : Int32)) := V13
        refine E_goto (pc' := 30) cx st13 d7_54 (by decide) (by decide) ?_
        refine E_iinc (pc' := 33) (L' := #[.val (.ref a1), .val (.int (0 : Int32)), .val (.int (3 : Int32)), .val (.int (-1 : Int32)), .val (.int (2 : Int32)), .val (.int x2)]) cx st13 (-1 : Int32) d7_30 rfl rfl rfl rfl ?_
        refine E_iloadN (pc' := 34) cx st13 d7_33 rfl rfl ?_
        refine E_iloadN (pc' := 35) cx st13 d7_34 rfl rfl ?_
        refine E_icmp_ltY (pc' := 57) cx st13 d7_35 (by decide) (by decide) (by decide) ?_
        refine E_aloadN (pc' := 58) cx st13 d7_57 rfl rfl rfl ?_
        refine E_iloadN (pc' := 59) cx st13 d7_58 rfl rfl ?_
        refine E_iconst (pc' := 60) cx st13 (1 : Int32) d7_59 rfl rfl ?_
        refine E_iadd (pc' := 61) cx st13 d7_60 rfl ?_
        rw [show ((-1 : Int32) + (1 : Int32)) = (0 : Int32) from by decide]
        refine E_iload (pc' := 63) cx st13 d7_61 rfl rfl ?_
        refine E_iastore (pc' := 64) (i := 0) cx st13 V13p ⟨by decide, by decide⟩ rfl (Nat.le_of_ble_eq_true rfl) g_a1 d7_63 rfl ?_
        intro T14 h14 st14 W14 V14
        have Z14 : n0 ≤ h14.size := Nat.le_trans Z13 (Keep.of_wr W14).1
        have K14 : Keep h0 h14 [a1] := K13.wr W14 (Or.inl (List.mem_of_getElem? (i := 0) rfl))
        have V14p : Arv Z h14 a1 kA .int (3 : Int32) [(.int x2), (.int x0), (.int x1)] (.int (0 : Int32)) := V14
        refine E_goto (pc' := 3) cx st14 d7_64 (by decide) (by decide) ?_
        refine E_iinc (pc' := 6) (L' := #[.val (.ref a1), .val (.int (0 : Int32)), .val (.int (3 : Int32)), .val (.int (-1 : Int32)), .val (.int (3 : Int32)), .val (.int x2)]) cx st14 (1 : Int32) d7_3 rfl rfl rfl rfl ?_
        refine E_iload (pc' := 8) cx st14 d7_6 rfl rfl ?_
        refine E_iloadN (pc' := 9) cx st14 d7_8 rfl rfl ?_
        refine E_icmp_geY (pc' := 67) cx st14 d7_9 (by decide) (by decide) (by decide) ?_
        refine E_return cx st14 d7_67 rfl (by decide) (by decide) ?_
        exact ⟨rfl, K14, x2, x0, x1, V14p, fun P => by constructor <;> (rintro ⟨h0, h1, h2⟩; exact ⟨by assumption, by assumption, by assumption⟩)⟩
      · refine E_icmp_geY (pc' := 57) cx st11 d7_43 (by decide) (by decide) c12 ?_
        refine E_aloadN (pc' := 58) cx st11 d7_57 rfl rfl rfl ?_
        refine E_iloadN (pc' := 59) cx st11 d7_58 rfl rfl ?_
        refine E_iconst (pc' := 60) cx st11 (1 : Int32) d7_59 rfl rfl ?_
        refine E_iadd (pc' := 61) cx st11 d7_60 rfl ?_
        rw [show ((0 : Int32) + (1 : Int32)) = (1 : Int32) from by decide]
        refine E_iload (pc' := 63) cx st11 d7_61 rfl rfl ?_
        refine E_iastore (pc' := 64) (i := 1) cx st11 V11p ⟨by decide, by decide⟩ rfl (Nat.le_of_ble_eq_true rfl) g_a1 d7_63 rfl ?_
        intro T15 h15 st15 W15 V15
        have Z15 : n0 ≤ h15.size := Nat.le_trans Z11 (Keep.of_wr W15).1
        have K15 : Keep h0 h15 [a1] := K11.wr W15 (Or.inl (List.mem_of_getElem? (i := 0) rfl))
        have V15p : Arv Z h15 a1 kA .int (3 : Int32) [(.int x0), (.int x2), (.int x1)] (.int (0 : Int32)) := V15
        refine E_goto (pc' := 3) cx st15 d7_64 (by decide) (by decide) ?_
        refine E_iinc (pc' := 6) (L' := #[.val (.ref a1), .val (.int (0 : Int32)), .val (.int (3 : Int32)), .val (.int (0 : Int32)), .val (.int (3 : Int32)), .val (.int x2)]) cx st15 (1 : Int32) d7_3 rfl rfl rfl rfl ?_
        refine E_iload (pc' := 8) cx st15 d7_6 rfl rfl ?_
        refine E_iloadN (pc' := 9) cx st15 d7_8 rfl rfl ?_
        refine E_icmp_geY (pc' := 67) cx st15 d7_9 (by decide) (by decide) (by decide) ?_
        refine E_return cx st15 d7_67 rfl (by decide) (by decide) ?_
        exact ⟨rfl, K15, x0, x2, x1, V15p, fun P => by constructor <;> (rintro ⟨h0, h1, h2⟩; exact ⟨by assumption, by assumption, by assumption⟩)⟩
    · refine E_icmp_geY (pc' := 64) cx st d7_27 (by decide) (by decide) c10 ?_
      refine E_goto (pc' := 3) cx st d7_64 (by decide) (by decide) ?_
      refine E_iinc (pc' := 6) (L' := #[.val (.ref a1), .val (.int (0 : Int32)), .val (.int (3 : Int32)), .val (.int (2 : Int32)), .val (.int (3 : Int32)), .val (.int x2)]) cx st (1 : Int32) d7_3 rfl rfl rfl rfl ?_
      refine E_iload (pc' := 8) cx st d7_6 rfl rfl ?_
      refine E_iloadN (pc' := 9) cx st d7_8 rfl rfl ?_
      refine E_icmp_geY (pc' := 67) cx st d7_9 (by decide) (by decide) (by decide) ?_
      refine E_return cx st d7_67 rfl (by decide) (by decide) ?_
      exact ⟨rfl, (Keep.refl h0 [a1]), x0, x1, x2, V0, fun P => Iff.rfl⟩
theorem d6_0 : decode jdk_2529_method_4_code 0 = .ok (.iload 4, 2) := by decide +kernel
theorem d6_2 : decode jdk_2529_method_4_code 2 = .ok (.iconst 1, 1) := by decide +kernel
theorem d6_3 : decode jdk_2529_method_4_code 3 = .ok (.isub, 1) := by decide +kernel
theorem d6_4 : decode jdk_2529_method_4_code 4 = .ok (.istore 5, 2) := by decide +kernel
theorem d6_6 : decode jdk_2529_method_4_code 6 = .ok (.iload 4, 2) := by decide +kernel
theorem d6_8 : decode jdk_2529_method_4_code 8 = .ok (.iload_n 3, 1) := by decide +kernel
theorem d6_9 : decode jdk_2529_method_4_code 9 = .ok (.isub, 1) := by decide +kernel
theorem d6_10 : decode jdk_2529_method_4_code 10 = .ok (.istore 6, 2) := by decide +kernel
theorem d6_12 : decode jdk_2529_method_4_code 12 = .ok (.iload 6, 2) := by decide +kernel
theorem d6_14 : decode jdk_2529_method_4_code 14 = .ok (.bipush 65, 2) := by decide +kernel
theorem d6_16 : decode jdk_2529_method_4_code 16 = .ok (.iload_n 2, 1) := by decide +kernel
theorem d6_17 : decode jdk_2529_method_4_code 17 = .ok (.iadd, 1) := by decide +kernel
theorem d6_18 : decode jdk_2529_method_4_code 18 = .ok (.if_icmp .ge 28, 3) := by decide +kernel
theorem d6_21 : decode jdk_2529_method_4_code 21 = .ok (.iload_n 2, 1) := by decide +kernel
theorem d6_22 : decode jdk_2529_method_4_code 22 = .ok (.iconst 1, 1) := by decide +kernel
theorem d6_23 : decode jdk_2529_method_4_code 23 = .ok (.iand, 1) := by decide +kernel
theorem d6_24 : decode jdk_2529_method_4_code 24 = .ok (.ifCond .le 22, 3) := by decide +kernel
theorem d6_27 : decode jdk_2529_method_4_code 27 = .ok (.aload_n 1, 1) := by decide +kernel
theorem d6_28 : decode jdk_2529_method_4_code 28 = .ok (.iload_n 3, 1) := by decide +kernel
theorem d6_29 : decode jdk_2529_method_4_code 29 = .ok (.iload 4, 2) := by decide +kernel
theorem d6_31 : decode jdk_2529_method_4_code 31 = .ok (.iconst 3, 1) := by decide +kernel
theorem d6_32 : decode jdk_2529_method_4_code 32 = .ok (.iload 6, 2) := by decide +kernel
theorem d6_34 : decode jdk_2529_method_4_code 34 = .ok (.iconst 5, 1) := by decide +kernel
theorem d6_35 : decode jdk_2529_method_4_code 35 = .ok (.ishr, 1) := by decide +kernel
theorem d6_36 : decode jdk_2529_method_4_code 36 = .ok (.iconst 3, 1) := by decide +kernel
theorem d6_37 : decode jdk_2529_method_4_code 37 = .ok (.ishl, 1) := by decide +kernel
theorem d6_38 : decode jdk_2529_method_4_code 38 = .ok (.imul, 1) := by decide +kernel
theorem d6_39 : decode jdk_2529_method_4_code 39 = .ok (.isub, 1) := by decide +kernel
theorem d6_40 : decode jdk_2529_method_4_code 40 = .ok (.iload 4, 2) := by decide +kernel
theorem d6_42 : decode jdk_2529_method_4_code 42 = .ok (.invokestatic 30, 3) := by decide +kernel
theorem d6_45 : decode jdk_2529_method_4_code 45 = .ok (.return_, 1) := by decide +kernel
theorem d6_46 : decode jdk_2529_method_4_code 46 = .ok (.iload 6, 2) := by decide +kernel
theorem d6_48 : decode jdk_2529_method_4_code 48 = .ok (.bipush 44, 2) := by decide +kernel
theorem d6_50 : decode jdk_2529_method_4_code 50 = .ok (.if_icmp .ge 11, 3) := by decide +kernel
theorem d6_53 : decode jdk_2529_method_4_code 53 = .ok (.aload_n 1, 1) := by decide +kernel
theorem d6_54 : decode jdk_2529_method_4_code 54 = .ok (.iload_n 3, 1) := by decide +kernel
theorem d6_55 : decode jdk_2529_method_4_code 55 = .ok (.iload 4, 2) := by decide +kernel
theorem d6_57 : decode jdk_2529_method_4_code 57 = .ok (.invokestatic 34, 3) := by decide +kernel
theorem d6_60 : decode jdk_2529_method_4_code 60 = .ok (.return_, 1) := by decide +kernel
theorem d6_61 : decode jdk_2529_method_4_code 61 = .ok (.iload_n 2, 1) := by decide +kernel
theorem d6_62 : decode jdk_2529_method_4_code 62 = .ok (.ifCond .eq 17, 3) := by decide +kernel
theorem d6_65 : decode jdk_2529_method_4_code 65 = .ok (.iload 6, 2) := by decide +kernel
theorem d6_67 : decode jdk_2529_method_4_code 67 = .ok (.sipush 4096, 3) := by decide +kernel
theorem d6_70 : decode jdk_2529_method_4_code 70 = .ok (.if_icmp .le 21, 3) := by decide +kernel
theorem d6_73 : decode jdk_2529_method_4_code 73 = .ok (.iload_n 2, 1) := by decide +kernel
theorem d6_74 : decode jdk_2529_method_4_code 74 = .ok (.iconst 1, 1) := by decide +kernel
theorem d6_75 : decode jdk_2529_method_4_code 75 = .ok (.iand, 1) := by decide +kernel
theorem d6_76 : decode jdk_2529_method_4_code 76 = .ok (.ifCond .le 15, 3) := by decide +kernel
theorem d6_79 : decode jdk_2529_method_4_code 79 = .ok (.aload_n 0, 1) := by decide +kernel
theorem d6_80 : decode jdk_2529_method_4_code 80 = .ok (.aload_n 1, 1) := by decide +kernel
theorem d6_81 : decode jdk_2529_method_4_code 81 = .ok (.iload_n 3, 1) := by decide +kernel
theorem d6_82 : decode jdk_2529_method_4_code 82 = .ok (.iload 6, 2) := by decide +kernel
theorem d6_84 : decode jdk_2529_method_4_code 84 = .ok (.invokestatic 38, 3) := by decide +kernel
theorem d6_87 : decode jdk_2529_method_4_code 87 = .ok (.ifCond .eq 4, 3) := by decide +kernel
theorem d6_90 : decode jdk_2529_method_4_code 90 = .ok (.return_, 1) := by decide +kernel
theorem d6_91 : decode jdk_2529_method_4_code 91 = .ok (.iinc 2 6, 3) := by decide +kernel
theorem d6_94 : decode jdk_2529_method_4_code 94 = .ok (.iload_n 2, 1) := by decide +kernel
theorem d6_95 : decode jdk_2529_method_4_code 95 = .ok (.sipush 384, 3) := by decide +kernel
theorem d6_98 : decode jdk_2529_method_4_code 98 = .ok (.if_icmp .le 11, 3) := by decide +kernel
theorem d6_101 : decode jdk_2529_method_4_code 101 = .ok (.aload_n 1, 1) := by decide +kernel
theorem d6_102 : decode jdk_2529_method_4_code 102 = .ok (.iload_n 3, 1) := by decide +kernel
theorem d6_103 : decode jdk_2529_method_4_code 103 = .ok (.iload 4, 2) := by decide +kernel
theorem d6_105 : decode jdk_2529_method_4_code 105 = .ok (.invokestatic 42, 3) := by decide +kernel
theorem d6_108 : decode jdk_2529_method_4_code 108 = .ok (.return_, 1) := by decide +kernel
theorem d6_109 : decode jdk_2529_method_4_code 109 = .ok (.iload 6, 2) := by decide +kernel
theorem d6_111 : decode jdk_2529_method_4_code 111 = .ok (.iconst 3, 1) := by decide +kernel
theorem d6_112 : decode jdk_2529_method_4_code 112 = .ok (.ishr, 1) := by decide +kernel
theorem d6_113 : decode jdk_2529_method_4_code 113 = .ok (.iconst 3, 1) := by decide +kernel
theorem d6_114 : decode jdk_2529_method_4_code 114 = .ok (.imul, 1) := by decide +kernel
theorem d6_115 : decode jdk_2529_method_4_code 115 = .ok (.iconst 3, 1) := by decide +kernel
theorem d6_116 : decode jdk_2529_method_4_code 116 = .ok (.iadd, 1) := by decide +kernel
theorem d6_117 : decode jdk_2529_method_4_code 117 = .ok (.istore 7, 2) := by decide +kernel
theorem d6_119 : decode jdk_2529_method_4_code 119 = .ok (.iload_n 3, 1) := by decide +kernel
theorem d6_120 : decode jdk_2529_method_4_code 120 = .ok (.iload 7, 2) := by decide +kernel
theorem d6_122 : decode jdk_2529_method_4_code 122 = .ok (.iadd, 1) := by decide +kernel
theorem d6_123 : decode jdk_2529_method_4_code 123 = .ok (.istore 8, 2) := by decide +kernel
theorem d6_125 : decode jdk_2529_method_4_code 125 = .ok (.iload 5, 2) := by decide +kernel
theorem d6_127 : decode jdk_2529_method_4_code 127 = .ok (.iload 7, 2) := by decide +kernel
theorem d6_129 : decode jdk_2529_method_4_code 129 = .ok (.isub, 1) := by decide +kernel
theorem d6_130 : decode jdk_2529_method_4_code 130 = .ok (.istore 9, 2) := by decide +kernel
theorem d6_132 : decode jdk_2529_method_4_code 132 = .ok (.iload 8, 2) := by decide +kernel
theorem d6_134 : decode jdk_2529_method_4_code 134 = .ok (.iload 9, 2) := by decide +kernel
theorem d6_136 : decode jdk_2529_method_4_code 136 = .ok (.iadd, 1) := by decide +kernel
theorem d6_137 : decode jdk_2529_method_4_code 137 = .ok (.iconst 1, 1) := by decide +kernel
theorem d6_138 : decode jdk_2529_method_4_code 138 = .ok (.iushr, 1) := by decide +kernel
theorem d6_139 : decode jdk_2529_method_4_code 139 = .ok (.istore 10, 2) := by decide +kernel
theorem d6_141 : decode jdk_2529_method_4_code 141 = .ok (.iload 8, 2) := by decide +kernel
theorem d6_143 : decode jdk_2529_method_4_code 143 = .ok (.iload 10, 2) := by decide +kernel
theorem d6_145 : decode jdk_2529_method_4_code 145 = .ok (.iadd, 1) := by decide +kernel
theorem d6_146 : decode jdk_2529_method_4_code 146 = .ok (.iconst 1, 1) := by decide +kernel
theorem d6_147 : decode jdk_2529_method_4_code 147 = .ok (.iushr, 1) := by decide +kernel
theorem d6_148 : decode jdk_2529_method_4_code 148 = .ok (.istore 11, 2) := by decide +kernel
theorem d6_150 : decode jdk_2529_method_4_code 150 = .ok (.iload 10, 2) := by decide +kernel
theorem d6_152 : decode jdk_2529_method_4_code 152 = .ok (.iload 9, 2) := by decide +kernel
theorem d6_154 : decode jdk_2529_method_4_code 154 = .ok (.iadd, 1) := by decide +kernel
theorem d6_155 : decode jdk_2529_method_4_code 155 = .ok (.iconst 1, 1) := by decide +kernel
theorem d6_156 : decode jdk_2529_method_4_code 156 = .ok (.iushr, 1) := by decide +kernel
theorem d6_157 : decode jdk_2529_method_4_code 157 = .ok (.istore 12, 2) := by decide +kernel
theorem d6_159 : decode jdk_2529_method_4_code 159 = .ok (.aload_n 1, 1) := by decide +kernel
theorem d6_160 : decode jdk_2529_method_4_code 160 = .ok (.iload 10, 2) := by decide +kernel
theorem d6_162 : decode jdk_2529_method_4_code 162 = .ok (.iaload, 1) := by decide +kernel
theorem d6_163 : decode jdk_2529_method_4_code 163 = .ok (.istore 13, 2) := by decide +kernel
theorem d6_165 : decode jdk_2529_method_4_code 165 = .ok (.aload_n 1, 1) := by decide +kernel
theorem d6_166 : decode jdk_2529_method_4_code 166 = .ok (.iload 9, 2) := by decide +kernel
theorem d6_168 : decode jdk_2529_method_4_code 168 = .ok (.iaload, 1) := by decide +kernel
theorem d6_169 : decode jdk_2529_method_4_code 169 = .ok (.aload_n 1, 1) := by decide +kernel
theorem d6_170 : decode jdk_2529_method_4_code 170 = .ok (.iload 11, 2) := by decide +kernel
theorem d6_172 : decode jdk_2529_method_4_code 172 = .ok (.iaload, 1) := by decide +kernel
theorem d6_173 : decode jdk_2529_method_4_code 173 = .ok (.if_icmp .ge 23, 3) := by decide +kernel
theorem d6_176 : decode jdk_2529_method_4_code 176 = .ok (.aload_n 1, 1) := by decide +kernel
theorem d6_177 : decode jdk_2529_method_4_code 177 = .ok (.iload 9, 2) := by decide +kernel
theorem d6_179 : decode jdk_2529_method_4_code 179 = .ok (.iaload, 1) := by decide +kernel
theorem d6_180 : decode jdk_2529_method_4_code 180 = .ok (.istore 14, 2) := by decide +kernel
theorem d6_182 : decode jdk_2529_method_4_code 182 = .ok (.aload_n 1, 1) := by decide +kernel
theorem d6_183 : decode jdk_2529_method_4_code 183 = .ok (.iload 9, 2) := by decide +kernel
theorem d6_185 : decode jdk_2529_method_4_code 185 = .ok (.aload_n 1, 1) := by decide +kernel
theorem d6_186 : decode jdk_2529_method_4_code 186 = .ok (.iload 11, 2) := by decide +kernel
theorem d6_188 : decode jdk_2529_method_4_code 188 = .ok (.iaload, 1) := by decide +kernel
theorem d6_189 : decode jdk_2529_method_4_code 189 = .ok (.iastore, 1) := by decide +kernel
theorem d6_190 : decode jdk_2529_method_4_code 190 = .ok (.aload_n 1, 1) := by decide +kernel
theorem d6_191 : decode jdk_2529_method_4_code 191 = .ok (.iload 11, 2) := by decide +kernel
theorem d6_193 : decode jdk_2529_method_4_code 193 = .ok (.iload 14, 2) := by decide +kernel
theorem d6_195 : decode jdk_2529_method_4_code 195 = .ok (.iastore, 1) := by decide +kernel
theorem d6_196 : decode jdk_2529_method_4_code 196 = .ok (.aload_n 1, 1) := by decide +kernel
theorem d6_197 : decode jdk_2529_method_4_code 197 = .ok (.iload 12, 2) := by decide +kernel
theorem d6_199 : decode jdk_2529_method_4_code 199 = .ok (.iaload, 1) := by decide +kernel
theorem d6_200 : decode jdk_2529_method_4_code 200 = .ok (.aload_n 1, 1) := by decide +kernel
theorem d6_201 : decode jdk_2529_method_4_code 201 = .ok (.iload 8, 2) := by decide +kernel
theorem d6_203 : decode jdk_2529_method_4_code 203 = .ok (.iaload, 1) := by decide +kernel
theorem d6_204 : decode jdk_2529_method_4_code 204 = .ok (.if_icmp .ge 23, 3) := by decide +kernel
theorem d6_207 : decode jdk_2529_method_4_code 207 = .ok (.aload_n 1, 1) := by decide +kernel
theorem d6_208 : decode jdk_2529_method_4_code 208 = .ok (.iload 12, 2) := by decide +kernel
theorem d6_210 : decode jdk_2529_method_4_code 210 = .ok (.iaload, 1) := by decide +kernel
theorem d6_211 : decode jdk_2529_method_4_code 211 = .ok (.istore 14, 2) := by decide +kernel
theorem d6_213 : decode jdk_2529_method_4_code 213 = .ok (.aload_n 1, 1) := by decide +kernel
theorem d6_214 : decode jdk_2529_method_4_code 214 = .ok (.iload 12, 2) := by decide +kernel
theorem d6_216 : decode jdk_2529_method_4_code 216 = .ok (.aload_n 1, 1) := by decide +kernel
theorem d6_217 : decode jdk_2529_method_4_code 217 = .ok (.iload 8, 2) := by decide +kernel
theorem d6_219 : decode jdk_2529_method_4_code 219 = .ok (.iaload, 1) := by decide +kernel
theorem d6_220 : decode jdk_2529_method_4_code 220 = .ok (.iastore, 1) := by decide +kernel
theorem d6_221 : decode jdk_2529_method_4_code 221 = .ok (.aload_n 1, 1) := by decide +kernel
theorem d6_222 : decode jdk_2529_method_4_code 222 = .ok (.iload 8, 2) := by decide +kernel
theorem d6_224 : decode jdk_2529_method_4_code 224 = .ok (.iload 14, 2) := by decide +kernel
theorem d6_226 : decode jdk_2529_method_4_code 226 = .ok (.iastore, 1) := by decide +kernel
theorem d6_227 : decode jdk_2529_method_4_code 227 = .ok (.aload_n 1, 1) := by decide +kernel
theorem d6_228 : decode jdk_2529_method_4_code 228 = .ok (.iload 9, 2) := by decide +kernel
theorem d6_230 : decode jdk_2529_method_4_code 230 = .ok (.iaload, 1) := by decide +kernel
theorem d6_231 : decode jdk_2529_method_4_code 231 = .ok (.aload_n 1, 1) := by decide +kernel
theorem d6_232 : decode jdk_2529_method_4_code 232 = .ok (.iload 12, 2) := by decide +kernel
theorem d6_234 : decode jdk_2529_method_4_code 234 = .ok (.iaload, 1) := by decide +kernel
theorem d6_235 : decode jdk_2529_method_4_code 235 = .ok (.if_icmp .ge 23, 3) := by decide +kernel
theorem d6_238 : decode jdk_2529_method_4_code 238 = .ok (.aload_n 1, 1) := by decide +kernel
theorem d6_239 : decode jdk_2529_method_4_code 239 = .ok (.iload 9, 2) := by decide +kernel
theorem d6_241 : decode jdk_2529_method_4_code 241 = .ok (.iaload, 1) := by decide +kernel
theorem d6_242 : decode jdk_2529_method_4_code 242 = .ok (.istore 14, 2) := by decide +kernel
theorem d6_244 : decode jdk_2529_method_4_code 244 = .ok (.aload_n 1, 1) := by decide +kernel
theorem d6_245 : decode jdk_2529_method_4_code 245 = .ok (.iload 9, 2) := by decide +kernel
theorem d6_247 : decode jdk_2529_method_4_code 247 = .ok (.aload_n 1, 1) := by decide +kernel
theorem d6_248 : decode jdk_2529_method_4_code 248 = .ok (.iload 12, 2) := by decide +kernel
theorem d6_250 : decode jdk_2529_method_4_code 250 = .ok (.iaload, 1) := by decide +kernel
theorem d6_251 : decode jdk_2529_method_4_code 251 = .ok (.iastore, 1) := by decide +kernel
theorem d6_252 : decode jdk_2529_method_4_code 252 = .ok (.aload_n 1, 1) := by decide +kernel
theorem d6_253 : decode jdk_2529_method_4_code 253 = .ok (.iload 12, 2) := by decide +kernel
theorem d6_255 : decode jdk_2529_method_4_code 255 = .ok (.iload 14, 2) := by decide +kernel
theorem d6_257 : decode jdk_2529_method_4_code 257 = .ok (.iastore, 1) := by decide +kernel
theorem d6_258 : decode jdk_2529_method_4_code 258 = .ok (.aload_n 1, 1) := by decide +kernel
theorem d6_259 : decode jdk_2529_method_4_code 259 = .ok (.iload 11, 2) := by decide +kernel
theorem d6_261 : decode jdk_2529_method_4_code 261 = .ok (.iaload, 1) := by decide +kernel
theorem d6_262 : decode jdk_2529_method_4_code 262 = .ok (.aload_n 1, 1) := by decide +kernel
theorem d6_263 : decode jdk_2529_method_4_code 263 = .ok (.iload 8, 2) := by decide +kernel
theorem d6_265 : decode jdk_2529_method_4_code 265 = .ok (.iaload, 1) := by decide +kernel
theorem d6_266 : decode jdk_2529_method_4_code 266 = .ok (.if_icmp .ge 23, 3) := by decide +kernel
theorem d6_269 : decode jdk_2529_method_4_code 269 = .ok (.aload_n 1, 1) := by decide +kernel
theorem d6_270 : decode jdk_2529_method_4_code 270 = .ok (.iload 11, 2) := by decide +kernel
theorem d6_272 : decode jdk_2529_method_4_code 272 = .ok (.iaload, 1) := by decide +kernel
theorem d6_273 : decode jdk_2529_method_4_code 273 = .ok (.istore 14, 2) := by decide +kernel
theorem d6_275 : decode jdk_2529_method_4_code 275 = .ok (.aload_n 1, 1) := by decide +kernel
theorem d6_276 : decode jdk_2529_method_4_code 276 = .ok (.iload 11, 2) := by decide +kernel
theorem d6_278 : decode jdk_2529_method_4_code 278 = .ok (.aload_n 1, 1) := by decide +kernel
theorem d6_279 : decode jdk_2529_method_4_code 279 = .ok (.iload 8, 2) := by decide +kernel
theorem d6_281 : decode jdk_2529_method_4_code 281 = .ok (.iaload, 1) := by decide +kernel
theorem d6_282 : decode jdk_2529_method_4_code 282 = .ok (.iastore, 1) := by decide +kernel
theorem d6_283 : decode jdk_2529_method_4_code 283 = .ok (.aload_n 1, 1) := by decide +kernel
theorem d6_284 : decode jdk_2529_method_4_code 284 = .ok (.iload 8, 2) := by decide +kernel
theorem d6_286 : decode jdk_2529_method_4_code 286 = .ok (.iload 14, 2) := by decide +kernel
theorem d6_288 : decode jdk_2529_method_4_code 288 = .ok (.iastore, 1) := by decide +kernel
theorem d6_289 : decode jdk_2529_method_4_code 289 = .ok (.aload_n 1, 1) := by decide +kernel
theorem d6_290 : decode jdk_2529_method_4_code 290 = .ok (.iload 12, 2) := by decide +kernel
theorem d6_292 : decode jdk_2529_method_4_code 292 = .ok (.iaload, 1) := by decide +kernel
theorem d6_293 : decode jdk_2529_method_4_code 293 = .ok (.aload_n 1, 1) := by decide +kernel
theorem d6_294 : decode jdk_2529_method_4_code 294 = .ok (.iload 11, 2) := by decide +kernel
theorem d6_296 : decode jdk_2529_method_4_code 296 = .ok (.iaload, 1) := by decide +kernel
theorem d6_297 : decode jdk_2529_method_4_code 297 = .ok (.if_icmp .ge 23, 3) := by decide +kernel
theorem d6_300 : decode jdk_2529_method_4_code 300 = .ok (.aload_n 1, 1) := by decide +kernel
theorem d6_301 : decode jdk_2529_method_4_code 301 = .ok (.iload 12, 2) := by decide +kernel
theorem d6_303 : decode jdk_2529_method_4_code 303 = .ok (.iaload, 1) := by decide +kernel
theorem d6_304 : decode jdk_2529_method_4_code 304 = .ok (.istore 14, 2) := by decide +kernel
theorem d6_306 : decode jdk_2529_method_4_code 306 = .ok (.aload_n 1, 1) := by decide +kernel
theorem d6_307 : decode jdk_2529_method_4_code 307 = .ok (.iload 12, 2) := by decide +kernel
theorem d6_309 : decode jdk_2529_method_4_code 309 = .ok (.aload_n 1, 1) := by decide +kernel
theorem d6_310 : decode jdk_2529_method_4_code 310 = .ok (.iload 11, 2) := by decide +kernel
theorem d6_312 : decode jdk_2529_method_4_code 312 = .ok (.iaload, 1) := by decide +kernel
theorem d6_313 : decode jdk_2529_method_4_code 313 = .ok (.iastore, 1) := by decide +kernel
theorem d6_314 : decode jdk_2529_method_4_code 314 = .ok (.aload_n 1, 1) := by decide +kernel
theorem d6_315 : decode jdk_2529_method_4_code 315 = .ok (.iload 11, 2) := by decide +kernel
theorem d6_317 : decode jdk_2529_method_4_code 317 = .ok (.iload 14, 2) := by decide +kernel
theorem d6_319 : decode jdk_2529_method_4_code 319 = .ok (.iastore, 1) := by decide +kernel
theorem d6_320 : decode jdk_2529_method_4_code 320 = .ok (.iload 13, 2) := by decide +kernel
theorem d6_322 : decode jdk_2529_method_4_code 322 = .ok (.aload_n 1, 1) := by decide +kernel
theorem d6_323 : decode jdk_2529_method_4_code 323 = .ok (.iload 11, 2) := by decide +kernel
theorem d6_325 : decode jdk_2529_method_4_code 325 = .ok (.iaload, 1) := by decide +kernel
theorem d6_326 : decode jdk_2529_method_4_code 326 = .ok (.if_icmp .ge 54, 3) := by decide +kernel
theorem d6_329 : decode jdk_2529_method_4_code 329 = .ok (.iload 13, 2) := by decide +kernel
theorem d6_331 : decode jdk_2529_method_4_code 331 = .ok (.aload_n 1, 1) := by decide +kernel
theorem d6_332 : decode jdk_2529_method_4_code 332 = .ok (.iload 8, 2) := by decide +kernel
theorem d6_334 : decode jdk_2529_method_4_code 334 = .ok (.iaload, 1) := by decide +kernel
theorem d6_335 : decode jdk_2529_method_4_code 335 = .ok (.if_icmp .ge 28, 3) := by decide +kernel
theorem d6_338 : decode jdk_2529_method_4_code 338 = .ok (.aload_n 1, 1) := by decide +kernel
theorem d6_339 : decode jdk_2529_method_4_code 339 = .ok (.iload 10, 2) := by decide +kernel
theorem d6_341 : decode jdk_2529_method_4_code 341 = .ok (.aload_n 1, 1) := by decide +kernel
theorem d6_342 : decode jdk_2529_method_4_code 342 = .ok (.iload 11, 2) := by decide +kernel
theorem d6_344 : decode jdk_2529_method_4_code 344 = .ok (.iaload, 1) := by decide +kernel
theorem d6_345 : decode jdk_2529_method_4_code 345 = .ok (.iastore, 1) := by decide +kernel
theorem d6_346 : decode jdk_2529_method_4_code 346 = .ok (.aload_n 1, 1) := by decide +kernel
theorem d6_347 : decode jdk_2529_method_4_code 347 = .ok (.iload 11, 2) := by decide +kernel
theorem d6_349 : decode jdk_2529_method_4_code 349 = .ok (.aload_n 1, 1) := by decide +kernel
theorem d6_350 : decode jdk_2529_method_4_code 350 = .ok (.iload 8, 2) := by decide +kernel
theorem d6_352 : decode jdk_2529_method_4_code 352 = .ok (.iaload, 1) := by decide +kernel
theorem d6_353 : decode jdk_2529_method_4_code 353 = .ok (.iastore, 1) := by decide +kernel
theorem d6_354 : decode jdk_2529_method_4_code 354 = .ok (.aload_n 1, 1) := by decide +kernel
theorem d6_355 : decode jdk_2529_method_4_code 355 = .ok (.iload 8, 2) := by decide +kernel
theorem d6_357 : decode jdk_2529_method_4_code 357 = .ok (.iload 13, 2) := by decide +kernel
theorem d6_359 : decode jdk_2529_method_4_code 359 = .ok (.iastore, 1) := by decide +kernel
theorem d6_360 : decode jdk_2529_method_4_code 360 = .ok (.goto 77, 3) := by decide +kernel
theorem d6_363 : decode jdk_2529_method_4_code 363 = .ok (.aload_n 1, 1) := by decide +kernel
theorem d6_364 : decode jdk_2529_method_4_code 364 = .ok (.iload 10, 2) := by decide +kernel
theorem d6_366 : decode jdk_2529_method_4_code 366 = .ok (.aload_n 1, 1) := by decide +kernel
theorem d6_367 : decode jdk_2529_method_4_code 367 = .ok (.iload 11, 2) := by decide +kernel
theorem d6_369 : decode jdk_2529_method_4_code 369 = .ok (.iaload, 1) := by decide +kernel
theorem d6_370 : decode jdk_2529_method_4_code 370 = .ok (.iastore, 1) := by decide +kernel
theorem d6_371 : decode jdk_2529_method_4_code 371 = .ok (.aload_n 1, 1) := by decide +kernel
theorem d6_372 : decode jdk_2529_method_4_code 372 = .ok (.iload 11, 2) := by decide +kernel
theorem d6_374 : decode jdk_2529_method_4_code 374 = .ok (.iload 13, 2) := by decide +kernel
theorem d6_376 : decode jdk_2529_method_4_code 376 = .ok (.iastore, 1) := by decide +kernel
theorem d6_377 : decode jdk_2529_method_4_code 377 = .ok (.goto 60, 3) := by decide +kernel
theorem d6_380 : decode jdk_2529_method_4_code 380 = .ok (.iload 13, 2) := by decide +kernel
theorem d6_382 : decode jdk_2529_method_4_code 382 = .ok (.aload_n 1, 1) := by decide +kernel
theorem d6_383 : decode jdk_2529_method_4_code 383 = .ok (.iload 12, 2) := by decide +kernel
theorem d6_385 : decode jdk_2529_method_4_code 385 = .ok (.iaload, 1) := by decide +kernel
theorem d6_386 : decode jdk_2529_method_4_code 386 = .ok (.if_icmp .le 51, 3) := by decide +kernel
theorem d6_389 : decode jdk_2529_method_4_code 389 = .ok (.iload 13, 2) := by decide +kernel
theorem d6_391 : decode jdk_2529_method_4_code 391 = .ok (.aload_n 1, 1) := by decide +kernel
theorem d6_392 : decode jdk_2529_method_4_code 392 = .ok (.iload 9, 2) := by decide +kernel
theorem d6_394 : decode jdk_2529_method_4_code 394 = .ok (.iaload, 1) := by decide +kernel
theorem d6_395 : decode jdk_2529_method_4_code 395 = .ok (.if_icmp .le 28, 3) := by decide +kernel
theorem d6_398 : decode jdk_2529_method_4_code 398 = .ok (.aload_n 1, 1) := by decide +kernel
theorem d6_399 : decode jdk_2529_method_4_code 399 = .ok (.iload 10, 2) := by decide +kernel
theorem d6_401 : decode jdk_2529_method_4_code 401 = .ok (.aload_n 1, 1) := by decide +kernel
theorem d6_402 : decode jdk_2529_method_4_code 402 = .ok (.iload 12, 2) := by decide +kernel
theorem d6_404 : decode jdk_2529_method_4_code 404 = .ok (.iaload, 1) := by decide +kernel
theorem d6_405 : decode jdk_2529_method_4_code 405 = .ok (.iastore, 1) := by decide +kernel
theorem d6_406 : decode jdk_2529_method_4_code 406 = .ok (.aload_n 1, 1) := by decide +kernel
theorem d6_407 : decode jdk_2529_method_4_code 407 = .ok (.iload 12, 2) := by decide +kernel
theorem d6_409 : decode jdk_2529_method_4_code 409 = .ok (.aload_n 1, 1) := by decide +kernel
theorem d6_410 : decode jdk_2529_method_4_code 410 = .ok (.iload 9, 2) := by decide +kernel
theorem d6_412 : decode jdk_2529_method_4_code 412 = .ok (.iaload, 1) := by decide +kernel
theorem d6_413 : decode jdk_2529_method_4_code 413 = .ok (.iastore, 1) := by decide +kernel
theorem d6_414 : decode jdk_2529_method_4_code 414 = .ok (.aload_n 1, 1) := by decide +kernel
theorem d6_415 : decode jdk_2529_method_4_code 415 = .ok (.iload 9, 2) := by decide +kernel
theorem d6_417 : decode jdk_2529_method_4_code 417 = .ok (.iload 13, 2) := by decide +kernel
theorem d6_419 : decode jdk_2529_method_4_code 419 = .ok (.iastore, 1) := by decide +kernel
theorem d6_420 : decode jdk_2529_method_4_code 420 = .ok (.goto 17, 3) := by decide +kernel
theorem d6_423 : decode jdk_2529_method_4_code 423 = .ok (.aload_n 1, 1) := by decide +kernel
theorem d6_424 : decode jdk_2529_method_4_code 424 = .ok (.iload 10, 2) := by decide +kernel
theorem d6_426 : decode jdk_2529_method_4_code 426 = .ok (.aload_n 1, 1) := by decide +kernel
theorem d6_427 : decode jdk_2529_method_4_code 427 = .ok (.iload 12, 2) := by decide +kernel
theorem d6_429 : decode jdk_2529_method_4_code 429 = .ok (.iaload, 1) := by decide +kernel
theorem d6_430 : decode jdk_2529_method_4_code 430 = .ok (.iastore, 1) := by decide +kernel
theorem d6_431 : decode jdk_2529_method_4_code 431 = .ok (.aload_n 1, 1) := by decide +kernel
theorem d6_432 : decode jdk_2529_method_4_code 432 = .ok (.iload 12, 2) := by decide +kernel
theorem d6_434 : decode jdk_2529_method_4_code 434 = .ok (.iload 13, 2) := by decide +kernel
theorem d6_436 : decode jdk_2529_method_4_code 436 = .ok (.iastore, 1) := by decide +kernel
theorem d6_437 : decode jdk_2529_method_4_code 437 = .ok (.iload_n 3, 1) := by decide +kernel
theorem d6_438 : decode jdk_2529_method_4_code 438 = .ok (.istore 14, 2) := by decide +kernel
theorem d6_440 : decode jdk_2529_method_4_code 440 = .ok (.iload 5, 2) := by decide +kernel
theorem d6_442 : decode jdk_2529_method_4_code 442 = .ok (.istore 15, 2) := by decide +kernel
theorem d6_444 : decode jdk_2529_method_4_code 444 = .ok (.aload_n 1, 1) := by decide +kernel
theorem d6_445 : decode jdk_2529_method_4_code 445 = .ok (.iload 8, 2) := by decide +kernel
theorem d6_447 : decode jdk_2529_method_4_code 447 = .ok (.iaload, 1) := by decide +kernel
theorem d6_448 : decode jdk_2529_method_4_code 448 = .ok (.aload_n 1, 1) := by decide +kernel
theorem d6_449 : decode jdk_2529_method_4_code 449 = .ok (.iload 11, 2) := by decide +kernel
theorem d6_451 : decode jdk_2529_method_4_code 451 = .ok (.iaload, 1) := by decide +kernel
theorem d6_452 : decode jdk_2529_method_4_code 452 = .ok (.if_icmp .ge 324, 3) := by decide +kernel
theorem d6_455 : decode jdk_2529_method_4_code 455 = .ok (.aload_n 1, 1) := by decide +kernel
theorem d6_456 : decode jdk_2529_method_4_code 456 = .ok (.iload 11, 2) := by decide +kernel
theorem d6_458 : decode jdk_2529_method_4_code 458 = .ok (.iaload, 1) := by decide +kernel
theorem d6_459 : decode jdk_2529_method_4_code 459 = .ok (.aload_n 1, 1) := by decide +kernel
theorem d6_460 : decode jdk_2529_method_4_code 460 = .ok (.iload 10, 2) := by decide +kernel
theorem d6_462 : decode jdk_2529_method_4_code 462 = .ok (.iaload, 1) := by decide +kernel
theorem d6_463 : decode jdk_2529_method_4_code 463 = .ok (.if_icmp .ge 313, 3) := by decide +kernel
theorem d6_466 : decode jdk_2529_method_4_code 466 = .ok (.aload_n 1, 1) := by decide +kernel
theorem d6_467 : decode jdk_2529_method_4_code 467 = .ok (.iload 10, 2) := by decide +kernel
theorem d6_469 : decode jdk_2529_method_4_code 469 = .ok (.iaload, 1) := by decide +kernel
theorem d6_470 : decode jdk_2529_method_4_code 470 = .ok (.aload_n 1, 1) := by decide +kernel
theorem d6_471 : decode jdk_2529_method_4_code 471 = .ok (.iload 12, 2) := by decide +kernel
theorem d6_473 : decode jdk_2529_method_4_code 473 = .ok (.iaload, 1) := by decide +kernel
theorem d6_474 : decode jdk_2529_method_4_code 474 = .ok (.if_icmp .ge 302, 3) := by decide +kernel
theorem d6_477 : decode jdk_2529_method_4_code 477 = .ok (.aload_n 1, 1) := by decide +kernel
theorem d6_478 : decode jdk_2529_method_4_code 478 = .ok (.iload 12, 2) := by decide +kernel
theorem d6_480 : decode jdk_2529_method_4_code 480 = .ok (.iaload, 1) := by decide +kernel
theorem d6_481 : decode jdk_2529_method_4_code 481 = .ok (.aload_n 1, 1) := by decide +kernel
theorem d6_482 : decode jdk_2529_method_4_code 482 = .ok (.iload 9, 2) := by decide +kernel
theorem d6_484 : decode jdk_2529_method_4_code 484 = .ok (.iaload, 1) := by decide +kernel
theorem d6_485 : decode jdk_2529_method_4_code 485 = .ok (.if_icmp .ge 291, 3) := by decide +kernel
theorem d6_488 : decode jdk_2529_method_4_code 488 = .ok (.aload_n 1, 1) := by decide +kernel
theorem d6_489 : decode jdk_2529_method_4_code 489 = .ok (.iload 8, 2) := by decide +kernel
theorem d6_491 : decode jdk_2529_method_4_code 491 = .ok (.iaload, 1) := by decide +kernel
theorem d6_492 : decode jdk_2529_method_4_code 492 = .ok (.istore 16, 2) := by decide +kernel
theorem d6_494 : decode jdk_2529_method_4_code 494 = .ok (.aload_n 1, 1) := by decide +kernel
theorem d6_495 : decode jdk_2529_method_4_code 495 = .ok (.iload 9, 2) := by decide +kernel
theorem d6_497 : decode jdk_2529_method_4_code 497 = .ok (.iaload, 1) := by decide +kernel
theorem d6_498 : decode jdk_2529_method_4_code 498 = .ok (.istore 17, 2) := by decide +kernel
theorem d6_500 : decode jdk_2529_method_4_code 500 = .ok (.aload_n 1, 1) := by decide +kernel
theorem d6_501 : decode jdk_2529_method_4_code 501 = .ok (.iload 8, 2) := by decide +kernel
theorem d6_503 : decode jdk_2529_method_4_code 503 = .ok (.aload_n 1, 1) := by decide +kernel
theorem d6_504 : decode jdk_2529_method_4_code 504 = .ok (.iload 14, 2) := by decide +kernel
theorem d6_506 : decode jdk_2529_method_4_code 506 = .ok (.iaload, 1) := by decide +kernel
theorem d6_507 : decode jdk_2529_method_4_code 507 = .ok (.iastore, 1) := by decide +kernel
theorem d6_508 : decode jdk_2529_method_4_code 508 = .ok (.aload_n 1, 1) := by decide +kernel
theorem d6_509 : decode jdk_2529_method_4_code 509 = .ok (.iload 9, 2) := by decide +kernel
theorem d6_511 : decode jdk_2529_method_4_code 511 = .ok (.aload_n 1, 1) := by decide +kernel
theorem d6_512 : decode jdk_2529_method_4_code 512 = .ok (.iload 15, 2) := by decide +kernel
theorem d6_514 : decode jdk_2529_method_4_code 514 = .ok (.iaload, 1) := by decide +kernel
theorem d6_515 : decode jdk_2529_method_4_code 515 = .ok (.iastore, 1) := by decide +kernel
theorem d6_516 : decode jdk_2529_method_4_code 516 = .ok (.aload_n 1, 1) := by decide +kernel
theorem d6_517 : decode jdk_2529_method_4_code 517 = .ok (.iinc 14 1, 3) := by decide +kernel
theorem d6_520 : decode jdk_2529_method_4_code 520 = .ok (.iload 14, 2) := by decide +kernel
theorem d6_522 : decode jdk_2529_method_4_code 522 = .ok (.iaload, 1) := by decide +kernel
theorem d6_523 : decode jdk_2529_method_4_code 523 = .ok (.iload 16, 2) := by decide +kernel
theorem d6_525 : decode jdk_2529_method_4_code 525 = .ok (.if_icmp .ge 6, 3) := by decide +kernel
theorem d6_528 : decode jdk_2529_method_4_code 528 = .ok (.goto (-12), 3) := by decide +kernel
theorem d6_531 : decode jdk_2529_method_4_code 531 = .ok (.aload_n 1, 1) := by decide +kernel
theorem d6_532 : decode jdk_2529_method_4_code 532 = .ok (.iinc 15 (-1), 3) := by decide +kernel
theorem d6_535 : decode jdk_2529_method_4_code 535 = .ok (.iload 15, 2) := by decide +kernel
theorem d6_537 : decode jdk_2529_method_4_code 537 = .ok (.iaload, 1) := by decide +kernel
theorem d6_538 : decode jdk_2529_method_4_code 538 = .ok (.iload 17, 2) := by decide +kernel
theorem d6_540 : decode jdk_2529_method_4_code 540 = .ok (.if_icmp .le 6, 3) := by decide +kernel
theorem d6_543 : decode jdk_2529_method_4_code 543 = .ok (.goto (-12), 3) := by decide +kernel
theorem d6_546 : decode jdk_2529_method_4_code 546 = .ok (.iinc 14 (-1), 3) := by decide +kernel
theorem d6_549 : decode jdk_2529_method_4_code 549 = .ok (.iload 14, 2) := by decide +kernel
theorem d6_551 : decode jdk_2529_method_4_code 551 = .ok (.istore 18, 2) := by decide +kernel
theorem d6_553 : decode jdk_2529_method_4_code 553 = .ok (.iinc 15 1, 3) := by decide +kernel
theorem d6_556 : decode jdk_2529_method_4_code 556 = .ok (.iload 15, 2) := by decide +kernel
theorem d6_558 : decode jdk_2529_method_4_code 558 = .ok (.istore 19, 2) := by decide +kernel
theorem d6_560 : decode jdk_2529_method_4_code 560 = .ok (.iinc 19 (-1), 3) := by decide +kernel
theorem d6_563 : decode jdk_2529_method_4_code 563 = .ok (.iload 19, 2) := by decide +kernel
theorem d6_565 : decode jdk_2529_method_4_code 565 = .ok (.iload 14, 2) := by decide +kernel
theorem d6_567 : decode jdk_2529_method_4_code 567 = .ok (.if_icmp .le 110, 3) := by decide +kernel
theorem d6_570 : decode jdk_2529_method_4_code 570 = .ok (.aload_n 1, 1) := by decide +kernel
theorem d6_571 : decode jdk_2529_method_4_code 571 = .ok (.iload 19, 2) := by decide +kernel
theorem d6_573 : decode jdk_2529_method_4_code 573 = .ok (.iaload, 1) := by decide +kernel
theorem d6_574 : decode jdk_2529_method_4_code 574 = .ok (.istore 20, 2) := by decide +kernel
theorem d6_576 : decode jdk_2529_method_4_code 576 = .ok (.iload 20, 2) := by decide +kernel
theorem d6_578 : decode jdk_2529_method_4_code 578 = .ok (.iload 16, 2) := by decide +kernel
theorem d6_580 : decode jdk_2529_method_4_code 580 = .ok (.if_icmp .ge 70, 3) := by decide +kernel
theorem d6_583 : decode jdk_2529_method_4_code 583 = .ok (.iload 14, 2) := by decide +kernel
theorem d6_585 : decode jdk_2529_method_4_code 585 = .ok (.iload 19, 2) := by decide +kernel
theorem d6_587 : decode jdk_2529_method_4_code 587 = .ok (.if_icmp .ge 87, 3) := by decide +kernel
theorem d6_590 : decode jdk_2529_method_4_code 590 = .ok (.aload_n 1, 1) := by decide +kernel
theorem d6_591 : decode jdk_2529_method_4_code 591 = .ok (.iinc 14 1, 3) := by decide +kernel
theorem d6_594 : decode jdk_2529_method_4_code 594 = .ok (.iload 14, 2) := by decide +kernel
theorem d6_596 : decode jdk_2529_method_4_code 596 = .ok (.iaload, 1) := by decide +kernel
theorem d6_597 : decode jdk_2529_method_4_code 597 = .ok (.iload 16, 2) := by decide +kernel
theorem d6_599 : decode jdk_2529_method_4_code 599 = .ok (.if_icmp .lt (-16), 3) := by decide +kernel
theorem d6_602 : decode jdk_2529_method_4_code 602 = .ok (.aload_n 1, 1) := by decide +kernel
theorem d6_603 : decode jdk_2529_method_4_code 603 = .ok (.iload 14, 2) := by decide +kernel
theorem d6_605 : decode jdk_2529_method_4_code 605 = .ok (.iaload, 1) := by decide +kernel
theorem d6_606 : decode jdk_2529_method_4_code 606 = .ok (.iload 17, 2) := by decide +kernel
theorem d6_608 : decode jdk_2529_method_4_code 608 = .ok (.if_icmp .le 25, 3) := by decide +kernel
theorem d6_611 : decode jdk_2529_method_4_code 611 = .ok (.aload_n 1, 1) := by decide +kernel
theorem d6_612 : decode jdk_2529_method_4_code 612 = .ok (.iload 19, 2) := by decide +kernel
theorem d6_614 : decode jdk_2529_method_4_code 614 = .ok (.aload_n 1, 1) := by decide +kernel
theorem d6_615 : decode jdk_2529_method_4_code 615 = .ok (.iinc 15 (-1), 3) := by decide +kernel
theorem d6_618 : decode jdk_2529_method_4_code 618 = .ok (.iload 15, 2) := by decide +kernel
theorem d6_620 : decode jdk_2529_method_4_code 620 = .ok (.iaload, 1) := by decide +kernel
theorem d6_621 : decode jdk_2529_method_4_code 621 = .ok (.iastore, 1) := by decide +kernel
theorem d6_622 : decode jdk_2529_method_4_code 622 = .ok (.aload_n 1, 1) := by decide +kernel
theorem d6_623 : decode jdk_2529_method_4_code 623 = .ok (.iload 15, 2) := by decide +kernel
theorem d6_625 : decode jdk_2529_method_4_code 625 = .ok (.aload_n 1, 1) := by decide +kernel
theorem d6_626 : decode jdk_2529_method_4_code 626 = .ok (.iload 14, 2) := by decide +kernel
theorem d6_628 : decode jdk_2529_method_4_code 628 = .ok (.iaload, 1) := by decide +kernel
theorem d6_629 : decode jdk_2529_method_4_code 629 = .ok (.iastore, 1) := by decide +kernel
theorem d6_630 : decode jdk_2529_method_4_code 630 = .ok (.goto 11, 3) := by decide +kernel
theorem d6_633 : decode jdk_2529_method_4_code 633 = .ok (.aload_n 1, 1) := by decide +kernel
theorem d6_634 : decode jdk_2529_method_4_code 634 = .ok (.iload 19, 2) := by decide +kernel
theorem d6_636 : decode jdk_2529_method_4_code 636 = .ok (.aload_n 1, 1) := by decide +kernel
theorem d6_637 : decode jdk_2529_method_4_code 637 = .ok (.iload 14, 2) := by decide +kernel
theorem d6_639 : decode jdk_2529_method_4_code 639 = .ok (.iaload, 1) := by decide +kernel
theorem d6_640 : decode jdk_2529_method_4_code 640 = .ok (.iastore, 1) := by decide +kernel
theorem d6_641 : decode jdk_2529_method_4_code 641 = .ok (.aload_n 1, 1) := by decide +kernel
theorem d6_642 : decode jdk_2529_method_4_code 642 = .ok (.iload 14, 2) := by decide +kernel
theorem d6_644 : decode jdk_2529_method_4_code 644 = .ok (.iload 20, 2) := by decide +kernel
theorem d6_646 : decode jdk_2529_method_4_code 646 = .ok (.iastore, 1) := by decide +kernel
theorem d6_647 : decode jdk_2529_method_4_code 647 = .ok (.goto 27, 3) := by decide +kernel
theorem d6_650 : decode jdk_2529_method_4_code 650 = .ok (.iload 20, 2) := by decide +kernel
theorem d6_652 : decode jdk_2529_method_4_code 652 = .ok (.iload 17, 2) := by decide +kernel
theorem d6_654 : decode jdk_2529_method_4_code 654 = .ok (.if_icmp .le 20, 3) := by decide +kernel
theorem d6_657 : decode jdk_2529_method_4_code 657 = .ok (.aload_n 1, 1) := by decide +kernel
theorem d6_658 : decode jdk_2529_method_4_code 658 = .ok (.iload 19, 2) := by decide +kernel
theorem d6_660 : decode jdk_2529_method_4_code 660 = .ok (.aload_n 1, 1) := by decide +kernel
theorem d6_661 : decode jdk_2529_method_4_code 661 = .ok (.iinc 15 (-1), 3) := by decide +kernel
theorem d6_664 : decode jdk_2529_method_4_code 664 = .ok (.iload 15, 2) := by decide +kernel
theorem d6_666 : decode jdk_2529_method_4_code 666 = .ok (.iaload, 1) := by decide +kernel
theorem d6_667 : decode jdk_2529_method_4_code 667 = .ok (.iastore, 1) := by decide +kernel
theorem d6_668 : decode jdk_2529_method_4_code 668 = .ok (.aload_n 1, 1) := by decide +kernel
theorem d6_669 : decode jdk_2529_method_4_code 669 = .ok (.iload 15, 2) := by decide +kernel
theorem d6_671 : decode jdk_2529_method_4_code 671 = .ok (.iload 20, 2) := by decide +kernel
theorem d6_673 : decode jdk_2529_method_4_code 673 = .ok (.iastore, 1) := by decide +kernel
theorem d6_674 : decode jdk_2529_method_4_code 674 = .ok (.goto (-114), 3) := by decide +kernel
theorem d6_677 : decode jdk_2529_method_4_code 677 = .ok (.aload_n 1, 1) := by decide +kernel
theorem d6_678 : decode jdk_2529_method_4_code 678 = .ok (.iload_n 3, 1) := by decide +kernel
theorem d6_679 : decode jdk_2529_method_4_code 679 = .ok (.aload_n 1, 1) := by decide +kernel
theorem d6_680 : decode jdk_2529_method_4_code 680 = .ok (.iload 14, 2) := by decide +kernel
theorem d6_682 : decode jdk_2529_method_4_code 682 = .ok (.iaload, 1) := by decide +kernel
theorem d6_683 : decode jdk_2529_method_4_code 683 = .ok (.iastore, 1) := by decide +kernel
theorem d6_684 : decode jdk_2529_method_4_code 684 = .ok (.aload_n 1, 1) := by decide +kernel
theorem d6_685 : decode jdk_2529_method_4_code 685 = .ok (.iload 14, 2) := by decide +kernel
theorem d6_687 : decode jdk_2529_method_4_code 687 = .ok (.iload 16, 2) := by decide +kernel
theorem d6_689 : decode jdk_2529_method_4_code 689 = .ok (.iastore, 1) := by decide +kernel
theorem d6_690 : decode jdk_2529_method_4_code 690 = .ok (.aload_n 1, 1) := by decide +kernel
theorem d6_691 : decode jdk_2529_method_4_code 691 = .ok (.iload 5, 2) := by decide +kernel
theorem d6_693 : decode jdk_2529_method_4_code 693 = .ok (.aload_n 1, 1) := by decide +kernel
theorem d6_694 : decode jdk_2529_method_4_code 694 = .ok (.iload 15, 2) := by decide +kernel
theorem d6_696 : decode jdk_2529_method_4_code 696 = .ok (.iaload, 1) := by decide +kernel
theorem d6_697 : decode jdk_2529_method_4_code 697 = .ok (.iastore, 1) := by decide +kernel
theorem d6_698 : decode jdk_2529_method_4_code 698 = .ok (.aload_n 1, 1) := by decide +kernel
theorem d6_699 : decode jdk_2529_method_4_code 699 = .ok (.iload 15, 2) := by decide +kernel
theorem d6_701 : decode jdk_2529_method_4_code 701 = .ok (.iload 17, 2) := by decide +kernel
theorem d6_703 : decode jdk_2529_method_4_code 703 = .ok (.iastore, 1) := by decide +kernel
theorem d6_704 : decode jdk_2529_method_4_code 704 = .ok (.iload 6, 2) := by decide +kernel
theorem d6_706 : decode jdk_2529_method_4_code 706 = .ok (.sipush 4096, 3) := by decide +kernel
theorem d6_709 : decode jdk_2529_method_4_code 709 = .ok (.if_icmp .le 36, 3) := by decide +kernel
theorem d6_712 : decode jdk_2529_method_4_code 712 = .ok (.aload_n 0, 1) := by decide +kernel
theorem d6_713 : decode jdk_2529_method_4_code 713 = .ok (.ifnull 32, 3) := by decide +kernel
theorem d6_716 : decode jdk_2529_method_4_code 716 = .ok (.aload_n 0, 1) := by decide +kernel
theorem d6_717 : decode jdk_2529_method_4_code 717 = .ok (.iload_n 2, 1) := by decide +kernel
theorem d6_718 : decode jdk_2529_method_4_code 718 = .ok (.iconst 1, 1) := by decide +kernel
theorem d6_719 : decode jdk_2529_method_4_code 719 = .ok (.ior, 1) := by decide +kernel
theorem d6_720 : decode jdk_2529_method_4_code 720 = .ok (.iload 14, 2) := by decide +kernel
theorem d6_722 : decode jdk_2529_method_4_code 722 = .ok (.iconst 1, 1) := by decide +kernel
theorem d6_723 : decode jdk_2529_method_4_code 723 = .ok (.iadd, 1) := by decide +kernel
theorem d6_724 : decode jdk_2529_method_4_code 724 = .ok (.iload 15, 2) := by decide +kernel
theorem d6_726 : decode jdk_2529_method_4_code 726 = .ok (.invokevirtual 45, 3) := by decide +kernel
theorem d6_729 : decode jdk_2529_method_4_code 729 = .ok (.aload_n 0, 1) := by decide +kernel
theorem d6_730 : decode jdk_2529_method_4_code 730 = .ok (.iload_n 2, 1) := by decide +kernel
theorem d6_731 : decode jdk_2529_method_4_code 731 = .ok (.iconst 1, 1) := by decide +kernel
theorem d6_732 : decode jdk_2529_method_4_code 732 = .ok (.ior, 1) := by decide +kernel
theorem d6_733 : decode jdk_2529_method_4_code 733 = .ok (.iload 15, 2) := by decide +kernel
theorem d6_735 : decode jdk_2529_method_4_code 735 = .ok (.iconst 1, 1) := by decide +kernel
theorem d6_736 : decode jdk_2529_method_4_code 736 = .ok (.iadd, 1) := by decide +kernel
theorem d6_737 : decode jdk_2529_method_4_code 737 = .ok (.iload 4, 2) := by decide +kernel
theorem d6_739 : decode jdk_2529_method_4_code 739 = .ok (.invokevirtual 45, 3) := by decide +kernel
theorem d6_742 : decode jdk_2529_method_4_code 742 = .ok (.goto 31, 3) := by decide +kernel
theorem d6_745 : decode jdk_2529_method_4_code 745 = .ok (.aload_n 0, 1) := by decide +kernel
theorem d6_746 : decode jdk_2529_method_4_code 746 = .ok (.aload_n 1, 1) := by decide +kernel
theorem d6_747 : decode jdk_2529_method_4_code 747 = .ok (.iload_n 2, 1) := by decide +kernel
theorem d6_748 : decode jdk_2529_method_4_code 748 = .ok (.iconst 1, 1) := by decide +kernel
theorem d6_749 : decode jdk_2529_method_4_code 749 = .ok (.ior, 1) := by decide +kernel
theorem d6_750 : decode jdk_2529_method_4_code 750 = .ok (.iload 14, 2) := by decide +kernel
theorem d6_752 : decode jdk_2529_method_4_code 752 = .ok (.iconst 1, 1) := by decide +kernel
theorem d6_753 : decode jdk_2529_method_4_code 753 = .ok (.iadd, 1) := by decide +kernel
theorem d6_754 : decode jdk_2529_method_4_code 754 = .ok (.iload 15, 2) := by decide +kernel
theorem d6_756 : decode jdk_2529_method_4_code 756 = .ok (.invokestatic 26, 3) := by decide +kernel
theorem d6_759 : decode jdk_2529_method_4_code 759 = .ok (.aload_n 0, 1) := by decide +kernel
theorem d6_760 : decode jdk_2529_method_4_code 760 = .ok (.aload_n 1, 1) := by decide +kernel
theorem d6_761 : decode jdk_2529_method_4_code 761 = .ok (.iload_n 2, 1) := by decide +kernel
theorem d6_762 : decode jdk_2529_method_4_code 762 = .ok (.iconst 1, 1) := by decide +kernel
theorem d6_763 : decode jdk_2529_method_4_code 763 = .ok (.ior, 1) := by decide +kernel
theorem d6_764 : decode jdk_2529_method_4_code 764 = .ok (.iload 15, 2) := by decide +kernel
theorem d6_766 : decode jdk_2529_method_4_code 766 = .ok (.iconst 1, 1) := by decide +kernel
theorem d6_767 : decode jdk_2529_method_4_code 767 = .ok (.iadd, 1) := by decide +kernel
theorem d6_768 : decode jdk_2529_method_4_code 768 = .ok (.iload 4, 2) := by decide +kernel
theorem d6_770 : decode jdk_2529_method_4_code 770 = .ok (.invokestatic 26, 3) := by decide +kernel
theorem d6_773 : decode jdk_2529_method_4_code 773 = .ok (.goto 167, 3) := by decide +kernel
theorem d6_776 : decode jdk_2529_method_4_code 776 = .ok (.aload_n 1, 1) := by decide +kernel
theorem d6_777 : decode jdk_2529_method_4_code 777 = .ok (.iload 10, 2) := by decide +kernel
theorem d6_779 : decode jdk_2529_method_4_code 779 = .ok (.iaload, 1) := by decide +kernel
theorem d6_780 : decode jdk_2529_method_4_code 780 = .ok (.istore 16, 2) := by decide +kernel
theorem d6_782 : decode jdk_2529_method_4_code 782 = .ok (.aload_n 1, 1) := by decide +kernel
theorem d6_783 : decode jdk_2529_method_4_code 783 = .ok (.iload 10, 2) := by decide +kernel
theorem d6_785 : decode jdk_2529_method_4_code 785 = .ok (.aload_n 1, 1) := by decide +kernel
theorem d6_786 : decode jdk_2529_method_4_code 786 = .ok (.iload 14, 2) := by decide +kernel
theorem d6_788 : decode jdk_2529_method_4_code 788 = .ok (.iaload, 1) := by decide +kernel
theorem d6_789 : decode jdk_2529_method_4_code 789 = .ok (.iastore, 1) := by decide +kernel
theorem d6_790 : decode jdk_2529_method_4_code 790 = .ok (.iinc 15 1, 3) := by decide +kernel
theorem d6_793 : decode jdk_2529_method_4_code 793 = .ok (.iload 15, 2) := by decide +kernel
theorem d6_795 : decode jdk_2529_method_4_code 795 = .ok (.istore 17, 2) := by decide +kernel
theorem d6_797 : decode jdk_2529_method_4_code 797 = .ok (.iinc 17 (-1), 3) := by decide +kernel
theorem d6_800 : decode jdk_2529_method_4_code 800 = .ok (.iload 17, 2) := by decide +kernel
theorem d6_802 : decode jdk_2529_method_4_code 802 = .ok (.iload 14, 2) := by decide +kernel
theorem d6_804 : decode jdk_2529_method_4_code 804 = .ok (.if_icmp .le 85, 3) := by decide +kernel
theorem d6_807 : decode jdk_2529_method_4_code 807 = .ok (.aload_n 1, 1) := by decide +kernel
theorem d6_808 : decode jdk_2529_method_4_code 808 = .ok (.iload 17, 2) := by decide +kernel
theorem d6_810 : decode jdk_2529_method_4_code 810 = .ok (.iaload, 1) := by decide +kernel
theorem d6_811 : decode jdk_2529_method_4_code 811 = .ok (.istore 18, 2) := by decide +kernel
theorem d6_813 : decode jdk_2529_method_4_code 813 = .ok (.iload 18, 2) := by decide +kernel
theorem d6_815 : decode jdk_2529_method_4_code 815 = .ok (.iload 16, 2) := by decide +kernel
theorem d6_817 : decode jdk_2529_method_4_code 817 = .ok (.if_icmp .eq 69, 3) := by decide +kernel
theorem d6_820 : decode jdk_2529_method_4_code 820 = .ok (.aload_n 1, 1) := by decide +kernel
theorem d6_821 : decode jdk_2529_method_4_code 821 = .ok (.iload 17, 2) := by decide +kernel
theorem d6_823 : decode jdk_2529_method_4_code 823 = .ok (.iload 16, 2) := by decide +kernel
theorem d6_825 : decode jdk_2529_method_4_code 825 = .ok (.iastore, 1) := by decide +kernel
theorem d6_826 : decode jdk_2529_method_4_code 826 = .ok (.iload 18, 2) := by decide +kernel
theorem d6_828 : decode jdk_2529_method_4_code 828 = .ok (.iload 16, 2) := by decide +kernel
theorem d6_830 : decode jdk_2529_method_4_code 830 = .ok (.if_icmp .ge 47, 3) := by decide +kernel
theorem d6_833 : decode jdk_2529_method_4_code 833 = .ok (.aload_n 1, 1) := by decide +kernel
theorem d6_834 : decode jdk_2529_method_4_code 834 = .ok (.iinc 14 1, 3) := by decide +kernel
theorem d6_837 : decode jdk_2529_method_4_code 837 = .ok (.iload 14, 2) := by decide +kernel
theorem d6_839 : decode jdk_2529_method_4_code 839 = .ok (.iaload, 1) := by decide +kernel
theorem d6_840 : decode jdk_2529_method_4_code 840 = .ok (.iload 16, 2) := by decide +kernel
theorem d6_842 : decode jdk_2529_method_4_code 842 = .ok (.if_icmp .ge 6, 3) := by decide +kernel
theorem d6_845 : decode jdk_2529_method_4_code 845 = .ok (.goto (-12), 3) := by decide +kernel
theorem d6_848 : decode jdk_2529_method_4_code 848 = .ok (.aload_n 1, 1) := by decide +kernel
theorem d6_849 : decode jdk_2529_method_4_code 849 = .ok (.iload 14, 2) := by decide +kernel
theorem d6_851 : decode jdk_2529_method_4_code 851 = .ok (.iaload, 1) := by decide +kernel
theorem d6_852 : decode jdk_2529_method_4_code 852 = .ok (.iload 16, 2) := by decide +kernel
theorem d6_854 : decode jdk_2529_method_4_code 854 = .ok (.if_icmp .le 14, 3) := by decide +kernel
theorem d6_857 : decode jdk_2529_method_4_code 857 = .ok (.aload_n 1, 1) := by decide +kernel
theorem d6_858 : decode jdk_2529_method_4_code 858 = .ok (.iinc 15 (-1), 3) := by decide +kernel
theorem d6_861 : decode jdk_2529_method_4_code 861 = .ok (.iload 15, 2) := by decide +kernel
theorem d6_863 : decode jdk_2529_method_4_code 863 = .ok (.aload_n 1, 1) := by decide +kernel
theorem d6_864 : decode jdk_2529_method_4_code 864 = .ok (.iload 14, 2) := by decide +kernel
theorem d6_866 : decode jdk_2529_method_4_code 866 = .ok (.iaload, 1) := by decide +kernel
theorem d6_867 : decode jdk_2529_method_4_code 867 = .ok (.iastore, 1) := by decide +kernel
theorem d6_868 : decode jdk_2529_method_4_code 868 = .ok (.aload_n 1, 1) := by decide +kernel
theorem d6_869 : decode jdk_2529_method_4_code 869 = .ok (.iload 14, 2) := by decide +kernel
theorem d6_871 : decode jdk_2529_method_4_code 871 = .ok (.iload 18, 2) := by decide +kernel
theorem d6_873 : decode jdk_2529_method_4_code 873 = .ok (.iastore, 1) := by decide +kernel
theorem d6_874 : decode jdk_2529_method_4_code 874 = .ok (.goto 12, 3) := by decide +kernel
theorem d6_877 : decode jdk_2529_method_4_code 877 = .ok (.aload_n 1, 1) := by decide +kernel
theorem d6_878 : decode jdk_2529_method_4_code 878 = .ok (.iinc 15 (-1), 3) := by decide +kernel
theorem d6_881 : decode jdk_2529_method_4_code 881 = .ok (.iload 15, 2) := by decide +kernel
theorem d6_883 : decode jdk_2529_method_4_code 883 = .ok (.iload 18, 2) := by decide +kernel
theorem d6_885 : decode jdk_2529_method_4_code 885 = .ok (.iastore, 1) := by decide +kernel
theorem d6_886 : decode jdk_2529_method_4_code 886 = .ok (.goto (-89), 3) := by decide +kernel
theorem d6_889 : decode jdk_2529_method_4_code 889 = .ok (.aload_n 1, 1) := by decide +kernel
theorem d6_890 : decode jdk_2529_method_4_code 890 = .ok (.iload_n 3, 1) := by decide +kernel
theorem d6_891 : decode jdk_2529_method_4_code 891 = .ok (.aload_n 1, 1) := by decide +kernel
theorem d6_892 : decode jdk_2529_method_4_code 892 = .ok (.iload 14, 2) := by decide +kernel
theorem d6_894 : decode jdk_2529_method_4_code 894 = .ok (.iaload, 1) := by decide +kernel
theorem d6_895 : decode jdk_2529_method_4_code 895 = .ok (.iastore, 1) := by decide +kernel
theorem d6_896 : decode jdk_2529_method_4_code 896 = .ok (.aload_n 1, 1) := by decide +kernel
theorem d6_897 : decode jdk_2529_method_4_code 897 = .ok (.iload 14, 2) := by decide +kernel
theorem d6_899 : decode jdk_2529_method_4_code 899 = .ok (.iload 16, 2) := by decide +kernel
theorem d6_901 : decode jdk_2529_method_4_code 901 = .ok (.iastore, 1) := by decide +kernel
theorem d6_902 : decode jdk_2529_method_4_code 902 = .ok (.iload 6, 2) := by decide +kernel
theorem d6_904 : decode jdk_2529_method_4_code 904 = .ok (.sipush 4096, 3) := by decide +kernel
theorem d6_907 : decode jdk_2529_method_4_code 907 = .ok (.if_icmp .le 21, 3) := by decide +kernel
theorem d6_910 : decode jdk_2529_method_4_code 910 = .ok (.aload_n 0, 1) := by decide +kernel
theorem d6_911 : decode jdk_2529_method_4_code 911 = .ok (.ifnull 17, 3) := by decide +kernel
theorem d6_914 : decode jdk_2529_method_4_code 914 = .ok (.aload_n 0, 1) := by decide +kernel
theorem d6_915 : decode jdk_2529_method_4_code 915 = .ok (.iload_n 2, 1) := by decide +kernel
theorem d6_916 : decode jdk_2529_method_4_code 916 = .ok (.iconst 1, 1) := by decide +kernel
theorem d6_917 : decode jdk_2529_method_4_code 917 = .ok (.ior, 1) := by decide +kernel
theorem d6_918 : decode jdk_2529_method_4_code 918 = .ok (.iload 15, 2) := by decide +kernel
theorem d6_920 : decode jdk_2529_method_4_code 920 = .ok (.iload 4, 2) := by decide +kernel
theorem d6_922 : decode jdk_2529_method_4_code 922 = .ok (.invokevirtual 45, 3) := by decide +kernel
theorem d6_925 : decode jdk_2529_method_4_code 925 = .ok (.goto 15, 3) := by decide +kernel
theorem d6_928 : decode jdk_2529_method_4_code 928 = .ok (.aload_n 0, 1) := by decide +kernel
theorem d6_929 : decode jdk_2529_method_4_code 929 = .ok (.aload_n 1, 1) := by decide +kernel
theorem d6_930 : decode jdk_2529_method_4_code 930 = .ok (.iload_n 2, 1) := by decide +kernel
theorem d6_931 : decode jdk_2529_method_4_code 931 = .ok (.iconst 1, 1) := by decide +kernel
theorem d6_932 : decode jdk_2529_method_4_code 932 = .ok (.ior, 1) := by decide +kernel
theorem d6_933 : decode jdk_2529_method_4_code 933 = .ok (.iload 15, 2) := by decide +kernel
theorem d6_935 : decode jdk_2529_method_4_code 935 = .ok (.iload 4, 2) := by decide +kernel
theorem d6_937 : decode jdk_2529_method_4_code 937 = .ok (.invokestatic 26, 3) := by decide +kernel
theorem d6_940 : decode jdk_2529_method_4_code 940 = .ok (.iload 14, 2) := by decide +kernel
theorem d6_942 : decode jdk_2529_method_4_code 942 = .ok (.istore 4, 2) := by decide +kernel
theorem d6_944 : decode jdk_2529_method_4_code 944 = .ok (.goto (-944), 3) := by decide +kernel
theorem ef_6n0 (m : MethodId) (x1 : Addr) (x2 : Int32) (x3 : Int32) (x4 : Int32) : entryFrame m #[.null, (.ref x1), (.int x2), (.int x3), (.int x4)] 21 = mkF m 0 #[.val .null, .val (.ref x1), .val (.int x2), .val (.int x3), .val (.int x4), .unset, .unset, .unset, .unset, .unset, .unset, .unset, .unset, .unset, .unset, .unset, .unset, .unset, .unset, .unset, .unset] [] := by first | (simp [entryFrame, mkF, argsToLocals, Value.category]; done) | rfl
theorem pd_0 : parseMethodDescriptor "([III)V" = some ⟨[(.array .int), .int, .int], none⟩ := by decide +kernel
set_option maxRecDepth 65536 in
set_option maxHeartbeats 40000000 in
theorem rm6n0 (l : Launch) (Z : State) (a0 : Array Value) (hw : ∀ d ∈ tables_1, d.before a0 Z = true) (a1 : Addr) (h0 : Heap) (n0 : Nat) (Z0 : n0 ≤ h0.size) (kA : ClassId) (g_a1 : n0 ≤ a1) (V0 : Arv Z h0 a1 kA .int (0 : Int32) [] (.int (0 : Int32))) :
    Con l Z (⟨"java/util/DualPivotQuicksort", "sort", "(Ljava/util/DualPivotQuicksort$Sorter;[IIII)V"⟩ : MethodName) jdk_2529_method_4_code 21 none ({ frames := 1, cells := 0, slots := 0, locals := 17 } : Room) #[.null, (.ref a1), (.int (0 : Int32)), (.int (0 : Int32)), (.int (0 : Int32))] h0 n0 (fun v h => v = none ∧ Keep h0 h [a1] ∧ Arv Z h a1 kA .int (0 : Int32) [] (.int (0 : Int32)) ∧ (∀ P : Int32 → Prop, (True) ↔ (True))) := by
  refine Con.of (own := "java/util/DualPivotQuicksort") (name := "sort") (plainFor_of_name pn_1) (fun m => ef_6n0 m a1 (0 : Int32) (0 : Int32) (0 : Int32)) rfl rfl ?_
  intro p e s m below meth c T F S cx st
  refine E_iload (pc' := 2) cx st d6_0 rfl rfl ?_
  refine E_iconst (pc' := 3) cx st (1 : Int32) d6_2 rfl rfl ?_
  refine E_isub (pc' := 4) cx st d6_3 rfl ?_
  rw [show ((0 : Int32) - (1 : Int32)) = (-1 : Int32) from by decide]
  refine E_istore (pc' := 6) (L' := #[.val .null, .val (.ref a1), .val (.int (0 : Int32)), .val (.int (0 : Int32)), .val (.int (0 : Int32)), .val (.int (-1 : Int32)), .unset, .unset, .unset, .unset, .unset, .unset, .unset, .unset, .unset, .unset, .unset, .unset, .unset, .unset, .unset]) cx st d6_4 rfl rfl ?_
  refine E_iload (pc' := 8) cx st d6_6 rfl rfl ?_
  refine E_iloadN (pc' := 9) cx st d6_8 rfl rfl ?_
  refine E_isub (pc' := 10) cx st d6_9 rfl ?_
  rw [show ((0 : Int32) - (0 : Int32)) = (0 : Int32) from by decide]
  refine E_istore (pc' := 12) (L' := #[.val .null, .val (.ref a1), .val (.int (0 : Int32)), .val (.int (0 : Int32)), .val (.int (0 : Int32)), .val (.int (-1 : Int32)), .val (.int (0 : Int32)), .unset, .unset, .unset, .unset, .unset, .unset, .unset, .unset, .unset, .unset, .unset, .unset, .unset, .unset]) cx st d6_10 rfl rfl ?_
  refine E_iload (pc' := 14) cx st d6_12 rfl rfl ?_
  refine E_bipush (pc' := 16) cx st (65 : Int32) d6_14 rfl rfl ?_
  refine E_iloadN (pc' := 17) cx st d6_16 rfl rfl ?_
  refine E_iadd (pc' := 18) cx st d6_17 rfl ?_
  rw [show ((65 : Int32) + (0 : Int32)) = (65 : Int32) from by decide]
  refine E_icmp_geN (pc' := 21) cx st d6_18 rfl (by decide) ?_
  refine E_iloadN (pc' := 22) cx st d6_21 rfl rfl ?_
  refine E_iconst (pc' := 23) cx st (1 : Int32) d6_22 rfl rfl ?_
  refine E_iand (pc' := 24) cx st d6_23 rfl ?_
  rw [show ((0 : Int32) &&& (1 : Int32)) = (0 : Int32) from by decide]
  refine E_if_leY (pc' := 46) cx st d6_24 (by decide) (by decide) (by decide) ?_
  refine E_iload (pc' := 48) cx st d6_46 rfl rfl ?_
  refine E_bipush (pc' := 50) cx st (44 : Int32) d6_48 rfl rfl ?_
  refine E_icmp_geN (pc' := 53) cx st d6_50 rfl (by decide) ?_
  refine E_aloadN (pc' := 54) cx st d6_53 rfl rfl rfl ?_
  refine E_iloadN (pc' := 55) cx st d6_54 rfl rfl ?_
  refine E_iload (pc' := 57) cx st d6_55 rfl rfl ?_
  refine E_callS (pc' := 60) (kc' := 0) (ks' := 0) (W := 0) (argsL := [(.ref a1), (.int (0 : Int32)), (.int (0 : Int32))]) cx st [] (rm7n0 l Z a0 hw a1  h0 n0 Z0 kA g_a1 V0) (hw _ (List.mem_of_getElem? (i := 34) rfl)) (hw _ (List.mem_of_getElem? (i := 35) rfl)) (hw _ (List.mem_of_getElem? (i := 29) rfl)) (hw _ (List.mem_of_getElem? (i := 36) rfl)) d6_57 rfl rfl (lenOf pd_0 rfl) (Nat.le_of_eq rfl) (by decide) (by decide) (by decide) (by decide) (by decide) (by decide) (by decide) rfl ?_
  intro v1 T1 h1 st1 hq1
  obtain ⟨rfl, hq1⟩ := hq1
  refine E_return cx st1 d6_60 rfl (by decide) (by decide) ?_
  exact ⟨rfl, hq1⟩
theorem d5_0 : decode jdk_2529_method_3_code 0 = .ok (.iload_n 3, 1) := by decide +kernel
theorem d5_1 : decode jdk_2529_method_3_code 1 = .ok (.iload_n 2, 1) := by decide +kernel
theorem d5_2 : decode jdk_2529_method_3_code 2 = .ok (.isub, 1) := by decide +kernel
theorem d5_3 : decode jdk_2529_method_3_code 3 = .ok (.istore 4, 2) := by decide +kernel
theorem d5_5 : decode jdk_2529_method_3_code 5 = .ok (.iload_n 1, 1) := by decide +kernel
theorem d5_6 : decode jdk_2529_method_3_code 6 = .ok (.iconst 1, 1) := by decide +kernel
theorem d5_7 : decode jdk_2529_method_3_code 7 = .ok (.if_icmp .le 61, 3) := by decide +kernel
theorem d5_10 : decode jdk_2529_method_3_code 10 = .ok (.iload 4, 2) := by decide +kernel
theorem d5_12 : decode jdk_2529_method_3_code 12 = .ok (.sipush 4096, 3) := by decide +kernel
theorem d5_15 : decode jdk_2529_method_3_code 15 = .ok (.if_icmp .le 53, 3) := by decide +kernel
theorem d5_18 : decode jdk_2529_method_3_code 18 = .ok (.iload_n 1, 1) := by decide +kernel
theorem d5_19 : decode jdk_2529_method_3_code 19 = .ok (.iload 4, 2) := by decide +kernel
theorem d5_21 : decode jdk_2529_method_3_code 21 = .ok (.bipush 12, 2) := by decide +kernel
theorem d5_23 : decode jdk_2529_method_3_code 23 = .ok (.ishr, 1) := by decide +kernel
theorem d5_24 : decode jdk_2529_method_3_code 24 = .ok (.invokestatic 13, 3) := by decide +kernel
theorem d5_27 : decode jdk_2529_method_3_code 27 = .ok (.istore 5, 2) := by decide +kernel
theorem d5_29 : decode jdk_2529_method_3_code 29 = .ok (.iload 5, 2) := by decide +kernel
theorem d5_31 : decode jdk_2529_method_3_code 31 = .ok (.ifCond .ne 7, 3) := by decide +kernel
theorem d5_34 : decode jdk_2529_method_3_code 34 = .ok (.aconst_null, 1) := by decide +kernel
theorem d5_35 : decode jdk_2529_method_3_code 35 = .ok (.goto 7, 3) := by decide +kernel
theorem d5_38 : decode jdk_2529_method_3_code 38 = .ok (.iload 4, 2) := by decide +kernel
theorem d5_40 : decode jdk_2529_method_3_code 40 = .ok (.newarray .int, 2) := by decide +kernel
theorem d5_42 : decode jdk_2529_method_3_code 42 = .ok (.astore 6, 2) := by decide +kernel
theorem d5_44 : decode jdk_2529_method_3_code 44 = .ok (.new 17, 3) := by decide +kernel
theorem d5_47 : decode jdk_2529_method_3_code 47 = .ok (.dup, 1) := by decide +kernel
theorem d5_48 : decode jdk_2529_method_3_code 48 = .ok (.aconst_null, 1) := by decide +kernel
theorem d5_49 : decode jdk_2529_method_3_code 49 = .ok (.aload_n 0, 1) := by decide +kernel
theorem d5_50 : decode jdk_2529_method_3_code 50 = .ok (.aload 6, 2) := by decide +kernel
theorem d5_52 : decode jdk_2529_method_3_code 52 = .ok (.iload_n 2, 1) := by decide +kernel
theorem d5_53 : decode jdk_2529_method_3_code 53 = .ok (.iload 4, 2) := by decide +kernel
theorem d5_55 : decode jdk_2529_method_3_code 55 = .ok (.iload_n 2, 1) := by decide +kernel
theorem d5_56 : decode jdk_2529_method_3_code 56 = .ok (.iload 5, 2) := by decide +kernel
theorem d5_58 : decode jdk_2529_method_3_code 58 = .ok (.invokespecial 19, 3) := by decide +kernel
theorem d5_61 : decode jdk_2529_method_3_code 61 = .ok (.invokevirtual 22, 3) := by decide +kernel
theorem d5_64 : decode jdk_2529_method_3_code 64 = .ok (.pop, 1) := by decide +kernel
theorem d5_65 : decode jdk_2529_method_3_code 65 = .ok (.goto 11, 3) := by decide +kernel
theorem d5_68 : decode jdk_2529_method_3_code 68 = .ok (.aconst_null, 1) := by decide +kernel
theorem d5_69 : decode jdk_2529_method_3_code 69 = .ok (.aload_n 0, 1) := by decide +kernel
theorem d5_70 : decode jdk_2529_method_3_code 70 = .ok (.iconst 0, 1) := by decide +kernel
theorem d5_71 : decode jdk_2529_method_3_code 71 = .ok (.iload_n 2, 1) := by decide +kernel
theorem d5_72 : decode jdk_2529_method_3_code 72 = .ok (.iload_n 3, 1) := by decide +kernel
theorem d5_73 : decode jdk_2529_method_3_code 73 = .ok (.invokestatic 26, 3) := by decide +kernel
theorem d5_76 : decode jdk_2529_method_3_code 76 = .ok (.return_, 1) := by decide +kernel
theorem ef_5n0 (m : MethodId) (x0 : Addr) (x1 : Int32) (x2 : Int32) (x3 : Int32) : entryFrame m #[(.ref x0), (.int x1), (.int x2), (.int x3)] 7 = mkF m 0 #[.val (.ref x0), .val (.int x1), .val (.int x2), .val (.int x3), .unset, .unset, .unset] [] := by first | (simp [entryFrame, mkF, argsToLocals, Value.category]; done) | rfl
theorem pd_1 : parseMethodDescriptor "(Ljava/util/DualPivotQuicksort$Sorter;[IIII)V" = some ⟨[(.object "java/util/DualPivotQuicksort$Sorter"), (.array .int), .int, .int, .int], none⟩ := by decide +kernel
set_option maxRecDepth 65536 in
set_option maxHeartbeats 40000000 in
theorem rm5n0 (l : Launch) (Z : State) (a0 : Array Value) (hw : ∀ d ∈ tables_1, d.before a0 Z = true) (a1 : Addr) (h0 : Heap) (n0 : Nat) (Z0 : n0 ≤ h0.size) (kA : ClassId) (g_a1 : n0 ≤ a1) (V0 : Arv Z h0 a1 kA .int (0 : Int32) [] (.int (0 : Int32))) :
    Con l Z (⟨"java/util/DualPivotQuicksort", "sort", "([IIII)V"⟩ : MethodName) jdk_2529_method_3_code 7 none ({ frames := 2, cells := 0, slots := 0, locals := 49 } : Room) #[(.ref a1), (.int (0 : Int32)), (.int (0 : Int32)), (.int (0 : Int32))] h0 n0 (fun v h => v = none ∧ Keep h0 h [a1] ∧ Arv Z h a1 kA .int (0 : Int32) [] (.int (0 : Int32)) ∧ (∀ P : Int32 → Prop, (True) ↔ (True))) := by
  refine Con.of (own := "java/util/DualPivotQuicksort") (name := "sort") (plainFor_of_name pn_1) (fun m => ef_5n0 m a1 (0 : Int32) (0 : Int32) (0 : Int32)) rfl rfl ?_
  intro p e s m below meth c T F S cx st
  refine E_iloadN (pc' := 1) cx st d5_0 rfl rfl ?_
  refine E_iloadN (pc' := 2) cx st d5_1 rfl rfl ?_
  refine E_isub (pc' := 3) cx st d5_2 rfl ?_
  rw [show ((0 : Int32) - (0 : Int32)) = (0 : Int32) from by decide]
  refine E_istore (pc' := 5) (L' := #[.val (.ref a1), .val (.int (0 : Int32)), .val (.int (0 : Int32)), .val (.int (0 : Int32)), .val (.int (0 : Int32)), .unset, .unset]) cx st d5_3 rfl rfl ?_
  refine E_iloadN (pc' := 6) cx st d5_5 rfl rfl ?_
  refine E_iconst (pc' := 7) cx st (1 : Int32) d5_6 rfl rfl ?_
  refine E_icmp_leY (pc' := 68) cx st d5_7 (by decide) (by decide) (by decide) ?_
  refine E_aconst_null (pc' := 69) cx st d5_68 rfl ?_
  refine E_aloadN (pc' := 70) cx st d5_69 rfl rfl rfl ?_
  refine E_iconst (pc' := 71) cx st (0 : Int32) d5_70 rfl rfl ?_
  refine E_iloadN (pc' := 72) cx st d5_71 rfl rfl ?_
  refine E_iloadN (pc' := 73) cx st d5_72 rfl rfl ?_
  refine E_callS (pc' := 76) (kc' := 0) (ks' := 0) (W := 0) (argsL := [.null, (.ref a1), (.int (0 : Int32)), (.int (0 : Int32)), (.int (0 : Int32))]) cx st [] (rm6n0 l Z a0 hw a1  h0 n0 Z0 kA g_a1 V0) (hw _ (List.mem_of_getElem? (i := 31) rfl)) (hw _ (List.mem_of_getElem? (i := 32) rfl)) (hw _ (List.mem_of_getElem? (i := 29) rfl)) (hw _ (List.mem_of_getElem? (i := 33) rfl)) d5_73 rfl rfl (lenOf pd_1 rfl) (Nat.le_of_eq rfl) (by decide) (by decide) (by decide) (by decide) (by decide) (by decide) (by decide) rfl ?_
  intro v1 T1 h1 st1 hq1
  obtain ⟨rfl, hq1⟩ := hq1
  refine E_return cx st1 d5_76 rfl (by decide) (by decide) ?_
  exact ⟨rfl, hq1⟩
theorem d4_0 : decode jdk_65_method_2_code 0 = .ok (.aload_n 0, 1) := by decide +kernel
theorem d4_1 : decode jdk_65_method_2_code 1 = .ok (.iconst 0, 1) := by decide +kernel
theorem d4_2 : decode jdk_65_method_2_code 2 = .ok (.iconst 0, 1) := by decide +kernel
theorem d4_3 : decode jdk_65_method_2_code 3 = .ok (.aload_n 0, 1) := by decide +kernel
theorem d4_4 : decode jdk_65_method_2_code 4 = .ok (.arraylength, 1) := by decide +kernel
theorem d4_5 : decode jdk_65_method_2_code 5 = .ok (.invokestatic 7, 3) := by decide +kernel
theorem d4_8 : decode jdk_65_method_2_code 8 = .ok (.return_, 1) := by decide +kernel
theorem pn_2 : plainName "java/util/Arrays" = true := by first | (simp [plainName, overriddenIn]; done) | decide +kernel
theorem ef_4n0 (m : MethodId) (x0 : Addr) : entryFrame m #[(.ref x0)] 1 = mkF m 0 #[.val (.ref x0)] [] := by first | (simp [entryFrame, mkF, argsToLocals, Value.category]; done) | rfl
theorem pd_2 : parseMethodDescriptor "([IIII)V" = some ⟨[(.array .int), .int, .int, .int], none⟩ := by decide +kernel
set_option maxRecDepth 65536 in
set_option maxHeartbeats 40000000 in
theorem rm4n0 (l : Launch) (Z : State) (a0 : Array Value) (hw : ∀ d ∈ tables_1, d.before a0 Z = true) (a1 : Addr) (h0 : Heap) (n0 : Nat) (Z0 : n0 ≤ h0.size) (kA : ClassId) (g_a1 : n0 ≤ a1) (V0 : Arv Z h0 a1 kA .int (0 : Int32) [] (.int (0 : Int32))) :
    Con l Z (⟨"java/util/Arrays", "sort", "([I)V"⟩ : MethodName) jdk_65_method_2_code 1 none ({ frames := 3, cells := 0, slots := 0, locals := 67 } : Room) #[(.ref a1)] h0 n0 (fun v h => v = none ∧ Keep h0 h [a1] ∧ Arv Z h a1 kA .int (0 : Int32) [] (.int (0 : Int32)) ∧ (∀ P : Int32 → Prop, (True) ↔ (True))) := by
  refine Con.of (own := "java/util/Arrays") (name := "sort") (plainFor_of_name pn_2) (fun m => ef_4n0 m a1) rfl rfl ?_
  intro p e s m below meth c T F S cx st
  refine E_aloadN (pc' := 1) cx st d4_0 rfl rfl rfl ?_
  refine E_iconst (pc' := 2) cx st (0 : Int32) d4_1 rfl rfl ?_
  refine E_iconst (pc' := 3) cx st (0 : Int32) d4_2 rfl rfl ?_
  refine E_aloadN (pc' := 4) cx st d4_3 rfl rfl rfl ?_
  refine E_arraylength (pc' := 5) cx st V0 d4_4 rfl ?_
  refine E_callS (pc' := 8) (kc' := 0) (ks' := 0) (W := 0) (argsL := [(.ref a1), (.int (0 : Int32)), (.int (0 : Int32)), (.int (0 : Int32))]) cx st [] (rm5n0 l Z a0 hw a1  h0 n0 Z0 kA g_a1 V0) (hw _ (List.mem_of_getElem? (i := 27) rfl)) (hw _ (List.mem_of_getElem? (i := 28) rfl)) (hw _ (List.mem_of_getElem? (i := 29) rfl)) (hw _ (List.mem_of_getElem? (i := 30) rfl)) d4_5 rfl rfl (lenOf pd_2 rfl) (Nat.le_of_eq rfl) (by decide) (by decide) (by decide) (by decide) (by decide) (by decide) (by decide) rfl ?_
  intro v1 T1 h1 st1 hq1
  obtain ⟨rfl, hq1⟩ := hq1
  refine E_return cx st1 d4_8 rfl (by decide) (by decide) ?_
  exact ⟨rfl, hq1⟩
theorem ef_6n1 (m : MethodId) (x1 : Addr) (x2 : Int32) (x3 : Int32) (x4 : Int32) : entryFrame m #[.null, (.ref x1), (.int x2), (.int x3), (.int x4)] 21 = mkF m 0 #[.val .null, .val (.ref x1), .val (.int x2), .val (.int x3), .val (.int x4), .unset, .unset, .unset, .unset, .unset, .unset, .unset, .unset, .unset, .unset, .unset, .unset, .unset, .unset, .unset, .unset] [] := by first | (simp [entryFrame, mkF, argsToLocals, Value.category]; done) | rfl
set_option maxRecDepth 65536 in
set_option maxHeartbeats 40000000 in
theorem rm6n1 (l : Launch) (Z : State) (a0 : Array Value) (hw : ∀ d ∈ tables_1, d.before a0 Z = true) (a1 : Addr) (x0 : Int32) (h0 : Heap) (n0 : Nat) (Z0 : n0 ≤ h0.size) (kA : ClassId) (g_a1 : n0 ≤ a1) (V0 : Arv Z h0 a1 kA .int (1 : Int32) [(.int x0)] (.int (0 : Int32))) :
    Con l Z (⟨"java/util/DualPivotQuicksort", "sort", "(Ljava/util/DualPivotQuicksort$Sorter;[IIII)V"⟩ : MethodName) jdk_2529_method_4_code 21 none ({ frames := 1, cells := 0, slots := 0, locals := 17 } : Room) #[.null, (.ref a1), (.int (0 : Int32)), (.int (0 : Int32)), (.int (1 : Int32))] h0 n0 (fun v h => v = none ∧ Keep h0 h [a1] ∧ ∃ s0 : Int32, Arv Z h a1 kA .int (1 : Int32) [(.int s0)] (.int (0 : Int32)) ∧ (∀ P : Int32 → Prop, (P s0) ↔ (P x0))) := by
  refine Con.of (own := "java/util/DualPivotQuicksort") (name := "sort") (plainFor_of_name pn_1) (fun m => ef_6n1 m a1 (0 : Int32) (0 : Int32) (1 : Int32)) rfl rfl ?_
  intro p e s m below meth c T F S cx st
  refine E_iload (pc' := 2) cx st d6_0 rfl rfl ?_
  refine E_iconst (pc' := 3) cx st (1 : Int32) d6_2 rfl rfl ?_
  refine E_isub (pc' := 4) cx st d6_3 rfl ?_
  rw [show ((1 : Int32) - (1 : Int32)) = (0 : Int32) from by decide]
  refine E_istore (pc' := 6) (L' := #[.val .null, .val (.ref a1), .val (.int (0 : Int32)), .val (.int (0 : Int32)), .val (.int (1 : Int32)), .val (.int (0 : Int32)), .unset, .unset, .unset, .unset, .unset, .unset, .unset, .unset, .unset, .unset, .unset, .unset, .unset, .unset, .unset]) cx st d6_4 rfl rfl ?_
  refine E_iload (pc' := 8) cx st d6_6 rfl rfl ?_
  refine E_iloadN (pc' := 9) cx st d6_8 rfl rfl ?_
  refine E_isub (pc' := 10) cx st d6_9 rfl ?_
  rw [show ((1 : Int32) - (0 : Int32)) = (1 : Int32) from by decide]
  refine E_istore (pc' := 12) (L' := #[.val .null, .val (.ref a1), .val (.int (0 : Int32)), .val (.int (0 : Int32)), .val (.int (1 : Int32)), .val (.int (0 : Int32)), .val (.int (1 : Int32)), .unset, .unset, .unset, .unset, .unset, .unset, .unset, .unset, .unset, .unset, .unset, .unset, .unset, .unset]) cx st d6_10 rfl rfl ?_
  refine E_iload (pc' := 14) cx st d6_12 rfl rfl ?_
  refine E_bipush (pc' := 16) cx st (65 : Int32) d6_14 rfl rfl ?_
  refine E_iloadN (pc' := 17) cx st d6_16 rfl rfl ?_
  refine E_iadd (pc' := 18) cx st d6_17 rfl ?_
  rw [show ((65 : Int32) + (0 : Int32)) = (65 : Int32) from by decide]
  refine E_icmp_geN (pc' := 21) cx st d6_18 rfl (by decide) ?_
  refine E_iloadN (pc' := 22) cx st d6_21 rfl rfl ?_
  refine E_iconst (pc' := 23) cx st (1 : Int32) d6_22 rfl rfl ?_
  refine E_iand (pc' := 24) cx st d6_23 rfl ?_
  rw [show ((0 : Int32) &&& (1 : Int32)) = (0 : Int32) from by decide]
  refine E_if_leY (pc' := 46) cx st d6_24 (by decide) (by decide) (by decide) ?_
  refine E_iload (pc' := 48) cx st d6_46 rfl rfl ?_
  refine E_bipush (pc' := 50) cx st (44 : Int32) d6_48 rfl rfl ?_
  refine E_icmp_geN (pc' := 53) cx st d6_50 rfl (by decide) ?_
  refine E_aloadN (pc' := 54) cx st d6_53 rfl rfl rfl ?_
  refine E_iloadN (pc' := 55) cx st d6_54 rfl rfl ?_
  refine E_iload (pc' := 57) cx st d6_55 rfl rfl ?_
  refine E_callS (pc' := 60) (kc' := 0) (ks' := 0) (W := 0) (argsL := [(.ref a1), (.int (0 : Int32)), (.int (1 : Int32))]) cx st [] (rm7n1 l Z a0 hw a1 x0 h0 n0 Z0 kA g_a1 V0) (hw _ (List.mem_of_getElem? (i := 34) rfl)) (hw _ (List.mem_of_getElem? (i := 35) rfl)) (hw _ (List.mem_of_getElem? (i := 29) rfl)) (hw _ (List.mem_of_getElem? (i := 36) rfl)) d6_57 rfl rfl (lenOf pd_0 rfl) (Nat.le_of_eq rfl) (by decide) (by decide) (by decide) (by decide) (by decide) (by decide) (by decide) rfl ?_
  intro v1 T1 h1 st1 hq1
  obtain ⟨rfl, hq1⟩ := hq1
  refine E_return cx st1 d6_60 rfl (by decide) (by decide) ?_
  exact ⟨rfl, hq1⟩
theorem ef_5n1 (m : MethodId) (x0 : Addr) (x1 : Int32) (x2 : Int32) (x3 : Int32) : entryFrame m #[(.ref x0), (.int x1), (.int x2), (.int x3)] 7 = mkF m 0 #[.val (.ref x0), .val (.int x1), .val (.int x2), .val (.int x3), .unset, .unset, .unset] [] := by first | (simp [entryFrame, mkF, argsToLocals, Value.category]; done) | rfl
set_option maxRecDepth 65536 in
set_option maxHeartbeats 40000000 in
theorem rm5n1 (l : Launch) (Z : State) (a0 : Array Value) (hw : ∀ d ∈ tables_1, d.before a0 Z = true) (a1 : Addr) (x0 : Int32) (h0 : Heap) (n0 : Nat) (Z0 : n0 ≤ h0.size) (kA : ClassId) (g_a1 : n0 ≤ a1) (V0 : Arv Z h0 a1 kA .int (1 : Int32) [(.int x0)] (.int (0 : Int32))) :
    Con l Z (⟨"java/util/DualPivotQuicksort", "sort", "([IIII)V"⟩ : MethodName) jdk_2529_method_3_code 7 none ({ frames := 2, cells := 0, slots := 0, locals := 49 } : Room) #[(.ref a1), (.int (0 : Int32)), (.int (0 : Int32)), (.int (1 : Int32))] h0 n0 (fun v h => v = none ∧ Keep h0 h [a1] ∧ ∃ s0 : Int32, Arv Z h a1 kA .int (1 : Int32) [(.int s0)] (.int (0 : Int32)) ∧ (∀ P : Int32 → Prop, (P s0) ↔ (P x0))) := by
  refine Con.of (own := "java/util/DualPivotQuicksort") (name := "sort") (plainFor_of_name pn_1) (fun m => ef_5n1 m a1 (0 : Int32) (0 : Int32) (1 : Int32)) rfl rfl ?_
  intro p e s m below meth c T F S cx st
  refine E_iloadN (pc' := 1) cx st d5_0 rfl rfl ?_
  refine E_iloadN (pc' := 2) cx st d5_1 rfl rfl ?_
  refine E_isub (pc' := 3) cx st d5_2 rfl ?_
  rw [show ((1 : Int32) - (0 : Int32)) = (1 : Int32) from by decide]
  refine E_istore (pc' := 5) (L' := #[.val (.ref a1), .val (.int (0 : Int32)), .val (.int (0 : Int32)), .val (.int (1 : Int32)), .val (.int (1 : Int32)), .unset, .unset]) cx st d5_3 rfl rfl ?_
  refine E_iloadN (pc' := 6) cx st d5_5 rfl rfl ?_
  refine E_iconst (pc' := 7) cx st (1 : Int32) d5_6 rfl rfl ?_
  refine E_icmp_leY (pc' := 68) cx st d5_7 (by decide) (by decide) (by decide) ?_
  refine E_aconst_null (pc' := 69) cx st d5_68 rfl ?_
  refine E_aloadN (pc' := 70) cx st d5_69 rfl rfl rfl ?_
  refine E_iconst (pc' := 71) cx st (0 : Int32) d5_70 rfl rfl ?_
  refine E_iloadN (pc' := 72) cx st d5_71 rfl rfl ?_
  refine E_iloadN (pc' := 73) cx st d5_72 rfl rfl ?_
  refine E_callS (pc' := 76) (kc' := 0) (ks' := 0) (W := 0) (argsL := [.null, (.ref a1), (.int (0 : Int32)), (.int (0 : Int32)), (.int (1 : Int32))]) cx st [] (rm6n1 l Z a0 hw a1 x0 h0 n0 Z0 kA g_a1 V0) (hw _ (List.mem_of_getElem? (i := 31) rfl)) (hw _ (List.mem_of_getElem? (i := 32) rfl)) (hw _ (List.mem_of_getElem? (i := 29) rfl)) (hw _ (List.mem_of_getElem? (i := 33) rfl)) d5_73 rfl rfl (lenOf pd_1 rfl) (Nat.le_of_eq rfl) (by decide) (by decide) (by decide) (by decide) (by decide) (by decide) (by decide) rfl ?_
  intro v1 T1 h1 st1 hq1
  obtain ⟨rfl, hq1⟩ := hq1
  refine E_return cx st1 d5_76 rfl (by decide) (by decide) ?_
  exact ⟨rfl, hq1⟩
theorem ef_4n1 (m : MethodId) (x0 : Addr) : entryFrame m #[(.ref x0)] 1 = mkF m 0 #[.val (.ref x0)] [] := by first | (simp [entryFrame, mkF, argsToLocals, Value.category]; done) | rfl
set_option maxRecDepth 65536 in
set_option maxHeartbeats 40000000 in
theorem rm4n1 (l : Launch) (Z : State) (a0 : Array Value) (hw : ∀ d ∈ tables_1, d.before a0 Z = true) (a1 : Addr) (x0 : Int32) (h0 : Heap) (n0 : Nat) (Z0 : n0 ≤ h0.size) (kA : ClassId) (g_a1 : n0 ≤ a1) (V0 : Arv Z h0 a1 kA .int (1 : Int32) [(.int x0)] (.int (0 : Int32))) :
    Con l Z (⟨"java/util/Arrays", "sort", "([I)V"⟩ : MethodName) jdk_65_method_2_code 1 none ({ frames := 3, cells := 0, slots := 0, locals := 67 } : Room) #[(.ref a1)] h0 n0 (fun v h => v = none ∧ Keep h0 h [a1] ∧ ∃ s0 : Int32, Arv Z h a1 kA .int (1 : Int32) [(.int s0)] (.int (0 : Int32)) ∧ (∀ P : Int32 → Prop, (P s0) ↔ (P x0))) := by
  refine Con.of (own := "java/util/Arrays") (name := "sort") (plainFor_of_name pn_2) (fun m => ef_4n1 m a1) rfl rfl ?_
  intro p e s m below meth c T F S cx st
  refine E_aloadN (pc' := 1) cx st d4_0 rfl rfl rfl ?_
  refine E_iconst (pc' := 2) cx st (0 : Int32) d4_1 rfl rfl ?_
  refine E_iconst (pc' := 3) cx st (0 : Int32) d4_2 rfl rfl ?_
  refine E_aloadN (pc' := 4) cx st d4_3 rfl rfl rfl ?_
  refine E_arraylength (pc' := 5) cx st V0 d4_4 rfl ?_
  refine E_callS (pc' := 8) (kc' := 0) (ks' := 0) (W := 0) (argsL := [(.ref a1), (.int (0 : Int32)), (.int (0 : Int32)), (.int (1 : Int32))]) cx st [] (rm5n1 l Z a0 hw a1 x0 h0 n0 Z0 kA g_a1 V0) (hw _ (List.mem_of_getElem? (i := 27) rfl)) (hw _ (List.mem_of_getElem? (i := 28) rfl)) (hw _ (List.mem_of_getElem? (i := 29) rfl)) (hw _ (List.mem_of_getElem? (i := 30) rfl)) d4_5 rfl rfl (lenOf pd_2 rfl) (Nat.le_of_eq rfl) (by decide) (by decide) (by decide) (by decide) (by decide) (by decide) (by decide) rfl ?_
  intro v1 T1 h1 st1 hq1
  obtain ⟨rfl, hq1⟩ := hq1
  refine E_return cx st1 d4_8 rfl (by decide) (by decide) ?_
  exact ⟨rfl, hq1⟩
theorem ef_6n2 (m : MethodId) (x1 : Addr) (x2 : Int32) (x3 : Int32) (x4 : Int32) : entryFrame m #[.null, (.ref x1), (.int x2), (.int x3), (.int x4)] 21 = mkF m 0 #[.val .null, .val (.ref x1), .val (.int x2), .val (.int x3), .val (.int x4), .unset, .unset, .unset, .unset, .unset, .unset, .unset, .unset, .unset, .unset, .unset, .unset, .unset, .unset, .unset, .unset] [] := by first | (simp [entryFrame, mkF, argsToLocals, Value.category]; done) | rfl
set_option maxRecDepth 65536 in
set_option maxHeartbeats 40000000 in
theorem rm6n2 (l : Launch) (Z : State) (a0 : Array Value) (hw : ∀ d ∈ tables_1, d.before a0 Z = true) (a1 : Addr) (x0 : Int32) (x1 : Int32) (h0 : Heap) (n0 : Nat) (Z0 : n0 ≤ h0.size) (kA : ClassId) (g_a1 : n0 ≤ a1) (V0 : Arv Z h0 a1 kA .int (2 : Int32) [(.int x0), (.int x1)] (.int (0 : Int32))) :
    Con l Z (⟨"java/util/DualPivotQuicksort", "sort", "(Ljava/util/DualPivotQuicksort$Sorter;[IIII)V"⟩ : MethodName) jdk_2529_method_4_code 21 none ({ frames := 1, cells := 0, slots := 0, locals := 17 } : Room) #[.null, (.ref a1), (.int (0 : Int32)), (.int (0 : Int32)), (.int (2 : Int32))] h0 n0 (fun v h => v = none ∧ Keep h0 h [a1] ∧ ∃ s0 s1 : Int32, Arv Z h a1 kA .int (2 : Int32) [(.int s0), (.int s1)] (.int (0 : Int32)) ∧ (∀ P : Int32 → Prop, (P s0 ∧ P s1) ↔ (P x0 ∧ P x1))) := by
  refine Con.of (own := "java/util/DualPivotQuicksort") (name := "sort") (plainFor_of_name pn_1) (fun m => ef_6n2 m a1 (0 : Int32) (0 : Int32) (2 : Int32)) rfl rfl ?_
  intro p e s m below meth c T F S cx st
  refine E_iload (pc' := 2) cx st d6_0 rfl rfl ?_
  refine E_iconst (pc' := 3) cx st (1 : Int32) d6_2 rfl rfl ?_
  refine E_isub (pc' := 4) cx st d6_3 rfl ?_
  rw [show ((2 : Int32) - (1 : Int32)) = (1 : Int32) from by decide]
  refine E_istore (pc' := 6) (L' := #[.val .null, .val (.ref a1), .val (.int (0 : Int32)), .val (.int (0 : Int32)), .val (.int (2 : Int32)), .val (.int (1 : Int32)), .unset, .unset, .unset, .unset, .unset, .unset, .unset, .unset, .unset, .unset, .unset, .unset, .unset, .unset, .unset]) cx st d6_4 rfl rfl ?_
  refine E_iload (pc' := 8) cx st d6_6 rfl rfl ?_
  refine E_iloadN (pc' := 9) cx st d6_8 rfl rfl ?_
  refine E_isub (pc' := 10) cx st d6_9 rfl ?_
  rw [show ((2 : Int32) - (0 : Int32)) = (2 : Int32) from by decide]
  refine E_istore (pc' := 12) (L' := #[.val .null, .val (.ref a1), .val (.int (0 : Int32)), .val (.int (0 : Int32)), .val (.int (2 : Int32)), .val (.int (1 : Int32)), .val (.int (2 : Int32)), .unset, .unset, .unset, .unset, .unset, .unset, .unset, .unset, .unset, .unset, .unset, .unset, .unset, .unset]) cx st d6_10 rfl rfl ?_
  refine E_iload (pc' := 14) cx st d6_12 rfl rfl ?_
  refine E_bipush (pc' := 16) cx st (65 : Int32) d6_14 rfl rfl ?_
  refine E_iloadN (pc' := 17) cx st d6_16 rfl rfl ?_
  refine E_iadd (pc' := 18) cx st d6_17 rfl ?_
  rw [show ((65 : Int32) + (0 : Int32)) = (65 : Int32) from by decide]
  refine E_icmp_geN (pc' := 21) cx st d6_18 rfl (by decide) ?_
  refine E_iloadN (pc' := 22) cx st d6_21 rfl rfl ?_
  refine E_iconst (pc' := 23) cx st (1 : Int32) d6_22 rfl rfl ?_
  refine E_iand (pc' := 24) cx st d6_23 rfl ?_
  rw [show ((0 : Int32) &&& (1 : Int32)) = (0 : Int32) from by decide]
  refine E_if_leY (pc' := 46) cx st d6_24 (by decide) (by decide) (by decide) ?_
  refine E_iload (pc' := 48) cx st d6_46 rfl rfl ?_
  refine E_bipush (pc' := 50) cx st (44 : Int32) d6_48 rfl rfl ?_
  refine E_icmp_geN (pc' := 53) cx st d6_50 rfl (by decide) ?_
  refine E_aloadN (pc' := 54) cx st d6_53 rfl rfl rfl ?_
  refine E_iloadN (pc' := 55) cx st d6_54 rfl rfl ?_
  refine E_iload (pc' := 57) cx st d6_55 rfl rfl ?_
  refine E_callS (pc' := 60) (kc' := 0) (ks' := 0) (W := 0) (argsL := [(.ref a1), (.int (0 : Int32)), (.int (2 : Int32))]) cx st [] (rm7n2 l Z a0 hw a1 x0 x1 h0 n0 Z0 kA g_a1 V0) (hw _ (List.mem_of_getElem? (i := 34) rfl)) (hw _ (List.mem_of_getElem? (i := 35) rfl)) (hw _ (List.mem_of_getElem? (i := 29) rfl)) (hw _ (List.mem_of_getElem? (i := 36) rfl)) d6_57 rfl rfl (lenOf pd_0 rfl) (Nat.le_of_eq rfl) (by decide) (by decide) (by decide) (by decide) (by decide) (by decide) (by decide) rfl ?_
  intro v1 T1 h1 st1 hq1
  obtain ⟨rfl, hq1⟩ := hq1
  refine E_return cx st1 d6_60 rfl (by decide) (by decide) ?_
  exact ⟨rfl, hq1⟩
theorem ef_5n2 (m : MethodId) (x0 : Addr) (x1 : Int32) (x2 : Int32) (x3 : Int32) : entryFrame m #[(.ref x0), (.int x1), (.int x2), (.int x3)] 7 = mkF m 0 #[.val (.ref x0), .val (.int x1), .val (.int x2), .val (.int x3), .unset, .unset, .unset] [] := by first | (simp [entryFrame, mkF, argsToLocals, Value.category]; done) | rfl
set_option maxRecDepth 65536 in
set_option maxHeartbeats 40000000 in
theorem rm5n2 (l : Launch) (Z : State) (a0 : Array Value) (hw : ∀ d ∈ tables_1, d.before a0 Z = true) (a1 : Addr) (x0 : Int32) (x1 : Int32) (h0 : Heap) (n0 : Nat) (Z0 : n0 ≤ h0.size) (kA : ClassId) (g_a1 : n0 ≤ a1) (V0 : Arv Z h0 a1 kA .int (2 : Int32) [(.int x0), (.int x1)] (.int (0 : Int32))) :
    Con l Z (⟨"java/util/DualPivotQuicksort", "sort", "([IIII)V"⟩ : MethodName) jdk_2529_method_3_code 7 none ({ frames := 2, cells := 0, slots := 0, locals := 49 } : Room) #[(.ref a1), (.int (0 : Int32)), (.int (0 : Int32)), (.int (2 : Int32))] h0 n0 (fun v h => v = none ∧ Keep h0 h [a1] ∧ ∃ s0 s1 : Int32, Arv Z h a1 kA .int (2 : Int32) [(.int s0), (.int s1)] (.int (0 : Int32)) ∧ (∀ P : Int32 → Prop, (P s0 ∧ P s1) ↔ (P x0 ∧ P x1))) := by
  refine Con.of (own := "java/util/DualPivotQuicksort") (name := "sort") (plainFor_of_name pn_1) (fun m => ef_5n2 m a1 (0 : Int32) (0 : Int32) (2 : Int32)) rfl rfl ?_
  intro p e s m below meth c T F S cx st
  refine E_iloadN (pc' := 1) cx st d5_0 rfl rfl ?_
  refine E_iloadN (pc' := 2) cx st d5_1 rfl rfl ?_
  refine E_isub (pc' := 3) cx st d5_2 rfl ?_
  rw [show ((2 : Int32) - (0 : Int32)) = (2 : Int32) from by decide]
  refine E_istore (pc' := 5) (L' := #[.val (.ref a1), .val (.int (0 : Int32)), .val (.int (0 : Int32)), .val (.int (2 : Int32)), .val (.int (2 : Int32)), .unset, .unset]) cx st d5_3 rfl rfl ?_
  refine E_iloadN (pc' := 6) cx st d5_5 rfl rfl ?_
  refine E_iconst (pc' := 7) cx st (1 : Int32) d5_6 rfl rfl ?_
  refine E_icmp_leY (pc' := 68) cx st d5_7 (by decide) (by decide) (by decide) ?_
  refine E_aconst_null (pc' := 69) cx st d5_68 rfl ?_
  refine E_aloadN (pc' := 70) cx st d5_69 rfl rfl rfl ?_
  refine E_iconst (pc' := 71) cx st (0 : Int32) d5_70 rfl rfl ?_
  refine E_iloadN (pc' := 72) cx st d5_71 rfl rfl ?_
  refine E_iloadN (pc' := 73) cx st d5_72 rfl rfl ?_
  refine E_callS (pc' := 76) (kc' := 0) (ks' := 0) (W := 0) (argsL := [.null, (.ref a1), (.int (0 : Int32)), (.int (0 : Int32)), (.int (2 : Int32))]) cx st [] (rm6n2 l Z a0 hw a1 x0 x1 h0 n0 Z0 kA g_a1 V0) (hw _ (List.mem_of_getElem? (i := 31) rfl)) (hw _ (List.mem_of_getElem? (i := 32) rfl)) (hw _ (List.mem_of_getElem? (i := 29) rfl)) (hw _ (List.mem_of_getElem? (i := 33) rfl)) d5_73 rfl rfl (lenOf pd_1 rfl) (Nat.le_of_eq rfl) (by decide) (by decide) (by decide) (by decide) (by decide) (by decide) (by decide) rfl ?_
  intro v1 T1 h1 st1 hq1
  obtain ⟨rfl, hq1⟩ := hq1
  refine E_return cx st1 d5_76 rfl (by decide) (by decide) ?_
  exact ⟨rfl, hq1⟩
theorem ef_4n2 (m : MethodId) (x0 : Addr) : entryFrame m #[(.ref x0)] 1 = mkF m 0 #[.val (.ref x0)] [] := by first | (simp [entryFrame, mkF, argsToLocals, Value.category]; done) | rfl
set_option maxRecDepth 65536 in
set_option maxHeartbeats 40000000 in
theorem rm4n2 (l : Launch) (Z : State) (a0 : Array Value) (hw : ∀ d ∈ tables_1, d.before a0 Z = true) (a1 : Addr) (x0 : Int32) (x1 : Int32) (h0 : Heap) (n0 : Nat) (Z0 : n0 ≤ h0.size) (kA : ClassId) (g_a1 : n0 ≤ a1) (V0 : Arv Z h0 a1 kA .int (2 : Int32) [(.int x0), (.int x1)] (.int (0 : Int32))) :
    Con l Z (⟨"java/util/Arrays", "sort", "([I)V"⟩ : MethodName) jdk_65_method_2_code 1 none ({ frames := 3, cells := 0, slots := 0, locals := 67 } : Room) #[(.ref a1)] h0 n0 (fun v h => v = none ∧ Keep h0 h [a1] ∧ ∃ s0 s1 : Int32, Arv Z h a1 kA .int (2 : Int32) [(.int s0), (.int s1)] (.int (0 : Int32)) ∧ (∀ P : Int32 → Prop, (P s0 ∧ P s1) ↔ (P x0 ∧ P x1))) := by
  refine Con.of (own := "java/util/Arrays") (name := "sort") (plainFor_of_name pn_2) (fun m => ef_4n2 m a1) rfl rfl ?_
  intro p e s m below meth c T F S cx st
  refine E_aloadN (pc' := 1) cx st d4_0 rfl rfl rfl ?_
  refine E_iconst (pc' := 2) cx st (0 : Int32) d4_1 rfl rfl ?_
  refine E_iconst (pc' := 3) cx st (0 : Int32) d4_2 rfl rfl ?_
  refine E_aloadN (pc' := 4) cx st d4_3 rfl rfl rfl ?_
  refine E_arraylength (pc' := 5) cx st V0 d4_4 rfl ?_
  refine E_callS (pc' := 8) (kc' := 0) (ks' := 0) (W := 0) (argsL := [(.ref a1), (.int (0 : Int32)), (.int (0 : Int32)), (.int (2 : Int32))]) cx st [] (rm5n2 l Z a0 hw a1 x0 x1 h0 n0 Z0 kA g_a1 V0) (hw _ (List.mem_of_getElem? (i := 27) rfl)) (hw _ (List.mem_of_getElem? (i := 28) rfl)) (hw _ (List.mem_of_getElem? (i := 29) rfl)) (hw _ (List.mem_of_getElem? (i := 30) rfl)) d4_5 rfl rfl (lenOf pd_2 rfl) (Nat.le_of_eq rfl) (by decide) (by decide) (by decide) (by decide) (by decide) (by decide) (by decide) rfl ?_
  intro v1 T1 h1 st1 hq1
  obtain ⟨rfl, hq1⟩ := hq1
  refine E_return cx st1 d4_8 rfl (by decide) (by decide) ?_
  exact ⟨rfl, hq1⟩
theorem ef_6n3 (m : MethodId) (x1 : Addr) (x2 : Int32) (x3 : Int32) (x4 : Int32) : entryFrame m #[.null, (.ref x1), (.int x2), (.int x3), (.int x4)] 21 = mkF m 0 #[.val .null, .val (.ref x1), .val (.int x2), .val (.int x3), .val (.int x4), .unset, .unset, .unset, .unset, .unset, .unset, .unset, .unset, .unset, .unset, .unset, .unset, .unset, .unset, .unset, .unset] [] := by first | (simp [entryFrame, mkF, argsToLocals, Value.category]; done) | rfl
set_option maxRecDepth 65536 in
set_option maxHeartbeats 40000000 in
theorem rm6n3 (l : Launch) (Z : State) (a0 : Array Value) (hw : ∀ d ∈ tables_1, d.before a0 Z = true) (a1 : Addr) (x0 : Int32) (x1 : Int32) (x2 : Int32) (h0 : Heap) (n0 : Nat) (Z0 : n0 ≤ h0.size) (kA : ClassId) (g_a1 : n0 ≤ a1) (V0 : Arv Z h0 a1 kA .int (3 : Int32) [(.int x0), (.int x1), (.int x2)] (.int (0 : Int32))) :
    Con l Z (⟨"java/util/DualPivotQuicksort", "sort", "(Ljava/util/DualPivotQuicksort$Sorter;[IIII)V"⟩ : MethodName) jdk_2529_method_4_code 21 none ({ frames := 1, cells := 0, slots := 0, locals := 17 } : Room) #[.null, (.ref a1), (.int (0 : Int32)), (.int (0 : Int32)), (.int (3 : Int32))] h0 n0 (fun v h => v = none ∧ Keep h0 h [a1] ∧ ∃ s0 s1 s2 : Int32, Arv Z h a1 kA .int (3 : Int32) [(.int s0), (.int s1), (.int s2)] (.int (0 : Int32)) ∧ (∀ P : Int32 → Prop, (P s0 ∧ P s1 ∧ P s2) ↔ (P x0 ∧ P x1 ∧ P x2))) := by
  refine Con.of (own := "java/util/DualPivotQuicksort") (name := "sort") (plainFor_of_name pn_1) (fun m => ef_6n3 m a1 (0 : Int32) (0 : Int32) (3 : Int32)) rfl rfl ?_
  intro p e s m below meth c T F S cx st
  refine E_iload (pc' := 2) cx st d6_0 rfl rfl ?_
  refine E_iconst (pc' := 3) cx st (1 : Int32) d6_2 rfl rfl ?_
  refine E_isub (pc' := 4) cx st d6_3 rfl ?_
  rw [show ((3 : Int32) - (1 : Int32)) = (2 : Int32) from by decide]
  refine E_istore (pc' := 6) (L' := #[.val .null, .val (.ref a1), .val (.int (0 : Int32)), .val (.int (0 : Int32)), .val (.int (3 : Int32)), .val (.int (2 : Int32)), .unset, .unset, .unset, .unset, .unset, .unset, .unset, .unset, .unset, .unset, .unset, .unset, .unset, .unset, .unset]) cx st d6_4 rfl rfl ?_
  refine E_iload (pc' := 8) cx st d6_6 rfl rfl ?_
  refine E_iloadN (pc' := 9) cx st d6_8 rfl rfl ?_
  refine E_isub (pc' := 10) cx st d6_9 rfl ?_
  rw [show ((3 : Int32) - (0 : Int32)) = (3 : Int32) from by decide]
  refine E_istore (pc' := 12) (L' := #[.val .null, .val (.ref a1), .val (.int (0 : Int32)), .val (.int (0 : Int32)), .val (.int (3 : Int32)), .val (.int (2 : Int32)), .val (.int (3 : Int32)), .unset, .unset, .unset, .unset, .unset, .unset, .unset, .unset, .unset, .unset, .unset, .unset, .unset, .unset]) cx st d6_10 rfl rfl ?_
  refine E_iload (pc' := 14) cx st d6_12 rfl rfl ?_
  refine E_bipush (pc' := 16) cx st (65 : Int32) d6_14 rfl rfl ?_
  refine E_iloadN (pc' := 17) cx st d6_16 rfl rfl ?_
  refine E_iadd (pc' := 18) cx st d6_17 rfl ?_
  rw [show ((65 : Int32) + (0 : Int32)) = (65 : Int32) from by decide]
  refine E_icmp_geN (pc' := 21) cx st d6_18 rfl (by decide) ?_
  refine E_iloadN (pc' := 22) cx st d6_21 rfl rfl ?_
  refine E_iconst (pc' := 23) cx st (1 : Int32) d6_22 rfl rfl ?_
  refine E_iand (pc' := 24) cx st d6_23 rfl ?_
  rw [show ((0 : Int32) &&& (1 : Int32)) = (0 : Int32) from by decide]
  refine E_if_leY (pc' := 46) cx st d6_24 (by decide) (by decide) (by decide) ?_
  refine E_iload (pc' := 48) cx st d6_46 rfl rfl ?_
  refine E_bipush (pc' := 50) cx st (44 : Int32) d6_48 rfl rfl ?_
  refine E_icmp_geN (pc' := 53) cx st d6_50 rfl (by decide) ?_
  refine E_aloadN (pc' := 54) cx st d6_53 rfl rfl rfl ?_
  refine E_iloadN (pc' := 55) cx st d6_54 rfl rfl ?_
  refine E_iload (pc' := 57) cx st d6_55 rfl rfl ?_
  refine E_callS (pc' := 60) (kc' := 0) (ks' := 0) (W := 0) (argsL := [(.ref a1), (.int (0 : Int32)), (.int (3 : Int32))]) cx st [] (rm7n3 l Z a0 hw a1 x0 x1 x2 h0 n0 Z0 kA g_a1 V0) (hw _ (List.mem_of_getElem? (i := 34) rfl)) (hw _ (List.mem_of_getElem? (i := 35) rfl)) (hw _ (List.mem_of_getElem? (i := 29) rfl)) (hw _ (List.mem_of_getElem? (i := 36) rfl)) d6_57 rfl rfl (lenOf pd_0 rfl) (Nat.le_of_eq rfl) (by decide) (by decide) (by decide) (by decide) (by decide) (by decide) (by decide) rfl ?_
  intro v1 T1 h1 st1 hq1
  obtain ⟨rfl, hq1⟩ := hq1
  refine E_return cx st1 d6_60 rfl (by decide) (by decide) ?_
  exact ⟨rfl, hq1⟩
theorem ef_5n3 (m : MethodId) (x0 : Addr) (x1 : Int32) (x2 : Int32) (x3 : Int32) : entryFrame m #[(.ref x0), (.int x1), (.int x2), (.int x3)] 7 = mkF m 0 #[.val (.ref x0), .val (.int x1), .val (.int x2), .val (.int x3), .unset, .unset, .unset] [] := by first | (simp [entryFrame, mkF, argsToLocals, Value.category]; done) | rfl
set_option maxRecDepth 65536 in
set_option maxHeartbeats 40000000 in
theorem rm5n3 (l : Launch) (Z : State) (a0 : Array Value) (hw : ∀ d ∈ tables_1, d.before a0 Z = true) (a1 : Addr) (x0 : Int32) (x1 : Int32) (x2 : Int32) (h0 : Heap) (n0 : Nat) (Z0 : n0 ≤ h0.size) (kA : ClassId) (g_a1 : n0 ≤ a1) (V0 : Arv Z h0 a1 kA .int (3 : Int32) [(.int x0), (.int x1), (.int x2)] (.int (0 : Int32))) :
    Con l Z (⟨"java/util/DualPivotQuicksort", "sort", "([IIII)V"⟩ : MethodName) jdk_2529_method_3_code 7 none ({ frames := 2, cells := 0, slots := 0, locals := 49 } : Room) #[(.ref a1), (.int (0 : Int32)), (.int (0 : Int32)), (.int (3 : Int32))] h0 n0 (fun v h => v = none ∧ Keep h0 h [a1] ∧ ∃ s0 s1 s2 : Int32, Arv Z h a1 kA .int (3 : Int32) [(.int s0), (.int s1), (.int s2)] (.int (0 : Int32)) ∧ (∀ P : Int32 → Prop, (P s0 ∧ P s1 ∧ P s2) ↔ (P x0 ∧ P x1 ∧ P x2))) := by
  refine Con.of (own := "java/util/DualPivotQuicksort") (name := "sort") (plainFor_of_name pn_1) (fun m => ef_5n3 m a1 (0 : Int32) (0 : Int32) (3 : Int32)) rfl rfl ?_
  intro p e s m below meth c T F S cx st
  refine E_iloadN (pc' := 1) cx st d5_0 rfl rfl ?_
  refine E_iloadN (pc' := 2) cx st d5_1 rfl rfl ?_
  refine E_isub (pc' := 3) cx st d5_2 rfl ?_
  rw [show ((3 : Int32) - (0 : Int32)) = (3 : Int32) from by decide]
  refine E_istore (pc' := 5) (L' := #[.val (.ref a1), .val (.int (0 : Int32)), .val (.int (0 : Int32)), .val (.int (3 : Int32)), .val (.int (3 : Int32)), .unset, .unset]) cx st d5_3 rfl rfl ?_
  refine E_iloadN (pc' := 6) cx st d5_5 rfl rfl ?_
  refine E_iconst (pc' := 7) cx st (1 : Int32) d5_6 rfl rfl ?_
  refine E_icmp_leY (pc' := 68) cx st d5_7 (by decide) (by decide) (by decide) ?_
  refine E_aconst_null (pc' := 69) cx st d5_68 rfl ?_
  refine E_aloadN (pc' := 70) cx st d5_69 rfl rfl rfl ?_
  refine E_iconst (pc' := 71) cx st (0 : Int32) d5_70 rfl rfl ?_
  refine E_iloadN (pc' := 72) cx st d5_71 rfl rfl ?_
  refine E_iloadN (pc' := 73) cx st d5_72 rfl rfl ?_
  refine E_callS (pc' := 76) (kc' := 0) (ks' := 0) (W := 0) (argsL := [.null, (.ref a1), (.int (0 : Int32)), (.int (0 : Int32)), (.int (3 : Int32))]) cx st [] (rm6n3 l Z a0 hw a1 x0 x1 x2 h0 n0 Z0 kA g_a1 V0) (hw _ (List.mem_of_getElem? (i := 31) rfl)) (hw _ (List.mem_of_getElem? (i := 32) rfl)) (hw _ (List.mem_of_getElem? (i := 29) rfl)) (hw _ (List.mem_of_getElem? (i := 33) rfl)) d5_73 rfl rfl (lenOf pd_1 rfl) (Nat.le_of_eq rfl) (by decide) (by decide) (by decide) (by decide) (by decide) (by decide) (by decide) rfl ?_
  intro v1 T1 h1 st1 hq1
  obtain ⟨rfl, hq1⟩ := hq1
  refine E_return cx st1 d5_76 rfl (by decide) (by decide) ?_
  exact ⟨rfl, hq1⟩
theorem ef_4n3 (m : MethodId) (x0 : Addr) : entryFrame m #[(.ref x0)] 1 = mkF m 0 #[.val (.ref x0)] [] := by first | (simp [entryFrame, mkF, argsToLocals, Value.category]; done) | rfl
set_option maxRecDepth 65536 in
set_option maxHeartbeats 40000000 in
theorem rm4n3 (l : Launch) (Z : State) (a0 : Array Value) (hw : ∀ d ∈ tables_1, d.before a0 Z = true) (a1 : Addr) (x0 : Int32) (x1 : Int32) (x2 : Int32) (h0 : Heap) (n0 : Nat) (Z0 : n0 ≤ h0.size) (kA : ClassId) (g_a1 : n0 ≤ a1) (V0 : Arv Z h0 a1 kA .int (3 : Int32) [(.int x0), (.int x1), (.int x2)] (.int (0 : Int32))) :
    Con l Z (⟨"java/util/Arrays", "sort", "([I)V"⟩ : MethodName) jdk_65_method_2_code 1 none ({ frames := 3, cells := 0, slots := 0, locals := 67 } : Room) #[(.ref a1)] h0 n0 (fun v h => v = none ∧ Keep h0 h [a1] ∧ ∃ s0 s1 s2 : Int32, Arv Z h a1 kA .int (3 : Int32) [(.int s0), (.int s1), (.int s2)] (.int (0 : Int32)) ∧ (∀ P : Int32 → Prop, (P s0 ∧ P s1 ∧ P s2) ↔ (P x0 ∧ P x1 ∧ P x2))) := by
  refine Con.of (own := "java/util/Arrays") (name := "sort") (plainFor_of_name pn_2) (fun m => ef_4n3 m a1) rfl rfl ?_
  intro p e s m below meth c T F S cx st
  refine E_aloadN (pc' := 1) cx st d4_0 rfl rfl rfl ?_
  refine E_iconst (pc' := 2) cx st (0 : Int32) d4_1 rfl rfl ?_
  refine E_iconst (pc' := 3) cx st (0 : Int32) d4_2 rfl rfl ?_
  refine E_aloadN (pc' := 4) cx st d4_3 rfl rfl rfl ?_
  refine E_arraylength (pc' := 5) cx st V0 d4_4 rfl ?_
  refine E_callS (pc' := 8) (kc' := 0) (ks' := 0) (W := 0) (argsL := [(.ref a1), (.int (0 : Int32)), (.int (0 : Int32)), (.int (3 : Int32))]) cx st [] (rm5n3 l Z a0 hw a1 x0 x1 x2 h0 n0 Z0 kA g_a1 V0) (hw _ (List.mem_of_getElem? (i := 27) rfl)) (hw _ (List.mem_of_getElem? (i := 28) rfl)) (hw _ (List.mem_of_getElem? (i := 29) rfl)) (hw _ (List.mem_of_getElem? (i := 30) rfl)) d4_5 rfl rfl (lenOf pd_2 rfl) (Nat.le_of_eq rfl) (by decide) (by decide) (by decide) (by decide) (by decide) (by decide) (by decide) rfl ?_
  intro v1 T1 h1 st1 hq1
  obtain ⟨rfl, hq1⟩ := hq1
  refine E_return cx st1 d4_8 rfl (by decide) (by decide) ?_
  exact ⟨rfl, hq1⟩
theorem d10_0 : decode jdk_65_method_123_code 0 = .ok (.iload_n 1, 1) := by decide +kernel
theorem d10_1 : decode jdk_65_method_123_code 1 = .ok (.aload_n 0, 1) := by decide +kernel
theorem d10_2 : decode jdk_65_method_123_code 2 = .ok (.arraylength, 1) := by decide +kernel
theorem d10_3 : decode jdk_65_method_123_code 3 = .ok (.if_icmp .ne 11, 3) := by decide +kernel
theorem d10_6 : decode jdk_65_method_123_code 6 = .ok (.aload_n 0, 1) := by decide +kernel
theorem d10_7 : decode jdk_65_method_123_code 7 = .ok (.invokevirtual 316, 3) := by decide +kernel
theorem d10_10 : decode jdk_65_method_123_code 10 = .ok (.checkcast 317, 3) := by decide +kernel
theorem d10_13 : decode jdk_65_method_123_code 13 = .ok (.areturn, 1) := by decide +kernel
theorem d10_14 : decode jdk_65_method_123_code 14 = .ok (.iload_n 1, 1) := by decide +kernel
theorem d10_15 : decode jdk_65_method_123_code 15 = .ok (.newarray .int, 2) := by decide +kernel
theorem d10_17 : decode jdk_65_method_123_code 17 = .ok (.astore_n 2, 1) := by decide +kernel
theorem d10_18 : decode jdk_65_method_123_code 18 = .ok (.aload_n 0, 1) := by decide +kernel
theorem d10_19 : decode jdk_65_method_123_code 19 = .ok (.iconst 0, 1) := by decide +kernel
theorem d10_20 : decode jdk_65_method_123_code 20 = .ok (.aload_n 2, 1) := by decide +kernel
theorem d10_21 : decode jdk_65_method_123_code 21 = .ok (.iconst 0, 1) := by decide +kernel
theorem d10_22 : decode jdk_65_method_123_code 22 = .ok (.aload_n 0, 1) := by decide +kernel
theorem d10_23 : decode jdk_65_method_123_code 23 = .ok (.arraylength, 1) := by decide +kernel
theorem d10_24 : decode jdk_65_method_123_code 24 = .ok (.iload_n 1, 1) := by decide +kernel
theorem d10_25 : decode jdk_65_method_123_code 25 = .ok (.invokestatic 304, 3) := by decide +kernel
theorem d10_28 : decode jdk_65_method_123_code 28 = .ok (.invokestatic 150, 3) := by decide +kernel
theorem d10_31 : decode jdk_65_method_123_code 31 = .ok (.aload_n 2, 1) := by decide +kernel
theorem d10_32 : decode jdk_65_method_123_code 32 = .ok (.areturn, 1) := by decide +kernel
theorem ef_10n0c0 (m : MethodId) (x0 : Addr) (x1 : Int32) : entryFrame m #[(.ref x0), (.int x1)] 3 = mkF m 0 #[.val (.ref x0), .val (.int x1), .unset] [] := by first | (simp [entryFrame, mkF, argsToLocals, Value.category]; done) | rfl
set_option maxRecDepth 65536 in
set_option maxHeartbeats 40000000 in
theorem rm10n0c0 (l : Launch) (Z : State) (a0 : Array Value) (hw : ∀ d ∈ tables_1, d.before a0 Z = true) (a1 : Addr) (h0 : Heap) (n0 : Nat) (Z0 : n0 ≤ h0.size) (kA : ClassId) (E0 : Exa Z h0 a1 "[I") (V0 : Arv Z h0 a1 kA .int (0 : Int32) [] (.int (0 : Int32))) :
    Con l Z (⟨"java/util/Arrays", "copyOf", "([II)[I"⟩ : MethodName) jdk_65_method_123_code 3 (some (.array .int)) ({ frames := 1, cells := 1, slots := 0, locals := 64 } : Room) #[(.ref a1), (.int (0 : Int32))] h0 n0 (fun v h => ∃ (b : Addr) (kB : ClassId), v = some (.ref b) ∧ h0.size ≤ b ∧ Keep h0 h [] ∧ Arv Z h b kB .int (0 : Int32) [] (.int (0 : Int32))) := by
  refine Con.of (own := "java/util/Arrays") (name := "copyOf") (plainFor_of_name pn_2) (fun m => ef_10n0c0 m a1 (0 : Int32)) rfl rfl ?_
  intro p e s m below meth c T F S cx st
  refine E_iloadN (pc' := 1) cx st d10_0 rfl rfl ?_
  refine E_aloadN (pc' := 2) cx st d10_1 rfl rfl rfl ?_
  refine E_arraylength (pc' := 3) cx st V0 d10_2 rfl ?_
  refine E_icmp_neN (pc' := 6) cx st d10_3 rfl (by decide) ?_
  refine E_aloadN (pc' := 7) cx st d10_6 rfl rfl rfl ?_
  refine E_clone (pc' := 10) (kc' := 1) (ks' := 0) (W := 0) (cap := 0) cx st V0 E0 (hw _ (List.mem_of_getElem? (i := 48) rfl)) (hw _ (List.mem_of_getElem? (i := 15) rfl)) (hw _ (List.mem_of_getElem? (i := 19) rfl)) (hw _ (List.mem_of_getElem? (i := 17) rfl)) (hw _ (List.mem_of_getElem? (i := 18) rfl)) (hw _ (List.mem_of_getElem? (i := 20) rfl)) d10_7 rfl (by decide) (Nat.le_of_eq rfl) (by decide) (by decide) (by decide) (by decide) (by decide) (by decide) rfl ?_
  intro T1 h1 ar1 eq1 st1 E1 V1 X1
  have g_ar1 : n0 ≤ ar1 := by rw [eq1]; exact Z0
  have ne_a1_ar1 : a1 ≠ ar1 := by rw [eq1]; exact Nat.ne_of_lt V0.lt
  have sz_ar1 : h0.size ≤ ar1 := by rw [eq1]; exact (Keep.refl h0 []).1
  have Z1 : n0 ≤ h1.size := Nat.le_trans Z0 E1.1
  have K1 : Keep h0 h1 [] := (Keep.refl h0 []).ext E1
  refine E_checkcast (pc' := 13) cx st1 (hw _ (List.mem_of_getElem? (i := 49) rfl)) (Ins.self X1) d10_10 rfl ?_
  intro T2 st2
  refine E_areturn (t := (.array .int)) cx st2 d10_13 rfl rfl rfl rfl (by decide) (by decide) ?_
  exact ⟨ar1, kA, rfl, sz_ar1, K1, V1⟩
theorem d11_0 : decode jdk_65_method_124_code 0 = .ok (.iload_n 1, 1) := by decide +kernel
theorem d11_1 : decode jdk_65_method_124_code 1 = .ok (.aload_n 0, 1) := by decide +kernel
theorem d11_2 : decode jdk_65_method_124_code 2 = .ok (.arraylength, 1) := by decide +kernel
theorem d11_3 : decode jdk_65_method_124_code 3 = .ok (.if_icmp .ne 11, 3) := by decide +kernel
theorem d11_6 : decode jdk_65_method_124_code 6 = .ok (.aload_n 0, 1) := by decide +kernel
theorem d11_7 : decode jdk_65_method_124_code 7 = .ok (.invokevirtual 319, 3) := by decide +kernel
theorem d11_10 : decode jdk_65_method_124_code 10 = .ok (.checkcast 320, 3) := by decide +kernel
theorem d11_13 : decode jdk_65_method_124_code 13 = .ok (.areturn, 1) := by decide +kernel
theorem d11_14 : decode jdk_65_method_124_code 14 = .ok (.iload_n 1, 1) := by decide +kernel
theorem d11_15 : decode jdk_65_method_124_code 15 = .ok (.newarray .long, 2) := by decide +kernel
theorem d11_17 : decode jdk_65_method_124_code 17 = .ok (.astore_n 2, 1) := by decide +kernel
theorem d11_18 : decode jdk_65_method_124_code 18 = .ok (.aload_n 0, 1) := by decide +kernel
theorem d11_19 : decode jdk_65_method_124_code 19 = .ok (.iconst 0, 1) := by decide +kernel
theorem d11_20 : decode jdk_65_method_124_code 20 = .ok (.aload_n 2, 1) := by decide +kernel
theorem d11_21 : decode jdk_65_method_124_code 21 = .ok (.iconst 0, 1) := by decide +kernel
theorem d11_22 : decode jdk_65_method_124_code 22 = .ok (.aload_n 0, 1) := by decide +kernel
theorem d11_23 : decode jdk_65_method_124_code 23 = .ok (.arraylength, 1) := by decide +kernel
theorem d11_24 : decode jdk_65_method_124_code 24 = .ok (.iload_n 1, 1) := by decide +kernel
theorem d11_25 : decode jdk_65_method_124_code 25 = .ok (.invokestatic 304, 3) := by decide +kernel
theorem d11_28 : decode jdk_65_method_124_code 28 = .ok (.invokestatic 150, 3) := by decide +kernel
theorem d11_31 : decode jdk_65_method_124_code 31 = .ok (.aload_n 2, 1) := by decide +kernel
theorem d11_32 : decode jdk_65_method_124_code 32 = .ok (.areturn, 1) := by decide +kernel
theorem ef_11n0c0 (m : MethodId) (x0 : Addr) (x1 : Int32) : entryFrame m #[(.ref x0), (.int x1)] 3 = mkF m 0 #[.val (.ref x0), .val (.int x1), .unset] [] := by first | (simp [entryFrame, mkF, argsToLocals, Value.category]; done) | rfl
set_option maxRecDepth 65536 in
set_option maxHeartbeats 40000000 in
theorem rm11n0c0 (l : Launch) (Z : State) (a0 : Array Value) (hw : ∀ d ∈ tables_1, d.before a0 Z = true) (a1 : Addr) (h0 : Heap) (n0 : Nat) (Z0 : n0 ≤ h0.size) (kA : ClassId) (E0 : Exa Z h0 a1 "[J") (V0 : Arv Z h0 a1 kA .long (0 : Int32) [] (.long (0 : Int64))) :
    Con l Z (⟨"java/util/Arrays", "copyOf", "([JI)[J"⟩ : MethodName) jdk_65_method_124_code 3 (some (.array .long)) ({ frames := 1, cells := 1, slots := 0, locals := 64 } : Room) #[(.ref a1), (.int (0 : Int32))] h0 n0 (fun v h => ∃ (b : Addr) (kB : ClassId), v = some (.ref b) ∧ h0.size ≤ b ∧ Keep h0 h [] ∧ Arv Z h b kB .long (0 : Int32) [] (.long (0 : Int64))) := by
  refine Con.of (own := "java/util/Arrays") (name := "copyOf") (plainFor_of_name pn_2) (fun m => ef_11n0c0 m a1 (0 : Int32)) rfl rfl ?_
  intro p e s m below meth c T F S cx st
  refine E_iloadN (pc' := 1) cx st d11_0 rfl rfl ?_
  refine E_aloadN (pc' := 2) cx st d11_1 rfl rfl rfl ?_
  refine E_arraylength (pc' := 3) cx st V0 d11_2 rfl ?_
  refine E_icmp_neN (pc' := 6) cx st d11_3 rfl (by decide) ?_
  refine E_aloadN (pc' := 7) cx st d11_6 rfl rfl rfl ?_
  refine E_clone (pc' := 10) (kc' := 1) (ks' := 0) (W := 0) (cap := 0) cx st V0 E0 (hw _ (List.mem_of_getElem? (i := 55) rfl)) (hw _ (List.mem_of_getElem? (i := 56) rfl)) (hw _ (List.mem_of_getElem? (i := 19) rfl)) (hw _ (List.mem_of_getElem? (i := 17) rfl)) (hw _ (List.mem_of_getElem? (i := 57) rfl)) (hw _ (List.mem_of_getElem? (i := 58) rfl)) d11_7 rfl (by decide) (Nat.le_of_eq rfl) (by decide) (by decide) (by decide) (by decide) (by decide) (by decide) rfl ?_
  intro T1 h1 ar1 eq1 st1 E1 V1 X1
  have g_ar1 : n0 ≤ ar1 := by rw [eq1]; exact Z0
  have ne_a1_ar1 : a1 ≠ ar1 := by rw [eq1]; exact Nat.ne_of_lt V0.lt
  have sz_ar1 : h0.size ≤ ar1 := by rw [eq1]; exact (Keep.refl h0 []).1
  have Z1 : n0 ≤ h1.size := Nat.le_trans Z0 E1.1
  have K1 : Keep h0 h1 [] := (Keep.refl h0 []).ext E1
  refine E_checkcast (pc' := 13) cx st1 (hw _ (List.mem_of_getElem? (i := 59) rfl)) (Ins.self X1) d11_10 rfl ?_
  intro T2 st2
  refine E_areturn (t := (.array .long)) cx st2 d11_13 rfl rfl rfl rfl (by decide) (by decide) ?_
  exact ⟨ar1, kA, rfl, sz_ar1, K1, V1⟩
theorem ef_10n1c1 (m : MethodId) (x0 : Addr) (x1 : Int32) : entryFrame m #[(.ref x0), (.int x1)] 3 = mkF m 0 #[.val (.ref x0), .val (.int x1), .unset] [] := by first | (simp [entryFrame, mkF, argsToLocals, Value.category]; done) | rfl
set_option maxRecDepth 65536 in
set_option maxHeartbeats 40000000 in
theorem rm10n1c1 (l : Launch) (Z : State) (a0 : Array Value) (hw : ∀ d ∈ tables_1, d.before a0 Z = true) (a1 : Addr) (y0 : Int32) (h0 : Heap) (n0 : Nat) (Z0 : n0 ≤ h0.size) (kA : ClassId) (E0 : Exa Z h0 a1 "[I") (V0 : Arv Z h0 a1 kA .int (1 : Int32) [(.int y0)] (.int (0 : Int32))) :
    Con l Z (⟨"java/util/Arrays", "copyOf", "([II)[I"⟩ : MethodName) jdk_65_method_123_code 3 (some (.array .int)) ({ frames := 1, cells := 1, slots := 1, locals := 64 } : Room) #[(.ref a1), (.int (1 : Int32))] h0 n0 (fun v h => ∃ (b : Addr) (kB : ClassId), v = some (.ref b) ∧ h0.size ≤ b ∧ Keep h0 h [] ∧ Arv Z h b kB .int (1 : Int32) [(.int y0)] (.int (0 : Int32))) := by
  refine Con.of (own := "java/util/Arrays") (name := "copyOf") (plainFor_of_name pn_2) (fun m => ef_10n1c1 m a1 (1 : Int32)) rfl rfl ?_
  intro p e s m below meth c T F S cx st
  refine E_iloadN (pc' := 1) cx st d10_0 rfl rfl ?_
  refine E_aloadN (pc' := 2) cx st d10_1 rfl rfl rfl ?_
  refine E_arraylength (pc' := 3) cx st V0 d10_2 rfl ?_
  refine E_icmp_neN (pc' := 6) cx st d10_3 rfl (by decide) ?_
  refine E_aloadN (pc' := 7) cx st d10_6 rfl rfl rfl ?_
  refine E_clone (pc' := 10) (kc' := 1) (ks' := 1) (W := 0) (cap := 1) cx st V0 E0 (hw _ (List.mem_of_getElem? (i := 48) rfl)) (hw _ (List.mem_of_getElem? (i := 15) rfl)) (hw _ (List.mem_of_getElem? (i := 19) rfl)) (hw _ (List.mem_of_getElem? (i := 17) rfl)) (hw _ (List.mem_of_getElem? (i := 18) rfl)) (hw _ (List.mem_of_getElem? (i := 20) rfl)) d10_7 rfl (by decide) (Nat.le_of_eq rfl) (by decide) (by decide) (by decide) (by decide) (by decide) (by decide) rfl ?_
  intro T1 h1 ar1 eq1 st1 E1 V1 X1
  have g_ar1 : n0 ≤ ar1 := by rw [eq1]; exact Z0
  have ne_a1_ar1 : a1 ≠ ar1 := by rw [eq1]; exact Nat.ne_of_lt V0.lt
  have sz_ar1 : h0.size ≤ ar1 := by rw [eq1]; exact (Keep.refl h0 []).1
  have Z1 : n0 ≤ h1.size := Nat.le_trans Z0 E1.1
  have K1 : Keep h0 h1 [] := (Keep.refl h0 []).ext E1
  refine E_checkcast (pc' := 13) cx st1 (hw _ (List.mem_of_getElem? (i := 49) rfl)) (Ins.self X1) d10_10 rfl ?_
  intro T2 st2
  refine E_areturn (t := (.array .int)) cx st2 d10_13 rfl rfl rfl rfl (by decide) (by decide) ?_
  exact ⟨ar1, kA, rfl, sz_ar1, K1, V1⟩
theorem ef_11n1c1 (m : MethodId) (x0 : Addr) (x1 : Int32) : entryFrame m #[(.ref x0), (.int x1)] 3 = mkF m 0 #[.val (.ref x0), .val (.int x1), .unset] [] := by first | (simp [entryFrame, mkF, argsToLocals, Value.category]; done) | rfl
set_option maxRecDepth 65536 in
set_option maxHeartbeats 40000000 in
theorem rm11n1c1 (l : Launch) (Z : State) (a0 : Array Value) (hw : ∀ d ∈ tables_1, d.before a0 Z = true) (a1 : Addr) (y0 : Int64) (h0 : Heap) (n0 : Nat) (Z0 : n0 ≤ h0.size) (kA : ClassId) (E0 : Exa Z h0 a1 "[J") (V0 : Arv Z h0 a1 kA .long (1 : Int32) [(.long y0)] (.long (0 : Int64))) :
    Con l Z (⟨"java/util/Arrays", "copyOf", "([JI)[J"⟩ : MethodName) jdk_65_method_124_code 3 (some (.array .long)) ({ frames := 1, cells := 1, slots := 1, locals := 64 } : Room) #[(.ref a1), (.int (1 : Int32))] h0 n0 (fun v h => ∃ (b : Addr) (kB : ClassId), v = some (.ref b) ∧ h0.size ≤ b ∧ Keep h0 h [] ∧ Arv Z h b kB .long (1 : Int32) [(.long y0)] (.long (0 : Int64))) := by
  refine Con.of (own := "java/util/Arrays") (name := "copyOf") (plainFor_of_name pn_2) (fun m => ef_11n1c1 m a1 (1 : Int32)) rfl rfl ?_
  intro p e s m below meth c T F S cx st
  refine E_iloadN (pc' := 1) cx st d11_0 rfl rfl ?_
  refine E_aloadN (pc' := 2) cx st d11_1 rfl rfl rfl ?_
  refine E_arraylength (pc' := 3) cx st V0 d11_2 rfl ?_
  refine E_icmp_neN (pc' := 6) cx st d11_3 rfl (by decide) ?_
  refine E_aloadN (pc' := 7) cx st d11_6 rfl rfl rfl ?_
  refine E_clone (pc' := 10) (kc' := 1) (ks' := 1) (W := 0) (cap := 1) cx st V0 E0 (hw _ (List.mem_of_getElem? (i := 55) rfl)) (hw _ (List.mem_of_getElem? (i := 56) rfl)) (hw _ (List.mem_of_getElem? (i := 19) rfl)) (hw _ (List.mem_of_getElem? (i := 17) rfl)) (hw _ (List.mem_of_getElem? (i := 57) rfl)) (hw _ (List.mem_of_getElem? (i := 58) rfl)) d11_7 rfl (by decide) (Nat.le_of_eq rfl) (by decide) (by decide) (by decide) (by decide) (by decide) (by decide) rfl ?_
  intro T1 h1 ar1 eq1 st1 E1 V1 X1
  have g_ar1 : n0 ≤ ar1 := by rw [eq1]; exact Z0
  have ne_a1_ar1 : a1 ≠ ar1 := by rw [eq1]; exact Nat.ne_of_lt V0.lt
  have sz_ar1 : h0.size ≤ ar1 := by rw [eq1]; exact (Keep.refl h0 []).1
  have Z1 : n0 ≤ h1.size := Nat.le_trans Z0 E1.1
  have K1 : Keep h0 h1 [] := (Keep.refl h0 []).ext E1
  refine E_checkcast (pc' := 13) cx st1 (hw _ (List.mem_of_getElem? (i := 59) rfl)) (Ins.self X1) d11_10 rfl ?_
  intro T2 st2
  refine E_areturn (t := (.array .long)) cx st2 d11_13 rfl rfl rfl rfl (by decide) (by decide) ?_
  exact ⟨ar1, kA, rfl, sz_ar1, K1, V1⟩
theorem ef_10n2c1 (m : MethodId) (x0 : Addr) (x1 : Int32) : entryFrame m #[(.ref x0), (.int x1)] 3 = mkF m 0 #[.val (.ref x0), .val (.int x1), .unset] [] := by first | (simp [entryFrame, mkF, argsToLocals, Value.category]; done) | rfl
theorem pd_3 : parseMethodDescriptor "(II)I" = some ⟨[.int, .int], some .int⟩ := by decide +kernel
set_option maxRecDepth 65536 in
set_option maxHeartbeats 40000000 in
theorem rm10n2c1 (l : Launch) (Z : State) (a0 : Array Value) (hw : ∀ d ∈ tables_1, d.before a0 Z = true) (a1 : Addr) (y0 : Int32) (y1 : Int32) (h0 : Heap) (n0 : Nat) (Z0 : n0 ≤ h0.size) (kA : ClassId) (E0 : Exa Z h0 a1 "[I") (V0 : Arv Z h0 a1 kA .int (2 : Int32) [(.int y0), (.int y1)] (.int (0 : Int32))) :
    Con l Z (⟨"java/util/Arrays", "copyOf", "([II)[I"⟩ : MethodName) jdk_65_method_123_code 3 (some (.array .int)) ({ frames := 1, cells := 1, slots := 1, locals := 64 } : Room) #[(.ref a1), (.int (1 : Int32))] h0 n0 (fun v h => ∃ (b : Addr) (kB : ClassId), v = some (.ref b) ∧ h0.size ≤ b ∧ Keep h0 h [] ∧ Arv Z h b kB .int (1 : Int32) [(.int y0)] (.int (0 : Int32))) := by
  refine Con.of (own := "java/util/Arrays") (name := "copyOf") (plainFor_of_name pn_2) (fun m => ef_10n2c1 m a1 (1 : Int32)) rfl rfl ?_
  intro p e s m below meth c T F S cx st
  refine E_iloadN (pc' := 1) cx st d10_0 rfl rfl ?_
  refine E_aloadN (pc' := 2) cx st d10_1 rfl rfl rfl ?_
  refine E_arraylength (pc' := 3) cx st V0 d10_2 rfl ?_
  refine E_icmp_neY (pc' := 14) cx st d10_3 (by decide) (by decide) (by decide) ?_
  refine E_iloadN (pc' := 15) cx st d10_14 rfl rfl ?_
  refine E_newP (pc' := 17) (kc' := 1) (ks' := 1) (cap := 1) cx st (hw _ (List.mem_of_getElem? (i := 0) rfl)) d10_15 (by decide) (by decide) (by decide) (by decide) (by decide) (by decide) (by decide) rfl (ad := "[I") (by decide) ?_
  intro T1 h1 ca1 ar1 eq1 st1 E1 V1 X1
  have g_ar1 : n0 ≤ ar1 := by rw [eq1]; exact Z0
  have ne_a1_ar1 : a1 ≠ ar1 := by rw [eq1]; exact Nat.ne_of_lt V0.lt
  have sz_ar1 : h0.size ≤ ar1 := by rw [eq1]; exact (Keep.refl h0 []).1
  have Z1 : n0 ≤ h1.size := Nat.le_trans Z0 E1.1
  have K1 : Keep h0 h1 [] := (Keep.refl h0 []).ext E1
  have V1p : Arv Z h1 ar1 ca1 .int (1 : Int32) [(.int (0 : Int32))] (.int (0 : Int32)) := V1.pad (pad_rep [] (.int (0 : Int32)) 1)
  refine E_astoreN (pc' := 18) (L' := #[.val (.ref a1), .val (.int (1 : Int32)), .val (.ref ar1)]) cx st1 d10_17 rfl rfl rfl ?_
  refine E_aloadN (pc' := 19) cx st1 d10_18 rfl rfl rfl ?_
  refine E_iconst (pc' := 20) cx st1 (0 : Int32) d10_19 rfl rfl ?_
  refine E_aloadN (pc' := 21) cx st1 d10_20 rfl rfl rfl ?_
  refine E_iconst (pc' := 22) cx st1 (0 : Int32) d10_21 rfl rfl ?_
  refine E_aloadN (pc' := 23) cx st1 d10_22 rfl rfl rfl ?_
  have V2 : Arv Z h1 a1 kA .int (2 : Int32) [(.int y0), (.int y1)] (.int (0 : Int32)) := (V0.ext E1)
  refine E_arraylength (pc' := 24) cx st1 V2 d10_23 rfl ?_
  refine E_iloadN (pc' := 25) cx st1 d10_24 rfl rfl ?_
  refine E_callS (pc' := 28) (kc' := 1) (ks' := 1) (W := 4) (argsL := [(.int (2 : Int32)), (.int (1 : Int32))]) cx st1 [(.int (0 : Int32)), (.ref ar1), (.int (0 : Int32)), (.ref a1)] (rm13 l Z a0 hw (2 : Int32) (1 : Int32) h1 n0 Z1) (hw _ (List.mem_of_getElem? (i := 68) rfl)) (hw _ (List.mem_of_getElem? (i := 69) rfl)) (hw _ (List.mem_of_getElem? (i := 70) rfl)) (hw _ (List.mem_of_getElem? (i := 71) rfl)) d10_25 rfl rfl (lenOf pd_3 rfl) (Nat.le_of_eq rfl) (by decide) (by decide) (by decide) (by decide) (by decide) (by decide) (by decide) rfl ?_
  intro v3 T3 h3 st3 hq3
  obtain ⟨rfl, hh3⟩ := hq3
  rw [hh3] at st3
  rw [show (mnI (2 : Int32) (1 : Int32)) = (1 : Int32) from by decide]
  refine E_arraycopy (pc' := 31) (W := 0) (us := [(.int y0)]) cx st3 V2 V1p rfl (hw _ (List.mem_of_getElem? (i := 72) rfl)) (hw _ (List.mem_of_getElem? (i := 75) rfl)) (hw _ (List.mem_of_getElem? (i := 73) rfl)) (hw _ (List.mem_of_getElem? (i := 74) rfl)) (by decide) (by decide) (by decide) (by decide) (by decide) rfl (by decide) g_ar1 d10_28 rfl (by decide) (Nat.le_of_eq rfl) (by decide) rfl ?_
  intro T4 h4 st4 Kc4 VB4
  have Z4 : n0 ≤ h4.size := Nat.le_trans Z1 Kc4.1
  have KKc4' : Keep h0 h4 [] := K1.trans Kc4 (allS (Or.inr sz_ar1) all0)
  have VB4p : Arv Z h4 ar1 ca1 .int (1 : Int32) [(.int y0)] (.int (0 : Int32)) := VB4
  refine E_aloadN (pc' := 32) cx st4 d10_31 rfl rfl rfl ?_
  refine E_areturn (t := (.array .int)) cx st4 d10_32 rfl rfl rfl rfl (by decide) (by decide) ?_
  exact ⟨ar1, ca1, rfl, sz_ar1, KKc4', VB4p⟩
theorem ef_11n2c1 (m : MethodId) (x0 : Addr) (x1 : Int32) : entryFrame m #[(.ref x0), (.int x1)] 3 = mkF m 0 #[.val (.ref x0), .val (.int x1), .unset] [] := by first | (simp [entryFrame, mkF, argsToLocals, Value.category]; done) | rfl
set_option maxRecDepth 65536 in
set_option maxHeartbeats 40000000 in
theorem rm11n2c1 (l : Launch) (Z : State) (a0 : Array Value) (hw : ∀ d ∈ tables_1, d.before a0 Z = true) (a1 : Addr) (y0 : Int64) (y1 : Int64) (h0 : Heap) (n0 : Nat) (Z0 : n0 ≤ h0.size) (kA : ClassId) (E0 : Exa Z h0 a1 "[J") (V0 : Arv Z h0 a1 kA .long (2 : Int32) [(.long y0), (.long y1)] (.long (0 : Int64))) :
    Con l Z (⟨"java/util/Arrays", "copyOf", "([JI)[J"⟩ : MethodName) jdk_65_method_124_code 3 (some (.array .long)) ({ frames := 1, cells := 1, slots := 1, locals := 64 } : Room) #[(.ref a1), (.int (1 : Int32))] h0 n0 (fun v h => ∃ (b : Addr) (kB : ClassId), v = some (.ref b) ∧ h0.size ≤ b ∧ Keep h0 h [] ∧ Arv Z h b kB .long (1 : Int32) [(.long y0)] (.long (0 : Int64))) := by
  refine Con.of (own := "java/util/Arrays") (name := "copyOf") (plainFor_of_name pn_2) (fun m => ef_11n2c1 m a1 (1 : Int32)) rfl rfl ?_
  intro p e s m below meth c T F S cx st
  refine E_iloadN (pc' := 1) cx st d11_0 rfl rfl ?_
  refine E_aloadN (pc' := 2) cx st d11_1 rfl rfl rfl ?_
  refine E_arraylength (pc' := 3) cx st V0 d11_2 rfl ?_
  refine E_icmp_neY (pc' := 14) cx st d11_3 (by decide) (by decide) (by decide) ?_
  refine E_iloadN (pc' := 15) cx st d11_14 rfl rfl ?_
  refine E_newP (pc' := 17) (kc' := 1) (ks' := 1) (cap := 1) cx st (hw _ (List.mem_of_getElem? (i := 37) rfl)) d11_15 (by decide) (by decide) (by decide) (by decide) (by decide) (by decide) (by decide) rfl (ad := "[J") (by decide) ?_
  intro T1 h1 ca1 ar1 eq1 st1 E1 V1 X1
  have g_ar1 : n0 ≤ ar1 := by rw [eq1]; exact Z0
  have ne_a1_ar1 : a1 ≠ ar1 := by rw [eq1]; exact Nat.ne_of_lt V0.lt
  have sz_ar1 : h0.size ≤ ar1 := by rw [eq1]; exact (Keep.refl h0 []).1
  have Z1 : n0 ≤ h1.size := Nat.le_trans Z0 E1.1
  have K1 : Keep h0 h1 [] := (Keep.refl h0 []).ext E1
  have V1p : Arv Z h1 ar1 ca1 .long (1 : Int32) [(.long (0 : Int64))] (.long (0 : Int64)) := V1.pad (pad_rep [] (.long (0 : Int64)) 1)
  refine E_astoreN (pc' := 18) (L' := #[.val (.ref a1), .val (.int (1 : Int32)), .val (.ref ar1)]) cx st1 d11_17 rfl rfl rfl ?_
  refine E_aloadN (pc' := 19) cx st1 d11_18 rfl rfl rfl ?_
  refine E_iconst (pc' := 20) cx st1 (0 : Int32) d11_19 rfl rfl ?_
  refine E_aloadN (pc' := 21) cx st1 d11_20 rfl rfl rfl ?_
  refine E_iconst (pc' := 22) cx st1 (0 : Int32) d11_21 rfl rfl ?_
  refine E_aloadN (pc' := 23) cx st1 d11_22 rfl rfl rfl ?_
  have V2 : Arv Z h1 a1 kA .long (2 : Int32) [(.long y0), (.long y1)] (.long (0 : Int64)) := (V0.ext E1)
  refine E_arraylength (pc' := 24) cx st1 V2 d11_23 rfl ?_
  refine E_iloadN (pc' := 25) cx st1 d11_24 rfl rfl ?_
  refine E_callS (pc' := 28) (kc' := 1) (ks' := 1) (W := 4) (argsL := [(.int (2 : Int32)), (.int (1 : Int32))]) cx st1 [(.int (0 : Int32)), (.ref ar1), (.int (0 : Int32)), (.ref a1)] (rm13 l Z a0 hw (2 : Int32) (1 : Int32) h1 n0 Z1) (hw _ (List.mem_of_getElem? (i := 68) rfl)) (hw _ (List.mem_of_getElem? (i := 69) rfl)) (hw _ (List.mem_of_getElem? (i := 70) rfl)) (hw _ (List.mem_of_getElem? (i := 71) rfl)) d11_25 rfl rfl (lenOf pd_3 rfl) (Nat.le_of_eq rfl) (by decide) (by decide) (by decide) (by decide) (by decide) (by decide) (by decide) rfl ?_
  intro v3 T3 h3 st3 hq3
  obtain ⟨rfl, hh3⟩ := hq3
  rw [hh3] at st3
  rw [show (mnI (2 : Int32) (1 : Int32)) = (1 : Int32) from by decide]
  refine E_arraycopy (pc' := 31) (W := 0) (us := [(.long y0)]) cx st3 V2 V1p rfl (hw _ (List.mem_of_getElem? (i := 72) rfl)) (hw _ (List.mem_of_getElem? (i := 75) rfl)) (hw _ (List.mem_of_getElem? (i := 73) rfl)) (hw _ (List.mem_of_getElem? (i := 74) rfl)) (by decide) (by decide) (by decide) (by decide) (by decide) rfl (by decide) g_ar1 d11_28 rfl (by decide) (Nat.le_of_eq rfl) (by decide) rfl ?_
  intro T4 h4 st4 Kc4 VB4
  have Z4 : n0 ≤ h4.size := Nat.le_trans Z1 Kc4.1
  have KKc4' : Keep h0 h4 [] := K1.trans Kc4 (allS (Or.inr sz_ar1) all0)
  have VB4p : Arv Z h4 ar1 ca1 .long (1 : Int32) [(.long y0)] (.long (0 : Int64)) := VB4
  refine E_aloadN (pc' := 32) cx st4 d11_31 rfl rfl rfl ?_
  refine E_areturn (t := (.array .long)) cx st4 d11_32 rfl rfl rfl rfl (by decide) (by decide) ?_
  exact ⟨ar1, ca1, rfl, sz_ar1, KKc4', VB4p⟩
theorem ef_10n2c2 (m : MethodId) (x0 : Addr) (x1 : Int32) : entryFrame m #[(.ref x0), (.int x1)] 3 = mkF m 0 #[.val (.ref x0), .val (.int x1), .unset] [] := by first | (simp [entryFrame, mkF, argsToLocals, Value.category]; done) | rfl
set_option maxRecDepth 65536 in
set_option maxHeartbeats 40000000 in
theorem rm10n2c2 (l : Launch) (Z : State) (a0 : Array Value) (hw : ∀ d ∈ tables_1, d.before a0 Z = true) (a1 : Addr) (y0 : Int32) (y1 : Int32) (h0 : Heap) (n0 : Nat) (Z0 : n0 ≤ h0.size) (kA : ClassId) (E0 : Exa Z h0 a1 "[I") (V0 : Arv Z h0 a1 kA .int (2 : Int32) [(.int y0), (.int y1)] (.int (0 : Int32))) :
    Con l Z (⟨"java/util/Arrays", "copyOf", "([II)[I"⟩ : MethodName) jdk_65_method_123_code 3 (some (.array .int)) ({ frames := 1, cells := 1, slots := 2, locals := 64 } : Room) #[(.ref a1), (.int (2 : Int32))] h0 n0 (fun v h => ∃ (b : Addr) (kB : ClassId), v = some (.ref b) ∧ h0.size ≤ b ∧ Keep h0 h [] ∧ Arv Z h b kB .int (2 : Int32) [(.int y0), (.int y1)] (.int (0 : Int32))) := by
  refine Con.of (own := "java/util/Arrays") (name := "copyOf") (plainFor_of_name pn_2) (fun m => ef_10n2c2 m a1 (2 : Int32)) rfl rfl ?_
  intro p e s m below meth c T F S cx st
  refine E_iloadN (pc' := 1) cx st d10_0 rfl rfl ?_
  refine E_aloadN (pc' := 2) cx st d10_1 rfl rfl rfl ?_
  refine E_arraylength (pc' := 3) cx st V0 d10_2 rfl ?_
  refine E_icmp_neN (pc' := 6) cx st d10_3 rfl (by decide) ?_
  refine E_aloadN (pc' := 7) cx st d10_6 rfl rfl rfl ?_
  refine E_clone (pc' := 10) (kc' := 1) (ks' := 2) (W := 0) (cap := 2) cx st V0 E0 (hw _ (List.mem_of_getElem? (i := 48) rfl)) (hw _ (List.mem_of_getElem? (i := 15) rfl)) (hw _ (List.mem_of_getElem? (i := 19) rfl)) (hw _ (List.mem_of_getElem? (i := 17) rfl)) (hw _ (List.mem_of_getElem? (i := 18) rfl)) (hw _ (List.mem_of_getElem? (i := 20) rfl)) d10_7 rfl (by decide) (Nat.le_of_eq rfl) (by decide) (by decide) (by decide) (by decide) (by decide) (by decide) rfl ?_
  intro T1 h1 ar1 eq1 st1 E1 V1 X1
  have g_ar1 : n0 ≤ ar1 := by rw [eq1]; exact Z0
  have ne_a1_ar1 : a1 ≠ ar1 := by rw [eq1]; exact Nat.ne_of_lt V0.lt
  have sz_ar1 : h0.size ≤ ar1 := by rw [eq1]; exact (Keep.refl h0 []).1
  have Z1 : n0 ≤ h1.size := Nat.le_trans Z0 E1.1
  have K1 : Keep h0 h1 [] := (Keep.refl h0 []).ext E1
  refine E_checkcast (pc' := 13) cx st1 (hw _ (List.mem_of_getElem? (i := 49) rfl)) (Ins.self X1) d10_10 rfl ?_
  intro T2 st2
  refine E_areturn (t := (.array .int)) cx st2 d10_13 rfl rfl rfl rfl (by decide) (by decide) ?_
  exact ⟨ar1, kA, rfl, sz_ar1, K1, V1⟩
theorem ef_11n2c2 (m : MethodId) (x0 : Addr) (x1 : Int32) : entryFrame m #[(.ref x0), (.int x1)] 3 = mkF m 0 #[.val (.ref x0), .val (.int x1), .unset] [] := by first | (simp [entryFrame, mkF, argsToLocals, Value.category]; done) | rfl
set_option maxRecDepth 65536 in
set_option maxHeartbeats 40000000 in
theorem rm11n2c2 (l : Launch) (Z : State) (a0 : Array Value) (hw : ∀ d ∈ tables_1, d.before a0 Z = true) (a1 : Addr) (y0 : Int64) (y1 : Int64) (h0 : Heap) (n0 : Nat) (Z0 : n0 ≤ h0.size) (kA : ClassId) (E0 : Exa Z h0 a1 "[J") (V0 : Arv Z h0 a1 kA .long (2 : Int32) [(.long y0), (.long y1)] (.long (0 : Int64))) :
    Con l Z (⟨"java/util/Arrays", "copyOf", "([JI)[J"⟩ : MethodName) jdk_65_method_124_code 3 (some (.array .long)) ({ frames := 1, cells := 1, slots := 2, locals := 64 } : Room) #[(.ref a1), (.int (2 : Int32))] h0 n0 (fun v h => ∃ (b : Addr) (kB : ClassId), v = some (.ref b) ∧ h0.size ≤ b ∧ Keep h0 h [] ∧ Arv Z h b kB .long (2 : Int32) [(.long y0), (.long y1)] (.long (0 : Int64))) := by
  refine Con.of (own := "java/util/Arrays") (name := "copyOf") (plainFor_of_name pn_2) (fun m => ef_11n2c2 m a1 (2 : Int32)) rfl rfl ?_
  intro p e s m below meth c T F S cx st
  refine E_iloadN (pc' := 1) cx st d11_0 rfl rfl ?_
  refine E_aloadN (pc' := 2) cx st d11_1 rfl rfl rfl ?_
  refine E_arraylength (pc' := 3) cx st V0 d11_2 rfl ?_
  refine E_icmp_neN (pc' := 6) cx st d11_3 rfl (by decide) ?_
  refine E_aloadN (pc' := 7) cx st d11_6 rfl rfl rfl ?_
  refine E_clone (pc' := 10) (kc' := 1) (ks' := 2) (W := 0) (cap := 2) cx st V0 E0 (hw _ (List.mem_of_getElem? (i := 55) rfl)) (hw _ (List.mem_of_getElem? (i := 56) rfl)) (hw _ (List.mem_of_getElem? (i := 19) rfl)) (hw _ (List.mem_of_getElem? (i := 17) rfl)) (hw _ (List.mem_of_getElem? (i := 57) rfl)) (hw _ (List.mem_of_getElem? (i := 58) rfl)) d11_7 rfl (by decide) (Nat.le_of_eq rfl) (by decide) (by decide) (by decide) (by decide) (by decide) (by decide) rfl ?_
  intro T1 h1 ar1 eq1 st1 E1 V1 X1
  have g_ar1 : n0 ≤ ar1 := by rw [eq1]; exact Z0
  have ne_a1_ar1 : a1 ≠ ar1 := by rw [eq1]; exact Nat.ne_of_lt V0.lt
  have sz_ar1 : h0.size ≤ ar1 := by rw [eq1]; exact (Keep.refl h0 []).1
  have Z1 : n0 ≤ h1.size := Nat.le_trans Z0 E1.1
  have K1 : Keep h0 h1 [] := (Keep.refl h0 []).ext E1
  refine E_checkcast (pc' := 13) cx st1 (hw _ (List.mem_of_getElem? (i := 59) rfl)) (Ins.self X1) d11_10 rfl ?_
  intro T2 st2
  refine E_areturn (t := (.array .long)) cx st2 d11_13 rfl rfl rfl rfl (by decide) (by decide) ?_
  exact ⟨ar1, kA, rfl, sz_ar1, K1, V1⟩
theorem ef_10n3c1 (m : MethodId) (x0 : Addr) (x1 : Int32) : entryFrame m #[(.ref x0), (.int x1)] 3 = mkF m 0 #[.val (.ref x0), .val (.int x1), .unset] [] := by first | (simp [entryFrame, mkF, argsToLocals, Value.category]; done) | rfl
set_option maxRecDepth 65536 in
set_option maxHeartbeats 40000000 in
theorem rm10n3c1 (l : Launch) (Z : State) (a0 : Array Value) (hw : ∀ d ∈ tables_1, d.before a0 Z = true) (a1 : Addr) (y0 : Int32) (y1 : Int32) (y2 : Int32) (h0 : Heap) (n0 : Nat) (Z0 : n0 ≤ h0.size) (kA : ClassId) (E0 : Exa Z h0 a1 "[I") (V0 : Arv Z h0 a1 kA .int (3 : Int32) [(.int y0), (.int y1), (.int y2)] (.int (0 : Int32))) :
    Con l Z (⟨"java/util/Arrays", "copyOf", "([II)[I"⟩ : MethodName) jdk_65_method_123_code 3 (some (.array .int)) ({ frames := 1, cells := 1, slots := 1, locals := 64 } : Room) #[(.ref a1), (.int (1 : Int32))] h0 n0 (fun v h => ∃ (b : Addr) (kB : ClassId), v = some (.ref b) ∧ h0.size ≤ b ∧ Keep h0 h [] ∧ Arv Z h b kB .int (1 : Int32) [(.int y0)] (.int (0 : Int32))) := by
  refine Con.of (own := "java/util/Arrays") (name := "copyOf") (plainFor_of_name pn_2) (fun m => ef_10n3c1 m a1 (1 : Int32)) rfl rfl ?_
  intro p e s m below meth c T F S cx st
  refine E_iloadN (pc' := 1) cx st d10_0 rfl rfl ?_
  refine E_aloadN (pc' := 2) cx st d10_1 rfl rfl rfl ?_
  refine E_arraylength (pc' := 3) cx st V0 d10_2 rfl ?_
  refine E_icmp_neY (pc' := 14) cx st d10_3 (by decide) (by decide) (by decide) ?_
  refine E_iloadN (pc' := 15) cx st d10_14 rfl rfl ?_
  refine E_newP (pc' := 17) (kc' := 1) (ks' := 1) (cap := 1) cx st (hw _ (List.mem_of_getElem? (i := 0) rfl)) d10_15 (by decide) (by decide) (by decide) (by decide) (by decide) (by decide) (by decide) rfl (ad := "[I") (by decide) ?_
  intro T1 h1 ca1 ar1 eq1 st1 E1 V1 X1
  have g_ar1 : n0 ≤ ar1 := by rw [eq1]; exact Z0
  have ne_a1_ar1 : a1 ≠ ar1 := by rw [eq1]; exact Nat.ne_of_lt V0.lt
  have sz_ar1 : h0.size ≤ ar1 := by rw [eq1]; exact (Keep.refl h0 []).1
  have Z1 : n0 ≤ h1.size := Nat.le_trans Z0 E1.1
  have K1 : Keep h0 h1 [] := (Keep.refl h0 []).ext E1
  have V1p : Arv Z h1 ar1 ca1 .int (1 : Int32) [(.int (0 : Int32))] (.int (0 : Int32)) := V1.pad (pad_rep [] (.int (0 : Int32)) 1)
  refine E_astoreN (pc' := 18) (L' := #[.val (.ref a1), .val (.int (1 : Int32)), .val (.ref ar1)]) cx st1 d10_17 rfl rfl rfl ?_
  refine E_aloadN (pc' := 19) cx st1 d10_18 rfl rfl rfl ?_
  refine E_iconst (pc' := 20) cx st1 (0 : Int32) d10_19 rfl rfl ?_
  refine E_aloadN (pc' := 21) cx st1 d10_20 rfl rfl rfl ?_
  refine E_iconst (pc' := 22) cx st1 (0 : Int32) d10_21 rfl rfl ?_
  refine E_aloadN (pc' := 23) cx st1 d10_22 rfl rfl rfl ?_
  have V2 : Arv Z h1 a1 kA .int (3 : Int32) [(.int y0), (.int y1), (.int y2)] (.int (0 : Int32)) := (V0.ext E1)
  refine E_arraylength (pc' := 24) cx st1 V2 d10_23 rfl ?_
  refine E_iloadN (pc' := 25) cx st1 d10_24 rfl rfl ?_
  refine E_callS (pc' := 28) (kc' := 1) (ks' := 1) (W := 4) (argsL := [(.int (3 : Int32)), (.int (1 : Int32))]) cx st1 [(.int (0 : Int32)), (.ref ar1), (.int (0 : Int32)), (.ref a1)] (rm13 l Z a0 hw (3 : Int32) (1 : Int32) h1 n0 Z1) (hw _ (List.mem_of_getElem? (i := 68) rfl)) (hw _ (List.mem_of_getElem? (i := 69) rfl)) (hw _ (List.mem_of_getElem? (i := 70) rfl)) (hw _ (List.mem_of_getElem? (i := 71) rfl)) d10_25 rfl rfl (lenOf pd_3 rfl) (Nat.le_of_eq rfl) (by decide) (by decide) (by decide) (by decide) (by decide) (by decide) (by decide) rfl ?_
  intro v3 T3 h3 st3 hq3
  obtain ⟨rfl, hh3⟩ := hq3
  rw [hh3] at st3
  rw [show (mnI (3 : Int32) (1 : Int32)) = (1 : Int32) from by decide]
  refine E_arraycopy (pc' := 31) (W := 0) (us := [(.int y0)]) cx st3 V2 V1p rfl (hw _ (List.mem_of_getElem? (i := 72) rfl)) (hw _ (List.mem_of_getElem? (i := 75) rfl)) (hw _ (List.mem_of_getElem? (i := 73) rfl)) (hw _ (List.mem_of_getElem? (i := 74) rfl)) (by decide) (by decide) (by decide) (by decide) (by decide) rfl (by decide) g_ar1 d10_28 rfl (by decide) (Nat.le_of_eq rfl) (by decide) rfl ?_
  intro T4 h4 st4 Kc4 VB4
  have Z4 : n0 ≤ h4.size := Nat.le_trans Z1 Kc4.1
  have KKc4' : Keep h0 h4 [] := K1.trans Kc4 (allS (Or.inr sz_ar1) all0)
  have VB4p : Arv Z h4 ar1 ca1 .int (1 : Int32) [(.int y0)] (.int (0 : Int32)) := VB4
  refine E_aloadN (pc' := 32) cx st4 d10_31 rfl rfl rfl ?_
  refine E_areturn (t := (.array .int)) cx st4 d10_32 rfl rfl rfl rfl (by decide) (by decide) ?_
  exact ⟨ar1, ca1, rfl, sz_ar1, KKc4', VB4p⟩
theorem ef_11n3c1 (m : MethodId) (x0 : Addr) (x1 : Int32) : entryFrame m #[(.ref x0), (.int x1)] 3 = mkF m 0 #[.val (.ref x0), .val (.int x1), .unset] [] := by first | (simp [entryFrame, mkF, argsToLocals, Value.category]; done) | rfl
set_option maxRecDepth 65536 in
set_option maxHeartbeats 40000000 in
theorem rm11n3c1 (l : Launch) (Z : State) (a0 : Array Value) (hw : ∀ d ∈ tables_1, d.before a0 Z = true) (a1 : Addr) (y0 : Int64) (y1 : Int64) (y2 : Int64) (h0 : Heap) (n0 : Nat) (Z0 : n0 ≤ h0.size) (kA : ClassId) (E0 : Exa Z h0 a1 "[J") (V0 : Arv Z h0 a1 kA .long (3 : Int32) [(.long y0), (.long y1), (.long y2)] (.long (0 : Int64))) :
    Con l Z (⟨"java/util/Arrays", "copyOf", "([JI)[J"⟩ : MethodName) jdk_65_method_124_code 3 (some (.array .long)) ({ frames := 1, cells := 1, slots := 1, locals := 64 } : Room) #[(.ref a1), (.int (1 : Int32))] h0 n0 (fun v h => ∃ (b : Addr) (kB : ClassId), v = some (.ref b) ∧ h0.size ≤ b ∧ Keep h0 h [] ∧ Arv Z h b kB .long (1 : Int32) [(.long y0)] (.long (0 : Int64))) := by
  refine Con.of (own := "java/util/Arrays") (name := "copyOf") (plainFor_of_name pn_2) (fun m => ef_11n3c1 m a1 (1 : Int32)) rfl rfl ?_
  intro p e s m below meth c T F S cx st
  refine E_iloadN (pc' := 1) cx st d11_0 rfl rfl ?_
  refine E_aloadN (pc' := 2) cx st d11_1 rfl rfl rfl ?_
  refine E_arraylength (pc' := 3) cx st V0 d11_2 rfl ?_
  refine E_icmp_neY (pc' := 14) cx st d11_3 (by decide) (by decide) (by decide) ?_
  refine E_iloadN (pc' := 15) cx st d11_14 rfl rfl ?_
  refine E_newP (pc' := 17) (kc' := 1) (ks' := 1) (cap := 1) cx st (hw _ (List.mem_of_getElem? (i := 37) rfl)) d11_15 (by decide) (by decide) (by decide) (by decide) (by decide) (by decide) (by decide) rfl (ad := "[J") (by decide) ?_
  intro T1 h1 ca1 ar1 eq1 st1 E1 V1 X1
  have g_ar1 : n0 ≤ ar1 := by rw [eq1]; exact Z0
  have ne_a1_ar1 : a1 ≠ ar1 := by rw [eq1]; exact Nat.ne_of_lt V0.lt
  have sz_ar1 : h0.size ≤ ar1 := by rw [eq1]; exact (Keep.refl h0 []).1
  have Z1 : n0 ≤ h1.size := Nat.le_trans Z0 E1.1
  have K1 : Keep h0 h1 [] := (Keep.refl h0 []).ext E1
  have V1p : Arv Z h1 ar1 ca1 .long (1 : Int32) [(.long (0 : Int64))] (.long (0 : Int64)) := V1.pad (pad_rep [] (.long (0 : Int64)) 1)
  refine E_astoreN (pc' := 18) (L' := #[.val (.ref a1), .val (.int (1 : Int32)), .val (.ref ar1)]) cx st1 d11_17 rfl rfl rfl ?_
  refine E_aloadN (pc' := 19) cx st1 d11_18 rfl rfl rfl ?_
  refine E_iconst (pc' := 20) cx st1 (0 : Int32) d11_19 rfl rfl ?_
  refine E_aloadN (pc' := 21) cx st1 d11_20 rfl rfl rfl ?_
  refine E_iconst (pc' := 22) cx st1 (0 : Int32) d11_21 rfl rfl ?_
  refine E_aloadN (pc' := 23) cx st1 d11_22 rfl rfl rfl ?_
  have V2 : Arv Z h1 a1 kA .long (3 : Int32) [(.long y0), (.long y1), (.long y2)] (.long (0 : Int64)) := (V0.ext E1)
  refine E_arraylength (pc' := 24) cx st1 V2 d11_23 rfl ?_
  refine E_iloadN (pc' := 25) cx st1 d11_24 rfl rfl ?_
  refine E_callS (pc' := 28) (kc' := 1) (ks' := 1) (W := 4) (argsL := [(.int (3 : Int32)), (.int (1 : Int32))]) cx st1 [(.int (0 : Int32)), (.ref ar1), (.int (0 : Int32)), (.ref a1)] (rm13 l Z a0 hw (3 : Int32) (1 : Int32) h1 n0 Z1) (hw _ (List.mem_of_getElem? (i := 68) rfl)) (hw _ (List.mem_of_getElem? (i := 69) rfl)) (hw _ (List.mem_of_getElem? (i := 70) rfl)) (hw _ (List.mem_of_getElem? (i := 71) rfl)) d11_25 rfl rfl (lenOf pd_3 rfl) (Nat.le_of_eq rfl) (by decide) (by decide) (by decide) (by decide) (by decide) (by decide) (by decide) rfl ?_
  intro v3 T3 h3 st3 hq3
  obtain ⟨rfl, hh3⟩ := hq3
  rw [hh3] at st3
  rw [show (mnI (3 : Int32) (1 : Int32)) = (1 : Int32) from by decide]
  refine E_arraycopy (pc' := 31) (W := 0) (us := [(.long y0)]) cx st3 V2 V1p rfl (hw _ (List.mem_of_getElem? (i := 72) rfl)) (hw _ (List.mem_of_getElem? (i := 75) rfl)) (hw _ (List.mem_of_getElem? (i := 73) rfl)) (hw _ (List.mem_of_getElem? (i := 74) rfl)) (by decide) (by decide) (by decide) (by decide) (by decide) rfl (by decide) g_ar1 d11_28 rfl (by decide) (Nat.le_of_eq rfl) (by decide) rfl ?_
  intro T4 h4 st4 Kc4 VB4
  have Z4 : n0 ≤ h4.size := Nat.le_trans Z1 Kc4.1
  have KKc4' : Keep h0 h4 [] := K1.trans Kc4 (allS (Or.inr sz_ar1) all0)
  have VB4p : Arv Z h4 ar1 ca1 .long (1 : Int32) [(.long y0)] (.long (0 : Int64)) := VB4
  refine E_aloadN (pc' := 32) cx st4 d11_31 rfl rfl rfl ?_
  refine E_areturn (t := (.array .long)) cx st4 d11_32 rfl rfl rfl rfl (by decide) (by decide) ?_
  exact ⟨ar1, ca1, rfl, sz_ar1, KKc4', VB4p⟩
theorem ef_10n3c2 (m : MethodId) (x0 : Addr) (x1 : Int32) : entryFrame m #[(.ref x0), (.int x1)] 3 = mkF m 0 #[.val (.ref x0), .val (.int x1), .unset] [] := by first | (simp [entryFrame, mkF, argsToLocals, Value.category]; done) | rfl
set_option maxRecDepth 65536 in
set_option maxHeartbeats 40000000 in
theorem rm10n3c2 (l : Launch) (Z : State) (a0 : Array Value) (hw : ∀ d ∈ tables_1, d.before a0 Z = true) (a1 : Addr) (y0 : Int32) (y1 : Int32) (y2 : Int32) (h0 : Heap) (n0 : Nat) (Z0 : n0 ≤ h0.size) (kA : ClassId) (E0 : Exa Z h0 a1 "[I") (V0 : Arv Z h0 a1 kA .int (3 : Int32) [(.int y0), (.int y1), (.int y2)] (.int (0 : Int32))) :
    Con l Z (⟨"java/util/Arrays", "copyOf", "([II)[I"⟩ : MethodName) jdk_65_method_123_code 3 (some (.array .int)) ({ frames := 1, cells := 1, slots := 2, locals := 64 } : Room) #[(.ref a1), (.int (2 : Int32))] h0 n0 (fun v h => ∃ (b : Addr) (kB : ClassId), v = some (.ref b) ∧ h0.size ≤ b ∧ Keep h0 h [] ∧ Arv Z h b kB .int (2 : Int32) [(.int y0), (.int y1)] (.int (0 : Int32))) := by
  refine Con.of (own := "java/util/Arrays") (name := "copyOf") (plainFor_of_name pn_2) (fun m => ef_10n3c2 m a1 (2 : Int32)) rfl rfl ?_
  intro p e s m below meth c T F S cx st
  refine E_iloadN (pc' := 1) cx st d10_0 rfl rfl ?_
  refine E_aloadN (pc' := 2) cx st d10_1 rfl rfl rfl ?_
  refine E_arraylength (pc' := 3) cx st V0 d10_2 rfl ?_
  refine E_icmp_neY (pc' := 14) cx st d10_3 (by decide) (by decide) (by decide) ?_
  refine E_iloadN (pc' := 15) cx st d10_14 rfl rfl ?_
  refine E_newP (pc' := 17) (kc' := 1) (ks' := 2) (cap := 2) cx st (hw _ (List.mem_of_getElem? (i := 0) rfl)) d10_15 (by decide) (by decide) (by decide) (by decide) (by decide) (by decide) (by decide) rfl (ad := "[I") (by decide) ?_
  intro T1 h1 ca1 ar1 eq1 st1 E1 V1 X1
  have g_ar1 : n0 ≤ ar1 := by rw [eq1]; exact Z0
  have ne_a1_ar1 : a1 ≠ ar1 := by rw [eq1]; exact Nat.ne_of_lt V0.lt
  have sz_ar1 : h0.size ≤ ar1 := by rw [eq1]; exact (Keep.refl h0 []).1
  have Z1 : n0 ≤ h1.size := Nat.le_trans Z0 E1.1
  have K1 : Keep h0 h1 [] := (Keep.refl h0 []).ext E1
  have V1p : Arv Z h1 ar1 ca1 .int (2 : Int32) [(.int (0 : Int32)), (.int (0 : Int32))] (.int (0 : Int32)) := V1.pad (pad_rep [] (.int (0 : Int32)) 2)
  refine E_astoreN (pc' := 18) (L' := #[.val (.ref a1), .val (.int (2 : Int32)), .val (.ref ar1)]) cx st1 d10_17 rfl rfl rfl ?_
  refine E_aloadN (pc' := 19) cx st1 d10_18 rfl rfl rfl ?_
  refine E_iconst (pc' := 20) cx st1 (0 : Int32) d10_19 rfl rfl ?_
  refine E_aloadN (pc' := 21) cx st1 d10_20 rfl rfl rfl ?_
  refine E_iconst (pc' := 22) cx st1 (0 : Int32) d10_21 rfl rfl ?_
  refine E_aloadN (pc' := 23) cx st1 d10_22 rfl rfl rfl ?_
  have V2 : Arv Z h1 a1 kA .int (3 : Int32) [(.int y0), (.int y1), (.int y2)] (.int (0 : Int32)) := (V0.ext E1)
  refine E_arraylength (pc' := 24) cx st1 V2 d10_23 rfl ?_
  refine E_iloadN (pc' := 25) cx st1 d10_24 rfl rfl ?_
  refine E_callS (pc' := 28) (kc' := 1) (ks' := 2) (W := 4) (argsL := [(.int (3 : Int32)), (.int (2 : Int32))]) cx st1 [(.int (0 : Int32)), (.ref ar1), (.int (0 : Int32)), (.ref a1)] (rm13 l Z a0 hw (3 : Int32) (2 : Int32) h1 n0 Z1) (hw _ (List.mem_of_getElem? (i := 68) rfl)) (hw _ (List.mem_of_getElem? (i := 69) rfl)) (hw _ (List.mem_of_getElem? (i := 70) rfl)) (hw _ (List.mem_of_getElem? (i := 71) rfl)) d10_25 rfl rfl (lenOf pd_3 rfl) (Nat.le_of_eq rfl) (by decide) (by decide) (by decide) (by decide) (by decide) (by decide) (by decide) rfl ?_
  intro v3 T3 h3 st3 hq3
  obtain ⟨rfl, hh3⟩ := hq3
  rw [hh3] at st3
  rw [show (mnI (3 : Int32) (2 : Int32)) = (2 : Int32) from by decide]
  refine E_arraycopy (pc' := 31) (W := 0) (us := [(.int y0), (.int y1)]) cx st3 V2 V1p rfl (hw _ (List.mem_of_getElem? (i := 72) rfl)) (hw _ (List.mem_of_getElem? (i := 75) rfl)) (hw _ (List.mem_of_getElem? (i := 73) rfl)) (hw _ (List.mem_of_getElem? (i := 74) rfl)) (by decide) (by decide) (by decide) (by decide) (by decide) rfl (by decide) g_ar1 d10_28 rfl (by decide) (Nat.le_of_eq rfl) (by decide) rfl ?_
  intro T4 h4 st4 Kc4 VB4
  have Z4 : n0 ≤ h4.size := Nat.le_trans Z1 Kc4.1
  have KKc4' : Keep h0 h4 [] := K1.trans Kc4 (allS (Or.inr sz_ar1) all0)
  have VB4p : Arv Z h4 ar1 ca1 .int (2 : Int32) [(.int y0), (.int y1)] (.int (0 : Int32)) := VB4
  refine E_aloadN (pc' := 32) cx st4 d10_31 rfl rfl rfl ?_
  refine E_areturn (t := (.array .int)) cx st4 d10_32 rfl rfl rfl rfl (by decide) (by decide) ?_
  exact ⟨ar1, ca1, rfl, sz_ar1, KKc4', VB4p⟩
theorem ef_11n3c2 (m : MethodId) (x0 : Addr) (x1 : Int32) : entryFrame m #[(.ref x0), (.int x1)] 3 = mkF m 0 #[.val (.ref x0), .val (.int x1), .unset] [] := by first | (simp [entryFrame, mkF, argsToLocals, Value.category]; done) | rfl
set_option maxRecDepth 65536 in
set_option maxHeartbeats 40000000 in
theorem rm11n3c2 (l : Launch) (Z : State) (a0 : Array Value) (hw : ∀ d ∈ tables_1, d.before a0 Z = true) (a1 : Addr) (y0 : Int64) (y1 : Int64) (y2 : Int64) (h0 : Heap) (n0 : Nat) (Z0 : n0 ≤ h0.size) (kA : ClassId) (E0 : Exa Z h0 a1 "[J") (V0 : Arv Z h0 a1 kA .long (3 : Int32) [(.long y0), (.long y1), (.long y2)] (.long (0 : Int64))) :
    Con l Z (⟨"java/util/Arrays", "copyOf", "([JI)[J"⟩ : MethodName) jdk_65_method_124_code 3 (some (.array .long)) ({ frames := 1, cells := 1, slots := 2, locals := 64 } : Room) #[(.ref a1), (.int (2 : Int32))] h0 n0 (fun v h => ∃ (b : Addr) (kB : ClassId), v = some (.ref b) ∧ h0.size ≤ b ∧ Keep h0 h [] ∧ Arv Z h b kB .long (2 : Int32) [(.long y0), (.long y1)] (.long (0 : Int64))) := by
  refine Con.of (own := "java/util/Arrays") (name := "copyOf") (plainFor_of_name pn_2) (fun m => ef_11n3c2 m a1 (2 : Int32)) rfl rfl ?_
  intro p e s m below meth c T F S cx st
  refine E_iloadN (pc' := 1) cx st d11_0 rfl rfl ?_
  refine E_aloadN (pc' := 2) cx st d11_1 rfl rfl rfl ?_
  refine E_arraylength (pc' := 3) cx st V0 d11_2 rfl ?_
  refine E_icmp_neY (pc' := 14) cx st d11_3 (by decide) (by decide) (by decide) ?_
  refine E_iloadN (pc' := 15) cx st d11_14 rfl rfl ?_
  refine E_newP (pc' := 17) (kc' := 1) (ks' := 2) (cap := 2) cx st (hw _ (List.mem_of_getElem? (i := 37) rfl)) d11_15 (by decide) (by decide) (by decide) (by decide) (by decide) (by decide) (by decide) rfl (ad := "[J") (by decide) ?_
  intro T1 h1 ca1 ar1 eq1 st1 E1 V1 X1
  have g_ar1 : n0 ≤ ar1 := by rw [eq1]; exact Z0
  have ne_a1_ar1 : a1 ≠ ar1 := by rw [eq1]; exact Nat.ne_of_lt V0.lt
  have sz_ar1 : h0.size ≤ ar1 := by rw [eq1]; exact (Keep.refl h0 []).1
  have Z1 : n0 ≤ h1.size := Nat.le_trans Z0 E1.1
  have K1 : Keep h0 h1 [] := (Keep.refl h0 []).ext E1
  have V1p : Arv Z h1 ar1 ca1 .long (2 : Int32) [(.long (0 : Int64)), (.long (0 : Int64))] (.long (0 : Int64)) := V1.pad (pad_rep [] (.long (0 : Int64)) 2)
  refine E_astoreN (pc' := 18) (L' := #[.val (.ref a1), .val (.int (2 : Int32)), .val (.ref ar1)]) cx st1 d11_17 rfl rfl rfl ?_
  refine E_aloadN (pc' := 19) cx st1 d11_18 rfl rfl rfl ?_
  refine E_iconst (pc' := 20) cx st1 (0 : Int32) d11_19 rfl rfl ?_
  refine E_aloadN (pc' := 21) cx st1 d11_20 rfl rfl rfl ?_
  refine E_iconst (pc' := 22) cx st1 (0 : Int32) d11_21 rfl rfl ?_
  refine E_aloadN (pc' := 23) cx st1 d11_22 rfl rfl rfl ?_
  have V2 : Arv Z h1 a1 kA .long (3 : Int32) [(.long y0), (.long y1), (.long y2)] (.long (0 : Int64)) := (V0.ext E1)
  refine E_arraylength (pc' := 24) cx st1 V2 d11_23 rfl ?_
  refine E_iloadN (pc' := 25) cx st1 d11_24 rfl rfl ?_
  refine E_callS (pc' := 28) (kc' := 1) (ks' := 2) (W := 4) (argsL := [(.int (3 : Int32)), (.int (2 : Int32))]) cx st1 [(.int (0 : Int32)), (.ref ar1), (.int (0 : Int32)), (.ref a1)] (rm13 l Z a0 hw (3 : Int32) (2 : Int32) h1 n0 Z1) (hw _ (List.mem_of_getElem? (i := 68) rfl)) (hw _ (List.mem_of_getElem? (i := 69) rfl)) (hw _ (List.mem_of_getElem? (i := 70) rfl)) (hw _ (List.mem_of_getElem? (i := 71) rfl)) d11_25 rfl rfl (lenOf pd_3 rfl) (Nat.le_of_eq rfl) (by decide) (by decide) (by decide) (by decide) (by decide) (by decide) (by decide) rfl ?_
  intro v3 T3 h3 st3 hq3
  obtain ⟨rfl, hh3⟩ := hq3
  rw [hh3] at st3
  rw [show (mnI (3 : Int32) (2 : Int32)) = (2 : Int32) from by decide]
  refine E_arraycopy (pc' := 31) (W := 0) (us := [(.long y0), (.long y1)]) cx st3 V2 V1p rfl (hw _ (List.mem_of_getElem? (i := 72) rfl)) (hw _ (List.mem_of_getElem? (i := 75) rfl)) (hw _ (List.mem_of_getElem? (i := 73) rfl)) (hw _ (List.mem_of_getElem? (i := 74) rfl)) (by decide) (by decide) (by decide) (by decide) (by decide) rfl (by decide) g_ar1 d11_28 rfl (by decide) (Nat.le_of_eq rfl) (by decide) rfl ?_
  intro T4 h4 st4 Kc4 VB4
  have Z4 : n0 ≤ h4.size := Nat.le_trans Z1 Kc4.1
  have KKc4' : Keep h0 h4 [] := K1.trans Kc4 (allS (Or.inr sz_ar1) all0)
  have VB4p : Arv Z h4 ar1 ca1 .long (2 : Int32) [(.long y0), (.long y1)] (.long (0 : Int64)) := VB4
  refine E_aloadN (pc' := 32) cx st4 d11_31 rfl rfl rfl ?_
  refine E_areturn (t := (.array .long)) cx st4 d11_32 rfl rfl rfl rfl (by decide) (by decide) ?_
  exact ⟨ar1, ca1, rfl, sz_ar1, KKc4', VB4p⟩
theorem ef_10n3c3 (m : MethodId) (x0 : Addr) (x1 : Int32) : entryFrame m #[(.ref x0), (.int x1)] 3 = mkF m 0 #[.val (.ref x0), .val (.int x1), .unset] [] := by first | (simp [entryFrame, mkF, argsToLocals, Value.category]; done) | rfl
set_option maxRecDepth 65536 in
set_option maxHeartbeats 40000000 in
theorem rm10n3c3 (l : Launch) (Z : State) (a0 : Array Value) (hw : ∀ d ∈ tables_1, d.before a0 Z = true) (a1 : Addr) (y0 : Int32) (y1 : Int32) (y2 : Int32) (h0 : Heap) (n0 : Nat) (Z0 : n0 ≤ h0.size) (kA : ClassId) (E0 : Exa Z h0 a1 "[I") (V0 : Arv Z h0 a1 kA .int (3 : Int32) [(.int y0), (.int y1), (.int y2)] (.int (0 : Int32))) :
    Con l Z (⟨"java/util/Arrays", "copyOf", "([II)[I"⟩ : MethodName) jdk_65_method_123_code 3 (some (.array .int)) ({ frames := 1, cells := 1, slots := 3, locals := 64 } : Room) #[(.ref a1), (.int (3 : Int32))] h0 n0 (fun v h => ∃ (b : Addr) (kB : ClassId), v = some (.ref b) ∧ h0.size ≤ b ∧ Keep h0 h [] ∧ Arv Z h b kB .int (3 : Int32) [(.int y0), (.int y1), (.int y2)] (.int (0 : Int32))) := by
  refine Con.of (own := "java/util/Arrays") (name := "copyOf") (plainFor_of_name pn_2) (fun m => ef_10n3c3 m a1 (3 : Int32)) rfl rfl ?_
  intro p e s m below meth c T F S cx st
  refine E_iloadN (pc' := 1) cx st d10_0 rfl rfl ?_
  refine E_aloadN (pc' := 2) cx st d10_1 rfl rfl rfl ?_
  refine E_arraylength (pc' := 3) cx st V0 d10_2 rfl ?_
  refine E_icmp_neN (pc' := 6) cx st d10_3 rfl (by decide) ?_
  refine E_aloadN (pc' := 7) cx st d10_6 rfl rfl rfl ?_
  refine E_clone (pc' := 10) (kc' := 1) (ks' := 3) (W := 0) (cap := 3) cx st V0 E0 (hw _ (List.mem_of_getElem? (i := 48) rfl)) (hw _ (List.mem_of_getElem? (i := 15) rfl)) (hw _ (List.mem_of_getElem? (i := 19) rfl)) (hw _ (List.mem_of_getElem? (i := 17) rfl)) (hw _ (List.mem_of_getElem? (i := 18) rfl)) (hw _ (List.mem_of_getElem? (i := 20) rfl)) d10_7 rfl (by decide) (Nat.le_of_eq rfl) (by decide) (by decide) (by decide) (by decide) (by decide) (by decide) rfl ?_
  intro T1 h1 ar1 eq1 st1 E1 V1 X1
  have g_ar1 : n0 ≤ ar1 := by rw [eq1]; exact Z0
  have ne_a1_ar1 : a1 ≠ ar1 := by rw [eq1]; exact Nat.ne_of_lt V0.lt
  have sz_ar1 : h0.size ≤ ar1 := by rw [eq1]; exact (Keep.refl h0 []).1
  have Z1 : n0 ≤ h1.size := Nat.le_trans Z0 E1.1
  have K1 : Keep h0 h1 [] := (Keep.refl h0 []).ext E1
  refine E_checkcast (pc' := 13) cx st1 (hw _ (List.mem_of_getElem? (i := 49) rfl)) (Ins.self X1) d10_10 rfl ?_
  intro T2 st2
  refine E_areturn (t := (.array .int)) cx st2 d10_13 rfl rfl rfl rfl (by decide) (by decide) ?_
  exact ⟨ar1, kA, rfl, sz_ar1, K1, V1⟩
theorem ef_11n3c3 (m : MethodId) (x0 : Addr) (x1 : Int32) : entryFrame m #[(.ref x0), (.int x1)] 3 = mkF m 0 #[.val (.ref x0), .val (.int x1), .unset] [] := by first | (simp [entryFrame, mkF, argsToLocals, Value.category]; done) | rfl
set_option maxRecDepth 65536 in
set_option maxHeartbeats 40000000 in
theorem rm11n3c3 (l : Launch) (Z : State) (a0 : Array Value) (hw : ∀ d ∈ tables_1, d.before a0 Z = true) (a1 : Addr) (y0 : Int64) (y1 : Int64) (y2 : Int64) (h0 : Heap) (n0 : Nat) (Z0 : n0 ≤ h0.size) (kA : ClassId) (E0 : Exa Z h0 a1 "[J") (V0 : Arv Z h0 a1 kA .long (3 : Int32) [(.long y0), (.long y1), (.long y2)] (.long (0 : Int64))) :
    Con l Z (⟨"java/util/Arrays", "copyOf", "([JI)[J"⟩ : MethodName) jdk_65_method_124_code 3 (some (.array .long)) ({ frames := 1, cells := 1, slots := 3, locals := 64 } : Room) #[(.ref a1), (.int (3 : Int32))] h0 n0 (fun v h => ∃ (b : Addr) (kB : ClassId), v = some (.ref b) ∧ h0.size ≤ b ∧ Keep h0 h [] ∧ Arv Z h b kB .long (3 : Int32) [(.long y0), (.long y1), (.long y2)] (.long (0 : Int64))) := by
  refine Con.of (own := "java/util/Arrays") (name := "copyOf") (plainFor_of_name pn_2) (fun m => ef_11n3c3 m a1 (3 : Int32)) rfl rfl ?_
  intro p e s m below meth c T F S cx st
  refine E_iloadN (pc' := 1) cx st d11_0 rfl rfl ?_
  refine E_aloadN (pc' := 2) cx st d11_1 rfl rfl rfl ?_
  refine E_arraylength (pc' := 3) cx st V0 d11_2 rfl ?_
  refine E_icmp_neN (pc' := 6) cx st d11_3 rfl (by decide) ?_
  refine E_aloadN (pc' := 7) cx st d11_6 rfl rfl rfl ?_
  refine E_clone (pc' := 10) (kc' := 1) (ks' := 3) (W := 0) (cap := 3) cx st V0 E0 (hw _ (List.mem_of_getElem? (i := 55) rfl)) (hw _ (List.mem_of_getElem? (i := 56) rfl)) (hw _ (List.mem_of_getElem? (i := 19) rfl)) (hw _ (List.mem_of_getElem? (i := 17) rfl)) (hw _ (List.mem_of_getElem? (i := 57) rfl)) (hw _ (List.mem_of_getElem? (i := 58) rfl)) d11_7 rfl (by decide) (Nat.le_of_eq rfl) (by decide) (by decide) (by decide) (by decide) (by decide) (by decide) rfl ?_
  intro T1 h1 ar1 eq1 st1 E1 V1 X1
  have g_ar1 : n0 ≤ ar1 := by rw [eq1]; exact Z0
  have ne_a1_ar1 : a1 ≠ ar1 := by rw [eq1]; exact Nat.ne_of_lt V0.lt
  have sz_ar1 : h0.size ≤ ar1 := by rw [eq1]; exact (Keep.refl h0 []).1
  have Z1 : n0 ≤ h1.size := Nat.le_trans Z0 E1.1
  have K1 : Keep h0 h1 [] := (Keep.refl h0 []).ext E1
  refine E_checkcast (pc' := 13) cx st1 (hw _ (List.mem_of_getElem? (i := 59) rfl)) (Ins.self X1) d11_10 rfl ?_
  intro T2 st2
  refine E_areturn (t := (.array .long)) cx st2 d11_13 rfl rfl rfl rfl (by decide) (by decide) ?_
  exact ⟨ar1, kA, rfl, sz_ar1, K1, V1⟩
theorem zor (b : Int64) : (0 : Int64) ||| b = b := by
  apply Int64.toBitVec_inj.mp; simp
theorem and_or_iff (v a b : Int64) : (v &&& (a ||| b) = a ||| b) ↔ (v &&& a = a ∧ v &&& b = b) := by
  simp only [← Int64.toBitVec_inj, Int64.toBitVec_and, Int64.toBitVec_or]
  generalize v.toBitVec = v; generalize a.toBitVec = a; generalize b.toBitVec = b
  constructor
  · intro h
    constructor
    · ext i hi
      have := congrArg (fun z => z.getLsbD i) h
      simp only [BitVec.getLsbD_and, BitVec.getLsbD_or] at this
      simp only [BitVec.getElem_and, ← BitVec.getLsbD_eq_getElem] at *
      cases hv : v.getLsbD i <;> cases ha : a.getLsbD i <;> simp_all
    · ext i hi
      have := congrArg (fun z => z.getLsbD i) h
      simp only [BitVec.getLsbD_and, BitVec.getLsbD_or] at this
      simp only [BitVec.getElem_and, ← BitVec.getLsbD_eq_getElem] at *
      cases hv : v.getLsbD i <;> cases ha : b.getLsbD i <;> simp_all
  · rintro ⟨h1, h2⟩
    ext i hi
    have e1 := congrArg (fun z => z.getLsbD i) h1
    have e2 := congrArg (fun z => z.getLsbD i) h2
    simp only [BitVec.getLsbD_and] at e1 e2
    simp only [BitVec.getElem_and, BitVec.getElem_or, ← BitVec.getLsbD_eq_getElem] at *
    cases hv : v.getLsbD i <;> simp_all
theorem and_or_zero (v a b : Int64) : (v &&& (a ||| b) = 0) ↔ (v &&& a = 0 ∧ v &&& b = 0) := by
  simp only [← Int64.toBitVec_inj, Int64.toBitVec_and, Int64.toBitVec_or]
  have z : (0 : Int64).toBitVec = 0#64 := rfl
  rw [z]
  generalize v.toBitVec = v; generalize a.toBitVec = a; generalize b.toBitVec = b
  constructor
  · intro h
    constructor
    · ext i hi
      have := congrArg (fun z => z.getLsbD i) h
      simp only [BitVec.getLsbD_and, BitVec.getLsbD_or] at this
      simp only [BitVec.getElem_and, ← BitVec.getLsbD_eq_getElem] at *
      cases hv : v.getLsbD i <;> cases ha : a.getLsbD i <;> simp_all
    · ext i hi
      have := congrArg (fun z => z.getLsbD i) h
      simp only [BitVec.getLsbD_and, BitVec.getLsbD_or] at this
      simp only [BitVec.getElem_and, ← BitVec.getLsbD_eq_getElem] at *
      cases hv : v.getLsbD i <;> cases ha : b.getLsbD i <;> simp_all
  · rintro ⟨h1, h2⟩
    ext i hi
    have e1 := congrArg (fun z => z.getLsbD i) h1
    have e2 := congrArg (fun z => z.getLsbD i) h2
    simp only [BitVec.getLsbD_and] at e1 e2
    simp only [BitVec.getElem_and, BitVec.getElem_or, ← BitVec.getLsbD_eq_getElem] at *
    cases hv : v.getLsbD i <;> simp_all
theorem and_or_eq (v a b : Int64) : decide (v &&& (a ||| b) = a ||| b) = (decide (v &&& a = a) && decide (v &&& b = b)) := by
  rw [← Bool.decide_and]; exact decide_eq_decide.mpr (and_or_iff v a b)
theorem and_or_z (v a b : Int64) : decide (v &&& (a ||| b) = 0) = (decide (v &&& a = 0) && decide (v &&& b = 0)) := by
  rw [← Bool.decide_and]; exact decide_eq_decide.mpr (and_or_zero v a b)
theorem wof_b {a : Int32} (h : BB a) : ¬ wof a < 0 ∧ wof a < 2 := by
  obtain ⟨h1, h2⟩ := h
  have e := c_iushr a 6 6 (by decide) (by decide)
  have k0 : (0 : Int32).toInt = 0 := rfl
  have k1 : (128 : Int32).toInt = 128 := rfl
  have k2 : (2 : Int32).toInt = 2 := rfl
  rw [Int32.lt_iff_toInt_lt] at h1 h2
  rw [k0] at h1; rw [k1] at h2
  have e' : (wof a).toInt = (a.toInt % 4294967296) / (2 ^ 6 : Nat) := e
  rw [Int32.lt_iff_toInt_lt, Int32.lt_iff_toInt_lt, k0, k2, e']
  omega
theorem bit_bv (a : Int32) : ∃ k, k < 64 ∧ (bitof a).toBitVec = 1#64 <<< k ∧ ∀ w : Int64, ((w.toUInt64 >>> ((a &&& (63 : Int32)) &&& 0x3f).toInt64.toUInt64).toInt64).toBitVec = w.toBitVec >>> k := by
  refine ⟨a.toBitVec.toNat % 64, Nat.mod_lt _ (by decide), ?_, ?_⟩
  · show ((1 : Int64).toBitVec <<< ((a &&& 0x3f).toInt64.toBitVec.smod 64)) = _
    rw [BitVec.shiftLeft_eq', (sm64 a _ rfl).1, smod64 _ (sm64 a _ rfl).2]; rfl
  · intro w
    have e : ((a &&& (63 : Int32)) &&& 0x3f) = a &&& 0x3f := by
      apply Int32.toBitVec_inj.mp
      simp only [Int32.toBitVec_and]
      rw [BitVec.and_assoc, BitVec.and_self]
    rw [e]
    show (w.toBitVec >>> ((a &&& 0x3f).toInt64.toBitVec % 64)) = _
    rw [BitVec.ushiftRight_eq', BitVec.toNat_umod, (sm64 a _ rfl).1, BitVec.toNat_ofNat]
    congr 1
    show a.toBitVec.toNat % 64 % 2 ^ 64 % 64 = _
    omega
theorem one_shl (k i : Nat) (hk : k < 64) (hi : i < 64) : (1#64 <<< k).getLsbD i = decide (i = k) := by
  simp only [BitVec.getLsbD_shiftLeft, BitVec.getLsbD_one]
  by_cases h : i = k
  · subst h; simp [hi]
  · have : i < k ∨ ¬ (i - k = 0) := by omega
    rcases this with q | q <;> simp [h, q] 
theorem bitcases (w : Int64) (a : Int32) : (((w.toUInt64 >>> ((a &&& (63 : Int32)) &&& 0x3f).toInt64.toUInt64).toInt64 &&& (1 : Int64)) = (0 : Int64) ∧ w &&& bitof a = 0 ∧ ¬ (w &&& bitof a = bitof a)) ∨ (¬ ((w.toUInt64 >>> ((a &&& (63 : Int32)) &&& 0x3f).toInt64.toUInt64).toInt64 &&& (1 : Int64)) = (0 : Int64) ∧ ¬ w &&& bitof a = 0 ∧ w &&& bitof a = bitof a) := by
  obtain ⟨k, hk, e1, e2⟩ := bit_bv a
  have z : (0 : Int64).toBitVec = 0#64 := rfl
  have o : (1 : Int64).toBitVec = 1#64 := rfl
  simp only [← Int64.toBitVec_inj, Int64.toBitVec_and, e2, e1, z, o]
  generalize w.toBitVec = v
  cases hb : v.getLsbD k
  · left
    refine ⟨?_, ?_, ?_⟩
    · apply BitVec.eq_of_getLsbD_eq
      intro i hi
      simp only [BitVec.getLsbD_and, BitVec.getLsbD_ushiftRight, BitVec.getLsbD_one, BitVec.getLsbD_zero]
      by_cases h : i = 0
      · subst h; simp [hb]
      · simp [h]
    · apply BitVec.eq_of_getLsbD_eq
      intro i hi
      simp only [BitVec.getLsbD_and, one_shl k i hk hi, BitVec.getLsbD_zero]
      by_cases h : i = k
      · subst h; simp [hb]
      · simp [h]
    · intro h
      have := congrArg (fun z => z.getLsbD k) h
      simp only [BitVec.getLsbD_and, one_shl k k hk hk, hb] at this
      simp at this
  · right
    refine ⟨?_, ?_, ?_⟩
    · intro h
      have := congrArg (fun z => z.getLsbD 0) h
      simp only [BitVec.getLsbD_and, BitVec.getLsbD_ushiftRight, BitVec.getLsbD_one, BitVec.getLsbD_zero] at this
      simp [hb] at this
    · intro h
      have := congrArg (fun z => z.getLsbD k) h
      simp only [BitVec.getLsbD_and, one_shl k k hk hk, hb, BitVec.getLsbD_zero] at this
      simp at this
    · apply BitVec.eq_of_getLsbD_eq
      intro i hi
      simp only [BitVec.getLsbD_and, one_shl k i hk hi]
      by_cases h : i = k
      · subst h; simp [hb]
      · simp [h]

theorem d2_0 : decode prog_3_method_1_code 0 = .ok (.aload_n 0, 1) := by decide +kernel
theorem d2_1 : decode prog_3_method_1_code 1 = .ok (.invokespecial 1, 3) := by decide +kernel
theorem d2_4 : decode prog_3_method_1_code 4 = .ok (.aload_n 1, 1) := by decide +kernel
theorem d2_5 : decode prog_3_method_1_code 5 = .ok (.invokevirtual 7, 3) := by decide +kernel
theorem d2_8 : decode prog_3_method_1_code 8 = .ok (.checkcast 8, 3) := by decide +kernel
theorem d2_11 : decode prog_3_method_1_code 11 = .ok (.astore_n 2, 1) := by decide +kernel
theorem d2_12 : decode prog_3_method_1_code 12 = .ok (.aload_n 2, 1) := by decide +kernel
theorem d2_13 : decode prog_3_method_1_code 13 = .ok (.invokestatic 13, 3) := by decide +kernel
theorem d2_16 : decode prog_3_method_1_code 16 = .ok (.aload_n 2, 1) := by decide +kernel
theorem d2_17 : decode prog_3_method_1_code 17 = .ok (.arraylength, 1) := by decide +kernel
theorem d2_18 : decode prog_3_method_1_code 18 = .ok (.newarray .int, 2) := by decide +kernel
theorem d2_20 : decode prog_3_method_1_code 20 = .ok (.astore_n 3, 1) := by decide +kernel
theorem d2_21 : decode prog_3_method_1_code 21 = .ok (.aload_n 2, 1) := by decide +kernel
theorem d2_22 : decode prog_3_method_1_code 22 = .ok (.arraylength, 1) := by decide +kernel
theorem d2_23 : decode prog_3_method_1_code 23 = .ok (.newarray .long, 2) := by decide +kernel
theorem d2_25 : decode prog_3_method_1_code 25 = .ok (.astore 4, 2) := by decide +kernel
theorem d2_27 : decode prog_3_method_1_code 27 = .ok (.iconst 0, 1) := by decide +kernel
theorem d2_28 : decode prog_3_method_1_code 28 = .ok (.istore 5, 2) := by decide +kernel
theorem d2_30 : decode prog_3_method_1_code 30 = .ok (.aload_n 2, 1) := by decide +kernel
theorem d2_31 : decode prog_3_method_1_code 31 = .ok (.astore 6, 2) := by decide +kernel
theorem d2_33 : decode prog_3_method_1_code 33 = .ok (.aload 6, 2) := by decide +kernel
theorem d2_35 : decode prog_3_method_1_code 35 = .ok (.arraylength, 1) := by decide +kernel
theorem d2_36 : decode prog_3_method_1_code 36 = .ok (.istore 7, 2) := by decide +kernel
theorem d2_38 : decode prog_3_method_1_code 38 = .ok (.iconst 0, 1) := by decide +kernel
theorem d2_39 : decode prog_3_method_1_code 39 = .ok (.istore 8, 2) := by decide +kernel
theorem d2_41 : decode prog_3_method_1_code 41 = .ok (.iload 8, 2) := by decide +kernel
theorem d2_43 : decode prog_3_method_1_code 43 = .ok (.iload 7, 2) := by decide +kernel
theorem d2_45 : decode prog_3_method_1_code 45 = .ok (.if_icmp .ge 63, 3) := by decide +kernel
theorem d2_48 : decode prog_3_method_1_code 48 = .ok (.aload 6, 2) := by decide +kernel
theorem d2_50 : decode prog_3_method_1_code 50 = .ok (.iload 8, 2) := by decide +kernel
theorem d2_52 : decode prog_3_method_1_code 52 = .ok (.iaload, 1) := by decide +kernel
theorem d2_53 : decode prog_3_method_1_code 53 = .ok (.istore 9, 2) := by decide +kernel
theorem d2_55 : decode prog_3_method_1_code 55 = .ok (.iload 9, 2) := by decide +kernel
theorem d2_57 : decode prog_3_method_1_code 57 = .ok (.invokestatic 19, 3) := by decide +kernel
theorem d2_60 : decode prog_3_method_1_code 60 = .ok (.istore 10, 2) := by decide +kernel
theorem d2_62 : decode prog_3_method_1_code 62 = .ok (.iload 5, 2) := by decide +kernel
theorem d2_64 : decode prog_3_method_1_code 64 = .ok (.ifCond .eq 14, 3) := by decide +kernel
theorem d2_67 : decode prog_3_method_1_code 67 = .ok (.aload_n 3, 1) := by decide +kernel
theorem d2_68 : decode prog_3_method_1_code 68 = .ok (.iload 5, 2) := by decide +kernel
theorem d2_70 : decode prog_3_method_1_code 70 = .ok (.iconst 1, 1) := by decide +kernel
theorem d2_71 : decode prog_3_method_1_code 71 = .ok (.isub, 1) := by decide +kernel
theorem d2_72 : decode prog_3_method_1_code 72 = .ok (.iaload, 1) := by decide +kernel
theorem d2_73 : decode prog_3_method_1_code 73 = .ok (.iload 10, 2) := by decide +kernel
theorem d2_75 : decode prog_3_method_1_code 75 = .ok (.if_icmp .eq 12, 3) := by decide +kernel
theorem d2_78 : decode prog_3_method_1_code 78 = .ok (.aload_n 3, 1) := by decide +kernel
theorem d2_79 : decode prog_3_method_1_code 79 = .ok (.iload 5, 2) := by decide +kernel
theorem d2_81 : decode prog_3_method_1_code 81 = .ok (.iinc 5 1, 3) := by decide +kernel
theorem d2_84 : decode prog_3_method_1_code 84 = .ok (.iload 10, 2) := by decide +kernel
theorem d2_86 : decode prog_3_method_1_code 86 = .ok (.iastore, 1) := by decide +kernel
theorem d2_87 : decode prog_3_method_1_code 87 = .ok (.aload 4, 2) := by decide +kernel
theorem d2_89 : decode prog_3_method_1_code 89 = .ok (.iload 5, 2) := by decide +kernel
theorem d2_91 : decode prog_3_method_1_code 91 = .ok (.iconst 1, 1) := by decide +kernel
theorem d2_92 : decode prog_3_method_1_code 92 = .ok (.isub, 1) := by decide +kernel
theorem d2_93 : decode prog_3_method_1_code 93 = .ok (.dup2, 1) := by decide +kernel
theorem d2_94 : decode prog_3_method_1_code 94 = .ok (.laload, 1) := by decide +kernel
theorem d2_95 : decode prog_3_method_1_code 95 = .ok (.iload 9, 2) := by decide +kernel
theorem d2_97 : decode prog_3_method_1_code 97 = .ok (.invokestatic 25, 3) := by decide +kernel
theorem d2_100 : decode prog_3_method_1_code 100 = .ok (.lor, 1) := by decide +kernel
theorem d2_101 : decode prog_3_method_1_code 101 = .ok (.lastore, 1) := by decide +kernel
theorem d2_102 : decode prog_3_method_1_code 102 = .ok (.iinc 8 1, 3) := by decide +kernel
theorem d2_105 : decode prog_3_method_1_code 105 = .ok (.goto (-64), 3) := by decide +kernel
theorem d2_108 : decode prog_3_method_1_code 108 = .ok (.aload_n 0, 1) := by decide +kernel
theorem d2_109 : decode prog_3_method_1_code 109 = .ok (.aload_n 3, 1) := by decide +kernel
theorem d2_110 : decode prog_3_method_1_code 110 = .ok (.iload 5, 2) := by decide +kernel
theorem d2_112 : decode prog_3_method_1_code 112 = .ok (.invokestatic 29, 3) := by decide +kernel
theorem d2_115 : decode prog_3_method_1_code 115 = .ok (.putfield 33, 3) := by decide +kernel
theorem d2_118 : decode prog_3_method_1_code 118 = .ok (.aload_n 0, 1) := by decide +kernel
theorem d2_119 : decode prog_3_method_1_code 119 = .ok (.aload 4, 2) := by decide +kernel
theorem d2_121 : decode prog_3_method_1_code 121 = .ok (.iload 5, 2) := by decide +kernel
theorem d2_123 : decode prog_3_method_1_code 123 = .ok (.invokestatic 38, 3) := by decide +kernel
theorem d2_126 : decode prog_3_method_1_code 126 = .ok (.putfield 41, 3) := by decide +kernel
theorem d2_129 : decode prog_3_method_1_code 129 = .ok (.return_, 1) := by decide +kernel
theorem pn_3 : plainName "com/example/flat_planner/flatplanner/AtomMask" = true := by first | (simp [plainName, overriddenIn]; done) | decide +kernel
theorem ef_2n0 (m : MethodId) (x0 : Addr) (x1 : Addr) : entryFrame m #[(.ref x0), (.ref x1)] 11 = mkF m 0 #[.val (.ref x0), .val (.ref x1), .unset, .unset, .unset, .unset, .unset, .unset, .unset, .unset, .unset] [] := by first | (simp [entryFrame, mkF, argsToLocals, Value.category]; done) | rfl
theorem pd_4 : parseMethodDescriptor "([I)V" = some ⟨[(.array .int)], none⟩ := by decide +kernel
theorem pd_5 : parseMethodDescriptor "([II)[I" = some ⟨[(.array .int), .int], some (.array .int)⟩ := by decide +kernel
theorem pd_6 : parseMethodDescriptor "([JI)[J" = some ⟨[(.array .long), .int], some (.array .long)⟩ := by decide +kernel
set_option maxRecDepth 65536 in
set_option maxHeartbeats 40000000 in
theorem rm2n0 (l : Launch) (Z : State) (a0 : Array Value) (hw : ∀ d ∈ tables_1, d.before a0 Z = true) (o1 : Addr) (a1 : Addr) (h0 : Heap) (n0 : Nat) (Z0 : n0 ≤ h0.size) (kA : ClassId) (g_o1 : n0 ≤ o1) (hne : o1 ≠ a1) (X0 : Exa Z h0 o1 "com/example/flat_planner/flatplanner/AtomMask") (Fw : Fld Z h0 o1 "com/example/flat_planner/flatplanner/AtomMask" "words" "[I" .null) (Fm : Fld Z h0 o1 "com/example/flat_planner/flatplanner/AtomMask" "masks" "[J" .null) (E0 : Exa Z h0 a1 "[I") (V0 : Arv Z h0 a1 kA .int (0 : Int32) [] (.int (0 : Int32))) :
    Con l Z (⟨"com/example/flat_planner/flatplanner/AtomMask", "<init>", "([I)V"⟩ : MethodName) prog_3_method_1_code 11 none ({ frames := 5, cells := 6, slots := 18, locals := 96 } : Room) #[(.ref o1), (.ref a1)] h0 n0 (fun v h => v = none ∧ Keep h0 h [o1] ∧ ∃ (bw bm : Addr) (kw km : ClassId) (ws : List Int32) (ms : List Int64), ms.length = ws.length ∧ ws.length ≤ 3 ∧ Fld Z h o1 "com/example/flat_planner/flatplanner/AtomMask" "words" "[I" (.ref bw) ∧ Fld Z h o1 "com/example/flat_planner/flatplanner/AtomMask" "masks" "[J" (.ref bm) ∧ Arv Z h bw kw .int (Int32.ofNat ws.length) (ws.map Value.int) (.int (0 : Int32)) ∧ Arv Z h bm km .long (Int32.ofNat ws.length) (ms.map Value.long) (.long (0 : Int64)) ∧ h0.size ≤ bw ∧ h0.size ≤ bm ∧ ((True) → ∀ w ∈ ws, ¬ w < 0 ∧ w < 2) ∧ (∀ t, allB t ws ms = true ↔ (True)) ∧ (∀ t, nonB t ws ms = true ↔ (True))) := by
  refine Con.of (own := "com/example/flat_planner/flatplanner/AtomMask") (name := "<init>") (plainFor_of_name pn_3) (fun m => ef_2n0 m o1 a1) rfl rfl ?_
  intro p e s m below meth c T F S cx st
  refine E_aloadN (pc' := 1) cx st d2_0 rfl rfl rfl ?_
  refine E_initO (pc' := 4) (W := 0) cx st (hw _ (List.mem_of_getElem? (i := 11) rfl)) (hw _ (List.mem_of_getElem? (i := 12) rfl)) (hw _ (List.mem_of_getElem? (i := 13) rfl)) d2_1 rfl (by decide) (Nat.le_of_eq rfl) (by decide) rfl ?_
  intro T1 st1
  refine E_aloadN (pc' := 5) cx st1 d2_4 rfl rfl rfl ?_
  refine E_clone (pc' := 8) (kc' := 1) (ks' := 0) (W := 0) (cap := 0) cx st1 V0 E0 (hw _ (List.mem_of_getElem? (i := 14) rfl)) (hw _ (List.mem_of_getElem? (i := 15) rfl)) (hw _ (List.mem_of_getElem? (i := 19) rfl)) (hw _ (List.mem_of_getElem? (i := 17) rfl)) (hw _ (List.mem_of_getElem? (i := 18) rfl)) (hw _ (List.mem_of_getElem? (i := 20) rfl)) d2_5 rfl (by decide) (Nat.le_of_eq rfl) (by decide) (by decide) (by decide) (by decide) (by decide) (by decide) rfl ?_
  intro T2 h2 ar2 eq2 st2 E2 V2 X2
  have g_ar2 : n0 ≤ ar2 := by rw [eq2]; exact Z0
  have ne_o1_ar2 : o1 ≠ ar2 := by rw [eq2]; exact Nat.ne_of_lt X0.lt
  have ne_a1_ar2 : a1 ≠ ar2 := by rw [eq2]; exact Nat.ne_of_lt V0.lt
  have sz_ar2 : h0.size ≤ ar2 := by rw [eq2]; exact (Keep.refl h0 [o1]).1
  have Z2 : n0 ≤ h2.size := Nat.le_trans Z0 E2.1
  have K2 : Keep h0 h2 [o1] := (Keep.refl h0 [o1]).ext E2
  refine E_checkcast (pc' := 11) cx st2 (hw _ (List.mem_of_getElem? (i := 21) rfl)) (Ins.self X2) d2_8 rfl ?_
  intro T3 st3
  refine E_astoreN (pc' := 12) (L' := #[.val (.ref o1), .val (.ref a1), .val (.ref ar2), .unset, .unset, .unset, .unset, .unset, .unset, .unset, .unset]) cx st3 d2_11 rfl rfl rfl ?_
  refine E_aloadN (pc' := 13) cx st3 d2_12 rfl rfl rfl ?_
  refine E_callS (pc' := 16) (kc' := 1) (ks' := 0) (W := 0) (argsL := [(.ref ar2)]) cx st3 [] (rm4n0 l Z a0 hw ar2  h2 n0 Z2 kA g_ar2 V2) (hw _ (List.mem_of_getElem? (i := 23) rfl)) (hw _ (List.mem_of_getElem? (i := 24) rfl)) (hw _ (List.mem_of_getElem? (i := 25) rfl)) (hw _ (List.mem_of_getElem? (i := 26) rfl)) d2_13 rfl rfl (lenOf pd_4 rfl) (Nat.le_of_eq rfl) (by decide) (by decide) (by decide) (by decide) (by decide) (by decide) (by decide) rfl ?_
  intro v4 T4 h4 st4 hq4
  obtain ⟨rfl, Ks, Vs, hperm⟩ := hq4
  have Z4 : n0 ≤ h4.size := Nat.le_trans Z2 Ks.1
  have KKs' : Keep h0 h4 [o1] := K2.trans Ks (allS (Or.inr sz_ar2) all0)
  refine E_aloadN (pc' := 17) cx st4 d2_16 rfl rfl rfl ?_
  refine E_arraylength (pc' := 18) cx st4 Vs d2_17 rfl ?_
  have X5 : Exa Z h4 o1 "com/example/flat_planner/flatplanner/AtomMask" := ((X0.ext E2).keep Ks)
  have V6 : Arv Z h4 a1 kA .int (0 : Int32) [] (.int (0 : Int32)) := ((V0.ext E2).keep Ks (ninS ne_a1_ar2 nin0))
  refine E_newP (pc' := 20) (kc' := 2) (ks' := 0) (cap := 0) cx st4 (hw _ (List.mem_of_getElem? (i := 0) rfl)) d2_18 (by decide) (by decide) (by decide) (by decide) (by decide) (by decide) (by decide) rfl (ad := "[I") (by decide) ?_
  intro T7 h7 ca7 ar7 eq7 st7 E7 V7 X7
  have g_ar7 : n0 ≤ ar7 := by rw [eq7]; exact Z4
  have ne_o1_ar7 : o1 ≠ ar7 := by rw [eq7]; exact Nat.ne_of_lt X5.lt
  have ne_a1_ar7 : a1 ≠ ar7 := by rw [eq7]; exact Nat.ne_of_lt V6.lt
  have ne_ar2_ar7 : ar2 ≠ ar7 := by rw [eq7]; exact Nat.ne_of_lt Vs.lt
  have sz_ar7 : h0.size ≤ ar7 := by rw [eq7]; exact KKs'.1
  have Z7 : n0 ≤ h7.size := Nat.le_trans Z4 E7.1
  have K7 : Keep h0 h7 [o1] := KKs'.ext E7
  have V7p : Arv Z h7 ar7 ca7 .int (0 : Int32) [] (.int (0 : Int32)) := V7.pad (pad_rep [] (.int (0 : Int32)) 0)
  refine E_astoreN (pc' := 21) (L' := #[.val (.ref o1), .val (.ref a1), .val (.ref ar2), .val (.ref ar7), .unset, .unset, .unset, .unset, .unset, .unset, .unset]) cx st7 d2_20 rfl rfl rfl ?_
  refine E_aloadN (pc' := 22) cx st7 d2_21 rfl rfl rfl ?_
  have V8 : Arv Z h7 ar2 kA .int (0 : Int32) [] (.int (0 : Int32)) := (Vs.ext E7)
  refine E_arraylength (pc' := 23) cx st7 V8 d2_22 rfl ?_
  have X9 : Exa Z h7 o1 "com/example/flat_planner/flatplanner/AtomMask" := (X5.ext E7)
  have V10 : Arv Z h7 a1 kA .int (0 : Int32) [] (.int (0 : Int32)) := (V6.ext E7)
  refine E_newP (pc' := 25) (kc' := 3) (ks' := 0) (cap := 0) cx st7 (hw _ (List.mem_of_getElem? (i := 37) rfl)) d2_23 (by decide) (by decide) (by decide) (by decide) (by decide) (by decide) (by decide) rfl (ad := "[J") (by decide) ?_
  intro T11 h11 ca11 ar11 eq11 st11 E11 V11 X11
  have g_ar11 : n0 ≤ ar11 := by rw [eq11]; exact Z7
  have ne_o1_ar11 : o1 ≠ ar11 := by rw [eq11]; exact Nat.ne_of_lt X9.lt
  have ne_a1_ar11 : a1 ≠ ar11 := by rw [eq11]; exact Nat.ne_of_lt V10.lt
  have ne_ar2_ar11 : ar2 ≠ ar11 := by rw [eq11]; exact Nat.ne_of_lt V8.lt
  have ne_ar7_ar11 : ar7 ≠ ar11 := by rw [eq11]; exact Nat.ne_of_lt V7p.lt
  have sz_ar11 : h0.size ≤ ar11 := by rw [eq11]; exact K7.1
  have Z11 : n0 ≤ h11.size := Nat.le_trans Z7 E11.1
  have K11 : Keep h0 h11 [o1] := K7.ext E11
  have V11p : Arv Z h11 ar11 ca11 .long (0 : Int32) [] (.long (0 : Int64)) := V11.pad (pad_rep [] (.long (0 : Int64)) 0)
  refine E_astore (pc' := 27) (L' := #[.val (.ref o1), .val (.ref a1), .val (.ref ar2), .val (.ref ar7), .val (.ref ar11), .unset, .unset, .unset, .unset, .unset, .unset]) cx st11 d2_25 rfl rfl rfl ?_
  refine E_iconst (pc' := 28) cx st11 (0 : Int32) d2_27 rfl rfl ?_
  refine E_istore (pc' := 30) (L' := #[.val (.ref o1), .val (.ref a1), .val (.ref ar2), .val (.ref ar7), .val (.ref ar11), .val (.int (0 : Int32)), .unset, .unset, .unset, .unset, .unset]) cx st11 d2_28 rfl rfl ?_
  refine E_aloadN (pc' := 31) cx st11 d2_30 rfl rfl rfl ?_
  refine E_astore (pc' := 33) (L' := #[.val (.ref o1), .val (.ref a1), .val (.ref ar2), .val (.ref ar7), .val (.ref ar11), .val (.int (0 : Int32)), .val (.ref ar2), .unset, .unset, .unset, .unset]) cx st11 d2_31 rfl rfl rfl ?_
  refine E_aload (pc' := 35) cx st11 d2_33 rfl rfl rfl ?_
  have V12 : Arv Z h11 ar2 kA .int (0 : Int32) [] (.int (0 : Int32)) := (V8.ext E11)
  refine E_arraylength (pc' := 36) cx st11 V12 d2_35 rfl ?_
  refine E_istore (pc' := 38) (L' := #[.val (.ref o1), .val (.ref a1), .val (.ref ar2), .val (.ref ar7), .val (.ref ar11), .val (.int (0 : Int32)), .val (.ref ar2), .val (.int (0 : Int32)), .unset, .unset, .unset]) cx st11 d2_36 rfl rfl ?_
  refine E_iconst (pc' := 39) cx st11 (0 : Int32) d2_38 rfl rfl ?_
  refine E_istore (pc' := 41) (L' := #[.val (.ref o1), .val (.ref a1), .val (.ref ar2), .val (.ref ar7), .val (.ref ar11), .val (.int (0 : Int32)), .val (.ref ar2), .val (.int (0 : Int32)), .val (.int (0 : Int32)), .unset, .unset]) cx st11 d2_39 rfl rfl ?_
  refine E_iload (pc' := 43) cx st11 d2_41 rfl rfl ?_
  refine E_iload (pc' := 45) cx st11 d2_43 rfl rfl ?_
  refine E_icmp_geY (pc' := 108) cx st11 d2_45 (by decide) (by decide) (by decide) ?_
  refine E_aloadN (pc' := 109) cx st11 d2_108 rfl rfl rfl ?_
  refine E_aloadN (pc' := 110) cx st11 d2_109 rfl rfl rfl ?_
  refine E_iload (pc' := 112) cx st11 d2_110 rfl rfl ?_
  have V13 : Arv Z h11 ar7 ca7 .int (0 : Int32) [] (.int (0 : Int32)) := (V7p.ext E11)
  have X14 : Exa Z h11 ar7 "[I" := (X7.ext E11)
  have X15 : Exa Z h11 o1 "com/example/flat_planner/flatplanner/AtomMask" := (X9.ext E11)
  have V16 : Arv Z h11 a1 kA .int (0 : Int32) [] (.int (0 : Int32)) := (V10.ext E11)
  refine E_callS (pc' := 115) (kc' := 4) (ks' := 0) (W := 1) (argsL := [(.ref ar7), (.int (0 : Int32))]) cx st11 [(.ref o1)] (rm10n0c0 l Z a0 hw ar7  h11 n0 Z11 ca7 X14 V13) (hw _ (List.mem_of_getElem? (i := 45) rfl)) (hw _ (List.mem_of_getElem? (i := 46) rfl)) (hw _ (List.mem_of_getElem? (i := 25) rfl)) (hw _ (List.mem_of_getElem? (i := 47) rfl)) d2_112 rfl rfl (lenOf pd_5 rfl) (Nat.le_of_eq rfl) (by decide) (by decide) (by decide) (by decide) (by decide) (by decide) (by decide) rfl ?_
  intro v17 T17 h17 st17 hq17
  obtain ⟨b17, kb17, rfl, sz17, Kq17, Vq17⟩ := hq17
  have sz_b17 : h0.size ≤ b17 := Nat.le_trans K11.1 sz17
  have Z17 : n0 ≤ h17.size := Nat.le_trans Z11 Kq17.1
  have KKq17' : Keep h0 h17 [o1] := K11.trans Kq17 all0
  have ne_o1_b17 : o1 ≠ b17 := Nat.ne_of_lt (Nat.lt_of_lt_of_le X15.lt sz17)
  have ne_a1_b17 : a1 ≠ b17 := Nat.ne_of_lt (Nat.lt_of_lt_of_le V16.lt sz17)
  have ne_ar2_b17 : ar2 ≠ b17 := Nat.ne_of_lt (Nat.lt_of_lt_of_le V12.lt sz17)
  have ne_ar7_b17 : ar7 ≠ b17 := Nat.ne_of_lt (Nat.lt_of_lt_of_le V13.lt sz17)
  have ne_ar11_b17 : ar11 ≠ b17 := Nat.ne_of_lt (Nat.lt_of_lt_of_le V11p.lt sz17)
  have G18 : Fld Z h17 o1 "com/example/flat_planner/flatplanner/AtomMask" "words" "[I" .null := (((((Fw.ext E2).keep Ks (ninS ne_o1_ar2 nin0)).ext E7).ext E11).keep Kq17 nin0)
  have X19 : Exa Z h17 o1 "com/example/flat_planner/flatplanner/AtomMask" := (X15.keep Kq17)
  refine E_putfield (pc' := 118) (ty := (.array .int)) cx st17 (hw _ (List.mem_of_getElem? (i := 50) rfl)) G18 X19 (Or.inr ⟨(hw _ (List.mem_of_getElem? (i := 51) rfl)), rfl, rfl⟩) (hw _ (List.mem_of_getElem? (i := 6) rfl)) (by decide) rfl rfl g_o1 d2_115 rfl ?_
  intro T20 h20 st20 W20
  have Z20 : n0 ≤ h20.size := Nat.le_trans Z17 (Keep.of_wr W20).1
  have K20 : Keep h0 h20 [o1] := KKq17'.wr W20 (Or.inl (List.mem_of_getElem? (i := 0) rfl))
  have G20w : Fld Z h20 o1 "com/example/flat_planner/flatplanner/AtomMask" "words" "[I" (.ref b17) := G18.same W20
  refine E_aloadN (pc' := 119) cx st20 d2_118 rfl rfl rfl ?_
  refine E_aload (pc' := 121) cx st20 d2_119 rfl rfl rfl ?_
  refine E_iload (pc' := 123) cx st20 d2_121 rfl rfl ?_
  have V21 : Arv Z h20 ar11 ca11 .long (0 : Int32) [] (.long (0 : Int64)) := ((V11p.keep Kq17 nin0).other W20 (Ne.symm ne_o1_ar11))
  have X22 : Exa Z h20 ar11 "[J" := ((X11.keep Kq17).wr W20)
  have X23 : Exa Z h20 o1 "com/example/flat_planner/flatplanner/AtomMask" := (X19.wr W20)
  have V24 : Arv Z h20 a1 kA .int (0 : Int32) [] (.int (0 : Int32)) := ((V16.keep Kq17 nin0).other W20 (Ne.symm hne))
  have V25 : Arv Z h20 ar2 kA .int (0 : Int32) [] (.int (0 : Int32)) := ((V12.keep Kq17 nin0).other W20 (Ne.symm ne_o1_ar2))
  have V26 : Arv Z h20 ar7 ca7 .int (0 : Int32) [] (.int (0 : Int32)) := ((V13.keep Kq17 nin0).other W20 (Ne.symm ne_o1_ar7))
  have V27 : Arv Z h20 b17 kb17 .int (0 : Int32) [] (.int (0 : Int32)) := (Vq17.other W20 (Ne.symm ne_o1_b17))
  refine E_callS (pc' := 126) (kc' := 5) (ks' := 0) (W := 1) (argsL := [(.ref ar11), (.int (0 : Int32))]) cx st20 [(.ref o1)] (rm11n0c0 l Z a0 hw ar11  h20 n0 Z20 ca11 X22 V21) (hw _ (List.mem_of_getElem? (i := 52) rfl)) (hw _ (List.mem_of_getElem? (i := 53) rfl)) (hw _ (List.mem_of_getElem? (i := 25) rfl)) (hw _ (List.mem_of_getElem? (i := 54) rfl)) d2_123 rfl rfl (lenOf pd_6 rfl) (Nat.le_of_eq rfl) (by decide) (by decide) (by decide) (by decide) (by decide) (by decide) (by decide) rfl ?_
  intro v28 T28 h28 st28 hq28
  obtain ⟨b28, kb28, rfl, sz28, Kq28, Vq28⟩ := hq28
  have sz_b28 : h0.size ≤ b28 := Nat.le_trans K20.1 sz28
  have Z28 : n0 ≤ h28.size := Nat.le_trans Z20 Kq28.1
  have KKq28' : Keep h0 h28 [o1] := K20.trans Kq28 all0
  have ne_o1_b28 : o1 ≠ b28 := Nat.ne_of_lt (Nat.lt_of_lt_of_le X23.lt sz28)
  have ne_a1_b28 : a1 ≠ b28 := Nat.ne_of_lt (Nat.lt_of_lt_of_le V24.lt sz28)
  have ne_ar2_b28 : ar2 ≠ b28 := Nat.ne_of_lt (Nat.lt_of_lt_of_le V25.lt sz28)
  have ne_ar7_b28 : ar7 ≠ b28 := Nat.ne_of_lt (Nat.lt_of_lt_of_le V26.lt sz28)
  have ne_ar11_b28 : ar11 ≠ b28 := Nat.ne_of_lt (Nat.lt_of_lt_of_le V21.lt sz28)
  have ne_b17_b28 : b17 ≠ b28 := Nat.ne_of_lt (Nat.lt_of_lt_of_le V27.lt sz28)
  have G29 : Fld Z h28 o1 "com/example/flat_planner/flatplanner/AtomMask" "masks" "[J" .null := (((((((Fm.ext E2).keep Ks (ninS ne_o1_ar2 nin0)).ext E7).ext E11).keep Kq17 nin0).other W20 (Or.inr (slot_ne (Or.inr (hw _ (List.mem_of_getElem? (i := 62) rfl))) (Or.inr (hw _ (List.mem_of_getElem? (i := 51) rfl))) (by decide) (t := (.array .long)) (t' := (.array .int)) (by decide) (by decide)))).keep Kq28 nin0)
  have X30 : Exa Z h28 o1 "com/example/flat_planner/flatplanner/AtomMask" := (X23.keep Kq28)
  refine E_putfield (pc' := 129) (ty := (.array .long)) cx st28 (hw _ (List.mem_of_getElem? (i := 61) rfl)) G29 X30 (Or.inr ⟨(hw _ (List.mem_of_getElem? (i := 62) rfl)), rfl, rfl⟩) (hw _ (List.mem_of_getElem? (i := 6) rfl)) (by decide) rfl rfl g_o1 d2_126 rfl ?_
  intro T31 h31 st31 W31
  have Z31 : n0 ≤ h31.size := Nat.le_trans Z28 (Keep.of_wr W31).1
  have K31 : Keep h0 h31 [o1] := KKq28'.wr W31 (Or.inl (List.mem_of_getElem? (i := 0) rfl))
  have G31w : Fld Z h31 o1 "com/example/flat_planner/flatplanner/AtomMask" "masks" "[J" (.ref b28) := G29.same W31
  have G32 : Fld Z h31 o1 "com/example/flat_planner/flatplanner/AtomMask" "words" "[I" (.ref b17) := ((G20w.keep Kq28 nin0).other W31 (Or.inr (slot_ne (Or.inr (hw _ (List.mem_of_getElem? (i := 51) rfl))) (Or.inr (hw _ (List.mem_of_getElem? (i := 62) rfl))) (by decide) (t := (.array .int)) (t' := (.array .long)) (by decide) (by decide))))
  have V33 : Arv Z h31 b17 kb17 .int (0 : Int32) [] (.int (0 : Int32)) := ((V27.keep Kq28 nin0).other W31 (Ne.symm ne_o1_b17))
  have V34 : Arv Z h31 b28 kb28 .long (0 : Int32) [] (.long (0 : Int64)) := (Vq28.other W31 (Ne.symm ne_o1_b28))
  refine E_return cx st31 d2_129 rfl (by decide) (by decide) ?_
  refine ⟨rfl, K31, b17, b28, kb17, kb28, [], [], rfl, (Nat.le_of_ble_eq_true rfl), G32, G31w, V33, V34, sz_b17, sz_b28, ?_, ?_, ?_⟩
  · intro _ w hw; cases hw
  · intro t; simp [allB]
  · intro t; simp [nonB]
theorem ef_2n1 (m : MethodId) (x0 : Addr) (x1 : Addr) : entryFrame m #[(.ref x0), (.ref x1)] 11 = mkF m 0 #[.val (.ref x0), .val (.ref x1), .unset, .unset, .unset, .unset, .unset, .unset, .unset, .unset, .unset] [] := by first | (simp [entryFrame, mkF, argsToLocals, Value.category]; done) | rfl
theorem pd_7 : parseMethodDescriptor "(I)I" = some ⟨[.int], some .int⟩ := by decide +kernel
theorem pd_8 : parseMethodDescriptor "(I)J" = some ⟨[.int], some .long⟩ := by decide +kernel
set_option maxRecDepth 65536 in
set_option maxHeartbeats 40000000 in
theorem rm2n1 (l : Launch) (Z : State) (a0 : Array Value) (hw : ∀ d ∈ tables_1, d.before a0 Z = true) (o1 : Addr) (a1 : Addr) (x0 : Int32) (h0 : Heap) (n0 : Nat) (Z0 : n0 ≤ h0.size) (kA : ClassId) (g_o1 : n0 ≤ o1) (hne : o1 ≠ a1) (X0 : Exa Z h0 o1 "com/example/flat_planner/flatplanner/AtomMask") (Fw : Fld Z h0 o1 "com/example/flat_planner/flatplanner/AtomMask" "words" "[I" .null) (Fm : Fld Z h0 o1 "com/example/flat_planner/flatplanner/AtomMask" "masks" "[J" .null) (E0 : Exa Z h0 a1 "[I") (V0 : Arv Z h0 a1 kA .int (1 : Int32) [(.int x0)] (.int (0 : Int32))) :
    Con l Z (⟨"com/example/flat_planner/flatplanner/AtomMask", "<init>", "([I)V"⟩ : MethodName) prog_3_method_1_code 11 none ({ frames := 5, cells := 6, slots := 18, locals := 96 } : Room) #[(.ref o1), (.ref a1)] h0 n0 (fun v h => v = none ∧ Keep h0 h [o1] ∧ ∃ (bw bm : Addr) (kw km : ClassId) (ws : List Int32) (ms : List Int64), ms.length = ws.length ∧ ws.length ≤ 3 ∧ Fld Z h o1 "com/example/flat_planner/flatplanner/AtomMask" "words" "[I" (.ref bw) ∧ Fld Z h o1 "com/example/flat_planner/flatplanner/AtomMask" "masks" "[J" (.ref bm) ∧ Arv Z h bw kw .int (Int32.ofNat ws.length) (ws.map Value.int) (.int (0 : Int32)) ∧ Arv Z h bm km .long (Int32.ofNat ws.length) (ms.map Value.long) (.long (0 : Int64)) ∧ h0.size ≤ bw ∧ h0.size ≤ bm ∧ ((BB x0) → ∀ w ∈ ws, ¬ w < 0 ∧ w < 2) ∧ (∀ t, allB t ws ms = true ↔ (AA t x0)) ∧ (∀ t, nonB t ws ms = true ↔ (NN t x0))) := by
  refine Con.of (own := "com/example/flat_planner/flatplanner/AtomMask") (name := "<init>") (plainFor_of_name pn_3) (fun m => ef_2n1 m o1 a1) rfl rfl ?_
  intro p e s m below meth c T F S cx st
  refine E_aloadN (pc' := 1) cx st d2_0 rfl rfl rfl ?_
  refine E_initO (pc' := 4) (W := 0) cx st (hw _ (List.mem_of_getElem? (i := 11) rfl)) (hw _ (List.mem_of_getElem? (i := 12) rfl)) (hw _ (List.mem_of_getElem? (i := 13) rfl)) d2_1 rfl (by decide) (Nat.le_of_eq rfl) (by decide) rfl ?_
  intro T1 st1
  refine E_aloadN (pc' := 5) cx st1 d2_4 rfl rfl rfl ?_
  refine E_clone (pc' := 8) (kc' := 1) (ks' := 1) (W := 0) (cap := 1) cx st1 V0 E0 (hw _ (List.mem_of_getElem? (i := 14) rfl)) (hw _ (List.mem_of_getElem? (i := 15) rfl)) (hw _ (List.mem_of_getElem? (i := 19) rfl)) (hw _ (List.mem_of_getElem? (i := 17) rfl)) (hw _ (List.mem_of_getElem? (i := 18) rfl)) (hw _ (List.mem_of_getElem? (i := 20) rfl)) d2_5 rfl (by decide) (Nat.le_of_eq rfl) (by decide) (by decide) (by decide) (by decide) (by decide) (by decide) rfl ?_
  intro T2 h2 ar2 eq2 st2 E2 V2 X2
  have g_ar2 : n0 ≤ ar2 := by rw [eq2]; exact Z0
  have ne_o1_ar2 : o1 ≠ ar2 := by rw [eq2]; exact Nat.ne_of_lt X0.lt
  have ne_a1_ar2 : a1 ≠ ar2 := by rw [eq2]; exact Nat.ne_of_lt V0.lt
  have sz_ar2 : h0.size ≤ ar2 := by rw [eq2]; exact (Keep.refl h0 [o1]).1
  have Z2 : n0 ≤ h2.size := Nat.le_trans Z0 E2.1
  have K2 : Keep h0 h2 [o1] := (Keep.refl h0 [o1]).ext E2
  refine E_checkcast (pc' := 11) cx st2 (hw _ (List.mem_of_getElem? (i := 21) rfl)) (Ins.self X2) d2_8 rfl ?_
  intro T3 st3
  refine E_astoreN (pc' := 12) (L' := #[.val (.ref o1), .val (.ref a1), .val (.ref ar2), .unset, .unset, .unset, .unset, .unset, .unset, .unset, .unset]) cx st3 d2_11 rfl rfl rfl ?_
  refine E_aloadN (pc' := 13) cx st3 d2_12 rfl rfl rfl ?_
  refine E_callS (pc' := 16) (kc' := 1) (ks' := 1) (W := 0) (argsL := [(.ref ar2)]) cx st3 [] (rm4n1 l Z a0 hw ar2 x0 h2 n0 Z2 kA g_ar2 V2) (hw _ (List.mem_of_getElem? (i := 23) rfl)) (hw _ (List.mem_of_getElem? (i := 24) rfl)) (hw _ (List.mem_of_getElem? (i := 25) rfl)) (hw _ (List.mem_of_getElem? (i := 26) rfl)) d2_13 rfl rfl (lenOf pd_4 rfl) (Nat.le_of_eq rfl) (by decide) (by decide) (by decide) (by decide) (by decide) (by decide) (by decide) rfl ?_
  intro v4 T4 h4 st4 hq4
  obtain ⟨rfl, Ks, s0, Vs, hperm⟩ := hq4
  have Z4 : n0 ≤ h4.size := Nat.le_trans Z2 Ks.1
  have KKs' : Keep h0 h4 [o1] := K2.trans Ks (allS (Or.inr sz_ar2) all0)
  refine E_aloadN (pc' := 17) cx st4 d2_16 rfl rfl rfl ?_
  refine E_arraylength (pc' := 18) cx st4 Vs d2_17 rfl ?_
  have X5 : Exa Z h4 o1 "com/example/flat_planner/flatplanner/AtomMask" := ((X0.ext E2).keep Ks)
  have V6 : Arv Z h4 a1 kA .int (1 : Int32) [(.int x0)] (.int (0 : Int32)) := ((V0.ext E2).keep Ks (ninS ne_a1_ar2 nin0))
  refine E_newP (pc' := 20) (kc' := 2) (ks' := 2) (cap := 1) cx st4 (hw _ (List.mem_of_getElem? (i := 0) rfl)) d2_18 (by decide) (by decide) (by decide) (by decide) (by decide) (by decide) (by decide) rfl (ad := "[I") (by decide) ?_
  intro T7 h7 ca7 ar7 eq7 st7 E7 V7 X7
  have g_ar7 : n0 ≤ ar7 := by rw [eq7]; exact Z4
  have ne_o1_ar7 : o1 ≠ ar7 := by rw [eq7]; exact Nat.ne_of_lt X5.lt
  have ne_a1_ar7 : a1 ≠ ar7 := by rw [eq7]; exact Nat.ne_of_lt V6.lt
  have ne_ar2_ar7 : ar2 ≠ ar7 := by rw [eq7]; exact Nat.ne_of_lt Vs.lt
  have sz_ar7 : h0.size ≤ ar7 := by rw [eq7]; exact KKs'.1
  have Z7 : n0 ≤ h7.size := Nat.le_trans Z4 E7.1
  have K7 : Keep h0 h7 [o1] := KKs'.ext E7
  have V7p : Arv Z h7 ar7 ca7 .int (1 : Int32) [(.int (0 : Int32))] (.int (0 : Int32)) := V7.pad (pad_rep [] (.int (0 : Int32)) 1)
  refine E_astoreN (pc' := 21) (L' := #[.val (.ref o1), .val (.ref a1), .val (.ref ar2), .val (.ref ar7), .unset, .unset, .unset, .unset, .unset, .unset, .unset]) cx st7 d2_20 rfl rfl rfl ?_
  refine E_aloadN (pc' := 22) cx st7 d2_21 rfl rfl rfl ?_
  have V8 : Arv Z h7 ar2 kA .int (1 : Int32) [(.int s0)] (.int (0 : Int32)) := (Vs.ext E7)
  refine E_arraylength (pc' := 23) cx st7 V8 d2_22 rfl ?_
  have X9 : Exa Z h7 o1 "com/example/flat_planner/flatplanner/AtomMask" := (X5.ext E7)
  have V10 : Arv Z h7 a1 kA .int (1 : Int32) [(.int x0)] (.int (0 : Int32)) := (V6.ext E7)
  refine E_newP (pc' := 25) (kc' := 3) (ks' := 3) (cap := 1) cx st7 (hw _ (List.mem_of_getElem? (i := 37) rfl)) d2_23 (by decide) (by decide) (by decide) (by decide) (by decide) (by decide) (by decide) rfl (ad := "[J") (by decide) ?_
  intro T11 h11 ca11 ar11 eq11 st11 E11 V11 X11
  have g_ar11 : n0 ≤ ar11 := by rw [eq11]; exact Z7
  have ne_o1_ar11 : o1 ≠ ar11 := by rw [eq11]; exact Nat.ne_of_lt X9.lt
  have ne_a1_ar11 : a1 ≠ ar11 := by rw [eq11]; exact Nat.ne_of_lt V10.lt
  have ne_ar2_ar11 : ar2 ≠ ar11 := by rw [eq11]; exact Nat.ne_of_lt V8.lt
  have ne_ar7_ar11 : ar7 ≠ ar11 := by rw [eq11]; exact Nat.ne_of_lt V7p.lt
  have sz_ar11 : h0.size ≤ ar11 := by rw [eq11]; exact K7.1
  have Z11 : n0 ≤ h11.size := Nat.le_trans Z7 E11.1
  have K11 : Keep h0 h11 [o1] := K7.ext E11
  have V11p : Arv Z h11 ar11 ca11 .long (1 : Int32) [(.long (0 : Int64))] (.long (0 : Int64)) := V11.pad (pad_rep [] (.long (0 : Int64)) 1)
  refine E_astore (pc' := 27) (L' := #[.val (.ref o1), .val (.ref a1), .val (.ref ar2), .val (.ref ar7), .val (.ref ar11), .unset, .unset, .unset, .unset, .unset, .unset]) cx st11 d2_25 rfl rfl rfl ?_
  refine E_iconst (pc' := 28) cx st11 (0 : Int32) d2_27 rfl rfl ?_
  refine E_istore (pc' := 30) (L' := #[.val (.ref o1), .val (.ref a1), .val (.ref ar2), .val (.ref ar7), .val (.ref ar11), .val (.int (0 : Int32)), .unset, .unset, .unset, .unset, .unset]) cx st11 d2_28 rfl rfl ?_
  refine E_aloadN (pc' := 31) cx st11 d2_30 rfl rfl rfl ?_
  refine E_astore (pc' := 33) (L' := #[.val (.ref o1), .val (.ref a1), .val (.ref ar2), .val (.ref ar7), .val (.ref ar11), .val (.int (0 : Int32)), .val (.ref ar2), .unset, .unset, .unset, .unset]) cx st11 d2_31 rfl rfl rfl ?_
  refine E_aload (pc' := 35) cx st11 d2_33 rfl rfl rfl ?_
  have V12 : Arv Z h11 ar2 kA .int (1 : Int32) [(.int s0)] (.int (0 : Int32)) := (V8.ext E11)
  refine E_arraylength (pc' := 36) cx st11 V12 d2_35 rfl ?_
  refine E_istore (pc' := 38) (L' := #[.val (.ref o1), .val (.ref a1), .val (.ref ar2), .val (.ref ar7), .val (.ref ar11), .val (.int (0 : Int32)), .val (.ref ar2), .val (.int (1 : Int32)), .unset, .unset, .unset]) cx st11 d2_36 rfl rfl ?_
  refine E_iconst (pc' := 39) cx st11 (0 : Int32) d2_38 rfl rfl ?_
  refine E_istore (pc' := 41) (L' := #[.val (.ref o1), .val (.ref a1), .val (.ref ar2), .val (.ref ar7), .val (.ref ar11), .val (.int (0 : Int32)), .val (.ref ar2), .val (.int (1 : Int32)), .val (.int (0 : Int32)), .unset, .unset]) cx st11 d2_39 rfl rfl ?_
  refine E_iload (pc' := 43) cx st11 d2_41 rfl rfl ?_
  refine E_iload (pc' := 45) cx st11 d2_43 rfl rfl ?_
  refine E_icmp_geN (pc' := 48) cx st11 d2_45 rfl (by decide) ?_
  refine E_aload (pc' := 50) cx st11 d2_48 rfl rfl rfl ?_
  refine E_iload (pc' := 52) cx st11 d2_50 rfl rfl ?_
  refine E_iaload (pc' := 53) (x := s0) cx st11 V12 ⟨by decide, by decide⟩ rfl d2_52 rfl ?_
  refine E_istore (pc' := 55) (L' := #[.val (.ref o1), .val (.ref a1), .val (.ref ar2), .val (.ref ar7), .val (.ref ar11), .val (.int (0 : Int32)), .val (.ref ar2), .val (.int (1 : Int32)), .val (.int (0 : Int32)), .val (.int s0), .unset]) cx st11 d2_53 rfl rfl ?_
  refine E_iload (pc' := 57) cx st11 d2_55 rfl rfl ?_
  refine E_callS (pc' := 60) (kc' := 3) (ks' := 3) (W := 0) (argsL := [(.int s0)]) cx st11 [] (rm8 l Z a0 hw s0 h11 n0 Z11) (hw _ (List.mem_of_getElem? (i := 38) rfl)) (hw _ (List.mem_of_getElem? (i := 39) rfl)) (hw _ (List.mem_of_getElem? (i := 40) rfl)) (hw _ (List.mem_of_getElem? (i := 41) rfl)) d2_57 rfl rfl (lenOf pd_7 rfl) (Nat.le_of_eq rfl) (by decide) (by decide) (by decide) (by decide) (by decide) (by decide) (by decide) rfl ?_
  intro v13 T13 h13 st13 hq13
  obtain ⟨rfl, hh13⟩ := hq13
  rw [hh13] at st13
  refine E_istore (pc' := 62) (L' := #[.val (.ref o1), .val (.ref a1), .val (.ref ar2), .val (.ref ar7), .val (.ref ar11), .val (.int (0 : Int32)), .val (.ref ar2), .val (.int (1 : Int32)), .val (.int (0 : Int32)), .val (.int s0), .val (.int (wof s0))]) cx st13 d2_60 rfl rfl ?_
  refine E_iload (pc' := 64) cx st13 d2_62 rfl rfl ?_
  refine E_if_eqY (pc' := 78) cx st13 d2_64 (by decide) (by decide) (by decide) ?_
  refine E_aloadN (pc' := 79) cx st13 d2_78 rfl rfl rfl ?_
  refine E_iload (pc' := 81) cx st13 d2_79 rfl rfl ?_
  refine E_iinc (pc' := 84) (L' := #[.val (.ref o1), .val (.ref a1), .val (.ref ar2), .val (.ref ar7), .val (.ref ar11), .val (.int (1 : Int32)), .val (.ref ar2), .val (.int (1 : Int32)), .val (.int (0 : Int32)), .val (.int s0), .val (.int (wof s0))]) cx st13 (1 : Int32) d2_81 rfl rfl rfl rfl ?_
  refine E_iload (pc' := 86) cx st13 d2_84 rfl rfl ?_
  have V14 : Arv Z h11 ar7 ca7 .int (1 : Int32) [(.int (0 : Int32))] (.int (0 : Int32)) := (V7p.ext E11)
  refine E_iastore (pc' := 87) (i := 0) cx st13 V14 ⟨by decide, by decide⟩ rfl (Nat.le_of_ble_eq_true rfl) g_ar7 d2_86 rfl ?_
  intro T15 h15 st15 W15 V15
  have Z15 : n0 ≤ h15.size := Nat.le_trans Z11 (Keep.of_wr W15).1
  have K15 : Keep h0 h15 [o1] := K11.wr W15 (Or.inr sz_ar7)
  have V15p : Arv Z h15 ar7 ca7 .int (1 : Int32) [(.int (wof s0))] (.int (0 : Int32)) := V15
  refine E_aload (pc' := 89) cx st15 d2_87 rfl rfl rfl ?_
  refine E_iload (pc' := 91) cx st15 d2_89 rfl rfl ?_
  refine E_iconst (pc' := 92) cx st15 (1 : Int32) d2_91 rfl rfl ?_
  refine E_isub (pc' := 93) cx st15 d2_92 rfl ?_
  rw [show ((1 : Int32) - (1 : Int32)) = (0 : Int32) from by decide]
  refine E_dup2 (pc' := 94) cx st15 d2_93 rfl rfl rfl ?_
  have V16 : Arv Z h15 ar11 ca11 .long (1 : Int32) [(.long (0 : Int64))] (.long (0 : Int64)) := (V11p.other W15 (Ne.symm ne_ar7_ar11))
  refine E_laload (pc' := 95) (x := (0 : Int64)) cx st15 V16 ⟨by decide, by decide⟩ rfl d2_94 rfl ?_
  refine E_iload (pc' := 97) cx st15 d2_95 rfl rfl ?_
  refine E_callS (pc' := 100) (kc' := 3) (ks' := 3) (W := 4) (argsL := [(.int s0)]) cx st15 [(.long (0 : Int64)), (.int (0 : Int32)), (.ref ar11)] (rm9 l Z a0 hw s0 h15 n0 Z15) (hw _ (List.mem_of_getElem? (i := 42) rfl)) (hw _ (List.mem_of_getElem? (i := 43) rfl)) (hw _ (List.mem_of_getElem? (i := 40) rfl)) (hw _ (List.mem_of_getElem? (i := 44) rfl)) d2_97 rfl rfl (lenOf pd_8 rfl) (Nat.le_of_eq rfl) (by decide) (by decide) (by decide) (by decide) (by decide) (by decide) (by decide) rfl ?_
  intro v17 T17 h17 st17 hq17
  obtain ⟨rfl, hh17⟩ := hq17
  rw [hh17] at st17
  refine E_lor (pc' := 101) cx st17 d2_100 rfl ?_
  refine E_lastore (pc' := 102) (i := 0) cx st17 V16 ⟨by decide, by decide⟩ rfl (Nat.le_of_ble_eq_true rfl) g_ar11 d2_101 rfl ?_
  intro T18 h18 st18 W18 V18
  have Z18 : n0 ≤ h18.size := Nat.le_trans Z15 (Keep.of_wr W18).1
  have K18 : Keep h0 h18 [o1] := K15.wr W18 (Or.inr sz_ar11)
  have V18p : Arv Z h18 ar11 ca11 .long (1 : Int32) [(.long ((0 : Int64) ||| (bitof s0)))] (.long (0 : Int64)) := V18
  refine E_iinc (pc' := 105) (L' := #[.val (.ref o1), .val (.ref a1), .val (.ref ar2), .val (.ref ar7), .val (.ref ar11), .val (.int (1 : Int32)), .val (.ref ar2), .val (.int (1 : Int32)), .val (.int (1 : Int32)), .val (.int s0), .val (.int (wof s0))]) cx st18 (1 : Int32) d2_102 rfl rfl rfl rfl ?_
  refine E_goto (pc' := 41) cx st18 d2_105 (by decide) (by decide) ?_
  refine E_iload (pc' := 43) cx st18 d2_41 rfl rfl ?_
  refine E_iload (pc' := 45) cx st18 d2_43 rfl rfl ?_
  refine E_icmp_geY (pc' := 108) cx st18 d2_45 (by decide) (by decide) (by decide) ?_
  refine E_aloadN (pc' := 109) cx st18 d2_108 rfl rfl rfl ?_
  refine E_aloadN (pc' := 110) cx st18 d2_109 rfl rfl rfl ?_
  refine E_iload (pc' := 112) cx st18 d2_110 rfl rfl ?_
  have V19 : Arv Z h18 ar7 ca7 .int (1 : Int32) [(.int (wof s0))] (.int (0 : Int32)) := (V15p.other W18 ne_ar7_ar11)
  have X20 : Exa Z h18 ar7 "[I" := (((X7.ext E11).wr W15).wr W18)
  have X21 : Exa Z h18 o1 "com/example/flat_planner/flatplanner/AtomMask" := (((X9.ext E11).wr W15).wr W18)
  have V22 : Arv Z h18 a1 kA .int (1 : Int32) [(.int x0)] (.int (0 : Int32)) := (((V10.ext E11).other W15 ne_a1_ar7).other W18 ne_a1_ar11)
  have V23 : Arv Z h18 ar2 kA .int (1 : Int32) [(.int s0)] (.int (0 : Int32)) := ((V12.other W15 ne_ar2_ar7).other W18 ne_ar2_ar11)
  refine E_callS (pc' := 115) (kc' := 4) (ks' := 4) (W := 1) (argsL := [(.ref ar7), (.int (1 : Int32))]) cx st18 [(.ref o1)] (rm10n1c1 l Z a0 hw ar7 (wof s0) h18 n0 Z18 ca7 X20 V19) (hw _ (List.mem_of_getElem? (i := 45) rfl)) (hw _ (List.mem_of_getElem? (i := 46) rfl)) (hw _ (List.mem_of_getElem? (i := 25) rfl)) (hw _ (List.mem_of_getElem? (i := 47) rfl)) d2_112 rfl rfl (lenOf pd_5 rfl) (Nat.le_of_eq rfl) (by decide) (by decide) (by decide) (by decide) (by decide) (by decide) (by decide) rfl ?_
  intro v24 T24 h24 st24 hq24
  obtain ⟨b24, kb24, rfl, sz24, Kq24, Vq24⟩ := hq24
  have sz_b24 : h0.size ≤ b24 := Nat.le_trans K18.1 sz24
  have Z24 : n0 ≤ h24.size := Nat.le_trans Z18 Kq24.1
  have KKq24' : Keep h0 h24 [o1] := K18.trans Kq24 all0
  have ne_o1_b24 : o1 ≠ b24 := Nat.ne_of_lt (Nat.lt_of_lt_of_le X21.lt sz24)
  have ne_a1_b24 : a1 ≠ b24 := Nat.ne_of_lt (Nat.lt_of_lt_of_le V22.lt sz24)
  have ne_ar2_b24 : ar2 ≠ b24 := Nat.ne_of_lt (Nat.lt_of_lt_of_le V23.lt sz24)
  have ne_ar7_b24 : ar7 ≠ b24 := Nat.ne_of_lt (Nat.lt_of_lt_of_le V19.lt sz24)
  have ne_ar11_b24 : ar11 ≠ b24 := Nat.ne_of_lt (Nat.lt_of_lt_of_le V18p.lt sz24)
  have G25 : Fld Z h24 o1 "com/example/flat_planner/flatplanner/AtomMask" "words" "[I" .null := (((((((Fw.ext E2).keep Ks (ninS ne_o1_ar2 nin0)).ext E7).ext E11).other W15 (Or.inl ne_o1_ar7)).other W18 (Or.inl ne_o1_ar11)).keep Kq24 nin0)
  have X26 : Exa Z h24 o1 "com/example/flat_planner/flatplanner/AtomMask" := (X21.keep Kq24)
  refine E_putfield (pc' := 118) (ty := (.array .int)) cx st24 (hw _ (List.mem_of_getElem? (i := 50) rfl)) G25 X26 (Or.inr ⟨(hw _ (List.mem_of_getElem? (i := 51) rfl)), rfl, rfl⟩) (hw _ (List.mem_of_getElem? (i := 6) rfl)) (by decide) rfl rfl g_o1 d2_115 rfl ?_
  intro T27 h27 st27 W27
  have Z27 : n0 ≤ h27.size := Nat.le_trans Z24 (Keep.of_wr W27).1
  have K27 : Keep h0 h27 [o1] := KKq24'.wr W27 (Or.inl (List.mem_of_getElem? (i := 0) rfl))
  have G27w : Fld Z h27 o1 "com/example/flat_planner/flatplanner/AtomMask" "words" "[I" (.ref b24) := G25.same W27
  refine E_aloadN (pc' := 119) cx st27 d2_118 rfl rfl rfl ?_
  refine E_aload (pc' := 121) cx st27 d2_119 rfl rfl rfl ?_
  refine E_iload (pc' := 123) cx st27 d2_121 rfl rfl ?_
  have V28 : Arv Z h27 ar11 ca11 .long (1 : Int32) [(.long ((0 : Int64) ||| (bitof s0)))] (.long (0 : Int64)) := ((V18p.keep Kq24 nin0).other W27 (Ne.symm ne_o1_ar11))
  have X29 : Exa Z h27 ar11 "[J" := ((((X11.wr W15).wr W18).keep Kq24).wr W27)
  have X30 : Exa Z h27 o1 "com/example/flat_planner/flatplanner/AtomMask" := (X26.wr W27)
  have V31 : Arv Z h27 a1 kA .int (1 : Int32) [(.int x0)] (.int (0 : Int32)) := ((V22.keep Kq24 nin0).other W27 (Ne.symm hne))
  have V32 : Arv Z h27 ar2 kA .int (1 : Int32) [(.int s0)] (.int (0 : Int32)) := ((V23.keep Kq24 nin0).other W27 (Ne.symm ne_o1_ar2))
  have V33 : Arv Z h27 ar7 ca7 .int (1 : Int32) [(.int (wof s0))] (.int (0 : Int32)) := ((V19.keep Kq24 nin0).other W27 (Ne.symm ne_o1_ar7))
  have V34 : Arv Z h27 b24 kb24 .int (1 : Int32) [(.int (wof s0))] (.int (0 : Int32)) := (Vq24.other W27 (Ne.symm ne_o1_b24))
  refine E_callS (pc' := 126) (kc' := 5) (ks' := 5) (W := 1) (argsL := [(.ref ar11), (.int (1 : Int32))]) cx st27 [(.ref o1)] (rm11n1c1 l Z a0 hw ar11 ((0 : Int64) ||| (bitof s0)) h27 n0 Z27 ca11 X29 V28) (hw _ (List.mem_of_getElem? (i := 52) rfl)) (hw _ (List.mem_of_getElem? (i := 53) rfl)) (hw _ (List.mem_of_getElem? (i := 25) rfl)) (hw _ (List.mem_of_getElem? (i := 54) rfl)) d2_123 rfl rfl (lenOf pd_6 rfl) (Nat.le_of_eq rfl) (by decide) (by decide) (by decide) (by decide) (by decide) (by decide) (by decide) rfl ?_
  intro v35 T35 h35 st35 hq35
  obtain ⟨b35, kb35, rfl, sz35, Kq35, Vq35⟩ := hq35
  have sz_b35 : h0.size ≤ b35 := Nat.le_trans K27.1 sz35
  have Z35 : n0 ≤ h35.size := Nat.le_trans Z27 Kq35.1
  have KKq35' : Keep h0 h35 [o1] := K27.trans Kq35 all0
  have ne_o1_b35 : o1 ≠ b35 := Nat.ne_of_lt (Nat.lt_of_lt_of_le X30.lt sz35)
  have ne_a1_b35 : a1 ≠ b35 := Nat.ne_of_lt (Nat.lt_of_lt_of_le V31.lt sz35)
  have ne_ar2_b35 : ar2 ≠ b35 := Nat.ne_of_lt (Nat.lt_of_lt_of_le V32.lt sz35)
  have ne_ar7_b35 : ar7 ≠ b35 := Nat.ne_of_lt (Nat.lt_of_lt_of_le V33.lt sz35)
  have ne_ar11_b35 : ar11 ≠ b35 := Nat.ne_of_lt (Nat.lt_of_lt_of_le V28.lt sz35)
  have ne_b24_b35 : b24 ≠ b35 := Nat.ne_of_lt (Nat.lt_of_lt_of_le V34.lt sz35)
  have G36 : Fld Z h35 o1 "com/example/flat_planner/flatplanner/AtomMask" "masks" "[J" .null := (((((((((Fm.ext E2).keep Ks (ninS ne_o1_ar2 nin0)).ext E7).ext E11).other W15 (Or.inl ne_o1_ar7)).other W18 (Or.inl ne_o1_ar11)).keep Kq24 nin0).other W27 (Or.inr (slot_ne (Or.inr (hw _ (List.mem_of_getElem? (i := 62) rfl))) (Or.inr (hw _ (List.mem_of_getElem? (i := 51) rfl))) (by decide) (t := (.array .long)) (t' := (.array .int)) (by decide) (by decide)))).keep Kq35 nin0)
  have X37 : Exa Z h35 o1 "com/example/flat_planner/flatplanner/AtomMask" := (X30.keep Kq35)
  refine E_putfield (pc' := 129) (ty := (.array .long)) cx st35 (hw _ (List.mem_of_getElem? (i := 61) rfl)) G36 X37 (Or.inr ⟨(hw _ (List.mem_of_getElem? (i := 62) rfl)), rfl, rfl⟩) (hw _ (List.mem_of_getElem? (i := 6) rfl)) (by decide) rfl rfl g_o1 d2_126 rfl ?_
  intro T38 h38 st38 W38
  have Z38 : n0 ≤ h38.size := Nat.le_trans Z35 (Keep.of_wr W38).1
  have K38 : Keep h0 h38 [o1] := KKq35'.wr W38 (Or.inl (List.mem_of_getElem? (i := 0) rfl))
  have G38w : Fld Z h38 o1 "com/example/flat_planner/flatplanner/AtomMask" "masks" "[J" (.ref b35) := G36.same W38
  have G39 : Fld Z h38 o1 "com/example/flat_planner/flatplanner/AtomMask" "words" "[I" (.ref b24) := ((G27w.keep Kq35 nin0).other W38 (Or.inr (slot_ne (Or.inr (hw _ (List.mem_of_getElem? (i := 51) rfl))) (Or.inr (hw _ (List.mem_of_getElem? (i := 62) rfl))) (by decide) (t := (.array .int)) (t' := (.array .long)) (by decide) (by decide))))
  have V40 : Arv Z h38 b24 kb24 .int (1 : Int32) [(.int (wof s0))] (.int (0 : Int32)) := ((V34.keep Kq35 nin0).other W38 (Ne.symm ne_o1_b24))
  have V41 : Arv Z h38 b35 kb35 .long (1 : Int32) [(.long ((0 : Int64) ||| (bitof s0)))] (.long (0 : Int64)) := (Vq35.other W38 (Ne.symm ne_o1_b35))
  refine E_return cx st38 d2_129 rfl (by decide) (by decide) ?_
  refine ⟨rfl, K38, b24, b35, kb24, kb35, [(wof s0)], [((0 : Int64) ||| (bitof s0))], rfl, (Nat.le_of_ble_eq_true rfl), G39, G38w, V40, V41, sz_b24, sz_b35, ?_, ?_, ?_⟩
  · intro hB w hw
    have hS := (hperm BB).mpr hB
    have hS0 := hS
    simp only [List.mem_cons, List.not_mem_nil, or_false] at hw
    rcases hw with rfl
    · exact wof_b hS0
  · intro t
    rw [← hperm (AA t)]
    simp only [allB, AA, zor, and_or_eq, Bool.and_eq_true, decide_eq_true_eq, Bool.and_true, and_true]
  · intro t
    rw [← hperm (NN t)]
    simp only [nonB, NN, zor, and_or_z, Bool.and_eq_true, decide_eq_true_eq, Bool.and_true, and_true]
theorem ef_2n2 (m : MethodId) (x0 : Addr) (x1 : Addr) : entryFrame m #[(.ref x0), (.ref x1)] 11 = mkF m 0 #[.val (.ref x0), .val (.ref x1), .unset, .unset, .unset, .unset, .unset, .unset, .unset, .unset, .unset] [] := by first | (simp [entryFrame, mkF, argsToLocals, Value.category]; done) | rfl
set_option maxRecDepth 65536 in
set_option maxHeartbeats 40000000 in
theorem rm2n2 (l : Launch) (Z : State) (a0 : Array Value) (hw : ∀ d ∈ tables_1, d.before a0 Z = true) (o1 : Addr) (a1 : Addr) (x0 : Int32) (x1 : Int32) (h0 : Heap) (n0 : Nat) (Z0 : n0 ≤ h0.size) (kA : ClassId) (g_o1 : n0 ≤ o1) (hne : o1 ≠ a1) (X0 : Exa Z h0 o1 "com/example/flat_planner/flatplanner/AtomMask") (Fw : Fld Z h0 o1 "com/example/flat_planner/flatplanner/AtomMask" "words" "[I" .null) (Fm : Fld Z h0 o1 "com/example/flat_planner/flatplanner/AtomMask" "masks" "[J" .null) (E0 : Exa Z h0 a1 "[I") (V0 : Arv Z h0 a1 kA .int (2 : Int32) [(.int x0), (.int x1)] (.int (0 : Int32))) :
    Con l Z (⟨"com/example/flat_planner/flatplanner/AtomMask", "<init>", "([I)V"⟩ : MethodName) prog_3_method_1_code 11 none ({ frames := 5, cells := 6, slots := 18, locals := 96 } : Room) #[(.ref o1), (.ref a1)] h0 n0 (fun v h => v = none ∧ Keep h0 h [o1] ∧ ∃ (bw bm : Addr) (kw km : ClassId) (ws : List Int32) (ms : List Int64), ms.length = ws.length ∧ ws.length ≤ 3 ∧ Fld Z h o1 "com/example/flat_planner/flatplanner/AtomMask" "words" "[I" (.ref bw) ∧ Fld Z h o1 "com/example/flat_planner/flatplanner/AtomMask" "masks" "[J" (.ref bm) ∧ Arv Z h bw kw .int (Int32.ofNat ws.length) (ws.map Value.int) (.int (0 : Int32)) ∧ Arv Z h bm km .long (Int32.ofNat ws.length) (ms.map Value.long) (.long (0 : Int64)) ∧ h0.size ≤ bw ∧ h0.size ≤ bm ∧ ((BB x0 ∧ BB x1) → ∀ w ∈ ws, ¬ w < 0 ∧ w < 2) ∧ (∀ t, allB t ws ms = true ↔ (AA t x0 ∧ AA t x1)) ∧ (∀ t, nonB t ws ms = true ↔ (NN t x0 ∧ NN t x1))) := by
  refine Con.of (own := "com/example/flat_planner/flatplanner/AtomMask") (name := "<init>") (plainFor_of_name pn_3) (fun m => ef_2n2 m o1 a1) rfl rfl ?_
  intro p e s m below meth c T F S cx st
  refine E_aloadN (pc' := 1) cx st d2_0 rfl rfl rfl ?_
  refine E_initO (pc' := 4) (W := 0) cx st (hw _ (List.mem_of_getElem? (i := 11) rfl)) (hw _ (List.mem_of_getElem? (i := 12) rfl)) (hw _ (List.mem_of_getElem? (i := 13) rfl)) d2_1 rfl (by decide) (Nat.le_of_eq rfl) (by decide) rfl ?_
  intro T1 st1
  refine E_aloadN (pc' := 5) cx st1 d2_4 rfl rfl rfl ?_
  refine E_clone (pc' := 8) (kc' := 1) (ks' := 2) (W := 0) (cap := 2) cx st1 V0 E0 (hw _ (List.mem_of_getElem? (i := 14) rfl)) (hw _ (List.mem_of_getElem? (i := 15) rfl)) (hw _ (List.mem_of_getElem? (i := 19) rfl)) (hw _ (List.mem_of_getElem? (i := 17) rfl)) (hw _ (List.mem_of_getElem? (i := 18) rfl)) (hw _ (List.mem_of_getElem? (i := 20) rfl)) d2_5 rfl (by decide) (Nat.le_of_eq rfl) (by decide) (by decide) (by decide) (by decide) (by decide) (by decide) rfl ?_
  intro T2 h2 ar2 eq2 st2 E2 V2 X2
  have g_ar2 : n0 ≤ ar2 := by rw [eq2]; exact Z0
  have ne_o1_ar2 : o1 ≠ ar2 := by rw [eq2]; exact Nat.ne_of_lt X0.lt
  have ne_a1_ar2 : a1 ≠ ar2 := by rw [eq2]; exact Nat.ne_of_lt V0.lt
  have sz_ar2 : h0.size ≤ ar2 := by rw [eq2]; exact (Keep.refl h0 [o1]).1
  have Z2 : n0 ≤ h2.size := Nat.le_trans Z0 E2.1
  have K2 : Keep h0 h2 [o1] := (Keep.refl h0 [o1]).ext E2
  refine E_checkcast (pc' := 11) cx st2 (hw _ (List.mem_of_getElem? (i := 21) rfl)) (Ins.self X2) d2_8 rfl ?_
  intro T3 st3
  refine E_astoreN (pc' := 12) (L' := #[.val (.ref o1), .val (.ref a1), .val (.ref ar2), .unset, .unset, .unset, .unset, .unset, .unset, .unset, .unset]) cx st3 d2_11 rfl rfl rfl ?_
  refine E_aloadN (pc' := 13) cx st3 d2_12 rfl rfl rfl ?_
  refine E_callS (pc' := 16) (kc' := 1) (ks' := 2) (W := 0) (argsL := [(.ref ar2)]) cx st3 [] (rm4n2 l Z a0 hw ar2 x0 x1 h2 n0 Z2 kA g_ar2 V2) (hw _ (List.mem_of_getElem? (i := 23) rfl)) (hw _ (List.mem_of_getElem? (i := 24) rfl)) (hw _ (List.mem_of_getElem? (i := 25) rfl)) (hw _ (List.mem_of_getElem? (i := 26) rfl)) d2_13 rfl rfl (lenOf pd_4 rfl) (Nat.le_of_eq rfl) (by decide) (by decide) (by decide) (by decide) (by decide) (by decide) (by decide) rfl ?_
  intro v4 T4 h4 st4 hq4
  obtain ⟨rfl, Ks, s0, s1, Vs, hperm⟩ := hq4
  have Z4 : n0 ≤ h4.size := Nat.le_trans Z2 Ks.1
  have KKs' : Keep h0 h4 [o1] := K2.trans Ks (allS (Or.inr sz_ar2) all0)
  refine E_aloadN (pc' := 17) cx st4 d2_16 rfl rfl rfl ?_
  refine E_arraylength (pc' := 18) cx st4 Vs d2_17 rfl ?_
  have X5 : Exa Z h4 o1 "com/example/flat_planner/flatplanner/AtomMask" := ((X0.ext E2).keep Ks)
  have V6 : Arv Z h4 a1 kA .int (2 : Int32) [(.int x0), (.int x1)] (.int (0 : Int32)) := ((V0.ext E2).keep Ks (ninS ne_a1_ar2 nin0))
  refine E_newP (pc' := 20) (kc' := 2) (ks' := 4) (cap := 2) cx st4 (hw _ (List.mem_of_getElem? (i := 0) rfl)) d2_18 (by decide) (by decide) (by decide) (by decide) (by decide) (by decide) (by decide) rfl (ad := "[I") (by decide) ?_
  intro T7 h7 ca7 ar7 eq7 st7 E7 V7 X7
  have g_ar7 : n0 ≤ ar7 := by rw [eq7]; exact Z4
  have ne_o1_ar7 : o1 ≠ ar7 := by rw [eq7]; exact Nat.ne_of_lt X5.lt
  have ne_a1_ar7 : a1 ≠ ar7 := by rw [eq7]; exact Nat.ne_of_lt V6.lt
  have ne_ar2_ar7 : ar2 ≠ ar7 := by rw [eq7]; exact Nat.ne_of_lt Vs.lt
  have sz_ar7 : h0.size ≤ ar7 := by rw [eq7]; exact KKs'.1
  have Z7 : n0 ≤ h7.size := Nat.le_trans Z4 E7.1
  have K7 : Keep h0 h7 [o1] := KKs'.ext E7
  have V7p : Arv Z h7 ar7 ca7 .int (2 : Int32) [(.int (0 : Int32)), (.int (0 : Int32))] (.int (0 : Int32)) := V7.pad (pad_rep [] (.int (0 : Int32)) 2)
  refine E_astoreN (pc' := 21) (L' := #[.val (.ref o1), .val (.ref a1), .val (.ref ar2), .val (.ref ar7), .unset, .unset, .unset, .unset, .unset, .unset, .unset]) cx st7 d2_20 rfl rfl rfl ?_
  refine E_aloadN (pc' := 22) cx st7 d2_21 rfl rfl rfl ?_
  have V8 : Arv Z h7 ar2 kA .int (2 : Int32) [(.int s0), (.int s1)] (.int (0 : Int32)) := (Vs.ext E7)
  refine E_arraylength (pc' := 23) cx st7 V8 d2_22 rfl ?_
  have X9 : Exa Z h7 o1 "com/example/flat_planner/flatplanner/AtomMask" := (X5.ext E7)
  have V10 : Arv Z h7 a1 kA .int (2 : Int32) [(.int x0), (.int x1)] (.int (0 : Int32)) := (V6.ext E7)
  refine E_newP (pc' := 25) (kc' := 3) (ks' := 6) (cap := 2) cx st7 (hw _ (List.mem_of_getElem? (i := 37) rfl)) d2_23 (by decide) (by decide) (by decide) (by decide) (by decide) (by decide) (by decide) rfl (ad := "[J") (by decide) ?_
  intro T11 h11 ca11 ar11 eq11 st11 E11 V11 X11
  have g_ar11 : n0 ≤ ar11 := by rw [eq11]; exact Z7
  have ne_o1_ar11 : o1 ≠ ar11 := by rw [eq11]; exact Nat.ne_of_lt X9.lt
  have ne_a1_ar11 : a1 ≠ ar11 := by rw [eq11]; exact Nat.ne_of_lt V10.lt
  have ne_ar2_ar11 : ar2 ≠ ar11 := by rw [eq11]; exact Nat.ne_of_lt V8.lt
  have ne_ar7_ar11 : ar7 ≠ ar11 := by rw [eq11]; exact Nat.ne_of_lt V7p.lt
  have sz_ar11 : h0.size ≤ ar11 := by rw [eq11]; exact K7.1
  have Z11 : n0 ≤ h11.size := Nat.le_trans Z7 E11.1
  have K11 : Keep h0 h11 [o1] := K7.ext E11
  have V11p : Arv Z h11 ar11 ca11 .long (2 : Int32) [(.long (0 : Int64)), (.long (0 : Int64))] (.long (0 : Int64)) := V11.pad (pad_rep [] (.long (0 : Int64)) 2)
  refine E_astore (pc' := 27) (L' := #[.val (.ref o1), .val (.ref a1), .val (.ref ar2), .val (.ref ar7), .val (.ref ar11), .unset, .unset, .unset, .unset, .unset, .unset]) cx st11 d2_25 rfl rfl rfl ?_
  refine E_iconst (pc' := 28) cx st11 (0 : Int32) d2_27 rfl rfl ?_
  refine E_istore (pc' := 30) (L' := #[.val (.ref o1), .val (.ref a1), .val (.ref ar2), .val (.ref ar7), .val (.ref ar11), .val (.int (0 : Int32)), .unset, .unset, .unset, .unset, .unset]) cx st11 d2_28 rfl rfl ?_
  refine E_aloadN (pc' := 31) cx st11 d2_30 rfl rfl rfl ?_
  refine E_astore (pc' := 33) (L' := #[.val (.ref o1), .val (.ref a1), .val (.ref ar2), .val (.ref ar7), .val (.ref ar11), .val (.int (0 : Int32)), .val (.ref ar2), .unset, .unset, .unset, .unset]) cx st11 d2_31 rfl rfl rfl ?_
  refine E_aload (pc' := 35) cx st11 d2_33 rfl rfl rfl ?_
  have V12 : Arv Z h11 ar2 kA .int (2 : Int32) [(.int s0), (.int s1)] (.int (0 : Int32)) := (V8.ext E11)
  refine E_arraylength (pc' := 36) cx st11 V12 d2_35 rfl ?_
  refine E_istore (pc' := 38) (L' := #[.val (.ref o1), .val (.ref a1), .val (.ref ar2), .val (.ref ar7), .val (.ref ar11), .val (.int (0 : Int32)), .val (.ref ar2), .val (.int (2 : Int32)), .unset, .unset, .unset]) cx st11 d2_36 rfl rfl ?_
  refine E_iconst (pc' := 39) cx st11 (0 : Int32) d2_38 rfl rfl ?_
  refine E_istore (pc' := 41) (L' := #[.val (.ref o1), .val (.ref a1), .val (.ref ar2), .val (.ref ar7), .val (.ref ar11), .val (.int (0 : Int32)), .val (.ref ar2), .val (.int (2 : Int32)), .val (.int (0 : Int32)), .unset, .unset]) cx st11 d2_39 rfl rfl ?_
  refine E_iload (pc' := 43) cx st11 d2_41 rfl rfl ?_
  refine E_iload (pc' := 45) cx st11 d2_43 rfl rfl ?_
  refine E_icmp_geN (pc' := 48) cx st11 d2_45 rfl (by decide) ?_
  refine E_aload (pc' := 50) cx st11 d2_48 rfl rfl rfl ?_
  refine E_iload (pc' := 52) cx st11 d2_50 rfl rfl ?_
  refine E_iaload (pc' := 53) (x := s0) cx st11 V12 ⟨by decide, by decide⟩ rfl d2_52 rfl ?_
  refine E_istore (pc' := 55) (L' := #[.val (.ref o1), .val (.ref a1), .val (.ref ar2), .val (.ref ar7), .val (.ref ar11), .val (.int (0 : Int32)), .val (.ref ar2), .val (.int (2 : Int32)), .val (.int (0 : Int32)), .val (.int s0), .unset]) cx st11 d2_53 rfl rfl ?_
  refine E_iload (pc' := 57) cx st11 d2_55 rfl rfl ?_
  refine E_callS (pc' := 60) (kc' := 3) (ks' := 6) (W := 0) (argsL := [(.int s0)]) cx st11 [] (rm8 l Z a0 hw s0 h11 n0 Z11) (hw _ (List.mem_of_getElem? (i := 38) rfl)) (hw _ (List.mem_of_getElem? (i := 39) rfl)) (hw _ (List.mem_of_getElem? (i := 40) rfl)) (hw _ (List.mem_of_getElem? (i := 41) rfl)) d2_57 rfl rfl (lenOf pd_7 rfl) (Nat.le_of_eq rfl) (by decide) (by decide) (by decide) (by decide) (by decide) (by decide) (by decide) rfl ?_
  intro v13 T13 h13 st13 hq13
  obtain ⟨rfl, hh13⟩ := hq13
  rw [hh13] at st13
  refine E_istore (pc' := 62) (L' := #[.val (.ref o1), .val (.ref a1), .val (.ref ar2), .val (.ref ar7), .val (.ref ar11), .val (.int (0 : Int32)), .val (.ref ar2), .val (.int (2 : Int32)), .val (.int (0 : Int32)), .val (.int s0), .val (.int (wof s0))]) cx st13 d2_60 rfl rfl ?_
  refine E_iload (pc' := 64) cx st13 d2_62 rfl rfl ?_
  refine E_if_eqY (pc' := 78) cx st13 d2_64 (by decide) (by decide) (by decide) ?_
  refine E_aloadN (pc' := 79) cx st13 d2_78 rfl rfl rfl ?_
  refine E_iload (pc' := 81) cx st13 d2_79 rfl rfl ?_
  refine E_iinc (pc' := 84) (L' := #[.val (.ref o1), .val (.ref a1), .val (.ref ar2), .val (.ref ar7), .val (.ref ar11), .val (.int (1 : Int32)), .val (.ref ar2), .val (.int (2 : Int32)), .val (.int (0 : Int32)), .val (.int s0), .val (.int (wof s0))]) cx st13 (1 : Int32) d2_81 rfl rfl rfl rfl ?_
  refine E_iload (pc' := 86) cx st13 d2_84 rfl rfl ?_
  have V14 : Arv Z h11 ar7 ca7 .int (2 : Int32) [(.int (0 : Int32)), (.int (0 : Int32))] (.int (0 : Int32)) := (V7p.ext E11)
  refine E_iastore (pc' := 87) (i := 0) cx st13 V14 ⟨by decide, by decide⟩ rfl (Nat.le_of_ble_eq_true rfl) g_ar7 d2_86 rfl ?_
  intro T15 h15 st15 W15 V15
  have Z15 : n0 ≤ h15.size := Nat.le_trans Z11 (Keep.of_wr W15).1
  have K15 : Keep h0 h15 [o1] := K11.wr W15 (Or.inr sz_ar7)
  have V15p : Arv Z h15 ar7 ca7 .int (2 : Int32) [(.int (wof s0)), (.int (0 : Int32))] (.int (0 : Int32)) := V15
  refine E_aload (pc' := 89) cx st15 d2_87 rfl rfl rfl ?_
  refine E_iload (pc' := 91) cx st15 d2_89 rfl rfl ?_
  refine E_iconst (pc' := 92) cx st15 (1 : Int32) d2_91 rfl rfl ?_
  refine E_isub (pc' := 93) cx st15 d2_92 rfl ?_
  rw [show ((1 : Int32) - (1 : Int32)) = (0 : Int32) from by decide]
  refine E_dup2 (pc' := 94) cx st15 d2_93 rfl rfl rfl ?_
  have V16 : Arv Z h15 ar11 ca11 .long (2 : Int32) [(.long (0 : Int64)), (.long (0 : Int64))] (.long (0 : Int64)) := (V11p.other W15 (Ne.symm ne_ar7_ar11))
  refine E_laload (pc' := 95) (x := (0 : Int64)) cx st15 V16 ⟨by decide, by decide⟩ rfl d2_94 rfl ?_
  refine E_iload (pc' := 97) cx st15 d2_95 rfl rfl ?_
  refine E_callS (pc' := 100) (kc' := 3) (ks' := 6) (W := 4) (argsL := [(.int s0)]) cx st15 [(.long (0 : Int64)), (.int (0 : Int32)), (.ref ar11)] (rm9 l Z a0 hw s0 h15 n0 Z15) (hw _ (List.mem_of_getElem? (i := 42) rfl)) (hw _ (List.mem_of_getElem? (i := 43) rfl)) (hw _ (List.mem_of_getElem? (i := 40) rfl)) (hw _ (List.mem_of_getElem? (i := 44) rfl)) d2_97 rfl rfl (lenOf pd_8 rfl) (Nat.le_of_eq rfl) (by decide) (by decide) (by decide) (by decide) (by decide) (by decide) (by decide) rfl ?_
  intro v17 T17 h17 st17 hq17
  obtain ⟨rfl, hh17⟩ := hq17
  rw [hh17] at st17
  refine E_lor (pc' := 101) cx st17 d2_100 rfl ?_
  refine E_lastore (pc' := 102) (i := 0) cx st17 V16 ⟨by decide, by decide⟩ rfl (Nat.le_of_ble_eq_true rfl) g_ar11 d2_101 rfl ?_
  intro T18 h18 st18 W18 V18
  have Z18 : n0 ≤ h18.size := Nat.le_trans Z15 (Keep.of_wr W18).1
  have K18 : Keep h0 h18 [o1] := K15.wr W18 (Or.inr sz_ar11)
  have V18p : Arv Z h18 ar11 ca11 .long (2 : Int32) [(.long ((0 : Int64) ||| (bitof s0))), (.long (0 : Int64))] (.long (0 : Int64)) := V18
  refine E_iinc (pc' := 105) (L' := #[.val (.ref o1), .val (.ref a1), .val (.ref ar2), .val (.ref ar7), .val (.ref ar11), .val (.int (1 : Int32)), .val (.ref ar2), .val (.int (2 : Int32)), .val (.int (1 : Int32)), .val (.int s0), .val (.int (wof s0))]) cx st18 (1 : Int32) d2_102 rfl rfl rfl rfl ?_
  refine E_goto (pc' := 41) cx st18 d2_105 (by decide) (by decide) ?_
  refine E_iload (pc' := 43) cx st18 d2_41 rfl rfl ?_
  refine E_iload (pc' := 45) cx st18 d2_43 rfl rfl ?_
  refine E_icmp_geN (pc' := 48) cx st18 d2_45 rfl (by decide) ?_
  refine E_aload (pc' := 50) cx st18 d2_48 rfl rfl rfl ?_
  refine E_iload (pc' := 52) cx st18 d2_50 rfl rfl ?_
  have V19 : Arv Z h18 ar2 kA .int (2 : Int32) [(.int s0), (.int s1)] (.int (0 : Int32)) := ((V12.other W15 ne_ar2_ar7).other W18 ne_ar2_ar11)
  refine E_iaload (pc' := 53) (x := s1) cx st18 V19 ⟨by decide, by decide⟩ rfl d2_52 rfl ?_
  refine E_istore (pc' := 55) (L' := #[.val (.ref o1), .val (.ref a1), .val (.ref ar2), .val (.ref ar7), .val (.ref ar11), .val (.int (1 : Int32)), .val (.ref ar2), .val (.int (2 : Int32)), .val (.int (1 : Int32)), .val (.int s1), .val (.int (wof s0))]) cx st18 d2_53 rfl rfl ?_
  refine E_iload (pc' := 57) cx st18 d2_55 rfl rfl ?_
  refine E_callS (pc' := 60) (kc' := 3) (ks' := 6) (W := 0) (argsL := [(.int s1)]) cx st18 [] (rm8 l Z a0 hw s1 h18 n0 Z18) (hw _ (List.mem_of_getElem? (i := 38) rfl)) (hw _ (List.mem_of_getElem? (i := 39) rfl)) (hw _ (List.mem_of_getElem? (i := 40) rfl)) (hw _ (List.mem_of_getElem? (i := 41) rfl)) d2_57 rfl rfl (lenOf pd_7 rfl) (Nat.le_of_eq rfl) (by decide) (by decide) (by decide) (by decide) (by decide) (by decide) (by decide) rfl ?_
  intro v20 T20 h20 st20 hq20
  obtain ⟨rfl, hh20⟩ := hq20
  rw [hh20] at st20
  refine E_istore (pc' := 62) (L' := #[.val (.ref o1), .val (.ref a1), .val (.ref ar2), .val (.ref ar7), .val (.ref ar11), .val (.int (1 : Int32)), .val (.ref ar2), .val (.int (2 : Int32)), .val (.int (1 : Int32)), .val (.int s1), .val (.int (wof s1))]) cx st20 d2_60 rfl rfl ?_
  refine E_iload (pc' := 64) cx st20 d2_62 rfl rfl ?_
  refine E_if_eqN (pc' := 67) cx st20 d2_64 rfl (by decide) ?_
  refine E_aloadN (pc' := 68) cx st20 d2_67 rfl rfl rfl ?_
  refine E_iload (pc' := 70) cx st20 d2_68 rfl rfl ?_
  refine E_iconst (pc' := 71) cx st20 (1 : Int32) d2_70 rfl rfl ?_
  refine E_isub (pc' := 72) cx st20 d2_71 rfl ?_
  rw [show ((1 : Int32) - (1 : Int32)) = (0 : Int32) from by decide]
  have V21 : Arv Z h18 ar7 ca7 .int (2 : Int32) [(.int (wof s0)), (.int (0 : Int32))] (.int (0 : Int32)) := (V15p.other W18 ne_ar7_ar11)
  refine E_iaload (pc' := 73) (x := (wof s0)) cx st20 V21 ⟨by decide, by decide⟩ rfl d2_72 rfl ?_
  refine E_iload (pc' := 75) cx st20 d2_73 rfl rfl ?_
  by_cases c22 : (wof s0) = (wof s1)
  · refine E_icmp_eqY (pc' := 87) cx st20 d2_75 (by decide) (by decide) c22 ?_
    refine E_aload (pc' := 89) cx st20 d2_87 rfl rfl rfl ?_
    refine E_iload (pc' := 91) cx st20 d2_89 rfl rfl ?_
    refine E_iconst (pc' := 92) cx st20 (1 : Int32) d2_91 rfl rfl ?_
    refine E_isub (pc' := 93) cx st20 d2_92 rfl ?_
    rw [show ((1 : Int32) - (1 : Int32)) = (0 : Int32) from by decide]
    refine E_dup2 (pc' := 94) cx st20 d2_93 rfl rfl rfl ?_
    refine E_laload (pc' := 95) (x := ((0 : Int64) ||| (bitof s0))) cx st20 V18p ⟨by decide, by decide⟩ rfl d2_94 rfl ?_
    refine E_iload (pc' := 97) cx st20 d2_95 rfl rfl ?_
    refine E_callS (pc' := 100) (kc' := 3) (ks' := 6) (W := 4) (argsL := [(.int s1)]) cx st20 [(.long ((0 : Int64) ||| (bitof s0))), (.int (0 : Int32)), (.ref ar11)] (rm9 l Z a0 hw s1 h18 n0 Z18) (hw _ (List.mem_of_getElem? (i := 42) rfl)) (hw _ (List.mem_of_getElem? (i := 43) rfl)) (hw _ (List.mem_of_getElem? (i := 40) rfl)) (hw _ (List.mem_of_getElem? (i := 44) rfl)) d2_97 rfl rfl (lenOf pd_8 rfl) (Nat.le_of_eq rfl) (by decide) (by decide) (by decide) (by decide) (by decide) (by decide) (by decide) rfl ?_
    intro v23 T23 h23 st23 hq23
    obtain ⟨rfl, hh23⟩ := hq23
    rw [hh23] at st23
    refine E_lor (pc' := 101) cx st23 d2_100 rfl ?_
    refine E_lastore (pc' := 102) (i := 0) cx st23 V18p ⟨by decide, by decide⟩ rfl (Nat.le_of_ble_eq_true rfl) g_ar11 d2_101 rfl ?_
    intro T24 h24 st24 W24 V24
    have Z24 : n0 ≤ h24.size := Nat.le_trans Z18 (Keep.of_wr W24).1
    have K24 : Keep h0 h24 [o1] := K18.wr W24 (Or.inr sz_ar11)
    have V24p : Arv Z h24 ar11 ca11 .long (2 : Int32) [(.long (((0 : Int64) ||| (bitof s0)) ||| (bitof s1))), (.long (0 : Int64))] (.long (0 : Int64)) := V24
    refine E_iinc (pc' := 105) (L' := #[.val (.ref o1), .val (.ref a1), .val (.ref ar2), .val (.ref ar7), .val (.ref ar11), .val (.int (1 : Int32)), .val (.ref ar2), .val (.int (2 : Int32)), .val (.int (2 : Int32)), .val (.int s1), .val (.int (wof s1))]) cx st24 (1 : Int32) d2_102 rfl rfl rfl rfl ?_
    refine E_goto (pc' := 41) cx st24 d2_105 (by decide) (by decide) ?_
    refine E_iload (pc' := 43) cx st24 d2_41 rfl rfl ?_
    refine E_iload (pc' := 45) cx st24 d2_43 rfl rfl ?_
    refine E_icmp_geY (pc' := 108) cx st24 d2_45 (by decide) (by decide) (by decide) ?_
    refine E_aloadN (pc' := 109) cx st24 d2_108 rfl rfl rfl ?_
    refine E_aloadN (pc' := 110) cx st24 d2_109 rfl rfl rfl ?_
    refine E_iload (pc' := 112) cx st24 d2_110 rfl rfl ?_
    have V25 : Arv Z h24 ar7 ca7 .int (2 : Int32) [(.int (wof s0)), (.int (0 : Int32))] (.int (0 : Int32)) := (V21.other W24 ne_ar7_ar11)
    have X26 : Exa Z h24 ar7 "[I" := ((((X7.ext E11).wr W15).wr W18).wr W24)
    have X27 : Exa Z h24 o1 "com/example/flat_planner/flatplanner/AtomMask" := ((((X9.ext E11).wr W15).wr W18).wr W24)
    have V28 : Arv Z h24 a1 kA .int (2 : Int32) [(.int x0), (.int x1)] (.int (0 : Int32)) := ((((V10.ext E11).other W15 ne_a1_ar7).other W18 ne_a1_ar11).other W24 ne_a1_ar11)
    have V29 : Arv Z h24 ar2 kA .int (2 : Int32) [(.int s0), (.int s1)] (.int (0 : Int32)) := (V19.other W24 ne_ar2_ar11)
    refine E_callS (pc' := 115) (kc' := 4) (ks' := 7) (W := 1) (argsL := [(.ref ar7), (.int (1 : Int32))]) cx st24 [(.ref o1)] (rm10n2c1 l Z a0 hw ar7 (wof s0) (0 : Int32) h24 n0 Z24 ca7 X26 V25) (hw _ (List.mem_of_getElem? (i := 45) rfl)) (hw _ (List.mem_of_getElem? (i := 46) rfl)) (hw _ (List.mem_of_getElem? (i := 25) rfl)) (hw _ (List.mem_of_getElem? (i := 47) rfl)) d2_112 rfl rfl (lenOf pd_5 rfl) (Nat.le_of_eq rfl) (by decide) (by decide) (by decide) (by decide) (by decide) (by decide) (by decide) rfl ?_
    intro v30 T30 h30 st30 hq30
    obtain ⟨b30, kb30, rfl, sz30, Kq30, Vq30⟩ := hq30
    have sz_b30 : h0.size ≤ b30 := Nat.le_trans K24.1 sz30
    have Z30 : n0 ≤ h30.size := Nat.le_trans Z24 Kq30.1
    have KKq30' : Keep h0 h30 [o1] := K24.trans Kq30 all0
    have ne_o1_b30 : o1 ≠ b30 := Nat.ne_of_lt (Nat.lt_of_lt_of_le X27.lt sz30)
    have ne_a1_b30 : a1 ≠ b30 := Nat.ne_of_lt (Nat.lt_of_lt_of_le V28.lt sz30)
    have ne_ar2_b30 : ar2 ≠ b30 := Nat.ne_of_lt (Nat.lt_of_lt_of_le V29.lt sz30)
    have ne_ar7_b30 : ar7 ≠ b30 := Nat.ne_of_lt (Nat.lt_of_lt_of_le V25.lt sz30)
    have ne_ar11_b30 : ar11 ≠ b30 := Nat.ne_of_lt (Nat.lt_of_lt_of_le V24p.lt sz30)
    have G31 : Fld Z h30 o1 "com/example/flat_planner/flatplanner/AtomMask" "words" "[I" .null := ((((((((Fw.ext E2).keep Ks (ninS ne_o1_ar2 nin0)).ext E7).ext E11).other W15 (Or.inl ne_o1_ar7)).other W18 (Or.inl ne_o1_ar11)).other W24 (Or.inl ne_o1_ar11)).keep Kq30 nin0)
    have X32 : Exa Z h30 o1 "com/example/flat_planner/flatplanner/AtomMask" := (X27.keep Kq30)
    refine E_putfield (pc' := 118) (ty := (.array .int)) cx st30 (hw _ (List.mem_of_getElem? (i := 50) rfl)) G31 X32 (Or.inr ⟨(hw _ (List.mem_of_getElem? (i := 51) rfl)), rfl, rfl⟩) (hw _ (List.mem_of_getElem? (i := 6) rfl)) (by decide) rfl rfl g_o1 d2_115 rfl ?_
    intro T33 h33 st33 W33
    have Z33 : n0 ≤ h33.size := Nat.le_trans Z30 (Keep.of_wr W33).1
    have K33 : Keep h0 h33 [o1] := KKq30'.wr W33 (Or.inl (List.mem_of_getElem? (i := 0) rfl))
    have G33w : Fld Z h33 o1 "com/example/flat_planner/flatplanner/AtomMask" "words" "[I" (.ref b30) := G31.same W33
    refine E_aloadN (pc' := 119) cx st33 d2_118 rfl rfl rfl ?_
    refine E_aload (pc' := 121) cx st33 d2_119 rfl rfl rfl ?_
    refine E_iload (pc' := 123) cx st33 d2_121 rfl rfl ?_
    have V34 : Arv Z h33 ar11 ca11 .long (2 : Int32) [(.long (((0 : Int64) ||| (bitof s0)) ||| (bitof s1))), (.long (0 : Int64))] (.long (0 : Int64)) := ((V24p.keep Kq30 nin0).other W33 (Ne.symm ne_o1_ar11))
    have X35 : Exa Z h33 ar11 "[J" := (((((X11.wr W15).wr W18).wr W24).keep Kq30).wr W33)
    have X36 : Exa Z h33 o1 "com/example/flat_planner/flatplanner/AtomMask" := (X32.wr W33)
    have V37 : Arv Z h33 a1 kA .int (2 : Int32) [(.int x0), (.int x1)] (.int (0 : Int32)) := ((V28.keep Kq30 nin0).other W33 (Ne.symm hne))
    have V38 : Arv Z h33 ar2 kA .int (2 : Int32) [(.int s0), (.int s1)] (.int (0 : Int32)) := ((V29.keep Kq30 nin0).other W33 (Ne.symm ne_o1_ar2))
    have V39 : Arv Z h33 ar7 ca7 .int (2 : Int32) [(.int (wof s0)), (.int (0 : Int32))] (.int (0 : Int32)) := ((V25.keep Kq30 nin0).other W33 (Ne.symm ne_o1_ar7))
    have V40 : Arv Z h33 b30 kb30 .int (1 : Int32) [(.int (wof s0))] (.int (0 : Int32)) := (Vq30.other W33 (Ne.symm ne_o1_b30))
    refine E_callS (pc' := 126) (kc' := 5) (ks' := 8) (W := 1) (argsL := [(.ref ar11), (.int (1 : Int32))]) cx st33 [(.ref o1)] (rm11n2c1 l Z a0 hw ar11 (((0 : Int64) ||| (bitof s0)) ||| (bitof s1)) (0 : Int64) h33 n0 Z33 ca11 X35 V34) (hw _ (List.mem_of_getElem? (i := 52) rfl)) (hw _ (List.mem_of_getElem? (i := 53) rfl)) (hw _ (List.mem_of_getElem? (i := 25) rfl)) (hw _ (List.mem_of_getElem? (i := 54) rfl)) d2_123 rfl rfl (lenOf pd_6 rfl) (Nat.le_of_eq rfl) (by decide) (by decide) (by decide) (by decide) (by decide) (by decide) (by decide) rfl ?_
    intro v41 T41 h41 st41 hq41
    obtain ⟨b41, kb41, rfl, sz41, Kq41, Vq41⟩ := hq41
    have sz_b41 : h0.size ≤ b41 := Nat.le_trans K33.1 sz41
    have Z41 : n0 ≤ h41.size := Nat.le_trans Z33 Kq41.1
    have KKq41' : Keep h0 h41 [o1] := K33.trans Kq41 all0
    have ne_o1_b41 : o1 ≠ b41 := Nat.ne_of_lt (Nat.lt_of_lt_of_le X36.lt sz41)
    have ne_a1_b41 : a1 ≠ b41 := Nat.ne_of_lt (Nat.lt_of_lt_of_le V37.lt sz41)
    have ne_ar2_b41 : ar2 ≠ b41 := Nat.ne_of_lt (Nat.lt_of_lt_of_le V38.lt sz41)
    have ne_ar7_b41 : ar7 ≠ b41 := Nat.ne_of_lt (Nat.lt_of_lt_of_le V39.lt sz41)
    have ne_ar11_b41 : ar11 ≠ b41 := Nat.ne_of_lt (Nat.lt_of_lt_of_le V34.lt sz41)
    have ne_b30_b41 : b30 ≠ b41 := Nat.ne_of_lt (Nat.lt_of_lt_of_le V40.lt sz41)
    have G42 : Fld Z h41 o1 "com/example/flat_planner/flatplanner/AtomMask" "masks" "[J" .null := ((((((((((Fm.ext E2).keep Ks (ninS ne_o1_ar2 nin0)).ext E7).ext E11).other W15 (Or.inl ne_o1_ar7)).other W18 (Or.inl ne_o1_ar11)).other W24 (Or.inl ne_o1_ar11)).keep Kq30 nin0).other W33 (Or.inr (slot_ne (Or.inr (hw _ (List.mem_of_getElem? (i := 62) rfl))) (Or.inr (hw _ (List.mem_of_getElem? (i := 51) rfl))) (by decide) (t := (.array .long)) (t' := (.array .int)) (by decide) (by decide)))).keep Kq41 nin0)
    have X43 : Exa Z h41 o1 "com/example/flat_planner/flatplanner/AtomMask" := (X36.keep Kq41)
    refine E_putfield (pc' := 129) (ty := (.array .long)) cx st41 (hw _ (List.mem_of_getElem? (i := 61) rfl)) G42 X43 (Or.inr ⟨(hw _ (List.mem_of_getElem? (i := 62) rfl)), rfl, rfl⟩) (hw _ (List.mem_of_getElem? (i := 6) rfl)) (by decide) rfl rfl g_o1 d2_126 rfl ?_
    intro T44 h44 st44 W44
    have Z44 : n0 ≤ h44.size := Nat.le_trans Z41 (Keep.of_wr W44).1
    have K44 : Keep h0 h44 [o1] := KKq41'.wr W44 (Or.inl (List.mem_of_getElem? (i := 0) rfl))
    have G44w : Fld Z h44 o1 "com/example/flat_planner/flatplanner/AtomMask" "masks" "[J" (.ref b41) := G42.same W44
    have G45 : Fld Z h44 o1 "com/example/flat_planner/flatplanner/AtomMask" "words" "[I" (.ref b30) := ((G33w.keep Kq41 nin0).other W44 (Or.inr (slot_ne (Or.inr (hw _ (List.mem_of_getElem? (i := 51) rfl))) (Or.inr (hw _ (List.mem_of_getElem? (i := 62) rfl))) (by decide) (t := (.array .int)) (t' := (.array .long)) (by decide) (by decide))))
    have V46 : Arv Z h44 b30 kb30 .int (1 : Int32) [(.int (wof s0))] (.int (0 : Int32)) := ((V40.keep Kq41 nin0).other W44 (Ne.symm ne_o1_b30))
    have V47 : Arv Z h44 b41 kb41 .long (1 : Int32) [(.long (((0 : Int64) ||| (bitof s0)) ||| (bitof s1)))] (.long (0 : Int64)) := (Vq41.other W44 (Ne.symm ne_o1_b41))
    refine E_return cx st44 d2_129 rfl (by decide) (by decide) ?_
    refine ⟨rfl, K44, b30, b41, kb30, kb41, [(wof s0)], [(((0 : Int64) ||| (bitof s0)) ||| (bitof s1))], rfl, (Nat.le_of_ble_eq_true rfl), G45, G44w, V46, V47, sz_b30, sz_b41, ?_, ?_, ?_⟩
    · intro hB w hw
      have hS := (hperm BB).mpr hB
      obtain ⟨hS0, hS1⟩ := hS
      simp only [List.mem_cons, List.not_mem_nil, or_false] at hw
      rcases hw with rfl
      · exact wof_b hS0
    · intro t
      rw [← hperm (AA t)]
      simp only [allB, AA, zor, and_or_eq, Bool.and_eq_true, decide_eq_true_eq, Bool.and_true, and_true, ← c22]
    · intro t
      rw [← hperm (NN t)]
      simp only [nonB, NN, zor, and_or_z, Bool.and_eq_true, decide_eq_true_eq, Bool.and_true, and_true, ← c22]
  · refine E_icmp_eqN (pc' := 78) cx st20 d2_75 rfl c22 ?_
    refine E_aloadN (pc' := 79) cx st20 d2_78 rfl rfl rfl ?_
    refine E_iload (pc' := 81) cx st20 d2_79 rfl rfl ?_
    refine E_iinc (pc' := 84) (L' := #[.val (.ref o1), .val (.ref a1), .val (.ref ar2), .val (.ref ar7), .val (.ref ar11), .val (.int (2 : Int32)), .val (.ref ar2), .val (.int (2 : Int32)), .val (.int (1 : Int32)), .val (.int s1), .val (.int (wof s1))]) cx st20 (1 : Int32) d2_81 rfl rfl rfl rfl ?_
    refine E_iload (pc' := 86) cx st20 d2_84 rfl rfl ?_
    refine E_iastore (pc' := 87) (i := 1) cx st20 V21 ⟨by decide, by decide⟩ rfl (Nat.le_of_ble_eq_true rfl) g_ar7 d2_86 rfl ?_
    intro T48 h48 st48 W48 V48
    have Z48 : n0 ≤ h48.size := Nat.le_trans Z18 (Keep.of_wr W48).1
    have K48 : Keep h0 h48 [o1] := K18.wr W48 (Or.inr sz_ar7)
    have V48p : Arv Z h48 ar7 ca7 .int (2 : Int32) [(.int (wof s0)), (.int (wof s1))] (.int (0 : Int32)) := V48
    refine E_aload (pc' := 89) cx st48 d2_87 rfl rfl rfl ?_
    refine E_iload (pc' := 91) cx st48 d2_89 rfl rfl ?_
    refine E_iconst (pc' := 92) cx st48 (1 : Int32) d2_91 rfl rfl ?_
    refine E_isub (pc' := 93) cx st48 d2_92 rfl ?_
    rw [show ((2 : Int32) - (1 : Int32)) = (1 : Int32) from by decide]
    refine E_dup2 (pc' := 94) cx st48 d2_93 rfl rfl rfl ?_
    have V49 : Arv Z h48 ar11 ca11 .long (2 : Int32) [(.long ((0 : Int64) ||| (bitof s0))), (.long (0 : Int64))] (.long (0 : Int64)) := (V18p.other W48 (Ne.symm ne_ar7_ar11))
    refine E_laload (pc' := 95) (x := (0 : Int64)) cx st48 V49 ⟨by decide, by decide⟩ rfl d2_94 rfl ?_
    refine E_iload (pc' := 97) cx st48 d2_95 rfl rfl ?_
    refine E_callS (pc' := 100) (kc' := 3) (ks' := 6) (W := 4) (argsL := [(.int s1)]) cx st48 [(.long (0 : Int64)), (.int (1 : Int32)), (.ref ar11)] (rm9 l Z a0 hw s1 h48 n0 Z48) (hw _ (List.mem_of_getElem? (i := 42) rfl)) (hw _ (List.mem_of_getElem? (i := 43) rfl)) (hw _ (List.mem_of_getElem? (i := 40) rfl)) (hw _ (List.mem_of_getElem? (i := 44) rfl)) d2_97 rfl rfl (lenOf pd_8 rfl) (Nat.le_of_eq rfl) (by decide) (by decide) (by decide) (by decide) (by decide) (by decide) (by decide) rfl ?_
    intro v50 T50 h50 st50 hq50
    obtain ⟨rfl, hh50⟩ := hq50
    rw [hh50] at st50
    refine E_lor (pc' := 101) cx st50 d2_100 rfl ?_
    refine E_lastore (pc' := 102) (i := 1) cx st50 V49 ⟨by decide, by decide⟩ rfl (Nat.le_of_ble_eq_true rfl) g_ar11 d2_101 rfl ?_
    intro T51 h51 st51 W51 V51
    have Z51 : n0 ≤ h51.size := Nat.le_trans Z48 (Keep.of_wr W51).1
    have K51 : Keep h0 h51 [o1] := K48.wr W51 (Or.inr sz_ar11)
    have V51p : Arv Z h51 ar11 ca11 .long (2 : Int32) [(.long ((0 : Int64) ||| (bitof s0))), (.long ((0 : Int64) ||| (bitof s1)))] (.long (0 : Int64)) := V51
    refine E_iinc (pc' := 105) (L' := #[.val (.ref o1), .val (.ref a1), .val (.ref ar2), .val (.ref ar7), .val (.ref ar11), .val (.int (2 : Int32)), .val (.ref ar2), .val (.int (2 : Int32)), .val (.int (2 : Int32)), .val (.int s1), .val (.int (wof s1))]) cx st51 (1 : Int32) d2_102 rfl rfl rfl rfl ?_
    refine E_goto (pc' := 41) cx st51 d2_105 (by decide) (by decide) ?_
    refine E_iload (pc' := 43) cx st51 d2_41 rfl rfl ?_
    refine E_iload (pc' := 45) cx st51 d2_43 rfl rfl ?_
    refine E_icmp_geY (pc' := 108) cx st51 d2_45 (by decide) (by decide) (by decide) ?_
    refine E_aloadN (pc' := 109) cx st51 d2_108 rfl rfl rfl ?_
    refine E_aloadN (pc' := 110) cx st51 d2_109 rfl rfl rfl ?_
    refine E_iload (pc' := 112) cx st51 d2_110 rfl rfl ?_
    have V52 : Arv Z h51 ar7 ca7 .int (2 : Int32) [(.int (wof s0)), (.int (wof s1))] (.int (0 : Int32)) := (V48p.other W51 ne_ar7_ar11)
    have X53 : Exa Z h51 ar7 "[I" := (((((X7.ext E11).wr W15).wr W18).wr W48).wr W51)
    have X54 : Exa Z h51 o1 "com/example/flat_planner/flatplanner/AtomMask" := (((((X9.ext E11).wr W15).wr W18).wr W48).wr W51)
    have V55 : Arv Z h51 a1 kA .int (2 : Int32) [(.int x0), (.int x1)] (.int (0 : Int32)) := (((((V10.ext E11).other W15 ne_a1_ar7).other W18 ne_a1_ar11).other W48 ne_a1_ar7).other W51 ne_a1_ar11)
    have V56 : Arv Z h51 ar2 kA .int (2 : Int32) [(.int s0), (.int s1)] (.int (0 : Int32)) := ((V19.other W48 ne_ar2_ar7).other W51 ne_ar2_ar11)
    refine E_callS (pc' := 115) (kc' := 4) (ks' := 8) (W := 1) (argsL := [(.ref ar7), (.int (2 : Int32))]) cx st51 [(.ref o1)] (rm10n2c2 l Z a0 hw ar7 (wof s0) (wof s1) h51 n0 Z51 ca7 X53 V52) (hw _ (List.mem_of_getElem? (i := 45) rfl)) (hw _ (List.mem_of_getElem? (i := 46) rfl)) (hw _ (List.mem_of_getElem? (i := 25) rfl)) (hw _ (List.mem_of_getElem? (i := 47) rfl)) d2_112 rfl rfl (lenOf pd_5 rfl) (Nat.le_of_eq rfl) (by decide) (by decide) (by decide) (by decide) (by decide) (by decide) (by decide) rfl ?_
    intro v57 T57 h57 st57 hq57
    obtain ⟨b57, kb57, rfl, sz57, Kq57, Vq57⟩ := hq57
    have sz_b57 : h0.size ≤ b57 := Nat.le_trans K51.1 sz57
    have Z57 : n0 ≤ h57.size := Nat.le_trans Z51 Kq57.1
    have KKq57' : Keep h0 h57 [o1] := K51.trans Kq57 all0
    have ne_o1_b57 : o1 ≠ b57 := Nat.ne_of_lt (Nat.lt_of_lt_of_le X54.lt sz57)
    have ne_a1_b57 : a1 ≠ b57 := Nat.ne_of_lt (Nat.lt_of_lt_of_le V55.lt sz57)
    have ne_ar2_b57 : ar2 ≠ b57 := Nat.ne_of_lt (Nat.lt_of_lt_of_le V56.lt sz57)
    have ne_ar7_b57 : ar7 ≠ b57 := Nat.ne_of_lt (Nat.lt_of_lt_of_le V52.lt sz57)
    have ne_ar11_b57 : ar11 ≠ b57 := Nat.ne_of_lt (Nat.lt_of_lt_of_le V51p.lt sz57)
    have G58 : Fld Z h57 o1 "com/example/flat_planner/flatplanner/AtomMask" "words" "[I" .null := (((((((((Fw.ext E2).keep Ks (ninS ne_o1_ar2 nin0)).ext E7).ext E11).other W15 (Or.inl ne_o1_ar7)).other W18 (Or.inl ne_o1_ar11)).other W48 (Or.inl ne_o1_ar7)).other W51 (Or.inl ne_o1_ar11)).keep Kq57 nin0)
    have X59 : Exa Z h57 o1 "com/example/flat_planner/flatplanner/AtomMask" := (X54.keep Kq57)
    refine E_putfield (pc' := 118) (ty := (.array .int)) cx st57 (hw _ (List.mem_of_getElem? (i := 50) rfl)) G58 X59 (Or.inr ⟨(hw _ (List.mem_of_getElem? (i := 51) rfl)), rfl, rfl⟩) (hw _ (List.mem_of_getElem? (i := 6) rfl)) (by decide) rfl rfl g_o1 d2_115 rfl ?_
    intro T60 h60 st60 W60
    have Z60 : n0 ≤ h60.size := Nat.le_trans Z57 (Keep.of_wr W60).1
    have K60 : Keep h0 h60 [o1] := KKq57'.wr W60 (Or.inl (List.mem_of_getElem? (i := 0) rfl))
    have G60w : Fld Z h60 o1 "com/example/flat_planner/flatplanner/AtomMask" "words" "[I" (.ref b57) := G58.same W60
    refine E_aloadN (pc' := 119) cx st60 d2_118 rfl rfl rfl ?_
    refine E_aload (pc' := 121) cx st60 d2_119 rfl rfl rfl ?_
    refine E_iload (pc' := 123) cx st60 d2_121 rfl rfl ?_
    have V61 : Arv Z h60 ar11 ca11 .long (2 : Int32) [(.long ((0 : Int64) ||| (bitof s0))), (.long ((0 : Int64) ||| (bitof s1)))] (.long (0 : Int64)) := ((V51p.keep Kq57 nin0).other W60 (Ne.symm ne_o1_ar11))
    have X62 : Exa Z h60 ar11 "[J" := ((((((X11.wr W15).wr W18).wr W48).wr W51).keep Kq57).wr W60)
    have X63 : Exa Z h60 o1 "com/example/flat_planner/flatplanner/AtomMask" := (X59.wr W60)
    have V64 : Arv Z h60 a1 kA .int (2 : Int32) [(.int x0), (.int x1)] (.int (0 : Int32)) := ((V55.keep Kq57 nin0).other W60 (Ne.symm hne))
    have V65 : Arv Z h60 ar2 kA .int (2 : Int32) [(.int s0), (.int s1)] (.int (0 : Int32)) := ((V56.keep Kq57 nin0).other W60 (Ne.symm ne_o1_ar2))
    have V66 : Arv Z h60 ar7 ca7 .int (2 : Int32) [(.int (wof s0)), (.int (wof s1))] (.int (0 : Int32)) := ((V52.keep Kq57 nin0).other W60 (Ne.symm ne_o1_ar7))
    have V67 : Arv Z h60 b57 kb57 .int (2 : Int32) [(.int (wof s0)), (.int (wof s1))] (.int (0 : Int32)) := (Vq57.other W60 (Ne.symm ne_o1_b57))
    refine E_callS (pc' := 126) (kc' := 5) (ks' := 10) (W := 1) (argsL := [(.ref ar11), (.int (2 : Int32))]) cx st60 [(.ref o1)] (rm11n2c2 l Z a0 hw ar11 ((0 : Int64) ||| (bitof s0)) ((0 : Int64) ||| (bitof s1)) h60 n0 Z60 ca11 X62 V61) (hw _ (List.mem_of_getElem? (i := 52) rfl)) (hw _ (List.mem_of_getElem? (i := 53) rfl)) (hw _ (List.mem_of_getElem? (i := 25) rfl)) (hw _ (List.mem_of_getElem? (i := 54) rfl)) d2_123 rfl rfl (lenOf pd_6 rfl) (Nat.le_of_eq rfl) (by decide) (by decide) (by decide) (by decide) (by decide) (by decide) (by decide) rfl ?_
    intro v68 T68 h68 st68 hq68
    obtain ⟨b68, kb68, rfl, sz68, Kq68, Vq68⟩ := hq68
    have sz_b68 : h0.size ≤ b68 := Nat.le_trans K60.1 sz68
    have Z68 : n0 ≤ h68.size := Nat.le_trans Z60 Kq68.1
    have KKq68' : Keep h0 h68 [o1] := K60.trans Kq68 all0
    have ne_o1_b68 : o1 ≠ b68 := Nat.ne_of_lt (Nat.lt_of_lt_of_le X63.lt sz68)
    have ne_a1_b68 : a1 ≠ b68 := Nat.ne_of_lt (Nat.lt_of_lt_of_le V64.lt sz68)
    have ne_ar2_b68 : ar2 ≠ b68 := Nat.ne_of_lt (Nat.lt_of_lt_of_le V65.lt sz68)
    have ne_ar7_b68 : ar7 ≠ b68 := Nat.ne_of_lt (Nat.lt_of_lt_of_le V66.lt sz68)
    have ne_ar11_b68 : ar11 ≠ b68 := Nat.ne_of_lt (Nat.lt_of_lt_of_le V61.lt sz68)
    have ne_b57_b68 : b57 ≠ b68 := Nat.ne_of_lt (Nat.lt_of_lt_of_le V67.lt sz68)
    have G69 : Fld Z h68 o1 "com/example/flat_planner/flatplanner/AtomMask" "masks" "[J" .null := (((((((((((Fm.ext E2).keep Ks (ninS ne_o1_ar2 nin0)).ext E7).ext E11).other W15 (Or.inl ne_o1_ar7)).other W18 (Or.inl ne_o1_ar11)).other W48 (Or.inl ne_o1_ar7)).other W51 (Or.inl ne_o1_ar11)).keep Kq57 nin0).other W60 (Or.inr (slot_ne (Or.inr (hw _ (List.mem_of_getElem? (i := 62) rfl))) (Or.inr (hw _ (List.mem_of_getElem? (i := 51) rfl))) (by decide) (t := (.array .long)) (t' := (.array .int)) (by decide) (by decide)))).keep Kq68 nin0)
    have X70 : Exa Z h68 o1 "com/example/flat_planner/flatplanner/AtomMask" := (X63.keep Kq68)
    refine E_putfield (pc' := 129) (ty := (.array .long)) cx st68 (hw _ (List.mem_of_getElem? (i := 61) rfl)) G69 X70 (Or.inr ⟨(hw _ (List.mem_of_getElem? (i := 62) rfl)), rfl, rfl⟩) (hw _ (List.mem_of_getElem? (i := 6) rfl)) (by decide) rfl rfl g_o1 d2_126 rfl ?_
    intro T71 h71 st71 W71
    have Z71 : n0 ≤ h71.size := Nat.le_trans Z68 (Keep.of_wr W71).1
    have K71 : Keep h0 h71 [o1] := KKq68'.wr W71 (Or.inl (List.mem_of_getElem? (i := 0) rfl))
    have G71w : Fld Z h71 o1 "com/example/flat_planner/flatplanner/AtomMask" "masks" "[J" (.ref b68) := G69.same W71
    have G72 : Fld Z h71 o1 "com/example/flat_planner/flatplanner/AtomMask" "words" "[I" (.ref b57) := ((G60w.keep Kq68 nin0).other W71 (Or.inr (slot_ne (Or.inr (hw _ (List.mem_of_getElem? (i := 51) rfl))) (Or.inr (hw _ (List.mem_of_getElem? (i := 62) rfl))) (by decide) (t := (.array .int)) (t' := (.array .long)) (by decide) (by decide))))
    have V73 : Arv Z h71 b57 kb57 .int (2 : Int32) [(.int (wof s0)), (.int (wof s1))] (.int (0 : Int32)) := ((V67.keep Kq68 nin0).other W71 (Ne.symm ne_o1_b57))
    have V74 : Arv Z h71 b68 kb68 .long (2 : Int32) [(.long ((0 : Int64) ||| (bitof s0))), (.long ((0 : Int64) ||| (bitof s1)))] (.long (0 : Int64)) := (Vq68.other W71 (Ne.symm ne_o1_b68))
    refine E_return cx st71 d2_129 rfl (by decide) (by decide) ?_
    refine ⟨rfl, K71, b57, b68, kb57, kb68, [(wof s0), (wof s1)], [((0 : Int64) ||| (bitof s0)), ((0 : Int64) ||| (bitof s1))], rfl, (Nat.le_of_ble_eq_true rfl), G72, G71w, V73, V74, sz_b57, sz_b68, ?_, ?_, ?_⟩
    · intro hB w hw
      have hS := (hperm BB).mpr hB
      obtain ⟨hS0, hS1⟩ := hS
      simp only [List.mem_cons, List.not_mem_nil, or_false] at hw
      rcases hw with rfl | rfl
      · exact wof_b hS0
      · exact wof_b hS1
    · intro t
      rw [← hperm (AA t)]
      simp only [allB, AA, zor, and_or_eq, Bool.and_eq_true, decide_eq_true_eq, Bool.and_true, and_true]
    · intro t
      rw [← hperm (NN t)]
      simp only [nonB, NN, zor, and_or_z, Bool.and_eq_true, decide_eq_true_eq, Bool.and_true, and_true]
theorem ef_2n3 (m : MethodId) (x0 : Addr) (x1 : Addr) : entryFrame m #[(.ref x0), (.ref x1)] 11 = mkF m 0 #[.val (.ref x0), .val (.ref x1), .unset, .unset, .unset, .unset, .unset, .unset, .unset, .unset, .unset] [] := by first | (simp [entryFrame, mkF, argsToLocals, Value.category]; done) | rfl
set_option maxRecDepth 65536 in
set_option maxHeartbeats 40000000 in
theorem rm2n3 (l : Launch) (Z : State) (a0 : Array Value) (hw : ∀ d ∈ tables_1, d.before a0 Z = true) (o1 : Addr) (a1 : Addr) (x0 : Int32) (x1 : Int32) (x2 : Int32) (h0 : Heap) (n0 : Nat) (Z0 : n0 ≤ h0.size) (kA : ClassId) (g_o1 : n0 ≤ o1) (hne : o1 ≠ a1) (X0 : Exa Z h0 o1 "com/example/flat_planner/flatplanner/AtomMask") (Fw : Fld Z h0 o1 "com/example/flat_planner/flatplanner/AtomMask" "words" "[I" .null) (Fm : Fld Z h0 o1 "com/example/flat_planner/flatplanner/AtomMask" "masks" "[J" .null) (E0 : Exa Z h0 a1 "[I") (V0 : Arv Z h0 a1 kA .int (3 : Int32) [(.int x0), (.int x1), (.int x2)] (.int (0 : Int32))) :
    Con l Z (⟨"com/example/flat_planner/flatplanner/AtomMask", "<init>", "([I)V"⟩ : MethodName) prog_3_method_1_code 11 none ({ frames := 5, cells := 6, slots := 18, locals := 96 } : Room) #[(.ref o1), (.ref a1)] h0 n0 (fun v h => v = none ∧ Keep h0 h [o1] ∧ ∃ (bw bm : Addr) (kw km : ClassId) (ws : List Int32) (ms : List Int64), ms.length = ws.length ∧ ws.length ≤ 3 ∧ Fld Z h o1 "com/example/flat_planner/flatplanner/AtomMask" "words" "[I" (.ref bw) ∧ Fld Z h o1 "com/example/flat_planner/flatplanner/AtomMask" "masks" "[J" (.ref bm) ∧ Arv Z h bw kw .int (Int32.ofNat ws.length) (ws.map Value.int) (.int (0 : Int32)) ∧ Arv Z h bm km .long (Int32.ofNat ws.length) (ms.map Value.long) (.long (0 : Int64)) ∧ h0.size ≤ bw ∧ h0.size ≤ bm ∧ ((BB x0 ∧ BB x1 ∧ BB x2) → ∀ w ∈ ws, ¬ w < 0 ∧ w < 2) ∧ (∀ t, allB t ws ms = true ↔ (AA t x0 ∧ AA t x1 ∧ AA t x2)) ∧ (∀ t, nonB t ws ms = true ↔ (NN t x0 ∧ NN t x1 ∧ NN t x2))) := by
  refine Con.of (own := "com/example/flat_planner/flatplanner/AtomMask") (name := "<init>") (plainFor_of_name pn_3) (fun m => ef_2n3 m o1 a1) rfl rfl ?_
  intro p e s m below meth c T F S cx st
  refine E_aloadN (pc' := 1) cx st d2_0 rfl rfl rfl ?_
  refine E_initO (pc' := 4) (W := 0) cx st (hw _ (List.mem_of_getElem? (i := 11) rfl)) (hw _ (List.mem_of_getElem? (i := 12) rfl)) (hw _ (List.mem_of_getElem? (i := 13) rfl)) d2_1 rfl (by decide) (Nat.le_of_eq rfl) (by decide) rfl ?_
  intro T1 st1
  refine E_aloadN (pc' := 5) cx st1 d2_4 rfl rfl rfl ?_
  refine E_clone (pc' := 8) (kc' := 1) (ks' := 3) (W := 0) (cap := 3) cx st1 V0 E0 (hw _ (List.mem_of_getElem? (i := 14) rfl)) (hw _ (List.mem_of_getElem? (i := 15) rfl)) (hw _ (List.mem_of_getElem? (i := 19) rfl)) (hw _ (List.mem_of_getElem? (i := 17) rfl)) (hw _ (List.mem_of_getElem? (i := 18) rfl)) (hw _ (List.mem_of_getElem? (i := 20) rfl)) d2_5 rfl (by decide) (Nat.le_of_eq rfl) (by decide) (by decide) (by decide) (by decide) (by decide) (by decide) rfl ?_
  intro T2 h2 ar2 eq2 st2 E2 V2 X2
  have g_ar2 : n0 ≤ ar2 := by rw [eq2]; exact Z0
  have ne_o1_ar2 : o1 ≠ ar2 := by rw [eq2]; exact Nat.ne_of_lt X0.lt
  have ne_a1_ar2 : a1 ≠ ar2 := by rw [eq2]; exact Nat.ne_of_lt V0.lt
  have sz_ar2 : h0.size ≤ ar2 := by rw [eq2]; exact (Keep.refl h0 [o1]).1
  have Z2 : n0 ≤ h2.size := Nat.le_trans Z0 E2.1
  have K2 : Keep h0 h2 [o1] := (Keep.refl h0 [o1]).ext E2
  refine E_checkcast (pc' := 11) cx st2 (hw _ (List.mem_of_getElem? (i := 21) rfl)) (Ins.self X2) d2_8 rfl ?_
  intro T3 st3
  refine E_astoreN (pc' := 12) (L' := #[.val (.ref o1), .val (.ref a1), .val (.ref ar2), .unset, .unset, .unset, .unset, .unset, .unset, .unset, .unset]) cx st3 d2_11 rfl rfl rfl ?_
  refine E_aloadN (pc' := 13) cx st3 d2_12 rfl rfl rfl ?_
  refine E_callS (pc' := 16) (kc' := 1) (ks' := 3) (W := 0) (argsL := [(.ref ar2)]) cx st3 [] (rm4n3 l Z a0 hw ar2 x0 x1 x2 h2 n0 Z2 kA g_ar2 V2) (hw _ (List.mem_of_getElem? (i := 23) rfl)) (hw _ (List.mem_of_getElem? (i := 24) rfl)) (hw _ (List.mem_of_getElem? (i := 25) rfl)) (hw _ (List.mem_of_getElem? (i := 26) rfl)) d2_13 rfl rfl (lenOf pd_4 rfl) (Nat.le_of_eq rfl) (by decide) (by decide) (by decide) (by decide) (by decide) (by decide) (by decide) rfl ?_
  intro v4 T4 h4 st4 hq4
  obtain ⟨rfl, Ks, s0, s1, s2, Vs, hperm⟩ := hq4
  have Z4 : n0 ≤ h4.size := Nat.le_trans Z2 Ks.1
  have KKs' : Keep h0 h4 [o1] := K2.trans Ks (allS (Or.inr sz_ar2) all0)
  refine E_aloadN (pc' := 17) cx st4 d2_16 rfl rfl rfl ?_
  refine E_arraylength (pc' := 18) cx st4 Vs d2_17 rfl ?_
  have X5 : Exa Z h4 o1 "com/example/flat_planner/flatplanner/AtomMask" := ((X0.ext E2).keep Ks)
  have V6 : Arv Z h4 a1 kA .int (3 : Int32) [(.int x0), (.int x1), (.int x2)] (.int (0 : Int32)) := ((V0.ext E2).keep Ks (ninS ne_a1_ar2 nin0))
  refine E_newP (pc' := 20) (kc' := 2) (ks' := 6) (cap := 3) cx st4 (hw _ (List.mem_of_getElem? (i := 0) rfl)) d2_18 (by decide) (by decide) (by decide) (by decide) (by decide) (by decide) (by decide) rfl (ad := "[I") (by decide) ?_
  intro T7 h7 ca7 ar7 eq7 st7 E7 V7 X7
  have g_ar7 : n0 ≤ ar7 := by rw [eq7]; exact Z4
  have ne_o1_ar7 : o1 ≠ ar7 := by rw [eq7]; exact Nat.ne_of_lt X5.lt
  have ne_a1_ar7 : a1 ≠ ar7 := by rw [eq7]; exact Nat.ne_of_lt V6.lt
  have ne_ar2_ar7 : ar2 ≠ ar7 := by rw [eq7]; exact Nat.ne_of_lt Vs.lt
  have sz_ar7 : h0.size ≤ ar7 := by rw [eq7]; exact KKs'.1
  have Z7 : n0 ≤ h7.size := Nat.le_trans Z4 E7.1
  have K7 : Keep h0 h7 [o1] := KKs'.ext E7
  have V7p : Arv Z h7 ar7 ca7 .int (3 : Int32) [(.int (0 : Int32)), (.int (0 : Int32)), (.int (0 : Int32))] (.int (0 : Int32)) := V7.pad (pad_rep [] (.int (0 : Int32)) 3)
  refine E_astoreN (pc' := 21) (L' := #[.val (.ref o1), .val (.ref a1), .val (.ref ar2), .val (.ref ar7), .unset, .unset, .unset, .unset, .unset, .unset, .unset]) cx st7 d2_20 rfl rfl rfl ?_
  refine E_aloadN (pc' := 22) cx st7 d2_21 rfl rfl rfl ?_
  have V8 : Arv Z h7 ar2 kA .int (3 : Int32) [(.int s0), (.int s1), (.int s2)] (.int (0 : Int32)) := (Vs.ext E7)
  refine E_arraylength (pc' := 23) cx st7 V8 d2_22 rfl ?_
  have X9 : Exa Z h7 o1 "com/example/flat_planner/flatplanner/AtomMask" := (X5.ext E7)
  have V10 : Arv Z h7 a1 kA .int (3 : Int32) [(.int x0), (.int x1), (.int x2)] (.int (0 : Int32)) := (V6.ext E7)
  refine E_newP (pc' := 25) (kc' := 3) (ks' := 9) (cap := 3) cx st7 (hw _ (List.mem_of_getElem? (i := 37) rfl)) d2_23 (by decide) (by decide) (by decide) (by decide) (by decide) (by decide) (by decide) rfl (ad := "[J") (by decide) ?_
  intro T11 h11 ca11 ar11 eq11 st11 E11 V11 X11
  have g_ar11 : n0 ≤ ar11 := by rw [eq11]; exact Z7
  have ne_o1_ar11 : o1 ≠ ar11 := by rw [eq11]; exact Nat.ne_of_lt X9.lt
  have ne_a1_ar11 : a1 ≠ ar11 := by rw [eq11]; exact Nat.ne_of_lt V10.lt
  have ne_ar2_ar11 : ar2 ≠ ar11 := by rw [eq11]; exact Nat.ne_of_lt V8.lt
  have ne_ar7_ar11 : ar7 ≠ ar11 := by rw [eq11]; exact Nat.ne_of_lt V7p.lt
  have sz_ar11 : h0.size ≤ ar11 := by rw [eq11]; exact K7.1
  have Z11 : n0 ≤ h11.size := Nat.le_trans Z7 E11.1
  have K11 : Keep h0 h11 [o1] := K7.ext E11
  have V11p : Arv Z h11 ar11 ca11 .long (3 : Int32) [(.long (0 : Int64)), (.long (0 : Int64)), (.long (0 : Int64))] (.long (0 : Int64)) := V11.pad (pad_rep [] (.long (0 : Int64)) 3)
  refine E_astore (pc' := 27) (L' := #[.val (.ref o1), .val (.ref a1), .val (.ref ar2), .val (.ref ar7), .val (.ref ar11), .unset, .unset, .unset, .unset, .unset, .unset]) cx st11 d2_25 rfl rfl rfl ?_
  refine E_iconst (pc' := 28) cx st11 (0 : Int32) d2_27 rfl rfl ?_
  refine E_istore (pc' := 30) (L' := #[.val (.ref o1), .val (.ref a1), .val (.ref ar2), .val (.ref ar7), .val (.ref ar11), .val (.int (0 : Int32)), .unset, .unset, .unset, .unset, .unset]) cx st11 d2_28 rfl rfl ?_
  refine E_aloadN (pc' := 31) cx st11 d2_30 rfl rfl rfl ?_
  refine E_astore (pc' := 33) (L' := #[.val (.ref o1), .val (.ref a1), .val (.ref ar2), .val (.ref ar7), .val (.ref ar11), .val (.int (0 : Int32)), .val (.ref ar2), .unset, .unset, .unset, .unset]) cx st11 d2_31 rfl rfl rfl ?_
  refine E_aload (pc' := 35) cx st11 d2_33 rfl rfl rfl ?_
  have V12 : Arv Z h11 ar2 kA .int (3 : Int32) [(.int s0), (.int s1), (.int s2)] (.int (0 : Int32)) := (V8.ext E11)
  refine E_arraylength (pc' := 36) cx st11 V12 d2_35 rfl ?_
  refine E_istore (pc' := 38) (L' := #[.val (.ref o1), .val (.ref a1), .val (.ref ar2), .val (.ref ar7), .val (.ref ar11), .val (.int (0 : Int32)), .val (.ref ar2), .val (.int (3 : Int32)), .unset, .unset, .unset]) cx st11 d2_36 rfl rfl ?_
  refine E_iconst (pc' := 39) cx st11 (0 : Int32) d2_38 rfl rfl ?_
  refine E_istore (pc' := 41) (L' := #[.val (.ref o1), .val (.ref a1), .val (.ref ar2), .val (.ref ar7), .val (.ref ar11), .val (.int (0 : Int32)), .val (.ref ar2), .val (.int (3 : Int32)), .val (.int (0 : Int32)), .unset, .unset]) cx st11 d2_39 rfl rfl ?_
  refine E_iload (pc' := 43) cx st11 d2_41 rfl rfl ?_
  refine E_iload (pc' := 45) cx st11 d2_43 rfl rfl ?_
  refine E_icmp_geN (pc' := 48) cx st11 d2_45 rfl (by decide) ?_
  refine E_aload (pc' := 50) cx st11 d2_48 rfl rfl rfl ?_
  refine E_iload (pc' := 52) cx st11 d2_50 rfl rfl ?_
  refine E_iaload (pc' := 53) (x := s0) cx st11 V12 ⟨by decide, by decide⟩ rfl d2_52 rfl ?_
  refine E_istore (pc' := 55) (L' := #[.val (.ref o1), .val (.ref a1), .val (.ref ar2), .val (.ref ar7), .val (.ref ar11), .val (.int (0 : Int32)), .val (.ref ar2), .val (.int (3 : Int32)), .val (.int (0 : Int32)), .val (.int s0), .unset]) cx st11 d2_53 rfl rfl ?_
  refine E_iload (pc' := 57) cx st11 d2_55 rfl rfl ?_
  refine E_callS (pc' := 60) (kc' := 3) (ks' := 9) (W := 0) (argsL := [(.int s0)]) cx st11 [] (rm8 l Z a0 hw s0 h11 n0 Z11) (hw _ (List.mem_of_getElem? (i := 38) rfl)) (hw _ (List.mem_of_getElem? (i := 39) rfl)) (hw _ (List.mem_of_getElem? (i := 40) rfl)) (hw _ (List.mem_of_getElem? (i := 41) rfl)) d2_57 rfl rfl (lenOf pd_7 rfl) (Nat.le_of_eq rfl) (by decide) (by decide) (by decide) (by decide) (by decide) (by decide) (by decide) rfl ?_
  intro v13 T13 h13 st13 hq13
  obtain ⟨rfl, hh13⟩ := hq13
  rw [hh13] at st13
  refine E_istore (pc' := 62) (L' := #[.val (.ref o1), .val (.ref a1), .val (.ref ar2), .val (.ref ar7), .val (.ref ar11), .val (.int (0 : Int32)), .val (.ref ar2), .val (.int (3 : Int32)), .val (.int (0 : Int32)), .val (.int s0), .val (.int (wof s0))]) cx st13 d2_60 rfl rfl ?_
  refine E_iload (pc' := 64) cx st13 d2_62 rfl rfl ?_
  refine E_if_eqY (pc' := 78) cx st13 d2_64 (by decide) (by decide) (by decide) ?_
  refine E_aloadN (pc' := 79) cx st13 d2_78 rfl rfl rfl ?_
  refine E_iload (pc' := 81) cx st13 d2_79 rfl rfl ?_
  refine E_iinc (pc' := 84) (L' := #[.val (.ref o1), .val (.ref a1), .val (.ref ar2), .val (.ref ar7), .val (.ref ar11), .val (.int (1 : Int32)), .val (.ref ar2), .val (.int (3 : Int32)), .val (.int (0 : Int32)), .val (.int s0), .val (.int (wof s0))]) cx st13 (1 : Int32) d2_81 rfl rfl rfl rfl ?_
  refine E_iload (pc' := 86) cx st13 d2_84 rfl rfl ?_
  have V14 : Arv Z h11 ar7 ca7 .int (3 : Int32) [(.int (0 : Int32)), (.int (0 : Int32)), (.int (0 : Int32))] (.int (0 : Int32)) := (V7p.ext E11)
  refine E_iastore (pc' := 87) (i := 0) cx st13 V14 ⟨by decide, by decide⟩ rfl (Nat.le_of_ble_eq_true rfl) g_ar7 d2_86 rfl ?_
  intro T15 h15 st15 W15 V15
  have Z15 : n0 ≤ h15.size := Nat.le_trans Z11 (Keep.of_wr W15).1
  have K15 : Keep h0 h15 [o1] := K11.wr W15 (Or.inr sz_ar7)
  have V15p : Arv Z h15 ar7 ca7 .int (3 : Int32) [(.int (wof s0)), (.int (0 : Int32)), (.int (0 : Int32))] (.int (0 : Int32)) := V15
  refine E_aload (pc' := 89) cx st15 d2_87 rfl rfl rfl ?_
  refine E_iload (pc' := 91) cx st15 d2_89 rfl rfl ?_
  refine E_iconst (pc' := 92) cx st15 (1 : Int32) d2_91 rfl rfl ?_
  refine E_isub (pc' := 93) cx st15 d2_92 rfl ?_
  rw [show ((1 : Int32) - (1 : Int32)) = (0 : Int32) from by decide]
  refine E_dup2 (pc' := 94) cx st15 d2_93 rfl rfl rfl ?_
  have V16 : Arv Z h15 ar11 ca11 .long (3 : Int32) [(.long (0 : Int64)), (.long (0 : Int64)), (.long (0 : Int64))] (.long (0 : Int64)) := (V11p.other W15 (Ne.symm ne_ar7_ar11))
  refine E_laload (pc' := 95) (x := (0 : Int64)) cx st15 V16 ⟨by decide, by decide⟩ rfl d2_94 rfl ?_
  refine E_iload (pc' := 97) cx st15 d2_95 rfl rfl ?_
  refine E_callS (pc' := 100) (kc' := 3) (ks' := 9) (W := 4) (argsL := [(.int s0)]) cx st15 [(.long (0 : Int64)), (.int (0 : Int32)), (.ref ar11)] (rm9 l Z a0 hw s0 h15 n0 Z15) (hw _ (List.mem_of_getElem? (i := 42) rfl)) (hw _ (List.mem_of_getElem? (i := 43) rfl)) (hw _ (List.mem_of_getElem? (i := 40) rfl)) (hw _ (List.mem_of_getElem? (i := 44) rfl)) d2_97 rfl rfl (lenOf pd_8 rfl) (Nat.le_of_eq rfl) (by decide) (by decide) (by decide) (by decide) (by decide) (by decide) (by decide) rfl ?_
  intro v17 T17 h17 st17 hq17
  obtain ⟨rfl, hh17⟩ := hq17
  rw [hh17] at st17
  refine E_lor (pc' := 101) cx st17 d2_100 rfl ?_
  refine E_lastore (pc' := 102) (i := 0) cx st17 V16 ⟨by decide, by decide⟩ rfl (Nat.le_of_ble_eq_true rfl) g_ar11 d2_101 rfl ?_
  intro T18 h18 st18 W18 V18
  have Z18 : n0 ≤ h18.size := Nat.le_trans Z15 (Keep.of_wr W18).1
  have K18 : Keep h0 h18 [o1] := K15.wr W18 (Or.inr sz_ar11)
  have V18p : Arv Z h18 ar11 ca11 .long (3 : Int32) [(.long ((0 : Int64) ||| (bitof s0))), (.long (0 : Int64)), (.long (0 : Int64))] (.long (0 : Int64)) := V18
  refine E_iinc (pc' := 105) (L' := #[.val (.ref o1), .val (.ref a1), .val (.ref ar2), .val (.ref ar7), .val (.ref ar11), .val (.int (1 : Int32)), .val (.ref ar2), .val (.int (3 : Int32)), .val (.int (1 : Int32)), .val (.int s0), .val (.int (wof s0))]) cx st18 (1 : Int32) d2_102 rfl rfl rfl rfl ?_
  refine E_goto (pc' := 41) cx st18 d2_105 (by decide) (by decide) ?_
  refine E_iload (pc' := 43) cx st18 d2_41 rfl rfl ?_
  refine E_iload (pc' := 45) cx st18 d2_43 rfl rfl ?_
  refine E_icmp_geN (pc' := 48) cx st18 d2_45 rfl (by decide) ?_
  refine E_aload (pc' := 50) cx st18 d2_48 rfl rfl rfl ?_
  refine E_iload (pc' := 52) cx st18 d2_50 rfl rfl ?_
  have V19 : Arv Z h18 ar2 kA .int (3 : Int32) [(.int s0), (.int s1), (.int s2)] (.int (0 : Int32)) := ((V12.other W15 ne_ar2_ar7).other W18 ne_ar2_ar11)
  refine E_iaload (pc' := 53) (x := s1) cx st18 V19 ⟨by decide, by decide⟩ rfl d2_52 rfl ?_
  refine E_istore (pc' := 55) (L' := #[.val (.ref o1), .val (.ref a1), .val (.ref ar2), .val (.ref ar7), .val (.ref ar11), .val (.int (1 : Int32)), .val (.ref ar2), .val (.int (3 : Int32)), .val (.int (1 : Int32)), .val (.int s1), .val (.int (wof s0))]) cx st18 d2_53 rfl rfl ?_
  refine E_iload (pc' := 57) cx st18 d2_55 rfl rfl ?_
  refine E_callS (pc' := 60) (kc' := 3) (ks' := 9) (W := 0) (argsL := [(.int s1)]) cx st18 [] (rm8 l Z a0 hw s1 h18 n0 Z18) (hw _ (List.mem_of_getElem? (i := 38) rfl)) (hw _ (List.mem_of_getElem? (i := 39) rfl)) (hw _ (List.mem_of_getElem? (i := 40) rfl)) (hw _ (List.mem_of_getElem? (i := 41) rfl)) d2_57 rfl rfl (lenOf pd_7 rfl) (Nat.le_of_eq rfl) (by decide) (by decide) (by decide) (by decide) (by decide) (by decide) (by decide) rfl ?_
  intro v20 T20 h20 st20 hq20
  obtain ⟨rfl, hh20⟩ := hq20
  rw [hh20] at st20
  refine E_istore (pc' := 62) (L' := #[.val (.ref o1), .val (.ref a1), .val (.ref ar2), .val (.ref ar7), .val (.ref ar11), .val (.int (1 : Int32)), .val (.ref ar2), .val (.int (3 : Int32)), .val (.int (1 : Int32)), .val (.int s1), .val (.int (wof s1))]) cx st20 d2_60 rfl rfl ?_
  refine E_iload (pc' := 64) cx st20 d2_62 rfl rfl ?_
  refine E_if_eqN (pc' := 67) cx st20 d2_64 rfl (by decide) ?_
  refine E_aloadN (pc' := 68) cx st20 d2_67 rfl rfl rfl ?_
  refine E_iload (pc' := 70) cx st20 d2_68 rfl rfl ?_
  refine E_iconst (pc' := 71) cx st20 (1 : Int32) d2_70 rfl rfl ?_
  refine E_isub (pc' := 72) cx st20 d2_71 rfl ?_
  rw [show ((1 : Int32) - (1 : Int32)) = (0 : Int32) from by decide]
  have V21 : Arv Z h18 ar7 ca7 .int (3 : Int32) [(.int (wof s0)), (.int (0 : Int32)), (.int (0 : Int32))] (.int (0 : Int32)) := (V15p.other W18 ne_ar7_ar11)
  refine E_iaload (pc' := 73) (x := (wof s0)) cx st20 V21 ⟨by decide, by decide⟩ rfl d2_72 rfl ?_
  refine E_iload (pc' := 75) cx st20 d2_73 rfl rfl ?_
  by_cases c22 : (wof s0) = (wof s1)
  · refine E_icmp_eqY (pc' := 87) cx st20 d2_75 (by decide) (by decide) c22 ?_
    refine E_aload (pc' := 89) cx st20 d2_87 rfl rfl rfl ?_
    refine E_iload (pc' := 91) cx st20 d2_89 rfl rfl ?_
    refine E_iconst (pc' := 92) cx st20 (1 : Int32) d2_91 rfl rfl ?_
    refine E_isub (pc' := 93) cx st20 d2_92 rfl ?_
    rw [show ((1 : Int32) - (1 : Int32)) = (0 : Int32) from by decide]
    refine E_dup2 (pc' := 94) cx st20 d2_93 rfl rfl rfl ?_
    refine E_laload (pc' := 95) (x := ((0 : Int64) ||| (bitof s0))) cx st20 V18p ⟨by decide, by decide⟩ rfl d2_94 rfl ?_
    refine E_iload (pc' := 97) cx st20 d2_95 rfl rfl ?_
    refine E_callS (pc' := 100) (kc' := 3) (ks' := 9) (W := 4) (argsL := [(.int s1)]) cx st20 [(.long ((0 : Int64) ||| (bitof s0))), (.int (0 : Int32)), (.ref ar11)] (rm9 l Z a0 hw s1 h18 n0 Z18) (hw _ (List.mem_of_getElem? (i := 42) rfl)) (hw _ (List.mem_of_getElem? (i := 43) rfl)) (hw _ (List.mem_of_getElem? (i := 40) rfl)) (hw _ (List.mem_of_getElem? (i := 44) rfl)) d2_97 rfl rfl (lenOf pd_8 rfl) (Nat.le_of_eq rfl) (by decide) (by decide) (by decide) (by decide) (by decide) (by decide) (by decide) rfl ?_
    intro v23 T23 h23 st23 hq23
    obtain ⟨rfl, hh23⟩ := hq23
    rw [hh23] at st23
    refine E_lor (pc' := 101) cx st23 d2_100 rfl ?_
    refine E_lastore (pc' := 102) (i := 0) cx st23 V18p ⟨by decide, by decide⟩ rfl (Nat.le_of_ble_eq_true rfl) g_ar11 d2_101 rfl ?_
    intro T24 h24 st24 W24 V24
    have Z24 : n0 ≤ h24.size := Nat.le_trans Z18 (Keep.of_wr W24).1
    have K24 : Keep h0 h24 [o1] := K18.wr W24 (Or.inr sz_ar11)
    have V24p : Arv Z h24 ar11 ca11 .long (3 : Int32) [(.long (((0 : Int64) ||| (bitof s0)) ||| (bitof s1))), (.long (0 : Int64)), (.long (0 : Int64))] (.long (0 : Int64)) := V24
    refine E_iinc (pc' := 105) (L' := #[.val (.ref o1), .val (.ref a1), .val (.ref ar2), .val (.ref ar7), .val (.ref ar11), .val (.int (1 : Int32)), .val (.ref ar2), .val (.int (3 : Int32)), .val (.int (2 : Int32)), .val (.int s1), .val (.int (wof s1))]) cx st24 (1 : Int32) d2_102 rfl rfl rfl rfl ?_
    refine E_goto (pc' := 41) cx st24 d2_105 (by decide) (by decide) ?_
    refine E_iload (pc' := 43) cx st24 d2_41 rfl rfl ?_
    refine E_iload (pc' := 45) cx st24 d2_43 rfl rfl ?_
    refine E_icmp_geN (pc' := 48) cx st24 d2_45 rfl (by decide) ?_
    refine E_aload (pc' := 50) cx st24 d2_48 rfl rfl rfl ?_
    refine E_iload (pc' := 52) cx st24 d2_50 rfl rfl ?_
    have V25 : Arv Z h24 ar2 kA .int (3 : Int32) [(.int s0), (.int s1), (.int s2)] (.int (0 : Int32)) := (V19.other W24 ne_ar2_ar11)
    refine E_iaload (pc' := 53) (x := s2) cx st24 V25 ⟨by decide, by decide⟩ rfl d2_52 rfl ?_
    refine E_istore (pc' := 55) (L' := #[.val (.ref o1), .val (.ref a1), .val (.ref ar2), .val (.ref ar7), .val (.ref ar11), .val (.int (1 : Int32)), .val (.ref ar2), .val (.int (3 : Int32)), .val (.int (2 : Int32)), .val (.int s2), .val (.int (wof s1))]) cx st24 d2_53 rfl rfl ?_
    refine E_iload (pc' := 57) cx st24 d2_55 rfl rfl ?_
    refine E_callS (pc' := 60) (kc' := 3) (ks' := 9) (W := 0) (argsL := [(.int s2)]) cx st24 [] (rm8 l Z a0 hw s2 h24 n0 Z24) (hw _ (List.mem_of_getElem? (i := 38) rfl)) (hw _ (List.mem_of_getElem? (i := 39) rfl)) (hw _ (List.mem_of_getElem? (i := 40) rfl)) (hw _ (List.mem_of_getElem? (i := 41) rfl)) d2_57 rfl rfl (lenOf pd_7 rfl) (Nat.le_of_eq rfl) (by decide) (by decide) (by decide) (by decide) (by decide) (by decide) (by decide) rfl ?_
    intro v26 T26 h26 st26 hq26
    obtain ⟨rfl, hh26⟩ := hq26
    rw [hh26] at st26
    refine E_istore (pc' := 62) (L' := #[.val (.ref o1), .val (.ref a1), .val (.ref ar2), .val (.ref ar7), .val (.ref ar11), .val (.int (1 : Int32)), .val (.ref ar2), .val (.int (3 : Int32)), .val (.int (2 : Int32)), .val (.int s2), .val (.int (wof s2))]) cx st26 d2_60 rfl rfl ?_
    refine E_iload (pc' := 64) cx st26 d2_62 rfl rfl ?_
    refine E_if_eqN (pc' := 67) cx st26 d2_64 rfl (by decide) ?_
    refine E_aloadN (pc' := 68) cx st26 d2_67 rfl rfl rfl ?_
    refine E_iload (pc' := 70) cx st26 d2_68 rfl rfl ?_
    refine E_iconst (pc' := 71) cx st26 (1 : Int32) d2_70 rfl rfl ?_
    refine E_isub (pc' := 72) cx st26 d2_71 rfl ?_
    rw [show ((1 : Int32) - (1 : Int32)) = (0 : Int32) from by decide]
    have V27 : Arv Z h24 ar7 ca7 .int (3 : Int32) [(.int (wof s0)), (.int (0 : Int32)), (.int (0 : Int32))] (.int (0 : Int32)) := (V21.other W24 ne_ar7_ar11)
    refine E_iaload (pc' := 73) (x := (wof s0)) cx st26 V27 ⟨by decide, by decide⟩ rfl d2_72 rfl ?_
    refine E_iload (pc' := 75) cx st26 d2_73 rfl rfl ?_
    by_cases c28 : (wof s0) = (wof s2)
    · refine E_icmp_eqY (pc' := 87) cx st26 d2_75 (by decide) (by decide) c28 ?_
      refine E_aload (pc' := 89) cx st26 d2_87 rfl rfl rfl ?_
      refine E_iload (pc' := 91) cx st26 d2_89 rfl rfl ?_
      refine E_iconst (pc' := 92) cx st26 (1 : Int32) d2_91 rfl rfl ?_
      refine E_isub (pc' := 93) cx st26 d2_92 rfl ?_
      rw [show ((1 : Int32) - (1 : Int32)) = (0 : Int32) from by decide]
      refine E_dup2 (pc' := 94) cx st26 d2_93 rfl rfl rfl ?_
      refine E_laload (pc' := 95) (x := (((0 : Int64) ||| (bitof s0)) ||| (bitof s1))) cx st26 V24p ⟨by decide, by decide⟩ rfl d2_94 rfl ?_
      refine E_iload (pc' := 97) cx st26 d2_95 rfl rfl ?_
      refine E_callS (pc' := 100) (kc' := 3) (ks' := 9) (W := 4) (argsL := [(.int s2)]) cx st26 [(.long (((0 : Int64) ||| (bitof s0)) ||| (bitof s1))), (.int (0 : Int32)), (.ref ar11)] (rm9 l Z a0 hw s2 h24 n0 Z24) (hw _ (List.mem_of_getElem? (i := 42) rfl)) (hw _ (List.mem_of_getElem? (i := 43) rfl)) (hw _ (List.mem_of_getElem? (i := 40) rfl)) (hw _ (List.mem_of_getElem? (i := 44) rfl)) d2_97 rfl rfl (lenOf pd_8 rfl) (Nat.le_of_eq rfl) (by decide) (by decide) (by decide) (by decide) (by decide) (by decide) (by decide) rfl ?_
      intro v29 T29 h29 st29 hq29
      obtain ⟨rfl, hh29⟩ := hq29
      rw [hh29] at st29
      refine E_lor (pc' := 101) cx st29 d2_100 rfl ?_
      refine E_lastore (pc' := 102) (i := 0) cx st29 V24p ⟨by decide, by decide⟩ rfl (Nat.le_of_ble_eq_true rfl) g_ar11 d2_101 rfl ?_
      intro T30 h30 st30 W30 V30
      have Z30 : n0 ≤ h30.size := Nat.le_trans Z24 (Keep.of_wr W30).1
      have K30 : Keep h0 h30 [o1] := K24.wr W30 (Or.inr sz_ar11)
      have V30p : Arv Z h30 ar11 ca11 .long (3 : Int32) [(.long ((((0 : Int64) ||| (bitof s0)) ||| (bitof s1)) ||| (bitof s2))), (.long (0 : Int64)), (.long (0 : Int64))] (.long (0 : Int64)) := V30
      refine E_iinc (pc' := 105) (L' := #[.val (.ref o1), .val (.ref a1), .val (.ref ar2), .val (.ref ar7), .val (.ref ar11), .val (.int (1 : Int32)), .val (.ref ar2), .val (.int (3 : Int32)), .val (.int (3 : Int32)), .val (.int s2), .val (.int (wof s2))]) cx st30 (1 : Int32) d2_102 rfl rfl rfl rfl ?_
      refine E_goto (pc' := 41) cx st30 d2_105 (by decide) (by decide) ?_
      refine E_iload (pc' := 43) cx st30 d2_41 rfl rfl ?_
      refine E_iload (pc' := 45) cx st30 d2_43 rfl rfl ?_
      refine E_icmp_geY (pc' := 108) cx st30 d2_45 (by decide) (by decide) (by decide) ?_
      refine E_aloadN (pc' := 109) cx st30 d2_108 rfl rfl rfl ?_
      refine E_aloadN (pc' := 110) cx st30 d2_109 rfl rfl rfl ?_
      refine E_iload (pc' := 112) cx st30 d2_110 rfl rfl ?_
      have V31 : Arv Z h30 ar7 ca7 .int (3 : Int32) [(.int (wof s0)), (.int (0 : Int32)), (.int (0 : Int32))] (.int (0 : Int32)) := (V27.other W30 ne_ar7_ar11)
      have X32 : Exa Z h30 ar7 "[I" := (((((X7.ext E11).wr W15).wr W18).wr W24).wr W30)
      have X33 : Exa Z h30 o1 "com/example/flat_planner/flatplanner/AtomMask" := (((((X9.ext E11).wr W15).wr W18).wr W24).wr W30)
      have V34 : Arv Z h30 a1 kA .int (3 : Int32) [(.int x0), (.int x1), (.int x2)] (.int (0 : Int32)) := (((((V10.ext E11).other W15 ne_a1_ar7).other W18 ne_a1_ar11).other W24 ne_a1_ar11).other W30 ne_a1_ar11)
      have V35 : Arv Z h30 ar2 kA .int (3 : Int32) [(.int s0), (.int s1), (.int s2)] (.int (0 : Int32)) := (V25.other W30 ne_ar2_ar11)
      refine E_callS (pc' := 115) (kc' := 4) (ks' := 10) (W := 1) (argsL := [(.ref ar7), (.int (1 : Int32))]) cx st30 [(.ref o1)] (rm10n3c1 l Z a0 hw ar7 (wof s0) (0 : Int32) (0 : Int32) h30 n0 Z30 ca7 X32 V31) (hw _ (List.mem_of_getElem? (i := 45) rfl)) (hw _ (List.mem_of_getElem? (i := 46) rfl)) (hw _ (List.mem_of_getElem? (i := 25) rfl)) (hw _ (List.mem_of_getElem? (i := 47) rfl)) d2_112 rfl rfl (lenOf pd_5 rfl) (Nat.le_of_eq rfl) (by decide) (by decide) (by decide) (by decide) (by decide) (by decide) (by decide) rfl ?_
      intro v36 T36 h36 st36 hq36
      obtain ⟨b36, kb36, rfl, sz36, Kq36, Vq36⟩ := hq36
      have sz_b36 : h0.size ≤ b36 := Nat.le_trans K30.1 sz36
      have Z36 : n0 ≤ h36.size := Nat.le_trans Z30 Kq36.1
      have KKq36' : Keep h0 h36 [o1] := K30.trans Kq36 all0
      have ne_o1_b36 : o1 ≠ b36 := Nat.ne_of_lt (Nat.lt_of_lt_of_le X33.lt sz36)
      have ne_a1_b36 : a1 ≠ b36 := Nat.ne_of_lt (Nat.lt_of_lt_of_le V34.lt sz36)
      have ne_ar2_b36 : ar2 ≠ b36 := Nat.ne_of_lt (Nat.lt_of_lt_of_le V35.lt sz36)
      have ne_ar7_b36 : ar7 ≠ b36 := Nat.ne_of_lt (Nat.lt_of_lt_of_le V31.lt sz36)
      have ne_ar11_b36 : ar11 ≠ b36 := Nat.ne_of_lt (Nat.lt_of_lt_of_le V30p.lt sz36)
      have G37 : Fld Z h36 o1 "com/example/flat_planner/flatplanner/AtomMask" "words" "[I" .null := (((((((((Fw.ext E2).keep Ks (ninS ne_o1_ar2 nin0)).ext E7).ext E11).other W15 (Or.inl ne_o1_ar7)).other W18 (Or.inl ne_o1_ar11)).other W24 (Or.inl ne_o1_ar11)).other W30 (Or.inl ne_o1_ar11)).keep Kq36 nin0)
      have X38 : Exa Z h36 o1 "com/example/flat_planner/flatplanner/AtomMask" := (X33.keep Kq36)
      refine E_putfield (pc' := 118) (ty := (.array .int)) cx st36 (hw _ (List.mem_of_getElem? (i := 50) rfl)) G37 X38 (Or.inr ⟨(hw _ (List.mem_of_getElem? (i := 51) rfl)), rfl, rfl⟩) (hw _ (List.mem_of_getElem? (i := 6) rfl)) (by decide) rfl rfl g_o1 d2_115 rfl ?_
      intro T39 h39 st39 W39
      have Z39 : n0 ≤ h39.size := Nat.le_trans Z36 (Keep.of_wr W39).1
      have K39 : Keep h0 h39 [o1] := KKq36'.wr W39 (Or.inl (List.mem_of_getElem? (i := 0) rfl))
      have G39w : Fld Z h39 o1 "com/example/flat_planner/flatplanner/AtomMask" "words" "[I" (.ref b36) := G37.same W39
      refine E_aloadN (pc' := 119) cx st39 d2_118 rfl rfl rfl ?_
      refine E_aload (pc' := 121) cx st39 d2_119 rfl rfl rfl ?_
      refine E_iload (pc' := 123) cx st39 d2_121 rfl rfl ?_
      have V40 : Arv Z h39 ar11 ca11 .long (3 : Int32) [(.long ((((0 : Int64) ||| (bitof s0)) ||| (bitof s1)) ||| (bitof s2))), (.long (0 : Int64)), (.long (0 : Int64))] (.long (0 : Int64)) := ((V30p.keep Kq36 nin0).other W39 (Ne.symm ne_o1_ar11))
      have X41 : Exa Z h39 ar11 "[J" := ((((((X11.wr W15).wr W18).wr W24).wr W30).keep Kq36).wr W39)
      have X42 : Exa Z h39 o1 "com/example/flat_planner/flatplanner/AtomMask" := (X38.wr W39)
      have V43 : Arv Z h39 a1 kA .int (3 : Int32) [(.int x0), (.int x1), (.int x2)] (.int (0 : Int32)) := ((V34.keep Kq36 nin0).other W39 (Ne.symm hne))
      have V44 : Arv Z h39 ar2 kA .int (3 : Int32) [(.int s0), (.int s1), (.int s2)] (.int (0 : Int32)) := ((V35.keep Kq36 nin0).other W39 (Ne.symm ne_o1_ar2))
      have V45 : Arv Z h39 ar7 ca7 .int (3 : Int32) [(.int (wof s0)), (.int (0 : Int32)), (.int (0 : Int32))] (.int (0 : Int32)) := ((V31.keep Kq36 nin0).other W39 (Ne.symm ne_o1_ar7))
      have V46 : Arv Z h39 b36 kb36 .int (1 : Int32) [(.int (wof s0))] (.int (0 : Int32)) := (Vq36.other W39 (Ne.symm ne_o1_b36))
      refine E_callS (pc' := 126) (kc' := 5) (ks' := 11) (W := 1) (argsL := [(.ref ar11), (.int (1 : Int32))]) cx st39 [(.ref o1)] (rm11n3c1 l Z a0 hw ar11 ((((0 : Int64) ||| (bitof s0)) ||| (bitof s1)) ||| (bitof s2)) (0 : Int64) (0 : Int64) h39 n0 Z39 ca11 X41 V40) (hw _ (List.mem_of_getElem? (i := 52) rfl)) (hw _ (List.mem_of_getElem? (i := 53) rfl)) (hw _ (List.mem_of_getElem? (i := 25) rfl)) (hw _ (List.mem_of_getElem? (i := 54) rfl)) d2_123 rfl rfl (lenOf pd_6 rfl) (Nat.le_of_eq rfl) (by decide) (by decide) (by decide) (by decide) (by decide) (by decide) (by decide) rfl ?_
      intro v47 T47 h47 st47 hq47
      obtain ⟨b47, kb47, rfl, sz47, Kq47, Vq47⟩ := hq47
      have sz_b47 : h0.size ≤ b47 := Nat.le_trans K39.1 sz47
      have Z47 : n0 ≤ h47.size := Nat.le_trans Z39 Kq47.1
      have KKq47' : Keep h0 h47 [o1] := K39.trans Kq47 all0
      have ne_o1_b47 : o1 ≠ b47 := Nat.ne_of_lt (Nat.lt_of_lt_of_le X42.lt sz47)
      have ne_a1_b47 : a1 ≠ b47 := Nat.ne_of_lt (Nat.lt_of_lt_of_le V43.lt sz47)
      have ne_ar2_b47 : ar2 ≠ b47 := Nat.ne_of_lt (Nat.lt_of_lt_of_le V44.lt sz47)
      have ne_ar7_b47 : ar7 ≠ b47 := Nat.ne_of_lt (Nat.lt_of_lt_of_le V45.lt sz47)
      have ne_ar11_b47 : ar11 ≠ b47 := Nat.ne_of_lt (Nat.lt_of_lt_of_le V40.lt sz47)
      have ne_b36_b47 : b36 ≠ b47 := Nat.ne_of_lt (Nat.lt_of_lt_of_le V46.lt sz47)
      have G48 : Fld Z h47 o1 "com/example/flat_planner/flatplanner/AtomMask" "masks" "[J" .null := (((((((((((Fm.ext E2).keep Ks (ninS ne_o1_ar2 nin0)).ext E7).ext E11).other W15 (Or.inl ne_o1_ar7)).other W18 (Or.inl ne_o1_ar11)).other W24 (Or.inl ne_o1_ar11)).other W30 (Or.inl ne_o1_ar11)).keep Kq36 nin0).other W39 (Or.inr (slot_ne (Or.inr (hw _ (List.mem_of_getElem? (i := 62) rfl))) (Or.inr (hw _ (List.mem_of_getElem? (i := 51) rfl))) (by decide) (t := (.array .long)) (t' := (.array .int)) (by decide) (by decide)))).keep Kq47 nin0)
      have X49 : Exa Z h47 o1 "com/example/flat_planner/flatplanner/AtomMask" := (X42.keep Kq47)
      refine E_putfield (pc' := 129) (ty := (.array .long)) cx st47 (hw _ (List.mem_of_getElem? (i := 61) rfl)) G48 X49 (Or.inr ⟨(hw _ (List.mem_of_getElem? (i := 62) rfl)), rfl, rfl⟩) (hw _ (List.mem_of_getElem? (i := 6) rfl)) (by decide) rfl rfl g_o1 d2_126 rfl ?_
      intro T50 h50 st50 W50
      have Z50 : n0 ≤ h50.size := Nat.le_trans Z47 (Keep.of_wr W50).1
      have K50 : Keep h0 h50 [o1] := KKq47'.wr W50 (Or.inl (List.mem_of_getElem? (i := 0) rfl))
      have G50w : Fld Z h50 o1 "com/example/flat_planner/flatplanner/AtomMask" "masks" "[J" (.ref b47) := G48.same W50
      have G51 : Fld Z h50 o1 "com/example/flat_planner/flatplanner/AtomMask" "words" "[I" (.ref b36) := ((G39w.keep Kq47 nin0).other W50 (Or.inr (slot_ne (Or.inr (hw _ (List.mem_of_getElem? (i := 51) rfl))) (Or.inr (hw _ (List.mem_of_getElem? (i := 62) rfl))) (by decide) (t := (.array .int)) (t' := (.array .long)) (by decide) (by decide))))
      have V52 : Arv Z h50 b36 kb36 .int (1 : Int32) [(.int (wof s0))] (.int (0 : Int32)) := ((V46.keep Kq47 nin0).other W50 (Ne.symm ne_o1_b36))
      have V53 : Arv Z h50 b47 kb47 .long (1 : Int32) [(.long ((((0 : Int64) ||| (bitof s0)) ||| (bitof s1)) ||| (bitof s2)))] (.long (0 : Int64)) := (Vq47.other W50 (Ne.symm ne_o1_b47))
      refine E_return cx st50 d2_129 rfl (by decide) (by decide) ?_
      refine ⟨rfl, K50, b36, b47, kb36, kb47, [(wof s0)], [((((0 : Int64) ||| (bitof s0)) ||| (bitof s1)) ||| (bitof s2))], rfl, (Nat.le_of_ble_eq_true rfl), G51, G50w, V52, V53, sz_b36, sz_b47, ?_, ?_, ?_⟩
      · intro hB w hw
        have hS := (hperm BB).mpr hB
        obtain ⟨hS0, hS1, hS2⟩ := hS
        simp only [List.mem_cons, List.not_mem_nil, or_false] at hw
        rcases hw with rfl
        · exact wof_b hS0
      · intro t
        rw [← hperm (AA t)]
        simp only [allB, AA, zor, and_or_eq, Bool.and_eq_true, decide_eq_true_eq, Bool.and_true, and_true, ← c22, ← c28]
        try simp only [and_assoc]
      · intro t
        rw [← hperm (NN t)]
        simp only [nonB, NN, zor, and_or_z, Bool.and_eq_true, decide_eq_true_eq, Bool.and_true, and_true, ← c22, ← c28]
        try simp only [and_assoc]
    · refine E_icmp_eqN (pc' := 78) cx st26 d2_75 rfl c28 ?_
      refine E_aloadN (pc' := 79) cx st26 d2_78 rfl rfl rfl ?_
      refine E_iload (pc' := 81) cx st26 d2_79 rfl rfl ?_
      refine E_iinc (pc' := 84) (L' := #[.val (.ref o1), .val (.ref a1), .val (.ref ar2), .val (.ref ar7), .val (.ref ar11), .val (.int (2 : Int32)), .val (.ref ar2), .val (.int (3 : Int32)), .val (.int (2 : Int32)), .val (.int s2), .val (.int (wof s2))]) cx st26 (1 : Int32) d2_81 rfl rfl rfl rfl ?_
      refine E_iload (pc' := 86) cx st26 d2_84 rfl rfl ?_
      refine E_iastore (pc' := 87) (i := 1) cx st26 V27 ⟨by decide, by decide⟩ rfl (Nat.le_of_ble_eq_true rfl) g_ar7 d2_86 rfl ?_
      intro T54 h54 st54 W54 V54
      have Z54 : n0 ≤ h54.size := Nat.le_trans Z24 (Keep.of_wr W54).1
      have K54 : Keep h0 h54 [o1] := K24.wr W54 (Or.inr sz_ar7)
      have V54p : Arv Z h54 ar7 ca7 .int (3 : Int32) [(.int (wof s0)), (.int (wof s2)), (.int (0 : Int32))] (.int (0 : Int32)) := V54
      refine E_aload (pc' := 89) cx st54 d2_87 rfl rfl rfl ?_
      refine E_iload (pc' := 91) cx st54 d2_89 rfl rfl ?_
      refine E_iconst (pc' := 92) cx st54 (1 : Int32) d2_91 rfl rfl ?_
      refine E_isub (pc' := 93) cx st54 d2_92 rfl ?_
      rw [show ((2 : Int32) - (1 : Int32)) = (1 : Int32) from by decide]
      refine E_dup2 (pc' := 94) cx st54 d2_93 rfl rfl rfl ?_
      have V55 : Arv Z h54 ar11 ca11 .long (3 : Int32) [(.long (((0 : Int64) ||| (bitof s0)) ||| (bitof s1))), (.long (0 : Int64)), (.long (0 : Int64))] (.long (0 : Int64)) := (V24p.other W54 (Ne.symm ne_ar7_ar11))
      refine E_laload (pc' := 95) (x := (0 : Int64)) cx st54 V55 ⟨by decide, by decide⟩ rfl d2_94 rfl ?_
      refine E_iload (pc' := 97) cx st54 d2_95 rfl rfl ?_
      refine E_callS (pc' := 100) (kc' := 3) (ks' := 9) (W := 4) (argsL := [(.int s2)]) cx st54 [(.long (0 : Int64)), (.int (1 : Int32)), (.ref ar11)] (rm9 l Z a0 hw s2 h54 n0 Z54) (hw _ (List.mem_of_getElem? (i := 42) rfl)) (hw _ (List.mem_of_getElem? (i := 43) rfl)) (hw _ (List.mem_of_getElem? (i := 40) rfl)) (hw _ (List.mem_of_getElem? (i := 44) rfl)) d2_97 rfl rfl (lenOf pd_8 rfl) (Nat.le_of_eq rfl) (by decide) (by decide) (by decide) (by decide) (by decide) (by decide) (by decide) rfl ?_
      intro v56 T56 h56 st56 hq56
      obtain ⟨rfl, hh56⟩ := hq56
      rw [hh56] at st56
      refine E_lor (pc' := 101) cx st56 d2_100 rfl ?_
      refine E_lastore (pc' := 102) (i := 1) cx st56 V55 ⟨by decide, by decide⟩ rfl (Nat.le_of_ble_eq_true rfl) g_ar11 d2_101 rfl ?_
      intro T57 h57 st57 W57 V57
      have Z57 : n0 ≤ h57.size := Nat.le_trans Z54 (Keep.of_wr W57).1
      have K57 : Keep h0 h57 [o1] := K54.wr W57 (Or.inr sz_ar11)
      have V57p : Arv Z h57 ar11 ca11 .long (3 : Int32) [(.long (((0 : Int64) ||| (bitof s0)) ||| (bitof s1))), (.long ((0 : Int64) ||| (bitof s2))), (.long (0 : Int64))] (.long (0 : Int64)) := V57
      refine E_iinc (pc' := 105) (L' := #[.val (.ref o1), .val (.ref a1), .val (.ref ar2), .val (.ref ar7), .val (.ref ar11), .val (.int (2 : Int32)), .val (.ref ar2), .val (.int (3 : Int32)), .val (.int (3 : Int32)), .val (.int s2), .val (.int (wof s2))]) cx st57 (1 : Int32) d2_102 rfl rfl rfl rfl ?_
      refine E_goto (pc' := 41) cx st57 d2_105 (by decide) (by decide) ?_
      refine E_iload (pc' := 43) cx st57 d2_41 rfl rfl ?_
      refine E_iload (pc' := 45) cx st57 d2_43 rfl rfl ?_
      refine E_icmp_geY (pc' := 108) cx st57 d2_45 (by decide) (by decide) (by decide) ?_
      refine E_aloadN (pc' := 109) cx st57 d2_108 rfl rfl rfl ?_
      refine E_aloadN (pc' := 110) cx st57 d2_109 rfl rfl rfl ?_
      refine E_iload (pc' := 112) cx st57 d2_110 rfl rfl ?_
      have V58 : Arv Z h57 ar7 ca7 .int (3 : Int32) [(.int (wof s0)), (.int (wof s2)), (.int (0 : Int32))] (.int (0 : Int32)) := (V54p.other W57 ne_ar7_ar11)
      have X59 : Exa Z h57 ar7 "[I" := ((((((X7.ext E11).wr W15).wr W18).wr W24).wr W54).wr W57)
      have X60 : Exa Z h57 o1 "com/example/flat_planner/flatplanner/AtomMask" := ((((((X9.ext E11).wr W15).wr W18).wr W24).wr W54).wr W57)
      have V61 : Arv Z h57 a1 kA .int (3 : Int32) [(.int x0), (.int x1), (.int x2)] (.int (0 : Int32)) := ((((((V10.ext E11).other W15 ne_a1_ar7).other W18 ne_a1_ar11).other W24 ne_a1_ar11).other W54 ne_a1_ar7).other W57 ne_a1_ar11)
      have V62 : Arv Z h57 ar2 kA .int (3 : Int32) [(.int s0), (.int s1), (.int s2)] (.int (0 : Int32)) := ((V25.other W54 ne_ar2_ar7).other W57 ne_ar2_ar11)
      refine E_callS (pc' := 115) (kc' := 4) (ks' := 11) (W := 1) (argsL := [(.ref ar7), (.int (2 : Int32))]) cx st57 [(.ref o1)] (rm10n3c2 l Z a0 hw ar7 (wof s0) (wof s2) (0 : Int32) h57 n0 Z57 ca7 X59 V58) (hw _ (List.mem_of_getElem? (i := 45) rfl)) (hw _ (List.mem_of_getElem? (i := 46) rfl)) (hw _ (List.mem_of_getElem? (i := 25) rfl)) (hw _ (List.mem_of_getElem? (i := 47) rfl)) d2_112 rfl rfl (lenOf pd_5 rfl) (Nat.le_of_eq rfl) (by decide) (by decide) (by decide) (by decide) (by decide) (by decide) (by decide) rfl ?_
      intro v63 T63 h63 st63 hq63
      obtain ⟨b63, kb63, rfl, sz63, Kq63, Vq63⟩ := hq63
      have sz_b63 : h0.size ≤ b63 := Nat.le_trans K57.1 sz63
      have Z63 : n0 ≤ h63.size := Nat.le_trans Z57 Kq63.1
      have KKq63' : Keep h0 h63 [o1] := K57.trans Kq63 all0
      have ne_o1_b63 : o1 ≠ b63 := Nat.ne_of_lt (Nat.lt_of_lt_of_le X60.lt sz63)
      have ne_a1_b63 : a1 ≠ b63 := Nat.ne_of_lt (Nat.lt_of_lt_of_le V61.lt sz63)
      have ne_ar2_b63 : ar2 ≠ b63 := Nat.ne_of_lt (Nat.lt_of_lt_of_le V62.lt sz63)
      have ne_ar7_b63 : ar7 ≠ b63 := Nat.ne_of_lt (Nat.lt_of_lt_of_le V58.lt sz63)
      have ne_ar11_b63 : ar11 ≠ b63 := Nat.ne_of_lt (Nat.lt_of_lt_of_le V57p.lt sz63)
      have G64 : Fld Z h63 o1 "com/example/flat_planner/flatplanner/AtomMask" "words" "[I" .null := ((((((((((Fw.ext E2).keep Ks (ninS ne_o1_ar2 nin0)).ext E7).ext E11).other W15 (Or.inl ne_o1_ar7)).other W18 (Or.inl ne_o1_ar11)).other W24 (Or.inl ne_o1_ar11)).other W54 (Or.inl ne_o1_ar7)).other W57 (Or.inl ne_o1_ar11)).keep Kq63 nin0)
      have X65 : Exa Z h63 o1 "com/example/flat_planner/flatplanner/AtomMask" := (X60.keep Kq63)
      refine E_putfield (pc' := 118) (ty := (.array .int)) cx st63 (hw _ (List.mem_of_getElem? (i := 50) rfl)) G64 X65 (Or.inr ⟨(hw _ (List.mem_of_getElem? (i := 51) rfl)), rfl, rfl⟩) (hw _ (List.mem_of_getElem? (i := 6) rfl)) (by decide) rfl rfl g_o1 d2_115 rfl ?_
      intro T66 h66 st66 W66
      have Z66 : n0 ≤ h66.size := Nat.le_trans Z63 (Keep.of_wr W66).1
      have K66 : Keep h0 h66 [o1] := KKq63'.wr W66 (Or.inl (List.mem_of_getElem? (i := 0) rfl))
      have G66w : Fld Z h66 o1 "com/example/flat_planner/flatplanner/AtomMask" "words" "[I" (.ref b63) := G64.same W66
      refine E_aloadN (pc' := 119) cx st66 d2_118 rfl rfl rfl ?_
      refine E_aload (pc' := 121) cx st66 d2_119 rfl rfl rfl ?_
      refine E_iload (pc' := 123) cx st66 d2_121 rfl rfl ?_
      have V67 : Arv Z h66 ar11 ca11 .long (3 : Int32) [(.long (((0 : Int64) ||| (bitof s0)) ||| (bitof s1))), (.long ((0 : Int64) ||| (bitof s2))), (.long (0 : Int64))] (.long (0 : Int64)) := ((V57p.keep Kq63 nin0).other W66 (Ne.symm ne_o1_ar11))
      have X68 : Exa Z h66 ar11 "[J" := (((((((X11.wr W15).wr W18).wr W24).wr W54).wr W57).keep Kq63).wr W66)
      have X69 : Exa Z h66 o1 "com/example/flat_planner/flatplanner/AtomMask" := (X65.wr W66)
      have V70 : Arv Z h66 a1 kA .int (3 : Int32) [(.int x0), (.int x1), (.int x2)] (.int (0 : Int32)) := ((V61.keep Kq63 nin0).other W66 (Ne.symm hne))
      have V71 : Arv Z h66 ar2 kA .int (3 : Int32) [(.int s0), (.int s1), (.int s2)] (.int (0 : Int32)) := ((V62.keep Kq63 nin0).other W66 (Ne.symm ne_o1_ar2))
      have V72 : Arv Z h66 ar7 ca7 .int (3 : Int32) [(.int (wof s0)), (.int (wof s2)), (.int (0 : Int32))] (.int (0 : Int32)) := ((V58.keep Kq63 nin0).other W66 (Ne.symm ne_o1_ar7))
      have V73 : Arv Z h66 b63 kb63 .int (2 : Int32) [(.int (wof s0)), (.int (wof s2))] (.int (0 : Int32)) := (Vq63.other W66 (Ne.symm ne_o1_b63))
      refine E_callS (pc' := 126) (kc' := 5) (ks' := 13) (W := 1) (argsL := [(.ref ar11), (.int (2 : Int32))]) cx st66 [(.ref o1)] (rm11n3c2 l Z a0 hw ar11 (((0 : Int64) ||| (bitof s0)) ||| (bitof s1)) ((0 : Int64) ||| (bitof s2)) (0 : Int64) h66 n0 Z66 ca11 X68 V67) (hw _ (List.mem_of_getElem? (i := 52) rfl)) (hw _ (List.mem_of_getElem? (i := 53) rfl)) (hw _ (List.mem_of_getElem? (i := 25) rfl)) (hw _ (List.mem_of_getElem? (i := 54) rfl)) d2_123 rfl rfl (lenOf pd_6 rfl) (Nat.le_of_eq rfl) (by decide) (by decide) (by decide) (by decide) (by decide) (by decide) (by decide) rfl ?_
      intro v74 T74 h74 st74 hq74
      obtain ⟨b74, kb74, rfl, sz74, Kq74, Vq74⟩ := hq74
      have sz_b74 : h0.size ≤ b74 := Nat.le_trans K66.1 sz74
      have Z74 : n0 ≤ h74.size := Nat.le_trans Z66 Kq74.1
      have KKq74' : Keep h0 h74 [o1] := K66.trans Kq74 all0
      have ne_o1_b74 : o1 ≠ b74 := Nat.ne_of_lt (Nat.lt_of_lt_of_le X69.lt sz74)
      have ne_a1_b74 : a1 ≠ b74 := Nat.ne_of_lt (Nat.lt_of_lt_of_le V70.lt sz74)
      have ne_ar2_b74 : ar2 ≠ b74 := Nat.ne_of_lt (Nat.lt_of_lt_of_le V71.lt sz74)
      have ne_ar7_b74 : ar7 ≠ b74 := Nat.ne_of_lt (Nat.lt_of_lt_of_le V72.lt sz74)
      have ne_ar11_b74 : ar11 ≠ b74 := Nat.ne_of_lt (Nat.lt_of_lt_of_le V67.lt sz74)
      have ne_b63_b74 : b63 ≠ b74 := Nat.ne_of_lt (Nat.lt_of_lt_of_le V73.lt sz74)
      have G75 : Fld Z h74 o1 "com/example/flat_planner/flatplanner/AtomMask" "masks" "[J" .null := ((((((((((((Fm.ext E2).keep Ks (ninS ne_o1_ar2 nin0)).ext E7).ext E11).other W15 (Or.inl ne_o1_ar7)).other W18 (Or.inl ne_o1_ar11)).other W24 (Or.inl ne_o1_ar11)).other W54 (Or.inl ne_o1_ar7)).other W57 (Or.inl ne_o1_ar11)).keep Kq63 nin0).other W66 (Or.inr (slot_ne (Or.inr (hw _ (List.mem_of_getElem? (i := 62) rfl))) (Or.inr (hw _ (List.mem_of_getElem? (i := 51) rfl))) (by decide) (t := (.array .long)) (t' := (.array .int)) (by decide) (by decide)))).keep Kq74 nin0)
      have X76 : Exa Z h74 o1 "com/example/flat_planner/flatplanner/AtomMask" := (X69.keep Kq74)
      refine E_putfield (pc' := 129) (ty := (.array .long)) cx st74 (hw _ (List.mem_of_getElem? (i := 61) rfl)) G75 X76 (Or.inr ⟨(hw _ (List.mem_of_getElem? (i := 62) rfl)), rfl, rfl⟩) (hw _ (List.mem_of_getElem? (i := 6) rfl)) (by decide) rfl rfl g_o1 d2_126 rfl ?_
      intro T77 h77 st77 W77
      have Z77 : n0 ≤ h77.size := Nat.le_trans Z74 (Keep.of_wr W77).1
      have K77 : Keep h0 h77 [o1] := KKq74'.wr W77 (Or.inl (List.mem_of_getElem? (i := 0) rfl))
      have G77w : Fld Z h77 o1 "com/example/flat_planner/flatplanner/AtomMask" "masks" "[J" (.ref b74) := G75.same W77
      have G78 : Fld Z h77 o1 "com/example/flat_planner/flatplanner/AtomMask" "words" "[I" (.ref b63) := ((G66w.keep Kq74 nin0).other W77 (Or.inr (slot_ne (Or.inr (hw _ (List.mem_of_getElem? (i := 51) rfl))) (Or.inr (hw _ (List.mem_of_getElem? (i := 62) rfl))) (by decide) (t := (.array .int)) (t' := (.array .long)) (by decide) (by decide))))
      have V79 : Arv Z h77 b63 kb63 .int (2 : Int32) [(.int (wof s0)), (.int (wof s2))] (.int (0 : Int32)) := ((V73.keep Kq74 nin0).other W77 (Ne.symm ne_o1_b63))
      have V80 : Arv Z h77 b74 kb74 .long (2 : Int32) [(.long (((0 : Int64) ||| (bitof s0)) ||| (bitof s1))), (.long ((0 : Int64) ||| (bitof s2)))] (.long (0 : Int64)) := (Vq74.other W77 (Ne.symm ne_o1_b74))
      refine E_return cx st77 d2_129 rfl (by decide) (by decide) ?_
      refine ⟨rfl, K77, b63, b74, kb63, kb74, [(wof s0), (wof s2)], [(((0 : Int64) ||| (bitof s0)) ||| (bitof s1)), ((0 : Int64) ||| (bitof s2))], rfl, (Nat.le_of_ble_eq_true rfl), G78, G77w, V79, V80, sz_b63, sz_b74, ?_, ?_, ?_⟩
      · intro hB w hw
        have hS := (hperm BB).mpr hB
        obtain ⟨hS0, hS1, hS2⟩ := hS
        simp only [List.mem_cons, List.not_mem_nil, or_false] at hw
        rcases hw with rfl | rfl
        · exact wof_b hS0
        · exact wof_b hS2
      · intro t
        rw [← hperm (AA t)]
        simp only [allB, AA, zor, and_or_eq, Bool.and_eq_true, decide_eq_true_eq, Bool.and_true, and_true, ← c22]
        try simp only [and_assoc]
      · intro t
        rw [← hperm (NN t)]
        simp only [nonB, NN, zor, and_or_z, Bool.and_eq_true, decide_eq_true_eq, Bool.and_true, and_true, ← c22]
        try simp only [and_assoc]
  · refine E_icmp_eqN (pc' := 78) cx st20 d2_75 rfl c22 ?_
    refine E_aloadN (pc' := 79) cx st20 d2_78 rfl rfl rfl ?_
    refine E_iload (pc' := 81) cx st20 d2_79 rfl rfl ?_
    refine E_iinc (pc' := 84) (L' := #[.val (.ref o1), .val (.ref a1), .val (.ref ar2), .val (.ref ar7), .val (.ref ar11), .val (.int (2 : Int32)), .val (.ref ar2), .val (.int (3 : Int32)), .val (.int (1 : Int32)), .val (.int s1), .val (.int (wof s1))]) cx st20 (1 : Int32) d2_81 rfl rfl rfl rfl ?_
    refine E_iload (pc' := 86) cx st20 d2_84 rfl rfl ?_
    refine E_iastore (pc' := 87) (i := 1) cx st20 V21 ⟨by decide, by decide⟩ rfl (Nat.le_of_ble_eq_true rfl) g_ar7 d2_86 rfl ?_
    intro T81 h81 st81 W81 V81
    have Z81 : n0 ≤ h81.size := Nat.le_trans Z18 (Keep.of_wr W81).1
    have K81 : Keep h0 h81 [o1] := K18.wr W81 (Or.inr sz_ar7)
    have V81p : Arv Z h81 ar7 ca7 .int (3 : Int32) [(.int (wof s0)), (.int (wof s1)), (.int (0 : Int32))] (.int (0 : Int32)) := V81
    refine E_aload (pc' := 89) cx st81 d2_87 rfl rfl rfl ?_
    refine E_iload (pc' := 91) cx st81 d2_89 rfl rfl ?_
    refine E_iconst (pc' := 92) cx st81 (1 : Int32) d2_91 rfl rfl ?_
    refine E_isub (pc' := 93) cx st81 d2_92 rfl ?_
    rw [show ((2 : Int32) - (1 : Int32)) = (1 : Int32) from by decide]
    refine E_dup2 (pc' := 94) cx st81 d2_93 rfl rfl rfl ?_
    have V82 : Arv Z h81 ar11 ca11 .long (3 : Int32) [(.long ((0 : Int64) ||| (bitof s0))), (.long (0 : Int64)), (.long (0 : Int64))] (.long (0 : Int64)) := (V18p.other W81 (Ne.symm ne_ar7_ar11))
    refine E_laload (pc' := 95) (x := (0 : Int64)) cx st81 V82 ⟨by decide, by decide⟩ rfl d2_94 rfl ?_
    refine E_iload (pc' := 97) cx st81 d2_95 rfl rfl ?_
    refine E_callS (pc' := 100) (kc' := 3) (ks' := 9) (W := 4) (argsL := [(.int s1)]) cx st81 [(.long (0 : Int64)), (.int (1 : Int32)), (.ref ar11)] (rm9 l Z a0 hw s1 h81 n0 Z81) (hw _ (List.mem_of_getElem? (i := 42) rfl)) (hw _ (List.mem_of_getElem? (i := 43) rfl)) (hw _ (List.mem_of_getElem? (i := 40) rfl)) (hw _ (List.mem_of_getElem? (i := 44) rfl)) d2_97 rfl rfl (lenOf pd_8 rfl) (Nat.le_of_eq rfl) (by decide) (by decide) (by decide) (by decide) (by decide) (by decide) (by decide) rfl ?_
    intro v83 T83 h83 st83 hq83
    obtain ⟨rfl, hh83⟩ := hq83
    rw [hh83] at st83
    refine E_lor (pc' := 101) cx st83 d2_100 rfl ?_
    refine E_lastore (pc' := 102) (i := 1) cx st83 V82 ⟨by decide, by decide⟩ rfl (Nat.le_of_ble_eq_true rfl) g_ar11 d2_101 rfl ?_
    intro T84 h84 st84 W84 V84
    have Z84 : n0 ≤ h84.size := Nat.le_trans Z81 (Keep.of_wr W84).1
    have K84 : Keep h0 h84 [o1] := K81.wr W84 (Or.inr sz_ar11)
    have V84p : Arv Z h84 ar11 ca11 .long (3 : Int32) [(.long ((0 : Int64) ||| (bitof s0))), (.long ((0 : Int64) ||| (bitof s1))), (.long (0 : Int64))] (.long (0 : Int64)) := V84
    refine E_iinc (pc' := 105) (L' := #[.val (.ref o1), .val (.ref a1), .val (.ref ar2), .val (.ref ar7), .val (.ref ar11), .val (.int (2 : Int32)), .val (.ref ar2), .val (.int (3 : Int32)), .val (.int (2 : Int32)), .val (.int s1), .val (.int (wof s1))]) cx st84 (1 : Int32) d2_102 rfl rfl rfl rfl ?_
    refine E_goto (pc' := 41) cx st84 d2_105 (by decide) (by decide) ?_
    refine E_iload (pc' := 43) cx st84 d2_41 rfl rfl ?_
    refine E_iload (pc' := 45) cx st84 d2_43 rfl rfl ?_
    refine E_icmp_geN (pc' := 48) cx st84 d2_45 rfl (by decide) ?_
    refine E_aload (pc' := 50) cx st84 d2_48 rfl rfl rfl ?_
    refine E_iload (pc' := 52) cx st84 d2_50 rfl rfl ?_
    have V85 : Arv Z h84 ar2 kA .int (3 : Int32) [(.int s0), (.int s1), (.int s2)] (.int (0 : Int32)) := ((V19.other W81 ne_ar2_ar7).other W84 ne_ar2_ar11)
    refine E_iaload (pc' := 53) (x := s2) cx st84 V85 ⟨by decide, by decide⟩ rfl d2_52 rfl ?_
    refine E_istore (pc' := 55) (L' := #[.val (.ref o1), .val (.ref a1), .val (.ref ar2), .val (.ref ar7), .val (.ref ar11), .val (.int (2 : Int32)), .val (.ref ar2), .val (.int (3 : Int32)), .val (.int (2 : Int32)), .val (.int s2), .val (.int (wof s1))]) cx st84 d2_53 rfl rfl ?_
    refine E_iload (pc' := 57) cx st84 d2_55 rfl rfl ?_
    refine E_callS (pc' := 60) (kc' := 3) (ks' := 9) (W := 0) (argsL := [(.int s2)]) cx st84 [] (rm8 l Z a0 hw s2 h84 n0 Z84) (hw _ (List.mem_of_getElem? (i := 38) rfl)) (hw _ (List.mem_of_getElem? (i := 39) rfl)) (hw _ (List.mem_of_getElem? (i := 40) rfl)) (hw _ (List.mem_of_getElem? (i := 41) rfl)) d2_57 rfl rfl (lenOf pd_7 rfl) (Nat.le_of_eq rfl) (by decide) (by decide) (by decide) (by decide) (by decide) (by decide) (by decide) rfl ?_
    intro v86 T86 h86 st86 hq86
    obtain ⟨rfl, hh86⟩ := hq86
    rw [hh86] at st86
    refine E_istore (pc' := 62) (L' := #[.val (.ref o1), .val (.ref a1), .val (.ref ar2), .val (.ref ar7), .val (.ref ar11), .val (.int (2 : Int32)), .val (.ref ar2), .val (.int (3 : Int32)), .val (.int (2 : Int32)), .val (.int s2), .val (.int (wof s2))]) cx st86 d2_60 rfl rfl ?_
    refine E_iload (pc' := 64) cx st86 d2_62 rfl rfl ?_
    refine E_if_eqN (pc' := 67) cx st86 d2_64 rfl (by decide) ?_
    refine E_aloadN (pc' := 68) cx st86 d2_67 rfl rfl rfl ?_
    refine E_iload (pc' := 70) cx st86 d2_68 rfl rfl ?_
    refine E_iconst (pc' := 71) cx st86 (1 : Int32) d2_70 rfl rfl ?_
    refine E_isub (pc' := 72) cx st86 d2_71 rfl ?_
    rw [show ((2 : Int32) - (1 : Int32)) = (1 : Int32) from by decide]
    have V87 : Arv Z h84 ar7 ca7 .int (3 : Int32) [(.int (wof s0)), (.int (wof s1)), (.int (0 : Int32))] (.int (0 : Int32)) := (V81p.other W84 ne_ar7_ar11)
    refine E_iaload (pc' := 73) (x := (wof s1)) cx st86 V87 ⟨by decide, by decide⟩ rfl d2_72 rfl ?_
    refine E_iload (pc' := 75) cx st86 d2_73 rfl rfl ?_
    by_cases c88 : (wof s1) = (wof s2)
    · refine E_icmp_eqY (pc' := 87) cx st86 d2_75 (by decide) (by decide) c88 ?_
      refine E_aload (pc' := 89) cx st86 d2_87 rfl rfl rfl ?_
      refine E_iload (pc' := 91) cx st86 d2_89 rfl rfl ?_
      refine E_iconst (pc' := 92) cx st86 (1 : Int32) d2_91 rfl rfl ?_
      refine E_isub (pc' := 93) cx st86 d2_92 rfl ?_
      rw [show ((2 : Int32) - (1 : Int32)) = (1 : Int32) from by decide]
      refine E_dup2 (pc' := 94) cx st86 d2_93 rfl rfl rfl ?_
      refine E_laload (pc' := 95) (x := ((0 : Int64) ||| (bitof s1))) cx st86 V84p ⟨by decide, by decide⟩ rfl d2_94 rfl ?_
      refine E_iload (pc' := 97) cx st86 d2_95 rfl rfl ?_
      refine E_callS (pc' := 100) (kc' := 3) (ks' := 9) (W := 4) (argsL := [(.int s2)]) cx st86 [(.long ((0 : Int64) ||| (bitof s1))), (.int (1 : Int32)), (.ref ar11)] (rm9 l Z a0 hw s2 h84 n0 Z84) (hw _ (List.mem_of_getElem? (i := 42) rfl)) (hw _ (List.mem_of_getElem? (i := 43) rfl)) (hw _ (List.mem_of_getElem? (i := 40) rfl)) (hw _ (List.mem_of_getElem? (i := 44) rfl)) d2_97 rfl rfl (lenOf pd_8 rfl) (Nat.le_of_eq rfl) (by decide) (by decide) (by decide) (by decide) (by decide) (by decide) (by decide) rfl ?_
      intro v89 T89 h89 st89 hq89
      obtain ⟨rfl, hh89⟩ := hq89
      rw [hh89] at st89
      refine E_lor (pc' := 101) cx st89 d2_100 rfl ?_
      refine E_lastore (pc' := 102) (i := 1) cx st89 V84p ⟨by decide, by decide⟩ rfl (Nat.le_of_ble_eq_true rfl) g_ar11 d2_101 rfl ?_
      intro T90 h90 st90 W90 V90
      have Z90 : n0 ≤ h90.size := Nat.le_trans Z84 (Keep.of_wr W90).1
      have K90 : Keep h0 h90 [o1] := K84.wr W90 (Or.inr sz_ar11)
      have V90p : Arv Z h90 ar11 ca11 .long (3 : Int32) [(.long ((0 : Int64) ||| (bitof s0))), (.long (((0 : Int64) ||| (bitof s1)) ||| (bitof s2))), (.long (0 : Int64))] (.long (0 : Int64)) := V90
      refine E_iinc (pc' := 105) (L' := #[.val (.ref o1), .val (.ref a1), .val (.ref ar2), .val (.ref ar7), .val (.ref ar11), .val (.int (2 : Int32)), .val (.ref ar2), .val (.int (3 : Int32)), .val (.int (3 : Int32)), .val (.int s2), .val (.int (wof s2))]) cx st90 (1 : Int32) d2_102 rfl rfl rfl rfl ?_
      refine E_goto (pc' := 41) cx st90 d2_105 (by decide) (by decide) ?_
      refine E_iload (pc' := 43) cx st90 d2_41 rfl rfl ?_
      refine E_iload (pc' := 45) cx st90 d2_43 rfl rfl ?_
      refine E_icmp_geY (pc' := 108) cx st90 d2_45 (by decide) (by decide) (by decide) ?_
      refine E_aloadN (pc' := 109) cx st90 d2_108 rfl rfl rfl ?_
      refine E_aloadN (pc' := 110) cx st90 d2_109 rfl rfl rfl ?_
      refine E_iload (pc' := 112) cx st90 d2_110 rfl rfl ?_
      have V91 : Arv Z h90 ar7 ca7 .int (3 : Int32) [(.int (wof s0)), (.int (wof s1)), (.int (0 : Int32))] (.int (0 : Int32)) := (V87.other W90 ne_ar7_ar11)
      have X92 : Exa Z h90 ar7 "[I" := ((((((X7.ext E11).wr W15).wr W18).wr W81).wr W84).wr W90)
      have X93 : Exa Z h90 o1 "com/example/flat_planner/flatplanner/AtomMask" := ((((((X9.ext E11).wr W15).wr W18).wr W81).wr W84).wr W90)
      have V94 : Arv Z h90 a1 kA .int (3 : Int32) [(.int x0), (.int x1), (.int x2)] (.int (0 : Int32)) := ((((((V10.ext E11).other W15 ne_a1_ar7).other W18 ne_a1_ar11).other W81 ne_a1_ar7).other W84 ne_a1_ar11).other W90 ne_a1_ar11)
      have V95 : Arv Z h90 ar2 kA .int (3 : Int32) [(.int s0), (.int s1), (.int s2)] (.int (0 : Int32)) := (V85.other W90 ne_ar2_ar11)
      refine E_callS (pc' := 115) (kc' := 4) (ks' := 11) (W := 1) (argsL := [(.ref ar7), (.int (2 : Int32))]) cx st90 [(.ref o1)] (rm10n3c2 l Z a0 hw ar7 (wof s0) (wof s1) (0 : Int32) h90 n0 Z90 ca7 X92 V91) (hw _ (List.mem_of_getElem? (i := 45) rfl)) (hw _ (List.mem_of_getElem? (i := 46) rfl)) (hw _ (List.mem_of_getElem? (i := 25) rfl)) (hw _ (List.mem_of_getElem? (i := 47) rfl)) d2_112 rfl rfl (lenOf pd_5 rfl) (Nat.le_of_eq rfl) (by decide) (by decide) (by decide) (by decide) (by decide) (by decide) (by decide) rfl ?_
      intro v96 T96 h96 st96 hq96
      obtain ⟨b96, kb96, rfl, sz96, Kq96, Vq96⟩ := hq96
      have sz_b96 : h0.size ≤ b96 := Nat.le_trans K90.1 sz96
      have Z96 : n0 ≤ h96.size := Nat.le_trans Z90 Kq96.1
      have KKq96' : Keep h0 h96 [o1] := K90.trans Kq96 all0
      have ne_o1_b96 : o1 ≠ b96 := Nat.ne_of_lt (Nat.lt_of_lt_of_le X93.lt sz96)
      have ne_a1_b96 : a1 ≠ b96 := Nat.ne_of_lt (Nat.lt_of_lt_of_le V94.lt sz96)
      have ne_ar2_b96 : ar2 ≠ b96 := Nat.ne_of_lt (Nat.lt_of_lt_of_le V95.lt sz96)
      have ne_ar7_b96 : ar7 ≠ b96 := Nat.ne_of_lt (Nat.lt_of_lt_of_le V91.lt sz96)
      have ne_ar11_b96 : ar11 ≠ b96 := Nat.ne_of_lt (Nat.lt_of_lt_of_le V90p.lt sz96)
      have G97 : Fld Z h96 o1 "com/example/flat_planner/flatplanner/AtomMask" "words" "[I" .null := ((((((((((Fw.ext E2).keep Ks (ninS ne_o1_ar2 nin0)).ext E7).ext E11).other W15 (Or.inl ne_o1_ar7)).other W18 (Or.inl ne_o1_ar11)).other W81 (Or.inl ne_o1_ar7)).other W84 (Or.inl ne_o1_ar11)).other W90 (Or.inl ne_o1_ar11)).keep Kq96 nin0)
      have X98 : Exa Z h96 o1 "com/example/flat_planner/flatplanner/AtomMask" := (X93.keep Kq96)
      refine E_putfield (pc' := 118) (ty := (.array .int)) cx st96 (hw _ (List.mem_of_getElem? (i := 50) rfl)) G97 X98 (Or.inr ⟨(hw _ (List.mem_of_getElem? (i := 51) rfl)), rfl, rfl⟩) (hw _ (List.mem_of_getElem? (i := 6) rfl)) (by decide) rfl rfl g_o1 d2_115 rfl ?_
      intro T99 h99 st99 W99
      have Z99 : n0 ≤ h99.size := Nat.le_trans Z96 (Keep.of_wr W99).1
      have K99 : Keep h0 h99 [o1] := KKq96'.wr W99 (Or.inl (List.mem_of_getElem? (i := 0) rfl))
      have G99w : Fld Z h99 o1 "com/example/flat_planner/flatplanner/AtomMask" "words" "[I" (.ref b96) := G97.same W99
      refine E_aloadN (pc' := 119) cx st99 d2_118 rfl rfl rfl ?_
      refine E_aload (pc' := 121) cx st99 d2_119 rfl rfl rfl ?_
      refine E_iload (pc' := 123) cx st99 d2_121 rfl rfl ?_
      have V100 : Arv Z h99 ar11 ca11 .long (3 : Int32) [(.long ((0 : Int64) ||| (bitof s0))), (.long (((0 : Int64) ||| (bitof s1)) ||| (bitof s2))), (.long (0 : Int64))] (.long (0 : Int64)) := ((V90p.keep Kq96 nin0).other W99 (Ne.symm ne_o1_ar11))
      have X101 : Exa Z h99 ar11 "[J" := (((((((X11.wr W15).wr W18).wr W81).wr W84).wr W90).keep Kq96).wr W99)
      have X102 : Exa Z h99 o1 "com/example/flat_planner/flatplanner/AtomMask" := (X98.wr W99)
      have V103 : Arv Z h99 a1 kA .int (3 : Int32) [(.int x0), (.int x1), (.int x2)] (.int (0 : Int32)) := ((V94.keep Kq96 nin0).other W99 (Ne.symm hne))
      have V104 : Arv Z h99 ar2 kA .int (3 : Int32) [(.int s0), (.int s1), (.int s2)] (.int (0 : Int32)) := ((V95.keep Kq96 nin0).other W99 (Ne.symm ne_o1_ar2))
      have V105 : Arv Z h99 ar7 ca7 .int (3 : Int32) [(.int (wof s0)), (.int (wof s1)), (.int (0 : Int32))] (.int (0 : Int32)) := ((V91.keep Kq96 nin0).other W99 (Ne.symm ne_o1_ar7))
      have V106 : Arv Z h99 b96 kb96 .int (2 : Int32) [(.int (wof s0)), (.int (wof s1))] (.int (0 : Int32)) := (Vq96.other W99 (Ne.symm ne_o1_b96))
      refine E_callS (pc' := 126) (kc' := 5) (ks' := 13) (W := 1) (argsL := [(.ref ar11), (.int (2 : Int32))]) cx st99 [(.ref o1)] (rm11n3c2 l Z a0 hw ar11 ((0 : Int64) ||| (bitof s0)) (((0 : Int64) ||| (bitof s1)) ||| (bitof s2)) (0 : Int64) h99 n0 Z99 ca11 X101 V100) (hw _ (List.mem_of_getElem? (i := 52) rfl)) (hw _ (List.mem_of_getElem? (i := 53) rfl)) (hw _ (List.mem_of_getElem? (i := 25) rfl)) (hw _ (List.mem_of_getElem? (i := 54) rfl)) d2_123 rfl rfl (lenOf pd_6 rfl) (Nat.le_of_eq rfl) (by decide) (by decide) (by decide) (by decide) (by decide) (by decide) (by decide) rfl ?_
      intro v107 T107 h107 st107 hq107
      obtain ⟨b107, kb107, rfl, sz107, Kq107, Vq107⟩ := hq107
      have sz_b107 : h0.size ≤ b107 := Nat.le_trans K99.1 sz107
      have Z107 : n0 ≤ h107.size := Nat.le_trans Z99 Kq107.1
      have KKq107' : Keep h0 h107 [o1] := K99.trans Kq107 all0
      have ne_o1_b107 : o1 ≠ b107 := Nat.ne_of_lt (Nat.lt_of_lt_of_le X102.lt sz107)
      have ne_a1_b107 : a1 ≠ b107 := Nat.ne_of_lt (Nat.lt_of_lt_of_le V103.lt sz107)
      have ne_ar2_b107 : ar2 ≠ b107 := Nat.ne_of_lt (Nat.lt_of_lt_of_le V104.lt sz107)
      have ne_ar7_b107 : ar7 ≠ b107 := Nat.ne_of_lt (Nat.lt_of_lt_of_le V105.lt sz107)
      have ne_ar11_b107 : ar11 ≠ b107 := Nat.ne_of_lt (Nat.lt_of_lt_of_le V100.lt sz107)
      have ne_b96_b107 : b96 ≠ b107 := Nat.ne_of_lt (Nat.lt_of_lt_of_le V106.lt sz107)
      have G108 : Fld Z h107 o1 "com/example/flat_planner/flatplanner/AtomMask" "masks" "[J" .null := ((((((((((((Fm.ext E2).keep Ks (ninS ne_o1_ar2 nin0)).ext E7).ext E11).other W15 (Or.inl ne_o1_ar7)).other W18 (Or.inl ne_o1_ar11)).other W81 (Or.inl ne_o1_ar7)).other W84 (Or.inl ne_o1_ar11)).other W90 (Or.inl ne_o1_ar11)).keep Kq96 nin0).other W99 (Or.inr (slot_ne (Or.inr (hw _ (List.mem_of_getElem? (i := 62) rfl))) (Or.inr (hw _ (List.mem_of_getElem? (i := 51) rfl))) (by decide) (t := (.array .long)) (t' := (.array .int)) (by decide) (by decide)))).keep Kq107 nin0)
      have X109 : Exa Z h107 o1 "com/example/flat_planner/flatplanner/AtomMask" := (X102.keep Kq107)
      refine E_putfield (pc' := 129) (ty := (.array .long)) cx st107 (hw _ (List.mem_of_getElem? (i := 61) rfl)) G108 X109 (Or.inr ⟨(hw _ (List.mem_of_getElem? (i := 62) rfl)), rfl, rfl⟩) (hw _ (List.mem_of_getElem? (i := 6) rfl)) (by decide) rfl rfl g_o1 d2_126 rfl ?_
      intro T110 h110 st110 W110
      have Z110 : n0 ≤ h110.size := Nat.le_trans Z107 (Keep.of_wr W110).1
      have K110 : Keep h0 h110 [o1] := KKq107'.wr W110 (Or.inl (List.mem_of_getElem? (i := 0) rfl))
      have G110w : Fld Z h110 o1 "com/example/flat_planner/flatplanner/AtomMask" "masks" "[J" (.ref b107) := G108.same W110
      have G111 : Fld Z h110 o1 "com/example/flat_planner/flatplanner/AtomMask" "words" "[I" (.ref b96) := ((G99w.keep Kq107 nin0).other W110 (Or.inr (slot_ne (Or.inr (hw _ (List.mem_of_getElem? (i := 51) rfl))) (Or.inr (hw _ (List.mem_of_getElem? (i := 62) rfl))) (by decide) (t := (.array .int)) (t' := (.array .long)) (by decide) (by decide))))
      have V112 : Arv Z h110 b96 kb96 .int (2 : Int32) [(.int (wof s0)), (.int (wof s1))] (.int (0 : Int32)) := ((V106.keep Kq107 nin0).other W110 (Ne.symm ne_o1_b96))
      have V113 : Arv Z h110 b107 kb107 .long (2 : Int32) [(.long ((0 : Int64) ||| (bitof s0))), (.long (((0 : Int64) ||| (bitof s1)) ||| (bitof s2)))] (.long (0 : Int64)) := (Vq107.other W110 (Ne.symm ne_o1_b107))
      refine E_return cx st110 d2_129 rfl (by decide) (by decide) ?_
      refine ⟨rfl, K110, b96, b107, kb96, kb107, [(wof s0), (wof s1)], [((0 : Int64) ||| (bitof s0)), (((0 : Int64) ||| (bitof s1)) ||| (bitof s2))], rfl, (Nat.le_of_ble_eq_true rfl), G111, G110w, V112, V113, sz_b96, sz_b107, ?_, ?_, ?_⟩
      · intro hB w hw
        have hS := (hperm BB).mpr hB
        obtain ⟨hS0, hS1, hS2⟩ := hS
        simp only [List.mem_cons, List.not_mem_nil, or_false] at hw
        rcases hw with rfl | rfl
        · exact wof_b hS0
        · exact wof_b hS1
      · intro t
        rw [← hperm (AA t)]
        simp only [allB, AA, zor, and_or_eq, Bool.and_eq_true, decide_eq_true_eq, Bool.and_true, and_true, ← c88]
        try simp only [and_assoc]
      · intro t
        rw [← hperm (NN t)]
        simp only [nonB, NN, zor, and_or_z, Bool.and_eq_true, decide_eq_true_eq, Bool.and_true, and_true, ← c88]
        try simp only [and_assoc]
    · refine E_icmp_eqN (pc' := 78) cx st86 d2_75 rfl c88 ?_
      refine E_aloadN (pc' := 79) cx st86 d2_78 rfl rfl rfl ?_
      refine E_iload (pc' := 81) cx st86 d2_79 rfl rfl ?_
      refine E_iinc (pc' := 84) (L' := #[.val (.ref o1), .val (.ref a1), .val (.ref ar2), .val (.ref ar7), .val (.ref ar11), .val (.int (3 : Int32)), .val (.ref ar2), .val (.int (3 : Int32)), .val (.int (2 : Int32)), .val (.int s2), .val (.int (wof s2))]) cx st86 (1 : Int32) d2_81 rfl rfl rfl rfl ?_
      refine E_iload (pc' := 86) cx st86 d2_84 rfl rfl ?_
      refine E_iastore (pc' := 87) (i := 2) cx st86 V87 ⟨by decide, by decide⟩ rfl (Nat.le_of_ble_eq_true rfl) g_ar7 d2_86 rfl ?_
      intro T114 h114 st114 W114 V114
      have Z114 : n0 ≤ h114.size := Nat.le_trans Z84 (Keep.of_wr W114).1
      have K114 : Keep h0 h114 [o1] := K84.wr W114 (Or.inr sz_ar7)
      have V114p : Arv Z h114 ar7 ca7 .int (3 : Int32) [(.int (wof s0)), (.int (wof s1)), (.int (wof s2))] (.int (0 : Int32)) := V114
      refine E_aload (pc' := 89) cx st114 d2_87 rfl rfl rfl ?_
      refine E_iload (pc' := 91) cx st114 d2_89 rfl rfl ?_
      refine E_iconst (pc' := 92) cx st114 (1 : Int32) d2_91 rfl rfl ?_
      refine E_isub (pc' := 93) cx st114 d2_92 rfl ?_
      rw [show ((3 : Int32) - (1 : Int32)) = (2 : Int32) from by decide]
      refine E_dup2 (pc' := 94) cx st114 d2_93 rfl rfl rfl ?_
      have V115 : Arv Z h114 ar11 ca11 .long (3 : Int32) [(.long ((0 : Int64) ||| (bitof s0))), (.long ((0 : Int64) ||| (bitof s1))), (.long (0 : Int64))] (.long (0 : Int64)) := (V84p.other W114 (Ne.symm ne_ar7_ar11))
      refine E_laload (pc' := 95) (x := (0 : Int64)) cx st114 V115 ⟨by decide, by decide⟩ rfl d2_94 rfl ?_
      refine E_iload (pc' := 97) cx st114 d2_95 rfl rfl ?_
      refine E_callS (pc' := 100) (kc' := 3) (ks' := 9) (W := 4) (argsL := [(.int s2)]) cx st114 [(.long (0 : Int64)), (.int (2 : Int32)), (.ref ar11)] (rm9 l Z a0 hw s2 h114 n0 Z114) (hw _ (List.mem_of_getElem? (i := 42) rfl)) (hw _ (List.mem_of_getElem? (i := 43) rfl)) (hw _ (List.mem_of_getElem? (i := 40) rfl)) (hw _ (List.mem_of_getElem? (i := 44) rfl)) d2_97 rfl rfl (lenOf pd_8 rfl) (Nat.le_of_eq rfl) (by decide) (by decide) (by decide) (by decide) (by decide) (by decide) (by decide) rfl ?_
      intro v116 T116 h116 st116 hq116
      obtain ⟨rfl, hh116⟩ := hq116
      rw [hh116] at st116
      refine E_lor (pc' := 101) cx st116 d2_100 rfl ?_
      refine E_lastore (pc' := 102) (i := 2) cx st116 V115 ⟨by decide, by decide⟩ rfl (Nat.le_of_ble_eq_true rfl) g_ar11 d2_101 rfl ?_
      intro T117 h117 st117 W117 V117
      have Z117 : n0 ≤ h117.size := Nat.le_trans Z114 (Keep.of_wr W117).1
      have K117 : Keep h0 h117 [o1] := K114.wr W117 (Or.inr sz_ar11)
      have V117p : Arv Z h117 ar11 ca11 .long (3 : Int32) [(.long ((0 : Int64) ||| (bitof s0))), (.long ((0 : Int64) ||| (bitof s1))), (.long ((0 : Int64) ||| (bitof s2)))] (.long (0 : Int64)) := V117
      refine E_iinc (pc' := 105) (L' := #[.val (.ref o1), .val (.ref a1), .val (.ref ar2), .val (.ref ar7), .val (.ref ar11), .val (.int (3 : Int32)), .val (.ref ar2), .val (.int (3 : Int32)), .val (.int (3 : Int32)), .val (.int s2), .val (.int (wof s2))]) cx st117 (1 : Int32) d2_102 rfl rfl rfl rfl ?_
      refine E_goto (pc' := 41) cx st117 d2_105 (by decide) (by decide) ?_
      refine E_iload (pc' := 43) cx st117 d2_41 rfl rfl ?_
      refine E_iload (pc' := 45) cx st117 d2_43 rfl rfl ?_
      refine E_icmp_geY (pc' := 108) cx st117 d2_45 (by decide) (by decide) (by decide) ?_
      refine E_aloadN (pc' := 109) cx st117 d2_108 rfl rfl rfl ?_
      refine E_aloadN (pc' := 110) cx st117 d2_109 rfl rfl rfl ?_
      refine E_iload (pc' := 112) cx st117 d2_110 rfl rfl ?_
      have V118 : Arv Z h117 ar7 ca7 .int (3 : Int32) [(.int (wof s0)), (.int (wof s1)), (.int (wof s2))] (.int (0 : Int32)) := (V114p.other W117 ne_ar7_ar11)
      have X119 : Exa Z h117 ar7 "[I" := (((((((X7.ext E11).wr W15).wr W18).wr W81).wr W84).wr W114).wr W117)
      have X120 : Exa Z h117 o1 "com/example/flat_planner/flatplanner/AtomMask" := (((((((X9.ext E11).wr W15).wr W18).wr W81).wr W84).wr W114).wr W117)
      have V121 : Arv Z h117 a1 kA .int (3 : Int32) [(.int x0), (.int x1), (.int x2)] (.int (0 : Int32)) := (((((((V10.ext E11).other W15 ne_a1_ar7).other W18 ne_a1_ar11).other W81 ne_a1_ar7).other W84 ne_a1_ar11).other W114 ne_a1_ar7).other W117 ne_a1_ar11)
      have V122 : Arv Z h117 ar2 kA .int (3 : Int32) [(.int s0), (.int s1), (.int s2)] (.int (0 : Int32)) := ((V85.other W114 ne_ar2_ar7).other W117 ne_ar2_ar11)
      refine E_callS (pc' := 115) (kc' := 4) (ks' := 12) (W := 1) (argsL := [(.ref ar7), (.int (3 : Int32))]) cx st117 [(.ref o1)] (rm10n3c3 l Z a0 hw ar7 (wof s0) (wof s1) (wof s2) h117 n0 Z117 ca7 X119 V118) (hw _ (List.mem_of_getElem? (i := 45) rfl)) (hw _ (List.mem_of_getElem? (i := 46) rfl)) (hw _ (List.mem_of_getElem? (i := 25) rfl)) (hw _ (List.mem_of_getElem? (i := 47) rfl)) d2_112 rfl rfl (lenOf pd_5 rfl) (Nat.le_of_eq rfl) (by decide) (by decide) (by decide) (by decide) (by decide) (by decide) (by decide) rfl ?_
      intro v123 T123 h123 st123 hq123
      obtain ⟨b123, kb123, rfl, sz123, Kq123, Vq123⟩ := hq123
      have sz_b123 : h0.size ≤ b123 := Nat.le_trans K117.1 sz123
      have Z123 : n0 ≤ h123.size := Nat.le_trans Z117 Kq123.1
      have KKq123' : Keep h0 h123 [o1] := K117.trans Kq123 all0
      have ne_o1_b123 : o1 ≠ b123 := Nat.ne_of_lt (Nat.lt_of_lt_of_le X120.lt sz123)
      have ne_a1_b123 : a1 ≠ b123 := Nat.ne_of_lt (Nat.lt_of_lt_of_le V121.lt sz123)
      have ne_ar2_b123 : ar2 ≠ b123 := Nat.ne_of_lt (Nat.lt_of_lt_of_le V122.lt sz123)
      have ne_ar7_b123 : ar7 ≠ b123 := Nat.ne_of_lt (Nat.lt_of_lt_of_le V118.lt sz123)
      have ne_ar11_b123 : ar11 ≠ b123 := Nat.ne_of_lt (Nat.lt_of_lt_of_le V117p.lt sz123)
      have G124 : Fld Z h123 o1 "com/example/flat_planner/flatplanner/AtomMask" "words" "[I" .null := (((((((((((Fw.ext E2).keep Ks (ninS ne_o1_ar2 nin0)).ext E7).ext E11).other W15 (Or.inl ne_o1_ar7)).other W18 (Or.inl ne_o1_ar11)).other W81 (Or.inl ne_o1_ar7)).other W84 (Or.inl ne_o1_ar11)).other W114 (Or.inl ne_o1_ar7)).other W117 (Or.inl ne_o1_ar11)).keep Kq123 nin0)
      have X125 : Exa Z h123 o1 "com/example/flat_planner/flatplanner/AtomMask" := (X120.keep Kq123)
      refine E_putfield (pc' := 118) (ty := (.array .int)) cx st123 (hw _ (List.mem_of_getElem? (i := 50) rfl)) G124 X125 (Or.inr ⟨(hw _ (List.mem_of_getElem? (i := 51) rfl)), rfl, rfl⟩) (hw _ (List.mem_of_getElem? (i := 6) rfl)) (by decide) rfl rfl g_o1 d2_115 rfl ?_
      intro T126 h126 st126 W126
      have Z126 : n0 ≤ h126.size := Nat.le_trans Z123 (Keep.of_wr W126).1
      have K126 : Keep h0 h126 [o1] := KKq123'.wr W126 (Or.inl (List.mem_of_getElem? (i := 0) rfl))
      have G126w : Fld Z h126 o1 "com/example/flat_planner/flatplanner/AtomMask" "words" "[I" (.ref b123) := G124.same W126
      refine E_aloadN (pc' := 119) cx st126 d2_118 rfl rfl rfl ?_
      refine E_aload (pc' := 121) cx st126 d2_119 rfl rfl rfl ?_
      refine E_iload (pc' := 123) cx st126 d2_121 rfl rfl ?_
      have V127 : Arv Z h126 ar11 ca11 .long (3 : Int32) [(.long ((0 : Int64) ||| (bitof s0))), (.long ((0 : Int64) ||| (bitof s1))), (.long ((0 : Int64) ||| (bitof s2)))] (.long (0 : Int64)) := ((V117p.keep Kq123 nin0).other W126 (Ne.symm ne_o1_ar11))
      have X128 : Exa Z h126 ar11 "[J" := ((((((((X11.wr W15).wr W18).wr W81).wr W84).wr W114).wr W117).keep Kq123).wr W126)
      have X129 : Exa Z h126 o1 "com/example/flat_planner/flatplanner/AtomMask" := (X125.wr W126)
      have V130 : Arv Z h126 a1 kA .int (3 : Int32) [(.int x0), (.int x1), (.int x2)] (.int (0 : Int32)) := ((V121.keep Kq123 nin0).other W126 (Ne.symm hne))
      have V131 : Arv Z h126 ar2 kA .int (3 : Int32) [(.int s0), (.int s1), (.int s2)] (.int (0 : Int32)) := ((V122.keep Kq123 nin0).other W126 (Ne.symm ne_o1_ar2))
      have V132 : Arv Z h126 ar7 ca7 .int (3 : Int32) [(.int (wof s0)), (.int (wof s1)), (.int (wof s2))] (.int (0 : Int32)) := ((V118.keep Kq123 nin0).other W126 (Ne.symm ne_o1_ar7))
      have V133 : Arv Z h126 b123 kb123 .int (3 : Int32) [(.int (wof s0)), (.int (wof s1)), (.int (wof s2))] (.int (0 : Int32)) := (Vq123.other W126 (Ne.symm ne_o1_b123))
      refine E_callS (pc' := 126) (kc' := 5) (ks' := 15) (W := 1) (argsL := [(.ref ar11), (.int (3 : Int32))]) cx st126 [(.ref o1)] (rm11n3c3 l Z a0 hw ar11 ((0 : Int64) ||| (bitof s0)) ((0 : Int64) ||| (bitof s1)) ((0 : Int64) ||| (bitof s2)) h126 n0 Z126 ca11 X128 V127) (hw _ (List.mem_of_getElem? (i := 52) rfl)) (hw _ (List.mem_of_getElem? (i := 53) rfl)) (hw _ (List.mem_of_getElem? (i := 25) rfl)) (hw _ (List.mem_of_getElem? (i := 54) rfl)) d2_123 rfl rfl (lenOf pd_6 rfl) (Nat.le_of_eq rfl) (by decide) (by decide) (by decide) (by decide) (by decide) (by decide) (by decide) rfl ?_
      intro v134 T134 h134 st134 hq134
      obtain ⟨b134, kb134, rfl, sz134, Kq134, Vq134⟩ := hq134
      have sz_b134 : h0.size ≤ b134 := Nat.le_trans K126.1 sz134
      have Z134 : n0 ≤ h134.size := Nat.le_trans Z126 Kq134.1
      have KKq134' : Keep h0 h134 [o1] := K126.trans Kq134 all0
      have ne_o1_b134 : o1 ≠ b134 := Nat.ne_of_lt (Nat.lt_of_lt_of_le X129.lt sz134)
      have ne_a1_b134 : a1 ≠ b134 := Nat.ne_of_lt (Nat.lt_of_lt_of_le V130.lt sz134)
      have ne_ar2_b134 : ar2 ≠ b134 := Nat.ne_of_lt (Nat.lt_of_lt_of_le V131.lt sz134)
      have ne_ar7_b134 : ar7 ≠ b134 := Nat.ne_of_lt (Nat.lt_of_lt_of_le V132.lt sz134)
      have ne_ar11_b134 : ar11 ≠ b134 := Nat.ne_of_lt (Nat.lt_of_lt_of_le V127.lt sz134)
      have ne_b123_b134 : b123 ≠ b134 := Nat.ne_of_lt (Nat.lt_of_lt_of_le V133.lt sz134)
      have G135 : Fld Z h134 o1 "com/example/flat_planner/flatplanner/AtomMask" "masks" "[J" .null := (((((((((((((Fm.ext E2).keep Ks (ninS ne_o1_ar2 nin0)).ext E7).ext E11).other W15 (Or.inl ne_o1_ar7)).other W18 (Or.inl ne_o1_ar11)).other W81 (Or.inl ne_o1_ar7)).other W84 (Or.inl ne_o1_ar11)).other W114 (Or.inl ne_o1_ar7)).other W117 (Or.inl ne_o1_ar11)).keep Kq123 nin0).other W126 (Or.inr (slot_ne (Or.inr (hw _ (List.mem_of_getElem? (i := 62) rfl))) (Or.inr (hw _ (List.mem_of_getElem? (i := 51) rfl))) (by decide) (t := (.array .long)) (t' := (.array .int)) (by decide) (by decide)))).keep Kq134 nin0)
      have X136 : Exa Z h134 o1 "com/example/flat_planner/flatplanner/AtomMask" := (X129.keep Kq134)
      refine E_putfield (pc' := 129) (ty := (.array .long)) cx st134 (hw _ (List.mem_of_getElem? (i := 61) rfl)) G135 X136 (Or.inr ⟨(hw _ (List.mem_of_getElem? (i := 62) rfl)), rfl, rfl⟩) (hw _ (List.mem_of_getElem? (i := 6) rfl)) (by decide) rfl rfl g_o1 d2_126 rfl ?_
      intro T137 h137 st137 W137
      have Z137 : n0 ≤ h137.size := Nat.le_trans Z134 (Keep.of_wr W137).1
      have K137 : Keep h0 h137 [o1] := KKq134'.wr W137 (Or.inl (List.mem_of_getElem? (i := 0) rfl))
      have G137w : Fld Z h137 o1 "com/example/flat_planner/flatplanner/AtomMask" "masks" "[J" (.ref b134) := G135.same W137
      have G138 : Fld Z h137 o1 "com/example/flat_planner/flatplanner/AtomMask" "words" "[I" (.ref b123) := ((G126w.keep Kq134 nin0).other W137 (Or.inr (slot_ne (Or.inr (hw _ (List.mem_of_getElem? (i := 51) rfl))) (Or.inr (hw _ (List.mem_of_getElem? (i := 62) rfl))) (by decide) (t := (.array .int)) (t' := (.array .long)) (by decide) (by decide))))
      have V139 : Arv Z h137 b123 kb123 .int (3 : Int32) [(.int (wof s0)), (.int (wof s1)), (.int (wof s2))] (.int (0 : Int32)) := ((V133.keep Kq134 nin0).other W137 (Ne.symm ne_o1_b123))
      have V140 : Arv Z h137 b134 kb134 .long (3 : Int32) [(.long ((0 : Int64) ||| (bitof s0))), (.long ((0 : Int64) ||| (bitof s1))), (.long ((0 : Int64) ||| (bitof s2)))] (.long (0 : Int64)) := (Vq134.other W137 (Ne.symm ne_o1_b134))
      refine E_return cx st137 d2_129 rfl (by decide) (by decide) ?_
      refine ⟨rfl, K137, b123, b134, kb123, kb134, [(wof s0), (wof s1), (wof s2)], [((0 : Int64) ||| (bitof s0)), ((0 : Int64) ||| (bitof s1)), ((0 : Int64) ||| (bitof s2))], rfl, (Nat.le_of_ble_eq_true rfl), G138, G137w, V139, V140, sz_b123, sz_b134, ?_, ?_, ?_⟩
      · intro hB w hw
        have hS := (hperm BB).mpr hB
        obtain ⟨hS0, hS1, hS2⟩ := hS
        simp only [List.mem_cons, List.not_mem_nil, or_false] at hw
        rcases hw with rfl | rfl | rfl
        · exact wof_b hS0
        · exact wof_b hS1
        · exact wof_b hS2
      · intro t
        rw [← hperm (AA t)]
        simp only [allB, AA, zor, and_or_eq, Bool.and_eq_true, decide_eq_true_eq, Bool.and_true, and_true]
        try simp only [and_assoc]
      · intro t
        rw [← hperm (NN t)]
        simp only [nonB, NN, zor, and_or_z, Bool.and_eq_true, decide_eq_true_eq, Bool.and_true, and_true]
        try simp only [and_assoc]
theorem d12_0 : decode prog_3_method_8_code 0 = .ok (.iconst 0, 1) := by decide +kernel
theorem d12_1 : decode prog_3_method_8_code 1 = .ok (.istore_n 2, 1) := by decide +kernel
theorem d12_2 : decode prog_3_method_8_code 2 = .ok (.iload_n 2, 1) := by decide +kernel
theorem d12_3 : decode prog_3_method_8_code 3 = .ok (.aload_n 0, 1) := by decide +kernel
theorem d12_4 : decode prog_3_method_8_code 4 = .ok (.getfield 33, 3) := by decide +kernel
theorem d12_7 : decode prog_3_method_8_code 7 = .ok (.arraylength, 1) := by decide +kernel
theorem d12_8 : decode prog_3_method_8_code 8 = .ok (.if_icmp .ge 36, 3) := by decide +kernel
theorem d12_11 : decode prog_3_method_8_code 11 = .ok (.aload_n 1, 1) := by decide +kernel
theorem d12_12 : decode prog_3_method_8_code 12 = .ok (.aload_n 0, 1) := by decide +kernel
theorem d12_13 : decode prog_3_method_8_code 13 = .ok (.getfield 33, 3) := by decide +kernel
theorem d12_16 : decode prog_3_method_8_code 16 = .ok (.iload_n 2, 1) := by decide +kernel
theorem d12_17 : decode prog_3_method_8_code 17 = .ok (.iaload, 1) := by decide +kernel
theorem d12_18 : decode prog_3_method_8_code 18 = .ok (.laload, 1) := by decide +kernel
theorem d12_19 : decode prog_3_method_8_code 19 = .ok (.aload_n 0, 1) := by decide +kernel
theorem d12_20 : decode prog_3_method_8_code 20 = .ok (.getfield 41, 3) := by decide +kernel
theorem d12_23 : decode prog_3_method_8_code 23 = .ok (.iload_n 2, 1) := by decide +kernel
theorem d12_24 : decode prog_3_method_8_code 24 = .ok (.laload, 1) := by decide +kernel
theorem d12_25 : decode prog_3_method_8_code 25 = .ok (.land, 1) := by decide +kernel
theorem d12_26 : decode prog_3_method_8_code 26 = .ok (.aload_n 0, 1) := by decide +kernel
theorem d12_27 : decode prog_3_method_8_code 27 = .ok (.getfield 41, 3) := by decide +kernel
theorem d12_30 : decode prog_3_method_8_code 30 = .ok (.iload_n 2, 1) := by decide +kernel
theorem d12_31 : decode prog_3_method_8_code 31 = .ok (.laload, 1) := by decide +kernel
theorem d12_32 : decode prog_3_method_8_code 32 = .ok (.lcmp, 1) := by decide +kernel
theorem d12_33 : decode prog_3_method_8_code 33 = .ok (.ifCond .eq 5, 3) := by decide +kernel
theorem d12_36 : decode prog_3_method_8_code 36 = .ok (.iconst 0, 1) := by decide +kernel
theorem d12_37 : decode prog_3_method_8_code 37 = .ok (.ireturn, 1) := by decide +kernel
theorem d12_38 : decode prog_3_method_8_code 38 = .ok (.iinc 2 1, 3) := by decide +kernel
theorem d12_41 : decode prog_3_method_8_code 41 = .ok (.goto (-39), 3) := by decide +kernel
theorem d12_44 : decode prog_3_method_8_code 44 = .ok (.iconst 1, 1) := by decide +kernel
theorem d12_45 : decode prog_3_method_8_code 45 = .ok (.ireturn, 1) := by decide +kernel
theorem ef_12c0 (m : MethodId) (x0 : Addr) (x1 : Addr) : entryFrame m #[(.ref x0), (.ref x1)] 3 = mkF m 0 #[.val (.ref x0), .val (.ref x1), .unset] [] := by first | (simp [entryFrame, mkF, argsToLocals, Value.category]; done) | rfl
set_option maxRecDepth 65536 in
set_option maxHeartbeats 40000000 in
theorem rm12c0 (l : Launch) (Z : State) (a0 : Array Value) (hw : ∀ d ∈ tables_1, d.before a0 Z = true) (o1 : Addr) (a1 : Addr) (t0 : Int64) (t1 : Int64) (bw : Addr) (bm : Addr) (h0 : Heap) (n0 : Nat) (Z0 : n0 ≤ h0.size) (kw km kt : ClassId) (X0 : Exa Z h0 o1 "com/example/flat_planner/flatplanner/AtomMask") (Fw : Fld Z h0 o1 "com/example/flat_planner/flatplanner/AtomMask" "words" "[I" (.ref bw)) (Fm : Fld Z h0 o1 "com/example/flat_planner/flatplanner/AtomMask" "masks" "[J" (.ref bm)) (Vw : Arv Z h0 bw kw .int (0 : Int32) [] (.int (0 : Int32))) (Vm : Arv Z h0 bm km .long (0 : Int32) [] (.long (0 : Int64))) (Vt : Arv Z h0 a1 kt .long (2 : Int32) [(.long t0), (.long t1)] (.long (0 : Int64))) :
    Con l Z (⟨"com/example/flat_planner/flatplanner/AtomMask", "allIn", "([J)Z"⟩ : MethodName) prog_3_method_8_code 3 (some .boolean) ({ frames := 0, cells := 0, slots := 0, locals := 0 } : Room) #[(.ref o1), (.ref a1)] h0 n0 (fun v h => v = some (.int (if allB [t0, t1] [] [] = true then (1 : Int32) else (0 : Int32))) ∧ h = h0) := by
  refine Con.of (own := "com/example/flat_planner/flatplanner/AtomMask") (name := "allIn") (plainFor_of_name pn_3) (fun m => ef_12c0 m o1 a1) rfl rfl ?_
  intro p e s m below meth c T F S cx st
  refine E_iconst (pc' := 1) cx st (0 : Int32) d12_0 rfl rfl ?_
  refine E_istoreN (pc' := 2) (L' := #[.val (.ref o1), .val (.ref a1), .val (.int (0 : Int32))]) cx st d12_1 rfl rfl ?_
  refine E_iloadN (pc' := 3) cx st d12_2 rfl rfl ?_
  refine E_aloadN (pc' := 4) cx st d12_3 rfl rfl rfl ?_
  refine E_getfield (pc' := 7) cx st (hw _ (List.mem_of_getElem? (i := 50) rfl)) Fw d12_4 rfl ?_
  intro T1 st1
  refine E_arraylength (pc' := 8) cx st1 Vw d12_7 rfl ?_
  refine E_icmp_geY (pc' := 44) cx st1 d12_8 (by decide) (by decide) (by decide) ?_
  refine E_iconst (pc' := 45) cx st1 (1 : Int32) d12_44 rfl rfl ?_
  refine E_ireturn (t := .boolean) cx st1 d12_45 rfl (by simp) rfl (by decide) (by decide) ?_
  exact ⟨by rw [if_pos (by simp only [allB, eq_self, decide_true, decide_false, Bool.and_true, Bool.true_and, Bool.false_and, Bool.and_false, Bool.false_eq_true, not_false_eq_true])], rfl⟩
theorem ef_12c1 (m : MethodId) (x0 : Addr) (x1 : Addr) : entryFrame m #[(.ref x0), (.ref x1)] 3 = mkF m 0 #[.val (.ref x0), .val (.ref x1), .unset] [] := by first | (simp [entryFrame, mkF, argsToLocals, Value.category]; done) | rfl
set_option maxRecDepth 65536 in
set_option maxHeartbeats 40000000 in
theorem rm12c1 (l : Launch) (Z : State) (a0 : Array Value) (hw : ∀ d ∈ tables_1, d.before a0 Z = true) (o1 : Addr) (a1 : Addr) (t0 : Int64) (t1 : Int64) (bw : Addr) (bm : Addr) (w0 : Int32) (m0 : Int64) (h0 : Heap) (n0 : Nat) (Z0 : n0 ≤ h0.size) (kw km kt : ClassId) (X0 : Exa Z h0 o1 "com/example/flat_planner/flatplanner/AtomMask") (Fw : Fld Z h0 o1 "com/example/flat_planner/flatplanner/AtomMask" "words" "[I" (.ref bw)) (Fm : Fld Z h0 o1 "com/example/flat_planner/flatplanner/AtomMask" "masks" "[J" (.ref bm)) (Vw : Arv Z h0 bw kw .int (1 : Int32) [(.int w0)] (.int (0 : Int32))) (Vm : Arv Z h0 bm km .long (1 : Int32) [(.long m0)] (.long (0 : Int64))) (Vt : Arv Z h0 a1 kt .long (2 : Int32) [(.long t0), (.long t1)] (.long (0 : Int64))) (hb0 : ¬ w0 < 0 ∧ w0 < 2) :
    Con l Z (⟨"com/example/flat_planner/flatplanner/AtomMask", "allIn", "([J)Z"⟩ : MethodName) prog_3_method_8_code 3 (some .boolean) ({ frames := 0, cells := 0, slots := 0, locals := 0 } : Room) #[(.ref o1), (.ref a1)] h0 n0 (fun v h => v = some (.int (if allB [t0, t1] [w0] [m0] = true then (1 : Int32) else (0 : Int32))) ∧ h = h0) := by
  refine Con.of (own := "com/example/flat_planner/flatplanner/AtomMask") (name := "allIn") (plainFor_of_name pn_3) (fun m => ef_12c1 m o1 a1) rfl rfl ?_
  intro p e s m below meth c T F S cx st
  refine E_iconst (pc' := 1) cx st (0 : Int32) d12_0 rfl rfl ?_
  refine E_istoreN (pc' := 2) (L' := #[.val (.ref o1), .val (.ref a1), .val (.int (0 : Int32))]) cx st d12_1 rfl rfl ?_
  refine E_iloadN (pc' := 3) cx st d12_2 rfl rfl ?_
  refine E_aloadN (pc' := 4) cx st d12_3 rfl rfl rfl ?_
  refine E_getfield (pc' := 7) cx st (hw _ (List.mem_of_getElem? (i := 50) rfl)) Fw d12_4 rfl ?_
  intro T1 st1
  refine E_arraylength (pc' := 8) cx st1 Vw d12_7 rfl ?_
  refine E_icmp_geN (pc' := 11) cx st1 d12_8 rfl (by decide) ?_
  refine E_aloadN (pc' := 12) cx st1 d12_11 rfl rfl rfl ?_
  refine E_aloadN (pc' := 13) cx st1 d12_12 rfl rfl rfl ?_
  refine E_getfield (pc' := 16) cx st1 (hw _ (List.mem_of_getElem? (i := 50) rfl)) Fw d12_13 rfl ?_
  intro T2 st2
  refine E_iloadN (pc' := 17) cx st2 d12_16 rfl rfl ?_
  refine E_iaload (pc' := 18) (x := w0) cx st2 Vw ⟨by decide, by decide⟩ rfl d12_17 rfl ?_
  refine E_laload (pc' := 19) (x := ([t0, t1].getD w0.toNatClampNeg 0)) cx st2 Vt hb0 (getD_long [t0, t1] _ 0) d12_18 rfl ?_
  refine E_aloadN (pc' := 20) cx st2 d12_19 rfl rfl rfl ?_
  refine E_getfield (pc' := 23) cx st2 (hw _ (List.mem_of_getElem? (i := 61) rfl)) Fm d12_20 rfl ?_
  intro T3 st3
  refine E_iloadN (pc' := 24) cx st3 d12_23 rfl rfl ?_
  refine E_laload (pc' := 25) (x := m0) cx st3 Vm ⟨by decide, by decide⟩ rfl d12_24 rfl ?_
  refine E_land (pc' := 26) cx st3 d12_25 rfl ?_
  refine E_aloadN (pc' := 27) cx st3 d12_26 rfl rfl rfl ?_
  refine E_getfield (pc' := 30) cx st3 (hw _ (List.mem_of_getElem? (i := 61) rfl)) Fm d12_27 rfl ?_
  intro T4 st4
  refine E_iloadN (pc' := 31) cx st4 d12_30 rfl rfl ?_
  refine E_laload (pc' := 32) (x := m0) cx st4 Vm ⟨by decide, by decide⟩ rfl d12_31 rfl ?_
  by_cases c5 : (([t0, t1].getD w0.toNatClampNeg 0) &&& m0) = m0
  · refine E_lif_eqY (pc' := 38) cx st4 d12_32 d12_33 (by decide) (by decide) c5 ?_
    refine E_iinc (pc' := 41) (L' := #[.val (.ref o1), .val (.ref a1), .val (.int (1 : Int32))]) cx st4 (1 : Int32) d12_38 rfl rfl rfl rfl ?_
    refine E_goto (pc' := 2) cx st4 d12_41 (by decide) (by decide) ?_
    refine E_iloadN (pc' := 3) cx st4 d12_2 rfl rfl ?_
    refine E_aloadN (pc' := 4) cx st4 d12_3 rfl rfl rfl ?_
    refine E_getfield (pc' := 7) cx st4 (hw _ (List.mem_of_getElem? (i := 50) rfl)) Fw d12_4 rfl ?_
    intro T6 st6
    refine E_arraylength (pc' := 8) cx st6 Vw d12_7 rfl ?_
    refine E_icmp_geY (pc' := 44) cx st6 d12_8 (by decide) (by decide) (by decide) ?_
    refine E_iconst (pc' := 45) cx st6 (1 : Int32) d12_44 rfl rfl ?_
    refine E_ireturn (t := .boolean) cx st6 d12_45 rfl (by simp) rfl (by decide) (by decide) ?_
    exact ⟨by rw [if_pos (by simp only [allB, c5, eq_self, decide_true, decide_false, Bool.and_true, Bool.true_and, Bool.false_and, Bool.and_false, Bool.false_eq_true, not_false_eq_true])], rfl⟩
  · refine E_lif_eqN (pc' := 36) cx st4 d12_32 d12_33 rfl c5 ?_
    refine E_iconst (pc' := 37) cx st4 (0 : Int32) d12_36 rfl rfl ?_
    refine E_ireturn (t := .boolean) cx st4 d12_37 rfl (by simp) rfl (by decide) (by decide) ?_
    exact ⟨by rw [if_neg (by simp only [allB, c5, eq_self, decide_true, decide_false, Bool.and_true, Bool.true_and, Bool.false_and, Bool.and_false, Bool.false_eq_true, not_false_eq_true])], rfl⟩
theorem ef_12c2 (m : MethodId) (x0 : Addr) (x1 : Addr) : entryFrame m #[(.ref x0), (.ref x1)] 3 = mkF m 0 #[.val (.ref x0), .val (.ref x1), .unset] [] := by first | (simp [entryFrame, mkF, argsToLocals, Value.category]; done) | rfl
set_option maxRecDepth 65536 in
set_option maxHeartbeats 40000000 in
theorem rm12c2 (l : Launch) (Z : State) (a0 : Array Value) (hw : ∀ d ∈ tables_1, d.before a0 Z = true) (o1 : Addr) (a1 : Addr) (t0 : Int64) (t1 : Int64) (bw : Addr) (bm : Addr) (w0 : Int32) (w1 : Int32) (m0 : Int64) (m1 : Int64) (h0 : Heap) (n0 : Nat) (Z0 : n0 ≤ h0.size) (kw km kt : ClassId) (X0 : Exa Z h0 o1 "com/example/flat_planner/flatplanner/AtomMask") (Fw : Fld Z h0 o1 "com/example/flat_planner/flatplanner/AtomMask" "words" "[I" (.ref bw)) (Fm : Fld Z h0 o1 "com/example/flat_planner/flatplanner/AtomMask" "masks" "[J" (.ref bm)) (Vw : Arv Z h0 bw kw .int (2 : Int32) [(.int w0), (.int w1)] (.int (0 : Int32))) (Vm : Arv Z h0 bm km .long (2 : Int32) [(.long m0), (.long m1)] (.long (0 : Int64))) (Vt : Arv Z h0 a1 kt .long (2 : Int32) [(.long t0), (.long t1)] (.long (0 : Int64))) (hb0 : ¬ w0 < 0 ∧ w0 < 2) (hb1 : ¬ w1 < 0 ∧ w1 < 2) :
    Con l Z (⟨"com/example/flat_planner/flatplanner/AtomMask", "allIn", "([J)Z"⟩ : MethodName) prog_3_method_8_code 3 (some .boolean) ({ frames := 0, cells := 0, slots := 0, locals := 0 } : Room) #[(.ref o1), (.ref a1)] h0 n0 (fun v h => v = some (.int (if allB [t0, t1] [w0, w1] [m0, m1] = true then (1 : Int32) else (0 : Int32))) ∧ h = h0) := by
  refine Con.of (own := "com/example/flat_planner/flatplanner/AtomMask") (name := "allIn") (plainFor_of_name pn_3) (fun m => ef_12c2 m o1 a1) rfl rfl ?_
  intro p e s m below meth c T F S cx st
  refine E_iconst (pc' := 1) cx st (0 : Int32) d12_0 rfl rfl ?_
  refine E_istoreN (pc' := 2) (L' := #[.val (.ref o1), .val (.ref a1), .val (.int (0 : Int32))]) cx st d12_1 rfl rfl ?_
  refine E_iloadN (pc' := 3) cx st d12_2 rfl rfl ?_
  refine E_aloadN (pc' := 4) cx st d12_3 rfl rfl rfl ?_
  refine E_getfield (pc' := 7) cx st (hw _ (List.mem_of_getElem? (i := 50) rfl)) Fw d12_4 rfl ?_
  intro T1 st1
  refine E_arraylength (pc' := 8) cx st1 Vw d12_7 rfl ?_
  refine E_icmp_geN (pc' := 11) cx st1 d12_8 rfl (by decide) ?_
  refine E_aloadN (pc' := 12) cx st1 d12_11 rfl rfl rfl ?_
  refine E_aloadN (pc' := 13) cx st1 d12_12 rfl rfl rfl ?_
  refine E_getfield (pc' := 16) cx st1 (hw _ (List.mem_of_getElem? (i := 50) rfl)) Fw d12_13 rfl ?_
  intro T2 st2
  refine E_iloadN (pc' := 17) cx st2 d12_16 rfl rfl ?_
  refine E_iaload (pc' := 18) (x := w0) cx st2 Vw ⟨by decide, by decide⟩ rfl d12_17 rfl ?_
  refine E_laload (pc' := 19) (x := ([t0, t1].getD w0.toNatClampNeg 0)) cx st2 Vt hb0 (getD_long [t0, t1] _ 0) d12_18 rfl ?_
  refine E_aloadN (pc' := 20) cx st2 d12_19 rfl rfl rfl ?_
  refine E_getfield (pc' := 23) cx st2 (hw _ (List.mem_of_getElem? (i := 61) rfl)) Fm d12_20 rfl ?_
  intro T3 st3
  refine E_iloadN (pc' := 24) cx st3 d12_23 rfl rfl ?_
  refine E_laload (pc' := 25) (x := m0) cx st3 Vm ⟨by decide, by decide⟩ rfl d12_24 rfl ?_
  refine E_land (pc' := 26) cx st3 d12_25 rfl ?_
  refine E_aloadN (pc' := 27) cx st3 d12_26 rfl rfl rfl ?_
  refine E_getfield (pc' := 30) cx st3 (hw _ (List.mem_of_getElem? (i := 61) rfl)) Fm d12_27 rfl ?_
  intro T4 st4
  refine E_iloadN (pc' := 31) cx st4 d12_30 rfl rfl ?_
  refine E_laload (pc' := 32) (x := m0) cx st4 Vm ⟨by decide, by decide⟩ rfl d12_31 rfl ?_
  by_cases c5 : (([t0, t1].getD w0.toNatClampNeg 0) &&& m0) = m0
  · refine E_lif_eqY (pc' := 38) cx st4 d12_32 d12_33 (by decide) (by decide) c5 ?_
    refine E_iinc (pc' := 41) (L' := #[.val (.ref o1), .val (.ref a1), .val (.int (1 : Int32))]) cx st4 (1 : Int32) d12_38 rfl rfl rfl rfl ?_
    refine E_goto (pc' := 2) cx st4 d12_41 (by decide) (by decide) ?_
    refine E_iloadN (pc' := 3) cx st4 d12_2 rfl rfl ?_
    refine E_aloadN (pc' := 4) cx st4 d12_3 rfl rfl rfl ?_
    refine E_getfield (pc' := 7) cx st4 (hw _ (List.mem_of_getElem? (i := 50) rfl)) Fw d12_4 rfl ?_
    intro T6 st6
    refine E_arraylength (pc' := 8) cx st6 Vw d12_7 rfl ?_
    refine E_icmp_geN (pc' := 11) cx st6 d12_8 rfl (by decide) ?_
    refine E_aloadN (pc' := 12) cx st6 d12_11 rfl rfl rfl ?_
    refine E_aloadN (pc' := 13) cx st6 d12_12 rfl rfl rfl ?_
    refine E_getfield (pc' := 16) cx st6 (hw _ (List.mem_of_getElem? (i := 50) rfl)) Fw d12_13 rfl ?_
    intro T7 st7
    refine E_iloadN (pc' := 17) cx st7 d12_16 rfl rfl ?_
    refine E_iaload (pc' := 18) (x := w1) cx st7 Vw ⟨by decide, by decide⟩ rfl d12_17 rfl ?_
    refine E_laload (pc' := 19) (x := ([t0, t1].getD w1.toNatClampNeg 0)) cx st7 Vt hb1 (getD_long [t0, t1] _ 0) d12_18 rfl ?_
    refine E_aloadN (pc' := 20) cx st7 d12_19 rfl rfl rfl ?_
    refine E_getfield (pc' := 23) cx st7 (hw _ (List.mem_of_getElem? (i := 61) rfl)) Fm d12_20 rfl ?_
    intro T8 st8
    refine E_iloadN (pc' := 24) cx st8 d12_23 rfl rfl ?_
    refine E_laload (pc' := 25) (x := m1) cx st8 Vm ⟨by decide, by decide⟩ rfl d12_24 rfl ?_
    refine E_land (pc' := 26) cx st8 d12_25 rfl ?_
    refine E_aloadN (pc' := 27) cx st8 d12_26 rfl rfl rfl ?_
    refine E_getfield (pc' := 30) cx st8 (hw _ (List.mem_of_getElem? (i := 61) rfl)) Fm d12_27 rfl ?_
    intro T9 st9
    refine E_iloadN (pc' := 31) cx st9 d12_30 rfl rfl ?_
    refine E_laload (pc' := 32) (x := m1) cx st9 Vm ⟨by decide, by decide⟩ rfl d12_31 rfl ?_
    by_cases c10 : (([t0, t1].getD w1.toNatClampNeg 0) &&& m1) = m1
    · refine E_lif_eqY (pc' := 38) cx st9 d12_32 d12_33 (by decide) (by decide) c10 ?_
      refine E_iinc (pc' := 41) (L' := #[.val (.ref o1), .val (.ref a1), .val (.int (2 : Int32))]) cx st9 (1 : Int32) d12_38 rfl rfl rfl rfl ?_
      refine E_goto (pc' := 2) cx st9 d12_41 (by decide) (by decide) ?_
      refine E_iloadN (pc' := 3) cx st9 d12_2 rfl rfl ?_
      refine E_aloadN (pc' := 4) cx st9 d12_3 rfl rfl rfl ?_
      refine E_getfield (pc' := 7) cx st9 (hw _ (List.mem_of_getElem? (i := 50) rfl)) Fw d12_4 rfl ?_
      intro T11 st11
      refine E_arraylength (pc' := 8) cx st11 Vw d12_7 rfl ?_
      refine E_icmp_geY (pc' := 44) cx st11 d12_8 (by decide) (by decide) (by decide) ?_
      refine E_iconst (pc' := 45) cx st11 (1 : Int32) d12_44 rfl rfl ?_
      refine E_ireturn (t := .boolean) cx st11 d12_45 rfl (by simp) rfl (by decide) (by decide) ?_
      exact ⟨by rw [if_pos (by simp only [allB, c5, c10, eq_self, decide_true, decide_false, Bool.and_true, Bool.true_and, Bool.false_and, Bool.and_false, Bool.false_eq_true, not_false_eq_true])], rfl⟩
    · refine E_lif_eqN (pc' := 36) cx st9 d12_32 d12_33 rfl c10 ?_
      refine E_iconst (pc' := 37) cx st9 (0 : Int32) d12_36 rfl rfl ?_
      refine E_ireturn (t := .boolean) cx st9 d12_37 rfl (by simp) rfl (by decide) (by decide) ?_
      exact ⟨by rw [if_neg (by simp only [allB, c5, c10, eq_self, decide_true, decide_false, Bool.and_true, Bool.true_and, Bool.false_and, Bool.and_false, Bool.false_eq_true, not_false_eq_true])], rfl⟩
  · refine E_lif_eqN (pc' := 36) cx st4 d12_32 d12_33 rfl c5 ?_
    refine E_iconst (pc' := 37) cx st4 (0 : Int32) d12_36 rfl rfl ?_
    refine E_ireturn (t := .boolean) cx st4 d12_37 rfl (by simp) rfl (by decide) (by decide) ?_
    exact ⟨by rw [if_neg (by simp only [allB, c5, eq_self, decide_true, decide_false, Bool.and_true, Bool.true_and, Bool.false_and, Bool.and_false, Bool.false_eq_true, not_false_eq_true])], rfl⟩
theorem ef_12c3 (m : MethodId) (x0 : Addr) (x1 : Addr) : entryFrame m #[(.ref x0), (.ref x1)] 3 = mkF m 0 #[.val (.ref x0), .val (.ref x1), .unset] [] := by first | (simp [entryFrame, mkF, argsToLocals, Value.category]; done) | rfl
set_option maxRecDepth 65536 in
set_option maxHeartbeats 40000000 in
theorem rm12c3 (l : Launch) (Z : State) (a0 : Array Value) (hw : ∀ d ∈ tables_1, d.before a0 Z = true) (o1 : Addr) (a1 : Addr) (t0 : Int64) (t1 : Int64) (bw : Addr) (bm : Addr) (w0 : Int32) (w1 : Int32) (w2 : Int32) (m0 : Int64) (m1 : Int64) (m2 : Int64) (h0 : Heap) (n0 : Nat) (Z0 : n0 ≤ h0.size) (kw km kt : ClassId) (X0 : Exa Z h0 o1 "com/example/flat_planner/flatplanner/AtomMask") (Fw : Fld Z h0 o1 "com/example/flat_planner/flatplanner/AtomMask" "words" "[I" (.ref bw)) (Fm : Fld Z h0 o1 "com/example/flat_planner/flatplanner/AtomMask" "masks" "[J" (.ref bm)) (Vw : Arv Z h0 bw kw .int (3 : Int32) [(.int w0), (.int w1), (.int w2)] (.int (0 : Int32))) (Vm : Arv Z h0 bm km .long (3 : Int32) [(.long m0), (.long m1), (.long m2)] (.long (0 : Int64))) (Vt : Arv Z h0 a1 kt .long (2 : Int32) [(.long t0), (.long t1)] (.long (0 : Int64))) (hb0 : ¬ w0 < 0 ∧ w0 < 2) (hb1 : ¬ w1 < 0 ∧ w1 < 2) (hb2 : ¬ w2 < 0 ∧ w2 < 2) :
    Con l Z (⟨"com/example/flat_planner/flatplanner/AtomMask", "allIn", "([J)Z"⟩ : MethodName) prog_3_method_8_code 3 (some .boolean) ({ frames := 0, cells := 0, slots := 0, locals := 0 } : Room) #[(.ref o1), (.ref a1)] h0 n0 (fun v h => v = some (.int (if allB [t0, t1] [w0, w1, w2] [m0, m1, m2] = true then (1 : Int32) else (0 : Int32))) ∧ h = h0) := by
  refine Con.of (own := "com/example/flat_planner/flatplanner/AtomMask") (name := "allIn") (plainFor_of_name pn_3) (fun m => ef_12c3 m o1 a1) rfl rfl ?_
  intro p e s m below meth c T F S cx st
  refine E_iconst (pc' := 1) cx st (0 : Int32) d12_0 rfl rfl ?_
  refine E_istoreN (pc' := 2) (L' := #[.val (.ref o1), .val (.ref a1), .val (.int (0 : Int32))]) cx st d12_1 rfl rfl ?_
  refine E_iloadN (pc' := 3) cx st d12_2 rfl rfl ?_
  refine E_aloadN (pc' := 4) cx st d12_3 rfl rfl rfl ?_
  refine E_getfield (pc' := 7) cx st (hw _ (List.mem_of_getElem? (i := 50) rfl)) Fw d12_4 rfl ?_
  intro T1 st1
  refine E_arraylength (pc' := 8) cx st1 Vw d12_7 rfl ?_
  refine E_icmp_geN (pc' := 11) cx st1 d12_8 rfl (by decide) ?_
  refine E_aloadN (pc' := 12) cx st1 d12_11 rfl rfl rfl ?_
  refine E_aloadN (pc' := 13) cx st1 d12_12 rfl rfl rfl ?_
  refine E_getfield (pc' := 16) cx st1 (hw _ (List.mem_of_getElem? (i := 50) rfl)) Fw d12_13 rfl ?_
  intro T2 st2
  refine E_iloadN (pc' := 17) cx st2 d12_16 rfl rfl ?_
  refine E_iaload (pc' := 18) (x := w0) cx st2 Vw ⟨by decide, by decide⟩ rfl d12_17 rfl ?_
  refine E_laload (pc' := 19) (x := ([t0, t1].getD w0.toNatClampNeg 0)) cx st2 Vt hb0 (getD_long [t0, t1] _ 0) d12_18 rfl ?_
  refine E_aloadN (pc' := 20) cx st2 d12_19 rfl rfl rfl ?_
  refine E_getfield (pc' := 23) cx st2 (hw _ (List.mem_of_getElem? (i := 61) rfl)) Fm d12_20 rfl ?_
  intro T3 st3
  refine E_iloadN (pc' := 24) cx st3 d12_23 rfl rfl ?_
  refine E_laload (pc' := 25) (x := m0) cx st3 Vm ⟨by decide, by decide⟩ rfl d12_24 rfl ?_
  refine E_land (pc' := 26) cx st3 d12_25 rfl ?_
  refine E_aloadN (pc' := 27) cx st3 d12_26 rfl rfl rfl ?_
  refine E_getfield (pc' := 30) cx st3 (hw _ (List.mem_of_getElem? (i := 61) rfl)) Fm d12_27 rfl ?_
  intro T4 st4
  refine E_iloadN (pc' := 31) cx st4 d12_30 rfl rfl ?_
  refine E_laload (pc' := 32) (x := m0) cx st4 Vm ⟨by decide, by decide⟩ rfl d12_31 rfl ?_
  by_cases c5 : (([t0, t1].getD w0.toNatClampNeg 0) &&& m0) = m0
  · refine E_lif_eqY (pc' := 38) cx st4 d12_32 d12_33 (by decide) (by decide) c5 ?_
    refine E_iinc (pc' := 41) (L' := #[.val (.ref o1), .val (.ref a1), .val (.int (1 : Int32))]) cx st4 (1 : Int32) d12_38 rfl rfl rfl rfl ?_
    refine E_goto (pc' := 2) cx st4 d12_41 (by decide) (by decide) ?_
    refine E_iloadN (pc' := 3) cx st4 d12_2 rfl rfl ?_
    refine E_aloadN (pc' := 4) cx st4 d12_3 rfl rfl rfl ?_
    refine E_getfield (pc' := 7) cx st4 (hw _ (List.mem_of_getElem? (i := 50) rfl)) Fw d12_4 rfl ?_
    intro T6 st6
    refine E_arraylength (pc' := 8) cx st6 Vw d12_7 rfl ?_
    refine E_icmp_geN (pc' := 11) cx st6 d12_8 rfl (by decide) ?_
    refine E_aloadN (pc' := 12) cx st6 d12_11 rfl rfl rfl ?_
    refine E_aloadN (pc' := 13) cx st6 d12_12 rfl rfl rfl ?_
    refine E_getfield (pc' := 16) cx st6 (hw _ (List.mem_of_getElem? (i := 50) rfl)) Fw d12_13 rfl ?_
    intro T7 st7
    refine E_iloadN (pc' := 17) cx st7 d12_16 rfl rfl ?_
    refine E_iaload (pc' := 18) (x := w1) cx st7 Vw ⟨by decide, by decide⟩ rfl d12_17 rfl ?_
    refine E_laload (pc' := 19) (x := ([t0, t1].getD w1.toNatClampNeg 0)) cx st7 Vt hb1 (getD_long [t0, t1] _ 0) d12_18 rfl ?_
    refine E_aloadN (pc' := 20) cx st7 d12_19 rfl rfl rfl ?_
    refine E_getfield (pc' := 23) cx st7 (hw _ (List.mem_of_getElem? (i := 61) rfl)) Fm d12_20 rfl ?_
    intro T8 st8
    refine E_iloadN (pc' := 24) cx st8 d12_23 rfl rfl ?_
    refine E_laload (pc' := 25) (x := m1) cx st8 Vm ⟨by decide, by decide⟩ rfl d12_24 rfl ?_
    refine E_land (pc' := 26) cx st8 d12_25 rfl ?_
    refine E_aloadN (pc' := 27) cx st8 d12_26 rfl rfl rfl ?_
    refine E_getfield (pc' := 30) cx st8 (hw _ (List.mem_of_getElem? (i := 61) rfl)) Fm d12_27 rfl ?_
    intro T9 st9
    refine E_iloadN (pc' := 31) cx st9 d12_30 rfl rfl ?_
    refine E_laload (pc' := 32) (x := m1) cx st9 Vm ⟨by decide, by decide⟩ rfl d12_31 rfl ?_
    by_cases c10 : (([t0, t1].getD w1.toNatClampNeg 0) &&& m1) = m1
    · refine E_lif_eqY (pc' := 38) cx st9 d12_32 d12_33 (by decide) (by decide) c10 ?_
      refine E_iinc (pc' := 41) (L' := #[.val (.ref o1), .val (.ref a1), .val (.int (2 : Int32))]) cx st9 (1 : Int32) d12_38 rfl rfl rfl rfl ?_
      refine E_goto (pc' := 2) cx st9 d12_41 (by decide) (by decide) ?_
      refine E_iloadN (pc' := 3) cx st9 d12_2 rfl rfl ?_
      refine E_aloadN (pc' := 4) cx st9 d12_3 rfl rfl rfl ?_
      refine E_getfield (pc' := 7) cx st9 (hw _ (List.mem_of_getElem? (i := 50) rfl)) Fw d12_4 rfl ?_
      intro T11 st11
      refine E_arraylength (pc' := 8) cx st11 Vw d12_7 rfl ?_
      refine E_icmp_geN (pc' := 11) cx st11 d12_8 rfl (by decide) ?_
      refine E_aloadN (pc' := 12) cx st11 d12_11 rfl rfl rfl ?_
      refine E_aloadN (pc' := 13) cx st11 d12_12 rfl rfl rfl ?_
      refine E_getfield (pc' := 16) cx st11 (hw _ (List.mem_of_getElem? (i := 50) rfl)) Fw d12_13 rfl ?_
      intro T12 st12
      refine E_iloadN (pc' := 17) cx st12 d12_16 rfl rfl ?_
      refine E_iaload (pc' := 18) (x := w2) cx st12 Vw ⟨by decide, by decide⟩ rfl d12_17 rfl ?_
      refine E_laload (pc' := 19) (x := ([t0, t1].getD w2.toNatClampNeg 0)) cx st12 Vt hb2 (getD_long [t0, t1] _ 0) d12_18 rfl ?_
      refine E_aloadN (pc' := 20) cx st12 d12_19 rfl rfl rfl ?_
      refine E_getfield (pc' := 23) cx st12 (hw _ (List.mem_of_getElem? (i := 61) rfl)) Fm d12_20 rfl ?_
      intro T13 st13
      refine E_iloadN (pc' := 24) cx st13 d12_23 rfl rfl ?_
      refine E_laload (pc' := 25) (x := m2) cx st13 Vm ⟨by decide, by decide⟩ rfl d12_24 rfl ?_
      refine E_land (pc' := 26) cx st13 d12_25 rfl ?_
      refine E_aloadN (pc' := 27) cx st13 d12_26 rfl rfl rfl ?_
      refine E_getfield (pc' := 30) cx st13 (hw _ (List.mem_of_getElem? (i := 61) rfl)) Fm d12_27 rfl ?_
      intro T14 st14
      refine E_iloadN (pc' := 31) cx st14 d12_30 rfl rfl ?_
      refine E_laload (pc' := 32) (x := m2) cx st14 Vm ⟨by decide, by decide⟩ rfl d12_31 rfl ?_
      by_cases c15 : (([t0, t1].getD w2.toNatClampNeg 0) &&& m2) = m2
      · refine E_lif_eqY (pc' := 38) cx st14 d12_32 d12_33 (by decide) (by decide) c15 ?_
        refine E_iinc (pc' := 41) (L' := #[.val (.ref o1), .val (.ref a1), .val (.int (3 : Int32))]) cx st14 (1 : Int32) d12_38 rfl rfl rfl rfl ?_
        refine E_goto (pc' := 2) cx st14 d12_41 (by decide) (by decide) ?_
        refine E_iloadN (pc' := 3) cx st14 d12_2 rfl rfl ?_
        refine E_aloadN (pc' := 4) cx st14 d12_3 rfl rfl rfl ?_
        refine E_getfield (pc' := 7) cx st14 (hw _ (List.mem_of_getElem? (i := 50) rfl)) Fw d12_4 rfl ?_
        intro T16 st16
        refine E_arraylength (pc' := 8) cx st16 Vw d12_7 rfl ?_
        refine E_icmp_geY (pc' := 44) cx st16 d12_8 (by decide) (by decide) (by decide) ?_
        refine E_iconst (pc' := 45) cx st16 (1 : Int32) d12_44 rfl rfl ?_
        refine E_ireturn (t := .boolean) cx st16 d12_45 rfl (by simp) rfl (by decide) (by decide) ?_
        exact ⟨by rw [if_pos (by simp only [allB, c5, c10, c15, eq_self, decide_true, decide_false, Bool.and_true, Bool.true_and, Bool.false_and, Bool.and_false, Bool.false_eq_true, not_false_eq_true])], rfl⟩
      · refine E_lif_eqN (pc' := 36) cx st14 d12_32 d12_33 rfl c15 ?_
        refine E_iconst (pc' := 37) cx st14 (0 : Int32) d12_36 rfl rfl ?_
        refine E_ireturn (t := .boolean) cx st14 d12_37 rfl (by simp) rfl (by decide) (by decide) ?_
        exact ⟨by rw [if_neg (by simp only [allB, c5, c10, c15, eq_self, decide_true, decide_false, Bool.and_true, Bool.true_and, Bool.false_and, Bool.and_false, Bool.false_eq_true, not_false_eq_true])], rfl⟩
    · refine E_lif_eqN (pc' := 36) cx st9 d12_32 d12_33 rfl c10 ?_
      refine E_iconst (pc' := 37) cx st9 (0 : Int32) d12_36 rfl rfl ?_
      refine E_ireturn (t := .boolean) cx st9 d12_37 rfl (by simp) rfl (by decide) (by decide) ?_
      exact ⟨by rw [if_neg (by simp only [allB, c5, c10, eq_self, decide_true, decide_false, Bool.and_true, Bool.true_and, Bool.false_and, Bool.and_false, Bool.false_eq_true, not_false_eq_true])], rfl⟩
  · refine E_lif_eqN (pc' := 36) cx st4 d12_32 d12_33 rfl c5 ?_
    refine E_iconst (pc' := 37) cx st4 (0 : Int32) d12_36 rfl rfl ?_
    refine E_ireturn (t := .boolean) cx st4 d12_37 rfl (by simp) rfl (by decide) (by decide) ?_
    exact ⟨by rw [if_neg (by simp only [allB, c5, eq_self, decide_true, decide_false, Bool.and_true, Bool.true_and, Bool.false_and, Bool.and_false, Bool.false_eq_true, not_false_eq_true])], rfl⟩
theorem rmA (l : Launch) (Z : State) (a0 : Array Value) (hw : ∀ d ∈ tables_1, d.before a0 Z = true) (o1 a1 : Addr) (t0 t1 : Int64) (bw bm : Addr) (ws : List Int32) (ms : List Int64) (h0 : Heap) (n0 : Nat) (Z0 : n0 ≤ h0.size) (kw km kt : ClassId) (X0 : Exa Z h0 o1 "com/example/flat_planner/flatplanner/AtomMask") (Fw : Fld Z h0 o1 "com/example/flat_planner/flatplanner/AtomMask" "words" "[I" (.ref bw)) (Fm : Fld Z h0 o1 "com/example/flat_planner/flatplanner/AtomMask" "masks" "[J" (.ref bm)) (Vw : Arv Z h0 bw kw .int (Int32.ofNat ws.length) (ws.map Value.int) (.int (0 : Int32))) (Vm : Arv Z h0 bm km .long (Int32.ofNat ws.length) (ms.map Value.long) (.long (0 : Int64))) (Vt : Arv Z h0 a1 kt .long (2 : Int32) [(.long t0), (.long t1)] (.long (0 : Int64))) (hl : ms.length = ws.length) (h3 : ws.length ≤ 3) (hb : ∀ w ∈ ws, ¬ w < 0 ∧ w < 2) :
    Con l Z (⟨"com/example/flat_planner/flatplanner/AtomMask", "allIn", "([J)Z"⟩ : MethodName) prog_3_method_8_code 3 (some .boolean) ({ frames := 0, cells := 0, slots := 0, locals := 0 } : Room) #[(.ref o1), (.ref a1)] h0 n0 (fun v h => v = some (.int (if allB [t0, t1] ws ms = true then (1 : Int32) else (0 : Int32))) ∧ h = h0) := by
  match ws, ms, hl with
  | [], [], _ => exact rm12c0 l Z a0 hw o1 a1 t0 t1 bw bm h0 n0 Z0 kw km kt X0 Fw Fm Vw Vm Vt
  | [w0], [m0], _ => exact rm12c1 l Z a0 hw o1 a1 t0 t1 bw bm w0 m0 h0 n0 Z0 kw km kt X0 Fw Fm Vw Vm Vt (hb w0 (by simp))
  | [w0, w1], [m0, m1], _ => exact rm12c2 l Z a0 hw o1 a1 t0 t1 bw bm w0 w1 m0 m1 h0 n0 Z0 kw km kt X0 Fw Fm Vw Vm Vt (hb w0 (by simp)) (hb w1 (by simp))
  | [w0, w1, w2], [m0, m1, m2], _ => exact rm12c3 l Z a0 hw o1 a1 t0 t1 bw bm w0 w1 w2 m0 m1 m2 h0 n0 Z0 kw km kt X0 Fw Fm Vw Vm Vt (hb w0 (by simp)) (hb w1 (by simp)) (hb w2 (by simp))
  | _ :: _ :: _ :: _ :: _, _, _ => exact absurd h3 (by simp)
def hv (t : List Int64) (a : Int32) : Int32 := (if (((t.getD (wof a).toNatClampNeg 0).toUInt64 >>> ((a &&& (63 : Int32)) &&& 0x3f).toInt64.toUInt64).toInt64 &&& (1 : Int64)) = (0 : Int64) then (0 : Int32) else (1 : Int32))
theorem hv_yes {t : List Int64} {a : Int32} (c : ¬ hv t a = 0) : AA t a := by
  have q := bitcases (t.getD (wof a).toNatClampNeg 0) a
  unfold hv at c; unfold AA
  rcases q with ⟨h1, h2, h3⟩ | ⟨h1, h2, h3⟩
  · rw [if_pos h1] at c; exact absurd rfl c
  · exact h3
theorem hv_no {t : List Int64} {a : Int32} (c : hv t a = 0) : ¬ AA t a := by
  have q := bitcases (t.getD (wof a).toNatClampNeg 0) a
  unfold hv at c; unfold AA
  rcases q with ⟨h1, h2, h3⟩ | ⟨h1, h2, h3⟩
  · exact h3
  · rw [if_neg h1] at c; exact absurd c (by decide)
theorem nv_yes {t : List Int64} {a : Int32} (c : hv t a = 0) : NN t a := by
  have q := bitcases (t.getD (wof a).toNatClampNeg 0) a
  unfold hv at c; unfold NN
  rcases q with ⟨h1, h2, h3⟩ | ⟨h1, h2, h3⟩
  · exact h2
  · rw [if_neg h1] at c; exact absurd c (by decide)
theorem nv_no {t : List Int64} {a : Int32} (c : ¬ hv t a = 0) : ¬ NN t a := by
  have q := bitcases (t.getD (wof a).toNatClampNeg 0) a
  unfold hv at c; unfold NN
  rcases q with ⟨h1, h2, h3⟩ | ⟨h1, h2, h3⟩
  · rw [if_pos h1] at c; exact absurd rfl c
  · exact h2
theorem mask127 (x : Int32) : BB (x &&& 127) := by
  have h := c_mask x 127 7 (by decide) (by decide)
  have k1 : (0 : Int32).toInt = 0 := rfl
  have k2 : (128 : Int32).toInt = 128 := rfl
  unfold BB
  rw [Int32.lt_iff_toInt_lt, Int32.lt_iff_toInt_lt, k1, k2, h]; omega
theorem wsel {a : Int32} (h : BB a) (x y : Int64) : (if wof a = (0 : Int32) then x else y) = [x, y].getD (wof a).toNatClampNeg 0 := by
  obtain ⟨h1, h2⟩ := wof_b h
  have q := i32_small (n := 2) ⟨h1, h2⟩ (by decide)
  generalize wof a = w at *
  obtain ⟨q1, q2⟩ := q
  generalize w.toNatClampNeg = k at *
  subst q2
  match k, q1 with
  | 0, _ => rfl
  | 1, _ => rfl
theorem M03 (p : Int32) : ((p &&& 3) = 0 ∨ (p &&& 3) = 1 ∨ (p &&& 3) = 2 ∨ (p &&& 3) = (3 : Int32)) := by
  have h := c_mask p 3 2 (by decide) (by decide)
  have k0 : (0 : Int32).toInt = 0 := rfl
  have k1 : (1 : Int32).toInt = 1 := rfl
  have k2 : (2 : Int32).toInt = 2 := rfl
  have k3 : (3 : Int32).toInt = 3 := rfl
  simp only [← Int32.toInt_inj, h, k0, k1, k2, k3]; omega
theorem d1_0 : decode method_2_code 0 = .ok (.iload 4, 2) := by decide +kernel
theorem d1_2 : decode method_2_code 2 = .ok (.bipush 6, 2) := by decide +kernel
theorem d1_4 : decode method_2_code 4 = .ok (.iushr, 1) := by decide +kernel
theorem d1_5 : decode method_2_code 5 = .ok (.istore 5, 2) := by decide +kernel
theorem d1_7 : decode method_2_code 7 = .ok (.iload 5, 2) := by decide +kernel
theorem d1_9 : decode method_2_code 9 = .ok (.ifCond .ne 7, 3) := by decide +kernel
theorem d1_12 : decode method_2_code 12 = .ok (.lload_n 0, 1) := by decide +kernel
theorem d1_13 : decode method_2_code 13 = .ok (.goto 4, 3) := by decide +kernel
theorem d1_16 : decode method_2_code 16 = .ok (.lload_n 2, 1) := by decide +kernel
theorem d1_17 : decode method_2_code 17 = .ok (.lstore 6, 2) := by decide +kernel
theorem d1_19 : decode method_2_code 19 = .ok (.lload 6, 2) := by decide +kernel
theorem d1_21 : decode method_2_code 21 = .ok (.iload 4, 2) := by decide +kernel
theorem d1_23 : decode method_2_code 23 = .ok (.bipush 63, 2) := by decide +kernel
theorem d1_25 : decode method_2_code 25 = .ok (.iand, 1) := by decide +kernel
theorem d1_26 : decode method_2_code 26 = .ok (.lushr, 1) := by decide +kernel
theorem d1_27 : decode method_2_code 27 = .ok (.lconst 1, 1) := by decide +kernel
theorem d1_28 : decode method_2_code 28 = .ok (.land, 1) := by decide +kernel
theorem d1_29 : decode method_2_code 29 = .ok (.lconst 0, 1) := by decide +kernel
theorem d1_30 : decode method_2_code 30 = .ok (.lcmp, 1) := by decide +kernel
theorem d1_31 : decode method_2_code 31 = .ok (.ifCond .eq 7, 3) := by decide +kernel
theorem d1_34 : decode method_2_code 34 = .ok (.iconst 1, 1) := by decide +kernel
theorem d1_35 : decode method_2_code 35 = .ok (.goto 4, 3) := by decide +kernel
theorem d1_38 : decode method_2_code 38 = .ok (.iconst 0, 1) := by decide +kernel
theorem d1_39 : decode method_2_code 39 = .ok (.ireturn, 1) := by decide +kernel
theorem pn_4 : plainName "com/example/flat_planner/flatplanner/AtomMaskAllInPinLaw" = true := by first | (simp [plainName, overriddenIn]; done) | decide +kernel
theorem ef_1 (m : MethodId) (x0 : Int64) (x1 : Int64) (x2 : Int32) : entryFrame m #[(.long x0), (.long x1), (.int x2)] 8 = mkF m 0 #[.val (.long x0), .second, .val (.long x1), .second, .val (.int x2), .unset, .unset, .unset] [] := by first | (simp [entryFrame, mkF, argsToLocals, Value.category]; done) | rfl
set_option maxRecDepth 65536 in
set_option maxHeartbeats 40000000 in
theorem rm1 (l : Launch) (Z : State) (a0 : Array Value) (hw : ∀ d ∈ tables_1, d.before a0 Z = true) (q0 : Int64) (q1 : Int64) (p0 : Int32) (h0 : Heap) (n0 : Nat) (Z0 : n0 ≤ h0.size) (hB : BB p0) :
    Con l Z (⟨"com/example/flat_planner/flatplanner/AtomMaskAllInPinLaw", "has", "(JJI)Z"⟩ : MethodName) method_2_code 8 (some .boolean) ({ frames := 0, cells := 0, slots := 0, locals := 0 } : Room) #[(.long q0), (.long q1), (.int p0)] h0 n0 (fun v h => v = some (.int (hv [q0, q1] p0)) ∧ h = h0) := by
  refine Con.of (own := "com/example/flat_planner/flatplanner/AtomMaskAllInPinLaw") (name := "has") (plainFor_of_name pn_4) (fun m => ef_1 m q0 q1 p0) rfl rfl ?_
  intro p e s m below meth c T F S cx st
  refine E_iload (pc' := 2) cx st d1_0 rfl rfl ?_
  refine E_bipush (pc' := 4) cx st (6 : Int32) d1_2 rfl rfl ?_
  refine E_iushr (pc' := 5) cx st d1_4 rfl ?_
  refine E_istore (pc' := 7) (L' := #[.val (.long q0), .second, .val (.long q1), .second, .val (.int p0), .val (.int ((p0.toUInt32 >>> ((6 : Int32) &&& 31).toUInt32).toInt32)), .unset, .unset]) cx st d1_5 rfl rfl ?_
  refine E_iload (pc' := 9) cx st d1_7 rfl rfl ?_
  suffices j2 : F T (mkF m 17 #[.val (.long q0), .second, .val (.long q1), .second, .val (.int p0), .val (.int ((p0.toUInt32 >>> ((6 : Int32) &&& 31).toUInt32).toInt32)), .unset, .unset] [(.long (if ((p0.toUInt32 >>> ((6 : Int32) &&& 31).toUInt32).toInt32) = (0 : Int32) then q0 else q1))]) by
    by_cases c1 : ((p0.toUInt32 >>> ((6 : Int32) &&& 31).toUInt32).toInt32) = (0 : Int32)
    · refine E_if_neN (pc' := 12) cx st d1_9 rfl c1 ?_
      refine E_lloadN (pc' := 13) cx st d1_12 rfl rfl ?_
      refine E_goto (pc' := 17) cx st d1_13 (by decide) (by decide) ?_
      simp only [if_pos c1] at j2; exact j2
    · refine E_if_neY (pc' := 16) cx st d1_9 (by decide) (by decide) c1 ?_
      refine E_lloadN (pc' := 17) cx st d1_16 rfl rfl ?_
      simp only [if_neg c1] at j2; exact j2
  rw [show (if ((p0.toUInt32 >>> ((6 : Int32) &&& 31).toUInt32).toInt32) = (0 : Int32) then q0 else q1) = ([q0, q1].getD (wof p0).toNatClampNeg 0) from wsel hB q0 q1]
  refine E_lstore (pc' := 19) (L' := #[.val (.long q0), .second, .val (.long q1), .second, .val (.int p0), .val (.int ((p0.toUInt32 >>> ((6 : Int32) &&& 31).toUInt32).toInt32)), .val (.long ([q0, q1].getD (wof p0).toNatClampNeg 0)), .second]) cx st d1_17 rfl rfl ?_
  refine E_lload (pc' := 21) cx st d1_19 rfl rfl ?_
  refine E_iload (pc' := 23) cx st d1_21 rfl rfl ?_
  refine E_bipush (pc' := 25) cx st (63 : Int32) d1_23 rfl rfl ?_
  refine E_iand (pc' := 26) cx st d1_25 rfl ?_
  refine E_lushr (pc' := 27) cx st d1_26 rfl ?_
  refine E_lconst (pc' := 28) cx st (1 : Int64) d1_27 rfl rfl ?_
  refine E_land (pc' := 29) cx st d1_28 rfl ?_
  refine E_lconst (pc' := 30) cx st (0 : Int64) d1_29 rfl rfl ?_
  by_cases c3 : (((([q0, q1].getD (wof p0).toNatClampNeg 0).toUInt64 >>> ((p0 &&& (63 : Int32)) &&& 0x3f).toInt64.toUInt64).toInt64) &&& (1 : Int64)) = (0 : Int64)
  · refine E_lif_eqY (pc' := 38) cx st d1_30 d1_31 (by decide) (by decide) c3 ?_
    refine E_iconst (pc' := 39) cx st (0 : Int32) d1_38 rfl rfl ?_
    refine E_ireturn (t := .boolean) cx st d1_39 rfl (by simp) rfl (by decide) (by decide) ?_
    exact ⟨by unfold hv; rw [if_pos c3], rfl⟩
  · refine E_lif_eqN (pc' := 34) cx st d1_30 d1_31 rfl c3 ?_
    refine E_iconst (pc' := 35) cx st (1 : Int32) d1_34 rfl rfl ?_
    refine E_goto (pc' := 39) cx st d1_35 (by decide) (by decide) ?_
    refine E_ireturn (t := .boolean) cx st d1_39 rfl (by simp) rfl (by decide) (by decide) ?_
    exact ⟨by unfold hv; rw [if_neg c3], rfl⟩
theorem ef_0 (m : MethodId) (x0 : Int32) (x1 : Int32) (x2 : Int32) (x3 : Int32) (x4 : Int64) (x5 : Int64) : entryFrame m #[(.int x0), (.int x1), (.int x2), (.int x3), (.long x4), (.long x5)] maxLocals = mkF m 0 #[.val (.int x0), .val (.int x1), .val (.int x2), .val (.int x3), .val (.long x4), .second, .val (.long x5), .second, .unset, .unset, .unset, .unset, .unset, .unset, .unset, .unset] [] := by first | (simp [entryFrame, mkF, argsToLocals, Value.category, maxLocals]; done) | rfl
theorem pd_9 : parseMethodDescriptor "([J)Z" = some ⟨[(.array .long)], some .boolean⟩ := by decide +kernel
theorem pd_10 : parseMethodDescriptor "(JJI)Z" = some ⟨[.long, .long, .int], some .boolean⟩ := by decide +kernel
set_option maxRecDepth 65536 in
set_option maxHeartbeats 40000000 in
theorem rm0 (l : Launch) (Z : State) (a0 : Array Value) (hw : ∀ d ∈ tables_1, d.before a0 Z = true) (p0 : Int32) (p1 : Int32) (p2 : Int32) (p3 : Int32) (q4 : Int64) (q5 : Int64) (h0 : Heap) (n0 : Nat) (Z0 : n0 ≤ h0.size) :
    Con l Z x code maxLocals ret room_1 #[(.int p0), (.int p1), (.int p2), (.int p3), (.long q4), (.long q5)] h0 n0 (fun v h => v = some (.int 1)) := by
  refine Con.of (own := "com/example/flat_planner/flatplanner/AtomMaskAllInPinLaw") (name := "law") (plainFor_of_name pn_4) (fun m => ef_0 m p0 p1 p2 p3 q4 q5) rfl rfl ?_
  intro p e s m below meth c T F S cx st
  refine E_iloadN (pc' := 1) cx st at_0 rfl rfl ?_
  refine E_bipush (pc' := 3) cx st (127 : Int32) at_1 rfl rfl ?_
  refine E_iand (pc' := 4) cx st at_3 rfl ?_
  generalize hu1 : (p0 &&& (127 : Int32)) = u1
  refine E_istore (pc' := 6) (L' := #[.val (.int p0), .val (.int p1), .val (.int p2), .val (.int p3), .val (.long q4), .second, .val (.long q5), .second, .val (.int u1), .unset, .unset, .unset, .unset, .unset, .unset, .unset]) cx st at_4 rfl rfl ?_
  refine E_iloadN (pc' := 7) cx st at_6 rfl rfl ?_
  refine E_bipush (pc' := 9) cx st (127 : Int32) at_7 rfl rfl ?_
  refine E_iand (pc' := 10) cx st at_9 rfl ?_
  generalize hu2 : (p1 &&& (127 : Int32)) = u2
  refine E_istore (pc' := 12) (L' := #[.val (.int p0), .val (.int p1), .val (.int p2), .val (.int p3), .val (.long q4), .second, .val (.long q5), .second, .val (.int u1), .val (.int u2), .unset, .unset, .unset, .unset, .unset, .unset]) cx st at_10 rfl rfl ?_
  refine E_iloadN (pc' := 13) cx st at_12 rfl rfl ?_
  refine E_bipush (pc' := 15) cx st (127 : Int32) at_13 rfl rfl ?_
  refine E_iand (pc' := 16) cx st at_15 rfl ?_
  generalize hu3 : (p2 &&& (127 : Int32)) = u3
  refine E_istore (pc' := 18) (L' := #[.val (.int p0), .val (.int p1), .val (.int p2), .val (.int p3), .val (.long q4), .second, .val (.long q5), .second, .val (.int u1), .val (.int u2), .val (.int u3), .unset, .unset, .unset, .unset, .unset]) cx st at_16 rfl rfl ?_
  refine E_iloadN (pc' := 19) cx st at_18 rfl rfl ?_
  refine E_iconst (pc' := 20) cx st (3 : Int32) at_19 rfl rfl ?_
  refine E_iand (pc' := 21) cx st at_20 rfl ?_
  generalize hu4 : (p3 &&& (3 : Int32)) = u4
  refine E_istore (pc' := 23) (L' := #[.val (.int p0), .val (.int p1), .val (.int p2), .val (.int p3), .val (.long q4), .second, .val (.long q5), .second, .val (.int u1), .val (.int u2), .val (.int u3), .val (.int u4), .unset, .unset, .unset, .unset]) cx st at_21 rfl rfl ?_
  have hB0 := mask127 p0
  rw [hu1] at hB0
  have hB1 := mask127 p1
  rw [hu2] at hB1
  have hB2 := mask127 p2
  rw [hu3] at hB2
  have hm := M03 p3
  rw [hu4] at hm
  rcases hm with rfl | rfl | rfl | rfl
  · refine E_iload (pc' := 25) cx st at_23 rfl rfl ?_
    refine E_newP (pc' := 27) (kc' := 1) (ks' := 0) (cap := 0) cx st (hw _ (List.mem_of_getElem? (i := 0) rfl)) at_25 (by decide) (by decide) (by decide) (by decide) (by decide) (by decide) (by decide) rfl (ad := "[I") (by decide) ?_
    intro T5 h5 ca5 ar5 eq5 st5 E5 V5 X5
    have g_ar5 : n0 ≤ ar5 := by rw [eq5]; exact Z0
    have Z5 : n0 ≤ h5.size := Nat.le_trans Z0 E5.1
    have V5p : Arv Z h5 ar5 ca5 .int (0 : Int32) [] (.int (0 : Int32)) := V5.pad (pad_rep [] (.int (0 : Int32)) 0)
    refine E_astore (pc' := 29) (L' := #[.val (.int p0), .val (.int p1), .val (.int p2), .val (.int p3), .val (.long q4), .second, .val (.long q5), .second, .val (.int u1), .val (.int u2), .val (.int u3), .val (.int (0 : Int32)), .val (.ref ar5), .unset, .unset, .unset]) cx st5 at_27 rfl rfl rfl ?_
    refine E_iload (pc' := 31) cx st5 at_29 rfl rfl ?_
    refine E_iconst (pc' := 32) cx st5 (1 : Int32) at_31 rfl rfl ?_
    refine E_icmp_ltY (pc' := 41) cx st5 at_32 (by decide) (by decide) (by decide) ?_
    refine E_iload (pc' := 43) cx st5 at_41 rfl rfl ?_
    refine E_iconst (pc' := 44) cx st5 (2 : Int32) at_43 rfl rfl ?_
    refine E_icmp_ltY (pc' := 53) cx st5 at_44 (by decide) (by decide) (by decide) ?_
    refine E_iload (pc' := 55) cx st5 at_53 rfl rfl ?_
    refine E_iconst (pc' := 56) cx st5 (3 : Int32) at_55 rfl rfl ?_
    refine E_icmp_ltY (pc' := 65) cx st5 at_56 (by decide) (by decide) (by decide) ?_
    refine E_iconst (pc' := 66) cx st5 (1 : Int32) at_65 rfl rfl ?_
    refine E_istore (pc' := 68) (L' := #[.val (.int p0), .val (.int p1), .val (.int p2), .val (.int p3), .val (.long q4), .second, .val (.long q5), .second, .val (.int u1), .val (.int u2), .val (.int u3), .val (.int (0 : Int32)), .val (.ref ar5), .val (.int (1 : Int32)), .unset, .unset]) cx st5 at_66 rfl rfl ?_
    refine E_iload (pc' := 70) cx st5 at_68 rfl rfl ?_
    refine E_iconst (pc' := 71) cx st5 (1 : Int32) at_70 rfl rfl ?_
    refine E_icmp_ltY (pc' := 89) cx st5 at_71 (by decide) (by decide) (by decide) ?_
    refine E_iload (pc' := 91) cx st5 at_89 rfl rfl ?_
    refine E_iconst (pc' := 92) cx st5 (2 : Int32) at_91 rfl rfl ?_
    refine E_icmp_ltY (pc' := 110) cx st5 at_92 (by decide) (by decide) (by decide) ?_
    refine E_iload (pc' := 112) cx st5 at_110 rfl rfl ?_
    refine E_iconst (pc' := 113) cx st5 (3 : Int32) at_112 rfl rfl ?_
    refine E_icmp_ltY (pc' := 131) cx st5 at_113 (by decide) (by decide) (by decide) ?_
    refine E_new (pc' := 134) (kc' := 2) (ks' := 2) cx st5 (hw _ (List.mem_of_getElem? (i := 5) rfl)) (hw _ (List.mem_of_getElem? (i := 6) rfl)) (hw _ (List.mem_of_getElem? (i := 7) rfl)) at_131 (by decide) (by decide) (by decide) (by decide) rfl ?_
    intro T6 h6 ob6 eq6 st6 E6 X6 D6
    have g_ob6 : n0 ≤ ob6 := by rw [eq6]; exact Z5
    have ne_ar5_ob6 : ar5 ≠ ob6 := by rw [eq6]; exact Nat.ne_of_lt V5p.lt
    have Z6 : n0 ≤ h6.size := Nat.le_trans Z5 E6.1
    have F6_words : Fld Z h6 ob6 "com/example/flat_planner/flatplanner/AtomMask" "words" "[I" .null := D6 (Or.inr (hw _ (List.mem_of_getElem? (i := 51) rfl))) (ty := (.array .int)) (by decide)
    have F6_masks : Fld Z h6 ob6 "com/example/flat_planner/flatplanner/AtomMask" "masks" "[J" .null := D6 (Or.inr (hw _ (List.mem_of_getElem? (i := 62) rfl))) (ty := (.array .long)) (by decide)
    refine E_dup (pc' := 135) cx st6 at_134 rfl rfl ?_
    refine E_aload (pc' := 137) cx st6 at_135 rfl rfl rfl ?_
    have V7 : Arv Z h6 ar5 ca5 .int (0 : Int32) [] (.int (0 : Int32)) := (V5p.ext E6)
    have X8 : Exa Z h6 ar5 "[I" := (X5.ext E6)
    refine E_callI (pc' := 140) (kc' := 8) (ks' := 20) (W := 1) (a := ob6) (argsL := [(.ref ar5)]) cx st6 [(.ref ob6)] (rm2n0 l Z a0 hw ob6 ar5  h6 n0 Z6 ca5 g_ob6 (Ne.symm ne_ar5_ob6) X6 F6_words F6_masks X8 V7) rfl (hw _ (List.mem_of_getElem? (i := 8) rfl)) (hw _ (List.mem_of_getElem? (i := 9) rfl)) (hw _ (List.mem_of_getElem? (i := 7) rfl)) (hw _ (List.mem_of_getElem? (i := 10) rfl)) at_137 rfl rfl (lenOf pd_4 rfl) (Nat.le_of_eq rfl) (by decide) (by decide) (by decide) (by decide) (by decide) (by decide) (by decide) rfl ?_
    intro v9 T9 h9 st9 hq9
    obtain ⟨rfl, Kc, bw, bm, kw, km, ws, ms, hl, h3, G1, G2, V1, V2, sz1, sz2, hbw, hA, hN⟩ := hq9
    have Z9 : n0 ≤ h9.size := Nat.le_trans Z6 Kc.1
    have ne_ar5_bw : ar5 ≠ bw := Nat.ne_of_lt (Nat.lt_of_lt_of_le V7.lt sz1)
    have ne_ob6_bw : ob6 ≠ bw := Nat.ne_of_lt (Nat.lt_of_lt_of_le X6.lt sz1)
    have ne_ar5_bm : ar5 ≠ bm := Nat.ne_of_lt (Nat.lt_of_lt_of_le V7.lt sz2)
    have ne_ob6_bm : ob6 ≠ bm := Nat.ne_of_lt (Nat.lt_of_lt_of_le X6.lt sz2)
    refine E_astore (pc' := 142) (L' := #[.val (.int p0), .val (.int p1), .val (.int p2), .val (.int p3), .val (.long q4), .second, .val (.long q5), .second, .val (.int u1), .val (.int u2), .val (.int u3), .val (.int (0 : Int32)), .val (.ref ar5), .val (.int (1 : Int32)), .val (.ref ob6), .unset]) cx st9 at_140 rfl rfl rfl ?_
    refine E_iconst (pc' := 143) cx st9 (2 : Int32) at_142 rfl rfl ?_
    have V10 : Arv Z h9 ar5 ca5 .int (0 : Int32) [] (.int (0 : Int32)) := (V7.keep Kc (ninS ne_ar5_ob6 nin0))
    have X11 : Exa Z h9 ob6 "com/example/flat_planner/flatplanner/AtomMask" := (X6.keep Kc)
    refine E_newP (pc' := 145) (kc' := 9) (ks' := 22) (cap := 2) cx st9 (hw _ (List.mem_of_getElem? (i := 37) rfl)) at_143 (by decide) (by decide) (by decide) (by decide) (by decide) (by decide) (by decide) rfl (ad := "[J") (by decide) ?_
    intro T12 h12 ca12 ar12 eq12 st12 E12 V12 X12
    have g_ar12 : n0 ≤ ar12 := by rw [eq12]; exact Z9
    have ne_ar5_ar12 : ar5 ≠ ar12 := by rw [eq12]; exact Nat.ne_of_lt V10.lt
    have ne_ob6_ar12 : ob6 ≠ ar12 := by rw [eq12]; exact Nat.ne_of_lt X11.lt
    have ne_bw_ar12 : bw ≠ ar12 := by rw [eq12]; exact Nat.ne_of_lt V1.lt
    have ne_bm_ar12 : bm ≠ ar12 := by rw [eq12]; exact Nat.ne_of_lt V2.lt
    have Z12 : n0 ≤ h12.size := Nat.le_trans Z9 E12.1
    have V12p : Arv Z h12 ar12 ca12 .long (2 : Int32) [(.long (0 : Int64)), (.long (0 : Int64))] (.long (0 : Int64)) := V12.pad (pad_rep [] (.long (0 : Int64)) 2)
    refine E_dup (pc' := 146) cx st12 at_145 rfl rfl ?_
    refine E_iconst (pc' := 147) cx st12 (0 : Int32) at_146 rfl rfl ?_
    refine E_lload (pc' := 149) cx st12 at_147 rfl rfl ?_
    refine E_lastore (pc' := 150) (i := 0) cx st12 V12p ⟨by decide, by decide⟩ rfl (Nat.le_of_ble_eq_true rfl) g_ar12 at_149 rfl ?_
    intro T13 h13 st13 W13 V13
    have Z13 : n0 ≤ h13.size := Nat.le_trans Z12 (Keep.of_wr W13).1
    have V13p : Arv Z h13 ar12 ca12 .long (2 : Int32) [(.long q4), (.long (0 : Int64))] (.long (0 : Int64)) := V13
    refine E_dup (pc' := 151) cx st13 at_150 rfl rfl ?_
    refine E_iconst (pc' := 152) cx st13 (1 : Int32) at_151 rfl rfl ?_
    refine E_lload (pc' := 154) cx st13 at_152 rfl rfl ?_
    refine E_lastore (pc' := 155) (i := 1) cx st13 V13p ⟨by decide, by decide⟩ rfl (Nat.le_of_ble_eq_true rfl) g_ar12 at_154 rfl ?_
    intro T14 h14 st14 W14 V14
    have Z14 : n0 ≤ h14.size := Nat.le_trans Z13 (Keep.of_wr W14).1
    have V14p : Arv Z h14 ar12 ca12 .long (2 : Int32) [(.long q4), (.long q5)] (.long (0 : Int64)) := V14
    refine E_astore (pc' := 157) (L' := #[.val (.int p0), .val (.int p1), .val (.int p2), .val (.int p3), .val (.long q4), .second, .val (.long q5), .second, .val (.int u1), .val (.int u2), .val (.int u3), .val (.int (0 : Int32)), .val (.ref ar5), .val (.int (1 : Int32)), .val (.ref ob6), .val (.ref ar12)]) cx st14 at_155 rfl rfl rfl ?_
    refine E_aload (pc' := 159) cx st14 at_157 rfl rfl rfl ?_
    refine E_aload (pc' := 161) cx st14 at_159 rfl rfl rfl ?_
    have X15 : Exa Z h14 ob6 "com/example/flat_planner/flatplanner/AtomMask" := (((X11.ext E12).wr W13).wr W14)
    have G16 : Fld Z h14 ob6 "com/example/flat_planner/flatplanner/AtomMask" "words" "[I" (.ref bw) := (((G1.ext E12).other W13 (Or.inl ne_ob6_ar12)).other W14 (Or.inl ne_ob6_ar12))
    have G17 : Fld Z h14 ob6 "com/example/flat_planner/flatplanner/AtomMask" "masks" "[J" (.ref bm) := (((G2.ext E12).other W13 (Or.inl ne_ob6_ar12)).other W14 (Or.inl ne_ob6_ar12))
    have V18 : Arv Z h14 bw kw .int (Int32.ofNat ws.length) (ws.map Value.int) (.int (0 : Int32)) := (((V1.ext E12).other W13 ne_bw_ar12).other W14 ne_bw_ar12)
    have V19 : Arv Z h14 bm km .long (Int32.ofNat ws.length) (ms.map Value.long) (.long (0 : Int64)) := (((V2.ext E12).other W13 ne_bm_ar12).other W14 ne_bm_ar12)
    refine E_callV (pc' := 164) (kc' := 9) (ks' := 22) (W := 0) (a := ob6) (argsL := [(.ref ar12)]) cx st14 [] (rmA l Z a0 hw ob6 ar12 q4 q5 bw bm ws ms h14 n0 Z14 kw km ca12 X15 G16 G17 V18 V19 V14p hl h3 (hbw trivial)) X15 (hw _ (List.mem_of_getElem? (i := 63) rfl)) (hw _ (List.mem_of_getElem? (i := 64) rfl)) (hw _ (List.mem_of_getElem? (i := 66) rfl)) (hw _ (List.mem_of_getElem? (i := 65) rfl)) (hw _ (List.mem_of_getElem? (i := 7) rfl)) (hw _ (List.mem_of_getElem? (i := 67) rfl)) at_161 rfl rfl (lenOf pd_9 rfl) (Nat.le_of_eq rfl) (by decide) (by decide) (by decide) (by decide) (by decide) (by decide) (by decide) rfl ?_
    intro v20 T20 h20 st20 hq20
    obtain ⟨rfl, hh20⟩ := hq20
    rw [hh20] at st20
    refine E_iload (pc' := 166) cx st20 at_164 rfl rfl ?_
    refine E_icmp_neN (pc' := 169) cx st20 at_166 rfl (if_pos ((hA _).mpr trivial)) ?_
    refine E_iconst (pc' := 170) cx st20 (1 : Int32) at_169 rfl rfl ?_
    refine E_goto (pc' := 174) cx st20 at_170 (by decide) (by decide) ?_
    refine E_ireturn (t := .boolean) cx st20 at_174 rfl (by simp) rfl (by decide) (by decide) ?_
    exact rfl
  · refine E_iload (pc' := 25) cx st at_23 rfl rfl ?_
    refine E_newP (pc' := 27) (kc' := 1) (ks' := 1) (cap := 1) cx st (hw _ (List.mem_of_getElem? (i := 0) rfl)) at_25 (by decide) (by decide) (by decide) (by decide) (by decide) (by decide) (by decide) rfl (ad := "[I") (by decide) ?_
    intro T21 h21 ca21 ar21 eq21 st21 E21 V21 X21
    have g_ar21 : n0 ≤ ar21 := by rw [eq21]; exact Z0
    have Z21 : n0 ≤ h21.size := Nat.le_trans Z0 E21.1
    have V21p : Arv Z h21 ar21 ca21 .int (1 : Int32) [(.int (0 : Int32))] (.int (0 : Int32)) := V21.pad (pad_rep [] (.int (0 : Int32)) 1)
    refine E_astore (pc' := 29) (L' := #[.val (.int p0), .val (.int p1), .val (.int p2), .val (.int p3), .val (.long q4), .second, .val (.long q5), .second, .val (.int u1), .val (.int u2), .val (.int u3), .val (.int (1 : Int32)), .val (.ref ar21), .unset, .unset, .unset]) cx st21 at_27 rfl rfl rfl ?_
    refine E_iload (pc' := 31) cx st21 at_29 rfl rfl ?_
    refine E_iconst (pc' := 32) cx st21 (1 : Int32) at_31 rfl rfl ?_
    refine E_icmp_ltN (pc' := 35) cx st21 at_32 rfl (by decide) ?_
    refine E_aload (pc' := 37) cx st21 at_35 rfl rfl rfl ?_
    refine E_iconst (pc' := 38) cx st21 (0 : Int32) at_37 rfl rfl ?_
    refine E_iload (pc' := 40) cx st21 at_38 rfl rfl ?_
    refine E_iastore (pc' := 41) (i := 0) cx st21 V21p ⟨by decide, by decide⟩ rfl (Nat.le_of_ble_eq_true rfl) g_ar21 at_40 rfl ?_
    intro T22 h22 st22 W22 V22
    have Z22 : n0 ≤ h22.size := Nat.le_trans Z21 (Keep.of_wr W22).1
    have V22p : Arv Z h22 ar21 ca21 .int (1 : Int32) [(.int u1)] (.int (0 : Int32)) := V22
    refine E_iload (pc' := 43) cx st22 at_41 rfl rfl ?_
    refine E_iconst (pc' := 44) cx st22 (2 : Int32) at_43 rfl rfl ?_
    refine E_icmp_ltY (pc' := 53) cx st22 at_44 (by decide) (by decide) (by decide) ?_
    refine E_iload (pc' := 55) cx st22 at_53 rfl rfl ?_
    refine E_iconst (pc' := 56) cx st22 (3 : Int32) at_55 rfl rfl ?_
    refine E_icmp_ltY (pc' := 65) cx st22 at_56 (by decide) (by decide) (by decide) ?_
    refine E_iconst (pc' := 66) cx st22 (1 : Int32) at_65 rfl rfl ?_
    refine E_istore (pc' := 68) (L' := #[.val (.int p0), .val (.int p1), .val (.int p2), .val (.int p3), .val (.long q4), .second, .val (.long q5), .second, .val (.int u1), .val (.int u2), .val (.int u3), .val (.int (1 : Int32)), .val (.ref ar21), .val (.int (1 : Int32)), .unset, .unset]) cx st22 at_66 rfl rfl ?_
    refine E_iload (pc' := 70) cx st22 at_68 rfl rfl ?_
    refine E_iconst (pc' := 71) cx st22 (1 : Int32) at_70 rfl rfl ?_
    refine E_icmp_ltN (pc' := 74) cx st22 at_71 rfl (by decide) ?_
    refine E_lload (pc' := 76) cx st22 at_74 rfl rfl ?_
    refine E_lload (pc' := 78) cx st22 at_76 rfl rfl ?_
    refine E_iload (pc' := 80) cx st22 at_78 rfl rfl ?_
    refine E_callS (pc' := 83) (kc' := 1) (ks' := 1) (W := 0) (argsL := [(.long q4), (.long q5), (.int u1)]) cx st22 [] (rm1 l Z a0 hw q4 q5 u1 h22 n0 Z22 hB0) (hw _ (List.mem_of_getElem? (i := 1) rfl)) (hw _ (List.mem_of_getElem? (i := 2) rfl)) (hw _ (List.mem_of_getElem? (i := 3) rfl)) (hw _ (List.mem_of_getElem? (i := 4) rfl)) at_80 rfl rfl (lenOf pd_10 rfl) (Nat.le_of_eq rfl) (by decide) (by decide) (by decide) (by decide) (by decide) (by decide) (by decide) rfl ?_
    intro v23 T23 h23 st23 hq23
    obtain ⟨rfl, hh23⟩ := hq23
    rw [hh23] at st23
    by_cases c24 : (hv [q4, q5] u1) = (0 : Int32)
    · refine E_if_neN (pc' := 86) cx st23 at_83 rfl c24 ?_
      refine E_iconst (pc' := 87) cx st23 (0 : Int32) at_86 rfl rfl ?_
      refine E_istore (pc' := 89) (L' := #[.val (.int p0), .val (.int p1), .val (.int p2), .val (.int p3), .val (.long q4), .second, .val (.long q5), .second, .val (.int u1), .val (.int u2), .val (.int u3), .val (.int (1 : Int32)), .val (.ref ar21), .val (.int (0 : Int32)), .unset, .unset]) cx st23 at_87 rfl rfl ?_
      refine E_iload (pc' := 91) cx st23 at_89 rfl rfl ?_
      refine E_iconst (pc' := 92) cx st23 (2 : Int32) at_91 rfl rfl ?_
      refine E_icmp_ltY (pc' := 110) cx st23 at_92 (by decide) (by decide) (by decide) ?_
      refine E_iload (pc' := 112) cx st23 at_110 rfl rfl ?_
      refine E_iconst (pc' := 113) cx st23 (3 : Int32) at_112 rfl rfl ?_
      refine E_icmp_ltY (pc' := 131) cx st23 at_113 (by decide) (by decide) (by decide) ?_
      refine E_new (pc' := 134) (kc' := 2) (ks' := 3) cx st23 (hw _ (List.mem_of_getElem? (i := 5) rfl)) (hw _ (List.mem_of_getElem? (i := 6) rfl)) (hw _ (List.mem_of_getElem? (i := 7) rfl)) at_131 (by decide) (by decide) (by decide) (by decide) rfl ?_
      intro T25 h25 ob25 eq25 st25 E25 X25 D25
      have g_ob25 : n0 ≤ ob25 := by rw [eq25]; exact Z22
      have ne_ar21_ob25 : ar21 ≠ ob25 := by rw [eq25]; exact Nat.ne_of_lt V22p.lt
      have Z25 : n0 ≤ h25.size := Nat.le_trans Z22 E25.1
      have F25_words : Fld Z h25 ob25 "com/example/flat_planner/flatplanner/AtomMask" "words" "[I" .null := D25 (Or.inr (hw _ (List.mem_of_getElem? (i := 51) rfl))) (ty := (.array .int)) (by decide)
      have F25_masks : Fld Z h25 ob25 "com/example/flat_planner/flatplanner/AtomMask" "masks" "[J" .null := D25 (Or.inr (hw _ (List.mem_of_getElem? (i := 62) rfl))) (ty := (.array .long)) (by decide)
      refine E_dup (pc' := 135) cx st25 at_134 rfl rfl ?_
      refine E_aload (pc' := 137) cx st25 at_135 rfl rfl rfl ?_
      have V26 : Arv Z h25 ar21 ca21 .int (1 : Int32) [(.int u1)] (.int (0 : Int32)) := (V22p.ext E25)
      have X27 : Exa Z h25 ar21 "[I" := ((X21.wr W22).ext E25)
      refine E_callI (pc' := 140) (kc' := 8) (ks' := 21) (W := 1) (a := ob25) (argsL := [(.ref ar21)]) cx st25 [(.ref ob25)] (rm2n1 l Z a0 hw ob25 ar21 u1 h25 n0 Z25 ca21 g_ob25 (Ne.symm ne_ar21_ob25) X25 F25_words F25_masks X27 V26) rfl (hw _ (List.mem_of_getElem? (i := 8) rfl)) (hw _ (List.mem_of_getElem? (i := 9) rfl)) (hw _ (List.mem_of_getElem? (i := 7) rfl)) (hw _ (List.mem_of_getElem? (i := 10) rfl)) at_137 rfl rfl (lenOf pd_4 rfl) (Nat.le_of_eq rfl) (by decide) (by decide) (by decide) (by decide) (by decide) (by decide) (by decide) rfl ?_
      intro v28 T28 h28 st28 hq28
      obtain ⟨rfl, Kc, bw, bm, kw, km, ws, ms, hl, h3, G1, G2, V1, V2, sz1, sz2, hbw, hA, hN⟩ := hq28
      have Z28 : n0 ≤ h28.size := Nat.le_trans Z25 Kc.1
      have ne_ar21_bw : ar21 ≠ bw := Nat.ne_of_lt (Nat.lt_of_lt_of_le V26.lt sz1)
      have ne_ob25_bw : ob25 ≠ bw := Nat.ne_of_lt (Nat.lt_of_lt_of_le X25.lt sz1)
      have ne_ar21_bm : ar21 ≠ bm := Nat.ne_of_lt (Nat.lt_of_lt_of_le V26.lt sz2)
      have ne_ob25_bm : ob25 ≠ bm := Nat.ne_of_lt (Nat.lt_of_lt_of_le X25.lt sz2)
      refine E_astore (pc' := 142) (L' := #[.val (.int p0), .val (.int p1), .val (.int p2), .val (.int p3), .val (.long q4), .second, .val (.long q5), .second, .val (.int u1), .val (.int u2), .val (.int u3), .val (.int (1 : Int32)), .val (.ref ar21), .val (.int (0 : Int32)), .val (.ref ob25), .unset]) cx st28 at_140 rfl rfl rfl ?_
      refine E_iconst (pc' := 143) cx st28 (2 : Int32) at_142 rfl rfl ?_
      have V29 : Arv Z h28 ar21 ca21 .int (1 : Int32) [(.int u1)] (.int (0 : Int32)) := (V26.keep Kc (ninS ne_ar21_ob25 nin0))
      have X30 : Exa Z h28 ob25 "com/example/flat_planner/flatplanner/AtomMask" := (X25.keep Kc)
      refine E_newP (pc' := 145) (kc' := 9) (ks' := 23) (cap := 2) cx st28 (hw _ (List.mem_of_getElem? (i := 37) rfl)) at_143 (by decide) (by decide) (by decide) (by decide) (by decide) (by decide) (by decide) rfl (ad := "[J") (by decide) ?_
      intro T31 h31 ca31 ar31 eq31 st31 E31 V31 X31
      have g_ar31 : n0 ≤ ar31 := by rw [eq31]; exact Z28
      have ne_ar21_ar31 : ar21 ≠ ar31 := by rw [eq31]; exact Nat.ne_of_lt V29.lt
      have ne_ob25_ar31 : ob25 ≠ ar31 := by rw [eq31]; exact Nat.ne_of_lt X30.lt
      have ne_bw_ar31 : bw ≠ ar31 := by rw [eq31]; exact Nat.ne_of_lt V1.lt
      have ne_bm_ar31 : bm ≠ ar31 := by rw [eq31]; exact Nat.ne_of_lt V2.lt
      have Z31 : n0 ≤ h31.size := Nat.le_trans Z28 E31.1
      have V31p : Arv Z h31 ar31 ca31 .long (2 : Int32) [(.long (0 : Int64)), (.long (0 : Int64))] (.long (0 : Int64)) := V31.pad (pad_rep [] (.long (0 : Int64)) 2)
      refine E_dup (pc' := 146) cx st31 at_145 rfl rfl ?_
      refine E_iconst (pc' := 147) cx st31 (0 : Int32) at_146 rfl rfl ?_
      refine E_lload (pc' := 149) cx st31 at_147 rfl rfl ?_
      refine E_lastore (pc' := 150) (i := 0) cx st31 V31p ⟨by decide, by decide⟩ rfl (Nat.le_of_ble_eq_true rfl) g_ar31 at_149 rfl ?_
      intro T32 h32 st32 W32 V32
      have Z32 : n0 ≤ h32.size := Nat.le_trans Z31 (Keep.of_wr W32).1
      have V32p : Arv Z h32 ar31 ca31 .long (2 : Int32) [(.long q4), (.long (0 : Int64))] (.long (0 : Int64)) := V32
      refine E_dup (pc' := 151) cx st32 at_150 rfl rfl ?_
      refine E_iconst (pc' := 152) cx st32 (1 : Int32) at_151 rfl rfl ?_
      refine E_lload (pc' := 154) cx st32 at_152 rfl rfl ?_
      refine E_lastore (pc' := 155) (i := 1) cx st32 V32p ⟨by decide, by decide⟩ rfl (Nat.le_of_ble_eq_true rfl) g_ar31 at_154 rfl ?_
      intro T33 h33 st33 W33 V33
      have Z33 : n0 ≤ h33.size := Nat.le_trans Z32 (Keep.of_wr W33).1
      have V33p : Arv Z h33 ar31 ca31 .long (2 : Int32) [(.long q4), (.long q5)] (.long (0 : Int64)) := V33
      refine E_astore (pc' := 157) (L' := #[.val (.int p0), .val (.int p1), .val (.int p2), .val (.int p3), .val (.long q4), .second, .val (.long q5), .second, .val (.int u1), .val (.int u2), .val (.int u3), .val (.int (1 : Int32)), .val (.ref ar21), .val (.int (0 : Int32)), .val (.ref ob25), .val (.ref ar31)]) cx st33 at_155 rfl rfl rfl ?_
      refine E_aload (pc' := 159) cx st33 at_157 rfl rfl rfl ?_
      refine E_aload (pc' := 161) cx st33 at_159 rfl rfl rfl ?_
      have X34 : Exa Z h33 ob25 "com/example/flat_planner/flatplanner/AtomMask" := (((X30.ext E31).wr W32).wr W33)
      have G35 : Fld Z h33 ob25 "com/example/flat_planner/flatplanner/AtomMask" "words" "[I" (.ref bw) := (((G1.ext E31).other W32 (Or.inl ne_ob25_ar31)).other W33 (Or.inl ne_ob25_ar31))
      have G36 : Fld Z h33 ob25 "com/example/flat_planner/flatplanner/AtomMask" "masks" "[J" (.ref bm) := (((G2.ext E31).other W32 (Or.inl ne_ob25_ar31)).other W33 (Or.inl ne_ob25_ar31))
      have V37 : Arv Z h33 bw kw .int (Int32.ofNat ws.length) (ws.map Value.int) (.int (0 : Int32)) := (((V1.ext E31).other W32 ne_bw_ar31).other W33 ne_bw_ar31)
      have V38 : Arv Z h33 bm km .long (Int32.ofNat ws.length) (ms.map Value.long) (.long (0 : Int64)) := (((V2.ext E31).other W32 ne_bm_ar31).other W33 ne_bm_ar31)
      refine E_callV (pc' := 164) (kc' := 9) (ks' := 23) (W := 0) (a := ob25) (argsL := [(.ref ar31)]) cx st33 [] (rmA l Z a0 hw ob25 ar31 q4 q5 bw bm ws ms h33 n0 Z33 kw km ca31 X34 G35 G36 V37 V38 V33p hl h3 (hbw hB0)) X34 (hw _ (List.mem_of_getElem? (i := 63) rfl)) (hw _ (List.mem_of_getElem? (i := 64) rfl)) (hw _ (List.mem_of_getElem? (i := 66) rfl)) (hw _ (List.mem_of_getElem? (i := 65) rfl)) (hw _ (List.mem_of_getElem? (i := 7) rfl)) (hw _ (List.mem_of_getElem? (i := 67) rfl)) at_161 rfl rfl (lenOf pd_9 rfl) (Nat.le_of_eq rfl) (by decide) (by decide) (by decide) (by decide) (by decide) (by decide) (by decide) rfl ?_
      intro v39 T39 h39 st39 hq39
      obtain ⟨rfl, hh39⟩ := hq39
      rw [hh39] at st39
      refine E_iload (pc' := 166) cx st39 at_164 rfl rfl ?_
      refine E_icmp_neN (pc' := 169) cx st39 at_166 rfl (if_neg (fun z => hv_no c24 ((hA _).mp z))) ?_
      refine E_iconst (pc' := 170) cx st39 (1 : Int32) at_169 rfl rfl ?_
      refine E_goto (pc' := 174) cx st39 at_170 (by decide) (by decide) ?_
      refine E_ireturn (t := .boolean) cx st39 at_174 rfl (by simp) rfl (by decide) (by decide) ?_
      exact rfl
    · refine E_if_neY (pc' := 89) cx st23 at_83 (by decide) (by decide) c24 ?_
      refine E_iload (pc' := 91) cx st23 at_89 rfl rfl ?_
      refine E_iconst (pc' := 92) cx st23 (2 : Int32) at_91 rfl rfl ?_
      refine E_icmp_ltY (pc' := 110) cx st23 at_92 (by decide) (by decide) (by decide) ?_
      refine E_iload (pc' := 112) cx st23 at_110 rfl rfl ?_
      refine E_iconst (pc' := 113) cx st23 (3 : Int32) at_112 rfl rfl ?_
      refine E_icmp_ltY (pc' := 131) cx st23 at_113 (by decide) (by decide) (by decide) ?_
      refine E_new (pc' := 134) (kc' := 2) (ks' := 3) cx st23 (hw _ (List.mem_of_getElem? (i := 5) rfl)) (hw _ (List.mem_of_getElem? (i := 6) rfl)) (hw _ (List.mem_of_getElem? (i := 7) rfl)) at_131 (by decide) (by decide) (by decide) (by decide) rfl ?_
      intro T40 h40 ob40 eq40 st40 E40 X40 D40
      have g_ob40 : n0 ≤ ob40 := by rw [eq40]; exact Z22
      have ne_ar21_ob40 : ar21 ≠ ob40 := by rw [eq40]; exact Nat.ne_of_lt V22p.lt
      have Z40 : n0 ≤ h40.size := Nat.le_trans Z22 E40.1
      have F40_words : Fld Z h40 ob40 "com/example/flat_planner/flatplanner/AtomMask" "words" "[I" .null := D40 (Or.inr (hw _ (List.mem_of_getElem? (i := 51) rfl))) (ty := (.array .int)) (by decide)
      have F40_masks : Fld Z h40 ob40 "com/example/flat_planner/flatplanner/AtomMask" "masks" "[J" .null := D40 (Or.inr (hw _ (List.mem_of_getElem? (i := 62) rfl))) (ty := (.array .long)) (by decide)
      refine E_dup (pc' := 135) cx st40 at_134 rfl rfl ?_
      refine E_aload (pc' := 137) cx st40 at_135 rfl rfl rfl ?_
      have V41 : Arv Z h40 ar21 ca21 .int (1 : Int32) [(.int u1)] (.int (0 : Int32)) := (V22p.ext E40)
      have X42 : Exa Z h40 ar21 "[I" := ((X21.wr W22).ext E40)
      refine E_callI (pc' := 140) (kc' := 8) (ks' := 21) (W := 1) (a := ob40) (argsL := [(.ref ar21)]) cx st40 [(.ref ob40)] (rm2n1 l Z a0 hw ob40 ar21 u1 h40 n0 Z40 ca21 g_ob40 (Ne.symm ne_ar21_ob40) X40 F40_words F40_masks X42 V41) rfl (hw _ (List.mem_of_getElem? (i := 8) rfl)) (hw _ (List.mem_of_getElem? (i := 9) rfl)) (hw _ (List.mem_of_getElem? (i := 7) rfl)) (hw _ (List.mem_of_getElem? (i := 10) rfl)) at_137 rfl rfl (lenOf pd_4 rfl) (Nat.le_of_eq rfl) (by decide) (by decide) (by decide) (by decide) (by decide) (by decide) (by decide) rfl ?_
      intro v43 T43 h43 st43 hq43
      obtain ⟨rfl, Kc, bw, bm, kw, km, ws, ms, hl, h3, G1, G2, V1, V2, sz1, sz2, hbw, hA, hN⟩ := hq43
      have Z43 : n0 ≤ h43.size := Nat.le_trans Z40 Kc.1
      have ne_ar21_bw : ar21 ≠ bw := Nat.ne_of_lt (Nat.lt_of_lt_of_le V41.lt sz1)
      have ne_ob40_bw : ob40 ≠ bw := Nat.ne_of_lt (Nat.lt_of_lt_of_le X40.lt sz1)
      have ne_ar21_bm : ar21 ≠ bm := Nat.ne_of_lt (Nat.lt_of_lt_of_le V41.lt sz2)
      have ne_ob40_bm : ob40 ≠ bm := Nat.ne_of_lt (Nat.lt_of_lt_of_le X40.lt sz2)
      refine E_astore (pc' := 142) (L' := #[.val (.int p0), .val (.int p1), .val (.int p2), .val (.int p3), .val (.long q4), .second, .val (.long q5), .second, .val (.int u1), .val (.int u2), .val (.int u3), .val (.int (1 : Int32)), .val (.ref ar21), .val (.int (1 : Int32)), .val (.ref ob40), .unset]) cx st43 at_140 rfl rfl rfl ?_
      refine E_iconst (pc' := 143) cx st43 (2 : Int32) at_142 rfl rfl ?_
      have V44 : Arv Z h43 ar21 ca21 .int (1 : Int32) [(.int u1)] (.int (0 : Int32)) := (V41.keep Kc (ninS ne_ar21_ob40 nin0))
      have X45 : Exa Z h43 ob40 "com/example/flat_planner/flatplanner/AtomMask" := (X40.keep Kc)
      refine E_newP (pc' := 145) (kc' := 9) (ks' := 23) (cap := 2) cx st43 (hw _ (List.mem_of_getElem? (i := 37) rfl)) at_143 (by decide) (by decide) (by decide) (by decide) (by decide) (by decide) (by decide) rfl (ad := "[J") (by decide) ?_
      intro T46 h46 ca46 ar46 eq46 st46 E46 V46 X46
      have g_ar46 : n0 ≤ ar46 := by rw [eq46]; exact Z43
      have ne_ar21_ar46 : ar21 ≠ ar46 := by rw [eq46]; exact Nat.ne_of_lt V44.lt
      have ne_ob40_ar46 : ob40 ≠ ar46 := by rw [eq46]; exact Nat.ne_of_lt X45.lt
      have ne_bw_ar46 : bw ≠ ar46 := by rw [eq46]; exact Nat.ne_of_lt V1.lt
      have ne_bm_ar46 : bm ≠ ar46 := by rw [eq46]; exact Nat.ne_of_lt V2.lt
      have Z46 : n0 ≤ h46.size := Nat.le_trans Z43 E46.1
      have V46p : Arv Z h46 ar46 ca46 .long (2 : Int32) [(.long (0 : Int64)), (.long (0 : Int64))] (.long (0 : Int64)) := V46.pad (pad_rep [] (.long (0 : Int64)) 2)
      refine E_dup (pc' := 146) cx st46 at_145 rfl rfl ?_
      refine E_iconst (pc' := 147) cx st46 (0 : Int32) at_146 rfl rfl ?_
      refine E_lload (pc' := 149) cx st46 at_147 rfl rfl ?_
      refine E_lastore (pc' := 150) (i := 0) cx st46 V46p ⟨by decide, by decide⟩ rfl (Nat.le_of_ble_eq_true rfl) g_ar46 at_149 rfl ?_
      intro T47 h47 st47 W47 V47
      have Z47 : n0 ≤ h47.size := Nat.le_trans Z46 (Keep.of_wr W47).1
      have V47p : Arv Z h47 ar46 ca46 .long (2 : Int32) [(.long q4), (.long (0 : Int64))] (.long (0 : Int64)) := V47
      refine E_dup (pc' := 151) cx st47 at_150 rfl rfl ?_
      refine E_iconst (pc' := 152) cx st47 (1 : Int32) at_151 rfl rfl ?_
      refine E_lload (pc' := 154) cx st47 at_152 rfl rfl ?_
      refine E_lastore (pc' := 155) (i := 1) cx st47 V47p ⟨by decide, by decide⟩ rfl (Nat.le_of_ble_eq_true rfl) g_ar46 at_154 rfl ?_
      intro T48 h48 st48 W48 V48
      have Z48 : n0 ≤ h48.size := Nat.le_trans Z47 (Keep.of_wr W48).1
      have V48p : Arv Z h48 ar46 ca46 .long (2 : Int32) [(.long q4), (.long q5)] (.long (0 : Int64)) := V48
      refine E_astore (pc' := 157) (L' := #[.val (.int p0), .val (.int p1), .val (.int p2), .val (.int p3), .val (.long q4), .second, .val (.long q5), .second, .val (.int u1), .val (.int u2), .val (.int u3), .val (.int (1 : Int32)), .val (.ref ar21), .val (.int (1 : Int32)), .val (.ref ob40), .val (.ref ar46)]) cx st48 at_155 rfl rfl rfl ?_
      refine E_aload (pc' := 159) cx st48 at_157 rfl rfl rfl ?_
      refine E_aload (pc' := 161) cx st48 at_159 rfl rfl rfl ?_
      have X49 : Exa Z h48 ob40 "com/example/flat_planner/flatplanner/AtomMask" := (((X45.ext E46).wr W47).wr W48)
      have G50 : Fld Z h48 ob40 "com/example/flat_planner/flatplanner/AtomMask" "words" "[I" (.ref bw) := (((G1.ext E46).other W47 (Or.inl ne_ob40_ar46)).other W48 (Or.inl ne_ob40_ar46))
      have G51 : Fld Z h48 ob40 "com/example/flat_planner/flatplanner/AtomMask" "masks" "[J" (.ref bm) := (((G2.ext E46).other W47 (Or.inl ne_ob40_ar46)).other W48 (Or.inl ne_ob40_ar46))
      have V52 : Arv Z h48 bw kw .int (Int32.ofNat ws.length) (ws.map Value.int) (.int (0 : Int32)) := (((V1.ext E46).other W47 ne_bw_ar46).other W48 ne_bw_ar46)
      have V53 : Arv Z h48 bm km .long (Int32.ofNat ws.length) (ms.map Value.long) (.long (0 : Int64)) := (((V2.ext E46).other W47 ne_bm_ar46).other W48 ne_bm_ar46)
      refine E_callV (pc' := 164) (kc' := 9) (ks' := 23) (W := 0) (a := ob40) (argsL := [(.ref ar46)]) cx st48 [] (rmA l Z a0 hw ob40 ar46 q4 q5 bw bm ws ms h48 n0 Z48 kw km ca46 X49 G50 G51 V52 V53 V48p hl h3 (hbw hB0)) X49 (hw _ (List.mem_of_getElem? (i := 63) rfl)) (hw _ (List.mem_of_getElem? (i := 64) rfl)) (hw _ (List.mem_of_getElem? (i := 66) rfl)) (hw _ (List.mem_of_getElem? (i := 65) rfl)) (hw _ (List.mem_of_getElem? (i := 7) rfl)) (hw _ (List.mem_of_getElem? (i := 67) rfl)) at_161 rfl rfl (lenOf pd_9 rfl) (Nat.le_of_eq rfl) (by decide) (by decide) (by decide) (by decide) (by decide) (by decide) (by decide) rfl ?_
      intro v54 T54 h54 st54 hq54
      obtain ⟨rfl, hh54⟩ := hq54
      rw [hh54] at st54
      refine E_iload (pc' := 166) cx st54 at_164 rfl rfl ?_
      refine E_icmp_neN (pc' := 169) cx st54 at_166 rfl (if_pos ((hA _).mpr (hv_yes c24))) ?_
      refine E_iconst (pc' := 170) cx st54 (1 : Int32) at_169 rfl rfl ?_
      refine E_goto (pc' := 174) cx st54 at_170 (by decide) (by decide) ?_
      refine E_ireturn (t := .boolean) cx st54 at_174 rfl (by simp) rfl (by decide) (by decide) ?_
      exact rfl
  · refine E_iload (pc' := 25) cx st at_23 rfl rfl ?_
    refine E_newP (pc' := 27) (kc' := 1) (ks' := 2) (cap := 2) cx st (hw _ (List.mem_of_getElem? (i := 0) rfl)) at_25 (by decide) (by decide) (by decide) (by decide) (by decide) (by decide) (by decide) rfl (ad := "[I") (by decide) ?_
    intro T55 h55 ca55 ar55 eq55 st55 E55 V55 X55
    have g_ar55 : n0 ≤ ar55 := by rw [eq55]; exact Z0
    have Z55 : n0 ≤ h55.size := Nat.le_trans Z0 E55.1
    have V55p : Arv Z h55 ar55 ca55 .int (2 : Int32) [(.int (0 : Int32)), (.int (0 : Int32))] (.int (0 : Int32)) := V55.pad (pad_rep [] (.int (0 : Int32)) 2)
    refine E_astore (pc' := 29) (L' := #[.val (.int p0), .val (.int p1), .val (.int p2), .val (.int p3), .val (.long q4), .second, .val (.long q5), .second, .val (.int u1), .val (.int u2), .val (.int u3), .val (.int (2 : Int32)), .val (.ref ar55), .unset, .unset, .unset]) cx st55 at_27 rfl rfl rfl ?_
    refine E_iload (pc' := 31) cx st55 at_29 rfl rfl ?_
    refine E_iconst (pc' := 32) cx st55 (1 : Int32) at_31 rfl rfl ?_
    refine E_icmp_ltN (pc' := 35) cx st55 at_32 rfl (by decide) ?_
    refine E_aload (pc' := 37) cx st55 at_35 rfl rfl rfl ?_
    refine E_iconst (pc' := 38) cx st55 (0 : Int32) at_37 rfl rfl ?_
    refine E_iload (pc' := 40) cx st55 at_38 rfl rfl ?_
    refine E_iastore (pc' := 41) (i := 0) cx st55 V55p ⟨by decide, by decide⟩ rfl (Nat.le_of_ble_eq_true rfl) g_ar55 at_40 rfl ?_
    intro T56 h56 st56 W56 V56
    have Z56 : n0 ≤ h56.size := Nat.le_trans Z55 (Keep.of_wr W56).1
    have V56p : Arv Z h56 ar55 ca55 .int (2 : Int32) [(.int u1), (.int (0 : Int32))] (.int (0 : Int32)) := V56
    refine E_iload (pc' := 43) cx st56 at_41 rfl rfl ?_
    refine E_iconst (pc' := 44) cx st56 (2 : Int32) at_43 rfl rfl ?_
    refine E_icmp_ltN (pc' := 47) cx st56 at_44 rfl (by decide) ?_
    refine E_aload (pc' := 49) cx st56 at_47 rfl rfl rfl ?_
    refine E_iconst (pc' := 50) cx st56 (1 : Int32) at_49 rfl rfl ?_
    refine E_iload (pc' := 52) cx st56 at_50 rfl rfl ?_
    refine E_iastore (pc' := 53) (i := 1) cx st56 V56p ⟨by decide, by decide⟩ rfl (Nat.le_of_ble_eq_true rfl) g_ar55 at_52 rfl ?_
    intro T57 h57 st57 W57 V57
    have Z57 : n0 ≤ h57.size := Nat.le_trans Z56 (Keep.of_wr W57).1
    have V57p : Arv Z h57 ar55 ca55 .int (2 : Int32) [(.int u1), (.int u2)] (.int (0 : Int32)) := V57
    refine E_iload (pc' := 55) cx st57 at_53 rfl rfl ?_
    refine E_iconst (pc' := 56) cx st57 (3 : Int32) at_55 rfl rfl ?_
    refine E_icmp_ltY (pc' := 65) cx st57 at_56 (by decide) (by decide) (by decide) ?_
    refine E_iconst (pc' := 66) cx st57 (1 : Int32) at_65 rfl rfl ?_
    refine E_istore (pc' := 68) (L' := #[.val (.int p0), .val (.int p1), .val (.int p2), .val (.int p3), .val (.long q4), .second, .val (.long q5), .second, .val (.int u1), .val (.int u2), .val (.int u3), .val (.int (2 : Int32)), .val (.ref ar55), .val (.int (1 : Int32)), .unset, .unset]) cx st57 at_66 rfl rfl ?_
    refine E_iload (pc' := 70) cx st57 at_68 rfl rfl ?_
    refine E_iconst (pc' := 71) cx st57 (1 : Int32) at_70 rfl rfl ?_
    refine E_icmp_ltN (pc' := 74) cx st57 at_71 rfl (by decide) ?_
    refine E_lload (pc' := 76) cx st57 at_74 rfl rfl ?_
    refine E_lload (pc' := 78) cx st57 at_76 rfl rfl ?_
    refine E_iload (pc' := 80) cx st57 at_78 rfl rfl ?_
    refine E_callS (pc' := 83) (kc' := 1) (ks' := 2) (W := 0) (argsL := [(.long q4), (.long q5), (.int u1)]) cx st57 [] (rm1 l Z a0 hw q4 q5 u1 h57 n0 Z57 hB0) (hw _ (List.mem_of_getElem? (i := 1) rfl)) (hw _ (List.mem_of_getElem? (i := 2) rfl)) (hw _ (List.mem_of_getElem? (i := 3) rfl)) (hw _ (List.mem_of_getElem? (i := 4) rfl)) at_80 rfl rfl (lenOf pd_10 rfl) (Nat.le_of_eq rfl) (by decide) (by decide) (by decide) (by decide) (by decide) (by decide) (by decide) rfl ?_
    intro v58 T58 h58 st58 hq58
    obtain ⟨rfl, hh58⟩ := hq58
    rw [hh58] at st58
    by_cases c59 : (hv [q4, q5] u1) = (0 : Int32)
    · refine E_if_neN (pc' := 86) cx st58 at_83 rfl c59 ?_
      refine E_iconst (pc' := 87) cx st58 (0 : Int32) at_86 rfl rfl ?_
      refine E_istore (pc' := 89) (L' := #[.val (.int p0), .val (.int p1), .val (.int p2), .val (.int p3), .val (.long q4), .second, .val (.long q5), .second, .val (.int u1), .val (.int u2), .val (.int u3), .val (.int (2 : Int32)), .val (.ref ar55), .val (.int (0 : Int32)), .unset, .unset]) cx st58 at_87 rfl rfl ?_
      refine E_iload (pc' := 91) cx st58 at_89 rfl rfl ?_
      refine E_iconst (pc' := 92) cx st58 (2 : Int32) at_91 rfl rfl ?_
      refine E_icmp_ltN (pc' := 95) cx st58 at_92 rfl (by decide) ?_
      refine E_lload (pc' := 97) cx st58 at_95 rfl rfl ?_
      refine E_lload (pc' := 99) cx st58 at_97 rfl rfl ?_
      refine E_iload (pc' := 101) cx st58 at_99 rfl rfl ?_
      refine E_callS (pc' := 104) (kc' := 1) (ks' := 2) (W := 0) (argsL := [(.long q4), (.long q5), (.int u2)]) cx st58 [] (rm1 l Z a0 hw q4 q5 u2 h57 n0 Z57 hB1) (hw _ (List.mem_of_getElem? (i := 1) rfl)) (hw _ (List.mem_of_getElem? (i := 2) rfl)) (hw _ (List.mem_of_getElem? (i := 3) rfl)) (hw _ (List.mem_of_getElem? (i := 4) rfl)) at_101 rfl rfl (lenOf pd_10 rfl) (Nat.le_of_eq rfl) (by decide) (by decide) (by decide) (by decide) (by decide) (by decide) (by decide) rfl ?_
      intro v60 T60 h60 st60 hq60
      obtain ⟨rfl, hh60⟩ := hq60
      rw [hh60] at st60
      by_cases c61 : (hv [q4, q5] u2) = (0 : Int32)
      · refine E_if_neN (pc' := 107) cx st60 at_104 rfl c61 ?_
        refine E_iconst (pc' := 108) cx st60 (0 : Int32) at_107 rfl rfl ?_
        refine E_istore (pc' := 110) (L' := #[.val (.int p0), .val (.int p1), .val (.int p2), .val (.int p3), .val (.long q4), .second, .val (.long q5), .second, .val (.int u1), .val (.int u2), .val (.int u3), .val (.int (2 : Int32)), .val (.ref ar55), .val (.int (0 : Int32)), .unset, .unset]) cx st60 at_108 rfl rfl ?_
        refine E_iload (pc' := 112) cx st60 at_110 rfl rfl ?_
        refine E_iconst (pc' := 113) cx st60 (3 : Int32) at_112 rfl rfl ?_
        refine E_icmp_ltY (pc' := 131) cx st60 at_113 (by decide) (by decide) (by decide) ?_
        refine E_new (pc' := 134) (kc' := 2) (ks' := 4) cx st60 (hw _ (List.mem_of_getElem? (i := 5) rfl)) (hw _ (List.mem_of_getElem? (i := 6) rfl)) (hw _ (List.mem_of_getElem? (i := 7) rfl)) at_131 (by decide) (by decide) (by decide) (by decide) rfl ?_
        intro T62 h62 ob62 eq62 st62 E62 X62 D62
        have g_ob62 : n0 ≤ ob62 := by rw [eq62]; exact Z57
        have ne_ar55_ob62 : ar55 ≠ ob62 := by rw [eq62]; exact Nat.ne_of_lt V57p.lt
        have Z62 : n0 ≤ h62.size := Nat.le_trans Z57 E62.1
        have F62_words : Fld Z h62 ob62 "com/example/flat_planner/flatplanner/AtomMask" "words" "[I" .null := D62 (Or.inr (hw _ (List.mem_of_getElem? (i := 51) rfl))) (ty := (.array .int)) (by decide)
        have F62_masks : Fld Z h62 ob62 "com/example/flat_planner/flatplanner/AtomMask" "masks" "[J" .null := D62 (Or.inr (hw _ (List.mem_of_getElem? (i := 62) rfl))) (ty := (.array .long)) (by decide)
        refine E_dup (pc' := 135) cx st62 at_134 rfl rfl ?_
        refine E_aload (pc' := 137) cx st62 at_135 rfl rfl rfl ?_
        have V63 : Arv Z h62 ar55 ca55 .int (2 : Int32) [(.int u1), (.int u2)] (.int (0 : Int32)) := (V57p.ext E62)
        have X64 : Exa Z h62 ar55 "[I" := (((X55.wr W56).wr W57).ext E62)
        refine E_callI (pc' := 140) (kc' := 8) (ks' := 22) (W := 1) (a := ob62) (argsL := [(.ref ar55)]) cx st62 [(.ref ob62)] (rm2n2 l Z a0 hw ob62 ar55 u1 u2 h62 n0 Z62 ca55 g_ob62 (Ne.symm ne_ar55_ob62) X62 F62_words F62_masks X64 V63) rfl (hw _ (List.mem_of_getElem? (i := 8) rfl)) (hw _ (List.mem_of_getElem? (i := 9) rfl)) (hw _ (List.mem_of_getElem? (i := 7) rfl)) (hw _ (List.mem_of_getElem? (i := 10) rfl)) at_137 rfl rfl (lenOf pd_4 rfl) (Nat.le_of_eq rfl) (by decide) (by decide) (by decide) (by decide) (by decide) (by decide) (by decide) rfl ?_
        intro v65 T65 h65 st65 hq65
        obtain ⟨rfl, Kc, bw, bm, kw, km, ws, ms, hl, h3, G1, G2, V1, V2, sz1, sz2, hbw, hA, hN⟩ := hq65
        have Z65 : n0 ≤ h65.size := Nat.le_trans Z62 Kc.1
        have ne_ar55_bw : ar55 ≠ bw := Nat.ne_of_lt (Nat.lt_of_lt_of_le V63.lt sz1)
        have ne_ob62_bw : ob62 ≠ bw := Nat.ne_of_lt (Nat.lt_of_lt_of_le X62.lt sz1)
        have ne_ar55_bm : ar55 ≠ bm := Nat.ne_of_lt (Nat.lt_of_lt_of_le V63.lt sz2)
        have ne_ob62_bm : ob62 ≠ bm := Nat.ne_of_lt (Nat.lt_of_lt_of_le X62.lt sz2)
        refine E_astore (pc' := 142) (L' := #[.val (.int p0), .val (.int p1), .val (.int p2), .val (.int p3), .val (.long q4), .second, .val (.long q5), .second, .val (.int u1), .val (.int u2), .val (.int u3), .val (.int (2 : Int32)), .val (.ref ar55), .val (.int (0 : Int32)), .val (.ref ob62), .unset]) cx st65 at_140 rfl rfl rfl ?_
        refine E_iconst (pc' := 143) cx st65 (2 : Int32) at_142 rfl rfl ?_
        have V66 : Arv Z h65 ar55 ca55 .int (2 : Int32) [(.int u1), (.int u2)] (.int (0 : Int32)) := (V63.keep Kc (ninS ne_ar55_ob62 nin0))
        have X67 : Exa Z h65 ob62 "com/example/flat_planner/flatplanner/AtomMask" := (X62.keep Kc)
        refine E_newP (pc' := 145) (kc' := 9) (ks' := 24) (cap := 2) cx st65 (hw _ (List.mem_of_getElem? (i := 37) rfl)) at_143 (by decide) (by decide) (by decide) (by decide) (by decide) (by decide) (by decide) rfl (ad := "[J") (by decide) ?_
        intro T68 h68 ca68 ar68 eq68 st68 E68 V68 X68
        have g_ar68 : n0 ≤ ar68 := by rw [eq68]; exact Z65
        have ne_ar55_ar68 : ar55 ≠ ar68 := by rw [eq68]; exact Nat.ne_of_lt V66.lt
        have ne_ob62_ar68 : ob62 ≠ ar68 := by rw [eq68]; exact Nat.ne_of_lt X67.lt
        have ne_bw_ar68 : bw ≠ ar68 := by rw [eq68]; exact Nat.ne_of_lt V1.lt
        have ne_bm_ar68 : bm ≠ ar68 := by rw [eq68]; exact Nat.ne_of_lt V2.lt
        have Z68 : n0 ≤ h68.size := Nat.le_trans Z65 E68.1
        have V68p : Arv Z h68 ar68 ca68 .long (2 : Int32) [(.long (0 : Int64)), (.long (0 : Int64))] (.long (0 : Int64)) := V68.pad (pad_rep [] (.long (0 : Int64)) 2)
        refine E_dup (pc' := 146) cx st68 at_145 rfl rfl ?_
        refine E_iconst (pc' := 147) cx st68 (0 : Int32) at_146 rfl rfl ?_
        refine E_lload (pc' := 149) cx st68 at_147 rfl rfl ?_
        refine E_lastore (pc' := 150) (i := 0) cx st68 V68p ⟨by decide, by decide⟩ rfl (Nat.le_of_ble_eq_true rfl) g_ar68 at_149 rfl ?_
        intro T69 h69 st69 W69 V69
        have Z69 : n0 ≤ h69.size := Nat.le_trans Z68 (Keep.of_wr W69).1
        have V69p : Arv Z h69 ar68 ca68 .long (2 : Int32) [(.long q4), (.long (0 : Int64))] (.long (0 : Int64)) := V69
        refine E_dup (pc' := 151) cx st69 at_150 rfl rfl ?_
        refine E_iconst (pc' := 152) cx st69 (1 : Int32) at_151 rfl rfl ?_
        refine E_lload (pc' := 154) cx st69 at_152 rfl rfl ?_
        refine E_lastore (pc' := 155) (i := 1) cx st69 V69p ⟨by decide, by decide⟩ rfl (Nat.le_of_ble_eq_true rfl) g_ar68 at_154 rfl ?_
        intro T70 h70 st70 W70 V70
        have Z70 : n0 ≤ h70.size := Nat.le_trans Z69 (Keep.of_wr W70).1
        have V70p : Arv Z h70 ar68 ca68 .long (2 : Int32) [(.long q4), (.long q5)] (.long (0 : Int64)) := V70
        refine E_astore (pc' := 157) (L' := #[.val (.int p0), .val (.int p1), .val (.int p2), .val (.int p3), .val (.long q4), .second, .val (.long q5), .second, .val (.int u1), .val (.int u2), .val (.int u3), .val (.int (2 : Int32)), .val (.ref ar55), .val (.int (0 : Int32)), .val (.ref ob62), .val (.ref ar68)]) cx st70 at_155 rfl rfl rfl ?_
        refine E_aload (pc' := 159) cx st70 at_157 rfl rfl rfl ?_
        refine E_aload (pc' := 161) cx st70 at_159 rfl rfl rfl ?_
        have X71 : Exa Z h70 ob62 "com/example/flat_planner/flatplanner/AtomMask" := (((X67.ext E68).wr W69).wr W70)
        have G72 : Fld Z h70 ob62 "com/example/flat_planner/flatplanner/AtomMask" "words" "[I" (.ref bw) := (((G1.ext E68).other W69 (Or.inl ne_ob62_ar68)).other W70 (Or.inl ne_ob62_ar68))
        have G73 : Fld Z h70 ob62 "com/example/flat_planner/flatplanner/AtomMask" "masks" "[J" (.ref bm) := (((G2.ext E68).other W69 (Or.inl ne_ob62_ar68)).other W70 (Or.inl ne_ob62_ar68))
        have V74 : Arv Z h70 bw kw .int (Int32.ofNat ws.length) (ws.map Value.int) (.int (0 : Int32)) := (((V1.ext E68).other W69 ne_bw_ar68).other W70 ne_bw_ar68)
        have V75 : Arv Z h70 bm km .long (Int32.ofNat ws.length) (ms.map Value.long) (.long (0 : Int64)) := (((V2.ext E68).other W69 ne_bm_ar68).other W70 ne_bm_ar68)
        refine E_callV (pc' := 164) (kc' := 9) (ks' := 24) (W := 0) (a := ob62) (argsL := [(.ref ar68)]) cx st70 [] (rmA l Z a0 hw ob62 ar68 q4 q5 bw bm ws ms h70 n0 Z70 kw km ca68 X71 G72 G73 V74 V75 V70p hl h3 (hbw ⟨hB0, hB1⟩)) X71 (hw _ (List.mem_of_getElem? (i := 63) rfl)) (hw _ (List.mem_of_getElem? (i := 64) rfl)) (hw _ (List.mem_of_getElem? (i := 66) rfl)) (hw _ (List.mem_of_getElem? (i := 65) rfl)) (hw _ (List.mem_of_getElem? (i := 7) rfl)) (hw _ (List.mem_of_getElem? (i := 67) rfl)) at_161 rfl rfl (lenOf pd_9 rfl) (Nat.le_of_eq rfl) (by decide) (by decide) (by decide) (by decide) (by decide) (by decide) (by decide) rfl ?_
        intro v76 T76 h76 st76 hq76
        obtain ⟨rfl, hh76⟩ := hq76
        rw [hh76] at st76
        refine E_iload (pc' := 166) cx st76 at_164 rfl rfl ?_
        refine E_icmp_neN (pc' := 169) cx st76 at_166 rfl (if_neg (fun z => hv_no c59 ((hA _).mp z).1)) ?_
        refine E_iconst (pc' := 170) cx st76 (1 : Int32) at_169 rfl rfl ?_
        refine E_goto (pc' := 174) cx st76 at_170 (by decide) (by decide) ?_
        refine E_ireturn (t := .boolean) cx st76 at_174 rfl (by simp) rfl (by decide) (by decide) ?_
        exact rfl
      · refine E_if_neY (pc' := 110) cx st60 at_104 (by decide) (by decide) c61 ?_
        refine E_iload (pc' := 112) cx st60 at_110 rfl rfl ?_
        refine E_iconst (pc' := 113) cx st60 (3 : Int32) at_112 rfl rfl ?_
        refine E_icmp_ltY (pc' := 131) cx st60 at_113 (by decide) (by decide) (by decide) ?_
        refine E_new (pc' := 134) (kc' := 2) (ks' := 4) cx st60 (hw _ (List.mem_of_getElem? (i := 5) rfl)) (hw _ (List.mem_of_getElem? (i := 6) rfl)) (hw _ (List.mem_of_getElem? (i := 7) rfl)) at_131 (by decide) (by decide) (by decide) (by decide) rfl ?_
        intro T77 h77 ob77 eq77 st77 E77 X77 D77
        have g_ob77 : n0 ≤ ob77 := by rw [eq77]; exact Z57
        have ne_ar55_ob77 : ar55 ≠ ob77 := by rw [eq77]; exact Nat.ne_of_lt V57p.lt
        have Z77 : n0 ≤ h77.size := Nat.le_trans Z57 E77.1
        have F77_words : Fld Z h77 ob77 "com/example/flat_planner/flatplanner/AtomMask" "words" "[I" .null := D77 (Or.inr (hw _ (List.mem_of_getElem? (i := 51) rfl))) (ty := (.array .int)) (by decide)
        have F77_masks : Fld Z h77 ob77 "com/example/flat_planner/flatplanner/AtomMask" "masks" "[J" .null := D77 (Or.inr (hw _ (List.mem_of_getElem? (i := 62) rfl))) (ty := (.array .long)) (by decide)
        refine E_dup (pc' := 135) cx st77 at_134 rfl rfl ?_
        refine E_aload (pc' := 137) cx st77 at_135 rfl rfl rfl ?_
        have V78 : Arv Z h77 ar55 ca55 .int (2 : Int32) [(.int u1), (.int u2)] (.int (0 : Int32)) := (V57p.ext E77)
        have X79 : Exa Z h77 ar55 "[I" := (((X55.wr W56).wr W57).ext E77)
        refine E_callI (pc' := 140) (kc' := 8) (ks' := 22) (W := 1) (a := ob77) (argsL := [(.ref ar55)]) cx st77 [(.ref ob77)] (rm2n2 l Z a0 hw ob77 ar55 u1 u2 h77 n0 Z77 ca55 g_ob77 (Ne.symm ne_ar55_ob77) X77 F77_words F77_masks X79 V78) rfl (hw _ (List.mem_of_getElem? (i := 8) rfl)) (hw _ (List.mem_of_getElem? (i := 9) rfl)) (hw _ (List.mem_of_getElem? (i := 7) rfl)) (hw _ (List.mem_of_getElem? (i := 10) rfl)) at_137 rfl rfl (lenOf pd_4 rfl) (Nat.le_of_eq rfl) (by decide) (by decide) (by decide) (by decide) (by decide) (by decide) (by decide) rfl ?_
        intro v80 T80 h80 st80 hq80
        obtain ⟨rfl, Kc, bw, bm, kw, km, ws, ms, hl, h3, G1, G2, V1, V2, sz1, sz2, hbw, hA, hN⟩ := hq80
        have Z80 : n0 ≤ h80.size := Nat.le_trans Z77 Kc.1
        have ne_ar55_bw : ar55 ≠ bw := Nat.ne_of_lt (Nat.lt_of_lt_of_le V78.lt sz1)
        have ne_ob77_bw : ob77 ≠ bw := Nat.ne_of_lt (Nat.lt_of_lt_of_le X77.lt sz1)
        have ne_ar55_bm : ar55 ≠ bm := Nat.ne_of_lt (Nat.lt_of_lt_of_le V78.lt sz2)
        have ne_ob77_bm : ob77 ≠ bm := Nat.ne_of_lt (Nat.lt_of_lt_of_le X77.lt sz2)
        refine E_astore (pc' := 142) (L' := #[.val (.int p0), .val (.int p1), .val (.int p2), .val (.int p3), .val (.long q4), .second, .val (.long q5), .second, .val (.int u1), .val (.int u2), .val (.int u3), .val (.int (2 : Int32)), .val (.ref ar55), .val (.int (0 : Int32)), .val (.ref ob77), .unset]) cx st80 at_140 rfl rfl rfl ?_
        refine E_iconst (pc' := 143) cx st80 (2 : Int32) at_142 rfl rfl ?_
        have V81 : Arv Z h80 ar55 ca55 .int (2 : Int32) [(.int u1), (.int u2)] (.int (0 : Int32)) := (V78.keep Kc (ninS ne_ar55_ob77 nin0))
        have X82 : Exa Z h80 ob77 "com/example/flat_planner/flatplanner/AtomMask" := (X77.keep Kc)
        refine E_newP (pc' := 145) (kc' := 9) (ks' := 24) (cap := 2) cx st80 (hw _ (List.mem_of_getElem? (i := 37) rfl)) at_143 (by decide) (by decide) (by decide) (by decide) (by decide) (by decide) (by decide) rfl (ad := "[J") (by decide) ?_
        intro T83 h83 ca83 ar83 eq83 st83 E83 V83 X83
        have g_ar83 : n0 ≤ ar83 := by rw [eq83]; exact Z80
        have ne_ar55_ar83 : ar55 ≠ ar83 := by rw [eq83]; exact Nat.ne_of_lt V81.lt
        have ne_ob77_ar83 : ob77 ≠ ar83 := by rw [eq83]; exact Nat.ne_of_lt X82.lt
        have ne_bw_ar83 : bw ≠ ar83 := by rw [eq83]; exact Nat.ne_of_lt V1.lt
        have ne_bm_ar83 : bm ≠ ar83 := by rw [eq83]; exact Nat.ne_of_lt V2.lt
        have Z83 : n0 ≤ h83.size := Nat.le_trans Z80 E83.1
        have V83p : Arv Z h83 ar83 ca83 .long (2 : Int32) [(.long (0 : Int64)), (.long (0 : Int64))] (.long (0 : Int64)) := V83.pad (pad_rep [] (.long (0 : Int64)) 2)
        refine E_dup (pc' := 146) cx st83 at_145 rfl rfl ?_
        refine E_iconst (pc' := 147) cx st83 (0 : Int32) at_146 rfl rfl ?_
        refine E_lload (pc' := 149) cx st83 at_147 rfl rfl ?_
        refine E_lastore (pc' := 150) (i := 0) cx st83 V83p ⟨by decide, by decide⟩ rfl (Nat.le_of_ble_eq_true rfl) g_ar83 at_149 rfl ?_
        intro T84 h84 st84 W84 V84
        have Z84 : n0 ≤ h84.size := Nat.le_trans Z83 (Keep.of_wr W84).1
        have V84p : Arv Z h84 ar83 ca83 .long (2 : Int32) [(.long q4), (.long (0 : Int64))] (.long (0 : Int64)) := V84
        refine E_dup (pc' := 151) cx st84 at_150 rfl rfl ?_
        refine E_iconst (pc' := 152) cx st84 (1 : Int32) at_151 rfl rfl ?_
        refine E_lload (pc' := 154) cx st84 at_152 rfl rfl ?_
        refine E_lastore (pc' := 155) (i := 1) cx st84 V84p ⟨by decide, by decide⟩ rfl (Nat.le_of_ble_eq_true rfl) g_ar83 at_154 rfl ?_
        intro T85 h85 st85 W85 V85
        have Z85 : n0 ≤ h85.size := Nat.le_trans Z84 (Keep.of_wr W85).1
        have V85p : Arv Z h85 ar83 ca83 .long (2 : Int32) [(.long q4), (.long q5)] (.long (0 : Int64)) := V85
        refine E_astore (pc' := 157) (L' := #[.val (.int p0), .val (.int p1), .val (.int p2), .val (.int p3), .val (.long q4), .second, .val (.long q5), .second, .val (.int u1), .val (.int u2), .val (.int u3), .val (.int (2 : Int32)), .val (.ref ar55), .val (.int (0 : Int32)), .val (.ref ob77), .val (.ref ar83)]) cx st85 at_155 rfl rfl rfl ?_
        refine E_aload (pc' := 159) cx st85 at_157 rfl rfl rfl ?_
        refine E_aload (pc' := 161) cx st85 at_159 rfl rfl rfl ?_
        have X86 : Exa Z h85 ob77 "com/example/flat_planner/flatplanner/AtomMask" := (((X82.ext E83).wr W84).wr W85)
        have G87 : Fld Z h85 ob77 "com/example/flat_planner/flatplanner/AtomMask" "words" "[I" (.ref bw) := (((G1.ext E83).other W84 (Or.inl ne_ob77_ar83)).other W85 (Or.inl ne_ob77_ar83))
        have G88 : Fld Z h85 ob77 "com/example/flat_planner/flatplanner/AtomMask" "masks" "[J" (.ref bm) := (((G2.ext E83).other W84 (Or.inl ne_ob77_ar83)).other W85 (Or.inl ne_ob77_ar83))
        have V89 : Arv Z h85 bw kw .int (Int32.ofNat ws.length) (ws.map Value.int) (.int (0 : Int32)) := (((V1.ext E83).other W84 ne_bw_ar83).other W85 ne_bw_ar83)
        have V90 : Arv Z h85 bm km .long (Int32.ofNat ws.length) (ms.map Value.long) (.long (0 : Int64)) := (((V2.ext E83).other W84 ne_bm_ar83).other W85 ne_bm_ar83)
        refine E_callV (pc' := 164) (kc' := 9) (ks' := 24) (W := 0) (a := ob77) (argsL := [(.ref ar83)]) cx st85 [] (rmA l Z a0 hw ob77 ar83 q4 q5 bw bm ws ms h85 n0 Z85 kw km ca83 X86 G87 G88 V89 V90 V85p hl h3 (hbw ⟨hB0, hB1⟩)) X86 (hw _ (List.mem_of_getElem? (i := 63) rfl)) (hw _ (List.mem_of_getElem? (i := 64) rfl)) (hw _ (List.mem_of_getElem? (i := 66) rfl)) (hw _ (List.mem_of_getElem? (i := 65) rfl)) (hw _ (List.mem_of_getElem? (i := 7) rfl)) (hw _ (List.mem_of_getElem? (i := 67) rfl)) at_161 rfl rfl (lenOf pd_9 rfl) (Nat.le_of_eq rfl) (by decide) (by decide) (by decide) (by decide) (by decide) (by decide) (by decide) rfl ?_
        intro v91 T91 h91 st91 hq91
        obtain ⟨rfl, hh91⟩ := hq91
        rw [hh91] at st91
        refine E_iload (pc' := 166) cx st91 at_164 rfl rfl ?_
        refine E_icmp_neN (pc' := 169) cx st91 at_166 rfl (if_neg (fun z => hv_no c59 ((hA _).mp z).1)) ?_
        refine E_iconst (pc' := 170) cx st91 (1 : Int32) at_169 rfl rfl ?_
        refine E_goto (pc' := 174) cx st91 at_170 (by decide) (by decide) ?_
        refine E_ireturn (t := .boolean) cx st91 at_174 rfl (by simp) rfl (by decide) (by decide) ?_
        exact rfl
    · refine E_if_neY (pc' := 89) cx st58 at_83 (by decide) (by decide) c59 ?_
      refine E_iload (pc' := 91) cx st58 at_89 rfl rfl ?_
      refine E_iconst (pc' := 92) cx st58 (2 : Int32) at_91 rfl rfl ?_
      refine E_icmp_ltN (pc' := 95) cx st58 at_92 rfl (by decide) ?_
      refine E_lload (pc' := 97) cx st58 at_95 rfl rfl ?_
      refine E_lload (pc' := 99) cx st58 at_97 rfl rfl ?_
      refine E_iload (pc' := 101) cx st58 at_99 rfl rfl ?_
      refine E_callS (pc' := 104) (kc' := 1) (ks' := 2) (W := 0) (argsL := [(.long q4), (.long q5), (.int u2)]) cx st58 [] (rm1 l Z a0 hw q4 q5 u2 h57 n0 Z57 hB1) (hw _ (List.mem_of_getElem? (i := 1) rfl)) (hw _ (List.mem_of_getElem? (i := 2) rfl)) (hw _ (List.mem_of_getElem? (i := 3) rfl)) (hw _ (List.mem_of_getElem? (i := 4) rfl)) at_101 rfl rfl (lenOf pd_10 rfl) (Nat.le_of_eq rfl) (by decide) (by decide) (by decide) (by decide) (by decide) (by decide) (by decide) rfl ?_
      intro v92 T92 h92 st92 hq92
      obtain ⟨rfl, hh92⟩ := hq92
      rw [hh92] at st92
      by_cases c93 : (hv [q4, q5] u2) = (0 : Int32)
      · refine E_if_neN (pc' := 107) cx st92 at_104 rfl c93 ?_
        refine E_iconst (pc' := 108) cx st92 (0 : Int32) at_107 rfl rfl ?_
        refine E_istore (pc' := 110) (L' := #[.val (.int p0), .val (.int p1), .val (.int p2), .val (.int p3), .val (.long q4), .second, .val (.long q5), .second, .val (.int u1), .val (.int u2), .val (.int u3), .val (.int (2 : Int32)), .val (.ref ar55), .val (.int (0 : Int32)), .unset, .unset]) cx st92 at_108 rfl rfl ?_
        refine E_iload (pc' := 112) cx st92 at_110 rfl rfl ?_
        refine E_iconst (pc' := 113) cx st92 (3 : Int32) at_112 rfl rfl ?_
        refine E_icmp_ltY (pc' := 131) cx st92 at_113 (by decide) (by decide) (by decide) ?_
        refine E_new (pc' := 134) (kc' := 2) (ks' := 4) cx st92 (hw _ (List.mem_of_getElem? (i := 5) rfl)) (hw _ (List.mem_of_getElem? (i := 6) rfl)) (hw _ (List.mem_of_getElem? (i := 7) rfl)) at_131 (by decide) (by decide) (by decide) (by decide) rfl ?_
        intro T94 h94 ob94 eq94 st94 E94 X94 D94
        have g_ob94 : n0 ≤ ob94 := by rw [eq94]; exact Z57
        have ne_ar55_ob94 : ar55 ≠ ob94 := by rw [eq94]; exact Nat.ne_of_lt V57p.lt
        have Z94 : n0 ≤ h94.size := Nat.le_trans Z57 E94.1
        have F94_words : Fld Z h94 ob94 "com/example/flat_planner/flatplanner/AtomMask" "words" "[I" .null := D94 (Or.inr (hw _ (List.mem_of_getElem? (i := 51) rfl))) (ty := (.array .int)) (by decide)
        have F94_masks : Fld Z h94 ob94 "com/example/flat_planner/flatplanner/AtomMask" "masks" "[J" .null := D94 (Or.inr (hw _ (List.mem_of_getElem? (i := 62) rfl))) (ty := (.array .long)) (by decide)
        refine E_dup (pc' := 135) cx st94 at_134 rfl rfl ?_
        refine E_aload (pc' := 137) cx st94 at_135 rfl rfl rfl ?_
        have V95 : Arv Z h94 ar55 ca55 .int (2 : Int32) [(.int u1), (.int u2)] (.int (0 : Int32)) := (V57p.ext E94)
        have X96 : Exa Z h94 ar55 "[I" := (((X55.wr W56).wr W57).ext E94)
        refine E_callI (pc' := 140) (kc' := 8) (ks' := 22) (W := 1) (a := ob94) (argsL := [(.ref ar55)]) cx st94 [(.ref ob94)] (rm2n2 l Z a0 hw ob94 ar55 u1 u2 h94 n0 Z94 ca55 g_ob94 (Ne.symm ne_ar55_ob94) X94 F94_words F94_masks X96 V95) rfl (hw _ (List.mem_of_getElem? (i := 8) rfl)) (hw _ (List.mem_of_getElem? (i := 9) rfl)) (hw _ (List.mem_of_getElem? (i := 7) rfl)) (hw _ (List.mem_of_getElem? (i := 10) rfl)) at_137 rfl rfl (lenOf pd_4 rfl) (Nat.le_of_eq rfl) (by decide) (by decide) (by decide) (by decide) (by decide) (by decide) (by decide) rfl ?_
        intro v97 T97 h97 st97 hq97
        obtain ⟨rfl, Kc, bw, bm, kw, km, ws, ms, hl, h3, G1, G2, V1, V2, sz1, sz2, hbw, hA, hN⟩ := hq97
        have Z97 : n0 ≤ h97.size := Nat.le_trans Z94 Kc.1
        have ne_ar55_bw : ar55 ≠ bw := Nat.ne_of_lt (Nat.lt_of_lt_of_le V95.lt sz1)
        have ne_ob94_bw : ob94 ≠ bw := Nat.ne_of_lt (Nat.lt_of_lt_of_le X94.lt sz1)
        have ne_ar55_bm : ar55 ≠ bm := Nat.ne_of_lt (Nat.lt_of_lt_of_le V95.lt sz2)
        have ne_ob94_bm : ob94 ≠ bm := Nat.ne_of_lt (Nat.lt_of_lt_of_le X94.lt sz2)
        refine E_astore (pc' := 142) (L' := #[.val (.int p0), .val (.int p1), .val (.int p2), .val (.int p3), .val (.long q4), .second, .val (.long q5), .second, .val (.int u1), .val (.int u2), .val (.int u3), .val (.int (2 : Int32)), .val (.ref ar55), .val (.int (0 : Int32)), .val (.ref ob94), .unset]) cx st97 at_140 rfl rfl rfl ?_
        refine E_iconst (pc' := 143) cx st97 (2 : Int32) at_142 rfl rfl ?_
        have V98 : Arv Z h97 ar55 ca55 .int (2 : Int32) [(.int u1), (.int u2)] (.int (0 : Int32)) := (V95.keep Kc (ninS ne_ar55_ob94 nin0))
        have X99 : Exa Z h97 ob94 "com/example/flat_planner/flatplanner/AtomMask" := (X94.keep Kc)
        refine E_newP (pc' := 145) (kc' := 9) (ks' := 24) (cap := 2) cx st97 (hw _ (List.mem_of_getElem? (i := 37) rfl)) at_143 (by decide) (by decide) (by decide) (by decide) (by decide) (by decide) (by decide) rfl (ad := "[J") (by decide) ?_
        intro T100 h100 ca100 ar100 eq100 st100 E100 V100 X100
        have g_ar100 : n0 ≤ ar100 := by rw [eq100]; exact Z97
        have ne_ar55_ar100 : ar55 ≠ ar100 := by rw [eq100]; exact Nat.ne_of_lt V98.lt
        have ne_ob94_ar100 : ob94 ≠ ar100 := by rw [eq100]; exact Nat.ne_of_lt X99.lt
        have ne_bw_ar100 : bw ≠ ar100 := by rw [eq100]; exact Nat.ne_of_lt V1.lt
        have ne_bm_ar100 : bm ≠ ar100 := by rw [eq100]; exact Nat.ne_of_lt V2.lt
        have Z100 : n0 ≤ h100.size := Nat.le_trans Z97 E100.1
        have V100p : Arv Z h100 ar100 ca100 .long (2 : Int32) [(.long (0 : Int64)), (.long (0 : Int64))] (.long (0 : Int64)) := V100.pad (pad_rep [] (.long (0 : Int64)) 2)
        refine E_dup (pc' := 146) cx st100 at_145 rfl rfl ?_
        refine E_iconst (pc' := 147) cx st100 (0 : Int32) at_146 rfl rfl ?_
        refine E_lload (pc' := 149) cx st100 at_147 rfl rfl ?_
        refine E_lastore (pc' := 150) (i := 0) cx st100 V100p ⟨by decide, by decide⟩ rfl (Nat.le_of_ble_eq_true rfl) g_ar100 at_149 rfl ?_
        intro T101 h101 st101 W101 V101
        have Z101 : n0 ≤ h101.size := Nat.le_trans Z100 (Keep.of_wr W101).1
        have V101p : Arv Z h101 ar100 ca100 .long (2 : Int32) [(.long q4), (.long (0 : Int64))] (.long (0 : Int64)) := V101
        refine E_dup (pc' := 151) cx st101 at_150 rfl rfl ?_
        refine E_iconst (pc' := 152) cx st101 (1 : Int32) at_151 rfl rfl ?_
        refine E_lload (pc' := 154) cx st101 at_152 rfl rfl ?_
        refine E_lastore (pc' := 155) (i := 1) cx st101 V101p ⟨by decide, by decide⟩ rfl (Nat.le_of_ble_eq_true rfl) g_ar100 at_154 rfl ?_
        intro T102 h102 st102 W102 V102
        have Z102 : n0 ≤ h102.size := Nat.le_trans Z101 (Keep.of_wr W102).1
        have V102p : Arv Z h102 ar100 ca100 .long (2 : Int32) [(.long q4), (.long q5)] (.long (0 : Int64)) := V102
        refine E_astore (pc' := 157) (L' := #[.val (.int p0), .val (.int p1), .val (.int p2), .val (.int p3), .val (.long q4), .second, .val (.long q5), .second, .val (.int u1), .val (.int u2), .val (.int u3), .val (.int (2 : Int32)), .val (.ref ar55), .val (.int (0 : Int32)), .val (.ref ob94), .val (.ref ar100)]) cx st102 at_155 rfl rfl rfl ?_
        refine E_aload (pc' := 159) cx st102 at_157 rfl rfl rfl ?_
        refine E_aload (pc' := 161) cx st102 at_159 rfl rfl rfl ?_
        have X103 : Exa Z h102 ob94 "com/example/flat_planner/flatplanner/AtomMask" := (((X99.ext E100).wr W101).wr W102)
        have G104 : Fld Z h102 ob94 "com/example/flat_planner/flatplanner/AtomMask" "words" "[I" (.ref bw) := (((G1.ext E100).other W101 (Or.inl ne_ob94_ar100)).other W102 (Or.inl ne_ob94_ar100))
        have G105 : Fld Z h102 ob94 "com/example/flat_planner/flatplanner/AtomMask" "masks" "[J" (.ref bm) := (((G2.ext E100).other W101 (Or.inl ne_ob94_ar100)).other W102 (Or.inl ne_ob94_ar100))
        have V106 : Arv Z h102 bw kw .int (Int32.ofNat ws.length) (ws.map Value.int) (.int (0 : Int32)) := (((V1.ext E100).other W101 ne_bw_ar100).other W102 ne_bw_ar100)
        have V107 : Arv Z h102 bm km .long (Int32.ofNat ws.length) (ms.map Value.long) (.long (0 : Int64)) := (((V2.ext E100).other W101 ne_bm_ar100).other W102 ne_bm_ar100)
        refine E_callV (pc' := 164) (kc' := 9) (ks' := 24) (W := 0) (a := ob94) (argsL := [(.ref ar100)]) cx st102 [] (rmA l Z a0 hw ob94 ar100 q4 q5 bw bm ws ms h102 n0 Z102 kw km ca100 X103 G104 G105 V106 V107 V102p hl h3 (hbw ⟨hB0, hB1⟩)) X103 (hw _ (List.mem_of_getElem? (i := 63) rfl)) (hw _ (List.mem_of_getElem? (i := 64) rfl)) (hw _ (List.mem_of_getElem? (i := 66) rfl)) (hw _ (List.mem_of_getElem? (i := 65) rfl)) (hw _ (List.mem_of_getElem? (i := 7) rfl)) (hw _ (List.mem_of_getElem? (i := 67) rfl)) at_161 rfl rfl (lenOf pd_9 rfl) (Nat.le_of_eq rfl) (by decide) (by decide) (by decide) (by decide) (by decide) (by decide) (by decide) rfl ?_
        intro v108 T108 h108 st108 hq108
        obtain ⟨rfl, hh108⟩ := hq108
        rw [hh108] at st108
        refine E_iload (pc' := 166) cx st108 at_164 rfl rfl ?_
        refine E_icmp_neN (pc' := 169) cx st108 at_166 rfl (if_neg (fun z => hv_no c93 ((hA _).mp z).2)) ?_
        refine E_iconst (pc' := 170) cx st108 (1 : Int32) at_169 rfl rfl ?_
        refine E_goto (pc' := 174) cx st108 at_170 (by decide) (by decide) ?_
        refine E_ireturn (t := .boolean) cx st108 at_174 rfl (by simp) rfl (by decide) (by decide) ?_
        exact rfl
      · refine E_if_neY (pc' := 110) cx st92 at_104 (by decide) (by decide) c93 ?_
        refine E_iload (pc' := 112) cx st92 at_110 rfl rfl ?_
        refine E_iconst (pc' := 113) cx st92 (3 : Int32) at_112 rfl rfl ?_
        refine E_icmp_ltY (pc' := 131) cx st92 at_113 (by decide) (by decide) (by decide) ?_
        refine E_new (pc' := 134) (kc' := 2) (ks' := 4) cx st92 (hw _ (List.mem_of_getElem? (i := 5) rfl)) (hw _ (List.mem_of_getElem? (i := 6) rfl)) (hw _ (List.mem_of_getElem? (i := 7) rfl)) at_131 (by decide) (by decide) (by decide) (by decide) rfl ?_
        intro T109 h109 ob109 eq109 st109 E109 X109 D109
        have g_ob109 : n0 ≤ ob109 := by rw [eq109]; exact Z57
        have ne_ar55_ob109 : ar55 ≠ ob109 := by rw [eq109]; exact Nat.ne_of_lt V57p.lt
        have Z109 : n0 ≤ h109.size := Nat.le_trans Z57 E109.1
        have F109_words : Fld Z h109 ob109 "com/example/flat_planner/flatplanner/AtomMask" "words" "[I" .null := D109 (Or.inr (hw _ (List.mem_of_getElem? (i := 51) rfl))) (ty := (.array .int)) (by decide)
        have F109_masks : Fld Z h109 ob109 "com/example/flat_planner/flatplanner/AtomMask" "masks" "[J" .null := D109 (Or.inr (hw _ (List.mem_of_getElem? (i := 62) rfl))) (ty := (.array .long)) (by decide)
        refine E_dup (pc' := 135) cx st109 at_134 rfl rfl ?_
        refine E_aload (pc' := 137) cx st109 at_135 rfl rfl rfl ?_
        have V110 : Arv Z h109 ar55 ca55 .int (2 : Int32) [(.int u1), (.int u2)] (.int (0 : Int32)) := (V57p.ext E109)
        have X111 : Exa Z h109 ar55 "[I" := (((X55.wr W56).wr W57).ext E109)
        refine E_callI (pc' := 140) (kc' := 8) (ks' := 22) (W := 1) (a := ob109) (argsL := [(.ref ar55)]) cx st109 [(.ref ob109)] (rm2n2 l Z a0 hw ob109 ar55 u1 u2 h109 n0 Z109 ca55 g_ob109 (Ne.symm ne_ar55_ob109) X109 F109_words F109_masks X111 V110) rfl (hw _ (List.mem_of_getElem? (i := 8) rfl)) (hw _ (List.mem_of_getElem? (i := 9) rfl)) (hw _ (List.mem_of_getElem? (i := 7) rfl)) (hw _ (List.mem_of_getElem? (i := 10) rfl)) at_137 rfl rfl (lenOf pd_4 rfl) (Nat.le_of_eq rfl) (by decide) (by decide) (by decide) (by decide) (by decide) (by decide) (by decide) rfl ?_
        intro v112 T112 h112 st112 hq112
        obtain ⟨rfl, Kc, bw, bm, kw, km, ws, ms, hl, h3, G1, G2, V1, V2, sz1, sz2, hbw, hA, hN⟩ := hq112
        have Z112 : n0 ≤ h112.size := Nat.le_trans Z109 Kc.1
        have ne_ar55_bw : ar55 ≠ bw := Nat.ne_of_lt (Nat.lt_of_lt_of_le V110.lt sz1)
        have ne_ob109_bw : ob109 ≠ bw := Nat.ne_of_lt (Nat.lt_of_lt_of_le X109.lt sz1)
        have ne_ar55_bm : ar55 ≠ bm := Nat.ne_of_lt (Nat.lt_of_lt_of_le V110.lt sz2)
        have ne_ob109_bm : ob109 ≠ bm := Nat.ne_of_lt (Nat.lt_of_lt_of_le X109.lt sz2)
        refine E_astore (pc' := 142) (L' := #[.val (.int p0), .val (.int p1), .val (.int p2), .val (.int p3), .val (.long q4), .second, .val (.long q5), .second, .val (.int u1), .val (.int u2), .val (.int u3), .val (.int (2 : Int32)), .val (.ref ar55), .val (.int (1 : Int32)), .val (.ref ob109), .unset]) cx st112 at_140 rfl rfl rfl ?_
        refine E_iconst (pc' := 143) cx st112 (2 : Int32) at_142 rfl rfl ?_
        have V113 : Arv Z h112 ar55 ca55 .int (2 : Int32) [(.int u1), (.int u2)] (.int (0 : Int32)) := (V110.keep Kc (ninS ne_ar55_ob109 nin0))
        have X114 : Exa Z h112 ob109 "com/example/flat_planner/flatplanner/AtomMask" := (X109.keep Kc)
        refine E_newP (pc' := 145) (kc' := 9) (ks' := 24) (cap := 2) cx st112 (hw _ (List.mem_of_getElem? (i := 37) rfl)) at_143 (by decide) (by decide) (by decide) (by decide) (by decide) (by decide) (by decide) rfl (ad := "[J") (by decide) ?_
        intro T115 h115 ca115 ar115 eq115 st115 E115 V115 X115
        have g_ar115 : n0 ≤ ar115 := by rw [eq115]; exact Z112
        have ne_ar55_ar115 : ar55 ≠ ar115 := by rw [eq115]; exact Nat.ne_of_lt V113.lt
        have ne_ob109_ar115 : ob109 ≠ ar115 := by rw [eq115]; exact Nat.ne_of_lt X114.lt
        have ne_bw_ar115 : bw ≠ ar115 := by rw [eq115]; exact Nat.ne_of_lt V1.lt
        have ne_bm_ar115 : bm ≠ ar115 := by rw [eq115]; exact Nat.ne_of_lt V2.lt
        have Z115 : n0 ≤ h115.size := Nat.le_trans Z112 E115.1
        have V115p : Arv Z h115 ar115 ca115 .long (2 : Int32) [(.long (0 : Int64)), (.long (0 : Int64))] (.long (0 : Int64)) := V115.pad (pad_rep [] (.long (0 : Int64)) 2)
        refine E_dup (pc' := 146) cx st115 at_145 rfl rfl ?_
        refine E_iconst (pc' := 147) cx st115 (0 : Int32) at_146 rfl rfl ?_
        refine E_lload (pc' := 149) cx st115 at_147 rfl rfl ?_
        refine E_lastore (pc' := 150) (i := 0) cx st115 V115p ⟨by decide, by decide⟩ rfl (Nat.le_of_ble_eq_true rfl) g_ar115 at_149 rfl ?_
        intro T116 h116 st116 W116 V116
        have Z116 : n0 ≤ h116.size := Nat.le_trans Z115 (Keep.of_wr W116).1
        have V116p : Arv Z h116 ar115 ca115 .long (2 : Int32) [(.long q4), (.long (0 : Int64))] (.long (0 : Int64)) := V116
        refine E_dup (pc' := 151) cx st116 at_150 rfl rfl ?_
        refine E_iconst (pc' := 152) cx st116 (1 : Int32) at_151 rfl rfl ?_
        refine E_lload (pc' := 154) cx st116 at_152 rfl rfl ?_
        refine E_lastore (pc' := 155) (i := 1) cx st116 V116p ⟨by decide, by decide⟩ rfl (Nat.le_of_ble_eq_true rfl) g_ar115 at_154 rfl ?_
        intro T117 h117 st117 W117 V117
        have Z117 : n0 ≤ h117.size := Nat.le_trans Z116 (Keep.of_wr W117).1
        have V117p : Arv Z h117 ar115 ca115 .long (2 : Int32) [(.long q4), (.long q5)] (.long (0 : Int64)) := V117
        refine E_astore (pc' := 157) (L' := #[.val (.int p0), .val (.int p1), .val (.int p2), .val (.int p3), .val (.long q4), .second, .val (.long q5), .second, .val (.int u1), .val (.int u2), .val (.int u3), .val (.int (2 : Int32)), .val (.ref ar55), .val (.int (1 : Int32)), .val (.ref ob109), .val (.ref ar115)]) cx st117 at_155 rfl rfl rfl ?_
        refine E_aload (pc' := 159) cx st117 at_157 rfl rfl rfl ?_
        refine E_aload (pc' := 161) cx st117 at_159 rfl rfl rfl ?_
        have X118 : Exa Z h117 ob109 "com/example/flat_planner/flatplanner/AtomMask" := (((X114.ext E115).wr W116).wr W117)
        have G119 : Fld Z h117 ob109 "com/example/flat_planner/flatplanner/AtomMask" "words" "[I" (.ref bw) := (((G1.ext E115).other W116 (Or.inl ne_ob109_ar115)).other W117 (Or.inl ne_ob109_ar115))
        have G120 : Fld Z h117 ob109 "com/example/flat_planner/flatplanner/AtomMask" "masks" "[J" (.ref bm) := (((G2.ext E115).other W116 (Or.inl ne_ob109_ar115)).other W117 (Or.inl ne_ob109_ar115))
        have V121 : Arv Z h117 bw kw .int (Int32.ofNat ws.length) (ws.map Value.int) (.int (0 : Int32)) := (((V1.ext E115).other W116 ne_bw_ar115).other W117 ne_bw_ar115)
        have V122 : Arv Z h117 bm km .long (Int32.ofNat ws.length) (ms.map Value.long) (.long (0 : Int64)) := (((V2.ext E115).other W116 ne_bm_ar115).other W117 ne_bm_ar115)
        refine E_callV (pc' := 164) (kc' := 9) (ks' := 24) (W := 0) (a := ob109) (argsL := [(.ref ar115)]) cx st117 [] (rmA l Z a0 hw ob109 ar115 q4 q5 bw bm ws ms h117 n0 Z117 kw km ca115 X118 G119 G120 V121 V122 V117p hl h3 (hbw ⟨hB0, hB1⟩)) X118 (hw _ (List.mem_of_getElem? (i := 63) rfl)) (hw _ (List.mem_of_getElem? (i := 64) rfl)) (hw _ (List.mem_of_getElem? (i := 66) rfl)) (hw _ (List.mem_of_getElem? (i := 65) rfl)) (hw _ (List.mem_of_getElem? (i := 7) rfl)) (hw _ (List.mem_of_getElem? (i := 67) rfl)) at_161 rfl rfl (lenOf pd_9 rfl) (Nat.le_of_eq rfl) (by decide) (by decide) (by decide) (by decide) (by decide) (by decide) (by decide) rfl ?_
        intro v123 T123 h123 st123 hq123
        obtain ⟨rfl, hh123⟩ := hq123
        rw [hh123] at st123
        refine E_iload (pc' := 166) cx st123 at_164 rfl rfl ?_
        refine E_icmp_neN (pc' := 169) cx st123 at_166 rfl (if_pos ((hA _).mpr ⟨hv_yes c59, hv_yes c93⟩)) ?_
        refine E_iconst (pc' := 170) cx st123 (1 : Int32) at_169 rfl rfl ?_
        refine E_goto (pc' := 174) cx st123 at_170 (by decide) (by decide) ?_
        refine E_ireturn (t := .boolean) cx st123 at_174 rfl (by simp) rfl (by decide) (by decide) ?_
        exact rfl
  · refine E_iload (pc' := 25) cx st at_23 rfl rfl ?_
    refine E_newP (pc' := 27) (kc' := 1) (ks' := 3) (cap := 3) cx st (hw _ (List.mem_of_getElem? (i := 0) rfl)) at_25 (by decide) (by decide) (by decide) (by decide) (by decide) (by decide) (by decide) rfl (ad := "[I") (by decide) ?_
    intro T124 h124 ca124 ar124 eq124 st124 E124 V124 X124
    have g_ar124 : n0 ≤ ar124 := by rw [eq124]; exact Z0
    have Z124 : n0 ≤ h124.size := Nat.le_trans Z0 E124.1
    have V124p : Arv Z h124 ar124 ca124 .int (3 : Int32) [(.int (0 : Int32)), (.int (0 : Int32)), (.int (0 : Int32))] (.int (0 : Int32)) := V124.pad (pad_rep [] (.int (0 : Int32)) 3)
    refine E_astore (pc' := 29) (L' := #[.val (.int p0), .val (.int p1), .val (.int p2), .val (.int p3), .val (.long q4), .second, .val (.long q5), .second, .val (.int u1), .val (.int u2), .val (.int u3), .val (.int (3 : Int32)), .val (.ref ar124), .unset, .unset, .unset]) cx st124 at_27 rfl rfl rfl ?_
    refine E_iload (pc' := 31) cx st124 at_29 rfl rfl ?_
    refine E_iconst (pc' := 32) cx st124 (1 : Int32) at_31 rfl rfl ?_
    refine E_icmp_ltN (pc' := 35) cx st124 at_32 rfl (by decide) ?_
    refine E_aload (pc' := 37) cx st124 at_35 rfl rfl rfl ?_
    refine E_iconst (pc' := 38) cx st124 (0 : Int32) at_37 rfl rfl ?_
    refine E_iload (pc' := 40) cx st124 at_38 rfl rfl ?_
    refine E_iastore (pc' := 41) (i := 0) cx st124 V124p ⟨by decide, by decide⟩ rfl (Nat.le_of_ble_eq_true rfl) g_ar124 at_40 rfl ?_
    intro T125 h125 st125 W125 V125
    have Z125 : n0 ≤ h125.size := Nat.le_trans Z124 (Keep.of_wr W125).1
    have V125p : Arv Z h125 ar124 ca124 .int (3 : Int32) [(.int u1), (.int (0 : Int32)), (.int (0 : Int32))] (.int (0 : Int32)) := V125
    refine E_iload (pc' := 43) cx st125 at_41 rfl rfl ?_
    refine E_iconst (pc' := 44) cx st125 (2 : Int32) at_43 rfl rfl ?_
    refine E_icmp_ltN (pc' := 47) cx st125 at_44 rfl (by decide) ?_
    refine E_aload (pc' := 49) cx st125 at_47 rfl rfl rfl ?_
    refine E_iconst (pc' := 50) cx st125 (1 : Int32) at_49 rfl rfl ?_
    refine E_iload (pc' := 52) cx st125 at_50 rfl rfl ?_
    refine E_iastore (pc' := 53) (i := 1) cx st125 V125p ⟨by decide, by decide⟩ rfl (Nat.le_of_ble_eq_true rfl) g_ar124 at_52 rfl ?_
    intro T126 h126 st126 W126 V126
    have Z126 : n0 ≤ h126.size := Nat.le_trans Z125 (Keep.of_wr W126).1
    have V126p : Arv Z h126 ar124 ca124 .int (3 : Int32) [(.int u1), (.int u2), (.int (0 : Int32))] (.int (0 : Int32)) := V126
    refine E_iload (pc' := 55) cx st126 at_53 rfl rfl ?_
    refine E_iconst (pc' := 56) cx st126 (3 : Int32) at_55 rfl rfl ?_
    refine E_icmp_ltN (pc' := 59) cx st126 at_56 rfl (by decide) ?_
    refine E_aload (pc' := 61) cx st126 at_59 rfl rfl rfl ?_
    refine E_iconst (pc' := 62) cx st126 (2 : Int32) at_61 rfl rfl ?_
    refine E_iload (pc' := 64) cx st126 at_62 rfl rfl ?_
    refine E_iastore (pc' := 65) (i := 2) cx st126 V126p ⟨by decide, by decide⟩ rfl (Nat.le_of_ble_eq_true rfl) g_ar124 at_64 rfl ?_
    intro T127 h127 st127 W127 V127
    have Z127 : n0 ≤ h127.size := Nat.le_trans Z126 (Keep.of_wr W127).1
    have V127p : Arv Z h127 ar124 ca124 .int (3 : Int32) [(.int u1), (.int u2), (.int u3)] (.int (0 : Int32)) := V127
    refine E_iconst (pc' := 66) cx st127 (1 : Int32) at_65 rfl rfl ?_
    refine E_istore (pc' := 68) (L' := #[.val (.int p0), .val (.int p1), .val (.int p2), .val (.int p3), .val (.long q4), .second, .val (.long q5), .second, .val (.int u1), .val (.int u2), .val (.int u3), .val (.int (3 : Int32)), .val (.ref ar124), .val (.int (1 : Int32)), .unset, .unset]) cx st127 at_66 rfl rfl ?_
    refine E_iload (pc' := 70) cx st127 at_68 rfl rfl ?_
    refine E_iconst (pc' := 71) cx st127 (1 : Int32) at_70 rfl rfl ?_
    refine E_icmp_ltN (pc' := 74) cx st127 at_71 rfl (by decide) ?_
    refine E_lload (pc' := 76) cx st127 at_74 rfl rfl ?_
    refine E_lload (pc' := 78) cx st127 at_76 rfl rfl ?_
    refine E_iload (pc' := 80) cx st127 at_78 rfl rfl ?_
    refine E_callS (pc' := 83) (kc' := 1) (ks' := 3) (W := 0) (argsL := [(.long q4), (.long q5), (.int u1)]) cx st127 [] (rm1 l Z a0 hw q4 q5 u1 h127 n0 Z127 hB0) (hw _ (List.mem_of_getElem? (i := 1) rfl)) (hw _ (List.mem_of_getElem? (i := 2) rfl)) (hw _ (List.mem_of_getElem? (i := 3) rfl)) (hw _ (List.mem_of_getElem? (i := 4) rfl)) at_80 rfl rfl (lenOf pd_10 rfl) (Nat.le_of_eq rfl) (by decide) (by decide) (by decide) (by decide) (by decide) (by decide) (by decide) rfl ?_
    intro v128 T128 h128 st128 hq128
    obtain ⟨rfl, hh128⟩ := hq128
    rw [hh128] at st128
    by_cases c129 : (hv [q4, q5] u1) = (0 : Int32)
    · refine E_if_neN (pc' := 86) cx st128 at_83 rfl c129 ?_
      refine E_iconst (pc' := 87) cx st128 (0 : Int32) at_86 rfl rfl ?_
      refine E_istore (pc' := 89) (L' := #[.val (.int p0), .val (.int p1), .val (.int p2), .val (.int p3), .val (.long q4), .second, .val (.long q5), .second, .val (.int u1), .val (.int u2), .val (.int u3), .val (.int (3 : Int32)), .val (.ref ar124), .val (.int (0 : Int32)), .unset, .unset]) cx st128 at_87 rfl rfl ?_
      refine E_iload (pc' := 91) cx st128 at_89 rfl rfl ?_
      refine E_iconst (pc' := 92) cx st128 (2 : Int32) at_91 rfl rfl ?_
      refine E_icmp_ltN (pc' := 95) cx st128 at_92 rfl (by decide) ?_
      refine E_lload (pc' := 97) cx st128 at_95 rfl rfl ?_
      refine E_lload (pc' := 99) cx st128 at_97 rfl rfl ?_
      refine E_iload (pc' := 101) cx st128 at_99 rfl rfl ?_
      refine E_callS (pc' := 104) (kc' := 1) (ks' := 3) (W := 0) (argsL := [(.long q4), (.long q5), (.int u2)]) cx st128 [] (rm1 l Z a0 hw q4 q5 u2 h127 n0 Z127 hB1) (hw _ (List.mem_of_getElem? (i := 1) rfl)) (hw _ (List.mem_of_getElem? (i := 2) rfl)) (hw _ (List.mem_of_getElem? (i := 3) rfl)) (hw _ (List.mem_of_getElem? (i := 4) rfl)) at_101 rfl rfl (lenOf pd_10 rfl) (Nat.le_of_eq rfl) (by decide) (by decide) (by decide) (by decide) (by decide) (by decide) (by decide) rfl ?_
      intro v130 T130 h130 st130 hq130
      obtain ⟨rfl, hh130⟩ := hq130
      rw [hh130] at st130
      by_cases c131 : (hv [q4, q5] u2) = (0 : Int32)
      · refine E_if_neN (pc' := 107) cx st130 at_104 rfl c131 ?_
        refine E_iconst (pc' := 108) cx st130 (0 : Int32) at_107 rfl rfl ?_
        refine E_istore (pc' := 110) (L' := #[.val (.int p0), .val (.int p1), .val (.int p2), .val (.int p3), .val (.long q4), .second, .val (.long q5), .second, .val (.int u1), .val (.int u2), .val (.int u3), .val (.int (3 : Int32)), .val (.ref ar124), .val (.int (0 : Int32)), .unset, .unset]) cx st130 at_108 rfl rfl ?_
        refine E_iload (pc' := 112) cx st130 at_110 rfl rfl ?_
        refine E_iconst (pc' := 113) cx st130 (3 : Int32) at_112 rfl rfl ?_
        refine E_icmp_ltN (pc' := 116) cx st130 at_113 rfl (by decide) ?_
        refine E_lload (pc' := 118) cx st130 at_116 rfl rfl ?_
        refine E_lload (pc' := 120) cx st130 at_118 rfl rfl ?_
        refine E_iload (pc' := 122) cx st130 at_120 rfl rfl ?_
        refine E_callS (pc' := 125) (kc' := 1) (ks' := 3) (W := 0) (argsL := [(.long q4), (.long q5), (.int u3)]) cx st130 [] (rm1 l Z a0 hw q4 q5 u3 h127 n0 Z127 hB2) (hw _ (List.mem_of_getElem? (i := 1) rfl)) (hw _ (List.mem_of_getElem? (i := 2) rfl)) (hw _ (List.mem_of_getElem? (i := 3) rfl)) (hw _ (List.mem_of_getElem? (i := 4) rfl)) at_122 rfl rfl (lenOf pd_10 rfl) (Nat.le_of_eq rfl) (by decide) (by decide) (by decide) (by decide) (by decide) (by decide) (by decide) rfl ?_
        intro v132 T132 h132 st132 hq132
        obtain ⟨rfl, hh132⟩ := hq132
        rw [hh132] at st132
        by_cases c133 : (hv [q4, q5] u3) = (0 : Int32)
        · refine E_if_neN (pc' := 128) cx st132 at_125 rfl c133 ?_
          refine E_iconst (pc' := 129) cx st132 (0 : Int32) at_128 rfl rfl ?_
          refine E_istore (pc' := 131) (L' := #[.val (.int p0), .val (.int p1), .val (.int p2), .val (.int p3), .val (.long q4), .second, .val (.long q5), .second, .val (.int u1), .val (.int u2), .val (.int u3), .val (.int (3 : Int32)), .val (.ref ar124), .val (.int (0 : Int32)), .unset, .unset]) cx st132 at_129 rfl rfl ?_
          refine E_new (pc' := 134) (kc' := 2) (ks' := 5) cx st132 (hw _ (List.mem_of_getElem? (i := 5) rfl)) (hw _ (List.mem_of_getElem? (i := 6) rfl)) (hw _ (List.mem_of_getElem? (i := 7) rfl)) at_131 (by decide) (by decide) (by decide) (by decide) rfl ?_
          intro T134 h134 ob134 eq134 st134 E134 X134 D134
          have g_ob134 : n0 ≤ ob134 := by rw [eq134]; exact Z127
          have ne_ar124_ob134 : ar124 ≠ ob134 := by rw [eq134]; exact Nat.ne_of_lt V127p.lt
          have Z134 : n0 ≤ h134.size := Nat.le_trans Z127 E134.1
          have F134_words : Fld Z h134 ob134 "com/example/flat_planner/flatplanner/AtomMask" "words" "[I" .null := D134 (Or.inr (hw _ (List.mem_of_getElem? (i := 51) rfl))) (ty := (.array .int)) (by decide)
          have F134_masks : Fld Z h134 ob134 "com/example/flat_planner/flatplanner/AtomMask" "masks" "[J" .null := D134 (Or.inr (hw _ (List.mem_of_getElem? (i := 62) rfl))) (ty := (.array .long)) (by decide)
          refine E_dup (pc' := 135) cx st134 at_134 rfl rfl ?_
          refine E_aload (pc' := 137) cx st134 at_135 rfl rfl rfl ?_
          have V135 : Arv Z h134 ar124 ca124 .int (3 : Int32) [(.int u1), (.int u2), (.int u3)] (.int (0 : Int32)) := (V127p.ext E134)
          have X136 : Exa Z h134 ar124 "[I" := ((((X124.wr W125).wr W126).wr W127).ext E134)
          refine E_callI (pc' := 140) (kc' := 8) (ks' := 23) (W := 1) (a := ob134) (argsL := [(.ref ar124)]) cx st134 [(.ref ob134)] (rm2n3 l Z a0 hw ob134 ar124 u1 u2 u3 h134 n0 Z134 ca124 g_ob134 (Ne.symm ne_ar124_ob134) X134 F134_words F134_masks X136 V135) rfl (hw _ (List.mem_of_getElem? (i := 8) rfl)) (hw _ (List.mem_of_getElem? (i := 9) rfl)) (hw _ (List.mem_of_getElem? (i := 7) rfl)) (hw _ (List.mem_of_getElem? (i := 10) rfl)) at_137 rfl rfl (lenOf pd_4 rfl) (Nat.le_of_eq rfl) (by decide) (by decide) (by decide) (by decide) (by decide) (by decide) (by decide) rfl ?_
          intro v137 T137 h137 st137 hq137
          obtain ⟨rfl, Kc, bw, bm, kw, km, ws, ms, hl, h3, G1, G2, V1, V2, sz1, sz2, hbw, hA, hN⟩ := hq137
          have Z137 : n0 ≤ h137.size := Nat.le_trans Z134 Kc.1
          have ne_ar124_bw : ar124 ≠ bw := Nat.ne_of_lt (Nat.lt_of_lt_of_le V135.lt sz1)
          have ne_ob134_bw : ob134 ≠ bw := Nat.ne_of_lt (Nat.lt_of_lt_of_le X134.lt sz1)
          have ne_ar124_bm : ar124 ≠ bm := Nat.ne_of_lt (Nat.lt_of_lt_of_le V135.lt sz2)
          have ne_ob134_bm : ob134 ≠ bm := Nat.ne_of_lt (Nat.lt_of_lt_of_le X134.lt sz2)
          refine E_astore (pc' := 142) (L' := #[.val (.int p0), .val (.int p1), .val (.int p2), .val (.int p3), .val (.long q4), .second, .val (.long q5), .second, .val (.int u1), .val (.int u2), .val (.int u3), .val (.int (3 : Int32)), .val (.ref ar124), .val (.int (0 : Int32)), .val (.ref ob134), .unset]) cx st137 at_140 rfl rfl rfl ?_
          refine E_iconst (pc' := 143) cx st137 (2 : Int32) at_142 rfl rfl ?_
          have V138 : Arv Z h137 ar124 ca124 .int (3 : Int32) [(.int u1), (.int u2), (.int u3)] (.int (0 : Int32)) := (V135.keep Kc (ninS ne_ar124_ob134 nin0))
          have X139 : Exa Z h137 ob134 "com/example/flat_planner/flatplanner/AtomMask" := (X134.keep Kc)
          refine E_newP (pc' := 145) (kc' := 9) (ks' := 25) (cap := 2) cx st137 (hw _ (List.mem_of_getElem? (i := 37) rfl)) at_143 (by decide) (by decide) (by decide) (by decide) (by decide) (by decide) (by decide) rfl (ad := "[J") (by decide) ?_
          intro T140 h140 ca140 ar140 eq140 st140 E140 V140 X140
          have g_ar140 : n0 ≤ ar140 := by rw [eq140]; exact Z137
          have ne_ar124_ar140 : ar124 ≠ ar140 := by rw [eq140]; exact Nat.ne_of_lt V138.lt
          have ne_ob134_ar140 : ob134 ≠ ar140 := by rw [eq140]; exact Nat.ne_of_lt X139.lt
          have ne_bw_ar140 : bw ≠ ar140 := by rw [eq140]; exact Nat.ne_of_lt V1.lt
          have ne_bm_ar140 : bm ≠ ar140 := by rw [eq140]; exact Nat.ne_of_lt V2.lt
          have Z140 : n0 ≤ h140.size := Nat.le_trans Z137 E140.1
          have V140p : Arv Z h140 ar140 ca140 .long (2 : Int32) [(.long (0 : Int64)), (.long (0 : Int64))] (.long (0 : Int64)) := V140.pad (pad_rep [] (.long (0 : Int64)) 2)
          refine E_dup (pc' := 146) cx st140 at_145 rfl rfl ?_
          refine E_iconst (pc' := 147) cx st140 (0 : Int32) at_146 rfl rfl ?_
          refine E_lload (pc' := 149) cx st140 at_147 rfl rfl ?_
          refine E_lastore (pc' := 150) (i := 0) cx st140 V140p ⟨by decide, by decide⟩ rfl (Nat.le_of_ble_eq_true rfl) g_ar140 at_149 rfl ?_
          intro T141 h141 st141 W141 V141
          have Z141 : n0 ≤ h141.size := Nat.le_trans Z140 (Keep.of_wr W141).1
          have V141p : Arv Z h141 ar140 ca140 .long (2 : Int32) [(.long q4), (.long (0 : Int64))] (.long (0 : Int64)) := V141
          refine E_dup (pc' := 151) cx st141 at_150 rfl rfl ?_
          refine E_iconst (pc' := 152) cx st141 (1 : Int32) at_151 rfl rfl ?_
          refine E_lload (pc' := 154) cx st141 at_152 rfl rfl ?_
          refine E_lastore (pc' := 155) (i := 1) cx st141 V141p ⟨by decide, by decide⟩ rfl (Nat.le_of_ble_eq_true rfl) g_ar140 at_154 rfl ?_
          intro T142 h142 st142 W142 V142
          have Z142 : n0 ≤ h142.size := Nat.le_trans Z141 (Keep.of_wr W142).1
          have V142p : Arv Z h142 ar140 ca140 .long (2 : Int32) [(.long q4), (.long q5)] (.long (0 : Int64)) := V142
          refine E_astore (pc' := 157) (L' := #[.val (.int p0), .val (.int p1), .val (.int p2), .val (.int p3), .val (.long q4), .second, .val (.long q5), .second, .val (.int u1), .val (.int u2), .val (.int u3), .val (.int (3 : Int32)), .val (.ref ar124), .val (.int (0 : Int32)), .val (.ref ob134), .val (.ref ar140)]) cx st142 at_155 rfl rfl rfl ?_
          refine E_aload (pc' := 159) cx st142 at_157 rfl rfl rfl ?_
          refine E_aload (pc' := 161) cx st142 at_159 rfl rfl rfl ?_
          have X143 : Exa Z h142 ob134 "com/example/flat_planner/flatplanner/AtomMask" := (((X139.ext E140).wr W141).wr W142)
          have G144 : Fld Z h142 ob134 "com/example/flat_planner/flatplanner/AtomMask" "words" "[I" (.ref bw) := (((G1.ext E140).other W141 (Or.inl ne_ob134_ar140)).other W142 (Or.inl ne_ob134_ar140))
          have G145 : Fld Z h142 ob134 "com/example/flat_planner/flatplanner/AtomMask" "masks" "[J" (.ref bm) := (((G2.ext E140).other W141 (Or.inl ne_ob134_ar140)).other W142 (Or.inl ne_ob134_ar140))
          have V146 : Arv Z h142 bw kw .int (Int32.ofNat ws.length) (ws.map Value.int) (.int (0 : Int32)) := (((V1.ext E140).other W141 ne_bw_ar140).other W142 ne_bw_ar140)
          have V147 : Arv Z h142 bm km .long (Int32.ofNat ws.length) (ms.map Value.long) (.long (0 : Int64)) := (((V2.ext E140).other W141 ne_bm_ar140).other W142 ne_bm_ar140)
          refine E_callV (pc' := 164) (kc' := 9) (ks' := 25) (W := 0) (a := ob134) (argsL := [(.ref ar140)]) cx st142 [] (rmA l Z a0 hw ob134 ar140 q4 q5 bw bm ws ms h142 n0 Z142 kw km ca140 X143 G144 G145 V146 V147 V142p hl h3 (hbw ⟨hB0, hB1, hB2⟩)) X143 (hw _ (List.mem_of_getElem? (i := 63) rfl)) (hw _ (List.mem_of_getElem? (i := 64) rfl)) (hw _ (List.mem_of_getElem? (i := 66) rfl)) (hw _ (List.mem_of_getElem? (i := 65) rfl)) (hw _ (List.mem_of_getElem? (i := 7) rfl)) (hw _ (List.mem_of_getElem? (i := 67) rfl)) at_161 rfl rfl (lenOf pd_9 rfl) (Nat.le_of_eq rfl) (by decide) (by decide) (by decide) (by decide) (by decide) (by decide) (by decide) rfl ?_
          intro v148 T148 h148 st148 hq148
          obtain ⟨rfl, hh148⟩ := hq148
          rw [hh148] at st148
          refine E_iload (pc' := 166) cx st148 at_164 rfl rfl ?_
          refine E_icmp_neN (pc' := 169) cx st148 at_166 rfl (if_neg (fun z => hv_no c129 ((hA _).mp z).1)) ?_
          refine E_iconst (pc' := 170) cx st148 (1 : Int32) at_169 rfl rfl ?_
          refine E_goto (pc' := 174) cx st148 at_170 (by decide) (by decide) ?_
          refine E_ireturn (t := .boolean) cx st148 at_174 rfl (by simp) rfl (by decide) (by decide) ?_
          exact rfl
        · refine E_if_neY (pc' := 131) cx st132 at_125 (by decide) (by decide) c133 ?_
          refine E_new (pc' := 134) (kc' := 2) (ks' := 5) cx st132 (hw _ (List.mem_of_getElem? (i := 5) rfl)) (hw _ (List.mem_of_getElem? (i := 6) rfl)) (hw _ (List.mem_of_getElem? (i := 7) rfl)) at_131 (by decide) (by decide) (by decide) (by decide) rfl ?_
          intro T149 h149 ob149 eq149 st149 E149 X149 D149
          have g_ob149 : n0 ≤ ob149 := by rw [eq149]; exact Z127
          have ne_ar124_ob149 : ar124 ≠ ob149 := by rw [eq149]; exact Nat.ne_of_lt V127p.lt
          have Z149 : n0 ≤ h149.size := Nat.le_trans Z127 E149.1
          have F149_words : Fld Z h149 ob149 "com/example/flat_planner/flatplanner/AtomMask" "words" "[I" .null := D149 (Or.inr (hw _ (List.mem_of_getElem? (i := 51) rfl))) (ty := (.array .int)) (by decide)
          have F149_masks : Fld Z h149 ob149 "com/example/flat_planner/flatplanner/AtomMask" "masks" "[J" .null := D149 (Or.inr (hw _ (List.mem_of_getElem? (i := 62) rfl))) (ty := (.array .long)) (by decide)
          refine E_dup (pc' := 135) cx st149 at_134 rfl rfl ?_
          refine E_aload (pc' := 137) cx st149 at_135 rfl rfl rfl ?_
          have V150 : Arv Z h149 ar124 ca124 .int (3 : Int32) [(.int u1), (.int u2), (.int u3)] (.int (0 : Int32)) := (V127p.ext E149)
          have X151 : Exa Z h149 ar124 "[I" := ((((X124.wr W125).wr W126).wr W127).ext E149)
          refine E_callI (pc' := 140) (kc' := 8) (ks' := 23) (W := 1) (a := ob149) (argsL := [(.ref ar124)]) cx st149 [(.ref ob149)] (rm2n3 l Z a0 hw ob149 ar124 u1 u2 u3 h149 n0 Z149 ca124 g_ob149 (Ne.symm ne_ar124_ob149) X149 F149_words F149_masks X151 V150) rfl (hw _ (List.mem_of_getElem? (i := 8) rfl)) (hw _ (List.mem_of_getElem? (i := 9) rfl)) (hw _ (List.mem_of_getElem? (i := 7) rfl)) (hw _ (List.mem_of_getElem? (i := 10) rfl)) at_137 rfl rfl (lenOf pd_4 rfl) (Nat.le_of_eq rfl) (by decide) (by decide) (by decide) (by decide) (by decide) (by decide) (by decide) rfl ?_
          intro v152 T152 h152 st152 hq152
          obtain ⟨rfl, Kc, bw, bm, kw, km, ws, ms, hl, h3, G1, G2, V1, V2, sz1, sz2, hbw, hA, hN⟩ := hq152
          have Z152 : n0 ≤ h152.size := Nat.le_trans Z149 Kc.1
          have ne_ar124_bw : ar124 ≠ bw := Nat.ne_of_lt (Nat.lt_of_lt_of_le V150.lt sz1)
          have ne_ob149_bw : ob149 ≠ bw := Nat.ne_of_lt (Nat.lt_of_lt_of_le X149.lt sz1)
          have ne_ar124_bm : ar124 ≠ bm := Nat.ne_of_lt (Nat.lt_of_lt_of_le V150.lt sz2)
          have ne_ob149_bm : ob149 ≠ bm := Nat.ne_of_lt (Nat.lt_of_lt_of_le X149.lt sz2)
          refine E_astore (pc' := 142) (L' := #[.val (.int p0), .val (.int p1), .val (.int p2), .val (.int p3), .val (.long q4), .second, .val (.long q5), .second, .val (.int u1), .val (.int u2), .val (.int u3), .val (.int (3 : Int32)), .val (.ref ar124), .val (.int (0 : Int32)), .val (.ref ob149), .unset]) cx st152 at_140 rfl rfl rfl ?_
          refine E_iconst (pc' := 143) cx st152 (2 : Int32) at_142 rfl rfl ?_
          have V153 : Arv Z h152 ar124 ca124 .int (3 : Int32) [(.int u1), (.int u2), (.int u3)] (.int (0 : Int32)) := (V150.keep Kc (ninS ne_ar124_ob149 nin0))
          have X154 : Exa Z h152 ob149 "com/example/flat_planner/flatplanner/AtomMask" := (X149.keep Kc)
          refine E_newP (pc' := 145) (kc' := 9) (ks' := 25) (cap := 2) cx st152 (hw _ (List.mem_of_getElem? (i := 37) rfl)) at_143 (by decide) (by decide) (by decide) (by decide) (by decide) (by decide) (by decide) rfl (ad := "[J") (by decide) ?_
          intro T155 h155 ca155 ar155 eq155 st155 E155 V155 X155
          have g_ar155 : n0 ≤ ar155 := by rw [eq155]; exact Z152
          have ne_ar124_ar155 : ar124 ≠ ar155 := by rw [eq155]; exact Nat.ne_of_lt V153.lt
          have ne_ob149_ar155 : ob149 ≠ ar155 := by rw [eq155]; exact Nat.ne_of_lt X154.lt
          have ne_bw_ar155 : bw ≠ ar155 := by rw [eq155]; exact Nat.ne_of_lt V1.lt
          have ne_bm_ar155 : bm ≠ ar155 := by rw [eq155]; exact Nat.ne_of_lt V2.lt
          have Z155 : n0 ≤ h155.size := Nat.le_trans Z152 E155.1
          have V155p : Arv Z h155 ar155 ca155 .long (2 : Int32) [(.long (0 : Int64)), (.long (0 : Int64))] (.long (0 : Int64)) := V155.pad (pad_rep [] (.long (0 : Int64)) 2)
          refine E_dup (pc' := 146) cx st155 at_145 rfl rfl ?_
          refine E_iconst (pc' := 147) cx st155 (0 : Int32) at_146 rfl rfl ?_
          refine E_lload (pc' := 149) cx st155 at_147 rfl rfl ?_
          refine E_lastore (pc' := 150) (i := 0) cx st155 V155p ⟨by decide, by decide⟩ rfl (Nat.le_of_ble_eq_true rfl) g_ar155 at_149 rfl ?_
          intro T156 h156 st156 W156 V156
          have Z156 : n0 ≤ h156.size := Nat.le_trans Z155 (Keep.of_wr W156).1
          have V156p : Arv Z h156 ar155 ca155 .long (2 : Int32) [(.long q4), (.long (0 : Int64))] (.long (0 : Int64)) := V156
          refine E_dup (pc' := 151) cx st156 at_150 rfl rfl ?_
          refine E_iconst (pc' := 152) cx st156 (1 : Int32) at_151 rfl rfl ?_
          refine E_lload (pc' := 154) cx st156 at_152 rfl rfl ?_
          refine E_lastore (pc' := 155) (i := 1) cx st156 V156p ⟨by decide, by decide⟩ rfl (Nat.le_of_ble_eq_true rfl) g_ar155 at_154 rfl ?_
          intro T157 h157 st157 W157 V157
          have Z157 : n0 ≤ h157.size := Nat.le_trans Z156 (Keep.of_wr W157).1
          have V157p : Arv Z h157 ar155 ca155 .long (2 : Int32) [(.long q4), (.long q5)] (.long (0 : Int64)) := V157
          refine E_astore (pc' := 157) (L' := #[.val (.int p0), .val (.int p1), .val (.int p2), .val (.int p3), .val (.long q4), .second, .val (.long q5), .second, .val (.int u1), .val (.int u2), .val (.int u3), .val (.int (3 : Int32)), .val (.ref ar124), .val (.int (0 : Int32)), .val (.ref ob149), .val (.ref ar155)]) cx st157 at_155 rfl rfl rfl ?_
          refine E_aload (pc' := 159) cx st157 at_157 rfl rfl rfl ?_
          refine E_aload (pc' := 161) cx st157 at_159 rfl rfl rfl ?_
          have X158 : Exa Z h157 ob149 "com/example/flat_planner/flatplanner/AtomMask" := (((X154.ext E155).wr W156).wr W157)
          have G159 : Fld Z h157 ob149 "com/example/flat_planner/flatplanner/AtomMask" "words" "[I" (.ref bw) := (((G1.ext E155).other W156 (Or.inl ne_ob149_ar155)).other W157 (Or.inl ne_ob149_ar155))
          have G160 : Fld Z h157 ob149 "com/example/flat_planner/flatplanner/AtomMask" "masks" "[J" (.ref bm) := (((G2.ext E155).other W156 (Or.inl ne_ob149_ar155)).other W157 (Or.inl ne_ob149_ar155))
          have V161 : Arv Z h157 bw kw .int (Int32.ofNat ws.length) (ws.map Value.int) (.int (0 : Int32)) := (((V1.ext E155).other W156 ne_bw_ar155).other W157 ne_bw_ar155)
          have V162 : Arv Z h157 bm km .long (Int32.ofNat ws.length) (ms.map Value.long) (.long (0 : Int64)) := (((V2.ext E155).other W156 ne_bm_ar155).other W157 ne_bm_ar155)
          refine E_callV (pc' := 164) (kc' := 9) (ks' := 25) (W := 0) (a := ob149) (argsL := [(.ref ar155)]) cx st157 [] (rmA l Z a0 hw ob149 ar155 q4 q5 bw bm ws ms h157 n0 Z157 kw km ca155 X158 G159 G160 V161 V162 V157p hl h3 (hbw ⟨hB0, hB1, hB2⟩)) X158 (hw _ (List.mem_of_getElem? (i := 63) rfl)) (hw _ (List.mem_of_getElem? (i := 64) rfl)) (hw _ (List.mem_of_getElem? (i := 66) rfl)) (hw _ (List.mem_of_getElem? (i := 65) rfl)) (hw _ (List.mem_of_getElem? (i := 7) rfl)) (hw _ (List.mem_of_getElem? (i := 67) rfl)) at_161 rfl rfl (lenOf pd_9 rfl) (Nat.le_of_eq rfl) (by decide) (by decide) (by decide) (by decide) (by decide) (by decide) (by decide) rfl ?_
          intro v163 T163 h163 st163 hq163
          obtain ⟨rfl, hh163⟩ := hq163
          rw [hh163] at st163
          refine E_iload (pc' := 166) cx st163 at_164 rfl rfl ?_
          refine E_icmp_neN (pc' := 169) cx st163 at_166 rfl (if_neg (fun z => hv_no c129 ((hA _).mp z).1)) ?_
          refine E_iconst (pc' := 170) cx st163 (1 : Int32) at_169 rfl rfl ?_
          refine E_goto (pc' := 174) cx st163 at_170 (by decide) (by decide) ?_
          refine E_ireturn (t := .boolean) cx st163 at_174 rfl (by simp) rfl (by decide) (by decide) ?_
          exact rfl
      · refine E_if_neY (pc' := 110) cx st130 at_104 (by decide) (by decide) c131 ?_
        refine E_iload (pc' := 112) cx st130 at_110 rfl rfl ?_
        refine E_iconst (pc' := 113) cx st130 (3 : Int32) at_112 rfl rfl ?_
        refine E_icmp_ltN (pc' := 116) cx st130 at_113 rfl (by decide) ?_
        refine E_lload (pc' := 118) cx st130 at_116 rfl rfl ?_
        refine E_lload (pc' := 120) cx st130 at_118 rfl rfl ?_
        refine E_iload (pc' := 122) cx st130 at_120 rfl rfl ?_
        refine E_callS (pc' := 125) (kc' := 1) (ks' := 3) (W := 0) (argsL := [(.long q4), (.long q5), (.int u3)]) cx st130 [] (rm1 l Z a0 hw q4 q5 u3 h127 n0 Z127 hB2) (hw _ (List.mem_of_getElem? (i := 1) rfl)) (hw _ (List.mem_of_getElem? (i := 2) rfl)) (hw _ (List.mem_of_getElem? (i := 3) rfl)) (hw _ (List.mem_of_getElem? (i := 4) rfl)) at_122 rfl rfl (lenOf pd_10 rfl) (Nat.le_of_eq rfl) (by decide) (by decide) (by decide) (by decide) (by decide) (by decide) (by decide) rfl ?_
        intro v164 T164 h164 st164 hq164
        obtain ⟨rfl, hh164⟩ := hq164
        rw [hh164] at st164
        by_cases c165 : (hv [q4, q5] u3) = (0 : Int32)
        · refine E_if_neN (pc' := 128) cx st164 at_125 rfl c165 ?_
          refine E_iconst (pc' := 129) cx st164 (0 : Int32) at_128 rfl rfl ?_
          refine E_istore (pc' := 131) (L' := #[.val (.int p0), .val (.int p1), .val (.int p2), .val (.int p3), .val (.long q4), .second, .val (.long q5), .second, .val (.int u1), .val (.int u2), .val (.int u3), .val (.int (3 : Int32)), .val (.ref ar124), .val (.int (0 : Int32)), .unset, .unset]) cx st164 at_129 rfl rfl ?_
          refine E_new (pc' := 134) (kc' := 2) (ks' := 5) cx st164 (hw _ (List.mem_of_getElem? (i := 5) rfl)) (hw _ (List.mem_of_getElem? (i := 6) rfl)) (hw _ (List.mem_of_getElem? (i := 7) rfl)) at_131 (by decide) (by decide) (by decide) (by decide) rfl ?_
          intro T166 h166 ob166 eq166 st166 E166 X166 D166
          have g_ob166 : n0 ≤ ob166 := by rw [eq166]; exact Z127
          have ne_ar124_ob166 : ar124 ≠ ob166 := by rw [eq166]; exact Nat.ne_of_lt V127p.lt
          have Z166 : n0 ≤ h166.size := Nat.le_trans Z127 E166.1
          have F166_words : Fld Z h166 ob166 "com/example/flat_planner/flatplanner/AtomMask" "words" "[I" .null := D166 (Or.inr (hw _ (List.mem_of_getElem? (i := 51) rfl))) (ty := (.array .int)) (by decide)
          have F166_masks : Fld Z h166 ob166 "com/example/flat_planner/flatplanner/AtomMask" "masks" "[J" .null := D166 (Or.inr (hw _ (List.mem_of_getElem? (i := 62) rfl))) (ty := (.array .long)) (by decide)
          refine E_dup (pc' := 135) cx st166 at_134 rfl rfl ?_
          refine E_aload (pc' := 137) cx st166 at_135 rfl rfl rfl ?_
          have V167 : Arv Z h166 ar124 ca124 .int (3 : Int32) [(.int u1), (.int u2), (.int u3)] (.int (0 : Int32)) := (V127p.ext E166)
          have X168 : Exa Z h166 ar124 "[I" := ((((X124.wr W125).wr W126).wr W127).ext E166)
          refine E_callI (pc' := 140) (kc' := 8) (ks' := 23) (W := 1) (a := ob166) (argsL := [(.ref ar124)]) cx st166 [(.ref ob166)] (rm2n3 l Z a0 hw ob166 ar124 u1 u2 u3 h166 n0 Z166 ca124 g_ob166 (Ne.symm ne_ar124_ob166) X166 F166_words F166_masks X168 V167) rfl (hw _ (List.mem_of_getElem? (i := 8) rfl)) (hw _ (List.mem_of_getElem? (i := 9) rfl)) (hw _ (List.mem_of_getElem? (i := 7) rfl)) (hw _ (List.mem_of_getElem? (i := 10) rfl)) at_137 rfl rfl (lenOf pd_4 rfl) (Nat.le_of_eq rfl) (by decide) (by decide) (by decide) (by decide) (by decide) (by decide) (by decide) rfl ?_
          intro v169 T169 h169 st169 hq169
          obtain ⟨rfl, Kc, bw, bm, kw, km, ws, ms, hl, h3, G1, G2, V1, V2, sz1, sz2, hbw, hA, hN⟩ := hq169
          have Z169 : n0 ≤ h169.size := Nat.le_trans Z166 Kc.1
          have ne_ar124_bw : ar124 ≠ bw := Nat.ne_of_lt (Nat.lt_of_lt_of_le V167.lt sz1)
          have ne_ob166_bw : ob166 ≠ bw := Nat.ne_of_lt (Nat.lt_of_lt_of_le X166.lt sz1)
          have ne_ar124_bm : ar124 ≠ bm := Nat.ne_of_lt (Nat.lt_of_lt_of_le V167.lt sz2)
          have ne_ob166_bm : ob166 ≠ bm := Nat.ne_of_lt (Nat.lt_of_lt_of_le X166.lt sz2)
          refine E_astore (pc' := 142) (L' := #[.val (.int p0), .val (.int p1), .val (.int p2), .val (.int p3), .val (.long q4), .second, .val (.long q5), .second, .val (.int u1), .val (.int u2), .val (.int u3), .val (.int (3 : Int32)), .val (.ref ar124), .val (.int (0 : Int32)), .val (.ref ob166), .unset]) cx st169 at_140 rfl rfl rfl ?_
          refine E_iconst (pc' := 143) cx st169 (2 : Int32) at_142 rfl rfl ?_
          have V170 : Arv Z h169 ar124 ca124 .int (3 : Int32) [(.int u1), (.int u2), (.int u3)] (.int (0 : Int32)) := (V167.keep Kc (ninS ne_ar124_ob166 nin0))
          have X171 : Exa Z h169 ob166 "com/example/flat_planner/flatplanner/AtomMask" := (X166.keep Kc)
          refine E_newP (pc' := 145) (kc' := 9) (ks' := 25) (cap := 2) cx st169 (hw _ (List.mem_of_getElem? (i := 37) rfl)) at_143 (by decide) (by decide) (by decide) (by decide) (by decide) (by decide) (by decide) rfl (ad := "[J") (by decide) ?_
          intro T172 h172 ca172 ar172 eq172 st172 E172 V172 X172
          have g_ar172 : n0 ≤ ar172 := by rw [eq172]; exact Z169
          have ne_ar124_ar172 : ar124 ≠ ar172 := by rw [eq172]; exact Nat.ne_of_lt V170.lt
          have ne_ob166_ar172 : ob166 ≠ ar172 := by rw [eq172]; exact Nat.ne_of_lt X171.lt
          have ne_bw_ar172 : bw ≠ ar172 := by rw [eq172]; exact Nat.ne_of_lt V1.lt
          have ne_bm_ar172 : bm ≠ ar172 := by rw [eq172]; exact Nat.ne_of_lt V2.lt
          have Z172 : n0 ≤ h172.size := Nat.le_trans Z169 E172.1
          have V172p : Arv Z h172 ar172 ca172 .long (2 : Int32) [(.long (0 : Int64)), (.long (0 : Int64))] (.long (0 : Int64)) := V172.pad (pad_rep [] (.long (0 : Int64)) 2)
          refine E_dup (pc' := 146) cx st172 at_145 rfl rfl ?_
          refine E_iconst (pc' := 147) cx st172 (0 : Int32) at_146 rfl rfl ?_
          refine E_lload (pc' := 149) cx st172 at_147 rfl rfl ?_
          refine E_lastore (pc' := 150) (i := 0) cx st172 V172p ⟨by decide, by decide⟩ rfl (Nat.le_of_ble_eq_true rfl) g_ar172 at_149 rfl ?_
          intro T173 h173 st173 W173 V173
          have Z173 : n0 ≤ h173.size := Nat.le_trans Z172 (Keep.of_wr W173).1
          have V173p : Arv Z h173 ar172 ca172 .long (2 : Int32) [(.long q4), (.long (0 : Int64))] (.long (0 : Int64)) := V173
          refine E_dup (pc' := 151) cx st173 at_150 rfl rfl ?_
          refine E_iconst (pc' := 152) cx st173 (1 : Int32) at_151 rfl rfl ?_
          refine E_lload (pc' := 154) cx st173 at_152 rfl rfl ?_
          refine E_lastore (pc' := 155) (i := 1) cx st173 V173p ⟨by decide, by decide⟩ rfl (Nat.le_of_ble_eq_true rfl) g_ar172 at_154 rfl ?_
          intro T174 h174 st174 W174 V174
          have Z174 : n0 ≤ h174.size := Nat.le_trans Z173 (Keep.of_wr W174).1
          have V174p : Arv Z h174 ar172 ca172 .long (2 : Int32) [(.long q4), (.long q5)] (.long (0 : Int64)) := V174
          refine E_astore (pc' := 157) (L' := #[.val (.int p0), .val (.int p1), .val (.int p2), .val (.int p3), .val (.long q4), .second, .val (.long q5), .second, .val (.int u1), .val (.int u2), .val (.int u3), .val (.int (3 : Int32)), .val (.ref ar124), .val (.int (0 : Int32)), .val (.ref ob166), .val (.ref ar172)]) cx st174 at_155 rfl rfl rfl ?_
          refine E_aload (pc' := 159) cx st174 at_157 rfl rfl rfl ?_
          refine E_aload (pc' := 161) cx st174 at_159 rfl rfl rfl ?_
          have X175 : Exa Z h174 ob166 "com/example/flat_planner/flatplanner/AtomMask" := (((X171.ext E172).wr W173).wr W174)
          have G176 : Fld Z h174 ob166 "com/example/flat_planner/flatplanner/AtomMask" "words" "[I" (.ref bw) := (((G1.ext E172).other W173 (Or.inl ne_ob166_ar172)).other W174 (Or.inl ne_ob166_ar172))
          have G177 : Fld Z h174 ob166 "com/example/flat_planner/flatplanner/AtomMask" "masks" "[J" (.ref bm) := (((G2.ext E172).other W173 (Or.inl ne_ob166_ar172)).other W174 (Or.inl ne_ob166_ar172))
          have V178 : Arv Z h174 bw kw .int (Int32.ofNat ws.length) (ws.map Value.int) (.int (0 : Int32)) := (((V1.ext E172).other W173 ne_bw_ar172).other W174 ne_bw_ar172)
          have V179 : Arv Z h174 bm km .long (Int32.ofNat ws.length) (ms.map Value.long) (.long (0 : Int64)) := (((V2.ext E172).other W173 ne_bm_ar172).other W174 ne_bm_ar172)
          refine E_callV (pc' := 164) (kc' := 9) (ks' := 25) (W := 0) (a := ob166) (argsL := [(.ref ar172)]) cx st174 [] (rmA l Z a0 hw ob166 ar172 q4 q5 bw bm ws ms h174 n0 Z174 kw km ca172 X175 G176 G177 V178 V179 V174p hl h3 (hbw ⟨hB0, hB1, hB2⟩)) X175 (hw _ (List.mem_of_getElem? (i := 63) rfl)) (hw _ (List.mem_of_getElem? (i := 64) rfl)) (hw _ (List.mem_of_getElem? (i := 66) rfl)) (hw _ (List.mem_of_getElem? (i := 65) rfl)) (hw _ (List.mem_of_getElem? (i := 7) rfl)) (hw _ (List.mem_of_getElem? (i := 67) rfl)) at_161 rfl rfl (lenOf pd_9 rfl) (Nat.le_of_eq rfl) (by decide) (by decide) (by decide) (by decide) (by decide) (by decide) (by decide) rfl ?_
          intro v180 T180 h180 st180 hq180
          obtain ⟨rfl, hh180⟩ := hq180
          rw [hh180] at st180
          refine E_iload (pc' := 166) cx st180 at_164 rfl rfl ?_
          refine E_icmp_neN (pc' := 169) cx st180 at_166 rfl (if_neg (fun z => hv_no c129 ((hA _).mp z).1)) ?_
          refine E_iconst (pc' := 170) cx st180 (1 : Int32) at_169 rfl rfl ?_
          refine E_goto (pc' := 174) cx st180 at_170 (by decide) (by decide) ?_
          refine E_ireturn (t := .boolean) cx st180 at_174 rfl (by simp) rfl (by decide) (by decide) ?_
          exact rfl
        · refine E_if_neY (pc' := 131) cx st164 at_125 (by decide) (by decide) c165 ?_
          refine E_new (pc' := 134) (kc' := 2) (ks' := 5) cx st164 (hw _ (List.mem_of_getElem? (i := 5) rfl)) (hw _ (List.mem_of_getElem? (i := 6) rfl)) (hw _ (List.mem_of_getElem? (i := 7) rfl)) at_131 (by decide) (by decide) (by decide) (by decide) rfl ?_
          intro T181 h181 ob181 eq181 st181 E181 X181 D181
          have g_ob181 : n0 ≤ ob181 := by rw [eq181]; exact Z127
          have ne_ar124_ob181 : ar124 ≠ ob181 := by rw [eq181]; exact Nat.ne_of_lt V127p.lt
          have Z181 : n0 ≤ h181.size := Nat.le_trans Z127 E181.1
          have F181_words : Fld Z h181 ob181 "com/example/flat_planner/flatplanner/AtomMask" "words" "[I" .null := D181 (Or.inr (hw _ (List.mem_of_getElem? (i := 51) rfl))) (ty := (.array .int)) (by decide)
          have F181_masks : Fld Z h181 ob181 "com/example/flat_planner/flatplanner/AtomMask" "masks" "[J" .null := D181 (Or.inr (hw _ (List.mem_of_getElem? (i := 62) rfl))) (ty := (.array .long)) (by decide)
          refine E_dup (pc' := 135) cx st181 at_134 rfl rfl ?_
          refine E_aload (pc' := 137) cx st181 at_135 rfl rfl rfl ?_
          have V182 : Arv Z h181 ar124 ca124 .int (3 : Int32) [(.int u1), (.int u2), (.int u3)] (.int (0 : Int32)) := (V127p.ext E181)
          have X183 : Exa Z h181 ar124 "[I" := ((((X124.wr W125).wr W126).wr W127).ext E181)
          refine E_callI (pc' := 140) (kc' := 8) (ks' := 23) (W := 1) (a := ob181) (argsL := [(.ref ar124)]) cx st181 [(.ref ob181)] (rm2n3 l Z a0 hw ob181 ar124 u1 u2 u3 h181 n0 Z181 ca124 g_ob181 (Ne.symm ne_ar124_ob181) X181 F181_words F181_masks X183 V182) rfl (hw _ (List.mem_of_getElem? (i := 8) rfl)) (hw _ (List.mem_of_getElem? (i := 9) rfl)) (hw _ (List.mem_of_getElem? (i := 7) rfl)) (hw _ (List.mem_of_getElem? (i := 10) rfl)) at_137 rfl rfl (lenOf pd_4 rfl) (Nat.le_of_eq rfl) (by decide) (by decide) (by decide) (by decide) (by decide) (by decide) (by decide) rfl ?_
          intro v184 T184 h184 st184 hq184
          obtain ⟨rfl, Kc, bw, bm, kw, km, ws, ms, hl, h3, G1, G2, V1, V2, sz1, sz2, hbw, hA, hN⟩ := hq184
          have Z184 : n0 ≤ h184.size := Nat.le_trans Z181 Kc.1
          have ne_ar124_bw : ar124 ≠ bw := Nat.ne_of_lt (Nat.lt_of_lt_of_le V182.lt sz1)
          have ne_ob181_bw : ob181 ≠ bw := Nat.ne_of_lt (Nat.lt_of_lt_of_le X181.lt sz1)
          have ne_ar124_bm : ar124 ≠ bm := Nat.ne_of_lt (Nat.lt_of_lt_of_le V182.lt sz2)
          have ne_ob181_bm : ob181 ≠ bm := Nat.ne_of_lt (Nat.lt_of_lt_of_le X181.lt sz2)
          refine E_astore (pc' := 142) (L' := #[.val (.int p0), .val (.int p1), .val (.int p2), .val (.int p3), .val (.long q4), .second, .val (.long q5), .second, .val (.int u1), .val (.int u2), .val (.int u3), .val (.int (3 : Int32)), .val (.ref ar124), .val (.int (0 : Int32)), .val (.ref ob181), .unset]) cx st184 at_140 rfl rfl rfl ?_
          refine E_iconst (pc' := 143) cx st184 (2 : Int32) at_142 rfl rfl ?_
          have V185 : Arv Z h184 ar124 ca124 .int (3 : Int32) [(.int u1), (.int u2), (.int u3)] (.int (0 : Int32)) := (V182.keep Kc (ninS ne_ar124_ob181 nin0))
          have X186 : Exa Z h184 ob181 "com/example/flat_planner/flatplanner/AtomMask" := (X181.keep Kc)
          refine E_newP (pc' := 145) (kc' := 9) (ks' := 25) (cap := 2) cx st184 (hw _ (List.mem_of_getElem? (i := 37) rfl)) at_143 (by decide) (by decide) (by decide) (by decide) (by decide) (by decide) (by decide) rfl (ad := "[J") (by decide) ?_
          intro T187 h187 ca187 ar187 eq187 st187 E187 V187 X187
          have g_ar187 : n0 ≤ ar187 := by rw [eq187]; exact Z184
          have ne_ar124_ar187 : ar124 ≠ ar187 := by rw [eq187]; exact Nat.ne_of_lt V185.lt
          have ne_ob181_ar187 : ob181 ≠ ar187 := by rw [eq187]; exact Nat.ne_of_lt X186.lt
          have ne_bw_ar187 : bw ≠ ar187 := by rw [eq187]; exact Nat.ne_of_lt V1.lt
          have ne_bm_ar187 : bm ≠ ar187 := by rw [eq187]; exact Nat.ne_of_lt V2.lt
          have Z187 : n0 ≤ h187.size := Nat.le_trans Z184 E187.1
          have V187p : Arv Z h187 ar187 ca187 .long (2 : Int32) [(.long (0 : Int64)), (.long (0 : Int64))] (.long (0 : Int64)) := V187.pad (pad_rep [] (.long (0 : Int64)) 2)
          refine E_dup (pc' := 146) cx st187 at_145 rfl rfl ?_
          refine E_iconst (pc' := 147) cx st187 (0 : Int32) at_146 rfl rfl ?_
          refine E_lload (pc' := 149) cx st187 at_147 rfl rfl ?_
          refine E_lastore (pc' := 150) (i := 0) cx st187 V187p ⟨by decide, by decide⟩ rfl (Nat.le_of_ble_eq_true rfl) g_ar187 at_149 rfl ?_
          intro T188 h188 st188 W188 V188
          have Z188 : n0 ≤ h188.size := Nat.le_trans Z187 (Keep.of_wr W188).1
          have V188p : Arv Z h188 ar187 ca187 .long (2 : Int32) [(.long q4), (.long (0 : Int64))] (.long (0 : Int64)) := V188
          refine E_dup (pc' := 151) cx st188 at_150 rfl rfl ?_
          refine E_iconst (pc' := 152) cx st188 (1 : Int32) at_151 rfl rfl ?_
          refine E_lload (pc' := 154) cx st188 at_152 rfl rfl ?_
          refine E_lastore (pc' := 155) (i := 1) cx st188 V188p ⟨by decide, by decide⟩ rfl (Nat.le_of_ble_eq_true rfl) g_ar187 at_154 rfl ?_
          intro T189 h189 st189 W189 V189
          have Z189 : n0 ≤ h189.size := Nat.le_trans Z188 (Keep.of_wr W189).1
          have V189p : Arv Z h189 ar187 ca187 .long (2 : Int32) [(.long q4), (.long q5)] (.long (0 : Int64)) := V189
          refine E_astore (pc' := 157) (L' := #[.val (.int p0), .val (.int p1), .val (.int p2), .val (.int p3), .val (.long q4), .second, .val (.long q5), .second, .val (.int u1), .val (.int u2), .val (.int u3), .val (.int (3 : Int32)), .val (.ref ar124), .val (.int (0 : Int32)), .val (.ref ob181), .val (.ref ar187)]) cx st189 at_155 rfl rfl rfl ?_
          refine E_aload (pc' := 159) cx st189 at_157 rfl rfl rfl ?_
          refine E_aload (pc' := 161) cx st189 at_159 rfl rfl rfl ?_
          have X190 : Exa Z h189 ob181 "com/example/flat_planner/flatplanner/AtomMask" := (((X186.ext E187).wr W188).wr W189)
          have G191 : Fld Z h189 ob181 "com/example/flat_planner/flatplanner/AtomMask" "words" "[I" (.ref bw) := (((G1.ext E187).other W188 (Or.inl ne_ob181_ar187)).other W189 (Or.inl ne_ob181_ar187))
          have G192 : Fld Z h189 ob181 "com/example/flat_planner/flatplanner/AtomMask" "masks" "[J" (.ref bm) := (((G2.ext E187).other W188 (Or.inl ne_ob181_ar187)).other W189 (Or.inl ne_ob181_ar187))
          have V193 : Arv Z h189 bw kw .int (Int32.ofNat ws.length) (ws.map Value.int) (.int (0 : Int32)) := (((V1.ext E187).other W188 ne_bw_ar187).other W189 ne_bw_ar187)
          have V194 : Arv Z h189 bm km .long (Int32.ofNat ws.length) (ms.map Value.long) (.long (0 : Int64)) := (((V2.ext E187).other W188 ne_bm_ar187).other W189 ne_bm_ar187)
          refine E_callV (pc' := 164) (kc' := 9) (ks' := 25) (W := 0) (a := ob181) (argsL := [(.ref ar187)]) cx st189 [] (rmA l Z a0 hw ob181 ar187 q4 q5 bw bm ws ms h189 n0 Z189 kw km ca187 X190 G191 G192 V193 V194 V189p hl h3 (hbw ⟨hB0, hB1, hB2⟩)) X190 (hw _ (List.mem_of_getElem? (i := 63) rfl)) (hw _ (List.mem_of_getElem? (i := 64) rfl)) (hw _ (List.mem_of_getElem? (i := 66) rfl)) (hw _ (List.mem_of_getElem? (i := 65) rfl)) (hw _ (List.mem_of_getElem? (i := 7) rfl)) (hw _ (List.mem_of_getElem? (i := 67) rfl)) at_161 rfl rfl (lenOf pd_9 rfl) (Nat.le_of_eq rfl) (by decide) (by decide) (by decide) (by decide) (by decide) (by decide) (by decide) rfl ?_
          intro v195 T195 h195 st195 hq195
          obtain ⟨rfl, hh195⟩ := hq195
          rw [hh195] at st195
          refine E_iload (pc' := 166) cx st195 at_164 rfl rfl ?_
          refine E_icmp_neN (pc' := 169) cx st195 at_166 rfl (if_neg (fun z => hv_no c129 ((hA _).mp z).1)) ?_
          refine E_iconst (pc' := 170) cx st195 (1 : Int32) at_169 rfl rfl ?_
          refine E_goto (pc' := 174) cx st195 at_170 (by decide) (by decide) ?_
          refine E_ireturn (t := .boolean) cx st195 at_174 rfl (by simp) rfl (by decide) (by decide) ?_
          exact rfl
    · refine E_if_neY (pc' := 89) cx st128 at_83 (by decide) (by decide) c129 ?_
      refine E_iload (pc' := 91) cx st128 at_89 rfl rfl ?_
      refine E_iconst (pc' := 92) cx st128 (2 : Int32) at_91 rfl rfl ?_
      refine E_icmp_ltN (pc' := 95) cx st128 at_92 rfl (by decide) ?_
      refine E_lload (pc' := 97) cx st128 at_95 rfl rfl ?_
      refine E_lload (pc' := 99) cx st128 at_97 rfl rfl ?_
      refine E_iload (pc' := 101) cx st128 at_99 rfl rfl ?_
      refine E_callS (pc' := 104) (kc' := 1) (ks' := 3) (W := 0) (argsL := [(.long q4), (.long q5), (.int u2)]) cx st128 [] (rm1 l Z a0 hw q4 q5 u2 h127 n0 Z127 hB1) (hw _ (List.mem_of_getElem? (i := 1) rfl)) (hw _ (List.mem_of_getElem? (i := 2) rfl)) (hw _ (List.mem_of_getElem? (i := 3) rfl)) (hw _ (List.mem_of_getElem? (i := 4) rfl)) at_101 rfl rfl (lenOf pd_10 rfl) (Nat.le_of_eq rfl) (by decide) (by decide) (by decide) (by decide) (by decide) (by decide) (by decide) rfl ?_
      intro v196 T196 h196 st196 hq196
      obtain ⟨rfl, hh196⟩ := hq196
      rw [hh196] at st196
      by_cases c197 : (hv [q4, q5] u2) = (0 : Int32)
      · refine E_if_neN (pc' := 107) cx st196 at_104 rfl c197 ?_
        refine E_iconst (pc' := 108) cx st196 (0 : Int32) at_107 rfl rfl ?_
        refine E_istore (pc' := 110) (L' := #[.val (.int p0), .val (.int p1), .val (.int p2), .val (.int p3), .val (.long q4), .second, .val (.long q5), .second, .val (.int u1), .val (.int u2), .val (.int u3), .val (.int (3 : Int32)), .val (.ref ar124), .val (.int (0 : Int32)), .unset, .unset]) cx st196 at_108 rfl rfl ?_
        refine E_iload (pc' := 112) cx st196 at_110 rfl rfl ?_
        refine E_iconst (pc' := 113) cx st196 (3 : Int32) at_112 rfl rfl ?_
        refine E_icmp_ltN (pc' := 116) cx st196 at_113 rfl (by decide) ?_
        refine E_lload (pc' := 118) cx st196 at_116 rfl rfl ?_
        refine E_lload (pc' := 120) cx st196 at_118 rfl rfl ?_
        refine E_iload (pc' := 122) cx st196 at_120 rfl rfl ?_
        refine E_callS (pc' := 125) (kc' := 1) (ks' := 3) (W := 0) (argsL := [(.long q4), (.long q5), (.int u3)]) cx st196 [] (rm1 l Z a0 hw q4 q5 u3 h127 n0 Z127 hB2) (hw _ (List.mem_of_getElem? (i := 1) rfl)) (hw _ (List.mem_of_getElem? (i := 2) rfl)) (hw _ (List.mem_of_getElem? (i := 3) rfl)) (hw _ (List.mem_of_getElem? (i := 4) rfl)) at_122 rfl rfl (lenOf pd_10 rfl) (Nat.le_of_eq rfl) (by decide) (by decide) (by decide) (by decide) (by decide) (by decide) (by decide) rfl ?_
        intro v198 T198 h198 st198 hq198
        obtain ⟨rfl, hh198⟩ := hq198
        rw [hh198] at st198
        by_cases c199 : (hv [q4, q5] u3) = (0 : Int32)
        · refine E_if_neN (pc' := 128) cx st198 at_125 rfl c199 ?_
          refine E_iconst (pc' := 129) cx st198 (0 : Int32) at_128 rfl rfl ?_
          refine E_istore (pc' := 131) (L' := #[.val (.int p0), .val (.int p1), .val (.int p2), .val (.int p3), .val (.long q4), .second, .val (.long q5), .second, .val (.int u1), .val (.int u2), .val (.int u3), .val (.int (3 : Int32)), .val (.ref ar124), .val (.int (0 : Int32)), .unset, .unset]) cx st198 at_129 rfl rfl ?_
          refine E_new (pc' := 134) (kc' := 2) (ks' := 5) cx st198 (hw _ (List.mem_of_getElem? (i := 5) rfl)) (hw _ (List.mem_of_getElem? (i := 6) rfl)) (hw _ (List.mem_of_getElem? (i := 7) rfl)) at_131 (by decide) (by decide) (by decide) (by decide) rfl ?_
          intro T200 h200 ob200 eq200 st200 E200 X200 D200
          have g_ob200 : n0 ≤ ob200 := by rw [eq200]; exact Z127
          have ne_ar124_ob200 : ar124 ≠ ob200 := by rw [eq200]; exact Nat.ne_of_lt V127p.lt
          have Z200 : n0 ≤ h200.size := Nat.le_trans Z127 E200.1
          have F200_words : Fld Z h200 ob200 "com/example/flat_planner/flatplanner/AtomMask" "words" "[I" .null := D200 (Or.inr (hw _ (List.mem_of_getElem? (i := 51) rfl))) (ty := (.array .int)) (by decide)
          have F200_masks : Fld Z h200 ob200 "com/example/flat_planner/flatplanner/AtomMask" "masks" "[J" .null := D200 (Or.inr (hw _ (List.mem_of_getElem? (i := 62) rfl))) (ty := (.array .long)) (by decide)
          refine E_dup (pc' := 135) cx st200 at_134 rfl rfl ?_
          refine E_aload (pc' := 137) cx st200 at_135 rfl rfl rfl ?_
          have V201 : Arv Z h200 ar124 ca124 .int (3 : Int32) [(.int u1), (.int u2), (.int u3)] (.int (0 : Int32)) := (V127p.ext E200)
          have X202 : Exa Z h200 ar124 "[I" := ((((X124.wr W125).wr W126).wr W127).ext E200)
          refine E_callI (pc' := 140) (kc' := 8) (ks' := 23) (W := 1) (a := ob200) (argsL := [(.ref ar124)]) cx st200 [(.ref ob200)] (rm2n3 l Z a0 hw ob200 ar124 u1 u2 u3 h200 n0 Z200 ca124 g_ob200 (Ne.symm ne_ar124_ob200) X200 F200_words F200_masks X202 V201) rfl (hw _ (List.mem_of_getElem? (i := 8) rfl)) (hw _ (List.mem_of_getElem? (i := 9) rfl)) (hw _ (List.mem_of_getElem? (i := 7) rfl)) (hw _ (List.mem_of_getElem? (i := 10) rfl)) at_137 rfl rfl (lenOf pd_4 rfl) (Nat.le_of_eq rfl) (by decide) (by decide) (by decide) (by decide) (by decide) (by decide) (by decide) rfl ?_
          intro v203 T203 h203 st203 hq203
          obtain ⟨rfl, Kc, bw, bm, kw, km, ws, ms, hl, h3, G1, G2, V1, V2, sz1, sz2, hbw, hA, hN⟩ := hq203
          have Z203 : n0 ≤ h203.size := Nat.le_trans Z200 Kc.1
          have ne_ar124_bw : ar124 ≠ bw := Nat.ne_of_lt (Nat.lt_of_lt_of_le V201.lt sz1)
          have ne_ob200_bw : ob200 ≠ bw := Nat.ne_of_lt (Nat.lt_of_lt_of_le X200.lt sz1)
          have ne_ar124_bm : ar124 ≠ bm := Nat.ne_of_lt (Nat.lt_of_lt_of_le V201.lt sz2)
          have ne_ob200_bm : ob200 ≠ bm := Nat.ne_of_lt (Nat.lt_of_lt_of_le X200.lt sz2)
          refine E_astore (pc' := 142) (L' := #[.val (.int p0), .val (.int p1), .val (.int p2), .val (.int p3), .val (.long q4), .second, .val (.long q5), .second, .val (.int u1), .val (.int u2), .val (.int u3), .val (.int (3 : Int32)), .val (.ref ar124), .val (.int (0 : Int32)), .val (.ref ob200), .unset]) cx st203 at_140 rfl rfl rfl ?_
          refine E_iconst (pc' := 143) cx st203 (2 : Int32) at_142 rfl rfl ?_
          have V204 : Arv Z h203 ar124 ca124 .int (3 : Int32) [(.int u1), (.int u2), (.int u3)] (.int (0 : Int32)) := (V201.keep Kc (ninS ne_ar124_ob200 nin0))
          have X205 : Exa Z h203 ob200 "com/example/flat_planner/flatplanner/AtomMask" := (X200.keep Kc)
          refine E_newP (pc' := 145) (kc' := 9) (ks' := 25) (cap := 2) cx st203 (hw _ (List.mem_of_getElem? (i := 37) rfl)) at_143 (by decide) (by decide) (by decide) (by decide) (by decide) (by decide) (by decide) rfl (ad := "[J") (by decide) ?_
          intro T206 h206 ca206 ar206 eq206 st206 E206 V206 X206
          have g_ar206 : n0 ≤ ar206 := by rw [eq206]; exact Z203
          have ne_ar124_ar206 : ar124 ≠ ar206 := by rw [eq206]; exact Nat.ne_of_lt V204.lt
          have ne_ob200_ar206 : ob200 ≠ ar206 := by rw [eq206]; exact Nat.ne_of_lt X205.lt
          have ne_bw_ar206 : bw ≠ ar206 := by rw [eq206]; exact Nat.ne_of_lt V1.lt
          have ne_bm_ar206 : bm ≠ ar206 := by rw [eq206]; exact Nat.ne_of_lt V2.lt
          have Z206 : n0 ≤ h206.size := Nat.le_trans Z203 E206.1
          have V206p : Arv Z h206 ar206 ca206 .long (2 : Int32) [(.long (0 : Int64)), (.long (0 : Int64))] (.long (0 : Int64)) := V206.pad (pad_rep [] (.long (0 : Int64)) 2)
          refine E_dup (pc' := 146) cx st206 at_145 rfl rfl ?_
          refine E_iconst (pc' := 147) cx st206 (0 : Int32) at_146 rfl rfl ?_
          refine E_lload (pc' := 149) cx st206 at_147 rfl rfl ?_
          refine E_lastore (pc' := 150) (i := 0) cx st206 V206p ⟨by decide, by decide⟩ rfl (Nat.le_of_ble_eq_true rfl) g_ar206 at_149 rfl ?_
          intro T207 h207 st207 W207 V207
          have Z207 : n0 ≤ h207.size := Nat.le_trans Z206 (Keep.of_wr W207).1
          have V207p : Arv Z h207 ar206 ca206 .long (2 : Int32) [(.long q4), (.long (0 : Int64))] (.long (0 : Int64)) := V207
          refine E_dup (pc' := 151) cx st207 at_150 rfl rfl ?_
          refine E_iconst (pc' := 152) cx st207 (1 : Int32) at_151 rfl rfl ?_
          refine E_lload (pc' := 154) cx st207 at_152 rfl rfl ?_
          refine E_lastore (pc' := 155) (i := 1) cx st207 V207p ⟨by decide, by decide⟩ rfl (Nat.le_of_ble_eq_true rfl) g_ar206 at_154 rfl ?_
          intro T208 h208 st208 W208 V208
          have Z208 : n0 ≤ h208.size := Nat.le_trans Z207 (Keep.of_wr W208).1
          have V208p : Arv Z h208 ar206 ca206 .long (2 : Int32) [(.long q4), (.long q5)] (.long (0 : Int64)) := V208
          refine E_astore (pc' := 157) (L' := #[.val (.int p0), .val (.int p1), .val (.int p2), .val (.int p3), .val (.long q4), .second, .val (.long q5), .second, .val (.int u1), .val (.int u2), .val (.int u3), .val (.int (3 : Int32)), .val (.ref ar124), .val (.int (0 : Int32)), .val (.ref ob200), .val (.ref ar206)]) cx st208 at_155 rfl rfl rfl ?_
          refine E_aload (pc' := 159) cx st208 at_157 rfl rfl rfl ?_
          refine E_aload (pc' := 161) cx st208 at_159 rfl rfl rfl ?_
          have X209 : Exa Z h208 ob200 "com/example/flat_planner/flatplanner/AtomMask" := (((X205.ext E206).wr W207).wr W208)
          have G210 : Fld Z h208 ob200 "com/example/flat_planner/flatplanner/AtomMask" "words" "[I" (.ref bw) := (((G1.ext E206).other W207 (Or.inl ne_ob200_ar206)).other W208 (Or.inl ne_ob200_ar206))
          have G211 : Fld Z h208 ob200 "com/example/flat_planner/flatplanner/AtomMask" "masks" "[J" (.ref bm) := (((G2.ext E206).other W207 (Or.inl ne_ob200_ar206)).other W208 (Or.inl ne_ob200_ar206))
          have V212 : Arv Z h208 bw kw .int (Int32.ofNat ws.length) (ws.map Value.int) (.int (0 : Int32)) := (((V1.ext E206).other W207 ne_bw_ar206).other W208 ne_bw_ar206)
          have V213 : Arv Z h208 bm km .long (Int32.ofNat ws.length) (ms.map Value.long) (.long (0 : Int64)) := (((V2.ext E206).other W207 ne_bm_ar206).other W208 ne_bm_ar206)
          refine E_callV (pc' := 164) (kc' := 9) (ks' := 25) (W := 0) (a := ob200) (argsL := [(.ref ar206)]) cx st208 [] (rmA l Z a0 hw ob200 ar206 q4 q5 bw bm ws ms h208 n0 Z208 kw km ca206 X209 G210 G211 V212 V213 V208p hl h3 (hbw ⟨hB0, hB1, hB2⟩)) X209 (hw _ (List.mem_of_getElem? (i := 63) rfl)) (hw _ (List.mem_of_getElem? (i := 64) rfl)) (hw _ (List.mem_of_getElem? (i := 66) rfl)) (hw _ (List.mem_of_getElem? (i := 65) rfl)) (hw _ (List.mem_of_getElem? (i := 7) rfl)) (hw _ (List.mem_of_getElem? (i := 67) rfl)) at_161 rfl rfl (lenOf pd_9 rfl) (Nat.le_of_eq rfl) (by decide) (by decide) (by decide) (by decide) (by decide) (by decide) (by decide) rfl ?_
          intro v214 T214 h214 st214 hq214
          obtain ⟨rfl, hh214⟩ := hq214
          rw [hh214] at st214
          refine E_iload (pc' := 166) cx st214 at_164 rfl rfl ?_
          refine E_icmp_neN (pc' := 169) cx st214 at_166 rfl (if_neg (fun z => hv_no c197 ((hA _).mp z).2.1)) ?_
          refine E_iconst (pc' := 170) cx st214 (1 : Int32) at_169 rfl rfl ?_
          refine E_goto (pc' := 174) cx st214 at_170 (by decide) (by decide) ?_
          refine E_ireturn (t := .boolean) cx st214 at_174 rfl (by simp) rfl (by decide) (by decide) ?_
          exact rfl
        · refine E_if_neY (pc' := 131) cx st198 at_125 (by decide) (by decide) c199 ?_
          refine E_new (pc' := 134) (kc' := 2) (ks' := 5) cx st198 (hw _ (List.mem_of_getElem? (i := 5) rfl)) (hw _ (List.mem_of_getElem? (i := 6) rfl)) (hw _ (List.mem_of_getElem? (i := 7) rfl)) at_131 (by decide) (by decide) (by decide) (by decide) rfl ?_
          intro T215 h215 ob215 eq215 st215 E215 X215 D215
          have g_ob215 : n0 ≤ ob215 := by rw [eq215]; exact Z127
          have ne_ar124_ob215 : ar124 ≠ ob215 := by rw [eq215]; exact Nat.ne_of_lt V127p.lt
          have Z215 : n0 ≤ h215.size := Nat.le_trans Z127 E215.1
          have F215_words : Fld Z h215 ob215 "com/example/flat_planner/flatplanner/AtomMask" "words" "[I" .null := D215 (Or.inr (hw _ (List.mem_of_getElem? (i := 51) rfl))) (ty := (.array .int)) (by decide)
          have F215_masks : Fld Z h215 ob215 "com/example/flat_planner/flatplanner/AtomMask" "masks" "[J" .null := D215 (Or.inr (hw _ (List.mem_of_getElem? (i := 62) rfl))) (ty := (.array .long)) (by decide)
          refine E_dup (pc' := 135) cx st215 at_134 rfl rfl ?_
          refine E_aload (pc' := 137) cx st215 at_135 rfl rfl rfl ?_
          have V216 : Arv Z h215 ar124 ca124 .int (3 : Int32) [(.int u1), (.int u2), (.int u3)] (.int (0 : Int32)) := (V127p.ext E215)
          have X217 : Exa Z h215 ar124 "[I" := ((((X124.wr W125).wr W126).wr W127).ext E215)
          refine E_callI (pc' := 140) (kc' := 8) (ks' := 23) (W := 1) (a := ob215) (argsL := [(.ref ar124)]) cx st215 [(.ref ob215)] (rm2n3 l Z a0 hw ob215 ar124 u1 u2 u3 h215 n0 Z215 ca124 g_ob215 (Ne.symm ne_ar124_ob215) X215 F215_words F215_masks X217 V216) rfl (hw _ (List.mem_of_getElem? (i := 8) rfl)) (hw _ (List.mem_of_getElem? (i := 9) rfl)) (hw _ (List.mem_of_getElem? (i := 7) rfl)) (hw _ (List.mem_of_getElem? (i := 10) rfl)) at_137 rfl rfl (lenOf pd_4 rfl) (Nat.le_of_eq rfl) (by decide) (by decide) (by decide) (by decide) (by decide) (by decide) (by decide) rfl ?_
          intro v218 T218 h218 st218 hq218
          obtain ⟨rfl, Kc, bw, bm, kw, km, ws, ms, hl, h3, G1, G2, V1, V2, sz1, sz2, hbw, hA, hN⟩ := hq218
          have Z218 : n0 ≤ h218.size := Nat.le_trans Z215 Kc.1
          have ne_ar124_bw : ar124 ≠ bw := Nat.ne_of_lt (Nat.lt_of_lt_of_le V216.lt sz1)
          have ne_ob215_bw : ob215 ≠ bw := Nat.ne_of_lt (Nat.lt_of_lt_of_le X215.lt sz1)
          have ne_ar124_bm : ar124 ≠ bm := Nat.ne_of_lt (Nat.lt_of_lt_of_le V216.lt sz2)
          have ne_ob215_bm : ob215 ≠ bm := Nat.ne_of_lt (Nat.lt_of_lt_of_le X215.lt sz2)
          refine E_astore (pc' := 142) (L' := #[.val (.int p0), .val (.int p1), .val (.int p2), .val (.int p3), .val (.long q4), .second, .val (.long q5), .second, .val (.int u1), .val (.int u2), .val (.int u3), .val (.int (3 : Int32)), .val (.ref ar124), .val (.int (0 : Int32)), .val (.ref ob215), .unset]) cx st218 at_140 rfl rfl rfl ?_
          refine E_iconst (pc' := 143) cx st218 (2 : Int32) at_142 rfl rfl ?_
          have V219 : Arv Z h218 ar124 ca124 .int (3 : Int32) [(.int u1), (.int u2), (.int u3)] (.int (0 : Int32)) := (V216.keep Kc (ninS ne_ar124_ob215 nin0))
          have X220 : Exa Z h218 ob215 "com/example/flat_planner/flatplanner/AtomMask" := (X215.keep Kc)
          refine E_newP (pc' := 145) (kc' := 9) (ks' := 25) (cap := 2) cx st218 (hw _ (List.mem_of_getElem? (i := 37) rfl)) at_143 (by decide) (by decide) (by decide) (by decide) (by decide) (by decide) (by decide) rfl (ad := "[J") (by decide) ?_
          intro T221 h221 ca221 ar221 eq221 st221 E221 V221 X221
          have g_ar221 : n0 ≤ ar221 := by rw [eq221]; exact Z218
          have ne_ar124_ar221 : ar124 ≠ ar221 := by rw [eq221]; exact Nat.ne_of_lt V219.lt
          have ne_ob215_ar221 : ob215 ≠ ar221 := by rw [eq221]; exact Nat.ne_of_lt X220.lt
          have ne_bw_ar221 : bw ≠ ar221 := by rw [eq221]; exact Nat.ne_of_lt V1.lt
          have ne_bm_ar221 : bm ≠ ar221 := by rw [eq221]; exact Nat.ne_of_lt V2.lt
          have Z221 : n0 ≤ h221.size := Nat.le_trans Z218 E221.1
          have V221p : Arv Z h221 ar221 ca221 .long (2 : Int32) [(.long (0 : Int64)), (.long (0 : Int64))] (.long (0 : Int64)) := V221.pad (pad_rep [] (.long (0 : Int64)) 2)
          refine E_dup (pc' := 146) cx st221 at_145 rfl rfl ?_
          refine E_iconst (pc' := 147) cx st221 (0 : Int32) at_146 rfl rfl ?_
          refine E_lload (pc' := 149) cx st221 at_147 rfl rfl ?_
          refine E_lastore (pc' := 150) (i := 0) cx st221 V221p ⟨by decide, by decide⟩ rfl (Nat.le_of_ble_eq_true rfl) g_ar221 at_149 rfl ?_
          intro T222 h222 st222 W222 V222
          have Z222 : n0 ≤ h222.size := Nat.le_trans Z221 (Keep.of_wr W222).1
          have V222p : Arv Z h222 ar221 ca221 .long (2 : Int32) [(.long q4), (.long (0 : Int64))] (.long (0 : Int64)) := V222
          refine E_dup (pc' := 151) cx st222 at_150 rfl rfl ?_
          refine E_iconst (pc' := 152) cx st222 (1 : Int32) at_151 rfl rfl ?_
          refine E_lload (pc' := 154) cx st222 at_152 rfl rfl ?_
          refine E_lastore (pc' := 155) (i := 1) cx st222 V222p ⟨by decide, by decide⟩ rfl (Nat.le_of_ble_eq_true rfl) g_ar221 at_154 rfl ?_
          intro T223 h223 st223 W223 V223
          have Z223 : n0 ≤ h223.size := Nat.le_trans Z222 (Keep.of_wr W223).1
          have V223p : Arv Z h223 ar221 ca221 .long (2 : Int32) [(.long q4), (.long q5)] (.long (0 : Int64)) := V223
          refine E_astore (pc' := 157) (L' := #[.val (.int p0), .val (.int p1), .val (.int p2), .val (.int p3), .val (.long q4), .second, .val (.long q5), .second, .val (.int u1), .val (.int u2), .val (.int u3), .val (.int (3 : Int32)), .val (.ref ar124), .val (.int (0 : Int32)), .val (.ref ob215), .val (.ref ar221)]) cx st223 at_155 rfl rfl rfl ?_
          refine E_aload (pc' := 159) cx st223 at_157 rfl rfl rfl ?_
          refine E_aload (pc' := 161) cx st223 at_159 rfl rfl rfl ?_
          have X224 : Exa Z h223 ob215 "com/example/flat_planner/flatplanner/AtomMask" := (((X220.ext E221).wr W222).wr W223)
          have G225 : Fld Z h223 ob215 "com/example/flat_planner/flatplanner/AtomMask" "words" "[I" (.ref bw) := (((G1.ext E221).other W222 (Or.inl ne_ob215_ar221)).other W223 (Or.inl ne_ob215_ar221))
          have G226 : Fld Z h223 ob215 "com/example/flat_planner/flatplanner/AtomMask" "masks" "[J" (.ref bm) := (((G2.ext E221).other W222 (Or.inl ne_ob215_ar221)).other W223 (Or.inl ne_ob215_ar221))
          have V227 : Arv Z h223 bw kw .int (Int32.ofNat ws.length) (ws.map Value.int) (.int (0 : Int32)) := (((V1.ext E221).other W222 ne_bw_ar221).other W223 ne_bw_ar221)
          have V228 : Arv Z h223 bm km .long (Int32.ofNat ws.length) (ms.map Value.long) (.long (0 : Int64)) := (((V2.ext E221).other W222 ne_bm_ar221).other W223 ne_bm_ar221)
          refine E_callV (pc' := 164) (kc' := 9) (ks' := 25) (W := 0) (a := ob215) (argsL := [(.ref ar221)]) cx st223 [] (rmA l Z a0 hw ob215 ar221 q4 q5 bw bm ws ms h223 n0 Z223 kw km ca221 X224 G225 G226 V227 V228 V223p hl h3 (hbw ⟨hB0, hB1, hB2⟩)) X224 (hw _ (List.mem_of_getElem? (i := 63) rfl)) (hw _ (List.mem_of_getElem? (i := 64) rfl)) (hw _ (List.mem_of_getElem? (i := 66) rfl)) (hw _ (List.mem_of_getElem? (i := 65) rfl)) (hw _ (List.mem_of_getElem? (i := 7) rfl)) (hw _ (List.mem_of_getElem? (i := 67) rfl)) at_161 rfl rfl (lenOf pd_9 rfl) (Nat.le_of_eq rfl) (by decide) (by decide) (by decide) (by decide) (by decide) (by decide) (by decide) rfl ?_
          intro v229 T229 h229 st229 hq229
          obtain ⟨rfl, hh229⟩ := hq229
          rw [hh229] at st229
          refine E_iload (pc' := 166) cx st229 at_164 rfl rfl ?_
          refine E_icmp_neN (pc' := 169) cx st229 at_166 rfl (if_neg (fun z => hv_no c197 ((hA _).mp z).2.1)) ?_
          refine E_iconst (pc' := 170) cx st229 (1 : Int32) at_169 rfl rfl ?_
          refine E_goto (pc' := 174) cx st229 at_170 (by decide) (by decide) ?_
          refine E_ireturn (t := .boolean) cx st229 at_174 rfl (by simp) rfl (by decide) (by decide) ?_
          exact rfl
      · refine E_if_neY (pc' := 110) cx st196 at_104 (by decide) (by decide) c197 ?_
        refine E_iload (pc' := 112) cx st196 at_110 rfl rfl ?_
        refine E_iconst (pc' := 113) cx st196 (3 : Int32) at_112 rfl rfl ?_
        refine E_icmp_ltN (pc' := 116) cx st196 at_113 rfl (by decide) ?_
        refine E_lload (pc' := 118) cx st196 at_116 rfl rfl ?_
        refine E_lload (pc' := 120) cx st196 at_118 rfl rfl ?_
        refine E_iload (pc' := 122) cx st196 at_120 rfl rfl ?_
        refine E_callS (pc' := 125) (kc' := 1) (ks' := 3) (W := 0) (argsL := [(.long q4), (.long q5), (.int u3)]) cx st196 [] (rm1 l Z a0 hw q4 q5 u3 h127 n0 Z127 hB2) (hw _ (List.mem_of_getElem? (i := 1) rfl)) (hw _ (List.mem_of_getElem? (i := 2) rfl)) (hw _ (List.mem_of_getElem? (i := 3) rfl)) (hw _ (List.mem_of_getElem? (i := 4) rfl)) at_122 rfl rfl (lenOf pd_10 rfl) (Nat.le_of_eq rfl) (by decide) (by decide) (by decide) (by decide) (by decide) (by decide) (by decide) rfl ?_
        intro v230 T230 h230 st230 hq230
        obtain ⟨rfl, hh230⟩ := hq230
        rw [hh230] at st230
        by_cases c231 : (hv [q4, q5] u3) = (0 : Int32)
        · refine E_if_neN (pc' := 128) cx st230 at_125 rfl c231 ?_
          refine E_iconst (pc' := 129) cx st230 (0 : Int32) at_128 rfl rfl ?_
          refine E_istore (pc' := 131) (L' := #[.val (.int p0), .val (.int p1), .val (.int p2), .val (.int p3), .val (.long q4), .second, .val (.long q5), .second, .val (.int u1), .val (.int u2), .val (.int u3), .val (.int (3 : Int32)), .val (.ref ar124), .val (.int (0 : Int32)), .unset, .unset]) cx st230 at_129 rfl rfl ?_
          refine E_new (pc' := 134) (kc' := 2) (ks' := 5) cx st230 (hw _ (List.mem_of_getElem? (i := 5) rfl)) (hw _ (List.mem_of_getElem? (i := 6) rfl)) (hw _ (List.mem_of_getElem? (i := 7) rfl)) at_131 (by decide) (by decide) (by decide) (by decide) rfl ?_
          intro T232 h232 ob232 eq232 st232 E232 X232 D232
          have g_ob232 : n0 ≤ ob232 := by rw [eq232]; exact Z127
          have ne_ar124_ob232 : ar124 ≠ ob232 := by rw [eq232]; exact Nat.ne_of_lt V127p.lt
          have Z232 : n0 ≤ h232.size := Nat.le_trans Z127 E232.1
          have F232_words : Fld Z h232 ob232 "com/example/flat_planner/flatplanner/AtomMask" "words" "[I" .null := D232 (Or.inr (hw _ (List.mem_of_getElem? (i := 51) rfl))) (ty := (.array .int)) (by decide)
          have F232_masks : Fld Z h232 ob232 "com/example/flat_planner/flatplanner/AtomMask" "masks" "[J" .null := D232 (Or.inr (hw _ (List.mem_of_getElem? (i := 62) rfl))) (ty := (.array .long)) (by decide)
          refine E_dup (pc' := 135) cx st232 at_134 rfl rfl ?_
          refine E_aload (pc' := 137) cx st232 at_135 rfl rfl rfl ?_
          have V233 : Arv Z h232 ar124 ca124 .int (3 : Int32) [(.int u1), (.int u2), (.int u3)] (.int (0 : Int32)) := (V127p.ext E232)
          have X234 : Exa Z h232 ar124 "[I" := ((((X124.wr W125).wr W126).wr W127).ext E232)
          refine E_callI (pc' := 140) (kc' := 8) (ks' := 23) (W := 1) (a := ob232) (argsL := [(.ref ar124)]) cx st232 [(.ref ob232)] (rm2n3 l Z a0 hw ob232 ar124 u1 u2 u3 h232 n0 Z232 ca124 g_ob232 (Ne.symm ne_ar124_ob232) X232 F232_words F232_masks X234 V233) rfl (hw _ (List.mem_of_getElem? (i := 8) rfl)) (hw _ (List.mem_of_getElem? (i := 9) rfl)) (hw _ (List.mem_of_getElem? (i := 7) rfl)) (hw _ (List.mem_of_getElem? (i := 10) rfl)) at_137 rfl rfl (lenOf pd_4 rfl) (Nat.le_of_eq rfl) (by decide) (by decide) (by decide) (by decide) (by decide) (by decide) (by decide) rfl ?_
          intro v235 T235 h235 st235 hq235
          obtain ⟨rfl, Kc, bw, bm, kw, km, ws, ms, hl, h3, G1, G2, V1, V2, sz1, sz2, hbw, hA, hN⟩ := hq235
          have Z235 : n0 ≤ h235.size := Nat.le_trans Z232 Kc.1
          have ne_ar124_bw : ar124 ≠ bw := Nat.ne_of_lt (Nat.lt_of_lt_of_le V233.lt sz1)
          have ne_ob232_bw : ob232 ≠ bw := Nat.ne_of_lt (Nat.lt_of_lt_of_le X232.lt sz1)
          have ne_ar124_bm : ar124 ≠ bm := Nat.ne_of_lt (Nat.lt_of_lt_of_le V233.lt sz2)
          have ne_ob232_bm : ob232 ≠ bm := Nat.ne_of_lt (Nat.lt_of_lt_of_le X232.lt sz2)
          refine E_astore (pc' := 142) (L' := #[.val (.int p0), .val (.int p1), .val (.int p2), .val (.int p3), .val (.long q4), .second, .val (.long q5), .second, .val (.int u1), .val (.int u2), .val (.int u3), .val (.int (3 : Int32)), .val (.ref ar124), .val (.int (0 : Int32)), .val (.ref ob232), .unset]) cx st235 at_140 rfl rfl rfl ?_
          refine E_iconst (pc' := 143) cx st235 (2 : Int32) at_142 rfl rfl ?_
          have V236 : Arv Z h235 ar124 ca124 .int (3 : Int32) [(.int u1), (.int u2), (.int u3)] (.int (0 : Int32)) := (V233.keep Kc (ninS ne_ar124_ob232 nin0))
          have X237 : Exa Z h235 ob232 "com/example/flat_planner/flatplanner/AtomMask" := (X232.keep Kc)
          refine E_newP (pc' := 145) (kc' := 9) (ks' := 25) (cap := 2) cx st235 (hw _ (List.mem_of_getElem? (i := 37) rfl)) at_143 (by decide) (by decide) (by decide) (by decide) (by decide) (by decide) (by decide) rfl (ad := "[J") (by decide) ?_
          intro T238 h238 ca238 ar238 eq238 st238 E238 V238 X238
          have g_ar238 : n0 ≤ ar238 := by rw [eq238]; exact Z235
          have ne_ar124_ar238 : ar124 ≠ ar238 := by rw [eq238]; exact Nat.ne_of_lt V236.lt
          have ne_ob232_ar238 : ob232 ≠ ar238 := by rw [eq238]; exact Nat.ne_of_lt X237.lt
          have ne_bw_ar238 : bw ≠ ar238 := by rw [eq238]; exact Nat.ne_of_lt V1.lt
          have ne_bm_ar238 : bm ≠ ar238 := by rw [eq238]; exact Nat.ne_of_lt V2.lt
          have Z238 : n0 ≤ h238.size := Nat.le_trans Z235 E238.1
          have V238p : Arv Z h238 ar238 ca238 .long (2 : Int32) [(.long (0 : Int64)), (.long (0 : Int64))] (.long (0 : Int64)) := V238.pad (pad_rep [] (.long (0 : Int64)) 2)
          refine E_dup (pc' := 146) cx st238 at_145 rfl rfl ?_
          refine E_iconst (pc' := 147) cx st238 (0 : Int32) at_146 rfl rfl ?_
          refine E_lload (pc' := 149) cx st238 at_147 rfl rfl ?_
          refine E_lastore (pc' := 150) (i := 0) cx st238 V238p ⟨by decide, by decide⟩ rfl (Nat.le_of_ble_eq_true rfl) g_ar238 at_149 rfl ?_
          intro T239 h239 st239 W239 V239
          have Z239 : n0 ≤ h239.size := Nat.le_trans Z238 (Keep.of_wr W239).1
          have V239p : Arv Z h239 ar238 ca238 .long (2 : Int32) [(.long q4), (.long (0 : Int64))] (.long (0 : Int64)) := V239
          refine E_dup (pc' := 151) cx st239 at_150 rfl rfl ?_
          refine E_iconst (pc' := 152) cx st239 (1 : Int32) at_151 rfl rfl ?_
          refine E_lload (pc' := 154) cx st239 at_152 rfl rfl ?_
          refine E_lastore (pc' := 155) (i := 1) cx st239 V239p ⟨by decide, by decide⟩ rfl (Nat.le_of_ble_eq_true rfl) g_ar238 at_154 rfl ?_
          intro T240 h240 st240 W240 V240
          have Z240 : n0 ≤ h240.size := Nat.le_trans Z239 (Keep.of_wr W240).1
          have V240p : Arv Z h240 ar238 ca238 .long (2 : Int32) [(.long q4), (.long q5)] (.long (0 : Int64)) := V240
          refine E_astore (pc' := 157) (L' := #[.val (.int p0), .val (.int p1), .val (.int p2), .val (.int p3), .val (.long q4), .second, .val (.long q5), .second, .val (.int u1), .val (.int u2), .val (.int u3), .val (.int (3 : Int32)), .val (.ref ar124), .val (.int (0 : Int32)), .val (.ref ob232), .val (.ref ar238)]) cx st240 at_155 rfl rfl rfl ?_
          refine E_aload (pc' := 159) cx st240 at_157 rfl rfl rfl ?_
          refine E_aload (pc' := 161) cx st240 at_159 rfl rfl rfl ?_
          have X241 : Exa Z h240 ob232 "com/example/flat_planner/flatplanner/AtomMask" := (((X237.ext E238).wr W239).wr W240)
          have G242 : Fld Z h240 ob232 "com/example/flat_planner/flatplanner/AtomMask" "words" "[I" (.ref bw) := (((G1.ext E238).other W239 (Or.inl ne_ob232_ar238)).other W240 (Or.inl ne_ob232_ar238))
          have G243 : Fld Z h240 ob232 "com/example/flat_planner/flatplanner/AtomMask" "masks" "[J" (.ref bm) := (((G2.ext E238).other W239 (Or.inl ne_ob232_ar238)).other W240 (Or.inl ne_ob232_ar238))
          have V244 : Arv Z h240 bw kw .int (Int32.ofNat ws.length) (ws.map Value.int) (.int (0 : Int32)) := (((V1.ext E238).other W239 ne_bw_ar238).other W240 ne_bw_ar238)
          have V245 : Arv Z h240 bm km .long (Int32.ofNat ws.length) (ms.map Value.long) (.long (0 : Int64)) := (((V2.ext E238).other W239 ne_bm_ar238).other W240 ne_bm_ar238)
          refine E_callV (pc' := 164) (kc' := 9) (ks' := 25) (W := 0) (a := ob232) (argsL := [(.ref ar238)]) cx st240 [] (rmA l Z a0 hw ob232 ar238 q4 q5 bw bm ws ms h240 n0 Z240 kw km ca238 X241 G242 G243 V244 V245 V240p hl h3 (hbw ⟨hB0, hB1, hB2⟩)) X241 (hw _ (List.mem_of_getElem? (i := 63) rfl)) (hw _ (List.mem_of_getElem? (i := 64) rfl)) (hw _ (List.mem_of_getElem? (i := 66) rfl)) (hw _ (List.mem_of_getElem? (i := 65) rfl)) (hw _ (List.mem_of_getElem? (i := 7) rfl)) (hw _ (List.mem_of_getElem? (i := 67) rfl)) at_161 rfl rfl (lenOf pd_9 rfl) (Nat.le_of_eq rfl) (by decide) (by decide) (by decide) (by decide) (by decide) (by decide) (by decide) rfl ?_
          intro v246 T246 h246 st246 hq246
          obtain ⟨rfl, hh246⟩ := hq246
          rw [hh246] at st246
          refine E_iload (pc' := 166) cx st246 at_164 rfl rfl ?_
          refine E_icmp_neN (pc' := 169) cx st246 at_166 rfl (if_neg (fun z => hv_no c231 ((hA _).mp z).2.2)) ?_
          refine E_iconst (pc' := 170) cx st246 (1 : Int32) at_169 rfl rfl ?_
          refine E_goto (pc' := 174) cx st246 at_170 (by decide) (by decide) ?_
          refine E_ireturn (t := .boolean) cx st246 at_174 rfl (by simp) rfl (by decide) (by decide) ?_
          exact rfl
        · refine E_if_neY (pc' := 131) cx st230 at_125 (by decide) (by decide) c231 ?_
          refine E_new (pc' := 134) (kc' := 2) (ks' := 5) cx st230 (hw _ (List.mem_of_getElem? (i := 5) rfl)) (hw _ (List.mem_of_getElem? (i := 6) rfl)) (hw _ (List.mem_of_getElem? (i := 7) rfl)) at_131 (by decide) (by decide) (by decide) (by decide) rfl ?_
          intro T247 h247 ob247 eq247 st247 E247 X247 D247
          have g_ob247 : n0 ≤ ob247 := by rw [eq247]; exact Z127
          have ne_ar124_ob247 : ar124 ≠ ob247 := by rw [eq247]; exact Nat.ne_of_lt V127p.lt
          have Z247 : n0 ≤ h247.size := Nat.le_trans Z127 E247.1
          have F247_words : Fld Z h247 ob247 "com/example/flat_planner/flatplanner/AtomMask" "words" "[I" .null := D247 (Or.inr (hw _ (List.mem_of_getElem? (i := 51) rfl))) (ty := (.array .int)) (by decide)
          have F247_masks : Fld Z h247 ob247 "com/example/flat_planner/flatplanner/AtomMask" "masks" "[J" .null := D247 (Or.inr (hw _ (List.mem_of_getElem? (i := 62) rfl))) (ty := (.array .long)) (by decide)
          refine E_dup (pc' := 135) cx st247 at_134 rfl rfl ?_
          refine E_aload (pc' := 137) cx st247 at_135 rfl rfl rfl ?_
          have V248 : Arv Z h247 ar124 ca124 .int (3 : Int32) [(.int u1), (.int u2), (.int u3)] (.int (0 : Int32)) := (V127p.ext E247)
          have X249 : Exa Z h247 ar124 "[I" := ((((X124.wr W125).wr W126).wr W127).ext E247)
          refine E_callI (pc' := 140) (kc' := 8) (ks' := 23) (W := 1) (a := ob247) (argsL := [(.ref ar124)]) cx st247 [(.ref ob247)] (rm2n3 l Z a0 hw ob247 ar124 u1 u2 u3 h247 n0 Z247 ca124 g_ob247 (Ne.symm ne_ar124_ob247) X247 F247_words F247_masks X249 V248) rfl (hw _ (List.mem_of_getElem? (i := 8) rfl)) (hw _ (List.mem_of_getElem? (i := 9) rfl)) (hw _ (List.mem_of_getElem? (i := 7) rfl)) (hw _ (List.mem_of_getElem? (i := 10) rfl)) at_137 rfl rfl (lenOf pd_4 rfl) (Nat.le_of_eq rfl) (by decide) (by decide) (by decide) (by decide) (by decide) (by decide) (by decide) rfl ?_
          intro v250 T250 h250 st250 hq250
          obtain ⟨rfl, Kc, bw, bm, kw, km, ws, ms, hl, h3, G1, G2, V1, V2, sz1, sz2, hbw, hA, hN⟩ := hq250
          have Z250 : n0 ≤ h250.size := Nat.le_trans Z247 Kc.1
          have ne_ar124_bw : ar124 ≠ bw := Nat.ne_of_lt (Nat.lt_of_lt_of_le V248.lt sz1)
          have ne_ob247_bw : ob247 ≠ bw := Nat.ne_of_lt (Nat.lt_of_lt_of_le X247.lt sz1)
          have ne_ar124_bm : ar124 ≠ bm := Nat.ne_of_lt (Nat.lt_of_lt_of_le V248.lt sz2)
          have ne_ob247_bm : ob247 ≠ bm := Nat.ne_of_lt (Nat.lt_of_lt_of_le X247.lt sz2)
          refine E_astore (pc' := 142) (L' := #[.val (.int p0), .val (.int p1), .val (.int p2), .val (.int p3), .val (.long q4), .second, .val (.long q5), .second, .val (.int u1), .val (.int u2), .val (.int u3), .val (.int (3 : Int32)), .val (.ref ar124), .val (.int (1 : Int32)), .val (.ref ob247), .unset]) cx st250 at_140 rfl rfl rfl ?_
          refine E_iconst (pc' := 143) cx st250 (2 : Int32) at_142 rfl rfl ?_
          have V251 : Arv Z h250 ar124 ca124 .int (3 : Int32) [(.int u1), (.int u2), (.int u3)] (.int (0 : Int32)) := (V248.keep Kc (ninS ne_ar124_ob247 nin0))
          have X252 : Exa Z h250 ob247 "com/example/flat_planner/flatplanner/AtomMask" := (X247.keep Kc)
          refine E_newP (pc' := 145) (kc' := 9) (ks' := 25) (cap := 2) cx st250 (hw _ (List.mem_of_getElem? (i := 37) rfl)) at_143 (by decide) (by decide) (by decide) (by decide) (by decide) (by decide) (by decide) rfl (ad := "[J") (by decide) ?_
          intro T253 h253 ca253 ar253 eq253 st253 E253 V253 X253
          have g_ar253 : n0 ≤ ar253 := by rw [eq253]; exact Z250
          have ne_ar124_ar253 : ar124 ≠ ar253 := by rw [eq253]; exact Nat.ne_of_lt V251.lt
          have ne_ob247_ar253 : ob247 ≠ ar253 := by rw [eq253]; exact Nat.ne_of_lt X252.lt
          have ne_bw_ar253 : bw ≠ ar253 := by rw [eq253]; exact Nat.ne_of_lt V1.lt
          have ne_bm_ar253 : bm ≠ ar253 := by rw [eq253]; exact Nat.ne_of_lt V2.lt
          have Z253 : n0 ≤ h253.size := Nat.le_trans Z250 E253.1
          have V253p : Arv Z h253 ar253 ca253 .long (2 : Int32) [(.long (0 : Int64)), (.long (0 : Int64))] (.long (0 : Int64)) := V253.pad (pad_rep [] (.long (0 : Int64)) 2)
          refine E_dup (pc' := 146) cx st253 at_145 rfl rfl ?_
          refine E_iconst (pc' := 147) cx st253 (0 : Int32) at_146 rfl rfl ?_
          refine E_lload (pc' := 149) cx st253 at_147 rfl rfl ?_
          refine E_lastore (pc' := 150) (i := 0) cx st253 V253p ⟨by decide, by decide⟩ rfl (Nat.le_of_ble_eq_true rfl) g_ar253 at_149 rfl ?_
          intro T254 h254 st254 W254 V254
          have Z254 : n0 ≤ h254.size := Nat.le_trans Z253 (Keep.of_wr W254).1
          have V254p : Arv Z h254 ar253 ca253 .long (2 : Int32) [(.long q4), (.long (0 : Int64))] (.long (0 : Int64)) := V254
          refine E_dup (pc' := 151) cx st254 at_150 rfl rfl ?_
          refine E_iconst (pc' := 152) cx st254 (1 : Int32) at_151 rfl rfl ?_
          refine E_lload (pc' := 154) cx st254 at_152 rfl rfl ?_
          refine E_lastore (pc' := 155) (i := 1) cx st254 V254p ⟨by decide, by decide⟩ rfl (Nat.le_of_ble_eq_true rfl) g_ar253 at_154 rfl ?_
          intro T255 h255 st255 W255 V255
          have Z255 : n0 ≤ h255.size := Nat.le_trans Z254 (Keep.of_wr W255).1
          have V255p : Arv Z h255 ar253 ca253 .long (2 : Int32) [(.long q4), (.long q5)] (.long (0 : Int64)) := V255
          refine E_astore (pc' := 157) (L' := #[.val (.int p0), .val (.int p1), .val (.int p2), .val (.int p3), .val (.long q4), .second, .val (.long q5), .second, .val (.int u1), .val (.int u2), .val (.int u3), .val (.int (3 : Int32)), .val (.ref ar124), .val (.int (1 : Int32)), .val (.ref ob247), .val (.ref ar253)]) cx st255 at_155 rfl rfl rfl ?_
          refine E_aload (pc' := 159) cx st255 at_157 rfl rfl rfl ?_
          refine E_aload (pc' := 161) cx st255 at_159 rfl rfl rfl ?_
          have X256 : Exa Z h255 ob247 "com/example/flat_planner/flatplanner/AtomMask" := (((X252.ext E253).wr W254).wr W255)
          have G257 : Fld Z h255 ob247 "com/example/flat_planner/flatplanner/AtomMask" "words" "[I" (.ref bw) := (((G1.ext E253).other W254 (Or.inl ne_ob247_ar253)).other W255 (Or.inl ne_ob247_ar253))
          have G258 : Fld Z h255 ob247 "com/example/flat_planner/flatplanner/AtomMask" "masks" "[J" (.ref bm) := (((G2.ext E253).other W254 (Or.inl ne_ob247_ar253)).other W255 (Or.inl ne_ob247_ar253))
          have V259 : Arv Z h255 bw kw .int (Int32.ofNat ws.length) (ws.map Value.int) (.int (0 : Int32)) := (((V1.ext E253).other W254 ne_bw_ar253).other W255 ne_bw_ar253)
          have V260 : Arv Z h255 bm km .long (Int32.ofNat ws.length) (ms.map Value.long) (.long (0 : Int64)) := (((V2.ext E253).other W254 ne_bm_ar253).other W255 ne_bm_ar253)
          refine E_callV (pc' := 164) (kc' := 9) (ks' := 25) (W := 0) (a := ob247) (argsL := [(.ref ar253)]) cx st255 [] (rmA l Z a0 hw ob247 ar253 q4 q5 bw bm ws ms h255 n0 Z255 kw km ca253 X256 G257 G258 V259 V260 V255p hl h3 (hbw ⟨hB0, hB1, hB2⟩)) X256 (hw _ (List.mem_of_getElem? (i := 63) rfl)) (hw _ (List.mem_of_getElem? (i := 64) rfl)) (hw _ (List.mem_of_getElem? (i := 66) rfl)) (hw _ (List.mem_of_getElem? (i := 65) rfl)) (hw _ (List.mem_of_getElem? (i := 7) rfl)) (hw _ (List.mem_of_getElem? (i := 67) rfl)) at_161 rfl rfl (lenOf pd_9 rfl) (Nat.le_of_eq rfl) (by decide) (by decide) (by decide) (by decide) (by decide) (by decide) (by decide) rfl ?_
          intro v261 T261 h261 st261 hq261
          obtain ⟨rfl, hh261⟩ := hq261
          rw [hh261] at st261
          refine E_iload (pc' := 166) cx st261 at_164 rfl rfl ?_
          refine E_icmp_neN (pc' := 169) cx st261 at_166 rfl (if_pos ((hA _).mpr ⟨hv_yes c129, hv_yes c197, hv_yes c231⟩)) ?_
          refine E_iconst (pc' := 170) cx st261 (1 : Int32) at_169 rfl rfl ?_
          refine E_goto (pc' := 174) cx st261 at_170 (by decide) (by decide) ?_
          refine E_ireturn (t := .boolean) cx st261 at_174 rfl (by simp) rfl (by decide) (by decide) ?_
          exact rfl
set_option maxRecDepth 65536 in
set_option maxHeartbeats 40000000 in
theorem comes_1 {Post : Tables → Env → Array Value → State → Outcome → State → Prop} (hpost : ∀ tb e args s v u, (limb_1_1.after args s (.returned v) u = true ∧ limb_1_2.after args s (.returned v) u = true ∧ True) → FrameEnd s (.returned v) u (Jvm.fieldLocs frame_1_writes args s ++ Jvm.arrayLocs frame_1_arrays args s ++ Jvm.staticLocs frame_1_statics s) 24 128 → Post tb e args s (.returned v) u) :
    ArmFor flags0 classFile x code maxLocals ret World_1 tables_1 room_1 Calls_1 rest_1 Pre_1 Post := by
  intro l hfl _ _ p e ha hc hk s m args below hf hA hF happ hP
  obtain ⟨hcalls, hrest, hpre⟩ := hP
  obtain ⟨-, -, -, hnamed, -, -, -, hat⟩ := (Spec.applies_iff hf).mp happ
  obtain ⟨hg, hn⟩ := and_e (Cond.before_iff.mp (show (Jvm.Cond.and given_1 narrow_1).before args s = true from hpre))
  obtain ⟨g0, hg⟩ := and_e hg
  obtain ⟨ga0, hg⟩ := and_e hg
  obtain ⟨ga1, hg⟩ := and_e hg
  obtain ⟨ga2, hg⟩ := and_e hg
  obtain ⟨ga3, hg⟩ := and_e hg
  obtain ⟨ga4, hg⟩ := and_e hg
  have ga5 := hg
  obtain ⟨w0, w1, w2, w3, w4, w5, rfl⟩ : ∃ w0 w1 w2 w3 w4 w5 : Value, args = #[w0, w1, w2, w3, w4, w5] := by
    have hs : args.size = 6 := by simpa [Cond.value, given_1] using g0
    obtain ⟨L⟩ := args
    match L, hs with
    | [w0, w1, w2, w3, w4, w5], _ => exact ⟨w0, w1, w2, w3, w4, w5, rfl⟩
  have hw := fun d (hd : d ∈ tables_1) => atoms_spec (ws := Jvm.Cond.code x code maxLocals ret :: tables_1) hat d (List.mem_cons_of_mem _ hd)
  obtain ⟨i0, ei0⟩ := is_v ga0
  obtain rfl : w0 = (.int i0) := Option.some.inj ei0
  obtain ⟨i1, ei1⟩ := is_v ga1
  obtain rfl : w1 = (.int i1) := Option.some.inj ei1
  obtain ⟨i2, ei2⟩ := is_v ga2
  obtain rfl : w2 = (.int i2) := Option.some.inj ei2
  obtain ⟨i3, ei3⟩ := is_v ga3
  obtain rfl : w3 = (.int i3) := Option.some.inj ei3
  obtain ⟨i4, ei4⟩ := isL_v ga4
  obtain rfl : w4 = (.long i4) := Option.some.inj ei4
  obtain ⟨i5, ei5⟩ := isL_v ga5
  obtain rfl : w5 = (.long i5) := Option.some.inj ei5
  obtain ⟨n, o, h1, h2, h3, _, L, rfl, ⟨N, rfl⟩, hq⟩ := rm0 l s _ hw i0 i1 i2 i3 i4 i5 s.heap s.heap.size (Nat.le_refl _) tables_1 p e ha hc hk s m _ below hf ((Spec.applies_iff_loose hf).mp happ).1 ⟨rfl, State.Warmed39.refl s, rfl⟩ trivial
  refine ⟨n, _, h1, h2, h3, hpost _ _ _ _ _ _ ⟨Cond.after_iff.mpr rfl, Cond.after_iff.mpr (eq_i res_at (Term.int_eval (1)) rfl), trivial⟩ ⟨hq.1, hq.2.1, (hq.2.2.sift fun y hy => Or.inr (N y hy)).mono (by decide) (by decide)⟩⟩
theorem main_1_1 : Claimed_1_1 := comes_1 fun _ _ _ _ _ _ h hF => ⟨h.1, hF⟩
theorem main_1_2 : Claimed_1_2 := comes_1 fun _ _ _ _ _ _ h hF => ⟨h.2.1, hF⟩
end Jvm.Pilot.@@N@@
namespace Jvm.Pilot.@@N@@
open Jvm Jvm.ClassFile Sem Op Lib Jvm.Free Jvm.Stand Jvm.Pilot.@@N@@.Jvm.D
/-! MADE BY PROGRAM (witnessworld.py) out of the Statement's table words and the real class files: 16 classes; the members and pool entries that the words name. The judged class is class 1, her method 2. -/
namespace start1
open Jvm.ClassFile
def u (s : String) : CpInfo := .utf8 (stringToUtf16 s)
/-- a pool by its gaps: so many unusable entries, then the entry; so many at the end -/
def gap : Nat → List CpInfo → List CpInfo
  | 0, r => r
  | n + 1, r => .unusable :: gap n r
def poolList (es : List (Nat × CpInfo)) (last : Nat) : List CpInfo := es.foldr (fun e r => gap e.1 (e.2 :: r)) (gap last [])
def pool (es : List (Nat × CpInfo)) (last : Nat) : Array CpInfo := ⟨poolList es last⟩
def fileOf (pool : Array CpInfo) (this : Nat) (attrs : Array Attribute := #[]) (ms : Array MethodInfo := #[]) (fl : Nat := 33) (sup : Nat := 0) (ifs : Array Nat := #[]) (fds : Array FieldInfo := #[]) : ClassFile where
  minorVersion := 0
  majorVersion := 65
  constantPool := pool
  accessFlags := fl
  thisClass := this
  superClass := sup
  interfaces := ifs
  fields := fds
  methods := ms
  attributes := attrs
def plain (name : String) (sup : Option ClassId) : Class where
  name := name
  kind := .ordinary
  loader := none
  accessFlags := 33
  super := sup
  interfaces := #[]
  cf := none
  fields := #[]
  methods := #[]
  instanceTypes := #[]
  staticTypes := #[]
  resolved := #[]
  callSites := []
  init := .initialized
  statics := none
  mirror := none

def pool0 : Array CpInfo := pool [(5, u "<init>"), (0, u "()V"), (1, .class_ 10), (1, u "java/lang/Object"), (85, u "clone"), (0, u "()Ljava/lang/Object;")] 26

def k0c0 : Code := { maxStack := 0, maxLocals := 1, code := object_method_1_code, exceptionTable := #[], attributes := #[] }
def k0m0 : Method := { name := "<init>", desc := "()V", sig := { parameters := [], returnType := none }, accessFlags := 1, code := some k0c0 }
def k0m1 : Method := { name := "clone", desc := "()Ljava/lang/Object;", sig := { parameters := [], returnType := some (.object "java/lang/Object") }, accessFlags := 260, code := none }
/-- java/lang/Object -/
def k0 : Class := { plain "java/lang/Object" none with
  accessFlags := 33
  interfaces := #[]
  cf := some (fileOf pool0 8 #[] #[{ accessFlags := 1, nameIndex := 5, descriptorIndex := 6, attributes := #[] }, { accessFlags := 260, nameIndex := 96, descriptorIndex := 97, attributes := #[] }] 33 0 #[] #[])
  fields := #[]
  methods := #[k0m0, k0m1]
  instanceTypes := #[]
  staticTypes := #[]
  resolved := Array.replicate 124 none
  statics := none }

def pool1 : Array CpInfo := pool [(2, .class_ 4), (1, u "java/lang/Object"), (0, u "<init>"), (0, u "()V"), (0, .methodref 8 9), (0, .class_ 10), (0, .nameAndType 11 12), (0, u "com/example/flat_planner/flatplanner/AtomMaskAllInPinLaw"), (0, u "has"), (0, u "(JJI)Z"), (0, .class_ 14), (0, u "com/example/flat_planner/flatplanner/AtomMask"), (0, .methodref 13 16), (0, .nameAndType 5 17), (0, u "([I)V"), (0, .methodref 13 19), (0, .nameAndType 20 21), (0, u "allIn"), (0, u "([J)Z"), (3, u "law"), (0, u "(IIIIJJ)Z")] 6

def k1m0 : Method := { name := "<init>", desc := "()V", sig := { parameters := [], returnType := none }, accessFlags := 2, code := none }
def k1c1 : Code := { maxStack := 4, maxLocals := 8, code := method_2_code, exceptionTable := #[], attributes := #[] }
def k1m1 : Method := { name := "has", desc := "(JJI)Z", sig := { parameters := [.long, .long, .int], returnType := some .boolean }, accessFlags := 10, code := some k1c1 }
def k1c2 : Code := { maxStack := 5, maxLocals := 16, code := code, exceptionTable := #[], attributes := #[] }
def k1m2 : Method := { name := "law", desc := "(IIIIJJ)Z", sig := { parameters := [.int, .int, .int, .int, .long, .long], returnType := some .boolean }, accessFlags := 9, code := some k1c2 }
/-- com/example/flat_planner/flatplanner/AtomMaskAllInPinLaw -/
def k1 : Class := { plain "com/example/flat_planner/flatplanner/AtomMaskAllInPinLaw" (some 0) with
  accessFlags := 49
  interfaces := #[]
  cf := some (fileOf pool1 8 #[] #[{ accessFlags := 2, nameIndex := 5, descriptorIndex := 6, attributes := #[] }, { accessFlags := 10, nameIndex := 11, descriptorIndex := 12, attributes := #[] }, { accessFlags := 9, nameIndex := 25, descriptorIndex := 26, attributes := #[] }] 49 2 #[] #[])
  fields := #[]
  methods := #[k1m0, k1m1, k1m2]
  instanceTypes := #[]
  staticTypes := #[]
  resolved := Array.replicate 33 none
  statics := none }

def pool2 : Array CpInfo := pool [(1, .methodref 2 3), (0, .class_ 4), (0, .nameAndType 5 6), (0, u "java/lang/Object"), (0, u "<init>"), (0, u "()V"), (0, .methodref 8 9), (0, .class_ 10), (0, .nameAndType 11 12), (0, u "[I"), (0, u "clone"), (0, u "()Ljava/lang/Object;"), (0, .methodref 14 15), (0, .class_ 16), (0, .nameAndType 17 18), (0, u "java/util/Arrays"), (0, u "sort"), (0, u "([I)V"), (0, .methodref 20 21), (0, .class_ 22), (0, .nameAndType 23 24), (0, u "com/example/flat_planner/flatplanner/StateBits"), (0, u "word"), (0, u "(I)I"), (0, .methodref 20 26), (0, .nameAndType 27 28), (0, u "bit"), (0, u "(I)J"), (0, .methodref 14 30), (0, .nameAndType 31 32), (0, u "copyOf"), (0, u "([II)[I"), (0, .fieldref 34 35), (0, .class_ 36), (0, .nameAndType 37 10), (0, u "com/example/flat_planner/flatplanner/AtomMask"), (0, u "words"), (0, .methodref 14 39), (0, .nameAndType 31 40), (0, u "([JI)[J"), (0, .fieldref 34 42), (0, .nameAndType 43 44), (0, u "masks"), (0, u "[J"), (43, u "allIn"), (0, u "([J)Z")] 6

def k2c0 : Code := { maxStack := 6, maxLocals := 11, code := prog_3_method_1_code, exceptionTable := #[], attributes := #[] }
def k2m0 : Method := { name := "<init>", desc := "([I)V", sig := { parameters := [(.array .int)], returnType := none }, accessFlags := 0, code := some k2c0 }
def k2c1 : Code := { maxStack := 4, maxLocals := 3, code := prog_3_method_8_code, exceptionTable := #[], attributes := #[] }
def k2m1 : Method := { name := "allIn", desc := "([J)Z", sig := { parameters := [(.array .long)], returnType := some .boolean }, accessFlags := 0, code := some k2c1 }
/-- com/example/flat_planner/flatplanner/AtomMask -/
def k2 : Class := { plain "com/example/flat_planner/flatplanner/AtomMask" (some 0) with
  accessFlags := 48
  interfaces := #[]
  cf := some (fileOf pool2 34 #[] #[{ accessFlags := 0, nameIndex := 5, descriptorIndex := 18, attributes := #[] }, { accessFlags := 0, nameIndex := 88, descriptorIndex := 89, attributes := #[] }] 48 2 #[] #[{ accessFlags := 18, nameIndex := 37, descriptorIndex := 10, attributes := #[] }, { accessFlags := 18, nameIndex := 43, descriptorIndex := 44, attributes := #[] }])
  fields := #[{ name := "words", type := (.array .int), accessFlags := 18, slot := 0, constantValue := 0 }, { name := "masks", type := (.array .long), accessFlags := 18, slot := 1, constantValue := 0 }]
  methods := #[k2m0, k2m1]
  instanceTypes := #[(.array .int), (.array .long)]
  staticTypes := #[]
  resolved := Array.replicate 96 none
  statics := none }

def pool3 : Array CpInfo := pool [(1, .class_ 2), (0, u "java/lang/Cloneable"), (0, .class_ 4), (0, u "java/lang/Object")] 2

/-- java/lang/Cloneable -/
def k3 : Class := { plain "java/lang/Cloneable" (some 0) with
  accessFlags := 1537
  interfaces := #[]
  cf := some (fileOf pool3 1 #[] #[] 1537 3 #[] #[])
  fields := #[]
  methods := #[]
  instanceTypes := #[]
  staticTypes := #[]
  resolved := Array.replicate 7 none
  statics := none }

def pool4 : Array CpInfo := pool [(2, .class_ 4), (1, u "java/lang/Object"), (0, u "<init>"), (0, u "()V"), (0, .methodref 8 9), (0, .class_ 10), (0, .nameAndType 11 12), (0, u "java/util/DualPivotQuicksort"), (0, u "sort"), (0, u "([IIII)V"), (1, .class_ 16), (1, u "java/util/Arrays"), (57, .class_ 76), (1, u "java/util/Arrays$NaturalOrder"), (32, u "()Ljava/lang/Object;"), (3, .class_ 115), (1, u "java/util/Arrays$LegacyMergeSort"), (1, u "Z"), (10, .nameAndType 129 109), (0, u "clone"), (20, .methodref 151 152), (0, .class_ 153), (0, .nameAndType 154 155), (0, u "java/lang/System"), (0, u "arraycopy"), (0, u "(Ljava/lang/Object;ILjava/lang/Object;II)V"), (146, u "copyOf"), (1, .methodref 305 306), (0, .class_ 307), (0, .nameAndType 308 309), (0, u "java/lang/Math"), (0, u "min"), (0, u "(II)I"), (6, .methodref 317 128), (0, .class_ 318), (0, u "[I"), (0, .methodref 320 128), (0, .class_ 321), (0, u "[J"), (53, .class_ 376), (0, u "java/util/Arrays$ArrayList"), (68, u "$assertionsDisabled"), (269, u "MIN_ARRAY_SORT_GRAN"), (0, u "I"), (2, u "INSERTIONSORT_THRESHOLD"), (6, u "([I)V"), (144, u "([II)[I"), (0, u "([JI)[J"), (102, .class_ 976), (0, u "java/util/Arrays$ArrayItr")] 52

def k4m0 : Method := { name := "<init>", desc := "()V", sig := { parameters := [], returnType := none }, accessFlags := 2, code := none }
def k4c1 : Code := { maxStack := 4, maxLocals := 1, code := jdk_65_method_2_code, exceptionTable := #[], attributes := #[] }
def k4m1 : Method := { name := "sort", desc := "([I)V", sig := { parameters := [(.array .int)], returnType := none }, accessFlags := 9, code := some k4c1 }
def k4c2 : Code := { maxStack := 6, maxLocals := 3, code := jdk_65_method_123_code, exceptionTable := #[], attributes := #[] }
def k4m2 : Method := { name := "copyOf", desc := "([II)[I", sig := { parameters := [(.array .int), .int], returnType := some (.array .int) }, accessFlags := 9, code := some k4c2 }
def k4c3 : Code := { maxStack := 6, maxLocals := 3, code := jdk_65_method_124_code, exceptionTable := #[], attributes := #[] }
def k4m3 : Method := { name := "copyOf", desc := "([JI)[J", sig := { parameters := [(.array .long), .int], returnType := some (.array .long) }, accessFlags := 9, code := some k4c3 }
/-- java/util/Arrays -/
def k4 : Class := { plain "java/util/Arrays" (some 0) with
  accessFlags := 49
  interfaces := #[]
  cf := some (fileOf pool4 14 #[.nestMembers #[975, 375, 113, 74]] #[{ accessFlags := 2, nameIndex := 5, descriptorIndex := 6, attributes := #[] }, { accessFlags := 9, nameIndex := 11, descriptorIndex := 726, attributes := #[] }, { accessFlags := 9, nameIndex := 302, descriptorIndex := 871, attributes := #[] }, { accessFlags := 9, nameIndex := 302, descriptorIndex := 872, attributes := #[] }] 49 2 #[] #[{ accessFlags := 26, nameIndex := 715, descriptorIndex := 716, attributes := #[] }, { accessFlags := 26, nameIndex := 719, descriptorIndex := 716, attributes := #[] }, { accessFlags := 4120, nameIndex := 445, descriptorIndex := 117, attributes := #[] }])
  fields := #[{ name := "MIN_ARRAY_SORT_GRAN", type := .int, accessFlags := 26, slot := 0, constantValue := 0 }, { name := "INSERTIONSORT_THRESHOLD", type := .int, accessFlags := 26, slot := 1, constantValue := 0 }, { name := "$assertionsDisabled", type := .boolean, accessFlags := 4120, slot := 2, constantValue := 0 }]
  methods := #[k4m0, k4m1, k4m2, k4m3]
  instanceTypes := #[]
  staticTypes := #[.int, .int, .boolean]
  resolved := Array.replicate 1029 none
  statics := none }

def pool5 : Array CpInfo := pool [(1, .class_ 2), (0, u "java/util/DualPivotQuicksort"), (5, .class_ 10), (1, u "java/lang/Object"), (0, u "<init>"), (0, u "()V"), (4, .class_ 18), (0, u "java/util/DualPivotQuicksort$Sorter"), (7, .methodref 1 27), (0, .nameAndType 28 29), (0, u "sort"), (0, u "(Ljava/util/DualPivotQuicksort$Sorter;[IIII)V"), (3, u "([IIII)V"), (0, .methodref 1 35), (0, .nameAndType 36 37), (0, u "insertionSort"), (0, u "([III)V"), (30, u "I"), (4, .class_ 74), (0, u "java/util/DualPivotQuicksort$RunMerger"), (10, .class_ 86), (0, u "java/util/DualPivotQuicksort$Merger"), (127, u "MAX_MIXED_INSERTION_SORT_SIZE"), (2, u "MAX_INSERTION_SORT_SIZE"), (1, u "MIN_PARALLEL_SORT_SIZE"), (1, u "MIN_TRY_MERGE_SIZE"), (0, u "MIN_FIRST_RUN_SIZE"), (1, u "MIN_FIRST_RUNS_FACTOR"), (1, u "MAX_RUN_CAPACITY"), (1, u "MIN_RUN_COUNT"), (1, u "MIN_PARALLEL_MERGE_PARTS_SIZE"), (0, u "MIN_BYTE_COUNTING_SORT_SIZE"), (1, u "MIN_SHORT_OR_CHAR_COUNTING_SORT_SIZE"), (1, u "DELTA"), (1, u "MAX_RECURSION_DEPTH"), (1, u "NUM_BYTE_VALUES"), (1, u "MAX_BYTE_INDEX"), (0, u "NUM_CHAR_VALUES"), (0, u "NUM_SHORT_VALUES"), (0, u "MAX_SHORT_INDEX")] 86

def k5m0 : Method := { name := "<init>", desc := "()V", sig := { parameters := [], returnType := none }, accessFlags := 2, code := none }
def k5c1 : Code := { maxStack := 9, maxLocals := 7, code := jdk_2529_method_3_code, exceptionTable := #[], attributes := #[] }
def k5m1 : Method := { name := "sort", desc := "([IIII)V", sig := { parameters := [(.array .int), .int, .int, .int], returnType := none }, accessFlags := 8, code := some k5c1 }
def k5c2 : Code := { maxStack := 6, maxLocals := 21, code := jdk_2529_method_4_code, exceptionTable := #[], attributes := #[] }
def k5m2 : Method := { name := "sort", desc := "(Ljava/util/DualPivotQuicksort$Sorter;[IIII)V", sig := { parameters := [(.object "java/util/DualPivotQuicksort$Sorter"), (.array .int), .int, .int, .int], returnType := none }, accessFlags := 8, code := some k5c2 }
def k5c3 : Code := { maxStack := 4, maxLocals := 6, code := jdk_2529_method_6_code, exceptionTable := #[], attributes := #[] }
def k5m3 : Method := { name := "insertionSort", desc := "([III)V", sig := { parameters := [(.array .int), .int, .int], returnType := none }, accessFlags := 10, code := some k5c3 }
/-- java/util/DualPivotQuicksort -/
def k5 : Class := { plain "java/util/DualPivotQuicksort" (some 0) with
  accessFlags := 48
  interfaces := #[]
  cf := some (fileOf pool5 1 #[.nestMembers #[73, 85, 17]] #[{ accessFlags := 2, nameIndex := 11, descriptorIndex := 12, attributes := #[] }, { accessFlags := 8, nameIndex := 28, descriptorIndex := 33, attributes := #[] }, { accessFlags := 8, nameIndex := 28, descriptorIndex := 29, attributes := #[] }, { accessFlags := 10, nameIndex := 36, descriptorIndex := 37, attributes := #[] }] 48 8 #[] #[{ accessFlags := 26, nameIndex := 214, descriptorIndex := 68, attributes := #[] }, { accessFlags := 26, nameIndex := 217, descriptorIndex := 68, attributes := #[] }, { accessFlags := 26, nameIndex := 219, descriptorIndex := 68, attributes := #[] }, { accessFlags := 26, nameIndex := 221, descriptorIndex := 68, attributes := #[] }, { accessFlags := 26, nameIndex := 222, descriptorIndex := 68, attributes := #[] }, { accessFlags := 26, nameIndex := 224, descriptorIndex := 68, attributes := #[] }, { accessFlags := 26, nameIndex := 226, descriptorIndex := 68, attributes := #[] }, { accessFlags := 26, nameIndex := 228, descriptorIndex := 68, attributes := #[] }, { accessFlags := 26, nameIndex := 230, descriptorIndex := 68, attributes := #[] }, { accessFlags := 26, nameIndex := 231, descriptorIndex := 68, attributes := #[] }, { accessFlags := 26, nameIndex := 233, descriptorIndex := 68, attributes := #[] }, { accessFlags := 26, nameIndex := 235, descriptorIndex := 68, attributes := #[] }, { accessFlags := 26, nameIndex := 237, descriptorIndex := 68, attributes := #[] }, { accessFlags := 26, nameIndex := 239, descriptorIndex := 68, attributes := #[] }, { accessFlags := 26, nameIndex := 241, descriptorIndex := 68, attributes := #[] }, { accessFlags := 26, nameIndex := 242, descriptorIndex := 68, attributes := #[] }, { accessFlags := 26, nameIndex := 243, descriptorIndex := 68, attributes := #[] }, { accessFlags := 26, nameIndex := 244, descriptorIndex := 68, attributes := #[] }])
  fields := #[{ name := "MAX_MIXED_INSERTION_SORT_SIZE", type := .int, accessFlags := 26, slot := 0, constantValue := 0 }, { name := "MAX_INSERTION_SORT_SIZE", type := .int, accessFlags := 26, slot := 1, constantValue := 0 }, { name := "MIN_PARALLEL_SORT_SIZE", type := .int, accessFlags := 26, slot := 2, constantValue := 0 }, { name := "MIN_TRY_MERGE_SIZE", type := .int, accessFlags := 26, slot := 3, constantValue := 0 }, { name := "MIN_FIRST_RUN_SIZE", type := .int, accessFlags := 26, slot := 4, constantValue := 0 }, { name := "MIN_FIRST_RUNS_FACTOR", type := .int, accessFlags := 26, slot := 5, constantValue := 0 }, { name := "MAX_RUN_CAPACITY", type := .int, accessFlags := 26, slot := 6, constantValue := 0 }, { name := "MIN_RUN_COUNT", type := .int, accessFlags := 26, slot := 7, constantValue := 0 }, { name := "MIN_PARALLEL_MERGE_PARTS_SIZE", type := .int, accessFlags := 26, slot := 8, constantValue := 0 }, { name := "MIN_BYTE_COUNTING_SORT_SIZE", type := .int, accessFlags := 26, slot := 9, constantValue := 0 }, { name := "MIN_SHORT_OR_CHAR_COUNTING_SORT_SIZE", type := .int, accessFlags := 26, slot := 10, constantValue := 0 }, { name := "DELTA", type := .int, accessFlags := 26, slot := 11, constantValue := 0 }, { name := "MAX_RECURSION_DEPTH", type := .int, accessFlags := 26, slot := 12, constantValue := 0 }, { name := "NUM_BYTE_VALUES", type := .int, accessFlags := 26, slot := 13, constantValue := 0 }, { name := "MAX_BYTE_INDEX", type := .int, accessFlags := 26, slot := 14, constantValue := 0 }, { name := "NUM_CHAR_VALUES", type := .int, accessFlags := 26, slot := 15, constantValue := 0 }, { name := "NUM_SHORT_VALUES", type := .int, accessFlags := 26, slot := 16, constantValue := 0 }, { name := "MAX_SHORT_INDEX", type := .int, accessFlags := 26, slot := 17, constantValue := 0 }]
  methods := #[k5m0, k5m1, k5m2, k5m3]
  instanceTypes := #[]
  staticTypes := #[.int, .int, .int, .int, .int, .int, .int, .int, .int, .int, .int, .int, .int, .int, .int, .int, .int, .int]
  resolved := Array.replicate 331 none
  statics := none }

def pool6 : Array CpInfo := pool [(2, .class_ 4), (1, u "java/lang/Object"), (0, u "<init>"), (0, u "()V"), (3, .class_ 12), (1, u "com/example/flat_planner/flatplanner/StateBits"), (0, u "word"), (0, u "(I)I"), (2, u "bit"), (0, u "(I)J")] 19

def k6m0 : Method := { name := "<init>", desc := "()V", sig := { parameters := [], returnType := none }, accessFlags := 2, code := none }
def k6c1 : Code := { maxStack := 2, maxLocals := 1, code := prog_27_method_7_code, exceptionTable := #[], attributes := #[] }
def k6m1 : Method := { name := "word", desc := "(I)I", sig := { parameters := [.int], returnType := some .int }, accessFlags := 8, code := some k6c1 }
def k6c2 : Code := { maxStack := 3, maxLocals := 1, code := prog_27_method_8_code, exceptionTable := #[], attributes := #[] }
def k6m2 : Method := { name := "bit", desc := "(I)J", sig := { parameters := [.int], returnType := some .long }, accessFlags := 8, code := some k6c2 }
/-- com/example/flat_planner/flatplanner/StateBits -/
def k6 : Class := { plain "com/example/flat_planner/flatplanner/StateBits" (some 0) with
  accessFlags := 48
  interfaces := #[]
  cf := some (fileOf pool6 10 #[] #[{ accessFlags := 2, nameIndex := 5, descriptorIndex := 6, attributes := #[] }, { accessFlags := 8, nameIndex := 13, descriptorIndex := 14, attributes := #[] }, { accessFlags := 8, nameIndex := 17, descriptorIndex := 18, attributes := #[] }] 48 2 #[] #[])
  fields := #[]
  methods := #[k6m0, k6m1, k6m2]
  instanceTypes := #[]
  staticTypes := #[]
  resolved := Array.replicate 38 none
  statics := none }

def pool7 : Array CpInfo := pool [(1, .class_ 2), (0, u "java/lang/Math"), (1, .class_ 6), (1, u "java/lang/Object"), (0, u "<init>"), (0, u "()V"), (89, .class_ 100), (1, u "java/lang/Math$RandomNumberGeneratorHolder"), (71, u "negativeZeroFloatBits"), (0, u "J"), (2, u "negativeZeroDoubleBits"), (24, u "min"), (43, u "$assertionsDisabled"), (0, u "Z"), (88, u "(II)I"), (2, u "twoToTheDoubleScaleDown"), (0, u "D"), (4, u "twoToTheDoubleScaleUp"), (9, u "E"), (3, u "PI"), (2, u "TAU"), (2, u "DEGREES_TO_RADIANS"), (0, u "RADIANS_TO_DEGREES")] 94

def k7m0 : Method := { name := "<init>", desc := "()V", sig := { parameters := [], returnType := none }, accessFlags := 2, code := none }
def k7c1 : Code := { maxStack := 2, maxLocals := 2, code := jdk_29_method_69_code, exceptionTable := #[], attributes := #[] }
def k7m1 : Method := { name := "min", desc := "(II)I", sig := { parameters := [.int, .int], returnType := some .int }, accessFlags := 9, code := some k7c1 }
/-- java/lang/Math -/
def k7 : Class := { plain "java/lang/Math" (some 0) with
  accessFlags := 49
  interfaces := #[]
  cf := some (fileOf pool7 1 #[.nestMembers #[98]] #[{ accessFlags := 2, nameIndex := 7, descriptorIndex := 8, attributes := #[] }, { accessFlags := 9, nameIndex := 201, descriptorIndex := 335, attributes := #[] }] 49 4 #[] #[{ accessFlags := 25, nameIndex := 354, descriptorIndex := 339, attributes := #[] }, { accessFlags := 25, nameIndex := 358, descriptorIndex := 339, attributes := #[] }, { accessFlags := 25, nameIndex := 361, descriptorIndex := 339, attributes := #[] }, { accessFlags := 26, nameIndex := 364, descriptorIndex := 339, attributes := #[] }, { accessFlags := 26, nameIndex := 365, descriptorIndex := 339, attributes := #[] }, { accessFlags := 26, nameIndex := 172, descriptorIndex := 173, attributes := #[] }, { accessFlags := 26, nameIndex := 176, descriptorIndex := 173, attributes := #[] }, { accessFlags := 8, nameIndex := 344, descriptorIndex := 339, attributes := #[] }, { accessFlags := 8, nameIndex := 338, descriptorIndex := 339, attributes := #[] }, { accessFlags := 4120, nameIndex := 245, descriptorIndex := 246, attributes := #[] }])
  fields := #[{ name := "E", type := .double, accessFlags := 25, slot := 0, constantValue := 0 }, { name := "PI", type := .double, accessFlags := 25, slot := 1, constantValue := 0 }, { name := "TAU", type := .double, accessFlags := 25, slot := 2, constantValue := 0 }, { name := "DEGREES_TO_RADIANS", type := .double, accessFlags := 26, slot := 3, constantValue := 0 }, { name := "RADIANS_TO_DEGREES", type := .double, accessFlags := 26, slot := 4, constantValue := 0 }, { name := "negativeZeroFloatBits", type := .long, accessFlags := 26, slot := 5, constantValue := 0 }, { name := "negativeZeroDoubleBits", type := .long, accessFlags := 26, slot := 6, constantValue := 0 }, { name := "twoToTheDoubleScaleUp", type := .double, accessFlags := 8, slot := 7, constantValue := 0 }, { name := "twoToTheDoubleScaleDown", type := .double, accessFlags := 8, slot := 8, constantValue := 0 }, { name := "$assertionsDisabled", type := .boolean, accessFlags := 4120, slot := 9, constantValue := 0 }]
  methods := #[k7m0, k7m1]
  instanceTypes := #[]
  staticTypes := #[.double, .double, .double, .double, .double, .long, .long, .double, .double, .boolean]
  resolved := Array.replicate 460 none
  statics := none }

def pool8 : Array CpInfo := pool [(2, .class_ 4), (1, u "java/lang/Object"), (0, u "<init>"), (0, u "()V"), (1, .class_ 10), (1, u "java/lang/System"), (0, u "allowSecurityManager"), (0, u "I"), (16, u "cons"), (0, u "Ljava/io/Console;"), (77, .class_ 110), (1, u "java/lang/System$CallersHolder"), (43, u "initialErrStream"), (0, u "Ljava/io/PrintStream;"), (19, u "security"), (0, u "Ljava/lang/SecurityManager;"), (31, .class_ 209), (0, u "java/lang/System$1"), (7, u "props"), (0, u "Ljava/util/Properties;"), (2, u "lineSeparator"), (0, u "Ljava/lang/String;"), (96, .class_ 321), (1, u "java/lang/System$LoggerFinder"), (5, .class_ 328), (0, u "java/lang/System$Logger"), (67, u "err"), (2, u "out"), (91, u "notSupportedJnuEncoding"), (15, u "in"), (17, u "initialIn"), (0, u "Ljava/io/InputStream;"), (35, u "bootLayer"), (0, u "Ljava/lang/ModuleLayer;"), (99, .class_ 664), (0, u "java/lang/System$2"), (9, u "NEVER"), (2, u "MAYBE"), (49, u "arraycopy"), (0, u "(Ljava/lang/Object;ILjava/lang/Object;II)V"), (72, .class_ 802), (0, u "java/lang/System$Logger$Level")] 31

def k8m0 : Method := { name := "<init>", desc := "()V", sig := { parameters := [], returnType := none }, accessFlags := 2, code := none }
def k8m1 : Method := { name := "arraycopy", desc := "(Ljava/lang/Object;ILjava/lang/Object;II)V", sig := { parameters := [(.object "java/lang/Object"), .int, (.object "java/lang/Object"), .int, .int], returnType := none }, accessFlags := 265, code := none }
/-- java/lang/System -/
def k8 : Class := { plain "java/lang/System" (some 0) with
  accessFlags := 49
  interfaces := #[]
  cf := some (fileOf pool8 8 #[.nestMembers #[319, 327, 801, 108, 663, 208]] #[{ accessFlags := 2, nameIndex := 5, descriptorIndex := 6, attributes := #[] }, { accessFlags := 265, nameIndex := 727, descriptorIndex := 728, attributes := #[] }] 49 2 #[] #[{ accessFlags := 25, nameIndex := 507, descriptorIndex := 526, attributes := #[] }, { accessFlags := 25, nameIndex := 399, descriptorIndex := 155, attributes := #[] }, { accessFlags := 25, nameIndex := 396, descriptorIndex := 155, attributes := #[] }, { accessFlags := 10, nameIndex := 525, descriptorIndex := 526, attributes := #[] }, { accessFlags := 26, nameIndex := 674, descriptorIndex := 12, attributes := #[] }, { accessFlags := 26, nameIndex := 677, descriptorIndex := 12, attributes := #[] }, { accessFlags := 10, nameIndex := 11, descriptorIndex := 12, attributes := #[] }, { accessFlags := 74, nameIndex := 175, descriptorIndex := 176, attributes := #[] }, { accessFlags := 10, nameIndex := 491, descriptorIndex := 222, attributes := #[] }, { accessFlags := 74, nameIndex := 29, descriptorIndex := 30, attributes := #[] }, { accessFlags := 74, nameIndex := 154, descriptorIndex := 155, attributes := #[] }, { accessFlags := 10, nameIndex := 217, descriptorIndex := 218, attributes := #[] }, { accessFlags := 10, nameIndex := 221, descriptorIndex := 222, attributes := #[] }, { accessFlags := 8, nameIndex := 562, descriptorIndex := 563, attributes := #[] }])
  fields := #[{ name := "in", type := (.object "java/io/InputStream"), accessFlags := 25, slot := 0, constantValue := 0 }, { name := "out", type := (.object "java/io/PrintStream"), accessFlags := 25, slot := 1, constantValue := 0 }, { name := "err", type := (.object "java/io/PrintStream"), accessFlags := 25, slot := 2, constantValue := 0 }, { name := "initialIn", type := (.object "java/io/InputStream"), accessFlags := 10, slot := 3, constantValue := 0 }, { name := "NEVER", type := .int, accessFlags := 26, slot := 4, constantValue := 0 }, { name := "MAYBE", type := .int, accessFlags := 26, slot := 5, constantValue := 0 }, { name := "allowSecurityManager", type := .int, accessFlags := 10, slot := 6, constantValue := 0 }, { name := "security", type := (.object "java/lang/SecurityManager"), accessFlags := 74, slot := 7, constantValue := 0 }, { name := "notSupportedJnuEncoding", type := (.object "java/lang/String"), accessFlags := 10, slot := 8, constantValue := 0 }, { name := "cons", type := (.object "java/io/Console"), accessFlags := 74, slot := 9, constantValue := 0 }, { name := "initialErrStream", type := (.object "java/io/PrintStream"), accessFlags := 74, slot := 10, constantValue := 0 }, { name := "props", type := (.object "java/util/Properties"), accessFlags := 10, slot := 11, constantValue := 0 }, { name := "lineSeparator", type := (.object "java/lang/String"), accessFlags := 10, slot := 12, constantValue := 0 }, { name := "bootLayer", type := (.object "java/lang/ModuleLayer"), accessFlags := 8, slot := 13, constantValue := 0 }]
  methods := #[k8m0, k8m1]
  instanceTypes := #[]
  staticTypes := #[(.object "java/io/InputStream"), (.object "java/io/PrintStream"), (.object "java/io/PrintStream"), (.object "java/io/InputStream"), .int, .int, .int, (.object "java/lang/SecurityManager"), (.object "java/lang/String"), (.object "java/io/Console"), (.object "java/io/PrintStream"), (.object "java/util/Properties"), (.object "java/lang/String"), (.object "java/lang/ModuleLayer")]
  resolved := Array.replicate 834 none
  statics := none }

def pool9 : Array CpInfo := pool [(1, u "java/io/Serializable"), (0, .class_ 1), (0, u "java/lang/Object"), (0, .class_ 3)] 3

/-- java/io/Serializable -/
def k9 : Class := { plain "java/io/Serializable" (some 0) with
  accessFlags := 1537
  interfaces := #[]
  cf := some (fileOf pool9 2 #[] #[] 1537 4 #[] #[])
  fields := #[]
  methods := #[]
  instanceTypes := #[]
  staticTypes := #[]
  resolved := Array.replicate 8 none
  statics := none }

/-- the primitive byte -/
def k10 : Class := { plain "byte" none with kind := .primitive 'B', accessFlags := 0x411 }
/-- [B -/
def k11 : Class := { plain "[B" (some 0) with kind := .array 10 .byte, interfaces := #[3, 9], accessFlags := 1041 }

/-- the primitive int -/
def k12 : Class := { plain "int" none with kind := .primitive 'I', accessFlags := 0x411 }
/-- [I -/
def k13 : Class := { plain "[I" (some 0) with kind := .array 12 .int, interfaces := #[3, 9], accessFlags := 1041 }

/-- the primitive long -/
def k14 : Class := { plain "long" none with kind := .primitive 'J', accessFlags := 0x411 }
/-- [J -/
def k15 : Class := { plain "[J" (some 0) with kind := .array 14 .long, interfaces := #[3, 9], accessFlags := 1041 }

def heap : Heap := #[]
def classes : Array Class := #[k0, k1, k2, k3, k4, k5, k6, k7, k8, k9, k10, k11, k12, k13, k14, k15]
def interned : List (Array UInt16 × Addr) := []
def slotsUsed : Nat := 0
def theMethod : MethodId := ⟨1, 2⟩
def args0 : Array Value := #[.int 5, .int 5, .int 5, .int 5, .long 6, .long 6]
def aboutOver (below : List Frame) : State where
  vm := { classes := classes, interned := interned.toArray }
  heap := heap
  slotsUsed := slotsUsed
  threads := #[{ frames := .invoking theMethod args0 :: below }]
def below0 : List Frame := [.native { method := ⟨0, 0⟩, args := #[] }]
def about1 : State := aboutOver below0
def p0 : Program := .bare "" "" ""
def e0 : Env := launch0.env 0 0 0
theorem w_frames : about1.frames = Frame.invoking theMethod args0 :: below0 := rfl
set_option maxRecDepth 65536 in
theorem w_args : argsFit about1.vm theMethod args0 = true := by decide +kernel
set_option maxRecDepth 65536 in
theorem w_heap : heapFits about1 = true := by decide +kernel
set_option maxRecDepth 65536 in
theorem w_runnable : about1.curStatus? = some .runnable := by decide +kernel
set_option maxRecDepth 65536 in
theorem w_alone : about1.alone = true := by decide +kernel
set_option maxRecDepth 65536 in
theorem w_named : about1.methodNamed? x = some theMethod := by decide +kernel
set_option maxRecDepth 65536 in
theorem w_hears : about1.hears theMethod below0 = true := by decide +kernel
set_option maxRecDepth 65536 in
theorem w_ripe : about1.ripe theMethod args0 below0 = true := by decide +kernel
theorem w_running : about1.status = .running := rfl
set_option maxRecDepth 65536 in
theorem w_room : about1.hasRoom e0.platform room_1 = true :=
  launch0.hasRoom_least _ room_1 (by decide +kernel) (by decide +kernel) (by decide +kernel) (by decide +kernel) (by decide +kernel) (by decide +kernel)
theorem allAtoms_all (ts : List Jvm.Cond) (a : Array Jvm.Value) (st : Jvm.State) : (allAtoms ts).before a st = ts.all (fun c => c.before a st) := by
  induction ts with
  | nil => rfl
  | cons c t ih =>
    show (Jvm.Cond.and c (allAtoms t)).before a st = _
    rw [Jvm.Cond.before_and, ih, List.all_cons]
def words1 : List Jvm.Cond := Jvm.Cond.code x code maxLocals ret :: tables_1
/-- a 'code' word, met by the world's own term for the bytes: nothing is compared byte by byte -/
theorem code_word {y : MethodName} {bytes : ByteArray} {mx : Nat} {rt : Option FieldType} {a : Array Value} {s : State} {m : MethodId} {meth : Method} {c : Code} (h1 : s.methodNamed? y = some m) (h2 : s.vm.method? m = some meth) (h3 : meth.code = some c) (h4 : c.code = bytes)
    (h5 : (c.maxLocals == mx && c.exceptionTable.isEmpty && decide (c.maxStack ≤ mostOperands) && decide (meth.sig.returnType = rt) && !meth.locks && decide (parseMethodDescriptor y.desc = some meth.sig)) = true) : (Jvm.Cond.code y bytes mx rt).before a s = true := by
  simp only [Bool.and_eq_true, beq_iff_eq, Bool.not_eq_true', decide_eq_true_eq] at h5
  obtain ⟨⟨⟨⟨⟨g1, g2⟩, g3⟩, g4⟩, g5⟩, g6⟩ := h5
  simp [Cond.before, Cond.holds, Cond.value, h1, h2, h3, h4, g1, g2, g3, g4, g5, g6]
def isCode : Jvm.Cond → Bool
  | .code _ _ _ _ => true
  | _ => false
theorem all_split {L : List Jvm.Cond} {P : Jvm.Cond → Bool} (h1 : L.all (fun c => isCode c || P c) = true) (h2 : ∀ c ∈ L.filter isCode, P c = true) : L.all P = true := by
  refine List.all_eq_true.mpr fun c hc => ?_
  have h := List.all_eq_true.mp h1 c hc
  rcases Bool.eq_false_or_eq_true (isCode c) with hi | hi
  · exact h2 c (List.mem_filter.mpr ⟨hc, hi⟩)
  · simpa [hi] using h
set_option maxRecDepth 65536 in
theorem w_c0 : (Jvm.Cond.code x code maxLocals ret).before args0 about1 = true := code_word (m := ⟨1, 2⟩) (meth := k1m2) (c := k1c2) (by decide +kernel) rfl rfl rfl (by decide +kernel)
set_option maxRecDepth 65536 in
theorem w_c1 : (Jvm.Cond.code ({ cls := "com/example/flat_planner/flatplanner/AtomMaskAllInPinLaw", name := "has", desc := "(JJI)Z" } : Jvm.MethodName) method_2_code (8 : Nat) (Option.some Jvm.ClassFile.FieldType.boolean)).before args0 about1 = true := code_word (m := ⟨1, 1⟩) (meth := k1m1) (c := k1c1) (by decide +kernel) rfl rfl rfl (by decide +kernel)
set_option maxRecDepth 65536 in
theorem w_c2 : (Jvm.Cond.code ({ cls := "com/example/flat_planner/flatplanner/AtomMask", name := "<init>", desc := "([I)V" } : Jvm.MethodName) prog_3_method_1_code (11 : Nat) (Option.none : Option Jvm.ClassFile.FieldType)).before args0 about1 = true := code_word (m := ⟨2, 0⟩) (meth := k2m0) (c := k2c0) (by decide +kernel) rfl rfl rfl (by decide +kernel)
set_option maxRecDepth 65536 in
theorem w_c3 : (Jvm.Cond.code ({ cls := "java/lang/Object", name := "<init>", desc := "()V" } : Jvm.MethodName) object_method_1_code (1 : Nat) (Option.none : Option Jvm.ClassFile.FieldType)).before args0 about1 = true := code_word (m := ⟨0, 0⟩) (meth := k0m0) (c := k0c0) (by decide +kernel) rfl rfl rfl (by decide +kernel)
set_option maxRecDepth 65536 in
theorem w_c4 : (Jvm.Cond.code ({ cls := "java/util/Arrays", name := "sort", desc := "([I)V" } : Jvm.MethodName) jdk_65_method_2_code (1 : Nat) (Option.none : Option Jvm.ClassFile.FieldType)).before args0 about1 = true := code_word (m := ⟨4, 1⟩) (meth := k4m1) (c := k4c1) (by decide +kernel) rfl rfl rfl (by decide +kernel)
set_option maxRecDepth 65536 in
theorem w_c5 : (Jvm.Cond.code ({ cls := "java/util/DualPivotQuicksort", name := "sort", desc := "([IIII)V" } : Jvm.MethodName) jdk_2529_method_3_code (7 : Nat) (Option.none : Option Jvm.ClassFile.FieldType)).before args0 about1 = true := code_word (m := ⟨5, 1⟩) (meth := k5m1) (c := k5c1) (by decide +kernel) rfl rfl rfl (by decide +kernel)
set_option maxRecDepth 65536 in
theorem w_c6 : (Jvm.Cond.code ({ cls := "java/util/DualPivotQuicksort", name := "sort", desc := "(Ljava/util/DualPivotQuicksort$Sorter;[IIII)V" } : Jvm.MethodName) jdk_2529_method_4_code (21 : Nat) (Option.none : Option Jvm.ClassFile.FieldType)).before args0 about1 = true := code_word (m := ⟨5, 2⟩) (meth := k5m2) (c := k5c2) (by decide +kernel) rfl rfl rfl (by decide +kernel)
set_option maxRecDepth 65536 in
theorem w_c7 : (Jvm.Cond.code ({ cls := "java/util/DualPivotQuicksort", name := "insertionSort", desc := "([III)V" } : Jvm.MethodName) jdk_2529_method_6_code (6 : Nat) (Option.none : Option Jvm.ClassFile.FieldType)).before args0 about1 = true := code_word (m := ⟨5, 3⟩) (meth := k5m3) (c := k5c3) (by decide +kernel) rfl rfl rfl (by decide +kernel)
set_option maxRecDepth 65536 in
theorem w_c8 : (Jvm.Cond.code ({ cls := "com/example/flat_planner/flatplanner/StateBits", name := "word", desc := "(I)I" } : Jvm.MethodName) prog_27_method_7_code (1 : Nat) (Option.some Jvm.ClassFile.FieldType.int)).before args0 about1 = true := code_word (m := ⟨6, 1⟩) (meth := k6m1) (c := k6c1) (by decide +kernel) rfl rfl rfl (by decide +kernel)
set_option maxRecDepth 65536 in
theorem w_c9 : (Jvm.Cond.code ({ cls := "com/example/flat_planner/flatplanner/StateBits", name := "bit", desc := "(I)J" } : Jvm.MethodName) prog_27_method_8_code (1 : Nat) (Option.some Jvm.ClassFile.FieldType.long)).before args0 about1 = true := code_word (m := ⟨6, 2⟩) (meth := k6m2) (c := k6c2) (by decide +kernel) rfl rfl rfl (by decide +kernel)
set_option maxRecDepth 65536 in
theorem w_c10 : (Jvm.Cond.code ({ cls := "java/util/Arrays", name := "copyOf", desc := "([II)[I" } : Jvm.MethodName) jdk_65_method_123_code (3 : Nat) (Option.some (Jvm.ClassFile.FieldType.array Jvm.ClassFile.FieldType.int))).before args0 about1 = true := code_word (m := ⟨4, 2⟩) (meth := k4m2) (c := k4c2) (by decide +kernel) rfl rfl rfl (by decide +kernel)
set_option maxRecDepth 65536 in
theorem w_c11 : (Jvm.Cond.code ({ cls := "java/util/Arrays", name := "copyOf", desc := "([JI)[J" } : Jvm.MethodName) jdk_65_method_124_code (3 : Nat) (Option.some (Jvm.ClassFile.FieldType.array Jvm.ClassFile.FieldType.long))).before args0 about1 = true := code_word (m := ⟨4, 3⟩) (meth := k4m3) (c := k4c3) (by decide +kernel) rfl rfl rfl (by decide +kernel)
set_option maxRecDepth 65536 in
theorem w_c12 : (Jvm.Cond.code ({ cls := "com/example/flat_planner/flatplanner/AtomMask", name := "allIn", desc := "([J)Z" } : Jvm.MethodName) prog_3_method_8_code (3 : Nat) (Option.some Jvm.ClassFile.FieldType.boolean)).before args0 about1 = true := code_word (m := ⟨2, 1⟩) (meth := k2m1) (c := k2c1) (by decide +kernel) rfl rfl rfl (by decide +kernel)
set_option maxRecDepth 65536 in
theorem w_c13 : (Jvm.Cond.code ({ cls := "java/lang/Math", name := "min", desc := "(II)I" } : Jvm.MethodName) jdk_29_method_69_code (2 : Nat) (Option.some Jvm.ClassFile.FieldType.int)).before args0 about1 = true := code_word (m := ⟨7, 1⟩) (meth := k7m1) (c := k7c1) (by decide +kernel) rfl rfl rfl (by decide +kernel)
def codes1 : List Jvm.Cond := [Jvm.Cond.code x code maxLocals ret, Jvm.Cond.code ({ cls := "com/example/flat_planner/flatplanner/AtomMaskAllInPinLaw", name := "has", desc := "(JJI)Z" } : Jvm.MethodName) method_2_code (8 : Nat) (Option.some Jvm.ClassFile.FieldType.boolean), Jvm.Cond.code ({ cls := "com/example/flat_planner/flatplanner/AtomMask", name := "<init>", desc := "([I)V" } : Jvm.MethodName) prog_3_method_1_code (11 : Nat) (Option.none : Option Jvm.ClassFile.FieldType), Jvm.Cond.code ({ cls := "java/lang/Object", name := "<init>", desc := "()V" } : Jvm.MethodName) object_method_1_code (1 : Nat) (Option.none : Option Jvm.ClassFile.FieldType), Jvm.Cond.code ({ cls := "java/util/Arrays", name := "sort", desc := "([I)V" } : Jvm.MethodName) jdk_65_method_2_code (1 : Nat) (Option.none : Option Jvm.ClassFile.FieldType), Jvm.Cond.code ({ cls := "java/util/DualPivotQuicksort", name := "sort", desc := "([IIII)V" } : Jvm.MethodName) jdk_2529_method_3_code (7 : Nat) (Option.none : Option Jvm.ClassFile.FieldType), Jvm.Cond.code ({ cls := "java/util/DualPivotQuicksort", name := "sort", desc := "(Ljava/util/DualPivotQuicksort$Sorter;[IIII)V" } : Jvm.MethodName) jdk_2529_method_4_code (21 : Nat) (Option.none : Option Jvm.ClassFile.FieldType), Jvm.Cond.code ({ cls := "java/util/DualPivotQuicksort", name := "insertionSort", desc := "([III)V" } : Jvm.MethodName) jdk_2529_method_6_code (6 : Nat) (Option.none : Option Jvm.ClassFile.FieldType), Jvm.Cond.code ({ cls := "com/example/flat_planner/flatplanner/StateBits", name := "word", desc := "(I)I" } : Jvm.MethodName) prog_27_method_7_code (1 : Nat) (Option.some Jvm.ClassFile.FieldType.int), Jvm.Cond.code ({ cls := "com/example/flat_planner/flatplanner/StateBits", name := "bit", desc := "(I)J" } : Jvm.MethodName) prog_27_method_8_code (1 : Nat) (Option.some Jvm.ClassFile.FieldType.long), Jvm.Cond.code ({ cls := "java/util/Arrays", name := "copyOf", desc := "([II)[I" } : Jvm.MethodName) jdk_65_method_123_code (3 : Nat) (Option.some (Jvm.ClassFile.FieldType.array Jvm.ClassFile.FieldType.int)), Jvm.Cond.code ({ cls := "java/util/Arrays", name := "copyOf", desc := "([JI)[J" } : Jvm.MethodName) jdk_65_method_124_code (3 : Nat) (Option.some (Jvm.ClassFile.FieldType.array Jvm.ClassFile.FieldType.long)), Jvm.Cond.code ({ cls := "com/example/flat_planner/flatplanner/AtomMask", name := "allIn", desc := "([J)Z" } : Jvm.MethodName) prog_3_method_8_code (3 : Nat) (Option.some Jvm.ClassFile.FieldType.boolean), Jvm.Cond.code ({ cls := "java/lang/Math", name := "min", desc := "(II)I" } : Jvm.MethodName) jdk_29_method_69_code (2 : Nat) (Option.some Jvm.ClassFile.FieldType.int)]
set_option maxRecDepth 65536 in
theorem codes_eq : words1.filter isCode = codes1 := rfl
theorem w_codes : ∀ c ∈ words1.filter isCode, c.before args0 about1 = true := by
  rw [codes_eq]
  intro c hc
  simp only [codes1, List.mem_cons, List.not_mem_nil, or_false] at hc
  rcases hc with rfl | rfl | rfl | rfl | rfl | rfl | rfl | rfl | rfl | rfl | rfl | rfl | rfl | rfl
  · exact w_c0
  · exact w_c1
  · exact w_c2
  · exact w_c3
  · exact w_c4
  · exact w_c5
  · exact w_c6
  · exact w_c7
  · exact w_c8
  · exact w_c9
  · exact w_c10
  · exact w_c11
  · exact w_c12
  · exact w_c13
set_option maxRecDepth 65536 in
theorem w_t1 : (words1.take 24).all (fun c => isCode c || c.before args0 about1) = true := by decide +kernel
set_option maxRecDepth 65536 in
theorem w_t2 : ((words1.drop 24).take 24).all (fun c => isCode c || c.before args0 about1) = true := by decide +kernel
set_option maxRecDepth 65536 in
theorem w_t3 : (((words1.drop 24).drop 24).take 24).all (fun c => isCode c || c.before args0 about1) = true := by decide +kernel
set_option maxRecDepth 65536 in
theorem w_t4 : (((words1.drop 24).drop 24).drop 24).all (fun c => isCode c || c.before args0 about1) = true := by decide +kernel
theorem w_tables : (allAtoms (Jvm.Cond.code x code maxLocals ret :: tables_1)).before args0 about1 = true := by
  rw [allAtoms_all]
  show words1.all (fun c => c.before args0 about1) = true
  refine all_split ?_ w_codes
  rw [← List.take_append_drop 24 words1, List.all_append, w_t1, ← List.take_append_drop 24 (words1.drop 24), List.all_append, w_t2, ← List.take_append_drop 24 ((words1.drop 24).drop 24), List.all_append, w_t3, w_t4]
  rfl
set_option maxRecDepth 65536 in
theorem w_case : (Jvm.Cond.and given_1 narrow_1).before args0 about1 = true := by decide +kernel
theorem w_applies : (headSpec (Jvm.Cond.code x code maxLocals ret :: tables_1) room_1).applies x e0.platform about1 = true :=
  (Spec.applies_iff w_frames).mpr ⟨w_running, w_runnable, w_alone, w_named, w_hears, w_ripe, w_room, w_tables⟩
theorem atStart : AtStart classFile x code maxLocals ret World_1 tables_1 room_1 Calls_1 rest_1 Pre_1 launch0 p0 e0 about1 theMethod args0 below0 :=
  ⟨lists_1, trivial, launch0.admits_env _ _ _, launch0.least_env, fairChoices_fair.cas, fairChoices_fair.clock, w_frames, w_args, w_heap, w_applies, trivial, trivial, w_case⟩
end start1
theorem witness_1 : WitnessClaimed_1 := ⟨start1.p0, start1.e0, start1.about1, start1.theMethod, start1.args0, start1.below0, start1.atStart⟩
end Jvm.Pilot.@@N@@
