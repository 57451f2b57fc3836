import JvmDerived
import JvmDerived.Pilot.@@N@@Statement
import JvmDerived.Pilot.@@N@@Code
set_option linter.unusedVariables false
set_option linter.unusedSimpArgs false
namespace Jvm.Pilot.@@N@@
open Jvm Jvm.ClassFile Sem Op Lib Jvm.Free Jvm.Stand Jvm.LawKit Jvm.RoadKit Bundle Jvm.Pilot.@@N@@.Jvm.D
section OwnKit
/-- where a walk of this body ends: it has returned, wrote nothing below n0, and Q holds of what it returned and of the heap -/
def Ends (n0 : Nat) (p : Program) (e : Env) (s : State) (below : List Frame) (R : Room) (Q : Option Value → Heap → Prop) (T : State) (g : JFrame) : Prop :=
  ∃ s₂ o, Steps p.tables e below (T.setTop g) s₂ ∧ s₂.status = .running ∧ Ended s₂ below o ∧ ∃ v L, o = .returned v ∧ (Fr n0 L ∧ Q v s₂.heap) ∧ FrameEnd s o s₂ L R.cells R.slots
/-- the walk stands at T over the heap h, having made at most kc cells of ks slots -/
def St (l : Launch) (n0 : Nat) (p : Program) (e : Env) (R : Room) (s : State) (m : MethodId) (args : Array Value) (below : List Frame) (meth : Method) (c : Code) (kc ks : Nat) (T : State) (h : Heap) : Prop :=
  ∃ locs cells slots, Stand p l e R s m args below meth c T locs cells slots ∧ T.heap = h ∧ Fr n0 locs ∧ cells ≤ kc ∧ slots ≤ ks
def Cx (l : Launch) (Z : State) (n0 : Nat) (p : Program) (e : Env) (R : Room) (s : State) (m : MethodId) (args : Array Value) (below : List Frame) (meth : Method) (c : Code) (bytes : ByteArray) (ml : Nat) (own name : String) (rt : Option FieldType) (Q : Option Value → Heap → Prop) (F : State → JFrame → Prop) (S : Nat → Nat → State → Heap → Prop) : Prop :=
  (p.tables.exec = Jvm.exec ∧ Z.Warmed39 s.vm ∧ c.code = bytes ∧ c.maxLocals = ml) ∧ (s.vm.findClass own = some m.cls ∧ meth.name = name ∧ meth.sig.returnType = rt ∧ meth.locks = false) ∧ F = Ends n0 p e s below R Q ∧ S = St l n0 p e R s m args below meth c
/-- a body's contract -/
def Con (l : Launch) (Z : State) (y : MethodName) (bytes : ByteArray) (ml : Nat) (rt : Option FieldType) (R : Room) (args : Array Value) (h0 : Heap) (n0 : Nat) (Q : Option Value → Heap → Prop) : Prop :=
  ∀ ws : List Jvm.Cond, MetFree l y (head1 (Jvm.Cond.code y bytes ml rt :: ws) R) (fun a U => a = args ∧ Z.Warmed39 U.vm ∧ U.heap = h0) (fun _ _ _ _ _ => True) (fun _ U o U' => ∃ v L, o = .returned v ∧ (Fr n0 L ∧ Q v U'.heap) ∧ FrameEnd U o U' L R.cells R.slots)
variable {l : Launch} {Z : State} {n0 : Nat} {p : Program} {e : Env} {R : Room} {s : State} {m : MethodId} {args : Array Value} {below : List Frame} {meth : Method} {c : Code} {bytes : ByteArray} {ml : Nat} {own name : String} {rt : Option FieldType} {Q : Option Value → Heap → Prop} {F : State → JFrame → Prop} {S : Nat → Nat → State → Heap → Prop}
variable {a0 : Array Value} {T T' : State} {h h' : Heap} {kc ks kc' ks' pc pc' : Nat} {L L' : Array Slot} {rest : List Value}
theorem Con.of {y : MethodName} {h0 : Heap} {Ls : Array Slot} (hpn : plainFor y = true) (hef : ∀ m, entryFrame m args ml = mkF m 0 Ls []) (ho : y.cls = own) (hn : y.name = name)
    (H : ∀ (p : Program) (e : Env) (s : State) (m : MethodId) (below : List Frame) (meth : Method) (c : Code) (T : State) (F : State → JFrame → Prop) (S : Nat → Nat → State → Heap → Prop), Cx l Z n0 p e R s m args below meth c bytes ml own name rt Q F S → S 0 0 T h0 → F T (mkF m 0 Ls [])) :
    Con l Z y bytes ml rt R args h0 n0 Q := by
  intro ws
  refine MetFree.of_bodySF hpn hisR ?_
  intro p e s m args below meth c s₁ Bd hml0 hP hK
  obtain ⟨rfl, hZ, hh⟩ := hP
  have e0 : s₁.heap = h0 := by rw [← hh, Bd.state]; rfl
  obtain ⟨s₂, o, q1, q2, q3, q4⟩ := H p e s m below meth c s₁ _ _ ⟨⟨Bd.exec, hZ, Bd.bytes, hml0⟩, ⟨by rw [← ho]; exact findClass_of_methodNamed Bd.named, by rw [← hn]; exact (name_of_methodNamed Bd.named Bd.method).1, Bd.returns, Bd.notSynchronized⟩, rfl, rfl⟩ ⟨[], 0, 0, Stand.of_body Bd, e0, Fr.nil n0, Nat.le_refl _, Nat.le_refl _⟩
  exact ⟨s₂, o, castTop (hef m) q1, q2, q3, q4⟩
theorem Cx.step (cx : Cx l Z n0 p e R s m args below meth c bytes ml own name rt Q F S) {g g' : JFrame} (st : ∀ t, Steps p.tables e below (T'.setTop g') t → Steps p.tables e below (T.setTop g) t) (k : F T' g') : F T g := by
  obtain ⟨-, -, rfl, -⟩ := cx
  obtain ⟨s₂, o, q1, q⟩ := k
  exact ⟨s₂, o, st _ q1, q⟩
theorem Cx.at (cx : Cx l Z n0 p e R s m args below meth c bytes ml own name rt Q F S) (st : S kc ks T h) : At T m c below := by
  obtain ⟨-, -, -, rfl⟩ := cx
  obtain ⟨_, _, _, X, -⟩ := st
  exact X.here
theorem Cx.open (cx : Cx l Z n0 p e R s m args below meth c bytes ml own name rt Q F S) (st : S kc ks T h) : ∃ locs cells slots, Stand p l e R s m args below meth c T locs cells slots ∧ T.heap = h ∧ Fr n0 locs ∧ cells ≤ kc ∧ slots ≤ ks := by
  obtain ⟨-, -, -, rfl⟩ := cx
  exact st
theorem Cx.mono (cx : Cx l Z n0 p e R s m args below meth c bytes ml own name rt Q F S) (st : S kc ks T h) (h1 : kc ≤ kc') (h2 : ks ≤ ks') : S kc' ks' T h := by
  obtain ⟨-, -, -, rfl⟩ := cx
  obtain ⟨a, b, d, X, q1, q2, q3, q4⟩ := st
  exact ⟨a, b, d, X, q1, q2, Nat.le_trans q3 h1, Nat.le_trans q4 h2⟩
theorem Cx.dec (cx : Cx l Z n0 p e R s m args below meth c bytes ml own name rt Q F S) {r : Except DecodeError (Instr × Nat)} (hd : decode bytes pc = r) : decode c.code pc = r := hb cx.1.2.2.1 hd
/-- leaving the method -/
theorem Cx.fin (cx : Cx l Z n0 p e R s m args below meth c bytes ml own name rt Q F S) (st : S kc ks T h) {v : Option Value} {g : JFrame} (hv : rt = none → v = none) (hk : kc ≤ R.cells) (hs : ks ≤ R.slots)
    (go : ∀ fs locs cells slots, Stand p l e R s m args below meth c T locs cells slots → (∀ (f : JFrame) (acts : List Action), f.method = m → f.locked = none → f.entered = [] → (doReturn e (T.setTop f) acts v).1 = T.setFrames fs) → Steps p.tables e below (T.setTop g) (T.setFrames fs)) (hQ : Q v h) : F T g := by
  obtain ⟨c1, ⟨c5, c6, c7, c8⟩, rfl, rfl⟩ := cx
  obtain ⟨locs, cells, slots, X, q1, q2, q3, q4⟩ := st
  obtain ⟨fs, hr, hrun, hended, hW, hsame⟩ := X.leave (v := v) (fun q => hv (c7.symm.trans q)) c8
  refine ⟨_, _, go fs _ _ _ X hr, hrun, hended, v, locs, rfl, ⟨q2, ?_⟩, ⟨_, rfl⟩, hW, hsame.mono (Nat.le_trans q3 hk) (Nat.le_trans q4 hs)⟩
  show Q v T.heap
  rw [q1]; exact hQ
theorem E_iadd (cx : Cx l Z n0 p e R s m args below meth c bytes ml own name rt Q F S) (st : S kc ks T h) {x y : Int32} (hd : decode bytes pc = .ok (.iadd, 1))  (hp : pc + 1 = pc') (k : F T (mkF m pc' L (.int (x + y) :: rest))) : F T (mkF m pc L (.int y :: .int x :: rest)) := by
  subst hp; exact cx.step (fun _ q => XS.iadd (cx.at st) cx.1.1 rfl (cx.dec hd) rfl q) k
theorem E_isub (cx : Cx l Z n0 p e R s m args below meth c bytes ml own name rt Q F S) (st : S kc ks T h) {x y : Int32} (hd : decode bytes pc = .ok (.isub, 1))  (hp : pc + 1 = pc') (k : F T (mkF m pc' L (.int (x - y) :: rest))) : F T (mkF m pc L (.int y :: .int x :: rest)) := by
  subst hp; exact cx.step (fun _ q => XS.isub (cx.at st) cx.1.1 rfl (cx.dec hd) rfl q) k
theorem E_imul (cx : Cx l Z n0 p e R s m args below meth c bytes ml own name rt Q F S) (st : S kc ks T h) {x y : Int32} (hd : decode bytes pc = .ok (.imul, 1))  (hp : pc + 1 = pc') (k : F T (mkF m pc' L (.int (x * y) :: rest))) : F T (mkF m pc L (.int y :: .int x :: rest)) := by
  subst hp; exact cx.step (fun _ q => XS.imul (cx.at st) cx.1.1 rfl (cx.dec hd) rfl q) k
theorem E_iand (cx : Cx l Z n0 p e R s m args below meth c bytes ml own name rt Q F S) (st : S kc ks T h) {x y : Int32} (hd : decode bytes pc = .ok (.iand, 1))  (hp : pc + 1 = pc') (k : F T (mkF m pc' L (.int (x &&& y) :: rest))) : F T (mkF m pc L (.int y :: .int x :: rest)) := by
  subst hp; exact cx.step (fun _ q => XS.iand (cx.at st) cx.1.1 rfl (cx.dec hd) rfl q) k
theorem E_ior (cx : Cx l Z n0 p e R s m args below meth c bytes ml own name rt Q F S) (st : S kc ks T h) {x y : Int32} (hd : decode bytes pc = .ok (.ior, 1))  (hp : pc + 1 = pc') (k : F T (mkF m pc' L (.int (x ||| y) :: rest))) : F T (mkF m pc L (.int y :: .int x :: rest)) := by
  subst hp; exact cx.step (fun _ q => XS.ior (cx.at st) cx.1.1 rfl (cx.dec hd) rfl q) k
theorem E_ixor (cx : Cx l Z n0 p e R s m args below meth c bytes ml own name rt Q F S) (st : S kc ks T h) {x y : Int32} (hd : decode bytes pc = .ok (.ixor, 1))  (hp : pc + 1 = pc') (k : F T (mkF m pc' L (.int (x ^^^ y) :: rest))) : F T (mkF m pc L (.int y :: .int x :: rest)) := by
  subst hp; exact cx.step (fun _ q => XS.ixor (cx.at st) cx.1.1 rfl (cx.dec hd) rfl q) k
theorem E_ladd (cx : Cx l Z n0 p e R s m args below meth c bytes ml own name rt Q F S) (st : S kc ks T h) {x y : Int64} (hd : decode bytes pc = .ok (.ladd, 1))  (hp : pc + 1 = pc') (k : F T (mkF m pc' L (.long (x + y) :: rest))) : F T (mkF m pc L (.long y :: .long x :: rest)) := by
  subst hp; exact cx.step (fun _ q => XS.ladd (cx.at st) cx.1.1 rfl (cx.dec hd) rfl q) k
theorem E_lsub (cx : Cx l Z n0 p e R s m args below meth c bytes ml own name rt Q F S) (st : S kc ks T h) {x y : Int64} (hd : decode bytes pc = .ok (.lsub, 1))  (hp : pc + 1 = pc') (k : F T (mkF m pc' L (.long (x - y) :: rest))) : F T (mkF m pc L (.long y :: .long x :: rest)) := by
  subst hp; exact cx.step (fun _ q => XS.lsub (cx.at st) cx.1.1 rfl (cx.dec hd) rfl q) k
theorem E_lmul (cx : Cx l Z n0 p e R s m args below meth c bytes ml own name rt Q F S) (st : S kc ks T h) {x y : Int64} (hd : decode bytes pc = .ok (.lmul, 1))  (hp : pc + 1 = pc') (k : F T (mkF m pc' L (.long (x * y) :: rest))) : F T (mkF m pc L (.long y :: .long x :: rest)) := by
  subst hp; exact cx.step (fun _ q => XS.lmul (cx.at st) cx.1.1 rfl (cx.dec hd) rfl q) k
theorem E_land (cx : Cx l Z n0 p e R s m args below meth c bytes ml own name rt Q F S) (st : S kc ks T h) {x y : Int64} (hd : decode bytes pc = .ok (.land, 1))  (hp : pc + 1 = pc') (k : F T (mkF m pc' L (.long (x &&& y) :: rest))) : F T (mkF m pc L (.long y :: .long x :: rest)) := by
  subst hp; exact cx.step (fun _ q => XS.land (cx.at st) cx.1.1 rfl (cx.dec hd) rfl q) k
theorem E_lor (cx : Cx l Z n0 p e R s m args below meth c bytes ml own name rt Q F S) (st : S kc ks T h) {x y : Int64} (hd : decode bytes pc = .ok (.lor, 1))  (hp : pc + 1 = pc') (k : F T (mkF m pc' L (.long (x ||| y) :: rest))) : F T (mkF m pc L (.long y :: .long x :: rest)) := by
  subst hp; exact cx.step (fun _ q => XS.lor (cx.at st) cx.1.1 rfl (cx.dec hd) rfl q) k
theorem E_lxor (cx : Cx l Z n0 p e R s m args below meth c bytes ml own name rt Q F S) (st : S kc ks T h) {x y : Int64} (hd : decode bytes pc = .ok (.lxor, 1))  (hp : pc + 1 = pc') (k : F T (mkF m pc' L (.long (x ^^^ y) :: rest))) : F T (mkF m pc L (.long y :: .long x :: rest)) := by
  subst hp; exact cx.step (fun _ q => XS.lxor (cx.at st) cx.1.1 rfl (cx.dec hd) rfl q) k
theorem E_idiv (cx : Cx l Z n0 p e R s m args below meth c bytes ml own name rt Q F S) (st : S kc ks T h) {x y : Int32} (hd : decode bytes pc = .ok (.idiv, 1)) (hz : y ≠ 0) (hp : pc + 1 = pc') (k : F T (mkF m pc' L (.int (x / y) :: rest))) : F T (mkF m pc L (.int y :: .int x :: rest)) := by
  subst hp; exact cx.step (fun _ q => XS.idiv (cx.at st) cx.1.1 rfl (cx.dec hd) rfl hz q) k
theorem E_ldiv (cx : Cx l Z n0 p e R s m args below meth c bytes ml own name rt Q F S) (st : S kc ks T h) {x y : Int64} (hd : decode bytes pc = .ok (.ldiv, 1)) (hz : y ≠ 0) (hp : pc + 1 = pc') (k : F T (mkF m pc' L (.long (x / y) :: rest))) : F T (mkF m pc L (.long y :: .long x :: rest)) := by
  subst hp; exact cx.step (fun _ q => XS.ldiv (cx.at st) cx.1.1 rfl (cx.dec hd) rfl hz q) k
theorem E_ishl (cx : Cx l Z n0 p e R s m args below meth c bytes ml own name rt Q F S) (st : S kc ks T h) {x y : Int32} (hd : decode bytes pc = .ok (.ishl, 1))  (hp : pc + 1 = pc') (k : F T (mkF m pc' L (.int (x <<< (y &&& 31)) :: rest))) : F T (mkF m pc L (.int y :: .int x :: rest)) := by
  subst hp; exact cx.step (fun _ q => XS.ishl (cx.at st) cx.1.1 rfl (cx.dec hd) rfl q) k
theorem E_ishr (cx : Cx l Z n0 p e R s m args below meth c bytes ml own name rt Q F S) (st : S kc ks T h) {x y : Int32} (hd : decode bytes pc = .ok (.ishr, 1))  (hp : pc + 1 = pc') (k : F T (mkF m pc' L (.int (x >>> (y &&& 31)) :: rest))) : F T (mkF m pc L (.int y :: .int x :: rest)) := by
  subst hp; exact cx.step (fun _ q => XS.ishr (cx.at st) cx.1.1 rfl (cx.dec hd) rfl q) k
theorem E_iushr (cx : Cx l Z n0 p e R s m args below meth c bytes ml own name rt Q F S) (st : S kc ks T h) {x y : Int32} (hd : decode bytes pc = .ok (.iushr, 1))  (hp : pc + 1 = pc') (k : F T (mkF m pc' L (.int ((x.toUInt32 >>> (y &&& 31).toUInt32).toInt32) :: rest))) : F T (mkF m pc L (.int y :: .int x :: rest)) := by
  subst hp; exact cx.step (fun _ q => XS.iushr (cx.at st) cx.1.1 rfl (cx.dec hd) rfl q) k
theorem E_lshl (cx : Cx l Z n0 p e R s m args below meth c bytes ml own name rt Q F S) (st : S kc ks T h) {x : Int64} {y : Int32} (hd : decode bytes pc = .ok (.lshl, 1))  (hp : pc + 1 = pc') (k : F T (mkF m pc' L (.long (x <<< (y &&& 0x3f).toInt64) :: rest))) : F T (mkF m pc L (.int y :: .long x :: rest)) := by
  subst hp; exact cx.step (fun _ q => XS.lshl (cx.at st) cx.1.1 rfl (cx.dec hd) rfl q) k
theorem E_lshr (cx : Cx l Z n0 p e R s m args below meth c bytes ml own name rt Q F S) (st : S kc ks T h) {x : Int64} {y : Int32} (hd : decode bytes pc = .ok (.lshr, 1))  (hp : pc + 1 = pc') (k : F T (mkF m pc' L (.long (x >>> (y &&& 0x3f).toInt64) :: rest))) : F T (mkF m pc L (.int y :: .long x :: rest)) := by
  subst hp; exact cx.step (fun _ q => XS.lshr (cx.at st) cx.1.1 rfl (cx.dec hd) rfl q) k
theorem E_lushr (cx : Cx l Z n0 p e R s m args below meth c bytes ml own name rt Q F S) (st : S kc ks T h) {x : Int64} {y : Int32} (hd : decode bytes pc = .ok (.lushr, 1))  (hp : pc + 1 = pc') (k : F T (mkF m pc' L (.long ((x.toUInt64 >>> (y &&& 0x3f).toInt64.toUInt64).toInt64) :: rest))) : F T (mkF m pc L (.int y :: .long x :: rest)) := by
  subst hp; exact cx.step (fun _ q => XS.lushr (cx.at st) cx.1.1 rfl (cx.dec hd) rfl q) k
theorem E_ineg (cx : Cx l Z n0 p e R s m args below meth c bytes ml own name rt Q F S) (st : S kc ks T h) {x : Int32} (hd : decode bytes pc = .ok (.ineg, 1))  (hp : pc + 1 = pc') (k : F T (mkF m pc' L (.int (-x) :: rest))) : F T (mkF m pc L (.int x :: rest)) := by
  subst hp; exact cx.step (fun _ q => XS.ineg (cx.at st) cx.1.1 rfl (cx.dec hd) rfl q) k
theorem E_lneg (cx : Cx l Z n0 p e R s m args below meth c bytes ml own name rt Q F S) (st : S kc ks T h) {x : Int64} (hd : decode bytes pc = .ok (.lneg, 1))  (hp : pc + 1 = pc') (k : F T (mkF m pc' L (.long (-x) :: rest))) : F T (mkF m pc L (.long x :: rest)) := by
  subst hp; exact cx.step (fun _ q => XS.lneg (cx.at st) cx.1.1 rfl (cx.dec hd) rfl q) k
theorem E_i2l (cx : Cx l Z n0 p e R s m args below meth c bytes ml own name rt Q F S) (st : S kc ks T h) {x : Int32} (hd : decode bytes pc = .ok (.i2l, 1))  (hp : pc + 1 = pc') (k : F T (mkF m pc' L (.long (x.toInt64) :: rest))) : F T (mkF m pc L (.int x :: rest)) := by
  subst hp; exact cx.step (fun _ q => XS.i2l (cx.at st) cx.1.1 rfl (cx.dec hd) rfl q) k
theorem E_l2i (cx : Cx l Z n0 p e R s m args below meth c bytes ml own name rt Q F S) (st : S kc ks T h) {x : Int64} (hd : decode bytes pc = .ok (.l2i, 1))  (hp : pc + 1 = pc') (k : F T (mkF m pc' L (.int (x.toInt32) :: rest))) : F T (mkF m pc L (.long x :: rest)) := by
  subst hp; exact cx.step (fun _ q => XS.l2i (cx.at st) cx.1.1 rfl (cx.dec hd) rfl q) k
theorem E_lcmp (cx : Cx l Z n0 p e R s m args below meth c bytes ml own name rt Q F S) (st : S kc ks T h) {x y : Int64} (hd : decode bytes pc = .ok (.lcmp, 1))  (hp : pc + 1 = pc') (k : F T (mkF m pc' L (.int (lcmpW x y) :: rest))) : F T (mkF m pc L (.long y :: .long x :: rest)) := by
  subst hp; exact cx.step (fun _ q => XS.lcmp (cx.at st) cx.1.1 rfl (cx.dec hd) rfl q) k
theorem E_pop (cx : Cx l Z n0 p e R s m args below meth c bytes ml own name rt Q F S) (st : S kc ks T h) {x : Value} (hd : decode bytes pc = .ok (.pop, 1)) (hc : x.category = 1) (hp : pc + 1 = pc') (k : F T (mkF m pc' L (rest))) : F T (mkF m pc L (x :: rest)) := by
  subst hp; exact cx.step (fun _ q => XS.pop (cx.at st) cx.1.1 rfl (cx.dec hd) rfl hc q) k
theorem E_dup (cx : Cx l Z n0 p e R s m args below meth c bytes ml own name rt Q F S) (st : S kc ks T h) {x : Value} (hd : decode bytes pc = .ok (.dup, 1)) (hc : x.category = 1) (hp : pc + 1 = pc') (k : F T (mkF m pc' L (x :: x :: rest))) : F T (mkF m pc L (x :: rest)) := by
  subst hp; exact cx.step (fun _ q => XS.dup (cx.at st) cx.1.1 rfl (cx.dec hd) rfl hc q) k
theorem E_dup_x1 (cx : Cx l Z n0 p e R s m args below meth c bytes ml own name rt Q F S) (st : S kc ks T h) {x y : Value} (hd : decode bytes pc = .ok (.dup_x1, 1)) (hc : x.category = 1) (hc2 : y.category = 1) (hp : pc + 1 = pc') (k : F T (mkF m pc' L (x :: y :: x :: rest))) : F T (mkF m pc L (x :: y :: rest)) := by
  subst hp; exact cx.step (fun _ q => XS.dupX1 (cx.at st) cx.1.1 rfl (cx.dec hd) rfl hc hc2 q) k
theorem E_aconst_null (cx : Cx l Z n0 p e R s m args below meth c bytes ml own name rt Q F S) (st : S kc ks T h)  (hd : decode bytes pc = .ok (.aconst_null, 1))  (hp : pc + 1 = pc') (k : F T (mkF m pc' L (.null :: rest))) : F T (mkF m pc L (rest)) := by
  subst hp; exact cx.step (fun _ q => XS.aconstNull (cx.at st) cx.1.1 rfl (cx.dec hd)  q) k
theorem E_iloadN (cx : Cx l Z n0 p e R s m args below meth c bytes ml own name rt Q F S) (st : S kc ks T h) {j : Fin 4} {x : Int32} (hd : decode bytes pc = .ok (.iload_n j, 1)) (hl : L[j.val]? = some (.val (.int x)))  (hp : pc + 1 = pc') (k : F T (mkF m pc' L (.int x :: rest))) : F T (mkF m pc L (rest)) := by
  subst hp; exact cx.step (fun _ q => XS.iloadN (cx.at st) cx.1.1 rfl (cx.dec hd) hl q) k
theorem E_istoreN (cx : Cx l Z n0 p e R s m args below meth c bytes ml own name rt Q F S) (st : S kc ks T h) {j : Fin 4} {x : Int32} (hd : decode bytes pc = .ok (.istore_n j, 1))  (hl : storeLocals L j.val (.int x) = some L') (hp : pc + 1 = pc') (k : F T (mkF m pc' L' (rest))) : F T (mkF m pc L (.int x :: rest)) := by
  subst hp; exact cx.step (fun _ q => XS.istoreN (cx.at st) cx.1.1 rfl (cx.dec hd) rfl hl q) k
theorem E_iload (cx : Cx l Z n0 p e R s m args below meth c bytes ml own name rt Q F S) (st : S kc ks T h) {j : Nat} {x : Int32} (hd : decode bytes pc = .ok (.iload j, 2)) (hl : L[j]? = some (.val (.int x)))  (hp : pc + 2 = pc') (k : F T (mkF m pc' L (.int x :: rest))) : F T (mkF m pc L (rest)) := by
  subst hp; exact cx.step (fun _ q => XS.iload (cx.at st) cx.1.1 rfl (cx.dec hd) hl q) k
theorem E_istore (cx : Cx l Z n0 p e R s m args below meth c bytes ml own name rt Q F S) (st : S kc ks T h) {j : Nat} {x : Int32} (hd : decode bytes pc = .ok (.istore j, 2))  (hl : storeLocals L j (.int x) = some L') (hp : pc + 2 = pc') (k : F T (mkF m pc' L' (rest))) : F T (mkF m pc L (.int x :: rest)) := by
  subst hp; exact cx.step (fun _ q => XS.istore (cx.at st) cx.1.1 rfl (cx.dec hd) rfl hl q) k
theorem E_lloadN (cx : Cx l Z n0 p e R s m args below meth c bytes ml own name rt Q F S) (st : S kc ks T h) {j : Fin 4} {x : Int64} (hd : decode bytes pc = .ok (.lload_n j, 1)) (hl : L[j.val]? = some (.val (.long x)))  (hp : pc + 1 = pc') (k : F T (mkF m pc' L (.long x :: rest))) : F T (mkF m pc L (rest)) := by
  subst hp; exact cx.step (fun _ q => XS.lloadN (cx.at st) cx.1.1 rfl (cx.dec hd) hl q) k
theorem E_lstoreN (cx : Cx l Z n0 p e R s m args below meth c bytes ml own name rt Q F S) (st : S kc ks T h) {j : Fin 4} {x : Int64} (hd : decode bytes pc = .ok (.lstore_n j, 1))  (hl : storeLocals L j.val (.long x) = some L') (hp : pc + 1 = pc') (k : F T (mkF m pc' L' (rest))) : F T (mkF m pc L (.long x :: rest)) := by
  subst hp; exact cx.step (fun _ q => XS.lstoreN (cx.at st) cx.1.1 rfl (cx.dec hd) rfl hl q) k
theorem E_lload (cx : Cx l Z n0 p e R s m args below meth c bytes ml own name rt Q F S) (st : S kc ks T h) {j : Nat} {x : Int64} (hd : decode bytes pc = .ok (.lload j, 2)) (hl : L[j]? = some (.val (.long x)))  (hp : pc + 2 = pc') (k : F T (mkF m pc' L (.long x :: rest))) : F T (mkF m pc L (rest)) := by
  subst hp; exact cx.step (fun _ q => XS.lload (cx.at st) cx.1.1 rfl (cx.dec hd) hl q) k
theorem E_lstore (cx : Cx l Z n0 p e R s m args below meth c bytes ml own name rt Q F S) (st : S kc ks T h) {j : Nat} {x : Int64} (hd : decode bytes pc = .ok (.lstore j, 2))  (hl : storeLocals L j (.long x) = some L') (hp : pc + 2 = pc') (k : F T (mkF m pc' L' (rest))) : F T (mkF m pc L (.long x :: rest)) := by
  subst hp; exact cx.step (fun _ q => XS.lstore (cx.at st) cx.1.1 rfl (cx.dec hd) rfl hl q) k
theorem E_aloadN (cx : Cx l Z n0 p e R s m args below meth c bytes ml own name rt Q F S) (st : S kc ks T h) {j : Fin 4} {x : Value} (hd : decode bytes pc = .ok (.aload_n j, 1)) (hl : L[j.val]? = some (.val (x))) (hv : x.isRef = true) (hp : pc + 1 = pc') (k : F T (mkF m pc' L (x :: rest))) : F T (mkF m pc L (rest)) := by
  subst hp; exact cx.step (fun _ q => XS.aloadN (cx.at st) cx.1.1 rfl (cx.dec hd) hl hv q) k
theorem E_astoreN (cx : Cx l Z n0 p e R s m args below meth c bytes ml own name rt Q F S) (st : S kc ks T h) {j : Fin 4} {x : Value} (hd : decode bytes pc = .ok (.astore_n j, 1)) (hv : x.isRef = true) (hl : storeLocals L j.val (x) = some L') (hp : pc + 1 = pc') (k : F T (mkF m pc' L' (rest))) : F T (mkF m pc L (x :: rest)) := by
  subst hp; exact cx.step (fun _ q => XS.astoreN (cx.at st) cx.1.1 rfl (cx.dec hd) rfl hv hl q) k
theorem E_aload (cx : Cx l Z n0 p e R s m args below meth c bytes ml own name rt Q F S) (st : S kc ks T h) {j : Nat} {x : Value} (hd : decode bytes pc = .ok (.aload j, 2)) (hl : L[j]? = some (.val (x))) (hv : x.isRef = true) (hp : pc + 2 = pc') (k : F T (mkF m pc' L (x :: rest))) : F T (mkF m pc L (rest)) := by
  subst hp; exact cx.step (fun _ q => XS.aload (cx.at st) cx.1.1 rfl (cx.dec hd) hl hv q) k
theorem E_astore (cx : Cx l Z n0 p e R s m args below meth c bytes ml own name rt Q F S) (st : S kc ks T h) {j : Nat} {x : Value} (hd : decode bytes pc = .ok (.astore j, 2)) (hv : x.isRef = true) (hl : storeLocals L j (x) = some L') (hp : pc + 2 = pc') (k : F T (mkF m pc' L' (rest))) : F T (mkF m pc L (x :: rest)) := by
  subst hp; exact cx.step (fun _ q => XS.astore (cx.at st) cx.1.1 rfl (cx.dec hd) rfl hv hl q) k
theorem E_iinc (cx : Cx l Z n0 p e R s m args below meth c bytes ml own name rt Q F S) (st : S kc ks T h) {j : Nat} {cst : Int} {x : Int32} (v : Int32) (hd : decode bytes pc = .ok (.iinc j cst, 3)) (hv : Int32.ofInt cst = v) (hl : L[j]? = some (.val (.int x))) (hl' : storeLocals L j (.int (x + v)) = some L') (hp : pc + 3 = pc') (k : F T (mkF m pc' L' rest)) : F T (mkF m pc L rest) := by
  subst hp hv; exact cx.step (fun _ q => XS.iinc (cx.at st) cx.1.1 rfl (cx.dec hd) hl hl' q) k
theorem E_iconst (cx : Cx l Z n0 p e R s m args below meth c bytes ml own name rt Q F S) (st : S kc ks T h) {i : Int} (v : Int32) (hd : decode bytes pc = .ok (.iconst i, 1)) (hv : Int32.ofInt i = v) (hp : pc + 1 = pc') (k : F T (mkF m pc' L (.int v :: rest))) : F T (mkF m pc L rest) := by
  subst hp hv; exact cx.step (fun _ q => XS.iconst (cx.at st) cx.1.1 rfl (cx.dec hd) q) k
theorem E_bipush (cx : Cx l Z n0 p e R s m args below meth c bytes ml own name rt Q F S) (st : S kc ks T h) {i : Int} (v : Int32) (hd : decode bytes pc = .ok (.bipush i, 2)) (hv : (Int8.ofInt i).toInt32 = v) (hp : pc + 2 = pc') (k : F T (mkF m pc' L (.int v :: rest))) : F T (mkF m pc L rest) := by
  subst hp hv; exact cx.step (fun _ q => XS.bipush (cx.at st) cx.1.1 rfl (cx.dec hd) q) k
theorem E_sipush (cx : Cx l Z n0 p e R s m args below meth c bytes ml own name rt Q F S) (st : S kc ks T h) {i : Int} (v : Int32) (hd : decode bytes pc = .ok (.sipush i, 3)) (hv : (Int16.ofInt i).toInt32 = v) (hp : pc + 3 = pc') (k : F T (mkF m pc' L (.int v :: rest))) : F T (mkF m pc L rest) := by
  subst hp hv; exact cx.step (fun _ q => XS.sipush (cx.at st) cx.1.1 rfl (cx.dec hd) q) k
theorem E_lconst (cx : Cx l Z n0 p e R s m args below meth c bytes ml own name rt Q F S) (st : S kc ks T h) {i : Fin 2} (v : Int64) (hd : decode bytes pc = .ok (.lconst i, 1)) (hv : Int64.ofNat i = v) (hp : pc + 1 = pc') (k : F T (mkF m pc' L (.long v :: rest))) : F T (mkF m pc L rest) := by
  subst hp hv; exact cx.step (fun _ q => XS.lconst (cx.at st) cx.1.1 rfl (cx.dec hd) q) k
theorem E_goto (cx : Cx l Z n0 p e R s m args below meth c bytes ml own name rt Q F S) (st : S kc ks T h) {o : Int} (hd : decode bytes pc = .ok (.goto o, 3)) (ho : 0 ≤ (pc : Int) + o) (hp : ((pc : Int) + o).toNat = pc') (k : F T (mkF m pc' L rest)) : F T (mkF m pc L rest) :=
  cx.step (fun _ q => XS.goto (cx.at st) cx.1.1 rfl (pc0 := pc) rfl (cx.dec hd) ho hp q) k
theorem E_irem (cx : Cx l Z n0 p e R s m args below meth c bytes ml own name rt Q F S) (st : S kc ks T h) {x y : Int32} (hd : decode bytes pc = .ok (.irem, 1)) (hz : y ≠ 0) (hp : pc + 1 = pc') (k : F T (mkF m pc' L (.int (x % y) :: rest))) : F T (mkF m pc L (.int y :: .int x :: rest)) := by
  subst hp
  obtain ⟨_, _, _, X, -⟩ := cx.open st
  exact cx.step (fun _ q => iremM X cx.1.1 rfl (cx.dec hd) rfl hz q) k
theorem E_icmp_ltY (cx : Cx l Z n0 p e R s m args below meth c bytes ml own name rt Q F S) (st : S kc ks T h) {x y : Int32} {o : Int} (hd : decode bytes pc = .ok (.if_icmp .lt o, 3)) (ho : 0 ≤ (pc : Int) + o) (hp : ((pc : Int) + o).toNat = pc') (c1 : x < y) (k : F T (mkF m pc' L rest)) : F T (mkF m pc L (.int y :: .int x :: rest)) :=
  cx.step (fun _ q => XS.icmpYes (cx.at st) cx.1.1 rfl (pc0 := pc) rfl (cx.dec hd) rfl (tlt c1).1 ho hp q) k
theorem E_icmp_ltN (cx : Cx l Z n0 p e R s m args below meth c bytes ml own name rt Q F S) (st : S kc ks T h) {x y : Int32} {o : Int} (hd : decode bytes pc = .ok (.if_icmp .lt o, 3)) (hp : pc + 3 = pc') (c1 : ¬ (x < y)) (k : F T (mkF m pc' L rest)) : F T (mkF m pc L (.int y :: .int x :: rest)) := by
  subst hp; exact cx.step (fun _ q => XS.icmpNo (cx.at st) cx.1.1 rfl (cx.dec hd) rfl (flt c1).1 q) k
theorem E_if_ltY (cx : Cx l Z n0 p e R s m args below meth c bytes ml own name rt Q F S) (st : S kc ks T h) {x : Int32} {o : Int} (hd : decode bytes pc = .ok (.ifCond .lt o, 3)) (ho : 0 ≤ (pc : Int) + o) (hp : ((pc : Int) + o).toNat = pc') (c1 : x < 0) (k : F T (mkF m pc' L rest)) : F T (mkF m pc L (.int x :: rest)) :=
  cx.step (fun _ q => XS.ifYes (cx.at st) cx.1.1 rfl (pc0 := pc) rfl (cx.dec hd) rfl ((if0 _ _).trans (tlt c1).1) ho hp q) k
theorem E_if_ltN (cx : Cx l Z n0 p e R s m args below meth c bytes ml own name rt Q F S) (st : S kc ks T h) {x : Int32} {o : Int} (hd : decode bytes pc = .ok (.ifCond .lt o, 3)) (hp : pc + 3 = pc') (c1 : ¬ (x < 0)) (k : F T (mkF m pc' L rest)) : F T (mkF m pc L (.int x :: rest)) := by
  subst hp; exact cx.step (fun _ q => XS.ifNo (cx.at st) cx.1.1 rfl (cx.dec hd) rfl ((if0 _ _).trans (flt c1).1) q) k
theorem E_icmp_geY (cx : Cx l Z n0 p e R s m args below meth c bytes ml own name rt Q F S) (st : S kc ks T h) {x y : Int32} {o : Int} (hd : decode bytes pc = .ok (.if_icmp .ge o, 3)) (ho : 0 ≤ (pc : Int) + o) (hp : ((pc : Int) + o).toNat = pc') (c1 : ¬ (x < y)) (k : F T (mkF m pc' L rest)) : F T (mkF m pc L (.int y :: .int x :: rest)) :=
  cx.step (fun _ q => XS.icmpYes (cx.at st) cx.1.1 rfl (pc0 := pc) rfl (cx.dec hd) rfl (flt c1).2.1 ho hp q) k
theorem E_icmp_geN (cx : Cx l Z n0 p e R s m args below meth c bytes ml own name rt Q F S) (st : S kc ks T h) {x y : Int32} {o : Int} (hd : decode bytes pc = .ok (.if_icmp .ge o, 3)) (hp : pc + 3 = pc') (c1 : x < y) (k : F T (mkF m pc' L rest)) : F T (mkF m pc L (.int y :: .int x :: rest)) := by
  subst hp; exact cx.step (fun _ q => XS.icmpNo (cx.at st) cx.1.1 rfl (cx.dec hd) rfl (tlt c1).2.1 q) k
theorem E_if_geY (cx : Cx l Z n0 p e R s m args below meth c bytes ml own name rt Q F S) (st : S kc ks T h) {x : Int32} {o : Int} (hd : decode bytes pc = .ok (.ifCond .ge o, 3)) (ho : 0 ≤ (pc : Int) + o) (hp : ((pc : Int) + o).toNat = pc') (c1 : ¬ (x < 0)) (k : F T (mkF m pc' L rest)) : F T (mkF m pc L (.int x :: rest)) :=
  cx.step (fun _ q => XS.ifYes (cx.at st) cx.1.1 rfl (pc0 := pc) rfl (cx.dec hd) rfl ((if0 _ _).trans (flt c1).2.1) ho hp q) k
theorem E_if_geN (cx : Cx l Z n0 p e R s m args below meth c bytes ml own name rt Q F S) (st : S kc ks T h) {x : Int32} {o : Int} (hd : decode bytes pc = .ok (.ifCond .ge o, 3)) (hp : pc + 3 = pc') (c1 : x < 0) (k : F T (mkF m pc' L rest)) : F T (mkF m pc L (.int x :: rest)) := by
  subst hp; exact cx.step (fun _ q => XS.ifNo (cx.at st) cx.1.1 rfl (cx.dec hd) rfl ((if0 _ _).trans (tlt c1).2.1) q) k
theorem E_icmp_gtY (cx : Cx l Z n0 p e R s m args below meth c bytes ml own name rt Q F S) (st : S kc ks T h) {x y : Int32} {o : Int} (hd : decode bytes pc = .ok (.if_icmp .gt o, 3)) (ho : 0 ≤ (pc : Int) + o) (hp : ((pc : Int) + o).toNat = pc') (c1 : y < x) (k : F T (mkF m pc' L rest)) : F T (mkF m pc L (.int y :: .int x :: rest)) :=
  cx.step (fun _ q => XS.icmpYes (cx.at st) cx.1.1 rfl (pc0 := pc) rfl (cx.dec hd) rfl (tlt c1).2.2.1 ho hp q) k
theorem E_icmp_gtN (cx : Cx l Z n0 p e R s m args below meth c bytes ml own name rt Q F S) (st : S kc ks T h) {x y : Int32} {o : Int} (hd : decode bytes pc = .ok (.if_icmp .gt o, 3)) (hp : pc + 3 = pc') (c1 : ¬ (y < x)) (k : F T (mkF m pc' L rest)) : F T (mkF m pc L (.int y :: .int x :: rest)) := by
  subst hp; exact cx.step (fun _ q => XS.icmpNo (cx.at st) cx.1.1 rfl (cx.dec hd) rfl (flt c1).2.2.1 q) k
theorem E_if_gtY (cx : Cx l Z n0 p e R s m args below meth c bytes ml own name rt Q F S) (st : S kc ks T h) {x : Int32} {o : Int} (hd : decode bytes pc = .ok (.ifCond .gt o, 3)) (ho : 0 ≤ (pc : Int) + o) (hp : ((pc : Int) + o).toNat = pc') (c1 : 0 < x) (k : F T (mkF m pc' L rest)) : F T (mkF m pc L (.int x :: rest)) :=
  cx.step (fun _ q => XS.ifYes (cx.at st) cx.1.1 rfl (pc0 := pc) rfl (cx.dec hd) rfl ((if0 _ _).trans (tlt c1).2.2.1) ho hp q) k
theorem E_if_gtN (cx : Cx l Z n0 p e R s m args below meth c bytes ml own name rt Q F S) (st : S kc ks T h) {x : Int32} {o : Int} (hd : decode bytes pc = .ok (.ifCond .gt o, 3)) (hp : pc + 3 = pc') (c1 : ¬ (0 < x)) (k : F T (mkF m pc' L rest)) : F T (mkF m pc L (.int x :: rest)) := by
  subst hp; exact cx.step (fun _ q => XS.ifNo (cx.at st) cx.1.1 rfl (cx.dec hd) rfl ((if0 _ _).trans (flt c1).2.2.1) q) k
theorem E_icmp_leY (cx : Cx l Z n0 p e R s m args below meth c bytes ml own name rt Q F S) (st : S kc ks T h) {x y : Int32} {o : Int} (hd : decode bytes pc = .ok (.if_icmp .le o, 3)) (ho : 0 ≤ (pc : Int) + o) (hp : ((pc : Int) + o).toNat = pc') (c1 : ¬ (y < x)) (k : F T (mkF m pc' L rest)) : F T (mkF m pc L (.int y :: .int x :: rest)) :=
  cx.step (fun _ q => XS.icmpYes (cx.at st) cx.1.1 rfl (pc0 := pc) rfl (cx.dec hd) rfl (flt c1).2.2.2 ho hp q) k
theorem E_icmp_leN (cx : Cx l Z n0 p e R s m args below meth c bytes ml own name rt Q F S) (st : S kc ks T h) {x y : Int32} {o : Int} (hd : decode bytes pc = .ok (.if_icmp .le o, 3)) (hp : pc + 3 = pc') (c1 : y < x) (k : F T (mkF m pc' L rest)) : F T (mkF m pc L (.int y :: .int x :: rest)) := by
  subst hp; exact cx.step (fun _ q => XS.icmpNo (cx.at st) cx.1.1 rfl (cx.dec hd) rfl (tlt c1).2.2.2 q) k
theorem E_if_leY (cx : Cx l Z n0 p e R s m args below meth c bytes ml own name rt Q F S) (st : S kc ks T h) {x : Int32} {o : Int} (hd : decode bytes pc = .ok (.ifCond .le o, 3)) (ho : 0 ≤ (pc : Int) + o) (hp : ((pc : Int) + o).toNat = pc') (c1 : ¬ (0 < x)) (k : F T (mkF m pc' L rest)) : F T (mkF m pc L (.int x :: rest)) :=
  cx.step (fun _ q => XS.ifYes (cx.at st) cx.1.1 rfl (pc0 := pc) rfl (cx.dec hd) rfl ((if0 _ _).trans (flt c1).2.2.2) ho hp q) k
theorem E_if_leN (cx : Cx l Z n0 p e R s m args below meth c bytes ml own name rt Q F S) (st : S kc ks T h) {x : Int32} {o : Int} (hd : decode bytes pc = .ok (.ifCond .le o, 3)) (hp : pc + 3 = pc') (c1 : 0 < x) (k : F T (mkF m pc' L rest)) : F T (mkF m pc L (.int x :: rest)) := by
  subst hp; exact cx.step (fun _ q => XS.ifNo (cx.at st) cx.1.1 rfl (cx.dec hd) rfl ((if0 _ _).trans (tlt c1).2.2.2) q) k
theorem E_icmp_eqY (cx : Cx l Z n0 p e R s m args below meth c bytes ml own name rt Q F S) (st : S kc ks T h) {x y : Int32} {o : Int} (hd : decode bytes pc = .ok (.if_icmp .eq o, 3)) (ho : 0 ≤ (pc : Int) + o) (hp : ((pc : Int) + o).toNat = pc') (c1 : x = y) (k : F T (mkF m pc' L rest)) : F T (mkF m pc L (.int y :: .int x :: rest)) :=
  cx.step (fun _ q => XS.icmpYes (cx.at st) cx.1.1 rfl (pc0 := pc) rfl (cx.dec hd) rfl (teq c1).1 ho hp q) k
theorem E_icmp_eqN (cx : Cx l Z n0 p e R s m args below meth c bytes ml own name rt Q F S) (st : S kc ks T h) {x y : Int32} {o : Int} (hd : decode bytes pc = .ok (.if_icmp .eq o, 3)) (hp : pc + 3 = pc') (c1 : ¬ (x = y)) (k : F T (mkF m pc' L rest)) : F T (mkF m pc L (.int y :: .int x :: rest)) := by
  subst hp; exact cx.step (fun _ q => XS.icmpNo (cx.at st) cx.1.1 rfl (cx.dec hd) rfl (feq c1).1 q) k
theorem E_if_eqY (cx : Cx l Z n0 p e R s m args below meth c bytes ml own name rt Q F S) (st : S kc ks T h) {x : Int32} {o : Int} (hd : decode bytes pc = .ok (.ifCond .eq o, 3)) (ho : 0 ≤ (pc : Int) + o) (hp : ((pc : Int) + o).toNat = pc') (c1 : x = 0) (k : F T (mkF m pc' L rest)) : F T (mkF m pc L (.int x :: rest)) :=
  cx.step (fun _ q => XS.ifYes (cx.at st) cx.1.1 rfl (pc0 := pc) rfl (cx.dec hd) rfl ((if0 _ _).trans (teq c1).1) ho hp q) k
theorem E_if_eqN (cx : Cx l Z n0 p e R s m args below meth c bytes ml own name rt Q F S) (st : S kc ks T h) {x : Int32} {o : Int} (hd : decode bytes pc = .ok (.ifCond .eq o, 3)) (hp : pc + 3 = pc') (c1 : ¬ (x = 0)) (k : F T (mkF m pc' L rest)) : F T (mkF m pc L (.int x :: rest)) := by
  subst hp; exact cx.step (fun _ q => XS.ifNo (cx.at st) cx.1.1 rfl (cx.dec hd) rfl ((if0 _ _).trans (feq c1).1) q) k
theorem E_icmp_neY (cx : Cx l Z n0 p e R s m args below meth c bytes ml own name rt Q F S) (st : S kc ks T h) {x y : Int32} {o : Int} (hd : decode bytes pc = .ok (.if_icmp .ne o, 3)) (ho : 0 ≤ (pc : Int) + o) (hp : ((pc : Int) + o).toNat = pc') (c1 : ¬ (x = y)) (k : F T (mkF m pc' L rest)) : F T (mkF m pc L (.int y :: .int x :: rest)) :=
  cx.step (fun _ q => XS.icmpYes (cx.at st) cx.1.1 rfl (pc0 := pc) rfl (cx.dec hd) rfl (feq c1).2 ho hp q) k
theorem E_icmp_neN (cx : Cx l Z n0 p e R s m args below meth c bytes ml own name rt Q F S) (st : S kc ks T h) {x y : Int32} {o : Int} (hd : decode bytes pc = .ok (.if_icmp .ne o, 3)) (hp : pc + 3 = pc') (c1 : x = y) (k : F T (mkF m pc' L rest)) : F T (mkF m pc L (.int y :: .int x :: rest)) := by
  subst hp; exact cx.step (fun _ q => XS.icmpNo (cx.at st) cx.1.1 rfl (cx.dec hd) rfl (teq c1).2 q) k
theorem E_if_neY (cx : Cx l Z n0 p e R s m args below meth c bytes ml own name rt Q F S) (st : S kc ks T h) {x : Int32} {o : Int} (hd : decode bytes pc = .ok (.ifCond .ne o, 3)) (ho : 0 ≤ (pc : Int) + o) (hp : ((pc : Int) + o).toNat = pc') (c1 : ¬ (x = 0)) (k : F T (mkF m pc' L rest)) : F T (mkF m pc L (.int x :: rest)) :=
  cx.step (fun _ q => XS.ifYes (cx.at st) cx.1.1 rfl (pc0 := pc) rfl (cx.dec hd) rfl ((if0 _ _).trans (feq c1).2) ho hp q) k
theorem E_if_neN (cx : Cx l Z n0 p e R s m args below meth c bytes ml own name rt Q F S) (st : S kc ks T h) {x : Int32} {o : Int} (hd : decode bytes pc = .ok (.ifCond .ne o, 3)) (hp : pc + 3 = pc') (c1 : x = 0) (k : F T (mkF m pc' L rest)) : F T (mkF m pc L (.int x :: rest)) := by
  subst hp; exact cx.step (fun _ q => XS.ifNo (cx.at st) cx.1.1 rfl (cx.dec hd) rfl ((if0 _ _).trans (teq c1).2) q) k
theorem E_lif_ltY (cx : Cx l Z n0 p e R s m args below meth c bytes ml own name rt Q F S) (st : S kc ks T h) {x y : Int64} {o : Int} (hd : decode bytes pc = .ok (.lcmp, 1)) (hd2 : decode bytes (pc + 1) = .ok (.ifCond .lt o, 3)) (ho : 0 ≤ ((pc + 1 : Nat) : Int) + o) (hp : (((pc + 1 : Nat) : Int) + o).toNat = pc') (c1 : x < y) (k : F T (mkF m pc' L rest)) : F T (mkF m pc L (.long y :: .long x :: rest)) :=
  E_lcmp cx st hd rfl (E_if_ltY cx st hd2 ho hp ((lw_lt x y).mpr c1) k)
theorem E_lif_ltN (cx : Cx l Z n0 p e R s m args below meth c bytes ml own name rt Q F S) (st : S kc ks T h) {x y : Int64} {o : Int} (hd : decode bytes pc = .ok (.lcmp, 1)) (hd2 : decode bytes (pc + 1) = .ok (.ifCond .lt o, 3)) (hp : pc + 4 = pc') (c1 : ¬ (x < y)) (k : F T (mkF m pc' L rest)) : F T (mkF m pc L (.long y :: .long x :: rest)) :=
  E_lcmp cx st hd rfl (E_if_ltN cx st hd2 hp (fun z => c1 ((lw_lt x y).mp z)) k)
theorem E_lif_geY (cx : Cx l Z n0 p e R s m args below meth c bytes ml own name rt Q F S) (st : S kc ks T h) {x y : Int64} {o : Int} (hd : decode bytes pc = .ok (.lcmp, 1)) (hd2 : decode bytes (pc + 1) = .ok (.ifCond .ge o, 3)) (ho : 0 ≤ ((pc + 1 : Nat) : Int) + o) (hp : (((pc + 1 : Nat) : Int) + o).toNat = pc') (c1 : ¬ (x < y)) (k : F T (mkF m pc' L rest)) : F T (mkF m pc L (.long y :: .long x :: rest)) :=
  E_lcmp cx st hd rfl (E_if_geY cx st hd2 ho hp (fun z => c1 ((lw_lt x y).mp z)) k)
theorem E_lif_geN (cx : Cx l Z n0 p e R s m args below meth c bytes ml own name rt Q F S) (st : S kc ks T h) {x y : Int64} {o : Int} (hd : decode bytes pc = .ok (.lcmp, 1)) (hd2 : decode bytes (pc + 1) = .ok (.ifCond .ge o, 3)) (hp : pc + 4 = pc') (c1 : x < y) (k : F T (mkF m pc' L rest)) : F T (mkF m pc L (.long y :: .long x :: rest)) :=
  E_lcmp cx st hd rfl (E_if_geN cx st hd2 hp ((lw_lt x y).mpr c1) k)
theorem E_lif_gtY (cx : Cx l Z n0 p e R s m args below meth c bytes ml own name rt Q F S) (st : S kc ks T h) {x y : Int64} {o : Int} (hd : decode bytes pc = .ok (.lcmp, 1)) (hd2 : decode bytes (pc + 1) = .ok (.ifCond .gt o, 3)) (ho : 0 ≤ ((pc + 1 : Nat) : Int) + o) (hp : (((pc + 1 : Nat) : Int) + o).toNat = pc') (c1 : y < x) (k : F T (mkF m pc' L rest)) : F T (mkF m pc L (.long y :: .long x :: rest)) :=
  E_lcmp cx st hd rfl (E_if_gtY cx st hd2 ho hp ((lw_gt x y).mpr c1) k)
theorem E_lif_gtN (cx : Cx l Z n0 p e R s m args below meth c bytes ml own name rt Q F S) (st : S kc ks T h) {x y : Int64} {o : Int} (hd : decode bytes pc = .ok (.lcmp, 1)) (hd2 : decode bytes (pc + 1) = .ok (.ifCond .gt o, 3)) (hp : pc + 4 = pc') (c1 : ¬ (y < x)) (k : F T (mkF m pc' L rest)) : F T (mkF m pc L (.long y :: .long x :: rest)) :=
  E_lcmp cx st hd rfl (E_if_gtN cx st hd2 hp (fun z => c1 ((lw_gt x y).mp z)) k)
theorem E_lif_leY (cx : Cx l Z n0 p e R s m args below meth c bytes ml own name rt Q F S) (st : S kc ks T h) {x y : Int64} {o : Int} (hd : decode bytes pc = .ok (.lcmp, 1)) (hd2 : decode bytes (pc + 1) = .ok (.ifCond .le o, 3)) (ho : 0 ≤ ((pc + 1 : Nat) : Int) + o) (hp : (((pc + 1 : Nat) : Int) + o).toNat = pc') (c1 : ¬ (y < x)) (k : F T (mkF m pc' L rest)) : F T (mkF m pc L (.long y :: .long x :: rest)) :=
  E_lcmp cx st hd rfl (E_if_leY cx st hd2 ho hp (fun z => c1 ((lw_gt x y).mp z)) k)
theorem E_lif_leN (cx : Cx l Z n0 p e R s m args below meth c bytes ml own name rt Q F S) (st : S kc ks T h) {x y : Int64} {o : Int} (hd : decode bytes pc = .ok (.lcmp, 1)) (hd2 : decode bytes (pc + 1) = .ok (.ifCond .le o, 3)) (hp : pc + 4 = pc') (c1 : y < x) (k : F T (mkF m pc' L rest)) : F T (mkF m pc L (.long y :: .long x :: rest)) :=
  E_lcmp cx st hd rfl (E_if_leN cx st hd2 hp ((lw_gt x y).mpr c1) k)
theorem E_lif_eqY (cx : Cx l Z n0 p e R s m args below meth c bytes ml own name rt Q F S) (st : S kc ks T h) {x y : Int64} {o : Int} (hd : decode bytes pc = .ok (.lcmp, 1)) (hd2 : decode bytes (pc + 1) = .ok (.ifCond .eq o, 3)) (ho : 0 ≤ ((pc + 1 : Nat) : Int) + o) (hp : (((pc + 1 : Nat) : Int) + o).toNat = pc') (c1 : x = y) (k : F T (mkF m pc' L rest)) : F T (mkF m pc L (.long y :: .long x :: rest)) :=
  E_lcmp cx st hd rfl (E_if_eqY cx st hd2 ho hp ((lw_eq x y).mpr c1) k)
theorem E_lif_eqN (cx : Cx l Z n0 p e R s m args below meth c bytes ml own name rt Q F S) (st : S kc ks T h) {x y : Int64} {o : Int} (hd : decode bytes pc = .ok (.lcmp, 1)) (hd2 : decode bytes (pc + 1) = .ok (.ifCond .eq o, 3)) (hp : pc + 4 = pc') (c1 : ¬ (x = y)) (k : F T (mkF m pc' L rest)) : F T (mkF m pc L (.long y :: .long x :: rest)) :=
  E_lcmp cx st hd rfl (E_if_eqN cx st hd2 hp (fun z => c1 ((lw_eq x y).mp z)) k)
theorem E_lif_neY (cx : Cx l Z n0 p e R s m args below meth c bytes ml own name rt Q F S) (st : S kc ks T h) {x y : Int64} {o : Int} (hd : decode bytes pc = .ok (.lcmp, 1)) (hd2 : decode bytes (pc + 1) = .ok (.ifCond .ne o, 3)) (ho : 0 ≤ ((pc + 1 : Nat) : Int) + o) (hp : (((pc + 1 : Nat) : Int) + o).toNat = pc') (c1 : ¬ (x = y)) (k : F T (mkF m pc' L rest)) : F T (mkF m pc L (.long y :: .long x :: rest)) :=
  E_lcmp cx st hd rfl (E_if_neY cx st hd2 ho hp (fun z => c1 ((lw_eq x y).mp z)) k)
theorem E_lif_neN (cx : Cx l Z n0 p e R s m args below meth c bytes ml own name rt Q F S) (st : S kc ks T h) {x y : Int64} {o : Int} (hd : decode bytes pc = .ok (.lcmp, 1)) (hd2 : decode bytes (pc + 1) = .ok (.ifCond .ne o, 3)) (hp : pc + 4 = pc') (c1 : x = y) (k : F T (mkF m pc' L rest)) : F T (mkF m pc L (.long y :: .long x :: rest)) :=
  E_lcmp cx st hd rfl (E_if_neN cx st hd2 hp ((lw_eq x y).mpr c1) k)
theorem E_ifnullY (cx : Cx l Z n0 p e R s m args below meth c bytes ml own name rt Q F S) (st : S kc ks T h) {o : Int} (hd : decode bytes pc = .ok (.ifnull o, 3)) (ho : 0 ≤ (pc : Int) + o) (hp : ((pc : Int) + o).toNat = pc') (k : F T (mkF m pc' L rest)) : F T (mkF m pc L (.null :: rest)) :=
  cx.step (fun _ q => XS.ifnullYes (cx.at st) cx.1.1 rfl (pc0 := pc) rfl (cx.dec hd) rfl ho hp q) k
theorem E_ifnullN (cx : Cx l Z n0 p e R s m args below meth c bytes ml own name rt Q F S) (st : S kc ks T h) {b : Addr} {o : Int} (hd : decode bytes pc = .ok (.ifnull o, 3)) (hp : pc + 3 = pc') (k : F T (mkF m pc' L rest)) : F T (mkF m pc L (.ref b :: rest)) := by
  subst hp; exact cx.step (fun _ q => XS.ifnullNo (cx.at st) cx.1.1 rfl (cx.dec hd) rfl q) k
theorem E_ifnonnullY (cx : Cx l Z n0 p e R s m args below meth c bytes ml own name rt Q F S) (st : S kc ks T h) {b : Addr} {o : Int} (hd : decode bytes pc = .ok (.ifnonnull o, 3)) (ho : 0 ≤ (pc : Int) + o) (hp : ((pc : Int) + o).toNat = pc') (k : F T (mkF m pc' L rest)) : F T (mkF m pc L (.ref b :: rest)) :=
  cx.step (fun _ q => XS.ifnonnullYes (cx.at st) cx.1.1 rfl (pc0 := pc) rfl (cx.dec hd) rfl ho hp q) k
theorem E_ifnonnullN (cx : Cx l Z n0 p e R s m args below meth c bytes ml own name rt Q F S) (st : S kc ks T h) {o : Int} (hd : decode bytes pc = .ok (.ifnonnull o, 3)) (hp : pc + 3 = pc') (k : F T (mkF m pc' L rest)) : F T (mkF m pc L (.null :: rest)) := by
  subst hp; exact cx.step (fun _ q => XS.ifnonnullNo (cx.at st) cx.1.1 rfl (cx.dec hd) rfl q) k
theorem E_dup2 (cx : Cx l Z n0 p e R s m args below meth c bytes ml own name rt Q F S) (st : S kc ks T h) {x y : Value} (hd : decode bytes pc = .ok (.dup2, 1)) (hc : x.category = 1) (hc2 : y.category = 1) (hp : pc + 1 = pc') (k : F T (mkF m pc' L (x :: y :: x :: y :: rest))) : F T (mkF m pc L (x :: y :: rest)) := by
  subst hp; exact cx.step (fun _ q => Jvm.Free.XT.dup2 (cx.at st) cx.1.1 rfl (cx.dec hd) rfl hc hc2 q) k
theorem E_dup2L (cx : Cx l Z n0 p e R s m args below meth c bytes ml own name rt Q F S) (st : S kc ks T h) {x : Int64} (hd : decode bytes pc = .ok (.dup2, 1)) (hp : pc + 1 = pc') (k : F T (mkF m pc' L (.long x :: .long x :: rest))) : F T (mkF m pc L (.long x :: rest)) := by
  subst hp; exact cx.step (fun _ q => Jvm.Free.XT.dup2L (cx.at st) cx.1.1 rfl (cx.dec hd) rfl q) k
theorem E_ldc (cx : Cx l Z n0 p e R s m args below meth c bytes ml own name rt Q F S) (st : S kc ks T h) {i : Nat} {v : Int32} (w : (Jvm.Cond.constant own i v).before a0 Z = true) (hd : decode bytes pc = .ok (.ldc i, 2)) (hp : pc + 2 = pc') (k : F T (mkF m pc' L (.int v :: rest))) : F T (mkF m pc L rest) := by
  subst hp
  obtain ⟨_, _, _, X, -⟩ := cx.open st
  exact cx.step (fun t q => X.ldcInt cx.1.1 cx.2.1.1 (mvT cx.1.2.1 w) (g := mkF m pc L rest) rfl (cx.dec hd) t q) k
theorem E_ldc_w (cx : Cx l Z n0 p e R s m args below meth c bytes ml own name rt Q F S) (st : S kc ks T h) {i : Nat} {v : Int32} (w : (Jvm.Cond.constant own i v).before a0 Z = true) (hd : decode bytes pc = .ok (.ldc_w i, 3)) (hp : pc + 3 = pc') (k : F T (mkF m pc' L (.int v :: rest))) : F T (mkF m pc L rest) := by
  subst hp
  obtain ⟨_, _, _, X, -⟩ := cx.open st
  exact cx.step (fun t q => X.ldcwInt cx.1.1 cx.2.1.1 (mvT cx.1.2.1 w) (g := mkF m pc L rest) rfl (cx.dec hd) t q) k
theorem E_ldc2_w (cx : Cx l Z n0 p e R s m args below meth c bytes ml own name rt Q F S) (st : S kc ks T h) {i : Nat} {v : Int64} (w : (Jvm.Cond.constantLong own i v).before a0 Z = true) (hd : decode bytes pc = .ok (.ldc2_w i, 3)) (hp : pc + 3 = pc') (k : F T (mkF m pc' L (.long v :: rest))) : F T (mkF m pc L rest) := by
  subst hp
  obtain ⟨_, _, _, X, -⟩ := cx.open st
  exact cx.step (fun t q => X.ldc2Long cx.1.1 cx.2.1.1 (mvT cx.1.2.1 w) (g := mkF m pc L rest) rfl (cx.dec hd) t q) k
theorem E_ireturn (cx : Cx l Z n0 p e R s m args below meth c bytes ml own name rt Q F S) (st : S kc ks T h) {x : Int32} {t : FieldType} (hd : decode bytes pc = .ok (.ireturn, 1)) (hrt : rt = some t) (ht : t = .int ∨ t = .boolean ∨ t = .byte ∨ t = .char ∨ t = .short) (hn : narrow t (.int x) = .int x) (hk : kc ≤ R.cells) (hs : ks ≤ R.slots) (hQ : Q (some (.int x)) h) : F T (mkF m pc L (.int x :: rest)) :=
  cx.fin st (fun q => by rw [hrt] at q; cases q) hk hs (fun fs _ _ _ X hr => retOut X cx.1.1 (cx.2.1.2.2.1.trans hrt) hn (Or.inl ⟨rfl, ht, x, rfl⟩) (cx.dec hd) hr) hQ
theorem E_lreturn (cx : Cx l Z n0 p e R s m args below meth c bytes ml own name rt Q F S) (st : S kc ks T h) {x : Int64} (hd : decode bytes pc = .ok (.lreturn, 1)) (hrt : rt = some .long) (hk : kc ≤ R.cells) (hs : ks ≤ R.slots) (hQ : Q (some (.long x)) h) : F T (mkF m pc L (.long x :: rest)) :=
  cx.fin st (fun q => by rw [hrt] at q; cases q) hk hs (fun fs _ _ _ X hr => retOut X cx.1.1 (cx.2.1.2.2.1.trans hrt) rfl (Or.inr (Or.inl ⟨rfl, rfl, x, rfl⟩)) (cx.dec hd) hr) hQ
theorem E_areturn (cx : Cx l Z n0 p e R s m args below meth c bytes ml own name rt Q F S) (st : S kc ks T h) {x : Value} {t : FieldType} (hd : decode bytes pc = .ok (.areturn, 1)) (hrt : rt = some t) (ht : t.isReference = true) (hn : narrow t x = x) (hx : x.isRef = true) (hk : kc ≤ R.cells) (hs : ks ≤ R.slots) (hQ : Q (some x) h) : F T (mkF m pc L (x :: rest)) :=
  cx.fin st (fun q => by rw [hrt] at q; cases q) hk hs (fun fs _ _ _ X hr => retOut X cx.1.1 (cx.2.1.2.2.1.trans hrt) hn (Or.inr (Or.inr (Or.inr (Or.inr ⟨rfl, ht, hx⟩)))) (cx.dec hd) hr) hQ
theorem E_return (cx : Cx l Z n0 p e R s m args below meth c bytes ml own name rt Q F S) (st : S kc ks T h) (hd : decode bytes pc = .ok (.return_, 1)) (hrt : rt = none) (hk : kc ≤ R.cells) (hs : ks ≤ R.slots) (hQ : Q none h) : F T (mkF m pc L []) :=
  cx.fin st (fun _ => rfl) hk hs (fun fs _ _ _ X hr => X.returnOut cx.1.1 (cx.2.1.2.2.1.trans hrt) (cx.dec hd) hr) hQ
theorem narrow01 {x : Int32} (q : x = 0 ∨ x = 1) : narrow .boolean (.int x) = .int x := by rcases q with rfl | rfl <;> rfl
theorem E_callS (cx : Cx l Z n0 p e R s m args below meth c bytes ml own name rt Q F S) (st : S kc ks T h) {y : MethodName} {bytes' : ByteArray} {ml' : Nat} {rt' : Option FieldType} {rm : Room} {argsL : List Value} {Q' : Option Value → Heap → Prop} {idx W : Nat} {stk : List Value} (rest : List Value)
    (K : Con l Z y bytes' ml' rt' rm argsL.toArray h n0 Q') (w1 : (Jvm.Cond.methodLink own idx y).before a0 Z = true) (w2 : (Jvm.Cond.static y).before a0 Z = true) (w3 : (Jvm.Cond.initialized y.cls).before a0 Z = true) (w4 : (Jvm.Cond.code y bytes' ml' rt').before a0 Z = true)
    (hd : decode bytes pc = .ok (.invokestatic idx, 3)) (hstk : stk = argsL.reverse ++ rest) (hL : L.size = ml) (hlen : ∀ sig, parseMethodDescriptor y.desc = some sig → argsL.length = sig.parameters.length) (hW : (rest.map fun v => v.category).sum ≤ W)
    (hy : y.cls ≠ "java/lang/invoke/MethodHandle" ∧ y.cls ≠ "java/lang/invoke/VarHandle") (hf : rm.frames + 1 ≤ R.frames) (hlo : W + (ml' + 11) + rm.locals ≤ R.locals) (hc : kc + rm.cells ≤ kc') (hs : ks + rm.slots ≤ ks') (hc' : kc' ≤ R.cells) (hs' : ks' ≤ R.slots) (hp : pc + 3 = pc')
    (k : ∀ v T' h', S kc' ks' T' h' → Q' v h' → F T' (mkF m pc' L (v.toList ++ rest))) : F T (mkF m pc L stk) := by
  subst hp
  obtain ⟨locs, cells, slots, X, q1, q2, q3, q4⟩ := cx.open st
  have hZ := cx.1.2.1
  obtain ⟨v, _, ⟨T₁, L₁, k₁, n₁⟩, -, X₁, ⟨Lc, hQ, e1, e2, e3⟩, stp⟩ := Jvm.LawKit.callS X cx.1.1 (y := y) cx.2.1.1 (mvT hZ w1) (mvT hZ w2) (mvT hZ w3) (mvT hZ w4) hy (backOf (W := W) (Q := fun v h L => Fr n0 L ∧ Q' v h) (K []) hZ w4 w3 hf hlo) (g := mkF m pc L stk) rfl (hL.trans cx.1.2.2.2.symm) (argsL := argsL) (rest := rest) hlen hstk (by show 2 * 0 + _ ≤ _; omega) (cx.dec hd) (fun _ _ => ⟨rfl, q1, by dsimp only [Pt.cells]; omega, by dsimp only [Pt.slots]; omega⟩)
  dsimp only [Pt.U, Pt.locs, Pt.cells, Pt.slots] at X₁ e1 e2 e3 stp hQ
  subst e1 e2 e3
  refine cx.step stp (k v T₁ T₁.heap ?_ hQ.2)
  obtain ⟨-, -, -, rfl⟩ := cx
  exact ⟨_, _, _, X₁, rfl, Fr.app q2 hQ.1, by omega, by omega⟩

theorem E_newP (cx : Cx l Z n0 p e R s m args below meth c bytes ml own name rt Q F S) (st : S kc ks T h) {aty : ArrayType} {n : Int32} {cap : Nat} (w : (Jvm.Cond.arrayClass (newarray.typeOf aty)).before a0 Z = true) (hd : decode bytes pc = .ok (.newarray aty, 2)) (hn : ¬ n < 0) (hcap : n.toNatClampNeg ≤ cap) (hb : cap * 8 ≤ 536870912) (hc : kc + 1 ≤ kc') (hs : ks + cap ≤ ks') (hc' : kc' ≤ R.cells) (hs' : ks' ≤ R.slots) (hp : pc + 2 = pc') {ad : String} (had : "[" ++ (newarray.typeOf aty).toString = ad)
    (k : ∀ T' h' cA a, a = h.size → S kc' ks' T' h' → Ext h h' → Arv Z h' a cA (newarray.typeOf aty) n [] (defaultValue (newarray.typeOf aty)) → Exa Z h' a ad → F T' (mkF m pc' L (.ref a :: rest))) : F T (mkF m pc L (.int n :: rest)) := by
  subst hp
  obtain ⟨locs, cells, slots, X, q1, q2, q3, q4⟩ := cx.open st
  obtain ⟨T', h', cA, X', e', E, A, E2, stp⟩ := newPE X cx.1.1 cx.1.2.1 w q1 (g := mkF m pc L (.int n :: rest)) rfl (cx.dec hd) rfl hn (cap := cap) hcap hb (by omega) (by omega) had
  refine cx.step stp (k T' h' cA h.size rfl ?_ E (Arv.new A hn) E2)
  obtain ⟨-, -, -, rfl⟩ := cx
  exact ⟨_, _, _, X', e', q2, by omega, by omega⟩
theorem getD_int (xs : List Int32) (k : Nat) (d : Int32) : (xs.map Value.int).getD k (.int d) = .int (xs.getD k d) := by
  simp only [List.getD_eq_getElem?_getD, List.getElem?_map]
  cases xs[k]? <;> rfl
theorem getD_long (xs : List Int64) (k : Nat) (d : Int64) : (xs.map Value.long).getD k (.long d) = .long (xs.getD k d) := by
  simp only [List.getD_eq_getElem?_getD, List.getElem?_map]
  cases xs[k]? <;> rfl
theorem i32_small {i : Int32} {n : Nat} (h : ¬ i < 0 ∧ i < Int32.ofNat n) (hn : n < 2147483648) : i.toNatClampNeg < n ∧ i = Int32.ofNat i.toNatClampNeg := by
  obtain ⟨h1, h2⟩ := h
  have e1 := rng32 i
  rw [Int32.lt_iff_toInt_lt] at h1 h2
  have k1 : (0 : Int32).toInt = 0 := rfl
  have k2 : (Int32.ofNat n).toInt = n := Int32.toInt_ofNat_of_lt hn
  rw [k1] at h1; rw [k2] at h2
  have e2 : i.toNatClampNeg = i.toInt.toNat := rfl
  refine ⟨by omega, ?_⟩
  apply Int32.toInt_inj.mp
  rw [Int32.toInt_ofNat_of_lt (by omega)]; omega
theorem i32_rem (k : Int32) (n : Nat) (hk : 0 ≤ k.toInt) (h0 : 0 < n) (hn : n < 2147483648) : ¬ (k % Int32.ofNat n) < 0 ∧ (k % Int32.ofNat n) < Int32.ofNat n := by
  have k2 : (Int32.ofNat n).toInt = n := Int32.toInt_ofNat_of_lt hn
  have r := (c_irem k (Int32.ofNat n) n k2).1 hk
  have q1 := Int.emod_nonneg k.toInt (by omega : (n : Int) ≠ 0)
  have q2 := Int.emod_lt_of_pos k.toInt (by omega : (0 : Int) < n)
  have k1 : (0 : Int32).toInt = 0 := rfl
  rw [Int32.lt_iff_toInt_lt, Int32.lt_iff_toInt_lt, k1, k2, r]
  omega
theorem i32_succ {w : Int32} {n : Nat} (h : ¬ w < 0 ∧ w < Int32.ofNat n) (hn : n < 2147483647) : (¬ (w + 1) < 0 ∧ (w + 1) < Int32.ofNat (n + 1)) ∧ (w + 1).toNatClampNeg = w.toNatClampNeg + 1 := by
  obtain ⟨h1, h2⟩ := h
  have e1 := rng32 w
  rw [Int32.lt_iff_toInt_lt] at h1 h2
  have k1 : (0 : Int32).toInt = 0 := rfl
  have k3 : (1 : Int32).toInt = 1 := rfl
  have k2 : (Int32.ofNat n).toInt = n := Int32.toInt_ofNat_of_lt (by omega)
  have k4 : (Int32.ofNat (n + 1)).toInt = ((n + 1 : Nat) : Int) := Int32.toInt_ofNat_of_lt (by omega)
  rw [k1] at h1; rw [k2] at h2
  have e : (w + 1).toInt = w.toInt + 1 := by
    rw [Jvm.Free.XT.add32, k3]; rw [k3]; exact ⟨by omega, by omega⟩
  refine ⟨?_, ?_⟩
  · rw [Int32.lt_iff_toInt_lt, Int32.lt_iff_toInt_lt, k1, k4, e]; omega
  · show (w + 1).toInt.toNat = w.toInt.toNat + 1
    rw [e]; omega
theorem idx_of {n j : Int32} (h1 : ¬ j < 0) (h2 : j < n) : ¬ j < 0 ∧ j < n := ⟨h1, h2⟩
theorem E_iaload (cx : Cx l Z n0 p e R s m args below meth c bytes ml own name rt Q F S) (st : S kc ks T h) {a : Addr} {kA : ClassId} {n j x : Int32} {vs : List Value} {dv : Value} (V : Arv Z h a kA .int n vs dv) (hj : ¬ j < 0 ∧ j < n) (hv : vs.getD j.toNatClampNeg dv = .int x) (hd : decode bytes pc = .ok (.iaload, 1)) (hp : pc + 1 = pc') (k : F T (mkF m pc' L (.int x :: rest))) : F T (mkF m pc L (.int j :: .ref a :: rest)) := by
  subst hp
  obtain ⟨_, _, _, X, q1, -⟩ := cx.open st
  obtain ⟨cl, A, -, S1, N1, H1, G1⟩ := V
  have hin := inb_of S1 hj
  exact cx.step (fun t q => X.iaload cx.1.1 (j := j) (v := .int x) (by rw [q1]; exact A.1) (State.isArrayOf_alike cx.1.2.1.alike A.2.1) A.2.2 hin (H1.at hin hv) (g := mkF m pc L (.int j :: .ref a :: rest)) rfl rfl (cx.dec hd) t q) k
theorem E_laload (cx : Cx l Z n0 p e R s m args below meth c bytes ml own name rt Q F S) (st : S kc ks T h) {a : Addr} {kA : ClassId} {n j : Int32} {x : Int64} {vs : List Value} {dv : Value} (V : Arv Z h a kA .long n vs dv) (hj : ¬ j < 0 ∧ j < n) (hv : vs.getD j.toNatClampNeg dv = .long x) (hd : decode bytes pc = .ok (.laload, 1)) (hp : pc + 1 = pc') (k : F T (mkF m pc' L (.long x :: rest))) : F T (mkF m pc L (.int j :: .ref a :: rest)) := by
  subst hp
  obtain ⟨_, _, _, X, q1, -⟩ := cx.open st
  obtain ⟨cl, A, -, S1, N1, H1, G1⟩ := V
  have hin := inb_of S1 hj
  exact cx.step (fun t q => X.laload cx.1.1 (j := j) (v := .long x) (by rw [q1]; exact A.1) (State.isArrayOf_alike cx.1.2.1.alike A.2.1) A.2.2 hin (H1.at hin hv) (g := mkF m pc L (.int j :: .ref a :: rest)) rfl rfl (cx.dec hd) t q) k
theorem E_iastore (cx : Cx l Z n0 p e R s m args below meth c bytes ml own name rt Q F S) (st : S kc ks T h) {a : Addr} {kA : ClassId} {n j x : Int32} {vs : List Value} {dv : Value} {i : Nat} (V : Arv Z h a kA .int n vs dv) (hj : ¬ j < 0 ∧ j < n) (hi : j.toNatClampNeg = i) (hlt : i < vs.length) (g : n0 ≤ a) (hd : decode bytes pc = .ok (.iastore, 1)) (hp : pc + 1 = pc')
    (k : ∀ T' h', S kc ks T' h' → Wr h h' a i (.int x) → Arv Z h' a kA .int n (vs.set i (.int x)) dv → F T' (mkF m pc' L rest)) : F T (mkF m pc L (.int x :: .int j :: .ref a :: rest)) := by
  subst hp hi
  obtain ⟨_, _, _, X, q1, q2, q3, q4⟩ := cx.open st
  obtain ⟨cl, A, e1, S1, N1, H1, G1⟩ := V
  obtain ⟨T', h', X', e', W, stp⟩ := Jvm.RoadKit.stI X cx.1.1 cx.1.2.1 q1 A (j := j) (x := x) (inb_of S1 hj) (g := mkF m pc L (.int x :: .int j :: .ref a :: rest)) rfl rfl (cx.dec hd)
  refine cx.step stp (k T' h' ?_ W (Arv.set A e1 S1 N1 H1 G1 rfl W _ rfl hlt))
  obtain ⟨-, -, -, rfl⟩ := cx
  exact ⟨_, _, _, X', e', Fr.snoc X' q2 g, q3, q4⟩
theorem E_lastore (cx : Cx l Z n0 p e R s m args below meth c bytes ml own name rt Q F S) (st : S kc ks T h) {a : Addr} {kA : ClassId} {n j : Int32} {x : Int64} {vs : List Value} {dv : Value} {i : Nat} (V : Arv Z h a kA .long n vs dv) (hj : ¬ j < 0 ∧ j < n) (hi : j.toNatClampNeg = i) (hlt : i < vs.length) (g : n0 ≤ a) (hd : decode bytes pc = .ok (.lastore, 1)) (hp : pc + 1 = pc')
    (k : ∀ T' h', S kc ks T' h' → Wr h h' a i (.long x) → Arv Z h' a kA .long n (vs.set i (.long x)) dv → F T' (mkF m pc' L rest)) : F T (mkF m pc L (.long x :: .int j :: .ref a :: rest)) := by
  subst hp hi
  obtain ⟨_, _, _, X, q1, q2, q3, q4⟩ := cx.open st
  obtain ⟨cl, A, e1, S1, N1, H1, G1⟩ := V
  obtain ⟨T', h', X', e', W, stp⟩ := Jvm.RoadKit.stJ X cx.1.1 cx.1.2.1 q1 A (j := j) (x := x) (inb_of S1 hj) (g := mkF m pc L (.long x :: .int j :: .ref a :: rest)) rfl rfl (cx.dec hd)
  refine cx.step stp (k T' h' ?_ W (Arv.set A e1 S1 N1 H1 G1 rfl W _ rfl hlt))
  obtain ⟨-, -, -, rfl⟩ := cx
  exact ⟨_, _, _, X', e', Fr.snoc X' q2 g, q3, q4⟩
theorem E_arraylength (cx : Cx l Z n0 p e R s m args below meth c bytes ml own name rt Q F S) (st : S kc ks T h) {a : Addr} {kA : ClassId} {n : Int32} {ty : FieldType} {vs : List Value} {dv : Value} (V : Arv Z h a kA ty n vs dv) (hd : decode bytes pc = .ok (.arraylength, 1)) (hp : pc + 1 = pc') (k : F T (mkF m pc' L (.int n :: rest))) : F T (mkF m pc L (.ref a :: rest)) := by
  subst hp
  obtain ⟨_, _, _, X, q1, -⟩ := cx.open st
  obtain ⟨cl, A, -, S1, N1, H1, G1⟩ := V
  refine cx.step (fun t q => X.arraylength cx.1.1 (by rw [q1]; exact A.1) (State.isArrayOf_alike cx.1.2.1.alike A.2.1) (g := mkF m pc L (.ref a :: rest)) rfl rfl (cx.dec hd) t ?_) k
  rw [len_of S1 N1]; exact q

theorem E_new (cx : Cx l Z n0 p e R s m args below meth c bytes ml own name rt Q F S) (st : S kc ks T h) {C : String} {idx n : Nat} (w1 : (Jvm.Cond.classLink own idx C).before a0 Z = true) (w2 : (Jvm.Cond.instantiable C n).before a0 Z = true) (w3 : (Jvm.Cond.initialized C).before a0 Z = true) (hd : decode bytes pc = .ok (.new idx, 3)) (hc : kc + 1 ≤ kc') (hs : ks + n ≤ ks') (hc' : kc' ≤ R.cells) (hs' : ks' ≤ R.slots) (hp : pc + 3 = pc')
    (k : ∀ T' h' a, a = h.size → S kc' ks' T' h' → Ext h h' → Exa Z h' a C → (∀ {O nm d : String} {ty : FieldType}, Laid Z a0 C O nm d → parseFieldDescriptor d = some ty → Fld Z h' a O nm d (defaultValue ty)) → F T' (mkF m pc' L (.ref a :: rest))) : F T (mkF m pc L rest) := by
  subst hp
  obtain ⟨locs, cells, slots, X, q1, q2, q3, q4⟩ := cx.open st
  obtain ⟨T', h', X', e', E, A, D, -, stp⟩ := newO X cx.1.1 cx.1.2.1 cx.2.1.1 w1 w2 w3 q1 (g := mkF m pc L rest) rfl (cx.dec hd) (by omega) (by omega)
  refine cx.step stp (k T' h' h.size rfl ?_ E A D)
  obtain ⟨-, -, -, rfl⟩ := cx
  exact ⟨_, _, _, X', e', q2, by omega, by omega⟩
theorem E_initO (cx : Cx l Z n0 p e R s m args below meth c bytes ml own name rt Q F S) (st : S kc ks T h) {a : Addr} {idx W : Nat} (w1 : (Jvm.Cond.methodLink own idx Lib.objectInit).before a0 Z = true) (w2 : (Jvm.Cond.instanceMethod Lib.objectInit).before a0 Z = true) (w3 : (Jvm.Cond.code Lib.objectInit ⟨#[0xb1]⟩ 1 none).before a0 Z = true) (hd : decode bytes pc = .ok (.invokespecial idx, 3)) (hL : L.size = ml) (hf : 1 ≤ R.frames) (hW : (rest.map fun v => v.category).sum ≤ W) (hl : W + 12 ≤ R.locals) (hp : pc + 3 = pc')
    (k : ∀ T', S kc ks T' h → F T' (mkF m pc' L rest)) : F T (mkF m pc L (.ref a :: rest)) := by
  subst hp
  obtain ⟨locs, cells, slots, X, q1, q2, q3, q4⟩ := cx.open st
  obtain ⟨T', X', e', stp⟩ := initO X cx.1.1 cx.1.2.1 cx.2.1.1 w1 w2 w3 q1 (g := mkF m pc L (.ref a :: rest)) rfl (hL.trans cx.1.2.2.2.symm) rfl (cx.dec hd) hf (W := W) (by show 2 * 0 + _ ≤ _; omega) hl
  refine cx.step stp (k T' ?_)
  obtain ⟨-, -, -, rfl⟩ := cx
  exact ⟨_, _, _, X', e', q2, q3, q4⟩
theorem E_getfield (cx : Cx l Z n0 p e R s m args below meth c bytes ml own name rt Q F S) (st : S kc ks T h) {a : Addr} {v : Value} {C n d : String} {idx : Nat} (w : (Jvm.Cond.fieldLink own idx C n d).before a0 Z = true) (G : Fld Z h a C n d v) (hd : decode bytes pc = .ok (.getfield idx, 3)) (hp : pc + 3 = pc')
    (k : ∀ T', S kc ks T' h → F T' (mkF m pc' L (v :: rest))) : F T (mkF m pc L (.ref a :: rest)) := by
  subst hp
  obtain ⟨locs, cells, slots, X, q1, q2, q3, q4⟩ := cx.open st
  obtain ⟨T', X', e', stp⟩ := getF X cx.1.1 cx.1.2.1 cx.2.1.1 (host := "") (Or.inl w) Via.refl q1 G (g := mkF m pc L (.ref a :: rest)) rfl rfl (cx.dec hd)
  refine cx.step stp (k T' ?_)
  obtain ⟨-, -, -, rfl⟩ := cx
  exact ⟨_, _, _, X', e', q2, q3, q4⟩
theorem E_putfield (cx : Cx l Z n0 p e R s m args below meth c bytes ml own name rt Q F S) (st : S kc ks T h) {a : Addr} {v old : Value} {C O n d : String} {idx kk : Nat} {ty : FieldType} (w : (Jvm.Cond.fieldLink own idx O n d).before a0 Z = true) (G : Fld Z h a O n d old) (E : Exa Z h a C) (La : (Jvm.Cond.lays C O n d).before a0 Z = true ∨ ((Jvm.Cond.laysFinal C O n d).before a0 Z = true ∧ own = O ∧ name = "<init>")) (wi : (Jvm.Cond.instantiable C kk).before a0 Z = true)
    (hty : parseFieldDescriptor d = some ty) (hn : narrow ty v = v) (hf : fits ty v = true) (ga : n0 ≤ a) (hd : decode bytes pc = .ok (.putfield idx, 3)) (hp : pc + 3 = pc')
    (k : ∀ T' h', S kc ks T' h' → Wr h h' a (Jvm.RoadKit.slotOf Z O n d) v → F T' (mkF m pc' L rest)) : F T (mkF m pc L (v :: .ref a :: rest)) := by
  subst hp
  obtain ⟨locs, cells, slots, X, q1, q2, q3, q4⟩ := cx.open st
  obtain ⟨T', h', X', e', W, stp⟩ := putF X cx.1.1 cx.1.2.1 cx.2.1.1 (host := "") (Or.inl w) Via.refl q1 G E (La.imp id fun z => ⟨z.1, z.2.1, cx.2.1.2.1.trans z.2.2⟩) wi hty hn hf (g := mkF m pc L (v :: .ref a :: rest)) rfl rfl (cx.dec hd)
  refine cx.step stp (k T' h' ?_ W)
  obtain ⟨-, -, -, rfl⟩ := cx
  exact ⟨_, _, _, X', e', Fr.snoc X' q2 ga, q3, q4⟩
theorem E_callI (cx : Cx l Z n0 p e R s m args below meth c bytes ml own name rt Q F S) (st : S kc ks T h) {y : MethodName} {bytes' : ByteArray} {ml' : Nat} {rm : Room} {a : Addr} {argsL : List Value} {Q' : Option Value → Heap → Prop} {idx W : Nat} {stk : List Value} (rest : List Value)
    (K : Con l Z y bytes' ml' none rm (.ref a :: argsL).toArray h n0 Q') (hy1 : y.name = "<init>") (w1 : (Jvm.Cond.methodLink own idx y).before a0 Z = true) (w2 : (Jvm.Cond.instanceMethod y).before a0 Z = true) (w3 : (Jvm.Cond.initialized y.cls).before a0 Z = true) (w4 : (Jvm.Cond.code y bytes' ml' none).before a0 Z = true)
    (hd : decode bytes pc = .ok (.invokespecial idx, 3)) (hstk : stk = argsL.reverse ++ .ref a :: rest) (hL : L.size = ml) (hlen : ∀ sig, parseMethodDescriptor y.desc = some sig → argsL.length = sig.parameters.length) (hW : (rest.map fun v => v.category).sum ≤ W)
    (hy : y.cls ≠ "java/lang/invoke/MethodHandle" ∧ y.cls ≠ "java/lang/invoke/VarHandle") (hf : rm.frames + 1 ≤ R.frames) (hlo : W + (ml' + 11) + rm.locals ≤ R.locals) (hc : kc + rm.cells ≤ kc') (hs : ks + rm.slots ≤ ks') (hc' : kc' ≤ R.cells) (hs' : ks' ≤ R.slots) (hp : pc + 3 = pc')
    (k : ∀ v T' h', S kc' ks' T' h' → Q' v h' → F T' (mkF m pc' L (v.toList ++ rest))) : F T (mkF m pc L stk) := by
  subst hp
  obtain ⟨locs, cells, slots, X, q1, q2, q3, q4⟩ := cx.open st
  have hZ := cx.1.2.1
  obtain ⟨v, _, ⟨T₁, L₁, k₁, n₁⟩, -, X₁, ⟨Lc, hQ, e1, e2, e3⟩, stp⟩ := X.specialBack cx.1.1 (y := y) hy1 cx.2.1.1 (mvT hZ w1) (mvT hZ w2) (mvT hZ w4) hy (backOf (W := W) (Q := fun v h L => Fr n0 L ∧ Q' v h) (K []) hZ w4 w3 hf hlo) (g := mkF m pc L stk) rfl (hL.trans cx.1.2.2.2.symm) (Steps.refl _) (a := a) (argsL := argsL) (rest := rest) hlen hstk (by show 2 * 0 + _ ≤ _; omega) (cx.dec hd) (fun _ _ => ⟨rfl, q1, by dsimp only [Pt.cells]; omega, by dsimp only [Pt.slots]; omega⟩)
  dsimp only [Pt.U, Pt.locs, Pt.cells, Pt.slots] at X₁ e1 e2 e3 stp hQ
  subst e1 e2 e3
  refine cx.step (fun _ q => stp.trans q) (k v T₁ T₁.heap ?_ hQ.2)
  obtain ⟨-, -, -, rfl⟩ := cx
  exact ⟨_, _, _, X₁, rfl, Fr.app q2 hQ.1, by omega, by omega⟩
theorem E_callV (cx : Cx l Z n0 p e R s m args below meth c bytes ml own name rt Q F S) (st : S kc ks T h) {y : MethodName} {bytes' : ByteArray} {ml' : Nat} {rt' : Option FieldType} {rm : Room} {a : Addr} {argsL : List Value} {Q' : Option Value → Heap → Prop} {idx W : Nat} {stk : List Value} (rest : List Value)
    (K : Con l Z y bytes' ml' rt' rm (.ref a :: argsL).toArray h n0 Q') (E : Exa Z h a y.cls) (w1 : (Jvm.Cond.methodLink own idx y).before a0 Z = true) (w5 : (Jvm.Cond.declares y).before a0 Z = true) (w6 : (Jvm.Cond.selects y.cls y y).before a0 Z = true) (w2 : (Jvm.Cond.instanceMethod y).before a0 Z = true) (w3 : (Jvm.Cond.initialized y.cls).before a0 Z = true) (w4 : (Jvm.Cond.code y bytes' ml' rt').before a0 Z = true)
    (hd : decode bytes pc = .ok (.invokevirtual idx, 3)) (hstk : stk = argsL.reverse ++ .ref a :: rest) (hL : L.size = ml) (hlen : ∀ sig, parseMethodDescriptor y.desc = some sig → argsL.length = sig.parameters.length) (hW : (rest.map fun v => v.category).sum ≤ W)
    (hy : y.cls ≠ "java/lang/invoke/MethodHandle" ∧ y.cls ≠ "java/lang/invoke/VarHandle") (hf : rm.frames + 1 ≤ R.frames) (hlo : W + (ml' + 11) + rm.locals ≤ R.locals) (hc : kc + rm.cells ≤ kc') (hs : ks + rm.slots ≤ ks') (hc' : kc' ≤ R.cells) (hs' : ks' ≤ R.slots) (hp : pc + 3 = pc')
    (k : ∀ v T' h', S kc' ks' T' h' → Q' v h' → F T' (mkF m pc' L (v.toList ++ rest))) : F T (mkF m pc L stk) := by
  subst hp
  obtain ⟨locs, cells, slots, X, q1, q2, q3, q4⟩ := cx.open st
  have hZ := cx.1.2.1
  obtain ⟨cq, kq, qa, qb, qc⟩ := isOf hZ q1 E
  obtain ⟨v, _, ⟨T₁, L₁, k₁, n₁⟩, -, X₁, ⟨Lc, hQ, e1, e2, e3⟩, stp⟩ := X.virtualBack cx.1.1 (y := y) (z := y) cx.2.1.1 (mvT hZ w1) (mvT hZ w5) (notFace_of_selects (args := #[]) (mvT hZ w6)) (mvT hZ w6) (mvT hZ w2) hy (backOf (W := W) (Q := fun v h L => Fr n0 L ∧ Q' v h) (K []) hZ w4 w3 hf hlo) qa qc (g := mkF m pc L stk) rfl (hL.trans cx.1.2.2.2.symm) (Steps.refl _) (argsL := argsL) (rest := rest) hlen hstk (by show 2 * 0 + _ ≤ _; omega) (cx.dec hd) (fun _ _ => ⟨rfl, q1, by dsimp only [Pt.cells]; omega, by dsimp only [Pt.slots]; omega⟩)
  dsimp only [Pt.U, Pt.locs, Pt.cells, Pt.slots] at X₁ e1 e2 e3 stp hQ
  subst e1 e2 e3
  refine cx.step (fun _ q => stp.trans q) (k v T₁ T₁.heap ?_ hQ.2)
  obtain ⟨-, -, -, rfl⟩ := cx
  exact ⟨_, _, _, X₁, rfl, Fr.app q2 hQ.1, by omega, by omega⟩
theorem E_callP (cx : Cx l Z n0 p e R s m args below meth c bytes ml own name rt Q F S) (st : S kc ks T h) {y : MethodName} {bytes' : ByteArray} {ml' : Nat} {rt' : Option FieldType} {rm : Room} {a : Addr} {argsL : List Value} {Q' : Option Value → Heap → Prop} {idx W : Nat} {stk : List Value} (rest : List Value)
    (K : Con l Z y bytes' ml' rt' rm (.ref a :: argsL).toArray h n0 Q') (E : Exa Z h a y.cls) (w1 : (Jvm.Cond.methodLink own idx y).before a0 Z = true) (w5 : (Jvm.Cond.privateMethod y).before a0 Z = true) (w6 : (Jvm.Cond.selects y.cls y y).before a0 Z = true) (w2 : (Jvm.Cond.instanceMethod y).before a0 Z = true) (w3 : (Jvm.Cond.initialized y.cls).before a0 Z = true) (w4 : (Jvm.Cond.code y bytes' ml' rt').before a0 Z = true)
    (hd : decode bytes pc = .ok (.invokevirtual idx, 3)) (hstk : stk = argsL.reverse ++ .ref a :: rest) (hL : L.size = ml) (hlen : ∀ sig, parseMethodDescriptor y.desc = some sig → argsL.length = sig.parameters.length) (hW : (rest.map fun v => v.category).sum ≤ W)
    (hy : y.cls ≠ "java/lang/invoke/MethodHandle" ∧ y.cls ≠ "java/lang/invoke/VarHandle") (hf : rm.frames + 1 ≤ R.frames) (hlo : W + (ml' + 11) + rm.locals ≤ R.locals) (hc : kc + rm.cells ≤ kc') (hs : ks + rm.slots ≤ ks') (hc' : kc' ≤ R.cells) (hs' : ks' ≤ R.slots) (hp : pc + 3 = pc')
    (k : ∀ v T' h', S kc' ks' T' h' → Q' v h' → F T' (mkF m pc' L (v.toList ++ rest))) : F T (mkF m pc L stk) := by
  subst hp
  obtain ⟨locs, cells, slots, X, q1, q2, q3, q4⟩ := cx.open st
  have hZ := cx.1.2.1
  obtain ⟨cq, qa, qb⟩ := E.cell
  obtain ⟨v, _, ⟨T₁, L₁, k₁, n₁⟩, -, X₁, ⟨Lc, hQ, e1, e2, e3⟩, stp⟩ := X.privateBack cx.1.1 (y := y) cx.2.1.1 (mvT hZ w1) (mvT hZ w2) (mvT hZ w6) (Cond.privateMethod_at (mvP hZ w5 (args := #[]))) (mvT hZ w4) hy (backOf (W := W) (Q := fun v h L => Fr n0 L ∧ Q' v h) (K []) hZ w4 w3 hf hlo) (g := mkF m pc L stk) rfl (hL.trans cx.1.2.2.2.symm) (Steps.refl _) (a := a) (by rw [q1]; exact qa) qb (argsL := argsL) (rest := rest) hlen hstk (by show 2 * 0 + _ ≤ _; omega) (cx.dec hd) (fun _ _ => ⟨rfl, q1, by dsimp only [Pt.cells]; omega, by dsimp only [Pt.slots]; omega⟩)
  dsimp only [Pt.U, Pt.locs, Pt.cells, Pt.slots] at X₁ e1 e2 e3 stp hQ
  subst e1 e2 e3
  refine cx.step (fun _ q => stp.trans q) (k v T₁ T₁.heap ?_ hQ.2)
  obtain ⟨-, -, -, rfl⟩ := cx
  exact ⟨_, _, _, X₁, rfl, Fr.app q2 hQ.1, by omega, by omega⟩
theorem E_clone (cx : Cx l Z n0 p e R s m args below meth c bytes ml own name rt Q F S) (st : S kc ks T h) {a : Addr} {ad : String} {idx W cap : Nat} {kA : ClassId} {z : Int32} {vs : List Value} {dv : Value} {ty : FieldType} (V : Arv Z h a kA ty z vs dv) (E : Exa Z h a ad)
    (w1 : (Jvm.Cond.methodLink own idx ⟨ad, "clone", "()Ljava/lang/Object;"⟩).before a0 Z = true) (w2 : (Jvm.Cond.sameMethod ad "java/lang/Object" "clone" "()Ljava/lang/Object;").before a0 Z = true) (w3 : (Jvm.Cond.native ⟨"java/lang/Object", "clone", "()Ljava/lang/Object;"⟩).before a0 Z = true)
    (w4 : (Jvm.Cond.instanceMethod ⟨"java/lang/Object", "clone", "()Ljava/lang/Object;"⟩).before a0 Z = true) (w5 : (Jvm.Cond.selects ad ⟨ad, "clone", "()Ljava/lang/Object;"⟩ ⟨"java/lang/Object", "clone", "()Ljava/lang/Object;"⟩).before a0 Z = true) (w6 : (Jvm.Cond.castable ad "java/lang/Cloneable").before a0 Z = true)
    (hd : decode bytes pc = .ok (.invokevirtual idx, 3)) (hL : L.size = ml) (hf : 1 ≤ R.frames) (hW : (rest.map fun v => v.category).sum ≤ W) (hlo : W + 14 ≤ R.locals) (hcap : z.toNatClampNeg ≤ cap) (hc : kc + 1 ≤ kc') (hs : ks + cap ≤ ks') (hc' : kc' ≤ R.cells) (hs' : ks' ≤ R.slots) (hp : pc + 3 = pc')
    (k : ∀ T' h' b, b = h.size → S kc' ks' T' h' → Ext h h' → Arv Z h' b kA ty z vs dv → Exa Z h' b ad → F T' (mkF m pc' L (.ref b :: rest))) : F T (mkF m pc L (.ref a :: rest)) := by
  subst hp
  obtain ⟨locs, cells, slots, X, q1, q2, q3, q4⟩ := cx.open st
  obtain ⟨cl, A, e1, S1, e3, H, G⟩ := V
  have FC : FitC Z cl := fitC_of A fun i hi v hv => by rw [H i hi] at hv; cases hv; exact G i hi
  obtain ⟨T', h', X', e', ex, A', E', stp⟩ := cloneA X cx.1.1 cx.1.2.1 cx.2.1.1 w1 w2 w3 w4 w5 w6 q1 A E FC (g := mkF m pc L (.ref a :: rest)) rfl (hL.trans cx.1.2.2.2.symm) rfl (cx.dec hd) hf (W := W) (cap := cap) (by show 2 * 0 + _ ≤ _; omega) hlo (by rw [S1]; exact hcap) (by omega) (by omega)
  refine cx.step stp (k T' h' h.size rfl ?_ ex ⟨cloneOf cl, A', e1, S1, e3, H, G⟩ E')
  obtain ⟨-, -, -, rfl⟩ := cx
  exact ⟨_, _, _, X', e', q2, by omega, by omega⟩
theorem E_checkcast (cx : Cx l Z n0 p e R s m args below meth c bytes ml own name rt Q F S) (st : S kc ks T h) {a : Addr} {C : String} {idx : Nat} (w : (Jvm.Cond.classLink own idx C).before a0 Z = true) (I : Ins Z h a C true) (hd : decode bytes pc = .ok (.checkcast idx, 3)) (hp : pc + 3 = pc')
    (k : ∀ T', S kc ks T' h → F T' (mkF m pc' L (.ref a :: rest))) : F T (mkF m pc L (.ref a :: rest)) := by
  subst hp
  obtain ⟨locs, cells, slots, X, q1, q2, q3, q4⟩ := cx.open st
  obtain ⟨T', X', e', stp⟩ := castY X cx.1.1 cx.1.2.1 cx.2.1.1 w q1 I (g := mkF m pc L (.ref a :: rest)) rfl rfl (cx.dec hd)
  refine cx.step stp (k T' ?_)
  obtain ⟨-, -, -, rfl⟩ := cx
  exact ⟨_, _, _, X', e', q2, q3, q4⟩
theorem E_aaload (cx : Cx l Z n0 p e R s m args below meth c bytes ml own name rt Q F S) (st : S kc ks T h) {a : Addr} {kA : ClassId} {n j : Int32} {ty : FieldType} {v : Value} {vs : List Value} {dv : Value} (V : Arv Z h a kA ty n vs dv) (hty : ty.isReference = true) (hj : ¬ j < 0 ∧ j < n) (hv : vs.getD j.toNatClampNeg dv = v) (hd : decode bytes pc = .ok (.aaload, 1)) (hp : pc + 1 = pc') (k : F T (mkF m pc' L (v :: rest))) : F T (mkF m pc L (.int j :: .ref a :: rest)) := by
  subst hp
  obtain ⟨_, _, _, X, q1, -⟩ := cx.open st
  obtain ⟨cl, A, -, S1, N1, H1, G1⟩ := V
  have hin := inb_of S1 hj
  exact cx.step (fun t q => X.aaload cx.1.1 (j := j) (v := v) (by rw [q1]; exact A.1) (State.isArrayOf_alike cx.1.2.1.alike A.2.1) hty A.2.2 hin (H1.at hin hv) (g := mkF m pc L (.int j :: .ref a :: rest)) rfl rfl (cx.dec hd) t q) k
theorem E_aastore (cx : Cx l Z n0 p e R s m args below meth c bytes ml own name rt Q F S) (st : S kc ks T h) {a : Addr} {kA : ClassId} {n j : Int32} {ty : FieldType} {v : Value} {vs : List Value} {dv : Value} {i : Nat} (V : Arv Z h a kA ty n vs dv) (hty : ty.isReference = true) (hst : Sto Z h a v) (hfv : fits ty v = true) (hj : ¬ j < 0 ∧ j < n) (hi : j.toNatClampNeg = i) (hlt : i < vs.length) (g : n0 ≤ a) (hd : decode bytes pc = .ok (.aastore, 1)) (hp : pc + 1 = pc')
    (k : ∀ T' h', S kc ks T' h' → Wr h h' a i v → Arv Z h' a kA ty n (vs.set i v) dv → F T' (mkF m pc' L rest)) : F T (mkF m pc L (v :: .int j :: .ref a :: rest)) := by
  subst hp hi
  obtain ⟨_, _, _, X, q1, q2, q3, q4⟩ := cx.open st
  obtain ⟨cl, A, e1, S1, N1, H1, G1⟩ := V
  obtain ⟨T', h', X', e', W, stp⟩ := Jvm.RoadKit.stR X cx.1.1 cx.1.2.1 q1 A (j := j) (inb_of S1 hj) hty hst (g := mkF m pc L (v :: .int j :: .ref a :: rest)) rfl rfl (cx.dec hd)
  refine cx.step stp (k T' h' ?_ W (Arv.set A e1 S1 N1 H1 G1 hfv W _ rfl hlt))
  obtain ⟨-, -, -, rfl⟩ := cx
  exact ⟨_, _, _, X', e', Fr.snoc X' q2 g, q3, q4⟩
theorem E_arraycopy (cx : Cx l Z n0 p e R s m args below meth c bytes ml own name rt Q F S) (st : S kc ks T h) {a b : Addr} {kA kB : ClassId} {ty : FieldType} {z z' sp dp nn : Int32} {vs vd us : List Value} {dv dd : Value} {idx W : Nat} (A : Arv Z h a kA ty z vs dv) (B : Arv Z h b kB ty z' vd dd) (hty : refKind ty = false)
    (w1 : (Jvm.Cond.methodLink own idx Jvm.Stand.acN).before a0 Z = true) (w2 : (Jvm.Cond.native Jvm.Stand.acN).before a0 Z = true) (w3 : (Jvm.Cond.static Jvm.Stand.acN).before a0 Z = true) (w4 : (Jvm.Cond.initialized "java/lang/System").before a0 Z = true)
    (h1 : ¬ sp < 0) (h2 : ¬ dp < 0) (h3 : ¬ nn < 0) (h4 : sp.toNatClampNeg + nn.toNatClampNeg ≤ z.toNatClampNeg) (h5 : dp.toNatClampNeg + nn.toNatClampNeg ≤ z'.toNatClampNeg) (hus : us = (List.range nn.toNatClampNeg).map fun i => vs.getD (sp.toNatClampNeg + i) dv) (hl : dp.toNatClampNeg + nn.toNatClampNeg ≤ vd.length) (ge : n0 ≤ b)
    (hd : decode bytes pc = .ok (.invokestatic idx, 3)) (hL : L.size = ml) (hf : 1 ≤ R.frames) (hW : (rest.map fun v => v.category).sum ≤ W) (hlo : W + (nativeFrameWords "java/lang/System" "arraycopy" 5 + 11) ≤ R.locals) (hp : pc + 3 = pc')
    (k : ∀ T' h', S kc ks T' h' → Keep h h' [b] → Arv Z h' b kB ty z' (vd.take dp.toNatClampNeg ++ us ++ vd.drop (dp.toNatClampNeg + nn.toNatClampNeg)) dd → F T' (mkF m pc' L rest)) : F T (mkF m pc L (.int nn :: .int dp :: .ref b :: .int sp :: .ref a :: rest)) := by
  subst hp
  obtain ⟨locs, cells, slots, X, q1, q2, q3, q4⟩ := cx.open st
  obtain ⟨T', h', L', X', e', N', K', B', stp⟩ := cpA X cx.1.1 cx.1.2.1 cx.2.1.1 w1 w2 w3 w4 q1 A B (Or.inl ⟨rfl, hty⟩) h1 h2 h3 h4 h5 hus hl q2 ge (g := mkF m pc L (.int nn :: .int dp :: .ref b :: .int sp :: .ref a :: rest)) rfl (hL.trans cx.1.2.2.2.symm) rfl (cx.dec hd) hf (W := W) (by show 2 * 0 + _ ≤ _; omega) hlo
  refine cx.step stp (k T' h' ?_ K' B')
  obtain ⟨-, -, -, rfl⟩ := cx
  exact ⟨_, _, _, X', e', N', q3, q4⟩
theorem E_grid (cx : Cx l Z n0 p e R s m args below meth c bytes ml own name rt Q F S) (st : S kc ks T h) {ty : FieldType} {C ad : String} {idx : Nat} {n j : Int32} {N cap : Nat} (hC : (FieldType.array ty).toString = C) (had : "[" ++ C = ad) (w1 : (Jvm.Cond.classLink own idx ad).before a0 Z = true) (w2 : (Jvm.Cond.arrayOver (.array ty)).before a0 Z = true) (w3 : (Jvm.Cond.arrayClass ty).before a0 Z = true) (hd : decode bytes pc = .ok (.multianewarray idx 2, 4))
    (hn : ¬ n < 0) (hj : ¬ j < 0) (hN : n.toNatClampNeg = N) (hcap : j.toNatClampNeg ≤ cap) (hb : cap * 8 ≤ 536870912) (hb1 : N ≤ 1000) (hdf : fits ty (defaultValue ty) = true) (hdd : (defaultValue ty).isDefault = true) (hc : kc + (1 + N) ≤ kc') (hs : ks + (N + N * cap) ≤ ks') (hc' : kc' ≤ R.cells) (hs' : ks' ≤ R.slots) (hp : pc + 4 = pc')
    (k : ∀ T' h' cA cB, S kc' ks' T' h' → Ext h h' → Arv Z h' h.size cA (.array ty) n (((List.range N).map fun i => h.size + 1 + i).map .ref) .null → (∀ i, i < N → Arv Z h' (h.size + 1 + i) cB ty j [] (defaultValue ty)) → F T' (mkF m pc' L (.ref h.size :: rest))) : F T (mkF m pc L (.int j :: .int n :: rest)) := by
  subst hp
  obtain ⟨locs, cells, slots, X, q1, q2, q3, q4⟩ := cx.open st
  obtain ⟨T', h', cA, cB, X', e', E, A, -, -, D, stp⟩ := gridM X cx.1.1 cx.1.2.1 cx.2.1.1 hC had w1 w2 w3 q1 (g := mkF m pc L (.int j :: .int n :: rest)) rfl (cx.dec hd) rfl hn hj hN rfl (cap := cap) hcap hb hb1 hdf hdd (by omega) (by omega)
  refine cx.step stp (k T' h' cA cB ?_ E A fun i hi => Arv.new (D i _ (by simp [hi])).1 hj)
  obtain ⟨-, -, -, rfl⟩ := cx
  exact ⟨_, _, _, X', e', q2, by omega, by omega⟩
end OwnKit
theorem d2_0 : decode method_2_code 0 = .ok (.lload_n 0, 1) := by decide +kernel
theorem d2_1 : decode method_2_code 1 = .ok (.lload_n 2, 1) := by decide +kernel
theorem d2_2 : decode method_2_code 2 = .ok (.lload_n 0, 1) := by decide +kernel
theorem d2_3 : decode method_2_code 3 = .ok (.lsub, 1) := by decide +kernel
theorem d2_4 : decode method_2_code 4 = .ok (.ldc2_w 7, 3) := by decide +kernel
theorem d2_7 : decode method_2_code 7 = .ok (.ldiv, 1) := by decide +kernel
theorem d2_8 : decode method_2_code 8 = .ok (.ladd, 1) := by decide +kernel
theorem d2_9 : decode method_2_code 9 = .ok (.lreturn, 1) := by decide +kernel
theorem pn_0 : plainName "com/example/widowbid/widowbid/SolveCommandMedianPinLaw" = true := by first | (simp [plainName, overriddenIn]; done) | decide +kernel
theorem ef_2 (m : MethodId) (x0 : Int64) (x1 : Int64) : entryFrame m #[(.long x0), (.long x1)] 4 = mkF m 0 #[.val (.long x0), .second, .val (.long x1), .second] [] := by first | (simp [entryFrame, mkF, argsToLocals, Value.category]; done) | rfl
set_option maxRecDepth 65536 in
set_option maxHeartbeats 40000000 in
theorem rm2 (l : Launch) (Z : State) (a0 : Array Value) (hw : ∀ d ∈ tables_1, d.before a0 Z = true) (q0 : Int64) (q1 : Int64) (h0 : Heap) (n0 : Nat) (Z0 : n0 ≤ h0.size) :
    Con l Z (⟨"com/example/widowbid/widowbid/SolveCommandMedianPinLaw", "mid", "(JJ)J"⟩ : MethodName) method_2_code 4 (some .long) ({ frames := 0, cells := 0, slots := 0, locals := 0 } : Room) #[(.long q0), (.long q1)] h0 n0 (fun v h => v = some (.long (q0 + (q1 - q0) / 2)) ∧ h = h0) := by
  refine Con.of (own := "com/example/widowbid/widowbid/SolveCommandMedianPinLaw") (name := "mid") (plainFor_of_name pn_0) (fun m => ef_2 m q0 q1) rfl rfl ?_
  intro p e s m below meth c T F S cx st
  refine E_lloadN (pc' := 1) cx st d2_0 rfl rfl ?_
  refine E_lloadN (pc' := 2) cx st d2_1 rfl rfl ?_
  refine E_lloadN (pc' := 3) cx st d2_2 rfl rfl ?_
  refine E_lsub (pc' := 4) cx st d2_3 rfl ?_
  refine E_ldc2_w (pc' := 7) (v := (2 : Int64)) cx st (hw _ (List.mem_of_getElem? (i := 11) rfl)) d2_4 rfl ?_
  refine E_ldiv (pc' := 8) cx st d2_7 (by decide) rfl ?_
  refine E_ladd (pc' := 9) cx st d2_8 rfl ?_
  refine E_lreturn cx st d2_9 rfl (by decide) (by decide) ?_
  exact ⟨rfl, rfl⟩
theorem d1_0 : decode prog_49_method_4_code 0 = .ok (.aload_n 0, 1) := by decide +kernel
theorem d1_1 : decode prog_49_method_4_code 1 = .ok (.arraylength, 1) := by decide +kernel
theorem d1_2 : decode prog_49_method_4_code 2 = .ok (.iconst 2, 1) := by decide +kernel
theorem d1_3 : decode prog_49_method_4_code 3 = .ok (.idiv, 1) := by decide +kernel
theorem d1_4 : decode prog_49_method_4_code 4 = .ok (.istore_n 1, 1) := by decide +kernel
theorem d1_5 : decode prog_49_method_4_code 5 = .ok (.aload_n 0, 1) := by decide +kernel
theorem d1_6 : decode prog_49_method_4_code 6 = .ok (.arraylength, 1) := by decide +kernel
theorem d1_7 : decode prog_49_method_4_code 7 = .ok (.iconst 2, 1) := by decide +kernel
theorem d1_8 : decode prog_49_method_4_code 8 = .ok (.irem, 1) := by decide +kernel
theorem d1_9 : decode prog_49_method_4_code 9 = .ok (.iconst 1, 1) := by decide +kernel
theorem d1_10 : decode prog_49_method_4_code 10 = .ok (.if_icmp .ne 9, 3) := by decide +kernel
theorem d1_13 : decode prog_49_method_4_code 13 = .ok (.aload_n 0, 1) := by decide +kernel
theorem d1_14 : decode prog_49_method_4_code 14 = .ok (.iload_n 1, 1) := by decide +kernel
theorem d1_15 : decode prog_49_method_4_code 15 = .ok (.laload, 1) := by decide +kernel
theorem d1_16 : decode prog_49_method_4_code 16 = .ok (.goto 16, 3) := by decide +kernel
theorem d1_19 : decode prog_49_method_4_code 19 = .ok (.aload_n 0, 1) := by decide +kernel
theorem d1_20 : decode prog_49_method_4_code 20 = .ok (.iload_n 1, 1) := by decide +kernel
theorem d1_21 : decode prog_49_method_4_code 21 = .ok (.iconst 1, 1) := by decide +kernel
theorem d1_22 : decode prog_49_method_4_code 22 = .ok (.isub, 1) := by decide +kernel
theorem d1_23 : decode prog_49_method_4_code 23 = .ok (.laload, 1) := by decide +kernel
theorem d1_24 : decode prog_49_method_4_code 24 = .ok (.aload_n 0, 1) := by decide +kernel
theorem d1_25 : decode prog_49_method_4_code 25 = .ok (.iload_n 1, 1) := by decide +kernel
theorem d1_26 : decode prog_49_method_4_code 26 = .ok (.laload, 1) := by decide +kernel
theorem d1_27 : decode prog_49_method_4_code 27 = .ok (.ladd, 1) := by decide +kernel
theorem d1_28 : decode prog_49_method_4_code 28 = .ok (.ldc2_w 178, 3) := by decide +kernel
theorem d1_31 : decode prog_49_method_4_code 31 = .ok (.ldiv, 1) := by decide +kernel
theorem d1_32 : decode prog_49_method_4_code 32 = .ok (.lreturn, 1) := by decide +kernel
theorem pn_1 : plainName "com/example/widowbid/widowbid/SolveCommand" = true := by first | (simp [plainName, overriddenIn]; done) | decide +kernel
theorem ef_1n1 (m : MethodId) (x0 : Addr) : entryFrame m #[(.ref x0)] 2 = mkF m 0 #[.val (.ref x0), .unset] [] := by first | (simp [entryFrame, mkF, argsToLocals, Value.category]; done) | rfl
set_option maxRecDepth 65536 in
set_option maxHeartbeats 40000000 in
theorem rm1n1 (l : Launch) (Z : State) (a0 : Array Value) (hw : ∀ d ∈ tables_1, d.before a0 Z = true) (a1 : Addr) (q0 : Int64) (h0 : Heap) (n0 : Nat) (Z0 : n0 ≤ h0.size) (kA : ClassId) (V0 : Arv Z h0 a1 kA .long (1 : Int32) [(.long q0)] (.long (0 : Int64))) :
    Con l Z (⟨"com/example/widowbid/widowbid/SolveCommand", "median", "([J)J"⟩ : MethodName) prog_49_method_4_code 2 (some .long) ({ frames := 0, cells := 0, slots := 0, locals := 0 } : Room) #[(.ref a1)] h0 n0 (fun v h => v = some (.long q0) ∧ h = h0) := by
  refine Con.of (own := "com/example/widowbid/widowbid/SolveCommand") (name := "median") (plainFor_of_name pn_1) (fun m => ef_1n1 m a1) rfl rfl ?_
  intro p e s m below meth c T F S cx st
  refine E_aloadN (pc' := 1) cx st d1_0 rfl rfl rfl ?_
  refine E_arraylength (pc' := 2) cx st V0 d1_1 rfl ?_
  refine E_iconst (pc' := 3) cx st (2 : Int32) d1_2 rfl rfl ?_
  refine E_idiv (pc' := 4) cx st d1_3 (by decide) rfl ?_
  rw [show ((1 : Int32) / (2 : Int32)) = (0 : Int32) from by decide]
  refine E_istoreN (pc' := 5) (L' := #[.val (.ref a1), .val (.int (0 : Int32))]) cx st d1_4 rfl rfl ?_
  refine E_aloadN (pc' := 6) cx st d1_5 rfl rfl rfl ?_
  refine E_arraylength (pc' := 7) cx st V0 d1_6 rfl ?_
  refine E_iconst (pc' := 8) cx st (2 : Int32) d1_7 rfl rfl ?_
  refine E_irem (pc' := 9) cx st d1_8 (by decide) rfl ?_
  rw [show ((1 : Int32) % (2 : Int32)) = (1 : Int32) from by decide]
  refine E_iconst (pc' := 10) cx st (1 : Int32) d1_9 rfl rfl ?_
  refine E_icmp_neN (pc' := 13) cx st d1_10 rfl (by decide) ?_
  refine E_aloadN (pc' := 14) cx st d1_13 rfl rfl rfl ?_
  refine E_iloadN (pc' := 15) cx st d1_14 rfl rfl ?_
  refine E_laload (pc' := 16) (x := q0) cx st V0 ⟨by decide, by decide⟩ rfl d1_15 rfl ?_
  refine E_goto (pc' := 32) cx st d1_16 (by decide) (by decide) ?_
  refine E_lreturn cx st d1_32 rfl (by decide) (by decide) ?_
  exact ⟨rfl, rfl⟩
theorem ef_1n2 (m : MethodId) (x0 : Addr) : entryFrame m #[(.ref x0)] 2 = mkF m 0 #[.val (.ref x0), .unset] [] := by first | (simp [entryFrame, mkF, argsToLocals, Value.category]; done) | rfl
set_option maxRecDepth 65536 in
set_option maxHeartbeats 40000000 in
theorem rm1n2 (l : Launch) (Z : State) (a0 : Array Value) (hw : ∀ d ∈ tables_1, d.before a0 Z = true) (a1 : Addr) (q0 : Int64) (q1 : Int64) (h0 : Heap) (n0 : Nat) (Z0 : n0 ≤ h0.size) (kA : ClassId) (V0 : Arv Z h0 a1 kA .long (2 : Int32) [(.long q0), (.long q1)] (.long (0 : Int64))) :
    Con l Z (⟨"com/example/widowbid/widowbid/SolveCommand", "median", "([J)J"⟩ : MethodName) prog_49_method_4_code 2 (some .long) ({ frames := 0, cells := 0, slots := 0, locals := 0 } : Room) #[(.ref a1)] h0 n0 (fun v h => v = some (.long ((q0 + q1) / 2)) ∧ h = h0) := by
  refine Con.of (own := "com/example/widowbid/widowbid/SolveCommand") (name := "median") (plainFor_of_name pn_1) (fun m => ef_1n2 m a1) rfl rfl ?_
  intro p e s m below meth c T F S cx st
  refine E_aloadN (pc' := 1) cx st d1_0 rfl rfl rfl ?_
  refine E_arraylength (pc' := 2) cx st V0 d1_1 rfl ?_
  refine E_iconst (pc' := 3) cx st (2 : Int32) d1_2 rfl rfl ?_
  refine E_idiv (pc' := 4) cx st d1_3 (by decide) rfl ?_
  rw [show ((2 : Int32) / (2 : Int32)) = (1 : Int32) from by decide]
  refine E_istoreN (pc' := 5) (L' := #[.val (.ref a1), .val (.int (1 : Int32))]) cx st d1_4 rfl rfl ?_
  refine E_aloadN (pc' := 6) cx st d1_5 rfl rfl rfl ?_
  refine E_arraylength (pc' := 7) cx st V0 d1_6 rfl ?_
  refine E_iconst (pc' := 8) cx st (2 : Int32) d1_7 rfl rfl ?_
  refine E_irem (pc' := 9) cx st d1_8 (by decide) rfl ?_
  rw [show ((2 : Int32) % (2 : Int32)) = (0 : Int32) from by decide]
  refine E_iconst (pc' := 10) cx st (1 : Int32) d1_9 rfl rfl ?_
  refine E_icmp_neY (pc' := 19) cx st d1_10 (by decide) (by decide) (by decide) ?_
  refine E_aloadN (pc' := 20) cx st d1_19 rfl rfl rfl ?_
  refine E_iloadN (pc' := 21) cx st d1_20 rfl rfl ?_
  refine E_iconst (pc' := 22) cx st (1 : Int32) d1_21 rfl rfl ?_
  refine E_isub (pc' := 23) cx st d1_22 rfl ?_
  rw [show ((1 : Int32) - (1 : Int32)) = (0 : Int32) from by decide]
  refine E_laload (pc' := 24) (x := q0) cx st V0 ⟨by decide, by decide⟩ rfl d1_23 rfl ?_
  refine E_aloadN (pc' := 25) cx st d1_24 rfl rfl rfl ?_
  refine E_iloadN (pc' := 26) cx st d1_25 rfl rfl ?_
  refine E_laload (pc' := 27) (x := q1) cx st V0 ⟨by decide, by decide⟩ rfl d1_26 rfl ?_
  refine E_ladd (pc' := 28) cx st d1_27 rfl ?_
  refine E_ldc2_w (pc' := 31) (v := (2 : Int64)) cx st (hw _ (List.mem_of_getElem? (i := 12) rfl)) d1_28 rfl ?_
  refine E_ldiv (pc' := 32) cx st d1_31 (by decide) rfl ?_
  refine E_lreturn cx st d1_32 rfl (by decide) (by decide) ?_
  exact ⟨rfl, rfl⟩
theorem ef_1n3 (m : MethodId) (x0 : Addr) : entryFrame m #[(.ref x0)] 2 = mkF m 0 #[.val (.ref x0), .unset] [] := by first | (simp [entryFrame, mkF, argsToLocals, Value.category]; done) | rfl
set_option maxRecDepth 65536 in
set_option maxHeartbeats 40000000 in
theorem rm1n3 (l : Launch) (Z : State) (a0 : Array Value) (hw : ∀ d ∈ tables_1, d.before a0 Z = true) (a1 : Addr) (q0 : Int64) (q1 : Int64) (q2 : Int64) (h0 : Heap) (n0 : Nat) (Z0 : n0 ≤ h0.size) (kA : ClassId) (V0 : Arv Z h0 a1 kA .long (3 : Int32) [(.long q0), (.long q1), (.long q2)] (.long (0 : Int64))) :
    Con l Z (⟨"com/example/widowbid/widowbid/SolveCommand", "median", "([J)J"⟩ : MethodName) prog_49_method_4_code 2 (some .long) ({ frames := 0, cells := 0, slots := 0, locals := 0 } : Room) #[(.ref a1)] h0 n0 (fun v h => v = some (.long q1) ∧ h = h0) := by
  refine Con.of (own := "com/example/widowbid/widowbid/SolveCommand") (name := "median") (plainFor_of_name pn_1) (fun m => ef_1n3 m a1) rfl rfl ?_
  intro p e s m below meth c T F S cx st
  refine E_aloadN (pc' := 1) cx st d1_0 rfl rfl rfl ?_
  refine E_arraylength (pc' := 2) cx st V0 d1_1 rfl ?_
  refine E_iconst (pc' := 3) cx st (2 : Int32) d1_2 rfl rfl ?_
  refine E_idiv (pc' := 4) cx st d1_3 (by decide) rfl ?_
  rw [show ((3 : Int32) / (2 : Int32)) = (1 : Int32) from by decide]
  refine E_istoreN (pc' := 5) (L' := #[.val (.ref a1), .val (.int (1 : Int32))]) cx st d1_4 rfl rfl ?_
  refine E_aloadN (pc' := 6) cx st d1_5 rfl rfl rfl ?_
  refine E_arraylength (pc' := 7) cx st V0 d1_6 rfl ?_
  refine E_iconst (pc' := 8) cx st (2 : Int32) d1_7 rfl rfl ?_
  refine E_irem (pc' := 9) cx st d1_8 (by decide) rfl ?_
  rw [show ((3 : Int32) % (2 : Int32)) = (1 : Int32) from by decide]
  refine E_iconst (pc' := 10) cx st (1 : Int32) d1_9 rfl rfl ?_
  refine E_icmp_neN (pc' := 13) cx st d1_10 rfl (by decide) ?_
  refine E_aloadN (pc' := 14) cx st d1_13 rfl rfl rfl ?_
  refine E_iloadN (pc' := 15) cx st d1_14 rfl rfl ?_
  refine E_laload (pc' := 16) (x := q1) cx st V0 ⟨by decide, by decide⟩ rfl d1_15 rfl ?_
  refine E_goto (pc' := 32) cx st d1_16 (by decide) (by decide) ?_
  refine E_lreturn cx st d1_32 rfl (by decide) (by decide) ?_
  exact ⟨rfl, rfl⟩
theorem ef_1n4 (m : MethodId) (x0 : Addr) : entryFrame m #[(.ref x0)] 2 = mkF m 0 #[.val (.ref x0), .unset] [] := by first | (simp [entryFrame, mkF, argsToLocals, Value.category]; done) | rfl
set_option maxRecDepth 65536 in
set_option maxHeartbeats 40000000 in
theorem rm1n4 (l : Launch) (Z : State) (a0 : Array Value) (hw : ∀ d ∈ tables_1, d.before a0 Z = true) (a1 : Addr) (q0 : Int64) (q1 : Int64) (q2 : Int64) (q3 : Int64) (h0 : Heap) (n0 : Nat) (Z0 : n0 ≤ h0.size) (kA : ClassId) (V0 : Arv Z h0 a1 kA .long (4 : Int32) [(.long q0), (.long q1), (.long q2), (.long q3)] (.long (0 : Int64))) :
    Con l Z (⟨"com/example/widowbid/widowbid/SolveCommand", "median", "([J)J"⟩ : MethodName) prog_49_method_4_code 2 (some .long) ({ frames := 0, cells := 0, slots := 0, locals := 0 } : Room) #[(.ref a1)] h0 n0 (fun v h => v = some (.long ((q1 + q2) / 2)) ∧ h = h0) := by
  refine Con.of (own := "com/example/widowbid/widowbid/SolveCommand") (name := "median") (plainFor_of_name pn_1) (fun m => ef_1n4 m a1) rfl rfl ?_
  intro p e s m below meth c T F S cx st
  refine E_aloadN (pc' := 1) cx st d1_0 rfl rfl rfl ?_
  refine E_arraylength (pc' := 2) cx st V0 d1_1 rfl ?_
  refine E_iconst (pc' := 3) cx st (2 : Int32) d1_2 rfl rfl ?_
  refine E_idiv (pc' := 4) cx st d1_3 (by decide) rfl ?_
  rw [show ((4 : Int32) / (2 : Int32)) = (2 : Int32) from by decide]
  refine E_istoreN (pc' := 5) (L' := #[.val (.ref a1), .val (.int (2 : Int32))]) cx st d1_4 rfl rfl ?_
  refine E_aloadN (pc' := 6) cx st d1_5 rfl rfl rfl ?_
  refine E_arraylength (pc' := 7) cx st V0 d1_6 rfl ?_
  refine E_iconst (pc' := 8) cx st (2 : Int32) d1_7 rfl rfl ?_
  refine E_irem (pc' := 9) cx st d1_8 (by decide) rfl ?_
  rw [show ((4 : Int32) % (2 : Int32)) = (0 : Int32) from by decide]
  refine E_iconst (pc' := 10) cx st (1 : Int32) d1_9 rfl rfl ?_
  refine E_icmp_neY (pc' := 19) cx st d1_10 (by decide) (by decide) (by decide) ?_
  refine E_aloadN (pc' := 20) cx st d1_19 rfl rfl rfl ?_
  refine E_iloadN (pc' := 21) cx st d1_20 rfl rfl ?_
  refine E_iconst (pc' := 22) cx st (1 : Int32) d1_21 rfl rfl ?_
  refine E_isub (pc' := 23) cx st d1_22 rfl ?_
  rw [show ((2 : Int32) - (1 : Int32)) = (1 : Int32) from by decide]
  refine E_laload (pc' := 24) (x := q1) cx st V0 ⟨by decide, by decide⟩ rfl d1_23 rfl ?_
  refine E_aloadN (pc' := 25) cx st d1_24 rfl rfl rfl ?_
  refine E_iloadN (pc' := 26) cx st d1_25 rfl rfl ?_
  refine E_laload (pc' := 27) (x := q2) cx st V0 ⟨by decide, by decide⟩ rfl d1_26 rfl ?_
  refine E_ladd (pc' := 28) cx st d1_27 rfl ?_
  refine E_ldc2_w (pc' := 31) (v := (2 : Int64)) cx st (hw _ (List.mem_of_getElem? (i := 12) rfl)) d1_28 rfl ?_
  refine E_ldiv (pc' := 32) cx st d1_31 (by decide) rfl ?_
  refine E_lreturn cx st d1_32 rfl (by decide) (by decide) ?_
  exact ⟨rfl, rfl⟩
theorem ef_1n5 (m : MethodId) (x0 : Addr) : entryFrame m #[(.ref x0)] 2 = mkF m 0 #[.val (.ref x0), .unset] [] := by first | (simp [entryFrame, mkF, argsToLocals, Value.category]; done) | rfl
set_option maxRecDepth 65536 in
set_option maxHeartbeats 40000000 in
theorem rm1n5 (l : Launch) (Z : State) (a0 : Array Value) (hw : ∀ d ∈ tables_1, d.before a0 Z = true) (a1 : Addr) (q0 : Int64) (q1 : Int64) (q2 : Int64) (q3 : Int64) (q4 : Int64) (h0 : Heap) (n0 : Nat) (Z0 : n0 ≤ h0.size) (kA : ClassId) (V0 : Arv Z h0 a1 kA .long (5 : Int32) [(.long q0), (.long q1), (.long q2), (.long q3), (.long q4)] (.long (0 : Int64))) :
    Con l Z (⟨"com/example/widowbid/widowbid/SolveCommand", "median", "([J)J"⟩ : MethodName) prog_49_method_4_code 2 (some .long) ({ frames := 0, cells := 0, slots := 0, locals := 0 } : Room) #[(.ref a1)] h0 n0 (fun v h => v = some (.long q2) ∧ h = h0) := by
  refine Con.of (own := "com/example/widowbid/widowbid/SolveCommand") (name := "median") (plainFor_of_name pn_1) (fun m => ef_1n5 m a1) rfl rfl ?_
  intro p e s m below meth c T F S cx st
  refine E_aloadN (pc' := 1) cx st d1_0 rfl rfl rfl ?_
  refine E_arraylength (pc' := 2) cx st V0 d1_1 rfl ?_
  refine E_iconst (pc' := 3) cx st (2 : Int32) d1_2 rfl rfl ?_
  refine E_idiv (pc' := 4) cx st d1_3 (by decide) rfl ?_
  rw [show ((5 : Int32) / (2 : Int32)) = (2 : Int32) from by decide]
  refine E_istoreN (pc' := 5) (L' := #[.val (.ref a1), .val (.int (2 : Int32))]) cx st d1_4 rfl rfl ?_
  refine E_aloadN (pc' := 6) cx st d1_5 rfl rfl rfl ?_
  refine E_arraylength (pc' := 7) cx st V0 d1_6 rfl ?_
  refine E_iconst (pc' := 8) cx st (2 : Int32) d1_7 rfl rfl ?_
  refine E_irem (pc' := 9) cx st d1_8 (by decide) rfl ?_
  rw [show ((5 : Int32) % (2 : Int32)) = (1 : Int32) from by decide]
  refine E_iconst (pc' := 10) cx st (1 : Int32) d1_9 rfl rfl ?_
  refine E_icmp_neN (pc' := 13) cx st d1_10 rfl (by decide) ?_
  refine E_aloadN (pc' := 14) cx st d1_13 rfl rfl rfl ?_
  refine E_iloadN (pc' := 15) cx st d1_14 rfl rfl ?_
  refine E_laload (pc' := 16) (x := q2) cx st V0 ⟨by decide, by decide⟩ rfl d1_15 rfl ?_
  refine E_goto (pc' := 32) cx st d1_16 (by decide) (by decide) ?_
  refine E_lreturn cx st d1_32 rfl (by decide) (by decide) ?_
  exact ⟨rfl, rfl⟩
theorem maskb (x : Int64) : 0 ≤ (x &&& 576460752303423487).toInt ∧ (x &&& 576460752303423487).toInt < 576460752303423488 := by
  have := c_maskL x 576460752303423487 59 (by decide) (by decide)
  rw [this]; omega
theorem addb {x y : Int64} (h1 : 0 ≤ x.toInt) (h2 : 0 ≤ y.toInt) (h3 : x.toInt + y.toInt < 4611686018427387904) : (x + y).toInt = x.toInt + y.toInt := Jvm.Free.XT.add64 ⟨by omega, by omega⟩
theorem midlaw {x y : Int64} (h1 : 0 ≤ x.toInt) (h2 : x.toInt ≤ y.toInt) (h3 : y.toInt < 4611686018427387904) : (x + y) / 2 = x + (y - x) / 2 := by
  have e1 : (x + y).toInt = x.toInt + y.toInt := Jvm.Free.XT.add64 ⟨by omega, by omega⟩
  have e2 : (y - x).toInt = y.toInt - x.toInt := Jvm.Free.XT.sub64 ⟨by omega, by omega⟩
  have e3 := (c_ldiv (x + y) 2 2 rfl (by decide)).1 (by omega)
  have e4 := (c_ldiv (y - x) 2 2 rfl (by decide)).1 (by omega)
  apply Int64.toInt_inj.mp
  rw [e3, e1, Jvm.Free.XT.add64, e4, e2]
  · omega
  · rw [e4, e2]; constructor <;> omega
theorem len5 (n : Int32) : (n &&& 2147483647) % 5 + 1 = 1 ∨ (n &&& 2147483647) % 5 + 1 = 2 ∨ (n &&& 2147483647) % 5 + 1 = 3 ∨ (n &&& 2147483647) % 5 + 1 = 4 ∨ (n &&& 2147483647) % 5 + 1 = 5 := by
  have h0 := (c_and n 2147483647 (by decide)).1
  have r := (c_irem (n &&& 2147483647) 5 5 rfl).1 h0
  have e : ((n &&& 2147483647) % 5 + 1).toInt = (n &&& 2147483647).toInt % 5 + 1 := by
    rw [Jvm.Free.XT.add32, r]
    · rfl
    · rw [r]; show -2 ^ 31 ≤ _ + 1 ∧ _ + 1 < 2 ^ 31; omega
  have k1 : (1 : Int32).toInt = 1 := rfl
  have k2 : (2 : Int32).toInt = 2 := rfl
  have k3 : (3 : Int32).toInt = 3 := rfl
  have k4 : (4 : Int32).toInt = 4 := rfl
  have k5 : (5 : Int32).toInt = 5 := rfl
  simp only [← Int32.toInt_inj, e, k1, k2, k3, k4, k5]; omega
theorem ef_0 (m : MethodId) (x0 : Int32) (x1 : Int64) (x2 : Int64) (x3 : Int64) (x4 : Int64) (x5 : Int64) : entryFrame m #[(.int x0), (.long x1), (.long x2), (.long x3), (.long x4), (.long x5)] maxLocals = mkF m 0 #[.val (.int x0), .val (.long x1), .second, .val (.long x2), .second, .val (.long x3), .second, .val (.long x4), .second, .val (.long x5), .second, .unset, .unset, .unset, .unset, .unset, .unset, .unset, .unset, .unset, .unset, .unset, .unset, .unset, .unset] [] := by first | (simp [entryFrame, mkF, argsToLocals, Value.category, maxLocals]; done) | rfl
theorem pd_0 : parseMethodDescriptor "([J)J" = some ⟨[(.array .long)], some .long⟩ := by decide +kernel
theorem pd_1 : parseMethodDescriptor "(JJ)J" = some ⟨[.long, .long], some .long⟩ := by decide +kernel
set_option maxRecDepth 65536 in
set_option maxHeartbeats 40000000 in
theorem rm0 (l : Launch) (Z : State) (a0 : Array Value) (hw : ∀ d ∈ tables_1, d.before a0 Z = true) (p0 : Int32) (q1 : Int64) (q2 : Int64) (q3 : Int64) (q4 : Int64) (q5 : Int64) (h0 : Heap) (n0 : Nat) (Z0 : n0 ≤ h0.size) :
    Con l Z x code maxLocals ret room_1 #[(.int p0), (.long q1), (.long q2), (.long q3), (.long q4), (.long q5)] h0 n0 (fun v h => v = some (.int 1)) := by
  refine Con.of (own := "com/example/widowbid/widowbid/SolveCommandMedianPinLaw") (name := "law") (plainFor_of_name pn_0) (fun m => ef_0 m p0 q1 q2 q3 q4 q5) rfl rfl ?_
  intro p e s m below meth c T F S cx st
  refine E_iloadN (pc' := 1) cx st at_0 rfl rfl ?_
  refine E_ldc (pc' := 3) (v := (2147483647 : Int32)) cx st (hw _ (List.mem_of_getElem? (i := 0) rfl)) at_1 rfl ?_
  refine E_iand (pc' := 4) cx st at_3 rfl ?_
  refine E_iconst (pc' := 5) cx st (5 : Int32) at_4 rfl rfl ?_
  refine E_irem (pc' := 6) cx st at_5 (by decide) rfl ?_
  refine E_iconst (pc' := 7) cx st (1 : Int32) at_6 rfl rfl ?_
  refine E_iadd (pc' := 8) cx st at_7 rfl ?_
  generalize hu1 : (((p0 &&& (2147483647 : Int32)) % (5 : Int32)) + (1 : Int32)) = u1
  refine E_istore (pc' := 10) (L' := #[.val (.int p0), .val (.long q1), .second, .val (.long q2), .second, .val (.long q3), .second, .val (.long q4), .second, .val (.long q5), .second, .val (.int u1), .unset, .unset, .unset, .unset, .unset, .unset, .unset, .unset, .unset, .unset, .unset, .unset, .unset]) cx st at_8 rfl rfl ?_
  refine E_lloadN (pc' := 11) cx st at_10 rfl rfl ?_
  refine E_ldc2_w (pc' := 14) (v := (576460752303423487 : Int64)) cx st (hw _ (List.mem_of_getElem? (i := 1) rfl)) at_11 rfl ?_
  refine E_land (pc' := 15) cx st at_14 rfl ?_
  generalize hu2 : (q1 &&& (576460752303423487 : Int64)) = u2
  refine E_lstore (pc' := 17) (L' := #[.val (.int p0), .val (.long q1), .second, .val (.long q2), .second, .val (.long q3), .second, .val (.long q4), .second, .val (.long q5), .second, .val (.int u1), .val (.long u2), .second, .unset, .unset, .unset, .unset, .unset, .unset, .unset, .unset, .unset, .unset, .unset]) cx st at_15 rfl rfl ?_
  refine E_lload (pc' := 19) cx st at_17 rfl rfl ?_
  refine E_lloadN (pc' := 20) cx st at_19 rfl rfl ?_
  refine E_ldc2_w (pc' := 23) (v := (576460752303423487 : Int64)) cx st (hw _ (List.mem_of_getElem? (i := 1) rfl)) at_20 rfl ?_
  refine E_land (pc' := 24) cx st at_23 rfl ?_
  refine E_ladd (pc' := 25) cx st at_24 rfl ?_
  generalize hu3 : (u2 + (q2 &&& (576460752303423487 : Int64))) = u3
  refine E_lstore (pc' := 27) (L' := #[.val (.int p0), .val (.long q1), .second, .val (.long q2), .second, .val (.long q3), .second, .val (.long q4), .second, .val (.long q5), .second, .val (.int u1), .val (.long u2), .second, .val (.long u3), .second, .unset, .unset, .unset, .unset, .unset, .unset, .unset, .unset, .unset]) cx st at_25 rfl rfl ?_
  refine E_lload (pc' := 29) cx st at_27 rfl rfl ?_
  refine E_lload (pc' := 31) cx st at_29 rfl rfl ?_
  refine E_ldc2_w (pc' := 34) (v := (576460752303423487 : Int64)) cx st (hw _ (List.mem_of_getElem? (i := 1) rfl)) at_31 rfl ?_
  refine E_land (pc' := 35) cx st at_34 rfl ?_
  refine E_ladd (pc' := 36) cx st at_35 rfl ?_
  generalize hu4 : (u3 + (q3 &&& (576460752303423487 : Int64))) = u4
  refine E_lstore (pc' := 38) (L' := #[.val (.int p0), .val (.long q1), .second, .val (.long q2), .second, .val (.long q3), .second, .val (.long q4), .second, .val (.long q5), .second, .val (.int u1), .val (.long u2), .second, .val (.long u3), .second, .val (.long u4), .second, .unset, .unset, .unset, .unset, .unset, .unset, .unset]) cx st at_36 rfl rfl ?_
  refine E_lload (pc' := 40) cx st at_38 rfl rfl ?_
  refine E_lload (pc' := 42) cx st at_40 rfl rfl ?_
  refine E_ldc2_w (pc' := 45) (v := (576460752303423487 : Int64)) cx st (hw _ (List.mem_of_getElem? (i := 1) rfl)) at_42 rfl ?_
  refine E_land (pc' := 46) cx st at_45 rfl ?_
  refine E_ladd (pc' := 47) cx st at_46 rfl ?_
  generalize hu5 : (u4 + (q4 &&& (576460752303423487 : Int64))) = u5
  refine E_lstore (pc' := 49) (L' := #[.val (.int p0), .val (.long q1), .second, .val (.long q2), .second, .val (.long q3), .second, .val (.long q4), .second, .val (.long q5), .second, .val (.int u1), .val (.long u2), .second, .val (.long u3), .second, .val (.long u4), .second, .val (.long u5), .second, .unset, .unset, .unset, .unset, .unset]) cx st at_47 rfl rfl ?_
  refine E_lload (pc' := 51) cx st at_49 rfl rfl ?_
  refine E_lload (pc' := 53) cx st at_51 rfl rfl ?_
  refine E_ldc2_w (pc' := 56) (v := (576460752303423487 : Int64)) cx st (hw _ (List.mem_of_getElem? (i := 1) rfl)) at_53 rfl ?_
  refine E_land (pc' := 57) cx st at_56 rfl ?_
  refine E_ladd (pc' := 58) cx st at_57 rfl ?_
  generalize hu6 : (u5 + (q5 &&& (576460752303423487 : Int64))) = u6
  refine E_lstore (pc' := 60) (L' := #[.val (.int p0), .val (.long q1), .second, .val (.long q2), .second, .val (.long q3), .second, .val (.long q4), .second, .val (.long q5), .second, .val (.int u1), .val (.long u2), .second, .val (.long u3), .second, .val (.long u4), .second, .val (.long u5), .second, .val (.long u6), .second, .unset, .unset, .unset]) cx st at_58 rfl rfl ?_
  refine E_iload (pc' := 62) cx st at_60 rfl rfl ?_
  have b0 := maskb q1
  rw [hu2] at b0
  have m1 := maskb q2
  have b1 : u3.toInt = u2.toInt + (q2 &&& 576460752303423487).toInt := by rw [← hu3]; exact addb (by omega) (by omega) (by omega)
  have m2 := maskb q3
  have b2 : u4.toInt = u3.toInt + (q3 &&& 576460752303423487).toInt := by rw [← hu4]; exact addb (by omega) (by omega) (by omega)
  have m3 := maskb q4
  have b3 : u5.toInt = u4.toInt + (q4 &&& 576460752303423487).toInt := by rw [← hu5]; exact addb (by omega) (by omega) (by omega)
  have m4 := maskb q5
  have b4 : u6.toInt = u5.toInt + (q5 &&& 576460752303423487).toInt := by rw [← hu6]; exact addb (by omega) (by omega) (by omega)
  have hlen := len5 p0
  rw [hu1] at hlen
  rcases hlen with rfl | rfl | rfl | rfl | rfl
  · refine E_newP (pc' := 64) (kc' := 1) (ks' := 1) (cap := 1) cx st (hw _ (List.mem_of_getElem? (i := 2) rfl)) at_62 (by decide) (by decide) (by decide) (by decide) (by decide) (by decide) (by decide) rfl (ad := "[J") (by decide) ?_
    intro T7 h7 k7 a7 q7 st7 E7 V7 X7
    have g_a7 : n0 ≤ a7 := by rw [q7]; exact Z0
    have Z7 : n0 ≤ h7.size := Nat.le_trans Z0 E7.1
    have V7p : Arv Z h7 a7 k7 .long (1 : Int32) [(.long (0 : Int64))] (.long (0 : Int64)) := V7.pad (pad_rep [] (.long (0 : Int64)) 1)
    refine E_astore (pc' := 66) (L' := #[.val (.int p0), .val (.long q1), .second, .val (.long q2), .second, .val (.long q3), .second, .val (.long q4), .second, .val (.long q5), .second, .val (.int (1 : Int32)), .val (.long u2), .second, .val (.long u3), .second, .val (.long u4), .second, .val (.long u5), .second, .val (.long u6), .second, .val (.ref a7), .unset, .unset]) cx st7 at_64 rfl rfl rfl ?_
    refine E_aload (pc' := 68) cx st7 at_66 rfl rfl rfl ?_
    refine E_iconst (pc' := 69) cx st7 (0 : Int32) at_68 rfl rfl ?_
    refine E_lload (pc' := 71) cx st7 at_69 rfl rfl ?_
    refine E_lastore (pc' := 72) (i := 0) cx st7 V7p ⟨by decide, by decide⟩ rfl (Nat.le_of_ble_eq_true rfl) g_a7 at_71 rfl ?_
    intro T8 h8 st8 W8 V8
    have Z8 : n0 ≤ h8.size := Nat.le_trans Z7 (Keep.of_wr W8).1
    have V8p : Arv Z h8 a7 k7 .long (1 : Int32) [(.long u2)] (.long (0 : Int64)) := V8
    refine E_iload (pc' := 74) cx st8 at_72 rfl rfl ?_
    refine E_iconst (pc' := 75) cx st8 (1 : Int32) at_74 rfl rfl ?_
    refine E_icmp_leY (pc' := 84) cx st8 at_75 (by decide) (by decide) (by decide) ?_
    refine E_iload (pc' := 86) cx st8 at_84 rfl rfl ?_
    refine E_iconst (pc' := 87) cx st8 (2 : Int32) at_86 rfl rfl ?_
    refine E_icmp_leY (pc' := 96) cx st8 at_87 (by decide) (by decide) (by decide) ?_
    refine E_iload (pc' := 98) cx st8 at_96 rfl rfl ?_
    refine E_iconst (pc' := 99) cx st8 (3 : Int32) at_98 rfl rfl ?_
    refine E_icmp_leY (pc' := 108) cx st8 at_99 (by decide) (by decide) (by decide) ?_
    refine E_iload (pc' := 110) cx st8 at_108 rfl rfl ?_
    refine E_iconst (pc' := 111) cx st8 (4 : Int32) at_110 rfl rfl ?_
    refine E_icmp_leY (pc' := 120) cx st8 at_111 (by decide) (by decide) (by decide) ?_
    refine E_iload (pc' := 122) cx st8 at_120 rfl rfl ?_
    refine E_iconst (pc' := 123) cx st8 (1 : Int32) at_122 rfl rfl ?_
    refine E_icmp_neN (pc' := 126) cx st8 at_123 rfl (by decide) ?_
    refine E_lload (pc' := 128) cx st8 at_126 rfl rfl ?_
    refine E_lstore (pc' := 130) (L' := #[.val (.int p0), .val (.long q1), .second, .val (.long q2), .second, .val (.long q3), .second, .val (.long q4), .second, .val (.long q5), .second, .val (.int (1 : Int32)), .val (.long u2), .second, .val (.long u3), .second, .val (.long u4), .second, .val (.long u5), .second, .val (.long u6), .second, .val (.ref a7), .val (.long u2), .second]) cx st8 at_128 rfl rfl ?_
    refine E_goto (pc' := 186) cx st8 at_130 (by decide) (by decide) ?_
    refine E_aload (pc' := 188) cx st8 at_186 rfl rfl rfl ?_
    refine E_callS (pc' := 191) (kc' := 1) (ks' := 1) (W := 0) (argsL := [(.ref a7)]) cx st8 [] (rm1n1 l Z a0 hw a7 u2 h8 n0 Z8 k7 V8p) (hw _ (List.mem_of_getElem? (i := 3) rfl)) (hw _ (List.mem_of_getElem? (i := 4) rfl)) (hw _ (List.mem_of_getElem? (i := 5) rfl)) (hw _ (List.mem_of_getElem? (i := 6) rfl)) at_188 rfl rfl (lenOf pd_0 rfl) (Nat.le_of_eq rfl) (by decide) (by decide) (by decide) (by decide) (by decide) (by decide) (by decide) rfl ?_
    intro v9 T9 h9 st9 hq9
    obtain ⟨rfl, hh9⟩ := hq9
    rw [hh9] at st9
    refine E_lload (pc' := 193) cx st9 at_191 rfl rfl ?_
    refine E_lif_neN (pc' := 197) cx st9 at_193 at_194 rfl rfl ?_
    refine E_iconst (pc' := 198) cx st9 (1 : Int32) at_197 rfl rfl ?_
    refine E_goto (pc' := 202) cx st9 at_198 (by decide) (by decide) ?_
    refine E_ireturn (t := .boolean) cx st9 at_202 rfl (by simp) rfl (by decide) (by decide) ?_
    exact rfl
  · refine E_newP (pc' := 64) (kc' := 1) (ks' := 2) (cap := 2) cx st (hw _ (List.mem_of_getElem? (i := 2) rfl)) at_62 (by decide) (by decide) (by decide) (by decide) (by decide) (by decide) (by decide) rfl (ad := "[J") (by decide) ?_
    intro T10 h10 k10 a10 q10 st10 E10 V10 X10
    have g_a10 : n0 ≤ a10 := by rw [q10]; exact Z0
    have Z10 : n0 ≤ h10.size := Nat.le_trans Z0 E10.1
    have V10p : Arv Z h10 a10 k10 .long (2 : Int32) [(.long (0 : Int64)), (.long (0 : Int64))] (.long (0 : Int64)) := V10.pad (pad_rep [] (.long (0 : Int64)) 2)
    refine E_astore (pc' := 66) (L' := #[.val (.int p0), .val (.long q1), .second, .val (.long q2), .second, .val (.long q3), .second, .val (.long q4), .second, .val (.long q5), .second, .val (.int (2 : Int32)), .val (.long u2), .second, .val (.long u3), .second, .val (.long u4), .second, .val (.long u5), .second, .val (.long u6), .second, .val (.ref a10), .unset, .unset]) cx st10 at_64 rfl rfl rfl ?_
    refine E_aload (pc' := 68) cx st10 at_66 rfl rfl rfl ?_
    refine E_iconst (pc' := 69) cx st10 (0 : Int32) at_68 rfl rfl ?_
    refine E_lload (pc' := 71) cx st10 at_69 rfl rfl ?_
    refine E_lastore (pc' := 72) (i := 0) cx st10 V10p ⟨by decide, by decide⟩ rfl (Nat.le_of_ble_eq_true rfl) g_a10 at_71 rfl ?_
    intro T11 h11 st11 W11 V11
    have Z11 : n0 ≤ h11.size := Nat.le_trans Z10 (Keep.of_wr W11).1
    have V11p : Arv Z h11 a10 k10 .long (2 : Int32) [(.long u2), (.long (0 : Int64))] (.long (0 : Int64)) := V11
    refine E_iload (pc' := 74) cx st11 at_72 rfl rfl ?_
    refine E_iconst (pc' := 75) cx st11 (1 : Int32) at_74 rfl rfl ?_
    refine E_icmp_leN (pc' := 78) cx st11 at_75 rfl (by decide) ?_
    refine E_aload (pc' := 80) cx st11 at_78 rfl rfl rfl ?_
    refine E_iconst (pc' := 81) cx st11 (1 : Int32) at_80 rfl rfl ?_
    refine E_lload (pc' := 83) cx st11 at_81 rfl rfl ?_
    refine E_lastore (pc' := 84) (i := 1) cx st11 V11p ⟨by decide, by decide⟩ rfl (Nat.le_of_ble_eq_true rfl) g_a10 at_83 rfl ?_
    intro T12 h12 st12 W12 V12
    have Z12 : n0 ≤ h12.size := Nat.le_trans Z11 (Keep.of_wr W12).1
    have V12p : Arv Z h12 a10 k10 .long (2 : Int32) [(.long u2), (.long u3)] (.long (0 : Int64)) := V12
    refine E_iload (pc' := 86) cx st12 at_84 rfl rfl ?_
    refine E_iconst (pc' := 87) cx st12 (2 : Int32) at_86 rfl rfl ?_
    refine E_icmp_leY (pc' := 96) cx st12 at_87 (by decide) (by decide) (by decide) ?_
    refine E_iload (pc' := 98) cx st12 at_96 rfl rfl ?_
    refine E_iconst (pc' := 99) cx st12 (3 : Int32) at_98 rfl rfl ?_
    refine E_icmp_leY (pc' := 108) cx st12 at_99 (by decide) (by decide) (by decide) ?_
    refine E_iload (pc' := 110) cx st12 at_108 rfl rfl ?_
    refine E_iconst (pc' := 111) cx st12 (4 : Int32) at_110 rfl rfl ?_
    refine E_icmp_leY (pc' := 120) cx st12 at_111 (by decide) (by decide) (by decide) ?_
    refine E_iload (pc' := 122) cx st12 at_120 rfl rfl ?_
    refine E_iconst (pc' := 123) cx st12 (1 : Int32) at_122 rfl rfl ?_
    refine E_icmp_neY (pc' := 133) cx st12 at_123 (by decide) (by decide) (by decide) ?_
    refine E_iload (pc' := 135) cx st12 at_133 rfl rfl ?_
    refine E_iconst (pc' := 136) cx st12 (2 : Int32) at_135 rfl rfl ?_
    refine E_icmp_neN (pc' := 139) cx st12 at_136 rfl (by decide) ?_
    refine E_lload (pc' := 141) cx st12 at_139 rfl rfl ?_
    refine E_lload (pc' := 143) cx st12 at_141 rfl rfl ?_
    refine E_callS (pc' := 146) (kc' := 1) (ks' := 2) (W := 0) (argsL := [(.long u2), (.long u3)]) cx st12 [] (rm2 l Z a0 hw u2 u3 h12 n0 Z12) (hw _ (List.mem_of_getElem? (i := 7) rfl)) (hw _ (List.mem_of_getElem? (i := 8) rfl)) (hw _ (List.mem_of_getElem? (i := 9) rfl)) (hw _ (List.mem_of_getElem? (i := 10) rfl)) at_143 rfl rfl (lenOf pd_1 rfl) (Nat.le_of_eq rfl) (by decide) (by decide) (by decide) (by decide) (by decide) (by decide) (by decide) rfl ?_
    intro v13 T13 h13 st13 hq13
    obtain ⟨rfl, hh13⟩ := hq13
    rw [hh13] at st13
    refine E_lstore (pc' := 148) (L' := #[.val (.int p0), .val (.long q1), .second, .val (.long q2), .second, .val (.long q3), .second, .val (.long q4), .second, .val (.long q5), .second, .val (.int (2 : Int32)), .val (.long u2), .second, .val (.long u3), .second, .val (.long u4), .second, .val (.long u5), .second, .val (.long u6), .second, .val (.ref a10), .val (.long (u2 + (u3 - u2) / 2)), .second]) cx st13 at_146 rfl rfl ?_
    refine E_goto (pc' := 186) cx st13 at_148 (by decide) (by decide) ?_
    refine E_aload (pc' := 188) cx st13 at_186 rfl rfl rfl ?_
    refine E_callS (pc' := 191) (kc' := 1) (ks' := 2) (W := 0) (argsL := [(.ref a10)]) cx st13 [] (rm1n2 l Z a0 hw a10 u2 u3 h12 n0 Z12 k10 V12p) (hw _ (List.mem_of_getElem? (i := 3) rfl)) (hw _ (List.mem_of_getElem? (i := 4) rfl)) (hw _ (List.mem_of_getElem? (i := 5) rfl)) (hw _ (List.mem_of_getElem? (i := 6) rfl)) at_188 rfl rfl (lenOf pd_0 rfl) (Nat.le_of_eq rfl) (by decide) (by decide) (by decide) (by decide) (by decide) (by decide) (by decide) rfl ?_
    intro v14 T14 h14 st14 hq14
    obtain ⟨rfl, hh14⟩ := hq14
    rw [hh14] at st14
    refine E_lload (pc' := 193) cx st14 at_191 rfl rfl ?_
    refine E_lif_neN (pc' := 197) cx st14 at_193 at_194 rfl (midlaw (by omega) (by omega) (by omega)) ?_
    refine E_iconst (pc' := 198) cx st14 (1 : Int32) at_197 rfl rfl ?_
    refine E_goto (pc' := 202) cx st14 at_198 (by decide) (by decide) ?_
    refine E_ireturn (t := .boolean) cx st14 at_202 rfl (by simp) rfl (by decide) (by decide) ?_
    exact rfl
  · refine E_newP (pc' := 64) (kc' := 1) (ks' := 3) (cap := 3) cx st (hw _ (List.mem_of_getElem? (i := 2) rfl)) at_62 (by decide) (by decide) (by decide) (by decide) (by decide) (by decide) (by decide) rfl (ad := "[J") (by decide) ?_
    intro T15 h15 k15 a15 q15 st15 E15 V15 X15
    have g_a15 : n0 ≤ a15 := by rw [q15]; exact Z0
    have Z15 : n0 ≤ h15.size := Nat.le_trans Z0 E15.1
    have V15p : Arv Z h15 a15 k15 .long (3 : Int32) [(.long (0 : Int64)), (.long (0 : Int64)), (.long (0 : Int64))] (.long (0 : Int64)) := V15.pad (pad_rep [] (.long (0 : Int64)) 3)
    refine E_astore (pc' := 66) (L' := #[.val (.int p0), .val (.long q1), .second, .val (.long q2), .second, .val (.long q3), .second, .val (.long q4), .second, .val (.long q5), .second, .val (.int (3 : Int32)), .val (.long u2), .second, .val (.long u3), .second, .val (.long u4), .second, .val (.long u5), .second, .val (.long u6), .second, .val (.ref a15), .unset, .unset]) cx st15 at_64 rfl rfl rfl ?_
    refine E_aload (pc' := 68) cx st15 at_66 rfl rfl rfl ?_
    refine E_iconst (pc' := 69) cx st15 (0 : Int32) at_68 rfl rfl ?_
    refine E_lload (pc' := 71) cx st15 at_69 rfl rfl ?_
    refine E_lastore (pc' := 72) (i := 0) cx st15 V15p ⟨by decide, by decide⟩ rfl (Nat.le_of_ble_eq_true rfl) g_a15 at_71 rfl ?_
    intro T16 h16 st16 W16 V16
    have Z16 : n0 ≤ h16.size := Nat.le_trans Z15 (Keep.of_wr W16).1
    have V16p : Arv Z h16 a15 k15 .long (3 : Int32) [(.long u2), (.long (0 : Int64)), (.long (0 : Int64))] (.long (0 : Int64)) := V16
    refine E_iload (pc' := 74) cx st16 at_72 rfl rfl ?_
    refine E_iconst (pc' := 75) cx st16 (1 : Int32) at_74 rfl rfl ?_
    refine E_icmp_leN (pc' := 78) cx st16 at_75 rfl (by decide) ?_
    refine E_aload (pc' := 80) cx st16 at_78 rfl rfl rfl ?_
    refine E_iconst (pc' := 81) cx st16 (1 : Int32) at_80 rfl rfl ?_
    refine E_lload (pc' := 83) cx st16 at_81 rfl rfl ?_
    refine E_lastore (pc' := 84) (i := 1) cx st16 V16p ⟨by decide, by decide⟩ rfl (Nat.le_of_ble_eq_true rfl) g_a15 at_83 rfl ?_
    intro T17 h17 st17 W17 V17
    have Z17 : n0 ≤ h17.size := Nat.le_trans Z16 (Keep.of_wr W17).1
    have V17p : Arv Z h17 a15 k15 .long (3 : Int32) [(.long u2), (.long u3), (.long (0 : Int64))] (.long (0 : Int64)) := V17
    refine E_iload (pc' := 86) cx st17 at_84 rfl rfl ?_
    refine E_iconst (pc' := 87) cx st17 (2 : Int32) at_86 rfl rfl ?_
    refine E_icmp_leN (pc' := 90) cx st17 at_87 rfl (by decide) ?_
    refine E_aload (pc' := 92) cx st17 at_90 rfl rfl rfl ?_
    refine E_iconst (pc' := 93) cx st17 (2 : Int32) at_92 rfl rfl ?_
    refine E_lload (pc' := 95) cx st17 at_93 rfl rfl ?_
    refine E_lastore (pc' := 96) (i := 2) cx st17 V17p ⟨by decide, by decide⟩ rfl (Nat.le_of_ble_eq_true rfl) g_a15 at_95 rfl ?_
    intro T18 h18 st18 W18 V18
    have Z18 : n0 ≤ h18.size := Nat.le_trans Z17 (Keep.of_wr W18).1
    have V18p : Arv Z h18 a15 k15 .long (3 : Int32) [(.long u2), (.long u3), (.long u4)] (.long (0 : Int64)) := V18
    refine E_iload (pc' := 98) cx st18 at_96 rfl rfl ?_
    refine E_iconst (pc' := 99) cx st18 (3 : Int32) at_98 rfl rfl ?_
    refine E_icmp_leY (pc' := 108) cx st18 at_99 (by decide) (by decide) (by decide) ?_
    refine E_iload (pc' := 110) cx st18 at_108 rfl rfl ?_
    refine E_iconst (pc' := 111) cx st18 (4 : Int32) at_110 rfl rfl ?_
    refine E_icmp_leY (pc' := 120) cx st18 at_111 (by decide) (by decide) (by decide) ?_
    refine E_iload (pc' := 122) cx st18 at_120 rfl rfl ?_
    refine E_iconst (pc' := 123) cx st18 (1 : Int32) at_122 rfl rfl ?_
    refine E_icmp_neY (pc' := 133) cx st18 at_123 (by decide) (by decide) (by decide) ?_
    refine E_iload (pc' := 135) cx st18 at_133 rfl rfl ?_
    refine E_iconst (pc' := 136) cx st18 (2 : Int32) at_135 rfl rfl ?_
    refine E_icmp_neY (pc' := 151) cx st18 at_136 (by decide) (by decide) (by decide) ?_
    refine E_iload (pc' := 153) cx st18 at_151 rfl rfl ?_
    refine E_iconst (pc' := 154) cx st18 (3 : Int32) at_153 rfl rfl ?_
    refine E_icmp_neN (pc' := 157) cx st18 at_154 rfl (by decide) ?_
    refine E_lload (pc' := 159) cx st18 at_157 rfl rfl ?_
    refine E_lstore (pc' := 161) (L' := #[.val (.int p0), .val (.long q1), .second, .val (.long q2), .second, .val (.long q3), .second, .val (.long q4), .second, .val (.long q5), .second, .val (.int (3 : Int32)), .val (.long u2), .second, .val (.long u3), .second, .val (.long u4), .second, .val (.long u5), .second, .val (.long u6), .second, .val (.ref a15), .val (.long u3), .second]) cx st18 at_159 rfl rfl ?_
    refine E_goto (pc' := 186) cx st18 at_161 (by decide) (by decide) ?_
    refine E_aload (pc' := 188) cx st18 at_186 rfl rfl rfl ?_
    refine E_callS (pc' := 191) (kc' := 1) (ks' := 3) (W := 0) (argsL := [(.ref a15)]) cx st18 [] (rm1n3 l Z a0 hw a15 u2 u3 u4 h18 n0 Z18 k15 V18p) (hw _ (List.mem_of_getElem? (i := 3) rfl)) (hw _ (List.mem_of_getElem? (i := 4) rfl)) (hw _ (List.mem_of_getElem? (i := 5) rfl)) (hw _ (List.mem_of_getElem? (i := 6) rfl)) at_188 rfl rfl (lenOf pd_0 rfl) (Nat.le_of_eq rfl) (by decide) (by decide) (by decide) (by decide) (by decide) (by decide) (by decide) rfl ?_
    intro v19 T19 h19 st19 hq19
    obtain ⟨rfl, hh19⟩ := hq19
    rw [hh19] at st19
    refine E_lload (pc' := 193) cx st19 at_191 rfl rfl ?_
    refine E_lif_neN (pc' := 197) cx st19 at_193 at_194 rfl rfl ?_
    refine E_iconst (pc' := 198) cx st19 (1 : Int32) at_197 rfl rfl ?_
    refine E_goto (pc' := 202) cx st19 at_198 (by decide) (by decide) ?_
    refine E_ireturn (t := .boolean) cx st19 at_202 rfl (by simp) rfl (by decide) (by decide) ?_
    exact rfl
  · refine E_newP (pc' := 64) (kc' := 1) (ks' := 4) (cap := 4) cx st (hw _ (List.mem_of_getElem? (i := 2) rfl)) at_62 (by decide) (by decide) (by decide) (by decide) (by decide) (by decide) (by decide) rfl (ad := "[J") (by decide) ?_
    intro T20 h20 k20 a20 q20 st20 E20 V20 X20
    have g_a20 : n0 ≤ a20 := by rw [q20]; exact Z0
    have Z20 : n0 ≤ h20.size := Nat.le_trans Z0 E20.1
    have V20p : Arv Z h20 a20 k20 .long (4 : Int32) [(.long (0 : Int64)), (.long (0 : Int64)), (.long (0 : Int64)), (.long (0 : Int64))] (.long (0 : Int64)) := V20.pad (pad_rep [] (.long (0 : Int64)) 4)
    refine E_astore (pc' := 66) (L' := #[.val (.int p0), .val (.long q1), .second, .val (.long q2), .second, .val (.long q3), .second, .val (.long q4), .second, .val (.long q5), .second, .val (.int (4 : Int32)), .val (.long u2), .second, .val (.long u3), .second, .val (.long u4), .second, .val (.long u5), .second, .val (.long u6), .second, .val (.ref a20), .unset, .unset]) cx st20 at_64 rfl rfl rfl ?_
    refine E_aload (pc' := 68) cx st20 at_66 rfl rfl rfl ?_
    refine E_iconst (pc' := 69) cx st20 (0 : Int32) at_68 rfl rfl ?_
    refine E_lload (pc' := 71) cx st20 at_69 rfl rfl ?_
    refine E_lastore (pc' := 72) (i := 0) cx st20 V20p ⟨by decide, by decide⟩ rfl (Nat.le_of_ble_eq_true rfl) g_a20 at_71 rfl ?_
    intro T21 h21 st21 W21 V21
    have Z21 : n0 ≤ h21.size := Nat.le_trans Z20 (Keep.of_wr W21).1
    have V21p : Arv Z h21 a20 k20 .long (4 : Int32) [(.long u2), (.long (0 : Int64)), (.long (0 : Int64)), (.long (0 : Int64))] (.long (0 : Int64)) := V21
    refine E_iload (pc' := 74) cx st21 at_72 rfl rfl ?_
    refine E_iconst (pc' := 75) cx st21 (1 : Int32) at_74 rfl rfl ?_
    refine E_icmp_leN (pc' := 78) cx st21 at_75 rfl (by decide) ?_
    refine E_aload (pc' := 80) cx st21 at_78 rfl rfl rfl ?_
    refine E_iconst (pc' := 81) cx st21 (1 : Int32) at_80 rfl rfl ?_
    refine E_lload (pc' := 83) cx st21 at_81 rfl rfl ?_
    refine E_lastore (pc' := 84) (i := 1) cx st21 V21p ⟨by decide, by decide⟩ rfl (Nat.le_of_ble_eq_true rfl) g_a20 at_83 rfl ?_
    intro T22 h22 st22 W22 V22
    have Z22 : n0 ≤ h22.size := Nat.le_trans Z21 (Keep.of_wr W22).1
    have V22p : Arv Z h22 a20 k20 .long (4 : Int32) [(.long u2), (.long u3), (.long (0 : Int64)), (.long (0 : Int64))] (.long (0 : Int64)) := V22
    refine E_iload (pc' := 86) cx st22 at_84 rfl rfl ?_
    refine E_iconst (pc' := 87) cx st22 (2 : Int32) at_86 rfl rfl ?_
    refine E_icmp_leN (pc' := 90) cx st22 at_87 rfl (by decide) ?_
    refine E_aload (pc' := 92) cx st22 at_90 rfl rfl rfl ?_
    refine E_iconst (pc' := 93) cx st22 (2 : Int32) at_92 rfl rfl ?_
    refine E_lload (pc' := 95) cx st22 at_93 rfl rfl ?_
    refine E_lastore (pc' := 96) (i := 2) cx st22 V22p ⟨by decide, by decide⟩ rfl (Nat.le_of_ble_eq_true rfl) g_a20 at_95 rfl ?_
    intro T23 h23 st23 W23 V23
    have Z23 : n0 ≤ h23.size := Nat.le_trans Z22 (Keep.of_wr W23).1
    have V23p : Arv Z h23 a20 k20 .long (4 : Int32) [(.long u2), (.long u3), (.long u4), (.long (0 : Int64))] (.long (0 : Int64)) := V23
    refine E_iload (pc' := 98) cx st23 at_96 rfl rfl ?_
    refine E_iconst (pc' := 99) cx st23 (3 : Int32) at_98 rfl rfl ?_
    refine E_icmp_leN (pc' := 102) cx st23 at_99 rfl (by decide) ?_
    refine E_aload (pc' := 104) cx st23 at_102 rfl rfl rfl ?_
    refine E_iconst (pc' := 105) cx st23 (3 : Int32) at_104 rfl rfl ?_
    refine E_lload (pc' := 107) cx st23 at_105 rfl rfl ?_
    refine E_lastore (pc' := 108) (i := 3) cx st23 V23p ⟨by decide, by decide⟩ rfl (Nat.le_of_ble_eq_true rfl) g_a20 at_107 rfl ?_
    intro T24 h24 st24 W24 V24
    have Z24 : n0 ≤ h24.size := Nat.le_trans Z23 (Keep.of_wr W24).1
    have V24p : Arv Z h24 a20 k20 .long (4 : Int32) [(.long u2), (.long u3), (.long u4), (.long u5)] (.long (0 : Int64)) := V24
    refine E_iload (pc' := 110) cx st24 at_108 rfl rfl ?_
    refine E_iconst (pc' := 111) cx st24 (4 : Int32) at_110 rfl rfl ?_
    refine E_icmp_leY (pc' := 120) cx st24 at_111 (by decide) (by decide) (by decide) ?_
    refine E_iload (pc' := 122) cx st24 at_120 rfl rfl ?_
    refine E_iconst (pc' := 123) cx st24 (1 : Int32) at_122 rfl rfl ?_
    refine E_icmp_neY (pc' := 133) cx st24 at_123 (by decide) (by decide) (by decide) ?_
    refine E_iload (pc' := 135) cx st24 at_133 rfl rfl ?_
    refine E_iconst (pc' := 136) cx st24 (2 : Int32) at_135 rfl rfl ?_
    refine E_icmp_neY (pc' := 151) cx st24 at_136 (by decide) (by decide) (by decide) ?_
    refine E_iload (pc' := 153) cx st24 at_151 rfl rfl ?_
    refine E_iconst (pc' := 154) cx st24 (3 : Int32) at_153 rfl rfl ?_
    refine E_icmp_neY (pc' := 164) cx st24 at_154 (by decide) (by decide) (by decide) ?_
    refine E_iload (pc' := 166) cx st24 at_164 rfl rfl ?_
    refine E_iconst (pc' := 167) cx st24 (4 : Int32) at_166 rfl rfl ?_
    refine E_icmp_neN (pc' := 170) cx st24 at_167 rfl (by decide) ?_
    refine E_lload (pc' := 172) cx st24 at_170 rfl rfl ?_
    refine E_lload (pc' := 174) cx st24 at_172 rfl rfl ?_
    refine E_callS (pc' := 177) (kc' := 1) (ks' := 4) (W := 0) (argsL := [(.long u3), (.long u4)]) cx st24 [] (rm2 l Z a0 hw u3 u4 h24 n0 Z24) (hw _ (List.mem_of_getElem? (i := 7) rfl)) (hw _ (List.mem_of_getElem? (i := 8) rfl)) (hw _ (List.mem_of_getElem? (i := 9) rfl)) (hw _ (List.mem_of_getElem? (i := 10) rfl)) at_174 rfl rfl (lenOf pd_1 rfl) (Nat.le_of_eq rfl) (by decide) (by decide) (by decide) (by decide) (by decide) (by decide) (by decide) rfl ?_
    intro v25 T25 h25 st25 hq25
    obtain ⟨rfl, hh25⟩ := hq25
    rw [hh25] at st25
    refine E_lstore (pc' := 179) (L' := #[.val (.int p0), .val (.long q1), .second, .val (.long q2), .second, .val (.long q3), .second, .val (.long q4), .second, .val (.long q5), .second, .val (.int (4 : Int32)), .val (.long u2), .second, .val (.long u3), .second, .val (.long u4), .second, .val (.long u5), .second, .val (.long u6), .second, .val (.ref a20), .val (.long (u3 + (u4 - u3) / 2)), .second]) cx st25 at_177 rfl rfl ?_
    refine E_goto (pc' := 186) cx st25 at_179 (by decide) (by decide) ?_
    refine E_aload (pc' := 188) cx st25 at_186 rfl rfl rfl ?_
    refine E_callS (pc' := 191) (kc' := 1) (ks' := 4) (W := 0) (argsL := [(.ref a20)]) cx st25 [] (rm1n4 l Z a0 hw a20 u2 u3 u4 u5 h24 n0 Z24 k20 V24p) (hw _ (List.mem_of_getElem? (i := 3) rfl)) (hw _ (List.mem_of_getElem? (i := 4) rfl)) (hw _ (List.mem_of_getElem? (i := 5) rfl)) (hw _ (List.mem_of_getElem? (i := 6) rfl)) at_188 rfl rfl (lenOf pd_0 rfl) (Nat.le_of_eq rfl) (by decide) (by decide) (by decide) (by decide) (by decide) (by decide) (by decide) rfl ?_
    intro v26 T26 h26 st26 hq26
    obtain ⟨rfl, hh26⟩ := hq26
    rw [hh26] at st26
    refine E_lload (pc' := 193) cx st26 at_191 rfl rfl ?_
    refine E_lif_neN (pc' := 197) cx st26 at_193 at_194 rfl (midlaw (by omega) (by omega) (by omega)) ?_
    refine E_iconst (pc' := 198) cx st26 (1 : Int32) at_197 rfl rfl ?_
    refine E_goto (pc' := 202) cx st26 at_198 (by decide) (by decide) ?_
    refine E_ireturn (t := .boolean) cx st26 at_202 rfl (by simp) rfl (by decide) (by decide) ?_
    exact rfl
  · refine E_newP (pc' := 64) (kc' := 1) (ks' := 5) (cap := 5) cx st (hw _ (List.mem_of_getElem? (i := 2) rfl)) at_62 (by decide) (by decide) (by decide) (by decide) (by decide) (by decide) (by decide) rfl (ad := "[J") (by decide) ?_
    intro T27 h27 k27 a27 q27 st27 E27 V27 X27
    have g_a27 : n0 ≤ a27 := by rw [q27]; exact Z0
    have Z27 : n0 ≤ h27.size := Nat.le_trans Z0 E27.1
    have V27p : Arv Z h27 a27 k27 .long (5 : Int32) [(.long (0 : Int64)), (.long (0 : Int64)), (.long (0 : Int64)), (.long (0 : Int64)), (.long (0 : Int64))] (.long (0 : Int64)) := V27.pad (pad_rep [] (.long (0 : Int64)) 5)
    refine E_astore (pc' := 66) (L' := #[.val (.int p0), .val (.long q1), .second, .val (.long q2), .second, .val (.long q3), .second, .val (.long q4), .second, .val (.long q5), .second, .val (.int (5 : Int32)), .val (.long u2), .second, .val (.long u3), .second, .val (.long u4), .second, .val (.long u5), .second, .val (.long u6), .second, .val (.ref a27), .unset, .unset]) cx st27 at_64 rfl rfl rfl ?_
    refine E_aload (pc' := 68) cx st27 at_66 rfl rfl rfl ?_
    refine E_iconst (pc' := 69) cx st27 (0 : Int32) at_68 rfl rfl ?_
    refine E_lload (pc' := 71) cx st27 at_69 rfl rfl ?_
    refine E_lastore (pc' := 72) (i := 0) cx st27 V27p ⟨by decide, by decide⟩ rfl (Nat.le_of_ble_eq_true rfl) g_a27 at_71 rfl ?_
    intro T28 h28 st28 W28 V28
    have Z28 : n0 ≤ h28.size := Nat.le_trans Z27 (Keep.of_wr W28).1
    have V28p : Arv Z h28 a27 k27 .long (5 : Int32) [(.long u2), (.long (0 : Int64)), (.long (0 : Int64)), (.long (0 : Int64)), (.long (0 : Int64))] (.long (0 : Int64)) := V28
    refine E_iload (pc' := 74) cx st28 at_72 rfl rfl ?_
    refine E_iconst (pc' := 75) cx st28 (1 : Int32) at_74 rfl rfl ?_
    refine E_icmp_leN (pc' := 78) cx st28 at_75 rfl (by decide) ?_
    refine E_aload (pc' := 80) cx st28 at_78 rfl rfl rfl ?_
    refine E_iconst (pc' := 81) cx st28 (1 : Int32) at_80 rfl rfl ?_
    refine E_lload (pc' := 83) cx st28 at_81 rfl rfl ?_
    refine E_lastore (pc' := 84) (i := 1) cx st28 V28p ⟨by decide, by decide⟩ rfl (Nat.le_of_ble_eq_true rfl) g_a27 at_83 rfl ?_
    intro T29 h29 st29 W29 V29
    have Z29 : n0 ≤ h29.size := Nat.le_trans Z28 (Keep.of_wr W29).1
    have V29p : Arv Z h29 a27 k27 .long (5 : Int32) [(.long u2), (.long u3), (.long (0 : Int64)), (.long (0 : Int64)), (.long (0 : Int64))] (.long (0 : Int64)) := V29
    refine E_iload (pc' := 86) cx st29 at_84 rfl rfl ?_
    refine E_iconst (pc' := 87) cx st29 (2 : Int32) at_86 rfl rfl ?_
    refine E_icmp_leN (pc' := 90) cx st29 at_87 rfl (by decide) ?_
    refine E_aload (pc' := 92) cx st29 at_90 rfl rfl rfl ?_
    refine E_iconst (pc' := 93) cx st29 (2 : Int32) at_92 rfl rfl ?_
    refine E_lload (pc' := 95) cx st29 at_93 rfl rfl ?_
    refine E_lastore (pc' := 96) (i := 2) cx st29 V29p ⟨by decide, by decide⟩ rfl (Nat.le_of_ble_eq_true rfl) g_a27 at_95 rfl ?_
    intro T30 h30 st30 W30 V30
    have Z30 : n0 ≤ h30.size := Nat.le_trans Z29 (Keep.of_wr W30).1
    have V30p : Arv Z h30 a27 k27 .long (5 : Int32) [(.long u2), (.long u3), (.long u4), (.long (0 : Int64)), (.long (0 : Int64))] (.long (0 : Int64)) := V30
    refine E_iload (pc' := 98) cx st30 at_96 rfl rfl ?_
    refine E_iconst (pc' := 99) cx st30 (3 : Int32) at_98 rfl rfl ?_
    refine E_icmp_leN (pc' := 102) cx st30 at_99 rfl (by decide) ?_
    refine E_aload (pc' := 104) cx st30 at_102 rfl rfl rfl ?_
    refine E_iconst (pc' := 105) cx st30 (3 : Int32) at_104 rfl rfl ?_
    refine E_lload (pc' := 107) cx st30 at_105 rfl rfl ?_
    refine E_lastore (pc' := 108) (i := 3) cx st30 V30p ⟨by decide, by decide⟩ rfl (Nat.le_of_ble_eq_true rfl) g_a27 at_107 rfl ?_
    intro T31 h31 st31 W31 V31
    have Z31 : n0 ≤ h31.size := Nat.le_trans Z30 (Keep.of_wr W31).1
    have V31p : Arv Z h31 a27 k27 .long (5 : Int32) [(.long u2), (.long u3), (.long u4), (.long u5), (.long (0 : Int64))] (.long (0 : Int64)) := V31
    refine E_iload (pc' := 110) cx st31 at_108 rfl rfl ?_
    refine E_iconst (pc' := 111) cx st31 (4 : Int32) at_110 rfl rfl ?_
    refine E_icmp_leN (pc' := 114) cx st31 at_111 rfl (by decide) ?_
    refine E_aload (pc' := 116) cx st31 at_114 rfl rfl rfl ?_
    refine E_iconst (pc' := 117) cx st31 (4 : Int32) at_116 rfl rfl ?_
    refine E_lload (pc' := 119) cx st31 at_117 rfl rfl ?_
    refine E_lastore (pc' := 120) (i := 4) cx st31 V31p ⟨by decide, by decide⟩ rfl (Nat.le_of_ble_eq_true rfl) g_a27 at_119 rfl ?_
    intro T32 h32 st32 W32 V32
    have Z32 : n0 ≤ h32.size := Nat.le_trans Z31 (Keep.of_wr W32).1
    have V32p : Arv Z h32 a27 k27 .long (5 : Int32) [(.long u2), (.long u3), (.long u4), (.long u5), (.long u6)] (.long (0 : Int64)) := V32
    refine E_iload (pc' := 122) cx st32 at_120 rfl rfl ?_
    refine E_iconst (pc' := 123) cx st32 (1 : Int32) at_122 rfl rfl ?_
    refine E_icmp_neY (pc' := 133) cx st32 at_123 (by decide) (by decide) (by decide) ?_
    refine E_iload (pc' := 135) cx st32 at_133 rfl rfl ?_
    refine E_iconst (pc' := 136) cx st32 (2 : Int32) at_135 rfl rfl ?_
    refine E_icmp_neY (pc' := 151) cx st32 at_136 (by decide) (by decide) (by decide) ?_
    refine E_iload (pc' := 153) cx st32 at_151 rfl rfl ?_
    refine E_iconst (pc' := 154) cx st32 (3 : Int32) at_153 rfl rfl ?_
    refine E_icmp_neY (pc' := 164) cx st32 at_154 (by decide) (by decide) (by decide) ?_
    refine E_iload (pc' := 166) cx st32 at_164 rfl rfl ?_
    refine E_iconst (pc' := 167) cx st32 (4 : Int32) at_166 rfl rfl ?_
    refine E_icmp_neY (pc' := 182) cx st32 at_167 (by decide) (by decide) (by decide) ?_
    refine E_lload (pc' := 184) cx st32 at_182 rfl rfl ?_
    refine E_lstore (pc' := 186) (L' := #[.val (.int p0), .val (.long q1), .second, .val (.long q2), .second, .val (.long q3), .second, .val (.long q4), .second, .val (.long q5), .second, .val (.int (5 : Int32)), .val (.long u2), .second, .val (.long u3), .second, .val (.long u4), .second, .val (.long u5), .second, .val (.long u6), .second, .val (.ref a27), .val (.long u4), .second]) cx st32 at_184 rfl rfl ?_
    refine E_aload (pc' := 188) cx st32 at_186 rfl rfl rfl ?_
    refine E_callS (pc' := 191) (kc' := 1) (ks' := 5) (W := 0) (argsL := [(.ref a27)]) cx st32 [] (rm1n5 l Z a0 hw a27 u2 u3 u4 u5 u6 h32 n0 Z32 k27 V32p) (hw _ (List.mem_of_getElem? (i := 3) rfl)) (hw _ (List.mem_of_getElem? (i := 4) rfl)) (hw _ (List.mem_of_getElem? (i := 5) rfl)) (hw _ (List.mem_of_getElem? (i := 6) rfl)) at_188 rfl rfl (lenOf pd_0 rfl) (Nat.le_of_eq rfl) (by decide) (by decide) (by decide) (by decide) (by decide) (by decide) (by decide) rfl ?_
    intro v33 T33 h33 st33 hq33
    obtain ⟨rfl, hh33⟩ := hq33
    rw [hh33] at st33
    refine E_lload (pc' := 193) cx st33 at_191 rfl rfl ?_
    refine E_lif_neN (pc' := 197) cx st33 at_193 at_194 rfl rfl ?_
    refine E_iconst (pc' := 198) cx st33 (1 : Int32) at_197 rfl rfl ?_
    refine E_goto (pc' := 202) cx st33 at_198 (by decide) (by decide) ?_
    refine E_ireturn (t := .boolean) cx st33 at_202 rfl (by simp) rfl (by decide) (by decide) ?_
    exact rfl
set_option maxRecDepth 65536 in
set_option maxHeartbeats 40000000 in
theorem comes_1 {Post : Tables → Env → Array Value → State → Outcome → State → Prop} (hpost : ∀ tb e args s v u, (limb_1_1.after args s (.returned v) u = true ∧ limb_1_2.after args s (.returned v) u = true ∧ True) → FrameEnd s (.returned v) u (Jvm.fieldLocs frame_1_writes args s ++ Jvm.arrayLocs frame_1_arrays args s ++ Jvm.staticLocs frame_1_statics s) 16 128 → Post tb e args s (.returned v) u) :
    ArmFor flags0 classFile x code maxLocals ret World_1 tables_1 room_1 Calls_1 rest_1 Pre_1 Post := by
  intro l hfl _ _ p e ha hc hk s m args below hf hA hF happ hP
  obtain ⟨hcalls, hrest, hpre⟩ := hP
  obtain ⟨-, -, -, hnamed, -, -, -, hat⟩ := (Spec.applies_iff hf).mp happ
  obtain ⟨hg, hn⟩ := and_e (Cond.before_iff.mp (show (Jvm.Cond.and given_1 narrow_1).before args s = true from hpre))
  obtain ⟨g0, hg⟩ := and_e hg
  obtain ⟨ga0, hg⟩ := and_e hg
  obtain ⟨ga1, hg⟩ := and_e hg
  obtain ⟨ga2, hg⟩ := and_e hg
  obtain ⟨ga3, hg⟩ := and_e hg
  obtain ⟨ga4, hg⟩ := and_e hg
  have ga5 := hg
  obtain ⟨w0, w1, w2, w3, w4, w5, rfl⟩ : ∃ w0 w1 w2 w3 w4 w5 : Value, args = #[w0, w1, w2, w3, w4, w5] := by
    have hs : args.size = 6 := by simpa [Cond.value, given_1] using g0
    obtain ⟨L⟩ := args
    match L, hs with
    | [w0, w1, w2, w3, w4, w5], _ => exact ⟨w0, w1, w2, w3, w4, w5, rfl⟩
  have hw := fun d (hd : d ∈ tables_1) => atoms_spec (ws := Jvm.Cond.code x code maxLocals ret :: tables_1) hat d (List.mem_cons_of_mem _ hd)
  obtain ⟨i0, ei0⟩ := is_v ga0
  obtain rfl : w0 = (.int i0) := Option.some.inj ei0
  obtain ⟨i1, ei1⟩ := isL_v ga1
  obtain rfl : w1 = (.long i1) := Option.some.inj ei1
  obtain ⟨i2, ei2⟩ := isL_v ga2
  obtain rfl : w2 = (.long i2) := Option.some.inj ei2
  obtain ⟨i3, ei3⟩ := isL_v ga3
  obtain rfl : w3 = (.long i3) := Option.some.inj ei3
  obtain ⟨i4, ei4⟩ := isL_v ga4
  obtain rfl : w4 = (.long i4) := Option.some.inj ei4
  obtain ⟨i5, ei5⟩ := isL_v ga5
  obtain rfl : w5 = (.long i5) := Option.some.inj ei5
  obtain ⟨n, o, h1, h2, h3, _, L, rfl, ⟨N, rfl⟩, hq⟩ := rm0 l s _ hw i0 i1 i2 i3 i4 i5 s.heap s.heap.size (Nat.le_refl _) tables_1 p e ha hc hk s m _ below hf ((Spec.applies_iff_loose hf).mp happ).1 ⟨rfl, State.Warmed39.refl s, rfl⟩ trivial
  refine ⟨n, _, h1, h2, h3, hpost _ _ _ _ _ _ ⟨Cond.after_iff.mpr rfl, Cond.after_iff.mpr (eq_i res_at (Term.int_eval (1)) rfl), trivial⟩ ⟨hq.1, hq.2.1, (hq.2.2.sift fun y hy => Or.inr (N y hy)).mono (by decide) (by decide)⟩⟩
theorem main_1_1 : Claimed_1_1 := comes_1 fun _ _ _ _ _ _ h hF => ⟨h.1, hF⟩
theorem main_1_2 : Claimed_1_2 := comes_1 fun _ _ _ _ _ _ h hF => ⟨h.2.1, hF⟩
end Jvm.Pilot.@@N@@
namespace Jvm.Pilot.@@N@@
open Jvm Jvm.ClassFile Sem Op Lib Jvm.Free Jvm.Stand Jvm.Pilot.@@N@@.Jvm.D
/-! MADE BY PROGRAM (witnessworld.py) out of the Statement's table words and the real class files: 12 classes; the members and pool entries that the words name. The judged class is class 1, her method 2. -/
namespace start1
open Jvm.ClassFile
def u (s : String) : CpInfo := .utf8 (stringToUtf16 s)
/-- a pool by its gaps: so many unusable entries, then the entry; so many at the end -/
def gap : Nat → List CpInfo → List CpInfo
  | 0, r => r
  | n + 1, r => .unusable :: gap n r
def poolList (es : List (Nat × CpInfo)) (last : Nat) : List CpInfo := es.foldr (fun e r => gap e.1 (e.2 :: r)) (gap last [])
def pool (es : List (Nat × CpInfo)) (last : Nat) : Array CpInfo := ⟨poolList es last⟩
def fileOf (pool : Array CpInfo) (this : Nat) (attrs : Array Attribute := #[]) (ms : Array MethodInfo := #[]) (fl : Nat := 33) (sup : Nat := 0) (ifs : Array Nat := #[]) (fds : Array FieldInfo := #[]) : ClassFile where
  minorVersion := 0
  majorVersion := 65
  constantPool := pool
  accessFlags := fl
  thisClass := this
  superClass := sup
  interfaces := ifs
  fields := fds
  methods := ms
  attributes := attrs
def plain (name : String) (sup : Option ClassId) : Class where
  name := name
  kind := .ordinary
  loader := none
  accessFlags := 33
  super := sup
  interfaces := #[]
  cf := none
  fields := #[]
  methods := #[]
  instanceTypes := #[]
  staticTypes := #[]
  resolved := #[]
  callSites := []
  init := .initialized
  statics := none
  mirror := none

def pool0 : Array CpInfo := pool [(5, u "<init>"), (0, u "()V"), (1, .class_ 10), (1, u "java/lang/Object")] 113

def k0m0 : Method := { name := "<init>", desc := "()V", sig := { parameters := [], returnType := none }, accessFlags := 1, code := none }
/-- java/lang/Object -/
def k0 : Class := { plain "java/lang/Object" none with
  accessFlags := 33
  interfaces := #[]
  cf := some (fileOf pool0 8 #[] #[{ accessFlags := 1, nameIndex := 5, descriptorIndex := 6, attributes := #[] }] 33 0 #[] #[])
  fields := #[]
  methods := #[k0m0]
  instanceTypes := #[]
  staticTypes := #[]
  resolved := Array.replicate 124 none
  statics := none }

def pool1 : Array CpInfo := pool [(2, .class_ 4), (1, u "java/lang/Object"), (0, u "<init>"), (0, u "()V"), (0, .long 2), (1, .integer 2147483647), (0, .long 576460752303423487), (1, .methodref 13 14), (0, .class_ 15), (0, .nameAndType 16 17), (0, u "com/example/widowbid/widowbid/SolveCommandMedianPinLaw"), (0, u "mid"), (0, u "(JJ)J"), (0, .methodref 19 20), (0, .class_ 21), (0, .nameAndType 22 23), (0, u "com/example/widowbid/widowbid/SolveCommand"), (0, u "median"), (0, u "([J)J"), (2, u "law"), (0, u "(IJJJJJ)Z")] 5

def k1m0 : Method := { name := "<init>", desc := "()V", sig := { parameters := [], returnType := none }, accessFlags := 1, code := none }
def k1c1 : Code := { maxStack := 6, maxLocals := 4, code := method_2_code, exceptionTable := #[], attributes := #[] }
def k1m1 : Method := { name := "mid", desc := "(JJ)J", sig := { parameters := [.long, .long], returnType := some .long }, accessFlags := 10, code := some k1c1 }
def k1c2 : Code := { maxStack := 6, maxLocals := 25, code := code, exceptionTable := #[], attributes := #[] }
def k1m2 : Method := { name := "law", desc := "(IJJJJJ)Z", sig := { parameters := [.int, .long, .long, .long, .long, .long], returnType := some .boolean }, accessFlags := 9, code := some k1c2 }
/-- com/example/widowbid/widowbid/SolveCommandMedianPinLaw -/
def k1 : Class := { plain "com/example/widowbid/widowbid/SolveCommandMedianPinLaw" (some 0) with
  accessFlags := 49
  interfaces := #[]
  cf := some (fileOf pool1 13 #[] #[{ accessFlags := 1, nameIndex := 5, descriptorIndex := 6, attributes := #[] }, { accessFlags := 10, nameIndex := 16, descriptorIndex := 17, attributes := #[] }, { accessFlags := 9, nameIndex := 26, descriptorIndex := 27, attributes := #[] }] 49 2 #[] #[])
  fields := #[]
  methods := #[k1m0, k1m1, k1m2]
  instanceTypes := #[]
  staticTypes := #[]
  resolved := Array.replicate 33 none
  statics := none }

def pool2 : Array CpInfo := pool [(1, .class_ 2), (0, u "com/example/widowbid/widowbid/Command"), (0, .class_ 4), (0, u "java/lang/Object")] 8

/-- com/example/widowbid/widowbid/Command -/
def k2 : Class := { plain "com/example/widowbid/widowbid/Command" (some 0) with
  accessFlags := 1537
  interfaces := #[]
  cf := some (fileOf pool2 1 #[] #[] 1537 3 #[] #[])
  fields := #[]
  methods := #[]
  instanceTypes := #[]
  staticTypes := #[]
  resolved := Array.replicate 13 none
  statics := none }

def pool3 : Array CpInfo := pool [(2, .class_ 4), (1, u "java/lang/Object"), (0, u "<init>"), (0, u "()V"), (8, .class_ 16), (0, u "com/example/widowbid/widowbid/SolveCommand"), (157, u "median"), (0, u "([J)J"), (2, .long 2), (82, .class_ 262), (0, u "com/example/widowbid/widowbid/Command"), (0, u "TIME"), (0, u "Ljava/lang/String;"), (1, u "USAGE"), (2, u "NANOS"), (0, u "D")] 60

def k3m0 : Method := { name := "<init>", desc := "()V", sig := { parameters := [], returnType := none }, accessFlags := 0, code := none }
def k3c1 : Code := { maxStack := 4, maxLocals := 2, code := prog_49_method_4_code, exceptionTable := #[], attributes := #[] }
def k3m1 : Method := { name := "median", desc := "([J)J", sig := { parameters := [(.array .long)], returnType := some .long }, accessFlags := 8, code := some k3c1 }
/-- com/example/widowbid/widowbid/SolveCommand -/
def k3 : Class := { plain "com/example/widowbid/widowbid/SolveCommand" (some 0) with
  accessFlags := 48
  interfaces := #[2]
  cf := some (fileOf pool3 15 #[] #[{ accessFlags := 0, nameIndex := 5, descriptorIndex := 6, attributes := #[] }, { accessFlags := 8, nameIndex := 174, descriptorIndex := 175, attributes := #[] }] 48 2 #[261] #[{ accessFlags := 26, nameIndex := 263, descriptorIndex := 264, attributes := #[] }, { accessFlags := 26, nameIndex := 266, descriptorIndex := 264, attributes := #[] }, { accessFlags := 26, nameIndex := 269, descriptorIndex := 270, attributes := #[] }])
  fields := #[{ name := "TIME", type := (.object "java/lang/String"), accessFlags := 26, slot := 0, constantValue := 0 }, { name := "USAGE", type := (.object "java/lang/String"), accessFlags := 26, slot := 1, constantValue := 0 }, { name := "NANOS", type := .double, accessFlags := 26, slot := 2, constantValue := 0 }]
  methods := #[k3m0, k3m1]
  instanceTypes := #[]
  staticTypes := #[(.object "java/lang/String"), (.object "java/lang/String"), .double]
  resolved := Array.replicate 331 none
  statics := none }

def pool4 : Array CpInfo := pool [(1, u "java/lang/Cloneable"), (0, .class_ 1), (0, u "java/lang/Object"), (0, .class_ 3)] 3

/-- java/lang/Cloneable -/
def k4 : Class := { plain "java/lang/Cloneable" (some 0) with
  accessFlags := 1537
  interfaces := #[]
  cf := some (fileOf pool4 2 #[] #[] 1537 4 #[] #[])
  fields := #[]
  methods := #[]
  instanceTypes := #[]
  staticTypes := #[]
  resolved := Array.replicate 8 none
  statics := none }

def pool5 : Array CpInfo := pool [(1, u "java/io/Serializable"), (0, .class_ 1), (0, u "java/lang/Object"), (0, .class_ 3)] 3

/-- java/io/Serializable -/
def k5 : Class := { plain "java/io/Serializable" (some 0) with
  accessFlags := 1537
  interfaces := #[]
  cf := some (fileOf pool5 2 #[] #[] 1537 4 #[] #[])
  fields := #[]
  methods := #[]
  instanceTypes := #[]
  staticTypes := #[]
  resolved := Array.replicate 8 none
  statics := none }

/-- the primitive byte -/
def k6 : Class := { plain "byte" none with kind := .primitive 'B', accessFlags := 0x411 }
/-- [B -/
def k7 : Class := { plain "[B" (some 0) with kind := .array 6 .byte, interfaces := #[4, 5], accessFlags := 1041 }

/-- the primitive int -/
def k8 : Class := { plain "int" none with kind := .primitive 'I', accessFlags := 0x411 }
/-- [I -/
def k9 : Class := { plain "[I" (some 0) with kind := .array 8 .int, interfaces := #[4, 5], accessFlags := 1041 }

/-- the primitive long -/
def k10 : Class := { plain "long" none with kind := .primitive 'J', accessFlags := 0x411 }
/-- [J -/
def k11 : Class := { plain "[J" (some 0) with kind := .array 10 .long, interfaces := #[4, 5], accessFlags := 1041 }

def heap : Heap := #[]
def classes : Array Class := #[k0, k1, k2, k3, k4, k5, k6, k7, k8, k9, k10, k11]
def interned : List (Array UInt16 × Addr) := []
def slotsUsed : Nat := 0
def theMethod : MethodId := ⟨1, 2⟩
def args0 : Array Value := #[.int 5, .long 7, .long 7, .long 7, .long 7, .long 7]
def aboutOver (below : List Frame) : State where
  vm := { classes := classes, interned := interned.toArray }
  heap := heap
  slotsUsed := slotsUsed
  threads := #[{ frames := .invoking theMethod args0 :: below }]
def below0 : List Frame := [.native { method := ⟨0, 0⟩, args := #[] }]
def about1 : State := aboutOver below0
def p0 : Program := .bare "" "" ""
def e0 : Env := launch0.env 0 0 0
theorem w_frames : about1.frames = Frame.invoking theMethod args0 :: below0 := rfl
set_option maxRecDepth 65536 in
theorem w_args : argsFit about1.vm theMethod args0 = true := by decide +kernel
set_option maxRecDepth 65536 in
theorem w_heap : heapFits about1 = true := by decide +kernel
set_option maxRecDepth 65536 in
theorem w_runnable : about1.curStatus? = some .runnable := by decide +kernel
set_option maxRecDepth 65536 in
theorem w_alone : about1.alone = true := by decide +kernel
set_option maxRecDepth 65536 in
theorem w_named : about1.methodNamed? x = some theMethod := by decide +kernel
set_option maxRecDepth 65536 in
theorem w_hears : about1.hears theMethod below0 = true := by decide +kernel
set_option maxRecDepth 65536 in
theorem w_ripe : about1.ripe theMethod args0 below0 = true := by decide +kernel
theorem w_running : about1.status = .running := rfl
set_option maxRecDepth 65536 in
theorem w_room : about1.hasRoom e0.platform room_1 = true :=
  launch0.hasRoom_least _ room_1 (by decide +kernel) (by decide +kernel) (by decide +kernel) (by decide +kernel) (by decide +kernel) (by decide +kernel)
theorem allAtoms_all (ts : List Jvm.Cond) (a : Array Jvm.Value) (st : Jvm.State) : (allAtoms ts).before a st = ts.all (fun c => c.before a st) := by
  induction ts with
  | nil => rfl
  | cons c t ih =>
    show (Jvm.Cond.and c (allAtoms t)).before a st = _
    rw [Jvm.Cond.before_and, ih, List.all_cons]
def words1 : List Jvm.Cond := Jvm.Cond.code x code maxLocals ret :: tables_1
/-- a 'code' word, met by the world's own term for the bytes: nothing is compared byte by byte -/
theorem code_word {y : MethodName} {bytes : ByteArray} {mx : Nat} {rt : Option FieldType} {a : Array Value} {s : State} {m : MethodId} {meth : Method} {c : Code} (h1 : s.methodNamed? y = some m) (h2 : s.vm.method? m = some meth) (h3 : meth.code = some c) (h4 : c.code = bytes)
    (h5 : (c.maxLocals == mx && c.exceptionTable.isEmpty && decide (c.maxStack ≤ mostOperands) && decide (meth.sig.returnType = rt) && !meth.locks && decide (parseMethodDescriptor y.desc = some meth.sig)) = true) : (Jvm.Cond.code y bytes mx rt).before a s = true := by
  simp only [Bool.and_eq_true, beq_iff_eq, Bool.not_eq_true', decide_eq_true_eq] at h5
  obtain ⟨⟨⟨⟨⟨g1, g2⟩, g3⟩, g4⟩, g5⟩, g6⟩ := h5
  simp [Cond.before, Cond.holds, Cond.value, h1, h2, h3, h4, g1, g2, g3, g4, g5, g6]
def isCode : Jvm.Cond → Bool
  | .code _ _ _ _ => true
  | _ => false
theorem all_split {L : List Jvm.Cond} {P : Jvm.Cond → Bool} (h1 : L.all (fun c => isCode c || P c) = true) (h2 : ∀ c ∈ L.filter isCode, P c = true) : L.all P = true := by
  refine List.all_eq_true.mpr fun c hc => ?_
  have h := List.all_eq_true.mp h1 c hc
  rcases Bool.eq_false_or_eq_true (isCode c) with hi | hi
  · exact h2 c (List.mem_filter.mpr ⟨hc, hi⟩)
  · simpa [hi] using h
set_option maxRecDepth 65536 in
theorem w_c0 : (Jvm.Cond.code x code maxLocals ret).before args0 about1 = true := code_word (m := ⟨1, 2⟩) (meth := k1m2) (c := k1c2) (by decide +kernel) rfl rfl rfl (by decide +kernel)
set_option maxRecDepth 65536 in
theorem w_c1 : (Jvm.Cond.code ({ cls := "com/example/widowbid/widowbid/SolveCommand", name := "median", desc := "([J)J" } : Jvm.MethodName) prog_49_method_4_code (2 : Nat) (Option.some Jvm.ClassFile.FieldType.long)).before args0 about1 = true := code_word (m := ⟨3, 1⟩) (meth := k3m1) (c := k3c1) (by decide +kernel) rfl rfl rfl (by decide +kernel)
set_option maxRecDepth 65536 in
theorem w_c2 : (Jvm.Cond.code ({ cls := "com/example/widowbid/widowbid/SolveCommandMedianPinLaw", name := "mid", desc := "(JJ)J" } : Jvm.MethodName) method_2_code (4 : Nat) (Option.some Jvm.ClassFile.FieldType.long)).before args0 about1 = true := code_word (m := ⟨1, 1⟩) (meth := k1m1) (c := k1c1) (by decide +kernel) rfl rfl rfl (by decide +kernel)
def codes1 : List Jvm.Cond := [Jvm.Cond.code x code maxLocals ret, Jvm.Cond.code ({ cls := "com/example/widowbid/widowbid/SolveCommand", name := "median", desc := "([J)J" } : Jvm.MethodName) prog_49_method_4_code (2 : Nat) (Option.some Jvm.ClassFile.FieldType.long), Jvm.Cond.code ({ cls := "com/example/widowbid/widowbid/SolveCommandMedianPinLaw", name := "mid", desc := "(JJ)J" } : Jvm.MethodName) method_2_code (4 : Nat) (Option.some Jvm.ClassFile.FieldType.long)]
set_option maxRecDepth 65536 in
theorem codes_eq : words1.filter isCode = codes1 := rfl
theorem w_codes : ∀ c ∈ words1.filter isCode, c.before args0 about1 = true := by
  rw [codes_eq]
  intro c hc
  simp only [codes1, List.mem_cons, List.not_mem_nil, or_false] at hc
  rcases hc with rfl | rfl | rfl
  · exact w_c0
  · exact w_c1
  · exact w_c2
set_option maxRecDepth 65536 in
theorem w_t1 : words1.all (fun c => isCode c || c.before args0 about1) = true := by decide +kernel
theorem w_tables : (allAtoms (Jvm.Cond.code x code maxLocals ret :: tables_1)).before args0 about1 = true := by
  rw [allAtoms_all]
  show words1.all (fun c => c.before args0 about1) = true
  refine all_split ?_ w_codes
  rw [w_t1]
set_option maxRecDepth 65536 in
theorem w_case : (Jvm.Cond.and given_1 narrow_1).before args0 about1 = true := by decide +kernel
theorem w_applies : (headSpec (Jvm.Cond.code x code maxLocals ret :: tables_1) room_1).applies x e0.platform about1 = true :=
  (Spec.applies_iff w_frames).mpr ⟨w_running, w_runnable, w_alone, w_named, w_hears, w_ripe, w_room, w_tables⟩
theorem atStart : AtStart classFile x code maxLocals ret World_1 tables_1 room_1 Calls_1 rest_1 Pre_1 launch0 p0 e0 about1 theMethod args0 below0 :=
  ⟨lists_1, trivial, launch0.admits_env _ _ _, launch0.least_env, fairChoices_fair.cas, fairChoices_fair.clock, w_frames, w_args, w_heap, w_applies, trivial, trivial, w_case⟩
end start1
theorem witness_1 : WitnessClaimed_1 := ⟨start1.p0, start1.e0, start1.about1, start1.theMethod, start1.args0, start1.below0, start1.atStart⟩
end Jvm.Pilot.@@N@@
