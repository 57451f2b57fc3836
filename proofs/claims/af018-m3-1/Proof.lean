import JvmDerived
import JvmDerived.Pilot.@@N@@Statement
import JvmDerived.Pilot.@@N@@Code
set_option linter.unusedVariables false
set_option linter.unusedSimpArgs false
namespace Jvm.Pilot.@@N@@
open Jvm Jvm.ClassFile Sem Op Lib Jvm.Free Jvm.Stand Jvm.LawKit Jvm.RoadKit Bundle Jvm.Pilot.@@N@@.Jvm.D
section OwnKit
/-- where a walk of this body ends: it has returned, wrote nothing below n0, and Q holds of what it returned and of the heap -/
def Ends (n0 : Nat) (p : Program) (e : Env) (s : State) (below : List Frame) (R : Room) (Q : Option Value → Heap → Prop) (T : State) (g : JFrame) : Prop :=
  ∃ s₂ o, Steps p.tables e below (T.setTop g) s₂ ∧ s₂.status = .running ∧ Ended s₂ below o ∧ ∃ v L, o = .returned v ∧ (Fr n0 L ∧ Q v s₂.heap) ∧ FrameEnd s o s₂ L R.cells R.slots
/-- the walk stands at T over the heap h, having made at most kc cells of ks slots -/
def St (l : Launch) (n0 : Nat) (p : Program) (e : Env) (R : Room) (s : State) (m : MethodId) (args : Array Value) (below : List Frame) (meth : Method) (c : Code) (kc ks : Nat) (T : State) (h : Heap) : Prop :=
  ∃ locs cells slots, Stand p l e R s m args below meth c T locs cells slots ∧ T.heap = h ∧ Fr n0 locs ∧ cells ≤ kc ∧ slots ≤ ks
def Cx (l : Launch) (Z : State) (n0 : Nat) (p : Program) (e : Env) (R : Room) (s : State) (m : MethodId) (args : Array Value) (below : List Frame) (meth : Method) (c : Code) (bytes : ByteArray) (ml : Nat) (own name : String) (rt : Option FieldType) (Q : Option Value → Heap → Prop) (F : State → JFrame → Prop) (S : Nat → Nat → State → Heap → Prop) : Prop :=
  (p.tables.exec = Jvm.exec ∧ Z.Warmed39 s.vm ∧ c.code = bytes ∧ c.maxLocals = ml) ∧ (s.vm.findClass own = some m.cls ∧ meth.name = name ∧ meth.sig.returnType = rt ∧ meth.locks = false) ∧ F = Ends n0 p e s below R Q ∧ S = St l n0 p e R s m args below meth c
/-- a body's contract -/
def Con (l : Launch) (Z : State) (y : MethodName) (bytes : ByteArray) (ml : Nat) (rt : Option FieldType) (R : Room) (args : Array Value) (h0 : Heap) (n0 : Nat) (Q : Option Value → Heap → Prop) : Prop :=
  ∀ ws : List Jvm.Cond, MetFree l y (head1 (Jvm.Cond.code y bytes ml rt :: ws) R) (fun a U => a = args ∧ Z.Warmed39 U.vm ∧ U.heap = h0) (fun _ _ _ _ _ => True) (fun _ U o U' => ∃ v L, o = .returned v ∧ (Fr n0 L ∧ Q v U'.heap) ∧ FrameEnd U o U' L R.cells R.slots)
variable {l : Launch} {Z : State} {n0 : Nat} {p : Program} {e : Env} {R : Room} {s : State} {m : MethodId} {args : Array Value} {below : List Frame} {meth : Method} {c : Code} {bytes : ByteArray} {ml : Nat} {own name : String} {rt : Option FieldType} {Q : Option Value → Heap → Prop} {F : State → JFrame → Prop} {S : Nat → Nat → State → Heap → Prop}
variable {a0 : Array Value} {T T' : State} {h h' : Heap} {kc ks kc' ks' pc pc' : Nat} {L L' : Array Slot} {rest : List Value}
theorem Con.of {y : MethodName} {h0 : Heap} {Ls : Array Slot} (hpn : plainFor y = true) (hef : ∀ m, entryFrame m args ml = mkF m 0 Ls []) (ho : y.cls = own) (hn : y.name = name)
    (H : ∀ (p : Program) (e : Env) (s : State) (m : MethodId) (below : List Frame) (meth : Method) (c : Code) (T : State) (F : State → JFrame → Prop) (S : Nat → Nat → State → Heap → Prop), Cx l Z n0 p e R s m args below meth c bytes ml own name rt Q F S → S 0 0 T h0 → F T (mkF m 0 Ls [])) :
    Con l Z y bytes ml rt R args h0 n0 Q := by
  intro ws
  refine MetFree.of_bodySF hpn hisR ?_
  intro p e s m args below meth c s₁ Bd hml0 hP hK
  obtain ⟨rfl, hZ, hh⟩ := hP
  have e0 : s₁.heap = h0 := by rw [← hh, Bd.state]; rfl
  obtain ⟨s₂, o, q1, q2, q3, q4⟩ := H p e s m below meth c s₁ _ _ ⟨⟨Bd.exec, hZ, Bd.bytes, hml0⟩, ⟨by rw [← ho]; exact findClass_of_methodNamed Bd.named, by rw [← hn]; exact (name_of_methodNamed Bd.named Bd.method).1, Bd.returns, Bd.notSynchronized⟩, rfl, rfl⟩ ⟨[], 0, 0, Stand.of_body Bd, e0, Fr.nil n0, Nat.le_refl _, Nat.le_refl _⟩
  exact ⟨s₂, o, castTop (hef m) q1, q2, q3, q4⟩
theorem Cx.step (cx : Cx l Z n0 p e R s m args below meth c bytes ml own name rt Q F S) {g g' : JFrame} (st : ∀ t, Steps p.tables e below (T'.setTop g') t → Steps p.tables e below (T.setTop g) t) (k : F T' g') : F T g := by
  obtain ⟨-, -, rfl, -⟩ := cx
  obtain ⟨s₂, o, q1, q⟩ := k
  exact ⟨s₂, o, st _ q1, q⟩
theorem Cx.at (cx : Cx l Z n0 p e R s m args below meth c bytes ml own name rt Q F S) (st : S kc ks T h) : At T m c below := by
  obtain ⟨-, -, -, rfl⟩ := cx
  obtain ⟨_, _, _, X, -⟩ := st
  exact X.here
theorem Cx.open (cx : Cx l Z n0 p e R s m args below meth c bytes ml own name rt Q F S) (st : S kc ks T h) : ∃ locs cells slots, Stand p l e R s m args below meth c T locs cells slots ∧ T.heap = h ∧ Fr n0 locs ∧ cells ≤ kc ∧ slots ≤ ks := by
  obtain ⟨-, -, -, rfl⟩ := cx
  exact st
theorem Cx.mono (cx : Cx l Z n0 p e R s m args below meth c bytes ml own name rt Q F S) (st : S kc ks T h) (h1 : kc ≤ kc') (h2 : ks ≤ ks') : S kc' ks' T h := by
  obtain ⟨-, -, -, rfl⟩ := cx
  obtain ⟨a, b, d, X, q1, q2, q3, q4⟩ := st
  exact ⟨a, b, d, X, q1, q2, Nat.le_trans q3 h1, Nat.le_trans q4 h2⟩
theorem Cx.dec (cx : Cx l Z n0 p e R s m args below meth c bytes ml own name rt Q F S) {r : Except DecodeError (Instr × Nat)} (hd : decode bytes pc = r) : decode c.code pc = r := hb cx.1.2.2.1 hd
/-- leaving the method -/
theorem Cx.fin (cx : Cx l Z n0 p e R s m args below meth c bytes ml own name rt Q F S) (st : S kc ks T h) {v : Option Value} {g : JFrame} (hv : rt = none → v = none) (hk : kc ≤ R.cells) (hs : ks ≤ R.slots)
    (go : ∀ fs locs cells slots, Stand p l e R s m args below meth c T locs cells slots → (∀ (f : JFrame) (acts : List Action), f.method = m → f.locked = none → f.entered = [] → (doReturn e (T.setTop f) acts v).1 = T.setFrames fs) → Steps p.tables e below (T.setTop g) (T.setFrames fs)) (hQ : Q v h) : F T g := by
  obtain ⟨c1, ⟨c5, c6, c7, c8⟩, rfl, rfl⟩ := cx
  obtain ⟨locs, cells, slots, X, q1, q2, q3, q4⟩ := st
  obtain ⟨fs, hr, hrun, hended, hW, hsame⟩ := X.leave (v := v) (fun q => hv (c7.symm.trans q)) c8
  refine ⟨_, _, go fs _ _ _ X hr, hrun, hended, v, locs, rfl, ⟨q2, ?_⟩, ⟨_, rfl⟩, hW, hsame.mono (Nat.le_trans q3 hk) (Nat.le_trans q4 hs)⟩
  show Q v T.heap
  rw [q1]; exact hQ
theorem E_iadd (cx : Cx l Z n0 p e R s m args below meth c bytes ml own name rt Q F S) (st : S kc ks T h) {x y : Int32} (hd : decode bytes pc = .ok (.iadd, 1))  (hp : pc + 1 = pc') (k : F T (mkF m pc' L (.int (x + y) :: rest))) : F T (mkF m pc L (.int y :: .int x :: rest)) := by
  subst hp; exact cx.step (fun _ q => XS.iadd (cx.at st) cx.1.1 rfl (cx.dec hd) rfl q) k
theorem E_isub (cx : Cx l Z n0 p e R s m args below meth c bytes ml own name rt Q F S) (st : S kc ks T h) {x y : Int32} (hd : decode bytes pc = .ok (.isub, 1))  (hp : pc + 1 = pc') (k : F T (mkF m pc' L (.int (x - y) :: rest))) : F T (mkF m pc L (.int y :: .int x :: rest)) := by
  subst hp; exact cx.step (fun _ q => XS.isub (cx.at st) cx.1.1 rfl (cx.dec hd) rfl q) k
theorem E_imul (cx : Cx l Z n0 p e R s m args below meth c bytes ml own name rt Q F S) (st : S kc ks T h) {x y : Int32} (hd : decode bytes pc = .ok (.imul, 1))  (hp : pc + 1 = pc') (k : F T (mkF m pc' L (.int (x * y) :: rest))) : F T (mkF m pc L (.int y :: .int x :: rest)) := by
  subst hp; exact cx.step (fun _ q => XS.imul (cx.at st) cx.1.1 rfl (cx.dec hd) rfl q) k
theorem E_iand (cx : Cx l Z n0 p e R s m args below meth c bytes ml own name rt Q F S) (st : S kc ks T h) {x y : Int32} (hd : decode bytes pc = .ok (.iand, 1))  (hp : pc + 1 = pc') (k : F T (mkF m pc' L (.int (x &&& y) :: rest))) : F T (mkF m pc L (.int y :: .int x :: rest)) := by
  subst hp; exact cx.step (fun _ q => XS.iand (cx.at st) cx.1.1 rfl (cx.dec hd) rfl q) k
theorem E_ior (cx : Cx l Z n0 p e R s m args below meth c bytes ml own name rt Q F S) (st : S kc ks T h) {x y : Int32} (hd : decode bytes pc = .ok (.ior, 1))  (hp : pc + 1 = pc') (k : F T (mkF m pc' L (.int (x ||| y) :: rest))) : F T (mkF m pc L (.int y :: .int x :: rest)) := by
  subst hp; exact cx.step (fun _ q => XS.ior (cx.at st) cx.1.1 rfl (cx.dec hd) rfl q) k
theorem E_ixor (cx : Cx l Z n0 p e R s m args below meth c bytes ml own name rt Q F S) (st : S kc ks T h) {x y : Int32} (hd : decode bytes pc = .ok (.ixor, 1))  (hp : pc + 1 = pc') (k : F T (mkF m pc' L (.int (x ^^^ y) :: rest))) : F T (mkF m pc L (.int y :: .int x :: rest)) := by
  subst hp; exact cx.step (fun _ q => XS.ixor (cx.at st) cx.1.1 rfl (cx.dec hd) rfl q) k
theorem E_ladd (cx : Cx l Z n0 p e R s m args below meth c bytes ml own name rt Q F S) (st : S kc ks T h) {x y : Int64} (hd : decode bytes pc = .ok (.ladd, 1))  (hp : pc + 1 = pc') (k : F T (mkF m pc' L (.long (x + y) :: rest))) : F T (mkF m pc L (.long y :: .long x :: rest)) := by
  subst hp; exact cx.step (fun _ q => XS.ladd (cx.at st) cx.1.1 rfl (cx.dec hd) rfl q) k
theorem E_lsub (cx : Cx l Z n0 p e R s m args below meth c bytes ml own name rt Q F S) (st : S kc ks T h) {x y : Int64} (hd : decode bytes pc = .ok (.lsub, 1))  (hp : pc + 1 = pc') (k : F T (mkF m pc' L (.long (x - y) :: rest))) : F T (mkF m pc L (.long y :: .long x :: rest)) := by
  subst hp; exact cx.step (fun _ q => XS.lsub (cx.at st) cx.1.1 rfl (cx.dec hd) rfl q) k
theorem E_lmul (cx : Cx l Z n0 p e R s m args below meth c bytes ml own name rt Q F S) (st : S kc ks T h) {x y : Int64} (hd : decode bytes pc = .ok (.lmul, 1))  (hp : pc + 1 = pc') (k : F T (mkF m pc' L (.long (x * y) :: rest))) : F T (mkF m pc L (.long y :: .long x :: rest)) := by
  subst hp; exact cx.step (fun _ q => XS.lmul (cx.at st) cx.1.1 rfl (cx.dec hd) rfl q) k
theorem E_land (cx : Cx l Z n0 p e R s m args below meth c bytes ml own name rt Q F S) (st : S kc ks T h) {x y : Int64} (hd : decode bytes pc = .ok (.land, 1))  (hp : pc + 1 = pc') (k : F T (mkF m pc' L (.long (x &&& y) :: rest))) : F T (mkF m pc L (.long y :: .long x :: rest)) := by
  subst hp; exact cx.step (fun _ q => XS.land (cx.at st) cx.1.1 rfl (cx.dec hd) rfl q) k
theorem E_lor (cx : Cx l Z n0 p e R s m args below meth c bytes ml own name rt Q F S) (st : S kc ks T h) {x y : Int64} (hd : decode bytes pc = .ok (.lor, 1))  (hp : pc + 1 = pc') (k : F T (mkF m pc' L (.long (x ||| y) :: rest))) : F T (mkF m pc L (.long y :: .long x :: rest)) := by
  subst hp; exact cx.step (fun _ q => XS.lor (cx.at st) cx.1.1 rfl (cx.dec hd) rfl q) k
theorem E_lxor (cx : Cx l Z n0 p e R s m args below meth c bytes ml own name rt Q F S) (st : S kc ks T h) {x y : Int64} (hd : decode bytes pc = .ok (.lxor, 1))  (hp : pc + 1 = pc') (k : F T (mkF m pc' L (.long (x ^^^ y) :: rest))) : F T (mkF m pc L (.long y :: .long x :: rest)) := by
  subst hp; exact cx.step (fun _ q => XS.lxor (cx.at st) cx.1.1 rfl (cx.dec hd) rfl q) k
theorem E_idiv (cx : Cx l Z n0 p e R s m args below meth c bytes ml own name rt Q F S) (st : S kc ks T h) {x y : Int32} (hd : decode bytes pc = .ok (.idiv, 1)) (hz : y ≠ 0) (hp : pc + 1 = pc') (k : F T (mkF m pc' L (.int (x / y) :: rest))) : F T (mkF m pc L (.int y :: .int x :: rest)) := by
  subst hp; exact cx.step (fun _ q => XS.idiv (cx.at st) cx.1.1 rfl (cx.dec hd) rfl hz q) k
theorem E_ldiv (cx : Cx l Z n0 p e R s m args below meth c bytes ml own name rt Q F S) (st : S kc ks T h) {x y : Int64} (hd : decode bytes pc = .ok (.ldiv, 1)) (hz : y ≠ 0) (hp : pc + 1 = pc') (k : F T (mkF m pc' L (.long (x / y) :: rest))) : F T (mkF m pc L (.long y :: .long x :: rest)) := by
  subst hp; exact cx.step (fun _ q => XS.ldiv (cx.at st) cx.1.1 rfl (cx.dec hd) rfl hz q) k
theorem E_ishl (cx : Cx l Z n0 p e R s m args below meth c bytes ml own name rt Q F S) (st : S kc ks T h) {x y : Int32} (hd : decode bytes pc = .ok (.ishl, 1))  (hp : pc + 1 = pc') (k : F T (mkF m pc' L (.int (x <<< (y &&& 31)) :: rest))) : F T (mkF m pc L (.int y :: .int x :: rest)) := by
  subst hp; exact cx.step (fun _ q => XS.ishl (cx.at st) cx.1.1 rfl (cx.dec hd) rfl q) k
theorem E_ishr (cx : Cx l Z n0 p e R s m args below meth c bytes ml own name rt Q F S) (st : S kc ks T h) {x y : Int32} (hd : decode bytes pc = .ok (.ishr, 1))  (hp : pc + 1 = pc') (k : F T (mkF m pc' L (.int (x >>> (y &&& 31)) :: rest))) : F T (mkF m pc L (.int y :: .int x :: rest)) := by
  subst hp; exact cx.step (fun _ q => XS.ishr (cx.at st) cx.1.1 rfl (cx.dec hd) rfl q) k
theorem E_iushr (cx : Cx l Z n0 p e R s m args below meth c bytes ml own name rt Q F S) (st : S kc ks T h) {x y : Int32} (hd : decode bytes pc = .ok (.iushr, 1))  (hp : pc + 1 = pc') (k : F T (mkF m pc' L (.int ((x.toUInt32 >>> (y &&& 31).toUInt32).toInt32) :: rest))) : F T (mkF m pc L (.int y :: .int x :: rest)) := by
  subst hp; exact cx.step (fun _ q => XS.iushr (cx.at st) cx.1.1 rfl (cx.dec hd) rfl q) k
theorem E_lshl (cx : Cx l Z n0 p e R s m args below meth c bytes ml own name rt Q F S) (st : S kc ks T h) {x : Int64} {y : Int32} (hd : decode bytes pc = .ok (.lshl, 1))  (hp : pc + 1 = pc') (k : F T (mkF m pc' L (.long (x <<< (y &&& 0x3f).toInt64) :: rest))) : F T (mkF m pc L (.int y :: .long x :: rest)) := by
  subst hp; exact cx.step (fun _ q => XS.lshl (cx.at st) cx.1.1 rfl (cx.dec hd) rfl q) k
theorem E_lshr (cx : Cx l Z n0 p e R s m args below meth c bytes ml own name rt Q F S) (st : S kc ks T h) {x : Int64} {y : Int32} (hd : decode bytes pc = .ok (.lshr, 1))  (hp : pc + 1 = pc') (k : F T (mkF m pc' L (.long (x >>> (y &&& 0x3f).toInt64) :: rest))) : F T (mkF m pc L (.int y :: .long x :: rest)) := by
  subst hp; exact cx.step (fun _ q => XS.lshr (cx.at st) cx.1.1 rfl (cx.dec hd) rfl q) k
theorem E_lushr (cx : Cx l Z n0 p e R s m args below meth c bytes ml own name rt Q F S) (st : S kc ks T h) {x : Int64} {y : Int32} (hd : decode bytes pc = .ok (.lushr, 1))  (hp : pc + 1 = pc') (k : F T (mkF m pc' L (.long ((x.toUInt64 >>> (y &&& 0x3f).toInt64.toUInt64).toInt64) :: rest))) : F T (mkF m pc L (.int y :: .long x :: rest)) := by
  subst hp; exact cx.step (fun _ q => XS.lushr (cx.at st) cx.1.1 rfl (cx.dec hd) rfl q) k
theorem E_ineg (cx : Cx l Z n0 p e R s m args below meth c bytes ml own name rt Q F S) (st : S kc ks T h) {x : Int32} (hd : decode bytes pc = .ok (.ineg, 1))  (hp : pc + 1 = pc') (k : F T (mkF m pc' L (.int (-x) :: rest))) : F T (mkF m pc L (.int x :: rest)) := by
  subst hp; exact cx.step (fun _ q => XS.ineg (cx.at st) cx.1.1 rfl (cx.dec hd) rfl q) k
theorem E_lneg (cx : Cx l Z n0 p e R s m args below meth c bytes ml own name rt Q F S) (st : S kc ks T h) {x : Int64} (hd : decode bytes pc = .ok (.lneg, 1))  (hp : pc + 1 = pc') (k : F T (mkF m pc' L (.long (-x) :: rest))) : F T (mkF m pc L (.long x :: rest)) := by
  subst hp; exact cx.step (fun _ q => XS.lneg (cx.at st) cx.1.1 rfl (cx.dec hd) rfl q) k
theorem E_i2l (cx : Cx l Z n0 p e R s m args below meth c bytes ml own name rt Q F S) (st : S kc ks T h) {x : Int32} (hd : decode bytes pc = .ok (.i2l, 1))  (hp : pc + 1 = pc') (k : F T (mkF m pc' L (.long (x.toInt64) :: rest))) : F T (mkF m pc L (.int x :: rest)) := by
  subst hp; exact cx.step (fun _ q => XS.i2l (cx.at st) cx.1.1 rfl (cx.dec hd) rfl q) k
theorem E_l2i (cx : Cx l Z n0 p e R s m args below meth c bytes ml own name rt Q F S) (st : S kc ks T h) {x : Int64} (hd : decode bytes pc = .ok (.l2i, 1))  (hp : pc + 1 = pc') (k : F T (mkF m pc' L (.int (x.toInt32) :: rest))) : F T (mkF m pc L (.long x :: rest)) := by
  subst hp; exact cx.step (fun _ q => XS.l2i (cx.at st) cx.1.1 rfl (cx.dec hd) rfl q) k
theorem E_lcmp (cx : Cx l Z n0 p e R s m args below meth c bytes ml own name rt Q F S) (st : S kc ks T h) {x y : Int64} (hd : decode bytes pc = .ok (.lcmp, 1))  (hp : pc + 1 = pc') (k : F T (mkF m pc' L (.int (lcmpW x y) :: rest))) : F T (mkF m pc L (.long y :: .long x :: rest)) := by
  subst hp; exact cx.step (fun _ q => XS.lcmp (cx.at st) cx.1.1 rfl (cx.dec hd) rfl q) k
theorem E_pop (cx : Cx l Z n0 p e R s m args below meth c bytes ml own name rt Q F S) (st : S kc ks T h) {x : Value} (hd : decode bytes pc = .ok (.pop, 1)) (hc : x.category = 1) (hp : pc + 1 = pc') (k : F T (mkF m pc' L (rest))) : F T (mkF m pc L (x :: rest)) := by
  subst hp; exact cx.step (fun _ q => XS.pop (cx.at st) cx.1.1 rfl (cx.dec hd) rfl hc q) k
theorem E_dup (cx : Cx l Z n0 p e R s m args below meth c bytes ml own name rt Q F S) (st : S kc ks T h) {x : Value} (hd : decode bytes pc = .ok (.dup, 1)) (hc : x.category = 1) (hp : pc + 1 = pc') (k : F T (mkF m pc' L (x :: x :: rest))) : F T (mkF m pc L (x :: rest)) := by
  subst hp; exact cx.step (fun _ q => XS.dup (cx.at st) cx.1.1 rfl (cx.dec hd) rfl hc q) k
theorem E_dup_x1 (cx : Cx l Z n0 p e R s m args below meth c bytes ml own name rt Q F S) (st : S kc ks T h) {x y : Value} (hd : decode bytes pc = .ok (.dup_x1, 1)) (hc : x.category = 1) (hc2 : y.category = 1) (hp : pc + 1 = pc') (k : F T (mkF m pc' L (x :: y :: x :: rest))) : F T (mkF m pc L (x :: y :: rest)) := by
  subst hp; exact cx.step (fun _ q => XS.dupX1 (cx.at st) cx.1.1 rfl (cx.dec hd) rfl hc hc2 q) k
theorem E_aconst_null (cx : Cx l Z n0 p e R s m args below meth c bytes ml own name rt Q F S) (st : S kc ks T h)  (hd : decode bytes pc = .ok (.aconst_null, 1))  (hp : pc + 1 = pc') (k : F T (mkF m pc' L (.null :: rest))) : F T (mkF m pc L (rest)) := by
  subst hp; exact cx.step (fun _ q => XS.aconstNull (cx.at st) cx.1.1 rfl (cx.dec hd)  q) k
theorem E_iloadN (cx : Cx l Z n0 p e R s m args below meth c bytes ml own name rt Q F S) (st : S kc ks T h) {j : Fin 4} {x : Int32} (hd : decode bytes pc = .ok (.iload_n j, 1)) (hl : L[j.val]? = some (.val (.int x)))  (hp : pc + 1 = pc') (k : F T (mkF m pc' L (.int x :: rest))) : F T (mkF m pc L (rest)) := by
  subst hp; exact cx.step (fun _ q => XS.iloadN (cx.at st) cx.1.1 rfl (cx.dec hd) hl q) k
theorem E_istoreN (cx : Cx l Z n0 p e R s m args below meth c bytes ml own name rt Q F S) (st : S kc ks T h) {j : Fin 4} {x : Int32} (hd : decode bytes pc = .ok (.istore_n j, 1))  (hl : storeLocals L j.val (.int x) = some L') (hp : pc + 1 = pc') (k : F T (mkF m pc' L' (rest))) : F T (mkF m pc L (.int x :: rest)) := by
  subst hp; exact cx.step (fun _ q => XS.istoreN (cx.at st) cx.1.1 rfl (cx.dec hd) rfl hl q) k
theorem E_iload (cx : Cx l Z n0 p e R s m args below meth c bytes ml own name rt Q F S) (st : S kc ks T h) {j : Nat} {x : Int32} (hd : decode bytes pc = .ok (.iload j, 2)) (hl : L[j]? = some (.val (.int x)))  (hp : pc + 2 = pc') (k : F T (mkF m pc' L (.int x :: rest))) : F T (mkF m pc L (rest)) := by
  subst hp; exact cx.step (fun _ q => XS.iload (cx.at st) cx.1.1 rfl (cx.dec hd) hl q) k
theorem E_istore (cx : Cx l Z n0 p e R s m args below meth c bytes ml own name rt Q F S) (st : S kc ks T h) {j : Nat} {x : Int32} (hd : decode bytes pc = .ok (.istore j, 2))  (hl : storeLocals L j (.int x) = some L') (hp : pc + 2 = pc') (k : F T (mkF m pc' L' (rest))) : F T (mkF m pc L (.int x :: rest)) := by
  subst hp; exact cx.step (fun _ q => XS.istore (cx.at st) cx.1.1 rfl (cx.dec hd) rfl hl q) k
theorem E_lloadN (cx : Cx l Z n0 p e R s m args below meth c bytes ml own name rt Q F S) (st : S kc ks T h) {j : Fin 4} {x : Int64} (hd : decode bytes pc = .ok (.lload_n j, 1)) (hl : L[j.val]? = some (.val (.long x)))  (hp : pc + 1 = pc') (k : F T (mkF m pc' L (.long x :: rest))) : F T (mkF m pc L (rest)) := by
  subst hp; exact cx.step (fun _ q => XS.lloadN (cx.at st) cx.1.1 rfl (cx.dec hd) hl q) k
theorem E_lstoreN (cx : Cx l Z n0 p e R s m args below meth c bytes ml own name rt Q F S) (st : S kc ks T h) {j : Fin 4} {x : Int64} (hd : decode bytes pc = .ok (.lstore_n j, 1))  (hl : storeLocals L j.val (.long x) = some L') (hp : pc + 1 = pc') (k : F T (mkF m pc' L' (rest))) : F T (mkF m pc L (.long x :: rest)) := by
  subst hp; exact cx.step (fun _ q => XS.lstoreN (cx.at st) cx.1.1 rfl (cx.dec hd) rfl hl q) k
theorem E_lload (cx : Cx l Z n0 p e R s m args below meth c bytes ml own name rt Q F S) (st : S kc ks T h) {j : Nat} {x : Int64} (hd : decode bytes pc = .ok (.lload j, 2)) (hl : L[j]? = some (.val (.long x)))  (hp : pc + 2 = pc') (k : F T (mkF m pc' L (.long x :: rest))) : F T (mkF m pc L (rest)) := by
  subst hp; exact cx.step (fun _ q => XS.lload (cx.at st) cx.1.1 rfl (cx.dec hd) hl q) k
theorem E_lstore (cx : Cx l Z n0 p e R s m args below meth c bytes ml own name rt Q F S) (st : S kc ks T h) {j : Nat} {x : Int64} (hd : decode bytes pc = .ok (.lstore j, 2))  (hl : storeLocals L j (.long x) = some L') (hp : pc + 2 = pc') (k : F T (mkF m pc' L' (rest))) : F T (mkF m pc L (.long x :: rest)) := by
  subst hp; exact cx.step (fun _ q => XS.lstore (cx.at st) cx.1.1 rfl (cx.dec hd) rfl hl q) k
theorem E_aloadN (cx : Cx l Z n0 p e R s m args below meth c bytes ml own name rt Q F S) (st : S kc ks T h) {j : Fin 4} {x : Value} (hd : decode bytes pc = .ok (.aload_n j, 1)) (hl : L[j.val]? = some (.val (x))) (hv : x.isRef = true) (hp : pc + 1 = pc') (k : F T (mkF m pc' L (x :: rest))) : F T (mkF m pc L (rest)) := by
  subst hp; exact cx.step (fun _ q => XS.aloadN (cx.at st) cx.1.1 rfl (cx.dec hd) hl hv q) k
theorem E_astoreN (cx : Cx l Z n0 p e R s m args below meth c bytes ml own name rt Q F S) (st : S kc ks T h) {j : Fin 4} {x : Value} (hd : decode bytes pc = .ok (.astore_n j, 1)) (hv : x.isRef = true) (hl : storeLocals L j.val (x) = some L') (hp : pc + 1 = pc') (k : F T (mkF m pc' L' (rest))) : F T (mkF m pc L (x :: rest)) := by
  subst hp; exact cx.step (fun _ q => XS.astoreN (cx.at st) cx.1.1 rfl (cx.dec hd) rfl hv hl q) k
theorem E_aload (cx : Cx l Z n0 p e R s m args below meth c bytes ml own name rt Q F S) (st : S kc ks T h) {j : Nat} {x : Value} (hd : decode bytes pc = .ok (.aload j, 2)) (hl : L[j]? = some (.val (x))) (hv : x.isRef = true) (hp : pc + 2 = pc') (k : F T (mkF m pc' L (x :: rest))) : F T (mkF m pc L (rest)) := by
  subst hp; exact cx.step (fun _ q => XS.aload (cx.at st) cx.1.1 rfl (cx.dec hd) hl hv q) k
theorem E_astore (cx : Cx l Z n0 p e R s m args below meth c bytes ml own name rt Q F S) (st : S kc ks T h) {j : Nat} {x : Value} (hd : decode bytes pc = .ok (.astore j, 2)) (hv : x.isRef = true) (hl : storeLocals L j (x) = some L') (hp : pc + 2 = pc') (k : F T (mkF m pc' L' (rest))) : F T (mkF m pc L (x :: rest)) := by
  subst hp; exact cx.step (fun _ q => XS.astore (cx.at st) cx.1.1 rfl (cx.dec hd) rfl hv hl q) k
theorem E_iinc (cx : Cx l Z n0 p e R s m args below meth c bytes ml own name rt Q F S) (st : S kc ks T h) {j : Nat} {cst : Int} {x : Int32} (v : Int32) (hd : decode bytes pc = .ok (.iinc j cst, 3)) (hv : Int32.ofInt cst = v) (hl : L[j]? = some (.val (.int x))) (hl' : storeLocals L j (.int (x + v)) = some L') (hp : pc + 3 = pc') (k : F T (mkF m pc' L' rest)) : F T (mkF m pc L rest) := by
  subst hp hv; exact cx.step (fun _ q => XS.iinc (cx.at st) cx.1.1 rfl (cx.dec hd) hl hl' q) k
theorem E_iconst (cx : Cx l Z n0 p e R s m args below meth c bytes ml own name rt Q F S) (st : S kc ks T h) {i : Int} (v : Int32) (hd : decode bytes pc = .ok (.iconst i, 1)) (hv : Int32.ofInt i = v) (hp : pc + 1 = pc') (k : F T (mkF m pc' L (.int v :: rest))) : F T (mkF m pc L rest) := by
  subst hp hv; exact cx.step (fun _ q => XS.iconst (cx.at st) cx.1.1 rfl (cx.dec hd) q) k
theorem E_bipush (cx : Cx l Z n0 p e R s m args below meth c bytes ml own name rt Q F S) (st : S kc ks T h) {i : Int} (v : Int32) (hd : decode bytes pc = .ok (.bipush i, 2)) (hv : (Int8.ofInt i).toInt32 = v) (hp : pc + 2 = pc') (k : F T (mkF m pc' L (.int v :: rest))) : F T (mkF m pc L rest) := by
  subst hp hv; exact cx.step (fun _ q => XS.bipush (cx.at st) cx.1.1 rfl (cx.dec hd) q) k
theorem E_sipush (cx : Cx l Z n0 p e R s m args below meth c bytes ml own name rt Q F S) (st : S kc ks T h) {i : Int} (v : Int32) (hd : decode bytes pc = .ok (.sipush i, 3)) (hv : (Int16.ofInt i).toInt32 = v) (hp : pc + 3 = pc') (k : F T (mkF m pc' L (.int v :: rest))) : F T (mkF m pc L rest) := by
  subst hp hv; exact cx.step (fun _ q => XS.sipush (cx.at st) cx.1.1 rfl (cx.dec hd) q) k
theorem E_lconst (cx : Cx l Z n0 p e R s m args below meth c bytes ml own name rt Q F S) (st : S kc ks T h) {i : Fin 2} (v : Int64) (hd : decode bytes pc = .ok (.lconst i, 1)) (hv : Int64.ofNat i = v) (hp : pc + 1 = pc') (k : F T (mkF m pc' L (.long v :: rest))) : F T (mkF m pc L rest) := by
  subst hp hv; exact cx.step (fun _ q => XS.lconst (cx.at st) cx.1.1 rfl (cx.dec hd) q) k
theorem E_goto (cx : Cx l Z n0 p e R s m args below meth c bytes ml own name rt Q F S) (st : S kc ks T h) {o : Int} (hd : decode bytes pc = .ok (.goto o, 3)) (ho : 0 ≤ (pc : Int) + o) (hp : ((pc : Int) + o).toNat = pc') (k : F T (mkF m pc' L rest)) : F T (mkF m pc L rest) :=
  cx.step (fun _ q => XS.goto (cx.at st) cx.1.1 rfl (pc0 := pc) rfl (cx.dec hd) ho hp q) k
theorem E_irem (cx : Cx l Z n0 p e R s m args below meth c bytes ml own name rt Q F S) (st : S kc ks T h) {x y : Int32} (hd : decode bytes pc = .ok (.irem, 1)) (hz : y ≠ 0) (hp : pc + 1 = pc') (k : F T (mkF m pc' L (.int (x % y) :: rest))) : F T (mkF m pc L (.int y :: .int x :: rest)) := by
  subst hp
  obtain ⟨_, _, _, X, -⟩ := cx.open st
  exact cx.step (fun _ q => iremM X cx.1.1 rfl (cx.dec hd) rfl hz q) k
theorem E_icmp_ltY (cx : Cx l Z n0 p e R s m args below meth c bytes ml own name rt Q F S) (st : S kc ks T h) {x y : Int32} {o : Int} (hd : decode bytes pc = .ok (.if_icmp .lt o, 3)) (ho : 0 ≤ (pc : Int) + o) (hp : ((pc : Int) + o).toNat = pc') (c1 : x < y) (k : F T (mkF m pc' L rest)) : F T (mkF m pc L (.int y :: .int x :: rest)) :=
  cx.step (fun _ q => XS.icmpYes (cx.at st) cx.1.1 rfl (pc0 := pc) rfl (cx.dec hd) rfl (tlt c1).1 ho hp q) k
theorem E_icmp_ltN (cx : Cx l Z n0 p e R s m args below meth c bytes ml own name rt Q F S) (st : S kc ks T h) {x y : Int32} {o : Int} (hd : decode bytes pc = .ok (.if_icmp .lt o, 3)) (hp : pc + 3 = pc') (c1 : ¬ (x < y)) (k : F T (mkF m pc' L rest)) : F T (mkF m pc L (.int y :: .int x :: rest)) := by
  subst hp; exact cx.step (fun _ q => XS.icmpNo (cx.at st) cx.1.1 rfl (cx.dec hd) rfl (flt c1).1 q) k
theorem E_if_ltY (cx : Cx l Z n0 p e R s m args below meth c bytes ml own name rt Q F S) (st : S kc ks T h) {x : Int32} {o : Int} (hd : decode bytes pc = .ok (.ifCond .lt o, 3)) (ho : 0 ≤ (pc : Int) + o) (hp : ((pc : Int) + o).toNat = pc') (c1 : x < 0) (k : F T (mkF m pc' L rest)) : F T (mkF m pc L (.int x :: rest)) :=
  cx.step (fun _ q => XS.ifYes (cx.at st) cx.1.1 rfl (pc0 := pc) rfl (cx.dec hd) rfl ((if0 _ _).trans (tlt c1).1) ho hp q) k
theorem E_if_ltN (cx : Cx l Z n0 p e R s m args below meth c bytes ml own name rt Q F S) (st : S kc ks T h) {x : Int32} {o : Int} (hd : decode bytes pc = .ok (.ifCond .lt o, 3)) (hp : pc + 3 = pc') (c1 : ¬ (x < 0)) (k : F T (mkF m pc' L rest)) : F T (mkF m pc L (.int x :: rest)) := by
  subst hp; exact cx.step (fun _ q => XS.ifNo (cx.at st) cx.1.1 rfl (cx.dec hd) rfl ((if0 _ _).trans (flt c1).1) q) k
theorem E_icmp_geY (cx : Cx l Z n0 p e R s m args below meth c bytes ml own name rt Q F S) (st : S kc ks T h) {x y : Int32} {o : Int} (hd : decode bytes pc = .ok (.if_icmp .ge o, 3)) (ho : 0 ≤ (pc : Int) + o) (hp : ((pc : Int) + o).toNat = pc') (c1 : ¬ (x < y)) (k : F T (mkF m pc' L rest)) : F T (mkF m pc L (.int y :: .int x :: rest)) :=
  cx.step (fun _ q => XS.icmpYes (cx.at st) cx.1.1 rfl (pc0 := pc) rfl (cx.dec hd) rfl (flt c1).2.1 ho hp q) k
theorem E_icmp_geN (cx : Cx l Z n0 p e R s m args below meth c bytes ml own name rt Q F S) (st : S kc ks T h) {x y : Int32} {o : Int} (hd : decode bytes pc = .ok (.if_icmp .ge o, 3)) (hp : pc + 3 = pc') (c1 : x < y) (k : F T (mkF m pc' L rest)) : F T (mkF m pc L (.int y :: .int x :: rest)) := by
  subst hp; exact cx.step (fun _ q => XS.icmpNo (cx.at st) cx.1.1 rfl (cx.dec hd) rfl (tlt c1).2.1 q) k
theorem E_if_geY (cx : Cx l Z n0 p e R s m args below meth c bytes ml own name rt Q F S) (st : S kc ks T h) {x : Int32} {o : Int} (hd : decode bytes pc = .ok (.ifCond .ge o, 3)) (ho : 0 ≤ (pc : Int) + o) (hp : ((pc : Int) + o).toNat = pc') (c1 : ¬ (x < 0)) (k : F T (mkF m pc' L rest)) : F T (mkF m pc L (.int x :: rest)) :=
  cx.step (fun _ q => XS.ifYes (cx.at st) cx.1.1 rfl (pc0 := pc) rfl (cx.dec hd) rfl ((if0 _ _).trans (flt c1).2.1) ho hp q) k
theorem E_if_geN (cx : Cx l Z n0 p e R s m args below meth c bytes ml own name rt Q F S) (st : S kc ks T h) {x : Int32} {o : Int} (hd : decode bytes pc = .ok (.ifCond .ge o, 3)) (hp : pc + 3 = pc') (c1 : x < 0) (k : F T (mkF m pc' L rest)) : F T (mkF m pc L (.int x :: rest)) := by
  subst hp; exact cx.step (fun _ q => XS.ifNo (cx.at st) cx.1.1 rfl (cx.dec hd) rfl ((if0 _ _).trans (tlt c1).2.1) q) k
theorem E_icmp_gtY (cx : Cx l Z n0 p e R s m args below meth c bytes ml own name rt Q F S) (st : S kc ks T h) {x y : Int32} {o : Int} (hd : decode bytes pc = .ok (.if_icmp .gt o, 3)) (ho : 0 ≤ (pc : Int) + o) (hp : ((pc : Int) + o).toNat = pc') (c1 : y < x) (k : F T (mkF m pc' L rest)) : F T (mkF m pc L (.int y :: .int x :: rest)) :=
  cx.step (fun _ q => XS.icmpYes (cx.at st) cx.1.1 rfl (pc0 := pc) rfl (cx.dec hd) rfl (tlt c1).2.2.1 ho hp q) k
theorem E_icmp_gtN (cx : Cx l Z n0 p e R s m args below meth c bytes ml own name rt Q F S) (st : S kc ks T h) {x y : Int32} {o : Int} (hd : decode bytes pc = .ok (.if_icmp .gt o, 3)) (hp : pc + 3 = pc') (c1 : ¬ (y < x)) (k : F T (mkF m pc' L rest)) : F T (mkF m pc L (.int y :: .int x :: rest)) := by
  subst hp; exact cx.step (fun _ q => XS.icmpNo (cx.at st) cx.1.1 rfl (cx.dec hd) rfl (flt c1).2.2.1 q) k
theorem E_if_gtY (cx : Cx l Z n0 p e R s m args below meth c bytes ml own name rt Q F S) (st : S kc ks T h) {x : Int32} {o : Int} (hd : decode bytes pc = .ok (.ifCond .gt o, 3)) (ho : 0 ≤ (pc : Int) + o) (hp : ((pc : Int) + o).toNat = pc') (c1 : 0 < x) (k : F T (mkF m pc' L rest)) : F T (mkF m pc L (.int x :: rest)) :=
  cx.step (fun _ q => XS.ifYes (cx.at st) cx.1.1 rfl (pc0 := pc) rfl (cx.dec hd) rfl ((if0 _ _).trans (tlt c1).2.2.1) ho hp q) k
theorem E_if_gtN (cx : Cx l Z n0 p e R s m args below meth c bytes ml own name rt Q F S) (st : S kc ks T h) {x : Int32} {o : Int} (hd : decode bytes pc = .ok (.ifCond .gt o, 3)) (hp : pc + 3 = pc') (c1 : ¬ (0 < x)) (k : F T (mkF m pc' L rest)) : F T (mkF m pc L (.int x :: rest)) := by
  subst hp; exact cx.step (fun _ q => XS.ifNo (cx.at st) cx.1.1 rfl (cx.dec hd) rfl ((if0 _ _).trans (flt c1).2.2.1) q) k
theorem E_icmp_leY (cx : Cx l Z n0 p e R s m args below meth c bytes ml own name rt Q F S) (st : S kc ks T h) {x y : Int32} {o : Int} (hd : decode bytes pc = .ok (.if_icmp .le o, 3)) (ho : 0 ≤ (pc : Int) + o) (hp : ((pc : Int) + o).toNat = pc') (c1 : ¬ (y < x)) (k : F T (mkF m pc' L rest)) : F T (mkF m pc L (.int y :: .int x :: rest)) :=
  cx.step (fun _ q => XS.icmpYes (cx.at st) cx.1.1 rfl (pc0 := pc) rfl (cx.dec hd) rfl (flt c1).2.2.2 ho hp q) k
theorem E_icmp_leN (cx : Cx l Z n0 p e R s m args below meth c bytes ml own name rt Q F S) (st : S kc ks T h) {x y : Int32} {o : Int} (hd : decode bytes pc = .ok (.if_icmp .le o, 3)) (hp : pc + 3 = pc') (c1 : y < x) (k : F T (mkF m pc' L rest)) : F T (mkF m pc L (.int y :: .int x :: rest)) := by
  subst hp; exact cx.step (fun _ q => XS.icmpNo (cx.at st) cx.1.1 rfl (cx.dec hd) rfl (tlt c1).2.2.2 q) k
theorem E_if_leY (cx : Cx l Z n0 p e R s m args below meth c bytes ml own name rt Q F S) (st : S kc ks T h) {x : Int32} {o : Int} (hd : decode bytes pc = .ok (.ifCond .le o, 3)) (ho : 0 ≤ (pc : Int) + o) (hp : ((pc : Int) + o).toNat = pc') (c1 : ¬ (0 < x)) (k : F T (mkF m pc' L rest)) : F T (mkF m pc L (.int x :: rest)) :=
  cx.step (fun _ q => XS.ifYes (cx.at st) cx.1.1 rfl (pc0 := pc) rfl (cx.dec hd) rfl ((if0 _ _).trans (flt c1).2.2.2) ho hp q) k
theorem E_if_leN (cx : Cx l Z n0 p e R s m args below meth c bytes ml own name rt Q F S) (st : S kc ks T h) {x : Int32} {o : Int} (hd : decode bytes pc = .ok (.ifCond .le o, 3)) (hp : pc + 3 = pc') (c1 : 0 < x) (k : F T (mkF m pc' L rest)) : F T (mkF m pc L (.int x :: rest)) := by
  subst hp; exact cx.step (fun _ q => XS.ifNo (cx.at st) cx.1.1 rfl (cx.dec hd) rfl ((if0 _ _).trans (tlt c1).2.2.2) q) k
theorem E_icmp_eqY (cx : Cx l Z n0 p e R s m args below meth c bytes ml own name rt Q F S) (st : S kc ks T h) {x y : Int32} {o : Int} (hd : decode bytes pc = .ok (.if_icmp .eq o, 3)) (ho : 0 ≤ (pc : Int) + o) (hp : ((pc : Int) + o).toNat = pc') (c1 : x = y) (k : F T (mkF m pc' L rest)) : F T (mkF m pc L (.int y :: .int x :: rest)) :=
  cx.step (fun _ q => XS.icmpYes (cx.at st) cx.1.1 rfl (pc0 := pc) rfl (cx.dec hd) rfl (teq c1).1 ho hp q) k
theorem E_icmp_eqN (cx : Cx l Z n0 p e R s m args below meth c bytes ml own name rt Q F S) (st : S kc ks T h) {x y : Int32} {o : Int} (hd : decode bytes pc = .ok (.if_icmp .eq o, 3)) (hp : pc + 3 = pc') (c1 : ¬ (x = y)) (k : F T (mkF m pc' L rest)) : F T (mkF m pc L (.int y :: .int x :: rest)) := by
  subst hp; exact cx.step (fun _ q => XS.icmpNo (cx.at st) cx.1.1 rfl (cx.dec hd) rfl (feq c1).1 q) k
theorem E_if_eqY (cx : Cx l Z n0 p e R s m args below meth c bytes ml own name rt Q F S) (st : S kc ks T h) {x : Int32} {o : Int} (hd : decode bytes pc = .ok (.ifCond .eq o, 3)) (ho : 0 ≤ (pc : Int) + o) (hp : ((pc : Int) + o).toNat = pc') (c1 : x = 0) (k : F T (mkF m pc' L rest)) : F T (mkF m pc L (.int x :: rest)) :=
  cx.step (fun _ q => XS.ifYes (cx.at st) cx.1.1 rfl (pc0 := pc) rfl (cx.dec hd) rfl ((if0 _ _).trans (teq c1).1) ho hp q) k
theorem E_if_eqN (cx : Cx l Z n0 p e R s m args below meth c bytes ml own name rt Q F S) (st : S kc ks T h) {x : Int32} {o : Int} (hd : decode bytes pc = .ok (.ifCond .eq o, 3)) (hp : pc + 3 = pc') (c1 : ¬ (x = 0)) (k : F T (mkF m pc' L rest)) : F T (mkF m pc L (.int x :: rest)) := by
  subst hp; exact cx.step (fun _ q => XS.ifNo (cx.at st) cx.1.1 rfl (cx.dec hd) rfl ((if0 _ _).trans (feq c1).1) q) k
theorem E_icmp_neY (cx : Cx l Z n0 p e R s m args below meth c bytes ml own name rt Q F S) (st : S kc ks T h) {x y : Int32} {o : Int} (hd : decode bytes pc = .ok (.if_icmp .ne o, 3)) (ho : 0 ≤ (pc : Int) + o) (hp : ((pc : Int) + o).toNat = pc') (c1 : ¬ (x = y)) (k : F T (mkF m pc' L rest)) : F T (mkF m pc L (.int y :: .int x :: rest)) :=
  cx.step (fun _ q => XS.icmpYes (cx.at st) cx.1.1 rfl (pc0 := pc) rfl (cx.dec hd) rfl (feq c1).2 ho hp q) k
theorem E_icmp_neN (cx : Cx l Z n0 p e R s m args below meth c bytes ml own name rt Q F S) (st : S kc ks T h) {x y : Int32} {o : Int} (hd : decode bytes pc = .ok (.if_icmp .ne o, 3)) (hp : pc + 3 = pc') (c1 : x = y) (k : F T (mkF m pc' L rest)) : F T (mkF m pc L (.int y :: .int x :: rest)) := by
  subst hp; exact cx.step (fun _ q => XS.icmpNo (cx.at st) cx.1.1 rfl (cx.dec hd) rfl (teq c1).2 q) k
theorem E_if_neY (cx : Cx l Z n0 p e R s m args below meth c bytes ml own name rt Q F S) (st : S kc ks T h) {x : Int32} {o : Int} (hd : decode bytes pc = .ok (.ifCond .ne o, 3)) (ho : 0 ≤ (pc : Int) + o) (hp : ((pc : Int) + o).toNat = pc') (c1 : ¬ (x = 0)) (k : F T (mkF m pc' L rest)) : F T (mkF m pc L (.int x :: rest)) :=
  cx.step (fun _ q => XS.ifYes (cx.at st) cx.1.1 rfl (pc0 := pc) rfl (cx.dec hd) rfl ((if0 _ _).trans (feq c1).2) ho hp q) k
theorem E_if_neN (cx : Cx l Z n0 p e R s m args below meth c bytes ml own name rt Q F S) (st : S kc ks T h) {x : Int32} {o : Int} (hd : decode bytes pc = .ok (.ifCond .ne o, 3)) (hp : pc + 3 = pc') (c1 : x = 0) (k : F T (mkF m pc' L rest)) : F T (mkF m pc L (.int x :: rest)) := by
  subst hp; exact cx.step (fun _ q => XS.ifNo (cx.at st) cx.1.1 rfl (cx.dec hd) rfl ((if0 _ _).trans (teq c1).2) q) k
theorem E_lif_ltY (cx : Cx l Z n0 p e R s m args below meth c bytes ml own name rt Q F S) (st : S kc ks T h) {x y : Int64} {o : Int} (hd : decode bytes pc = .ok (.lcmp, 1)) (hd2 : decode bytes (pc + 1) = .ok (.ifCond .lt o, 3)) (ho : 0 ≤ ((pc + 1 : Nat) : Int) + o) (hp : (((pc + 1 : Nat) : Int) + o).toNat = pc') (c1 : x < y) (k : F T (mkF m pc' L rest)) : F T (mkF m pc L (.long y :: .long x :: rest)) :=
  E_lcmp cx st hd rfl (E_if_ltY cx st hd2 ho hp ((lw_lt x y).mpr c1) k)
theorem E_lif_ltN (cx : Cx l Z n0 p e R s m args below meth c bytes ml own name rt Q F S) (st : S kc ks T h) {x y : Int64} {o : Int} (hd : decode bytes pc = .ok (.lcmp, 1)) (hd2 : decode bytes (pc + 1) = .ok (.ifCond .lt o, 3)) (hp : pc + 4 = pc') (c1 : ¬ (x < y)) (k : F T (mkF m pc' L rest)) : F T (mkF m pc L (.long y :: .long x :: rest)) :=
  E_lcmp cx st hd rfl (E_if_ltN cx st hd2 hp (fun z => c1 ((lw_lt x y).mp z)) k)
theorem E_lif_geY (cx : Cx l Z n0 p e R s m args below meth c bytes ml own name rt Q F S) (st : S kc ks T h) {x y : Int64} {o : Int} (hd : decode bytes pc = .ok (.lcmp, 1)) (hd2 : decode bytes (pc + 1) = .ok (.ifCond .ge o, 3)) (ho : 0 ≤ ((pc + 1 : Nat) : Int) + o) (hp : (((pc + 1 : Nat) : Int) + o).toNat = pc') (c1 : ¬ (x < y)) (k : F T (mkF m pc' L rest)) : F T (mkF m pc L (.long y :: .long x :: rest)) :=
  E_lcmp cx st hd rfl (E_if_geY cx st hd2 ho hp (fun z => c1 ((lw_lt x y).mp z)) k)
theorem E_lif_geN (cx : Cx l Z n0 p e R s m args below meth c bytes ml own name rt Q F S) (st : S kc ks T h) {x y : Int64} {o : Int} (hd : decode bytes pc = .ok (.lcmp, 1)) (hd2 : decode bytes (pc + 1) = .ok (.ifCond .ge o, 3)) (hp : pc + 4 = pc') (c1 : x < y) (k : F T (mkF m pc' L rest)) : F T (mkF m pc L (.long y :: .long x :: rest)) :=
  E_lcmp cx st hd rfl (E_if_geN cx st hd2 hp ((lw_lt x y).mpr c1) k)
theorem E_lif_gtY (cx : Cx l Z n0 p e R s m args below meth c bytes ml own name rt Q F S) (st : S kc ks T h) {x y : Int64} {o : Int} (hd : decode bytes pc = .ok (.lcmp, 1)) (hd2 : decode bytes (pc + 1) = .ok (.ifCond .gt o, 3)) (ho : 0 ≤ ((pc + 1 : Nat) : Int) + o) (hp : (((pc + 1 : Nat) : Int) + o).toNat = pc') (c1 : y < x) (k : F T (mkF m pc' L rest)) : F T (mkF m pc L (.long y :: .long x :: rest)) :=
  E_lcmp cx st hd rfl (E_if_gtY cx st hd2 ho hp ((lw_gt x y).mpr c1) k)
theorem E_lif_gtN (cx : Cx l Z n0 p e R s m args below meth c bytes ml own name rt Q F S) (st : S kc ks T h) {x y : Int64} {o : Int} (hd : decode bytes pc = .ok (.lcmp, 1)) (hd2 : decode bytes (pc + 1) = .ok (.ifCond .gt o, 3)) (hp : pc + 4 = pc') (c1 : ¬ (y < x)) (k : F T (mkF m pc' L rest)) : F T (mkF m pc L (.long y :: .long x :: rest)) :=
  E_lcmp cx st hd rfl (E_if_gtN cx st hd2 hp (fun z => c1 ((lw_gt x y).mp z)) k)
theorem E_lif_leY (cx : Cx l Z n0 p e R s m args below meth c bytes ml own name rt Q F S) (st : S kc ks T h) {x y : Int64} {o : Int} (hd : decode bytes pc = .ok (.lcmp, 1)) (hd2 : decode bytes (pc + 1) = .ok (.ifCond .le o, 3)) (ho : 0 ≤ ((pc + 1 : Nat) : Int) + o) (hp : (((pc + 1 : Nat) : Int) + o).toNat = pc') (c1 : ¬ (y < x)) (k : F T (mkF m pc' L rest)) : F T (mkF m pc L (.long y :: .long x :: rest)) :=
  E_lcmp cx st hd rfl (E_if_leY cx st hd2 ho hp (fun z => c1 ((lw_gt x y).mp z)) k)
theorem E_lif_leN (cx : Cx l Z n0 p e R s m args below meth c bytes ml own name rt Q F S) (st : S kc ks T h) {x y : Int64} {o : Int} (hd : decode bytes pc = .ok (.lcmp, 1)) (hd2 : decode bytes (pc + 1) = .ok (.ifCond .le o, 3)) (hp : pc + 4 = pc') (c1 : y < x) (k : F T (mkF m pc' L rest)) : F T (mkF m pc L (.long y :: .long x :: rest)) :=
  E_lcmp cx st hd rfl (E_if_leN cx st hd2 hp ((lw_gt x y).mpr c1) k)
theorem E_lif_eqY (cx : Cx l Z n0 p e R s m args below meth c bytes ml own name rt Q F S) (st : S kc ks T h) {x y : Int64} {o : Int} (hd : decode bytes pc = .ok (.lcmp, 1)) (hd2 : decode bytes (pc + 1) = .ok (.ifCond .eq o, 3)) (ho : 0 ≤ ((pc + 1 : Nat) : Int) + o) (hp : (((pc + 1 : Nat) : Int) + o).toNat = pc') (c1 : x = y) (k : F T (mkF m pc' L rest)) : F T (mkF m pc L (.long y :: .long x :: rest)) :=
  E_lcmp cx st hd rfl (E_if_eqY cx st hd2 ho hp ((lw_eq x y).mpr c1) k)
theorem E_lif_eqN (cx : Cx l Z n0 p e R s m args below meth c bytes ml own name rt Q F S) (st : S kc ks T h) {x y : Int64} {o : Int} (hd : decode bytes pc = .ok (.lcmp, 1)) (hd2 : decode bytes (pc + 1) = .ok (.ifCond .eq o, 3)) (hp : pc + 4 = pc') (c1 : ¬ (x = y)) (k : F T (mkF m pc' L rest)) : F T (mkF m pc L (.long y :: .long x :: rest)) :=
  E_lcmp cx st hd rfl (E_if_eqN cx st hd2 hp (fun z => c1 ((lw_eq x y).mp z)) k)
theorem E_lif_neY (cx : Cx l Z n0 p e R s m args below meth c bytes ml own name rt Q F S) (st : S kc ks T h) {x y : Int64} {o : Int} (hd : decode bytes pc = .ok (.lcmp, 1)) (hd2 : decode bytes (pc + 1) = .ok (.ifCond .ne o, 3)) (ho : 0 ≤ ((pc + 1 : Nat) : Int) + o) (hp : (((pc + 1 : Nat) : Int) + o).toNat = pc') (c1 : ¬ (x = y)) (k : F T (mkF m pc' L rest)) : F T (mkF m pc L (.long y :: .long x :: rest)) :=
  E_lcmp cx st hd rfl (E_if_neY cx st hd2 ho hp (fun z => c1 ((lw_eq x y).mp z)) k)
theorem E_lif_neN (cx : Cx l Z n0 p e R s m args below meth c bytes ml own name rt Q F S) (st : S kc ks T h) {x y : Int64} {o : Int} (hd : decode bytes pc = .ok (.lcmp, 1)) (hd2 : decode bytes (pc + 1) = .ok (.ifCond .ne o, 3)) (hp : pc + 4 = pc') (c1 : x = y) (k : F T (mkF m pc' L rest)) : F T (mkF m pc L (.long y :: .long x :: rest)) :=
  E_lcmp cx st hd rfl (E_if_neN cx st hd2 hp ((lw_eq x y).mpr c1) k)
theorem E_ifnullY (cx : Cx l Z n0 p e R s m args below meth c bytes ml own name rt Q F S) (st : S kc ks T h) {o : Int} (hd : decode bytes pc = .ok (.ifnull o, 3)) (ho : 0 ≤ (pc : Int) + o) (hp : ((pc : Int) + o).toNat = pc') (k : F T (mkF m pc' L rest)) : F T (mkF m pc L (.null :: rest)) :=
  cx.step (fun _ q => XS.ifnullYes (cx.at st) cx.1.1 rfl (pc0 := pc) rfl (cx.dec hd) rfl ho hp q) k
theorem E_ifnullN (cx : Cx l Z n0 p e R s m args below meth c bytes ml own name rt Q F S) (st : S kc ks T h) {b : Addr} {o : Int} (hd : decode bytes pc = .ok (.ifnull o, 3)) (hp : pc + 3 = pc') (k : F T (mkF m pc' L rest)) : F T (mkF m pc L (.ref b :: rest)) := by
  subst hp; exact cx.step (fun _ q => XS.ifnullNo (cx.at st) cx.1.1 rfl (cx.dec hd) rfl q) k
theorem E_ifnonnullY (cx : Cx l Z n0 p e R s m args below meth c bytes ml own name rt Q F S) (st : S kc ks T h) {b : Addr} {o : Int} (hd : decode bytes pc = .ok (.ifnonnull o, 3)) (ho : 0 ≤ (pc : Int) + o) (hp : ((pc : Int) + o).toNat = pc') (k : F T (mkF m pc' L rest)) : F T (mkF m pc L (.ref b :: rest)) :=
  cx.step (fun _ q => XS.ifnonnullYes (cx.at st) cx.1.1 rfl (pc0 := pc) rfl (cx.dec hd) rfl ho hp q) k
theorem E_ifnonnullN (cx : Cx l Z n0 p e R s m args below meth c bytes ml own name rt Q F S) (st : S kc ks T h) {o : Int} (hd : decode bytes pc = .ok (.ifnonnull o, 3)) (hp : pc + 3 = pc') (k : F T (mkF m pc' L rest)) : F T (mkF m pc L (.null :: rest)) := by
  subst hp; exact cx.step (fun _ q => XS.ifnonnullNo (cx.at st) cx.1.1 rfl (cx.dec hd) rfl q) k
theorem E_dup2 (cx : Cx l Z n0 p e R s m args below meth c bytes ml own name rt Q F S) (st : S kc ks T h) {x y : Value} (hd : decode bytes pc = .ok (.dup2, 1)) (hc : x.category = 1) (hc2 : y.category = 1) (hp : pc + 1 = pc') (k : F T (mkF m pc' L (x :: y :: x :: y :: rest))) : F T (mkF m pc L (x :: y :: rest)) := by
  subst hp; exact cx.step (fun _ q => Jvm.Free.XT.dup2 (cx.at st) cx.1.1 rfl (cx.dec hd) rfl hc hc2 q) k
theorem E_dup2L (cx : Cx l Z n0 p e R s m args below meth c bytes ml own name rt Q F S) (st : S kc ks T h) {x : Int64} (hd : decode bytes pc = .ok (.dup2, 1)) (hp : pc + 1 = pc') (k : F T (mkF m pc' L (.long x :: .long x :: rest))) : F T (mkF m pc L (.long x :: rest)) := by
  subst hp; exact cx.step (fun _ q => Jvm.Free.XT.dup2L (cx.at st) cx.1.1 rfl (cx.dec hd) rfl q) k
theorem E_ldc (cx : Cx l Z n0 p e R s m args below meth c bytes ml own name rt Q F S) (st : S kc ks T h) {i : Nat} {v : Int32} (w : (Jvm.Cond.constant own i v).before a0 Z = true) (hd : decode bytes pc = .ok (.ldc i, 2)) (hp : pc + 2 = pc') (k : F T (mkF m pc' L (.int v :: rest))) : F T (mkF m pc L rest) := by
  subst hp
  obtain ⟨_, _, _, X, -⟩ := cx.open st
  exact cx.step (fun t q => X.ldcInt cx.1.1 cx.2.1.1 (mvT cx.1.2.1 w) (g := mkF m pc L rest) rfl (cx.dec hd) t q) k
theorem E_ldc_w (cx : Cx l Z n0 p e R s m args below meth c bytes ml own name rt Q F S) (st : S kc ks T h) {i : Nat} {v : Int32} (w : (Jvm.Cond.constant own i v).before a0 Z = true) (hd : decode bytes pc = .ok (.ldc_w i, 3)) (hp : pc + 3 = pc') (k : F T (mkF m pc' L (.int v :: rest))) : F T (mkF m pc L rest) := by
  subst hp
  obtain ⟨_, _, _, X, -⟩ := cx.open st
  exact cx.step (fun t q => X.ldcwInt cx.1.1 cx.2.1.1 (mvT cx.1.2.1 w) (g := mkF m pc L rest) rfl (cx.dec hd) t q) k
theorem E_ldc2_w (cx : Cx l Z n0 p e R s m args below meth c bytes ml own name rt Q F S) (st : S kc ks T h) {i : Nat} {v : Int64} (w : (Jvm.Cond.constantLong own i v).before a0 Z = true) (hd : decode bytes pc = .ok (.ldc2_w i, 3)) (hp : pc + 3 = pc') (k : F T (mkF m pc' L (.long v :: rest))) : F T (mkF m pc L rest) := by
  subst hp
  obtain ⟨_, _, _, X, -⟩ := cx.open st
  exact cx.step (fun t q => X.ldc2Long cx.1.1 cx.2.1.1 (mvT cx.1.2.1 w) (g := mkF m pc L rest) rfl (cx.dec hd) t q) k
theorem E_ireturn (cx : Cx l Z n0 p e R s m args below meth c bytes ml own name rt Q F S) (st : S kc ks T h) {x : Int32} {t : FieldType} (hd : decode bytes pc = .ok (.ireturn, 1)) (hrt : rt = some t) (ht : t = .int ∨ t = .boolean ∨ t = .byte ∨ t = .char ∨ t = .short) (hn : narrow t (.int x) = .int x) (hk : kc ≤ R.cells) (hs : ks ≤ R.slots) (hQ : Q (some (.int x)) h) : F T (mkF m pc L (.int x :: rest)) :=
  cx.fin st (fun q => by rw [hrt] at q; cases q) hk hs (fun fs _ _ _ X hr => retOut X cx.1.1 (cx.2.1.2.2.1.trans hrt) hn (Or.inl ⟨rfl, ht, x, rfl⟩) (cx.dec hd) hr) hQ
theorem E_lreturn (cx : Cx l Z n0 p e R s m args below meth c bytes ml own name rt Q F S) (st : S kc ks T h) {x : Int64} (hd : decode bytes pc = .ok (.lreturn, 1)) (hrt : rt = some .long) (hk : kc ≤ R.cells) (hs : ks ≤ R.slots) (hQ : Q (some (.long x)) h) : F T (mkF m pc L (.long x :: rest)) :=
  cx.fin st (fun q => by rw [hrt] at q; cases q) hk hs (fun fs _ _ _ X hr => retOut X cx.1.1 (cx.2.1.2.2.1.trans hrt) rfl (Or.inr (Or.inl ⟨rfl, rfl, x, rfl⟩)) (cx.dec hd) hr) hQ
theorem E_areturn (cx : Cx l Z n0 p e R s m args below meth c bytes ml own name rt Q F S) (st : S kc ks T h) {x : Value} {t : FieldType} (hd : decode bytes pc = .ok (.areturn, 1)) (hrt : rt = some t) (ht : t.isReference = true) (hn : narrow t x = x) (hx : x.isRef = true) (hk : kc ≤ R.cells) (hs : ks ≤ R.slots) (hQ : Q (some x) h) : F T (mkF m pc L (x :: rest)) :=
  cx.fin st (fun q => by rw [hrt] at q; cases q) hk hs (fun fs _ _ _ X hr => retOut X cx.1.1 (cx.2.1.2.2.1.trans hrt) hn (Or.inr (Or.inr (Or.inr (Or.inr ⟨rfl, ht, hx⟩)))) (cx.dec hd) hr) hQ
theorem E_return (cx : Cx l Z n0 p e R s m args below meth c bytes ml own name rt Q F S) (st : S kc ks T h) (hd : decode bytes pc = .ok (.return_, 1)) (hrt : rt = none) (hk : kc ≤ R.cells) (hs : ks ≤ R.slots) (hQ : Q none h) : F T (mkF m pc L []) :=
  cx.fin st (fun _ => rfl) hk hs (fun fs _ _ _ X hr => X.returnOut cx.1.1 (cx.2.1.2.2.1.trans hrt) (cx.dec hd) hr) hQ
theorem narrow01 {x : Int32} (q : x = 0 ∨ x = 1) : narrow .boolean (.int x) = .int x := by rcases q with rfl | rfl <;> rfl
theorem E_callS (cx : Cx l Z n0 p e R s m args below meth c bytes ml own name rt Q F S) (st : S kc ks T h) {y : MethodName} {bytes' : ByteArray} {ml' : Nat} {rt' : Option FieldType} {rm : Room} {argsL : List Value} {Q' : Option Value → Heap → Prop} {idx W : Nat} {stk : List Value} (rest : List Value)
    (K : Con l Z y bytes' ml' rt' rm argsL.toArray h n0 Q') (w1 : (Jvm.Cond.methodLink own idx y).before a0 Z = true) (w2 : (Jvm.Cond.static y).before a0 Z = true) (w3 : (Jvm.Cond.initialized y.cls).before a0 Z = true) (w4 : (Jvm.Cond.code y bytes' ml' rt').before a0 Z = true)
    (hd : decode bytes pc = .ok (.invokestatic idx, 3)) (hstk : stk = argsL.reverse ++ rest) (hL : L.size = ml) (hlen : ∀ sig, parseMethodDescriptor y.desc = some sig → argsL.length = sig.parameters.length) (hW : (rest.map fun v => v.category).sum ≤ W)
    (hy : y.cls ≠ "java/lang/invoke/MethodHandle" ∧ y.cls ≠ "java/lang/invoke/VarHandle") (hf : rm.frames + 1 ≤ R.frames) (hlo : W + (ml' + 11) + rm.locals ≤ R.locals) (hc : kc + rm.cells ≤ kc') (hs : ks + rm.slots ≤ ks') (hc' : kc' ≤ R.cells) (hs' : ks' ≤ R.slots) (hp : pc + 3 = pc')
    (k : ∀ v T' h', S kc' ks' T' h' → Q' v h' → F T' (mkF m pc' L (v.toList ++ rest))) : F T (mkF m pc L stk) := by
  subst hp
  obtain ⟨locs, cells, slots, X, q1, q2, q3, q4⟩ := cx.open st
  have hZ := cx.1.2.1
  obtain ⟨v, _, ⟨T₁, L₁, k₁, n₁⟩, -, X₁, ⟨Lc, hQ, e1, e2, e3⟩, stp⟩ := Jvm.LawKit.callS X cx.1.1 (y := y) cx.2.1.1 (mvT hZ w1) (mvT hZ w2) (mvT hZ w3) (mvT hZ w4) hy (backOf (W := W) (Q := fun v h L => Fr n0 L ∧ Q' v h) (K []) hZ w4 w3 hf hlo) (g := mkF m pc L stk) rfl (hL.trans cx.1.2.2.2.symm) (argsL := argsL) (rest := rest) hlen hstk (by show 2 * 0 + _ ≤ _; omega) (cx.dec hd) (fun _ _ => ⟨rfl, q1, by dsimp only [Pt.cells]; omega, by dsimp only [Pt.slots]; omega⟩)
  dsimp only [Pt.U, Pt.locs, Pt.cells, Pt.slots] at X₁ e1 e2 e3 stp hQ
  subst e1 e2 e3
  refine cx.step stp (k v T₁ T₁.heap ?_ hQ.2)
  obtain ⟨-, -, -, rfl⟩ := cx
  exact ⟨_, _, _, X₁, rfl, Fr.app q2 hQ.1, by omega, by omega⟩

theorem E_newP (cx : Cx l Z n0 p e R s m args below meth c bytes ml own name rt Q F S) (st : S kc ks T h) {aty : ArrayType} {n : Int32} {cap : Nat} (w : (Jvm.Cond.arrayClass (newarray.typeOf aty)).before a0 Z = true) (hd : decode bytes pc = .ok (.newarray aty, 2)) (hn : ¬ n < 0) (hcap : n.toNatClampNeg ≤ cap) (hb : cap * 8 ≤ 536870912) (hc : kc + 1 ≤ kc') (hs : ks + cap ≤ ks') (hc' : kc' ≤ R.cells) (hs' : ks' ≤ R.slots) (hp : pc + 2 = pc') {ad : String} (had : "[" ++ (newarray.typeOf aty).toString = ad)
    (k : ∀ T' h' cA a, a = h.size → S kc' ks' T' h' → Ext h h' → Arv Z h' a cA (newarray.typeOf aty) n [] (defaultValue (newarray.typeOf aty)) → Exa Z h' a ad → F T' (mkF m pc' L (.ref a :: rest))) : F T (mkF m pc L (.int n :: rest)) := by
  subst hp
  obtain ⟨locs, cells, slots, X, q1, q2, q3, q4⟩ := cx.open st
  obtain ⟨T', h', cA, X', e', E, A, E2, stp⟩ := newPE X cx.1.1 cx.1.2.1 w q1 (g := mkF m pc L (.int n :: rest)) rfl (cx.dec hd) rfl hn (cap := cap) hcap hb (by omega) (by omega) had
  refine cx.step stp (k T' h' cA h.size rfl ?_ E (Arv.new A hn) E2)
  obtain ⟨-, -, -, rfl⟩ := cx
  exact ⟨_, _, _, X', e', q2, by omega, by omega⟩
theorem getD_int (xs : List Int32) (k : Nat) (d : Int32) : (xs.map Value.int).getD k (.int d) = .int (xs.getD k d) := by
  simp only [List.getD_eq_getElem?_getD, List.getElem?_map]
  cases xs[k]? <;> rfl
theorem getD_long (xs : List Int64) (k : Nat) (d : Int64) : (xs.map Value.long).getD k (.long d) = .long (xs.getD k d) := by
  simp only [List.getD_eq_getElem?_getD, List.getElem?_map]
  cases xs[k]? <;> rfl
theorem i32_small {i : Int32} {n : Nat} (h : ¬ i < 0 ∧ i < Int32.ofNat n) (hn : n < 2147483648) : i.toNatClampNeg < n ∧ i = Int32.ofNat i.toNatClampNeg := by
  obtain ⟨h1, h2⟩ := h
  have e1 := rng32 i
  rw [Int32.lt_iff_toInt_lt] at h1 h2
  have k1 : (0 : Int32).toInt = 0 := rfl
  have k2 : (Int32.ofNat n).toInt = n := Int32.toInt_ofNat_of_lt hn
  rw [k1] at h1; rw [k2] at h2
  have e2 : i.toNatClampNeg = i.toInt.toNat := rfl
  refine ⟨by omega, ?_⟩
  apply Int32.toInt_inj.mp
  rw [Int32.toInt_ofNat_of_lt (by omega)]; omega
theorem i32_rem (k : Int32) (n : Nat) (hk : 0 ≤ k.toInt) (h0 : 0 < n) (hn : n < 2147483648) : ¬ (k % Int32.ofNat n) < 0 ∧ (k % Int32.ofNat n) < Int32.ofNat n := by
  have k2 : (Int32.ofNat n).toInt = n := Int32.toInt_ofNat_of_lt hn
  have r := (c_irem k (Int32.ofNat n) n k2).1 hk
  have q1 := Int.emod_nonneg k.toInt (by omega : (n : Int) ≠ 0)
  have q2 := Int.emod_lt_of_pos k.toInt (by omega : (0 : Int) < n)
  have k1 : (0 : Int32).toInt = 0 := rfl
  rw [Int32.lt_iff_toInt_lt, Int32.lt_iff_toInt_lt, k1, k2, r]
  omega
theorem i32_succ {w : Int32} {n : Nat} (h : ¬ w < 0 ∧ w < Int32.ofNat n) (hn : n < 2147483647) : (¬ (w + 1) < 0 ∧ (w + 1) < Int32.ofNat (n + 1)) ∧ (w + 1).toNatClampNeg = w.toNatClampNeg + 1 := by
  obtain ⟨h1, h2⟩ := h
  have e1 := rng32 w
  rw [Int32.lt_iff_toInt_lt] at h1 h2
  have k1 : (0 : Int32).toInt = 0 := rfl
  have k3 : (1 : Int32).toInt = 1 := rfl
  have k2 : (Int32.ofNat n).toInt = n := Int32.toInt_ofNat_of_lt (by omega)
  have k4 : (Int32.ofNat (n + 1)).toInt = ((n + 1 : Nat) : Int) := Int32.toInt_ofNat_of_lt (by omega)
  rw [k1] at h1; rw [k2] at h2
  have e : (w + 1).toInt = w.toInt + 1 := by
    rw [Jvm.Free.XT.add32, k3]; rw [k3]; exact ⟨by omega, by omega⟩
  refine ⟨?_, ?_⟩
  · rw [Int32.lt_iff_toInt_lt, Int32.lt_iff_toInt_lt, k1, k4, e]; omega
  · show (w + 1).toInt.toNat = w.toInt.toNat + 1
    rw [e]; omega
theorem idx_of {n j : Int32} (h1 : ¬ j < 0) (h2 : j < n) : ¬ j < 0 ∧ j < n := ⟨h1, h2⟩
theorem E_iaload (cx : Cx l Z n0 p e R s m args below meth c bytes ml own name rt Q F S) (st : S kc ks T h) {a : Addr} {kA : ClassId} {n j x : Int32} {vs : List Value} {dv : Value} (V : Arv Z h a kA .int n vs dv) (hj : ¬ j < 0 ∧ j < n) (hv : vs.getD j.toNatClampNeg dv = .int x) (hd : decode bytes pc = .ok (.iaload, 1)) (hp : pc + 1 = pc') (k : F T (mkF m pc' L (.int x :: rest))) : F T (mkF m pc L (.int j :: .ref a :: rest)) := by
  subst hp
  obtain ⟨_, _, _, X, q1, -⟩ := cx.open st
  obtain ⟨cl, A, -, S1, N1, H1, G1⟩ := V
  have hin := inb_of S1 hj
  exact cx.step (fun t q => X.iaload cx.1.1 (j := j) (v := .int x) (by rw [q1]; exact A.1) (State.isArrayOf_alike cx.1.2.1.alike A.2.1) A.2.2 hin (H1.at hin hv) (g := mkF m pc L (.int j :: .ref a :: rest)) rfl rfl (cx.dec hd) t q) k
theorem E_laload (cx : Cx l Z n0 p e R s m args below meth c bytes ml own name rt Q F S) (st : S kc ks T h) {a : Addr} {kA : ClassId} {n j : Int32} {x : Int64} {vs : List Value} {dv : Value} (V : Arv Z h a kA .long n vs dv) (hj : ¬ j < 0 ∧ j < n) (hv : vs.getD j.toNatClampNeg dv = .long x) (hd : decode bytes pc = .ok (.laload, 1)) (hp : pc + 1 = pc') (k : F T (mkF m pc' L (.long x :: rest))) : F T (mkF m pc L (.int j :: .ref a :: rest)) := by
  subst hp
  obtain ⟨_, _, _, X, q1, -⟩ := cx.open st
  obtain ⟨cl, A, -, S1, N1, H1, G1⟩ := V
  have hin := inb_of S1 hj
  exact cx.step (fun t q => X.laload cx.1.1 (j := j) (v := .long x) (by rw [q1]; exact A.1) (State.isArrayOf_alike cx.1.2.1.alike A.2.1) A.2.2 hin (H1.at hin hv) (g := mkF m pc L (.int j :: .ref a :: rest)) rfl rfl (cx.dec hd) t q) k
theorem E_iastore (cx : Cx l Z n0 p e R s m args below meth c bytes ml own name rt Q F S) (st : S kc ks T h) {a : Addr} {kA : ClassId} {n j x : Int32} {vs : List Value} {dv : Value} {i : Nat} (V : Arv Z h a kA .int n vs dv) (hj : ¬ j < 0 ∧ j < n) (hi : j.toNatClampNeg = i) (hlt : i < vs.length) (g : n0 ≤ a) (hd : decode bytes pc = .ok (.iastore, 1)) (hp : pc + 1 = pc')
    (k : ∀ T' h', S kc ks T' h' → Wr h h' a i (.int x) → Arv Z h' a kA .int n (vs.set i (.int x)) dv → F T' (mkF m pc' L rest)) : F T (mkF m pc L (.int x :: .int j :: .ref a :: rest)) := by
  subst hp hi
  obtain ⟨_, _, _, X, q1, q2, q3, q4⟩ := cx.open st
  obtain ⟨cl, A, e1, S1, N1, H1, G1⟩ := V
  obtain ⟨T', h', X', e', W, stp⟩ := Jvm.RoadKit.stI X cx.1.1 cx.1.2.1 q1 A (j := j) (x := x) (inb_of S1 hj) (g := mkF m pc L (.int x :: .int j :: .ref a :: rest)) rfl rfl (cx.dec hd)
  refine cx.step stp (k T' h' ?_ W (Arv.set A e1 S1 N1 H1 G1 rfl W _ rfl hlt))
  obtain ⟨-, -, -, rfl⟩ := cx
  exact ⟨_, _, _, X', e', Fr.snoc X' q2 g, q3, q4⟩
theorem E_lastore (cx : Cx l Z n0 p e R s m args below meth c bytes ml own name rt Q F S) (st : S kc ks T h) {a : Addr} {kA : ClassId} {n j : Int32} {x : Int64} {vs : List Value} {dv : Value} {i : Nat} (V : Arv Z h a kA .long n vs dv) (hj : ¬ j < 0 ∧ j < n) (hi : j.toNatClampNeg = i) (hlt : i < vs.length) (g : n0 ≤ a) (hd : decode bytes pc = .ok (.lastore, 1)) (hp : pc + 1 = pc')
    (k : ∀ T' h', S kc ks T' h' → Wr h h' a i (.long x) → Arv Z h' a kA .long n (vs.set i (.long x)) dv → F T' (mkF m pc' L rest)) : F T (mkF m pc L (.long x :: .int j :: .ref a :: rest)) := by
  subst hp hi
  obtain ⟨_, _, _, X, q1, q2, q3, q4⟩ := cx.open st
  obtain ⟨cl, A, e1, S1, N1, H1, G1⟩ := V
  obtain ⟨T', h', X', e', W, stp⟩ := Jvm.RoadKit.stJ X cx.1.1 cx.1.2.1 q1 A (j := j) (x := x) (inb_of S1 hj) (g := mkF m pc L (.long x :: .int j :: .ref a :: rest)) rfl rfl (cx.dec hd)
  refine cx.step stp (k T' h' ?_ W (Arv.set A e1 S1 N1 H1 G1 rfl W _ rfl hlt))
  obtain ⟨-, -, -, rfl⟩ := cx
  exact ⟨_, _, _, X', e', Fr.snoc X' q2 g, q3, q4⟩
theorem E_arraylength (cx : Cx l Z n0 p e R s m args below meth c bytes ml own name rt Q F S) (st : S kc ks T h) {a : Addr} {kA : ClassId} {n : Int32} {ty : FieldType} {vs : List Value} {dv : Value} (V : Arv Z h a kA ty n vs dv) (hd : decode bytes pc = .ok (.arraylength, 1)) (hp : pc + 1 = pc') (k : F T (mkF m pc' L (.int n :: rest))) : F T (mkF m pc L (.ref a :: rest)) := by
  subst hp
  obtain ⟨_, _, _, X, q1, -⟩ := cx.open st
  obtain ⟨cl, A, -, S1, N1, H1, G1⟩ := V
  refine cx.step (fun t q => X.arraylength cx.1.1 (by rw [q1]; exact A.1) (State.isArrayOf_alike cx.1.2.1.alike A.2.1) (g := mkF m pc L (.ref a :: rest)) rfl rfl (cx.dec hd) t ?_) k
  rw [len_of S1 N1]; exact q

theorem E_new (cx : Cx l Z n0 p e R s m args below meth c bytes ml own name rt Q F S) (st : S kc ks T h) {C : String} {idx n : Nat} (w1 : (Jvm.Cond.classLink own idx C).before a0 Z = true) (w2 : (Jvm.Cond.instantiable C n).before a0 Z = true) (w3 : (Jvm.Cond.initialized C).before a0 Z = true) (hd : decode bytes pc = .ok (.new idx, 3)) (hc : kc + 1 ≤ kc') (hs : ks + n ≤ ks') (hc' : kc' ≤ R.cells) (hs' : ks' ≤ R.slots) (hp : pc + 3 = pc')
    (k : ∀ T' h' a, a = h.size → S kc' ks' T' h' → Ext h h' → Exa Z h' a C → (∀ {O nm d : String} {ty : FieldType}, Laid Z a0 C O nm d → parseFieldDescriptor d = some ty → Fld Z h' a O nm d (defaultValue ty)) → F T' (mkF m pc' L (.ref a :: rest))) : F T (mkF m pc L rest) := by
  subst hp
  obtain ⟨locs, cells, slots, X, q1, q2, q3, q4⟩ := cx.open st
  obtain ⟨T', h', X', e', E, A, D, -, stp⟩ := newO X cx.1.1 cx.1.2.1 cx.2.1.1 w1 w2 w3 q1 (g := mkF m pc L rest) rfl (cx.dec hd) (by omega) (by omega)
  refine cx.step stp (k T' h' h.size rfl ?_ E A D)
  obtain ⟨-, -, -, rfl⟩ := cx
  exact ⟨_, _, _, X', e', q2, by omega, by omega⟩
theorem E_initO (cx : Cx l Z n0 p e R s m args below meth c bytes ml own name rt Q F S) (st : S kc ks T h) {a : Addr} {idx W : Nat} (w1 : (Jvm.Cond.methodLink own idx Lib.objectInit).before a0 Z = true) (w2 : (Jvm.Cond.instanceMethod Lib.objectInit).before a0 Z = true) (w3 : (Jvm.Cond.code Lib.objectInit ⟨#[0xb1]⟩ 1 none).before a0 Z = true) (hd : decode bytes pc = .ok (.invokespecial idx, 3)) (hL : L.size = ml) (hf : 1 ≤ R.frames) (hW : (rest.map fun v => v.category).sum ≤ W) (hl : W + 12 ≤ R.locals) (hp : pc + 3 = pc')
    (k : ∀ T', S kc ks T' h → F T' (mkF m pc' L rest)) : F T (mkF m pc L (.ref a :: rest)) := by
  subst hp
  obtain ⟨locs, cells, slots, X, q1, q2, q3, q4⟩ := cx.open st
  obtain ⟨T', X', e', stp⟩ := initO X cx.1.1 cx.1.2.1 cx.2.1.1 w1 w2 w3 q1 (g := mkF m pc L (.ref a :: rest)) rfl (hL.trans cx.1.2.2.2.symm) rfl (cx.dec hd) hf (W := W) (by show 2 * 0 + _ ≤ _; omega) hl
  refine cx.step stp (k T' ?_)
  obtain ⟨-, -, -, rfl⟩ := cx
  exact ⟨_, _, _, X', e', q2, q3, q4⟩
theorem E_getfield (cx : Cx l Z n0 p e R s m args below meth c bytes ml own name rt Q F S) (st : S kc ks T h) {a : Addr} {v : Value} {C n d : String} {idx : Nat} (w : (Jvm.Cond.fieldLink own idx C n d).before a0 Z = true) (G : Fld Z h a C n d v) (hd : decode bytes pc = .ok (.getfield idx, 3)) (hp : pc + 3 = pc')
    (k : ∀ T', S kc ks T' h → F T' (mkF m pc' L (v :: rest))) : F T (mkF m pc L (.ref a :: rest)) := by
  subst hp
  obtain ⟨locs, cells, slots, X, q1, q2, q3, q4⟩ := cx.open st
  obtain ⟨T', X', e', stp⟩ := getF X cx.1.1 cx.1.2.1 cx.2.1.1 (host := "") (Or.inl w) Via.refl q1 G (g := mkF m pc L (.ref a :: rest)) rfl rfl (cx.dec hd)
  refine cx.step stp (k T' ?_)
  obtain ⟨-, -, -, rfl⟩ := cx
  exact ⟨_, _, _, X', e', q2, q3, q4⟩
theorem E_putfield (cx : Cx l Z n0 p e R s m args below meth c bytes ml own name rt Q F S) (st : S kc ks T h) {a : Addr} {v old : Value} {C O n d : String} {idx kk : Nat} {ty : FieldType} (w : (Jvm.Cond.fieldLink own idx O n d).before a0 Z = true) (G : Fld Z h a O n d old) (E : Exa Z h a C) (La : (Jvm.Cond.lays C O n d).before a0 Z = true ∨ ((Jvm.Cond.laysFinal C O n d).before a0 Z = true ∧ own = O ∧ name = "<init>")) (wi : (Jvm.Cond.instantiable C kk).before a0 Z = true)
    (hty : parseFieldDescriptor d = some ty) (hn : narrow ty v = v) (hf : fits ty v = true) (ga : n0 ≤ a) (hd : decode bytes pc = .ok (.putfield idx, 3)) (hp : pc + 3 = pc')
    (k : ∀ T' h', S kc ks T' h' → Wr h h' a (Jvm.RoadKit.slotOf Z O n d) v → F T' (mkF m pc' L rest)) : F T (mkF m pc L (v :: .ref a :: rest)) := by
  subst hp
  obtain ⟨locs, cells, slots, X, q1, q2, q3, q4⟩ := cx.open st
  obtain ⟨T', h', X', e', W, stp⟩ := putF X cx.1.1 cx.1.2.1 cx.2.1.1 (host := "") (Or.inl w) Via.refl q1 G E (La.imp id fun z => ⟨z.1, z.2.1, cx.2.1.2.1.trans z.2.2⟩) wi hty hn hf (g := mkF m pc L (v :: .ref a :: rest)) rfl rfl (cx.dec hd)
  refine cx.step stp (k T' h' ?_ W)
  obtain ⟨-, -, -, rfl⟩ := cx
  exact ⟨_, _, _, X', e', Fr.snoc X' q2 ga, q3, q4⟩
theorem E_callI (cx : Cx l Z n0 p e R s m args below meth c bytes ml own name rt Q F S) (st : S kc ks T h) {y : MethodName} {bytes' : ByteArray} {ml' : Nat} {rm : Room} {a : Addr} {argsL : List Value} {Q' : Option Value → Heap → Prop} {idx W : Nat} {stk : List Value} (rest : List Value)
    (K : Con l Z y bytes' ml' none rm (.ref a :: argsL).toArray h n0 Q') (hy1 : y.name = "<init>") (w1 : (Jvm.Cond.methodLink own idx y).before a0 Z = true) (w2 : (Jvm.Cond.instanceMethod y).before a0 Z = true) (w3 : (Jvm.Cond.initialized y.cls).before a0 Z = true) (w4 : (Jvm.Cond.code y bytes' ml' none).before a0 Z = true)
    (hd : decode bytes pc = .ok (.invokespecial idx, 3)) (hstk : stk = argsL.reverse ++ .ref a :: rest) (hL : L.size = ml) (hlen : ∀ sig, parseMethodDescriptor y.desc = some sig → argsL.length = sig.parameters.length) (hW : (rest.map fun v => v.category).sum ≤ W)
    (hy : y.cls ≠ "java/lang/invoke/MethodHandle" ∧ y.cls ≠ "java/lang/invoke/VarHandle") (hf : rm.frames + 1 ≤ R.frames) (hlo : W + (ml' + 11) + rm.locals ≤ R.locals) (hc : kc + rm.cells ≤ kc') (hs : ks + rm.slots ≤ ks') (hc' : kc' ≤ R.cells) (hs' : ks' ≤ R.slots) (hp : pc + 3 = pc')
    (k : ∀ v T' h', S kc' ks' T' h' → Q' v h' → F T' (mkF m pc' L (v.toList ++ rest))) : F T (mkF m pc L stk) := by
  subst hp
  obtain ⟨locs, cells, slots, X, q1, q2, q3, q4⟩ := cx.open st
  have hZ := cx.1.2.1
  obtain ⟨v, _, ⟨T₁, L₁, k₁, n₁⟩, -, X₁, ⟨Lc, hQ, e1, e2, e3⟩, stp⟩ := X.specialBack cx.1.1 (y := y) hy1 cx.2.1.1 (mvT hZ w1) (mvT hZ w2) (mvT hZ w4) hy (backOf (W := W) (Q := fun v h L => Fr n0 L ∧ Q' v h) (K []) hZ w4 w3 hf hlo) (g := mkF m pc L stk) rfl (hL.trans cx.1.2.2.2.symm) (Steps.refl _) (a := a) (argsL := argsL) (rest := rest) hlen hstk (by show 2 * 0 + _ ≤ _; omega) (cx.dec hd) (fun _ _ => ⟨rfl, q1, by dsimp only [Pt.cells]; omega, by dsimp only [Pt.slots]; omega⟩)
  dsimp only [Pt.U, Pt.locs, Pt.cells, Pt.slots] at X₁ e1 e2 e3 stp hQ
  subst e1 e2 e3
  refine cx.step (fun _ q => stp.trans q) (k v T₁ T₁.heap ?_ hQ.2)
  obtain ⟨-, -, -, rfl⟩ := cx
  exact ⟨_, _, _, X₁, rfl, Fr.app q2 hQ.1, by omega, by omega⟩
theorem E_callV (cx : Cx l Z n0 p e R s m args below meth c bytes ml own name rt Q F S) (st : S kc ks T h) {y : MethodName} {bytes' : ByteArray} {ml' : Nat} {rt' : Option FieldType} {rm : Room} {a : Addr} {argsL : List Value} {Q' : Option Value → Heap → Prop} {idx W : Nat} {stk : List Value} (rest : List Value)
    (K : Con l Z y bytes' ml' rt' rm (.ref a :: argsL).toArray h n0 Q') (E : Exa Z h a y.cls) (w1 : (Jvm.Cond.methodLink own idx y).before a0 Z = true) (w5 : (Jvm.Cond.declares y).before a0 Z = true) (w6 : (Jvm.Cond.selects y.cls y y).before a0 Z = true) (w2 : (Jvm.Cond.instanceMethod y).before a0 Z = true) (w3 : (Jvm.Cond.initialized y.cls).before a0 Z = true) (w4 : (Jvm.Cond.code y bytes' ml' rt').before a0 Z = true)
    (hd : decode bytes pc = .ok (.invokevirtual idx, 3)) (hstk : stk = argsL.reverse ++ .ref a :: rest) (hL : L.size = ml) (hlen : ∀ sig, parseMethodDescriptor y.desc = some sig → argsL.length = sig.parameters.length) (hW : (rest.map fun v => v.category).sum ≤ W)
    (hy : y.cls ≠ "java/lang/invoke/MethodHandle" ∧ y.cls ≠ "java/lang/invoke/VarHandle") (hf : rm.frames + 1 ≤ R.frames) (hlo : W + (ml' + 11) + rm.locals ≤ R.locals) (hc : kc + rm.cells ≤ kc') (hs : ks + rm.slots ≤ ks') (hc' : kc' ≤ R.cells) (hs' : ks' ≤ R.slots) (hp : pc + 3 = pc')
    (k : ∀ v T' h', S kc' ks' T' h' → Q' v h' → F T' (mkF m pc' L (v.toList ++ rest))) : F T (mkF m pc L stk) := by
  subst hp
  obtain ⟨locs, cells, slots, X, q1, q2, q3, q4⟩ := cx.open st
  have hZ := cx.1.2.1
  obtain ⟨cq, kq, qa, qb, qc⟩ := isOf hZ q1 E
  obtain ⟨v, _, ⟨T₁, L₁, k₁, n₁⟩, -, X₁, ⟨Lc, hQ, e1, e2, e3⟩, stp⟩ := X.virtualBack cx.1.1 (y := y) (z := y) cx.2.1.1 (mvT hZ w1) (mvT hZ w5) (notFace_of_selects (args := #[]) (mvT hZ w6)) (mvT hZ w6) (mvT hZ w2) hy (backOf (W := W) (Q := fun v h L => Fr n0 L ∧ Q' v h) (K []) hZ w4 w3 hf hlo) qa qc (g := mkF m pc L stk) rfl (hL.trans cx.1.2.2.2.symm) (Steps.refl _) (argsL := argsL) (rest := rest) hlen hstk (by show 2 * 0 + _ ≤ _; omega) (cx.dec hd) (fun _ _ => ⟨rfl, q1, by dsimp only [Pt.cells]; omega, by dsimp only [Pt.slots]; omega⟩)
  dsimp only [Pt.U, Pt.locs, Pt.cells, Pt.slots] at X₁ e1 e2 e3 stp hQ
  subst e1 e2 e3
  refine cx.step (fun _ q => stp.trans q) (k v T₁ T₁.heap ?_ hQ.2)
  obtain ⟨-, -, -, rfl⟩ := cx
  exact ⟨_, _, _, X₁, rfl, Fr.app q2 hQ.1, by omega, by omega⟩
theorem E_callP (cx : Cx l Z n0 p e R s m args below meth c bytes ml own name rt Q F S) (st : S kc ks T h) {y : MethodName} {bytes' : ByteArray} {ml' : Nat} {rt' : Option FieldType} {rm : Room} {a : Addr} {argsL : List Value} {Q' : Option Value → Heap → Prop} {idx W : Nat} {stk : List Value} (rest : List Value)
    (K : Con l Z y bytes' ml' rt' rm (.ref a :: argsL).toArray h n0 Q') (E : Exa Z h a y.cls) (w1 : (Jvm.Cond.methodLink own idx y).before a0 Z = true) (w5 : (Jvm.Cond.privateMethod y).before a0 Z = true) {nI : Nat} (w6 : (Jvm.Cond.instantiable y.cls nI).before a0 Z = true) (w2 : (Jvm.Cond.instanceMethod y).before a0 Z = true) (w3 : (Jvm.Cond.initialized y.cls).before a0 Z = true) (w4 : (Jvm.Cond.code y bytes' ml' rt').before a0 Z = true)
    (hd : decode bytes pc = .ok (.invokevirtual idx, 3)) (hstk : stk = argsL.reverse ++ .ref a :: rest) (hL : L.size = ml) (hlen : ∀ sig, parseMethodDescriptor y.desc = some sig → argsL.length = sig.parameters.length) (hW : (rest.map fun v => v.category).sum ≤ W)
    (hy : y.cls ≠ "java/lang/invoke/MethodHandle" ∧ y.cls ≠ "java/lang/invoke/VarHandle") (hf : rm.frames + 1 ≤ R.frames) (hlo : W + (ml' + 11) + rm.locals ≤ R.locals) (hc : kc + rm.cells ≤ kc') (hs : ks + rm.slots ≤ ks') (hc' : kc' ≤ R.cells) (hs' : ks' ≤ R.slots) (hp : pc + 3 = pc')
    (k : ∀ v T' h', S kc' ks' T' h' → Q' v h' → F T' (mkF m pc' L (v.toList ++ rest))) : F T (mkF m pc L stk) := by
  subst hp
  obtain ⟨locs, cells, slots, X, q1, q2, q3, q4⟩ := cx.open st
  have hZ := cx.1.2.1
  obtain ⟨cq, qa, qb⟩ := E.cell
  have hpr := Cond.privateMethod_at (mvP hZ w5 (args := #[]))
  have hin : (Jvm.Cond.instantiable y.cls nI).before args s = true := mvT hZ w6
  obtain ⟨c1, k1, i1, i2, -, i4, -⟩ := Cond.instantiable_spec hin
  have hni : k1.isInterface = false := by simp only [Bool.or_eq_false_iff] at i4; exact i4.1
  have hsel := selects_self_of_private (args := args) i1 i2 hni hpr (mvT hZ w2) hy
  obtain ⟨v, _, ⟨T₁, L₁, k₁, n₁⟩, -, X₁, ⟨Lc, hQ, e1, e2, e3⟩, stp⟩ := X.privateBack cx.1.1 (y := y) cx.2.1.1 (mvT hZ w1) (mvT hZ w2) hsel hpr (mvT hZ w4) hy (backOf (W := W) (Q := fun v h L => Fr n0 L ∧ Q' v h) (K []) hZ w4 w3 hf hlo) (g := mkF m pc L stk) rfl (hL.trans cx.1.2.2.2.symm) (Steps.refl _) (a := a) (by rw [q1]; exact qa) qb (argsL := argsL) (rest := rest) hlen hstk (by show 2 * 0 + _ ≤ _; omega) (cx.dec hd) (fun _ _ => ⟨rfl, q1, by dsimp only [Pt.cells]; omega, by dsimp only [Pt.slots]; omega⟩)
  dsimp only [Pt.U, Pt.locs, Pt.cells, Pt.slots] at X₁ e1 e2 e3 stp hQ
  subst e1 e2 e3
  refine cx.step (fun _ q => stp.trans q) (k v T₁ T₁.heap ?_ hQ.2)
  obtain ⟨-, -, -, rfl⟩ := cx
  exact ⟨_, _, _, X₁, rfl, Fr.app q2 hQ.1, by omega, by omega⟩
theorem E_clone (cx : Cx l Z n0 p e R s m args below meth c bytes ml own name rt Q F S) (st : S kc ks T h) {a : Addr} {ad : String} {idx W cap : Nat} {kA : ClassId} {z : Int32} {vs : List Value} {dv : Value} {ty : FieldType} (V : Arv Z h a kA ty z vs dv) (E : Exa Z h a ad)
    (w1 : (Jvm.Cond.methodLink own idx ⟨ad, "clone", "()Ljava/lang/Object;"⟩).before a0 Z = true) (w2 : (Jvm.Cond.sameMethod ad "java/lang/Object" "clone" "()Ljava/lang/Object;").before a0 Z = true) (w3 : (Jvm.Cond.native ⟨"java/lang/Object", "clone", "()Ljava/lang/Object;"⟩).before a0 Z = true)
    (w4 : (Jvm.Cond.instanceMethod ⟨"java/lang/Object", "clone", "()Ljava/lang/Object;"⟩).before a0 Z = true) (w5 : (Jvm.Cond.selects ad ⟨ad, "clone", "()Ljava/lang/Object;"⟩ ⟨"java/lang/Object", "clone", "()Ljava/lang/Object;"⟩).before a0 Z = true) (w6 : (Jvm.Cond.castable ad "java/lang/Cloneable").before a0 Z = true)
    (hd : decode bytes pc = .ok (.invokevirtual idx, 3)) (hL : L.size = ml) (hf : 1 ≤ R.frames) (hW : (rest.map fun v => v.category).sum ≤ W) (hlo : W + 14 ≤ R.locals) (hcap : z.toNatClampNeg ≤ cap) (hc : kc + 1 ≤ kc') (hs : ks + cap ≤ ks') (hc' : kc' ≤ R.cells) (hs' : ks' ≤ R.slots) (hp : pc + 3 = pc')
    (k : ∀ T' h' b, b = h.size → S kc' ks' T' h' → Ext h h' → Arv Z h' b kA ty z vs dv → Exa Z h' b ad → F T' (mkF m pc' L (.ref b :: rest))) : F T (mkF m pc L (.ref a :: rest)) := by
  subst hp
  obtain ⟨locs, cells, slots, X, q1, q2, q3, q4⟩ := cx.open st
  obtain ⟨cl, A, e1, S1, e3, H, G⟩ := V
  have FC : FitC Z cl := fitC_of A fun i hi v hv => by rw [H i hi] at hv; cases hv; exact G i hi
  obtain ⟨T', h', X', e', ex, A', E', stp⟩ := cloneA X cx.1.1 cx.1.2.1 cx.2.1.1 w1 w2 w3 w4 w5 w6 q1 A E FC (g := mkF m pc L (.ref a :: rest)) rfl (hL.trans cx.1.2.2.2.symm) rfl (cx.dec hd) hf (W := W) (cap := cap) (by show 2 * 0 + _ ≤ _; omega) hlo (by rw [S1]; exact hcap) (by omega) (by omega)
  refine cx.step stp (k T' h' h.size rfl ?_ ex ⟨cloneOf cl, A', e1, S1, e3, H, G⟩ E')
  obtain ⟨-, -, -, rfl⟩ := cx
  exact ⟨_, _, _, X', e', q2, by omega, by omega⟩
theorem E_checkcast (cx : Cx l Z n0 p e R s m args below meth c bytes ml own name rt Q F S) (st : S kc ks T h) {a : Addr} {C : String} {idx : Nat} (w : (Jvm.Cond.classLink own idx C).before a0 Z = true) (I : Ins Z h a C true) (hd : decode bytes pc = .ok (.checkcast idx, 3)) (hp : pc + 3 = pc')
    (k : ∀ T', S kc ks T' h → F T' (mkF m pc' L (.ref a :: rest))) : F T (mkF m pc L (.ref a :: rest)) := by
  subst hp
  obtain ⟨locs, cells, slots, X, q1, q2, q3, q4⟩ := cx.open st
  obtain ⟨T', X', e', stp⟩ := castY X cx.1.1 cx.1.2.1 cx.2.1.1 w q1 I (g := mkF m pc L (.ref a :: rest)) rfl rfl (cx.dec hd)
  refine cx.step stp (k T' ?_)
  obtain ⟨-, -, -, rfl⟩ := cx
  exact ⟨_, _, _, X', e', q2, q3, q4⟩
theorem E_aaload (cx : Cx l Z n0 p e R s m args below meth c bytes ml own name rt Q F S) (st : S kc ks T h) {a : Addr} {kA : ClassId} {n j : Int32} {ty : FieldType} {v : Value} {vs : List Value} {dv : Value} (V : Arv Z h a kA ty n vs dv) (hty : ty.isReference = true) (hj : ¬ j < 0 ∧ j < n) (hv : vs.getD j.toNatClampNeg dv = v) (hd : decode bytes pc = .ok (.aaload, 1)) (hp : pc + 1 = pc') (k : F T (mkF m pc' L (v :: rest))) : F T (mkF m pc L (.int j :: .ref a :: rest)) := by
  subst hp
  obtain ⟨_, _, _, X, q1, -⟩ := cx.open st
  obtain ⟨cl, A, -, S1, N1, H1, G1⟩ := V
  have hin := inb_of S1 hj
  exact cx.step (fun t q => X.aaload cx.1.1 (j := j) (v := v) (by rw [q1]; exact A.1) (State.isArrayOf_alike cx.1.2.1.alike A.2.1) hty A.2.2 hin (H1.at hin hv) (g := mkF m pc L (.int j :: .ref a :: rest)) rfl rfl (cx.dec hd) t q) k
theorem E_aastore (cx : Cx l Z n0 p e R s m args below meth c bytes ml own name rt Q F S) (st : S kc ks T h) {a : Addr} {kA : ClassId} {n j : Int32} {ty : FieldType} {v : Value} {vs : List Value} {dv : Value} {i : Nat} (V : Arv Z h a kA ty n vs dv) (hty : ty.isReference = true) (hst : Sto Z h a v) (hfv : fits ty v = true) (hj : ¬ j < 0 ∧ j < n) (hi : j.toNatClampNeg = i) (hlt : i < vs.length) (g : n0 ≤ a) (hd : decode bytes pc = .ok (.aastore, 1)) (hp : pc + 1 = pc')
    (k : ∀ T' h', S kc ks T' h' → Wr h h' a i v → Arv Z h' a kA ty n (vs.set i v) dv → F T' (mkF m pc' L rest)) : F T (mkF m pc L (v :: .int j :: .ref a :: rest)) := by
  subst hp hi
  obtain ⟨_, _, _, X, q1, q2, q3, q4⟩ := cx.open st
  obtain ⟨cl, A, e1, S1, N1, H1, G1⟩ := V
  obtain ⟨T', h', X', e', W, stp⟩ := Jvm.RoadKit.stR X cx.1.1 cx.1.2.1 q1 A (j := j) (inb_of S1 hj) hty hst (g := mkF m pc L (v :: .int j :: .ref a :: rest)) rfl rfl (cx.dec hd)
  refine cx.step stp (k T' h' ?_ W (Arv.set A e1 S1 N1 H1 G1 hfv W _ rfl hlt))
  obtain ⟨-, -, -, rfl⟩ := cx
  exact ⟨_, _, _, X', e', Fr.snoc X' q2 g, q3, q4⟩
theorem E_arraycopy (cx : Cx l Z n0 p e R s m args below meth c bytes ml own name rt Q F S) (st : S kc ks T h) {a b : Addr} {kA kB : ClassId} {ty : FieldType} {z z' sp dp nn : Int32} {vs vd us : List Value} {dv dd : Value} {idx W : Nat} (A : Arv Z h a kA ty z vs dv) (B : Arv Z h b kB ty z' vd dd) (hty : refKind ty = false)
    (w1 : (Jvm.Cond.methodLink own idx Jvm.Stand.acN).before a0 Z = true) (w2 : (Jvm.Cond.native Jvm.Stand.acN).before a0 Z = true) (w3 : (Jvm.Cond.static Jvm.Stand.acN).before a0 Z = true) (w4 : (Jvm.Cond.initialized "java/lang/System").before a0 Z = true)
    (h1 : ¬ sp < 0) (h2 : ¬ dp < 0) (h3 : ¬ nn < 0) (h4 : sp.toNatClampNeg + nn.toNatClampNeg ≤ z.toNatClampNeg) (h5 : dp.toNatClampNeg + nn.toNatClampNeg ≤ z'.toNatClampNeg) (hus : us = (List.range nn.toNatClampNeg).map fun i => vs.getD (sp.toNatClampNeg + i) dv) (hl : dp.toNatClampNeg + nn.toNatClampNeg ≤ vd.length) (ge : n0 ≤ b)
    (hd : decode bytes pc = .ok (.invokestatic idx, 3)) (hL : L.size = ml) (hf : 1 ≤ R.frames) (hW : (rest.map fun v => v.category).sum ≤ W) (hlo : W + (nativeFrameWords "java/lang/System" "arraycopy" 5 + 11) ≤ R.locals) (hp : pc + 3 = pc')
    (k : ∀ T' h', S kc ks T' h' → Keep h h' [b] → Arv Z h' b kB ty z' (vd.take dp.toNatClampNeg ++ us ++ vd.drop (dp.toNatClampNeg + nn.toNatClampNeg)) dd → F T' (mkF m pc' L rest)) : F T (mkF m pc L (.int nn :: .int dp :: .ref b :: .int sp :: .ref a :: rest)) := by
  subst hp
  obtain ⟨locs, cells, slots, X, q1, q2, q3, q4⟩ := cx.open st
  obtain ⟨T', h', L', X', e', N', K', B', stp⟩ := cpA X cx.1.1 cx.1.2.1 cx.2.1.1 w1 w2 w3 w4 q1 A B (Or.inl ⟨rfl, hty⟩) h1 h2 h3 h4 h5 hus hl q2 ge (g := mkF m pc L (.int nn :: .int dp :: .ref b :: .int sp :: .ref a :: rest)) rfl (hL.trans cx.1.2.2.2.symm) rfl (cx.dec hd) hf (W := W) (by show 2 * 0 + _ ≤ _; omega) hlo
  refine cx.step stp (k T' h' ?_ K' B')
  obtain ⟨-, -, -, rfl⟩ := cx
  exact ⟨_, _, _, X', e', N', q3, q4⟩
theorem E_dup2_x1L (cx : Cx l Z n0 p e R s m args below meth c bytes ml own name rt Q F S) (st : S kc ks T h) {x : Int64} {y : Value} (hd : decode bytes pc = .ok (.dup2_x1, 1)) (hy : y.category = 1) (hp : pc + 1 = pc') (k : F T (mkF m pc' L (.long x :: y :: .long x :: rest))) : F T (mkF m pc L (.long x :: y :: rest)) := by
  subst hp
  refine cx.step (fun t q => ?_) k
  have h1 := cx.at st
  have hx := cx.1.1
  have hd' := cx.dec hd
  show Steps p.tables e below (T.setTop { method := m, pc := pc, locals := L, stack := .long x :: y :: rest, locked := none }) _
  jvm_step h1 [h1.top, hx, hd', Value.category, hy]
  exact ⟨hy, q⟩
theorem E_anewA (cx : Cx l Z n0 p e R s m args below meth c bytes ml own name rt Q F S) (st : S kc ks T h) {ty : FieldType} {C ad : String} {idx cap : Nat} {n : Int32} (hC : (FieldType.array ty).toString = C) (had : "[" ++ C = ad) (w1 : (Jvm.Cond.classLink own idx C).before a0 Z = true) (w2 : (Jvm.Cond.arrayOver (.array ty)).before a0 Z = true) (hd : decode bytes pc = .ok (.anewarray idx, 3)) (hn : ¬ n < 0) (hcap : n.toNatClampNeg ≤ cap) (hb : cap * 8 ≤ 536870912) (hc : kc + 1 ≤ kc') (hs : ks + cap ≤ ks') (hc' : kc' ≤ R.cells) (hs' : ks' ≤ R.slots) (hp : pc + 3 = pc')
    (k : ∀ T' h' cA a, a = h.size → S kc' ks' T' h' → Ext h h' → Arv Z h' a cA (.array ty) n [] .null → Exa Z h' a ad → OvrA Z cA ty C → F T' (mkF m pc' L (.ref a :: rest))) : F T (mkF m pc L (.int n :: rest)) := by
  subst hp
  obtain ⟨locs, cells, slots, X, q1, q2, q3, q4⟩ := cx.open st
  obtain ⟨T', h', cA, X', e', E, A, E2, O, stp⟩ := newRA X cx.1.1 cx.1.2.1 cx.2.1.1 hC w1 w2 q1 (g := mkF m pc L (.int n :: rest)) rfl (cx.dec hd) rfl hn (cap := cap) hcap hb (by omega) (by omega) had
  refine cx.step stp (k T' h' cA h.size rfl ?_ E (Arv.new A hn) E2 O)
  obtain ⟨-, -, -, rfl⟩ := cx
  exact ⟨_, _, _, X', e', q2, by omega, by omega⟩
theorem Arv.sto {kA : ClassId} {n : Int32} {a b : Addr} {ty : FieldType} {C : String} {vs : List Value} {dv : Value} (V : Arv Z h a kA (.array ty) n vs dv) (O : OvrA Z kA ty C) (E : Exa Z h b C) : Sto Z h a (.ref b) := by
  obtain ⟨cl, A, q, -⟩ := V
  exact Sto.ofVA A q O (Ins.self E)
theorem E_grid (cx : Cx l Z n0 p e R s m args below meth c bytes ml own name rt Q F S) (st : S kc ks T h) {ty : FieldType} {C ad : String} {idx : Nat} {n j : Int32} {N cap : Nat} (hC : (FieldType.array ty).toString = C) (had : "[" ++ C = ad) (w1 : (Jvm.Cond.classLink own idx ad).before a0 Z = true) (w2 : (Jvm.Cond.arrayOver (.array ty)).before a0 Z = true) (w3 : (Jvm.Cond.arrayClass ty).before a0 Z = true) (hd : decode bytes pc = .ok (.multianewarray idx 2, 4))
    (hn : ¬ n < 0) (hj : ¬ j < 0) (hN : n.toNatClampNeg = N) (hcap : j.toNatClampNeg ≤ cap) (hb : cap * 8 ≤ 536870912) (hb1 : N ≤ 1000) (hdf : fits ty (defaultValue ty) = true) (hdd : (defaultValue ty).isDefault = true) (hc : kc + (1 + N) ≤ kc') (hs : ks + (N + N * cap) ≤ ks') (hc' : kc' ≤ R.cells) (hs' : ks' ≤ R.slots) (hp : pc + 4 = pc')
    (k : ∀ T' h' cA cB, S kc' ks' T' h' → Ext h h' → Arv Z h' h.size cA (.array ty) n (((List.range N).map fun i => h.size + 1 + i).map .ref) .null → (∀ i, i < N → Arv Z h' (h.size + 1 + i) cB ty j [] (defaultValue ty)) → F T' (mkF m pc' L (.ref h.size :: rest))) : F T (mkF m pc L (.int j :: .int n :: rest)) := by
  subst hp
  obtain ⟨locs, cells, slots, X, q1, q2, q3, q4⟩ := cx.open st
  obtain ⟨T', h', cA, cB, X', e', E, A, -, -, D, stp⟩ := gridM X cx.1.1 cx.1.2.1 cx.2.1.1 hC had w1 w2 w3 q1 (g := mkF m pc L (.int j :: .int n :: rest)) rfl (cx.dec hd) rfl hn hj hN rfl (cap := cap) hcap hb hb1 hdf hdd (by omega) (by omega)
  refine cx.step stp (k T' h' cA cB ?_ E A fun i hi => Arv.new (D i _ (by simp [hi])).1 hj)
  obtain ⟨-, -, -, rfl⟩ := cx
  exact ⟨_, _, _, X', e', q2, by omega, by omega⟩
end OwnKit
section OwnCube
open Jvm.Free.Multi
/-- behind i rounds: over the heap h stand an array of N references and i grids of M by K, one behind the other; the first i references name the grids -/
def Cub (h h' : Heap) (cA cb cd : ClassId) (N M K : Nat) (dv : Value) (i : Nat) : Prop :=
  h'.size = h.size + 1 + i * (M + 1) ∧ (∀ (a : Addr) (x : Cell), h[a]? = some x → h'[a]? = some x) ∧
  (∃ O : Cell, h'[h.size]? = some O ∧ (O.cls = cA ∧ O.vm = .none ∧ O.slots.size = N) ∧ ∀ j, j < i → O.slots[j]? = some (.ref (h.size + 1 + j * (M + 1)))) ∧
  (∀ j, j < i → h'[h.size + 1 + j * (M + 1)]? = some (outerC cb M (h.size + 1 + j * (M + 1)) M)) ∧
  (∀ j q, j < i → q < M → h'[h.size + 1 + j * (M + 1) + 1 + q]? = some (innerC cd K dv))
theorem Cub.first (V : State) (cA cb cd : ClassId) (N M K : Nat) (dv : Value) : Cub V.heap (V.pushCell { cls := cA, slots := Array.replicate N .null, vm := .none }).heap cA cb cd N M K dv 0 :=
  ⟨by simp, fun a x hx => (State.heap_pushCell_of_lt _ _ (Array.getElem?_eq_some_iff.mp hx).1).trans hx, ⟨_, State.heap_pushCell_size _ _, ⟨rfl, rfl, by simp⟩, fun j hj => absurd hj (Nat.not_lt_zero j)⟩, fun j hj => absurd hj (Nat.not_lt_zero j), fun j _ hj => absurd hj (Nat.not_lt_zero j)⟩
/-- one round more: a grid behind the heap, its address into the next reference -/
theorem Cub.round {V : State} {h : Heap} {cA cb cd : ClassId} {N M K : Nat} {dv : Value} {i : Nat} (D : Cub h V.heap cA cb cd N M K dv i) (hi : i < N) {O : Cell} (hO : V.heap[h.size]? = some O) :
    Cub h ((fill V cb cd M K dv M).setCell h.size (O.setSlot i (.ref V.heap.size))).heap cA cb cd N M K dv (i + 1) := by
  obtain ⟨d1, d2, ⟨O', o1, ⟨o2, o3, o4⟩, o5⟩, d4, d5⟩ := D
  cases Option.some.inj (hO.symm.trans o1)
  obtain ⟨g1, g2, -, -⟩ := fill_facts V cb cd M K dv M
  have old : ∀ {a : Addr} {x : Cell}, V.heap[a]? = some x → (fill V cb cd M K dv M).heap[a]? = some x := fun q => (fill_old V cb cd M K dv (Array.getElem?_eq_some_iff.mp q).1 M).trans q
  have put : ∀ {a : Addr} {x : Cell}, h.size ≠ a → (fill V cb cd M K dv M).heap[a]? = some x → ((fill V cb cd M K dv M).setCell h.size (O.setSlot i (.ref V.heap.size))).heap[a]? = some x := fun n q => (State.heap_setCell_other n).trans q
  have off : ∀ z : Nat, h.size ≠ h.size + 1 + z := fun z => by omega
  have off2 : ∀ z y : Nat, h.size ≠ h.size + 1 + z + 1 + y := fun z y => by omega
  refine ⟨?_, fun a x hx => put (Nat.ne_of_gt (Array.getElem?_eq_some_iff.mp hx).1) (old (d2 a x hx)), ⟨_, State.heap_setCell_self (old hO), ⟨o2, o3, ?_⟩, fun j hj => ?_⟩, fun j hj => ?_, fun j q hj hq => ?_⟩
  · rw [Nat.add_mul, ← Nat.add_assoc, ← d1]
    simp [State.setCell, g1]; omega
  · simpa [Cell.setSlot] using o4
  · rcases Nat.lt_succ_iff_lt_or_eq.mp hj with q | rfl
    · have : i ≠ j := by omega
      simpa [Cell.setSlot, Array.getElem?_setIfInBounds, this] using o5 j q
    · simp [Cell.setSlot, o4, hi, d1]
  · rcases Nat.lt_succ_iff_lt_or_eq.mp hj with q | rfl
    · exact put (off _) (old (d4 j q))
    · rw [d1] at g2; exact put (off _) g2
  · rcases Nat.lt_succ_iff_lt_or_eq.mp hj with r | rfl
    · exact put (off2 _ _) (old (d5 j q r hq))
    · have := fill_inner V cb cd M K dv M q hq
      rw [d1] at this; exact put (off2 _ _) this
section
variable {p : Program} {l : Launch} {e : Env} {R : Room} {s : State} {m : MethodId} {args : Array Value} {below : List Frame} {meth : Method} {c : Code} {T U : State} {locs : List Loc} {cells slots : Nat}
/-- the states behind the rounds -/
def rnd (U : State) (cA cb cd : ClassId) (N M K : Nat) (dv : Value) : Nat → State
  | 0 => U.pushCell { cls := cA, slots := Array.replicate N .null, vm := .none }
  | i + 1 => (fill (rnd U cA cb cd N M K dv i) cb cd M K dv M).setCell U.heap.size ((((rnd U cA cb cd N M K dv i).heap[U.heap.size]?).getD { cls := cA, slots := #[], vm := .none }).setSlot i (.ref (rnd U cA cb cd N M K dv i).heap.size))
theorem rnd_ok (X : Stand p l e R s m args below meth c U locs cells slots) (cA cb cd : ClassId) (N M K : Nat) (dv : Value) : ∀ i, i ≤ N → (rnd U cA cb cd N M K dv i).vm = U.vm ∧ Stand p l e R s m args below meth c (rnd U cA cb cd N M K dv i) locs (cells + 1 + i * (M + 1)) (slots + N + i * (M + M * K)) ∧ Cub U.heap (rnd U cA cb cd N M K dv i).heap cA cb cd N M K dv i
  | 0, _ => by
    have X0 := X.pushed { cls := cA, slots := Array.replicate N .null, vm := .none }
    rw [Array.size_replicate] at X0
    exact ⟨rfl, by rw [Nat.zero_mul, Nat.zero_mul]; exact X0, Cub.first U cA cb cd N M K dv⟩
  | i + 1, hi => by
    obtain ⟨ev, XV, D⟩ := rnd_ok X cA cb cd N M K dv i (Nat.le_of_succ_le hi)
    obtain ⟨O, o1, -, -⟩ := D.2.2.1
    unfold rnd
    rw [o1, Option.getD_some]
    generalize rnd U cA cb cd N M K dv i = V at *
    have XG := (XV.filled cb cd M K dv M).dropFresh fun z hz => by
      obtain ⟨_, -, rfl⟩ := List.mem_map.mp hz
      exact XV.heapGrown
    have XN := (XG.stored ((fill_old V cb cd M K dv (Array.getElem?_eq_some_iff.mp o1).1 M).trans o1) i (.ref V.heap.size)).dropFresh fun z hz => by
      cases List.mem_singleton.mp hz
      exact X.heapGrown
    refine ⟨(fill_facts V cb cd M K dv M).2.2.1.trans ev, ?_, D.round hi o1⟩
    rw [Nat.succ_mul, Nat.succ_mul, show cells + 1 + (i * (M + 1) + (M + 1)) = cells + 1 + i * (M + 1) + 1 + M by omega, show slots + N + (i * (M + M * K) + (M + M * K)) = slots + N + i * (M + M * K) + M + M * K by omega]
    exact XN
/-- the model's make over three lengths, the walk's standing carried through its rounds -/
theorem make_cube (X : Stand p l e R s m args below meth c U locs cells slots) (tf : JFrame) {E : CtlPost} {d : Bool} {acts : List Action} {cA cb cd cc : ClassId} {kA kb kd : Class} {ty : FieldType} {n j k : Int32} {N M K : Nat} (eN : n.toNatClampNeg = N) (eM : j.toNatClampNeg = M) (eK : k.toNatClampNeg = K)
    (hA : U.vm.classes[cA]? = some kA ∧ kA.kind = .array cb (.array (.array ty))) (hB : U.vm.classes[cb]? = some kb ∧ kb.kind = .array cd (.array ty)) (hD : U.vm.classes[cd]? = some kd ∧ kd.kind = .array cc ty)
    (pos : ¬ n < 0 ∧ ¬ j < 0 ∧ ¬ k < 0) (small : N ≤ 1000 ∧ M ≤ 1000 ∧ K ≤ 1000) (dflt : fits ty (defaultValue ty) = true ∧ (defaultValue ty).isDefault = true) (hc : cells + 1 + N * (M + 1) ≤ R.cells) (hs : slots + N + N * (M + M * K) ≤ R.slots)
    {Q : Addr → Pre} (go : ∀ d' acts', Q U.heap.size d' acts' ((rnd U cA cb cd N M K (defaultValue ty) N).setTop tf)) :
    wp (multianewarray.make cA [n, j, k]) Q E e d acts (U.setTop tf) := by
  have lim := Launch.admits_arrayLengthLimit X.admits
  have mem := Launch.admits_maxHeapBytes X.admits
  have len : ∀ z : Nat, z ≤ 1000 → ¬ z > e.platform.arrayLengthLimit := fun z hz => by rw [lim]; omega
  have room4 : ∀ z : Nat, z ≤ 1000 → ¬ z * 4 > e.platform.maxHeapBytes := fun z hz => by rw [mem]; omega
  have roomT : ¬ K * componentBytes ty > e.platform.maxHeapBytes := by
    have b8 : componentBytes ty ≤ 8 := by cases ty <;> simp [componentBytes]
    have := Nat.mul_le_mul small.2.2 b8
    rw [mem]; omega
  obtain ⟨r1, r2⟩ := X.roomAbove (a := 1) (b := N) (by omega) (by omega)
  unfold multianewarray.make
  simp only [wp_bind', wp_pure', W.ite, W.theClass, pos.1, if_false, State.vm_setTop, hA.1, hA.2, Option.some.injEq, exists_eq_left', eN]
  refine wp_newArray (s := U.setTop tf) (k := kA) (by rw [State.vm_setTop]; exact hA.1) hA.2 (len N small.1) (room4 N small.1) (refFits rfl _ (Or.inl rfl)) rfl (by rw [State.heap_setTop]; omega) r2 ?_
  rw [State.heap_setTop, State.pushCell_setTop]
  have none : [j, k].find? (· < 0) = Option.none := by simp [pos.2.1, pos.2.2]
  simp only [none, ite_self, wp_bind']
  rw [Std.Legacy.Range.forIn_eq_forIn_range', show ([:N] : Std.Legacy.Range).size = N from by simp [Std.Legacy.Range.size]]
  show wp (forIn (List.range' 0 N 1) PUnit.unit _) _ E e d acts _
  rw [← List.range_eq_range']
  refine wp_forIn_inv (fun left w => ∃ i, left = (List.range N).drop i ∧ i ≤ N ∧ w = (rnd U cA cb cd N M K (defaultValue ty) i).setTop tf) _ _ ⟨0, rfl, Nat.zero_le N, rfl⟩ ?_ ?_
  · rintro y left w d1 a1 Q1 ⟨i, el, hi, rfl⟩ next
    obtain ⟨ev, XV, D⟩ := rnd_ok X cA cb cd N M K (defaultValue ty) i hi
    have hlt : i < N := by
      rcases Nat.lt_or_ge i N with q | q
      · exact q
      · rw [List.drop_eq_nil_of_le (by simpa using q)] at el; cases el
    rw [List.drop_eq_getElem_cons (by simpa using hlt), List.getElem_range] at el
    obtain ⟨rfl, rfl⟩ := List.cons.inj el
    have big := Nat.mul_le_mul_right (M + 1) (Nat.succ_le_of_lt hlt)
    have wide := Nat.mul_le_mul_right (M + M * K) (Nat.succ_le_of_lt hlt)
    rw [Nat.succ_mul] at big wide
    obtain ⟨v1, v2⟩ := XV.roomAbove (a := 1 + M) (b := M + M * K) (by omega) (by omega)
    obtain ⟨O, o1, ⟨o2, o3, o4⟩, -⟩ := D.2.2.1
    have after : (rnd U cA cb cd N M K (defaultValue ty) (y + 1)) = (fill (rnd U cA cb cd N M K (defaultValue ty) y) cb cd M K (defaultValue ty) M).setCell U.heap.size (O.setSlot y (.ref (rnd U cA cb cd N M K (defaultValue ty) y).heap.size)) := by
      rw [rnd, o1, Option.getD_some]
    rw [wp_bind']
    refine wp_make2 (s := (rnd U cA cb cd N M K (defaultValue ty) y).setTop tf) (k := kb) (kc := kd) (comp := cd) (cc := cc) (t0 := .array ty) (type := ty) (by rw [State.vm_setTop, ev]; exact hB.1) hB.2 rfl (by rw [State.vm_setTop, ev]; exact hD.1) hD.2 pos.2.1 pos.2.2 (by rw [eM]; exact len M small.2.1) (by rw [eM]; exact room4 M small.2.1) (by rw [eK]; exact len K small.2.2) (by rw [eK]; exact roomT) dflt.1 dflt.2 (by rw [eM, State.heap_setTop]; omega) (by rw [eM, eK]; show (rnd U cA cb cd N M K (defaultValue ty) y).slotsUsed + M + M * K ≤ _; omega) ?_
    intro d2 a2
    rw [eM, eK, fill_setTop]
    simp only [W.writeLoc, wp_bind', wp_pure', State.heap_setTop]
    refine ⟨O, (fill_old _ cb cd M K _ (Array.getElem?_eq_some_iff.mp o1).1 M).trans o1, by rw [o3]; simp, by rw [o4]; exact hlt, ?_, next _ _ _ ⟨y + 1, rfl, hlt, ?_⟩⟩
    · simp [State.fitsSlot, State.slotType?, o2, o3, (fill_facts (rnd U cA cb cd N M K (defaultValue ty) y) cb cd M K (defaultValue ty) M).2.2.1, ev, hA.1, hA.2, refFits (t := .array (.array ty)) rfl _ (Or.inr ⟨_, rfl⟩)]
    · rw [after]; exact State.setCell_setTop ..
  · rintro w d1 a1 ⟨i, el, hi, rfl⟩
    have : i = N := Nat.le_antisymm hi (by simpa using List.drop_eq_nil_iff.mp el.symm)
    subst this
    rw [wp_pure']
    exact go _ _
/-- the instruction: three lengths on the stack -/
theorem multi_cube (X : Stand p l e R s m args below meth c T locs cells slots) (hx : p.tables.exec = Jvm.exec) {own : String} {idx : Nat} {ty : FieldType} (hown : s.vm.findClass own = some m.cls)
    (w1 : (Cond.classLink own idx ("[" ++ (FieldType.array (.array ty)).toString)).before args s = true) (w2 : (Cond.arrayOver (.array (.array ty))).before args s = true) (w3 : (Cond.arrayOver (.array ty)).before args s = true) (w4 : (Cond.arrayClass ty).before args s = true)
    {g : JFrame} (hg : g.method = m) (hd : decode c.code g.pc = .ok (.multianewarray idx 3, 4)) {n j k : Int32} {rest : List Value} (hst : g.stack = .int k :: .int j :: .int n :: rest) {N M K : Nat} (eN : n.toNatClampNeg = N) (eM : j.toNatClampNeg = M) (eK : k.toNatClampNeg = K)
    (pos : ¬ n < 0 ∧ ¬ j < 0 ∧ ¬ k < 0) (small : N ≤ 1000 ∧ M ≤ 1000 ∧ K ≤ 1000) (dflt : fits ty (defaultValue ty) = true ∧ (defaultValue ty).isDefault = true) (hc : cells + 1 + N * (M + 1) ≤ R.cells) (hs : slots + N + N * (M + M * K) ≤ R.slots) :
    ∃ (V : State) (cA cb cd : ClassId) (kA kb kd : Class) (cc : ClassId), (s.vm.classes[cA]? = some kA ∧ kA.kind = .array cb (.array (.array ty))) ∧ (s.vm.classes[cb]? = some kb ∧ kb.kind = .array cd (.array ty)) ∧ (s.vm.classes[cd]? = some kd ∧ kd.kind = .array cc ty) ∧
      Stand p l e R s m args below meth c V locs (cells + 1 + N * (M + 1)) (slots + N + N * (M + M * K)) ∧ Cub T.heap V.heap cA cb cd N M K (defaultValue ty) N ∧
      ∀ t, Steps p.tables e below (V.setTop { g with pc := g.pc + 4, stack := .ref T.heap.size :: rest }) t → Steps p.tables e below (T.setTop g) t := by
  subst hg
  obtain ⟨cb, cA, kA, fb, a1, a2, fA⟩ := Cond.arrayOver_specA w2
  obtain ⟨cd, cb', kb, fd, b1, b2, fb'⟩ := Cond.arrayOver_specA w3
  obtain ⟨cd', kd, cc, fd', d1, d2⟩ := Cond.arrayClass_spec w4
  obtain rfl := Option.some.inj (fb.symm.trans fb')
  obtain rfl := Option.some.inj (fd.symm.trans fd')
  obtain ⟨c9, fc, cl⟩ := Cond.classLink_spec hown w1 e.platform (by rw [X.admits.platform])
  obtain rfl := Option.some.inj (fA.symm.trans fc)
  obtain ⟨ent, warm, -⟩ := State.classEntry (e := e) X.warmed cl
  have XW := X.noted warm
  have lift : ∀ {z : ClassId} {kz : Class} {t : ClassId} {ft : FieldType}, s.vm.classes[z]? = some kz ∧ kz.kind = .array t ft → ∃ kz', (T.vm.noted g.method.cls idx (.cls cA)).classes[z]? = some kz' ∧ kz'.kind = .array t ft := fun q => by
    obtain ⟨kz', q1, q2⟩ := warm.alike.2.2 _ _ q.1
    exact ⟨kz', q1, by rw [q2]; exact q.2⟩
  obtain ⟨kA', hA⟩ := lift ⟨a1, a2⟩
  obtain ⟨kb', hB⟩ := lift ⟨b1, b2⟩
  obtain ⟨kd', hD⟩ := lift ⟨d1, d2⟩
  obtain ⟨-, XV, D⟩ := rnd_ok XW cA cb cd N M K (defaultValue ty) N (Nat.le_refl N)
  refine ⟨_, cA, cb, cd, kA, kb, kd, cc, ⟨a1, a2⟩, ⟨b1, b2⟩, ⟨d1, d2⟩, XV, D, fun t q => ?_⟩
  generalize T.vm.noted g.method.cls idx (.cls cA) = vm₁ at *
  jvm_step X.here [hx, hd]
  simp only [multianewarray.sem, wp_bind', W.resolveClassAt_links (State.method?_setTop g X.here.top) ent]
  rw [W.popN, if_neg (by decide)]
  refine ⟨g, State.topJava?_setTop' (s := T.setVm vm₁) g X.here.top, [.int n, .int j, .int k], rest, rfl, hst, ?_⟩
  rw [show ((T.setTop g).setVm vm₁).setTop { g with stack := rest } = (T.setVm vm₁).setTop { g with stack := rest } from State.setTop_setTop (s := T.setVm vm₁) ..]
  simp only [List.mapM_cons, List.mapM_nil, wp_bind', wp_pure']
  refine make_cube XW _ eN eM eK hA hB hD pos small dflt hc hs fun d' acts' => ?_
  simp only [wp_bind', W.mark, W.pushRef, State.topJava?_setTop' _ XV.here.top, Option.some.injEq, exists_eq_left', State.setTop_setTop]
  intro acts
  simp [jvm, XV.here.top]
  exact q
end
end OwnCube

section OwnCube2
variable {l : Launch} {Z : State} {n0 : Nat} {p : Program} {e : Env} {R : Room} {s : State} {m : MethodId} {args : Array Value} {below : List Frame} {meth : Method} {c : Code} {bytes : ByteArray} {ml : Nat} {own name : String} {rt : Option FieldType} {Q : Option Value → Heap → Prop} {F : State → JFrame → Prop} {S : Nat → Nat → State → Heap → Prop}
variable {a0 : Array Value} {T T' : State} {h h' : Heap} {kc ks kc' ks' pc pc' : Nat} {L L' : Array Slot} {rest : List Value}
theorem range_getD (N : Nat) (f : Nat → Value) (d : Value) (i : Nat) (hi : i < N) : ((List.range N).map f).getD i d = f i := by
  simp [List.getD_eq_getElem?_getD, hi]
theorem rfit (t : FieldType) (N : Nat) (f : Nat → Addr) (i : Nat) : fits (.array t) (((List.range N).map fun i => Value.ref (f i)).getD i .null) = true := by
  by_cases hi : i < N
  · rw [range_getD _ _ _ _ hi]; rfl
  · rw [List.getD_eq_getElem?_getD, List.getElem?_eq_none (by simpa using hi)]; rfl
theorem E_cube (cx : Cx l Z n0 p e R s m args below meth c bytes ml own name rt Q F S) (st : S kc ks T h) {ty : FieldType} {C ad : String} {idx : Nat} {n j k : Int32} {N M K : Nat} (hC : (FieldType.array (.array ty)).toString = C) (had : "[" ++ C = ad) (w1 : (Jvm.Cond.classLink own idx ad).before a0 Z = true) (w2 : (Jvm.Cond.arrayOver (.array (.array ty))).before a0 Z = true) (w3 : (Jvm.Cond.arrayOver (.array ty)).before a0 Z = true) (w4 : (Jvm.Cond.arrayClass ty).before a0 Z = true) (hd : decode bytes pc = .ok (.multianewarray idx 3, 4))
    (hn : ¬ n < 0) (hj : ¬ j < 0) (hk : ¬ k < 0) (hN : n.toNatClampNeg = N) (hM : j.toNatClampNeg = M) (hK : k.toNatClampNeg = K) (hb1 : N ≤ 1000) (hb2 : M ≤ 1000) (hb3 : K ≤ 1000) (hdf : fits ty (defaultValue ty) = true) (hdd : (defaultValue ty).isDefault = true) (hc : kc + (1 + N * (M + 1)) ≤ kc') (hs : ks + (N + N * (M + M * K)) ≤ ks') (hc' : kc' ≤ R.cells) (hs' : ks' ≤ R.slots) (hp : pc + 4 = pc')
    (kk : ∀ T' h' cA cB cD, S kc' ks' T' h' → Ext h h' → Arv Z h' h.size cA (.array (.array ty)) n ((List.range N).map fun i => .ref (h.size + 1 + i * (M + 1))) .null → (∀ i, i < N → Arv Z h' (h.size + 1 + i * (M + 1)) cB (.array ty) j ((List.range M).map fun q => .ref (h.size + 1 + i * (M + 1) + 1 + q)) .null) → (∀ i q, i < N → q < M → Arv Z h' (h.size + 1 + i * (M + 1) + 1 + q) cD ty k [] (defaultValue ty)) → F T' (mkF m pc' L (.ref h.size :: rest))) : F T (mkF m pc L (.int k :: .int j :: .int n :: rest)) := by
  subst hp hC had
  obtain ⟨locs, cells, slots, X, q1, q2, q3, q4⟩ := cx.open st
  have hZ := cx.1.2.1
  obtain ⟨V, cA, cb, cd, kA, kb, kd, cc, ⟨a1, a2⟩, ⟨b1, b2⟩, ⟨d1, d2⟩, X', ⟨s1, s2, ⟨O, o1, ⟨o2, o3, o4⟩, o5⟩, s4, s5⟩, stp⟩ := multi_cube X cx.1.1 cx.2.1.1 (mvT hZ w1) (arrayOver_alikeB hZ.alike w2) (arrayOver_alikeB hZ.alike w3) (mvA hZ w4) (g := mkF m pc L (.int k :: .int j :: .int n :: rest)) rfl (cx.dec hd) rfl hN hM hK ⟨hn, hj, hk⟩ ⟨hb1, hb2, hb3⟩ ⟨hdf, hdd⟩ (by omega) (by omega)
  subst q1
  have toZ : ∀ {x : Cell} {t : FieldType} {kx : Class} {z : ClassId}, x.vm = .none → s.vm.classes[x.cls]? = some kx → kx.kind = .array z t → Z.isArrayOf x t ∧ x.vm ≠ .unknown := fun v1 v2 v3 => ⟨State.isArrayOf_alike (T := Z) hZ.alike.symm ⟨fun _ => by rw [v1]; simp, _, v2, _, v3⟩, by rw [v1]; simp⟩
  refine cx.step stp (kk V V.heap cA cb cd ?_ ⟨by rw [s1, Nat.add_assoc]; exact Nat.le_add_right _ _, s2⟩ ⟨O, ⟨o1, toZ o3 (o2 ▸ a1) a2⟩, o2, o4.trans hN.symm, hn, fun i hi => ?_, fun i _ => rfit _ _ _ _⟩ (fun i hi => ?_) (fun i q hi hq => ?_))
  · obtain ⟨-, -, -, rfl⟩ := cx
    exact ⟨_, _, _, X', rfl, q2, by omega, by omega⟩
  · rw [o4] at hi; rw [range_getD _ _ _ _ hi]; exact o5 i hi
  · obtain ⟨u1, u2, u3⟩ := Jvm.Free.Multi.outerC_facts cb M (T.heap.size + 1 + i * (M + 1)) M
    refine ⟨_, ⟨s4 i hi, toZ u2 (by rw [u1]; exact b1) b2⟩, u1, u3.trans hM.symm, hj, fun q hq => ?_, fun q _ => rfit _ _ _ _⟩
    rw [u3] at hq; rw [range_getD _ _ _ _ hq, Jvm.Free.Multi.outerC_slot cb M _ M q hq, if_pos hq]
  · subst hK
    exact Arv.new ⟨s5 i q hi hq, toZ rfl d1 d2⟩ hk
/-- the table of three dimensions at w: N by M by K longs f i q r -/
def Cube (Z : State) (h : Heap) (w : Addr) (N M K : Nat) (f : Nat → Nat → Nat → Int64) : Prop :=
  (∃ cA, Arv Z h w cA (.array (.array .long)) (Int32.ofNat N) ((List.range N).map fun i => .ref (w + 1 + i * (M + 1))) .null) ∧
  (∃ cB, ∀ i, i < N → Arv Z h (w + 1 + i * (M + 1)) cB (.array .long) (Int32.ofNat M) ((List.range M).map fun q => .ref (w + 1 + i * (M + 1) + 1 + q)) .null) ∧
  (∃ cD, ∀ i q, i < N → q < M → Arv Z h (w + 1 + i * (M + 1) + 1 + q) cD .long (Int32.ofNat K) ((List.range K).map fun r => .long (f i q r)) (.long 0))
theorem addr_lt1 (w x : Nat) (h : w + 1 + x < w) : False := by omega
theorem addr_lt2 (w x r : Nat) (h : w + 1 + x + 1 + r < w) : False := by omega
theorem Cube.keep {w : Addr} {N M K : Nat} {f : Nat → Nat → Nat → Int64} (D : Cube Z h w N M K f) {ws : List Addr} (Kp : Keep h h' ws) (q : ∀ x ∈ ws, (x : Nat) < w) : Cube Z h' w N M K f := by
  obtain ⟨⟨cA, d1⟩, ⟨cB, d2⟩, ⟨cD, d3⟩⟩ := D
  refine ⟨⟨cA, d1.keep Kp fun z => ?_⟩, ⟨cB, fun i hi => (d2 i hi).keep Kp fun z => ?_⟩, ⟨cD, fun i r hi hr => (d3 i r hi hr).keep Kp fun z => ?_⟩⟩
  · exact Nat.lt_irrefl _ (q _ z)
  · exact addr_lt1 w (i * (M + 1)) (q _ z)
  · exact addr_lt2 w (i * (M + 1)) r (q _ z)
def upd (f : Nat → Nat → Nat → Int64) (i q r : Nat) (v : Int64) : Nat → Nat → Nat → Int64 := fun i' q' r' => if i' = i ∧ q' = q ∧ r' = r then v else f i' q' r'
theorem cell_inj {M i q i' q' : Nat} (hq : q < M) (hq' : q' < M) (h : i * (M + 1) + 1 + q = i' * (M + 1) + 1 + q') : i = i' ∧ q = q' := by
  have e1 : (i * (M + 1) + (1 + q)) / (M + 1) = i := by rw [Nat.mul_comm, Nat.mul_add_div (by omega), Nat.div_eq_of_lt (by omega)]; rfl
  have e2 : (i' * (M + 1) + (1 + q')) / (M + 1) = i' := by rw [Nat.mul_comm, Nat.mul_add_div (by omega), Nat.div_eq_of_lt (by omega)]; rfl
  have e3 : i = i' := by rw [← e1, ← e2, ← Nat.add_assoc, ← Nat.add_assoc, h]
  subst e3
  exact ⟨rfl, by omega⟩
theorem cell_ne {M i q i' : Nat} (hq : q < M) : i * (M + 1) + 1 + q ≠ i' * (M + 1) := fun h => by
  have e1 : (i * (M + 1) + (1 + q)) / (M + 1) = i := by rw [Nat.mul_comm, Nat.mul_add_div (by omega), Nat.div_eq_of_lt (by omega)]; rfl
  have e2 : (i' * (M + 1)) / (M + 1) = i' := by rw [Nat.mul_comm, Nat.mul_div_cancel_left _ (by omega)]
  have e3 : i = i' := by rw [← e1, ← e2, ← h, Nat.add_assoc]
  subst e3; omega
theorem ofNat_clamp {i : Nat} (hi : i < 2147483648) : (Int32.ofNat i).toNatClampNeg = i := by
  show (Int32.ofNat i).toInt.toNat = i
  rw [Int32.toInt_ofNat_of_lt hi]; rfl
theorem addr_ne1 (w i q M : Nat) (h : w = w + 1 + i * (M + 1) + 1 + q) : False := by omega
theorem addr_ne2 (w i q M i' : Nat) (hq : q < M) (h : w + 1 + i' * (M + 1) = w + 1 + i * (M + 1) + 1 + q) : False := cell_ne (i := i) (i' := i') hq (by omega)
theorem addr_inj (w i q M i' q' : Nat) (hq : q < M) (hq' : q' < M) (h : w + 1 + i' * (M + 1) + 1 + q' = w + 1 + i * (M + 1) + 1 + q) : i' = i ∧ q' = q := cell_inj hq' hq (by omega)
theorem Cube.set {w : Addr} {N M K : Nat} {f : Nat → Nat → Nat → Int64} (D : Cube Z h w N M K f) {i q r : Nat} {v : Int64} (hi : i < N) (hq : q < M) (hr : r < K) (hK : K < 2147483648) (W : Wr h h' (w + 1 + i * (M + 1) + 1 + q) r (.long v)) : Cube Z h' w N M K (upd f i q r v) := by
  obtain ⟨⟨cA, d1⟩, ⟨cB, d2⟩, ⟨cD, d3⟩⟩ := D
  refine ⟨⟨cA, d1.other W fun z => ?_⟩, ⟨cB, fun i' hi' => (d2 i' hi').other W fun z => ?_⟩, ⟨cD, fun i' q' hi' hq' => ?_⟩⟩
  · exact addr_ne1 w i q M z
  · exact addr_ne2 w i q M i' hq z
  · by_cases e : i' = i ∧ q' = q
    · obtain ⟨rfl, rfl⟩ := e
      obtain ⟨cl, A, e1, S1, N1, H1, G1⟩ := d3 i' q' hi' hq'
      have W' : Wr h h' (w + 1 + i' * (M + 1) + 1 + q') (Int32.ofNat r).toNatClampNeg (.long v) := by rw [ofNat_clamp (by omega)]; exact W
      have V2 := Arv.set A e1 S1 N1 H1 G1 rfl W' _ rfl (by simp [ofNat_clamp (show r < 2147483648 by omega)]; exact hr)
      rw [ofNat_clamp (by omega)] at V2
      refine V2.pad fun t => ?_
      by_cases ht : t < K
      · rw [range_getD _ _ _ _ ht]
        simp only [List.getD_eq_getElem?_getD, List.getElem?_set]
        by_cases hrt : r = t
        · subst hrt; simp [hr, upd]
        · have : ¬ (t = r) := fun z => hrt z.symm
          simp [hrt, ht, upd, this]
      · simp only [List.getD_eq_getElem?_getD]
        rw [List.getElem?_eq_none (by simp; omega), List.getElem?_eq_none (by simp; omega)]
    · have V2 := (d3 i' q' hi' hq').other W fun z => e (addr_inj w i q M i' q' hq hq' z)
      have : (fun r' => Value.long (upd f i q r v i' q' r')) = fun r' => Value.long (f i' q' r') := by
        funext r'; simp only [upd]; rw [if_neg]; intro z; exact e ⟨z.1, z.2.1⟩
      rw [this]; exact V2
theorem idx_nat {i N : Nat} (hi : i < N) (hN : N < 2147483648) : ¬ (Int32.ofNat i) < 0 ∧ (Int32.ofNat i) < Int32.ofNat N := by
  rw [Int32.lt_iff_toInt_lt, Int32.lt_iff_toInt_lt, Int32.toInt_ofNat_of_lt hN, Int32.toInt_ofNat_of_lt (by omega)]
  have : (0 : Int32).toInt = 0 := rfl
  rw [this]; omega
/-- ways[i] -/
theorem Cube.at1 {w : Addr} {N M K : Nat} {f : Nat → Nat → Nat → Int64} (D : Cube Z h w N M K f) {i : Nat} (hi : i < N) (hN : N < 2147483648) (cx : Cx l Z n0 p e R s m args below meth c bytes ml own name rt Q F S) (st : S kc ks T h) (hd : decode bytes pc = .ok (.aaload, 1)) (hp : pc + 1 = pc') (k : F T (mkF m pc' L (.ref (w + 1 + i * (M + 1)) :: rest))) : F T (mkF m pc L (.int (Int32.ofNat i) :: .ref w :: rest)) := by
  obtain ⟨⟨cA, d1⟩, -, -⟩ := D
  exact E_aaload cx st d1 rfl (idx_nat hi hN) (by rw [ofNat_clamp (by omega)]; exact range_getD _ _ _ _ hi) hd hp k
theorem Cube.at2 {w : Addr} {N M K : Nat} {f : Nat → Nat → Nat → Int64} (D : Cube Z h w N M K f) {i q : Nat} (hi : i < N) (hq : q < M) (hM : M < 2147483648) (cx : Cx l Z n0 p e R s m args below meth c bytes ml own name rt Q F S) (st : S kc ks T h) (hd : decode bytes pc = .ok (.aaload, 1)) (hp : pc + 1 = pc') (k : F T (mkF m pc' L (.ref (w + 1 + i * (M + 1) + 1 + q) :: rest))) : F T (mkF m pc L (.int (Int32.ofNat q) :: .ref (w + 1 + i * (M + 1)) :: rest)) := by
  obtain ⟨-, ⟨cB, d2⟩, -⟩ := D
  exact E_aaload cx st (d2 i hi) rfl (idx_nat hq hM) (by rw [ofNat_clamp (by omega)]; exact range_getD _ _ _ _ hq) hd hp k
theorem Cube.at3 {w : Addr} {N M K : Nat} {f : Nat → Nat → Nat → Int64} (D : Cube Z h w N M K f) {i q r : Nat} (hi : i < N) (hq : q < M) (hr : r < K) (hK : K < 2147483648) (cx : Cx l Z n0 p e R s m args below meth c bytes ml own name rt Q F S) (st : S kc ks T h) (hd : decode bytes pc = .ok (.laload, 1)) (hp : pc + 1 = pc') (k : F T (mkF m pc' L (.long (f i q r) :: rest))) : F T (mkF m pc L (.int (Int32.ofNat r) :: .ref (w + 1 + i * (M + 1) + 1 + q) :: rest)) := by
  obtain ⟨-, -, ⟨cD, d3⟩⟩ := D
  exact E_laload cx st (d3 i q hi hq) (idx_nat hr hK) (by rw [ofNat_clamp (by omega)]; exact range_getD _ _ _ _ hr) hd hp k
theorem Cube.put {w : Addr} {N M K : Nat} {f : Nat → Nat → Nat → Int64} (D : Cube Z h w N M K f) {i q r : Nat} {x : Int64} (hi : i < N) (hq : q < M) (hr : r < K) (hK : K < 2147483648) (g : n0 ≤ w) (cx : Cx l Z n0 p e R s m args below meth c bytes ml own name rt Q F S) (st : S kc ks T h) (hd : decode bytes pc = .ok (.lastore, 1)) (hp : pc + 1 = pc')
    (k : ∀ T' h', S kc ks T' h' → Wr h h' (w + 1 + i * (M + 1) + 1 + q) r (.long x) → Cube Z h' w N M K (upd f i q r x) → F T' (mkF m pc' L rest)) : F T (mkF m pc L (.long x :: .int (Int32.ofNat r) :: .ref (w + 1 + i * (M + 1) + 1 + q) :: rest)) := by
  have D0 := D
  obtain ⟨-, -, ⟨cD, d3⟩⟩ := D
  refine E_lastore (i := r) cx st (d3 i q hi hq) (idx_nat hr hK) (ofNat_clamp (by omega)) (by simp; exact hr) (by show (n0 : Nat) ≤ w + 1 + i * (M + 1) + 1 + q; have : (n0 : Nat) ≤ w := g; omega) hd hp ?_
  intro T' h' st' W _
  exact k T' h' st' W (D0.set hi hq hr hK W)
theorem Cube.lt {w : Addr} {N M K : Nat} {f : Nat → Nat → Nat → Int64} (D : Cube Z h w N M K f) : (w : Nat) < h.size := by obtain ⟨⟨_, d⟩, -⟩ := D; exact d.lt
theorem Cube.ofNew {w : Addr} {N M K : Nat} {cA cB cD : ClassId} (d1 : Arv Z h w cA (.array (.array .long)) (Int32.ofNat N) ((List.range N).map fun i => .ref (w + 1 + i * (M + 1))) .null)
    (d2 : ∀ i, i < N → Arv Z h (w + 1 + i * (M + 1)) cB (.array .long) (Int32.ofNat M) ((List.range M).map fun q => .ref (w + 1 + i * (M + 1) + 1 + q)) .null) (d3 : ∀ i q, i < N → q < M → Arv Z h (w + 1 + i * (M + 1) + 1 + q) cD .long (Int32.ofNat K) [] (.long 0)) : Cube Z h w N M K (fun _ _ _ => 0) :=
  ⟨⟨cA, d1⟩, ⟨cB, d2⟩, ⟨cD, fun i q hi hq => (d3 i q hi hq).pad fun t => by
    simp only [List.getD_eq_getElem?_getD, List.getElem?_map]
    cases (List.range K)[t]? <;> rfl⟩⟩
end OwnCube2

theorem d3_0 : decode jdk_35_method_50_code 0 = .ok (.lload_n 0, 1) := by decide +kernel
theorem d3_1 : decode jdk_35_method_50_code 1 = .ok (.lload_n 0, 1) := by decide +kernel
theorem d3_2 : decode jdk_35_method_50_code 2 = .ok (.iconst 1, 1) := by decide +kernel
theorem d3_3 : decode jdk_35_method_50_code 3 = .ok (.lushr, 1) := by decide +kernel
theorem d3_4 : decode jdk_35_method_50_code 4 = .ok (.ldc2_w 314, 3) := by decide +kernel
theorem d3_7 : decode jdk_35_method_50_code 7 = .ok (.land, 1) := by decide +kernel
theorem d3_8 : decode jdk_35_method_50_code 8 = .ok (.lsub, 1) := by decide +kernel
theorem d3_9 : decode jdk_35_method_50_code 9 = .ok (.lstore_n 0, 1) := by decide +kernel
theorem d3_10 : decode jdk_35_method_50_code 10 = .ok (.lload_n 0, 1) := by decide +kernel
theorem d3_11 : decode jdk_35_method_50_code 11 = .ok (.ldc2_w 316, 3) := by decide +kernel
theorem d3_14 : decode jdk_35_method_50_code 14 = .ok (.land, 1) := by decide +kernel
theorem d3_15 : decode jdk_35_method_50_code 15 = .ok (.lload_n 0, 1) := by decide +kernel
theorem d3_16 : decode jdk_35_method_50_code 16 = .ok (.iconst 2, 1) := by decide +kernel
theorem d3_17 : decode jdk_35_method_50_code 17 = .ok (.lushr, 1) := by decide +kernel
theorem d3_18 : decode jdk_35_method_50_code 18 = .ok (.ldc2_w 316, 3) := by decide +kernel
theorem d3_21 : decode jdk_35_method_50_code 21 = .ok (.land, 1) := by decide +kernel
theorem d3_22 : decode jdk_35_method_50_code 22 = .ok (.ladd, 1) := by decide +kernel
theorem d3_23 : decode jdk_35_method_50_code 23 = .ok (.lstore_n 0, 1) := by decide +kernel
theorem d3_24 : decode jdk_35_method_50_code 24 = .ok (.lload_n 0, 1) := by decide +kernel
theorem d3_25 : decode jdk_35_method_50_code 25 = .ok (.lload_n 0, 1) := by decide +kernel
theorem d3_26 : decode jdk_35_method_50_code 26 = .ok (.iconst 4, 1) := by decide +kernel
theorem d3_27 : decode jdk_35_method_50_code 27 = .ok (.lushr, 1) := by decide +kernel
theorem d3_28 : decode jdk_35_method_50_code 28 = .ok (.ladd, 1) := by decide +kernel
theorem d3_29 : decode jdk_35_method_50_code 29 = .ok (.ldc2_w 318, 3) := by decide +kernel
theorem d3_32 : decode jdk_35_method_50_code 32 = .ok (.land, 1) := by decide +kernel
theorem d3_33 : decode jdk_35_method_50_code 33 = .ok (.lstore_n 0, 1) := by decide +kernel
theorem d3_34 : decode jdk_35_method_50_code 34 = .ok (.lload_n 0, 1) := by decide +kernel
theorem d3_35 : decode jdk_35_method_50_code 35 = .ok (.lload_n 0, 1) := by decide +kernel
theorem d3_36 : decode jdk_35_method_50_code 36 = .ok (.bipush 8, 2) := by decide +kernel
theorem d3_38 : decode jdk_35_method_50_code 38 = .ok (.lushr, 1) := by decide +kernel
theorem d3_39 : decode jdk_35_method_50_code 39 = .ok (.ladd, 1) := by decide +kernel
theorem d3_40 : decode jdk_35_method_50_code 40 = .ok (.lstore_n 0, 1) := by decide +kernel
theorem d3_41 : decode jdk_35_method_50_code 41 = .ok (.lload_n 0, 1) := by decide +kernel
theorem d3_42 : decode jdk_35_method_50_code 42 = .ok (.lload_n 0, 1) := by decide +kernel
theorem d3_43 : decode jdk_35_method_50_code 43 = .ok (.bipush 16, 2) := by decide +kernel
theorem d3_45 : decode jdk_35_method_50_code 45 = .ok (.lushr, 1) := by decide +kernel
theorem d3_46 : decode jdk_35_method_50_code 46 = .ok (.ladd, 1) := by decide +kernel
theorem d3_47 : decode jdk_35_method_50_code 47 = .ok (.lstore_n 0, 1) := by decide +kernel
theorem d3_48 : decode jdk_35_method_50_code 48 = .ok (.lload_n 0, 1) := by decide +kernel
theorem d3_49 : decode jdk_35_method_50_code 49 = .ok (.lload_n 0, 1) := by decide +kernel
theorem d3_50 : decode jdk_35_method_50_code 50 = .ok (.bipush 32, 2) := by decide +kernel
theorem d3_52 : decode jdk_35_method_50_code 52 = .ok (.lushr, 1) := by decide +kernel
theorem d3_53 : decode jdk_35_method_50_code 53 = .ok (.ladd, 1) := by decide +kernel
theorem d3_54 : decode jdk_35_method_50_code 54 = .ok (.lstore_n 0, 1) := by decide +kernel
theorem d3_55 : decode jdk_35_method_50_code 55 = .ok (.lload_n 0, 1) := by decide +kernel
theorem d3_56 : decode jdk_35_method_50_code 56 = .ok (.l2i, 1) := by decide +kernel
theorem d3_57 : decode jdk_35_method_50_code 57 = .ok (.bipush 127, 2) := by decide +kernel
theorem d3_59 : decode jdk_35_method_50_code 59 = .ok (.iand, 1) := by decide +kernel
theorem d3_60 : decode jdk_35_method_50_code 60 = .ok (.ireturn, 1) := by decide +kernel
theorem pn_0 : plainName "java/lang/Long" = true := by first | (simp [plainName, overriddenIn]; done) | decide +kernel
theorem ef_3 (m : MethodId) (x0 : Int64) : entryFrame m #[(.long x0)] 2 = mkF m 0 #[.val (.long x0), .second] [] := by first | (simp [entryFrame, mkF, argsToLocals, Value.category]; done) | rfl
def bcF (x : Int64) : Int32 := let u1 := (x - (((x.toUInt64 >>> ((1 : Int32) &&& 0x3f).toInt64.toUInt64).toInt64) &&& (6148914691236517205 : Int64))); let u2 := ((u1 &&& (3689348814741910323 : Int64)) + (((u1.toUInt64 >>> ((2 : Int32) &&& 0x3f).toInt64.toUInt64).toInt64) &&& (3689348814741910323 : Int64))); let u3 := ((u2 + ((u2.toUInt64 >>> ((4 : Int32) &&& 0x3f).toInt64.toUInt64).toInt64)) &&& (1085102592571150095 : Int64)); let u4 := (u3 + ((u3.toUInt64 >>> ((8 : Int32) &&& 0x3f).toInt64.toUInt64).toInt64)); let u5 := (u4 + ((u4.toUInt64 >>> ((16 : Int32) &&& 0x3f).toInt64.toUInt64).toInt64)); let u6 := (u5 + ((u5.toUInt64 >>> ((32 : Int32) &&& 0x3f).toInt64.toUInt64).toInt64)); ((u6.toInt32) &&& (127 : Int32))
set_option maxRecDepth 65536 in
set_option maxHeartbeats 40000000 in
theorem rm3 (l : Launch) (Z : State) (a0 : Array Value) (hw : ∀ d ∈ tables_1, d.before a0 Z = true) (x : Int64) (h0 : Heap) (n0 : Nat) (Z0 : n0 ≤ h0.size) :
    Con l Z (⟨"java/lang/Long", "bitCount", "(J)I"⟩ : MethodName) jdk_35_method_50_code 2 (some .int) ({ frames := 0, cells := 0, slots := 0, locals := 0 } : Room) #[(.long x)] h0 n0 (fun v h => v = some (.int (bcF x)) ∧ h = h0) := by
  refine Con.of (own := "java/lang/Long") (name := "bitCount") (plainFor_of_name pn_0) (fun m => ef_3 m x) rfl rfl ?_
  intro p e s m below meth c T F S cx st
  refine E_lloadN (pc' := 1) cx st d3_0 rfl rfl ?_
  refine E_lloadN (pc' := 2) cx st d3_1 rfl rfl ?_
  refine E_iconst (pc' := 3) cx st (1 : Int32) d3_2 rfl rfl ?_
  refine E_lushr (pc' := 4) cx st d3_3 rfl ?_
  refine E_ldc2_w (pc' := 7) (v := (6148914691236517205 : Int64)) cx st (hw _ (List.mem_of_getElem? (i := 16) rfl)) d3_4 rfl ?_
  refine E_land (pc' := 8) cx st d3_7 rfl ?_
  refine E_lsub (pc' := 9) cx st d3_8 rfl ?_
  generalize hu1 : (x - (((x.toUInt64 >>> ((1 : Int32) &&& 0x3f).toInt64.toUInt64).toInt64) &&& (6148914691236517205 : Int64))) = u1
  refine E_lstoreN (pc' := 10) (L' := #[.val (.long u1), .second]) cx st d3_9 rfl rfl ?_
  refine E_lloadN (pc' := 11) cx st d3_10 rfl rfl ?_
  refine E_ldc2_w (pc' := 14) (v := (3689348814741910323 : Int64)) cx st (hw _ (List.mem_of_getElem? (i := 17) rfl)) d3_11 rfl ?_
  refine E_land (pc' := 15) cx st d3_14 rfl ?_
  refine E_lloadN (pc' := 16) cx st d3_15 rfl rfl ?_
  refine E_iconst (pc' := 17) cx st (2 : Int32) d3_16 rfl rfl ?_
  refine E_lushr (pc' := 18) cx st d3_17 rfl ?_
  refine E_ldc2_w (pc' := 21) (v := (3689348814741910323 : Int64)) cx st (hw _ (List.mem_of_getElem? (i := 17) rfl)) d3_18 rfl ?_
  refine E_land (pc' := 22) cx st d3_21 rfl ?_
  refine E_ladd (pc' := 23) cx st d3_22 rfl ?_
  generalize hu2 : ((u1 &&& (3689348814741910323 : Int64)) + (((u1.toUInt64 >>> ((2 : Int32) &&& 0x3f).toInt64.toUInt64).toInt64) &&& (3689348814741910323 : Int64))) = u2
  refine E_lstoreN (pc' := 24) (L' := #[.val (.long u2), .second]) cx st d3_23 rfl rfl ?_
  refine E_lloadN (pc' := 25) cx st d3_24 rfl rfl ?_
  refine E_lloadN (pc' := 26) cx st d3_25 rfl rfl ?_
  refine E_iconst (pc' := 27) cx st (4 : Int32) d3_26 rfl rfl ?_
  refine E_lushr (pc' := 28) cx st d3_27 rfl ?_
  refine E_ladd (pc' := 29) cx st d3_28 rfl ?_
  refine E_ldc2_w (pc' := 32) (v := (1085102592571150095 : Int64)) cx st (hw _ (List.mem_of_getElem? (i := 18) rfl)) d3_29 rfl ?_
  refine E_land (pc' := 33) cx st d3_32 rfl ?_
  generalize hu3 : ((u2 + ((u2.toUInt64 >>> ((4 : Int32) &&& 0x3f).toInt64.toUInt64).toInt64)) &&& (1085102592571150095 : Int64)) = u3
  refine E_lstoreN (pc' := 34) (L' := #[.val (.long u3), .second]) cx st d3_33 rfl rfl ?_
  refine E_lloadN (pc' := 35) cx st d3_34 rfl rfl ?_
  refine E_lloadN (pc' := 36) cx st d3_35 rfl rfl ?_
  refine E_bipush (pc' := 38) cx st (8 : Int32) d3_36 rfl rfl ?_
  refine E_lushr (pc' := 39) cx st d3_38 rfl ?_
  refine E_ladd (pc' := 40) cx st d3_39 rfl ?_
  generalize hu4 : (u3 + ((u3.toUInt64 >>> ((8 : Int32) &&& 0x3f).toInt64.toUInt64).toInt64)) = u4
  refine E_lstoreN (pc' := 41) (L' := #[.val (.long u4), .second]) cx st d3_40 rfl rfl ?_
  refine E_lloadN (pc' := 42) cx st d3_41 rfl rfl ?_
  refine E_lloadN (pc' := 43) cx st d3_42 rfl rfl ?_
  refine E_bipush (pc' := 45) cx st (16 : Int32) d3_43 rfl rfl ?_
  refine E_lushr (pc' := 46) cx st d3_45 rfl ?_
  refine E_ladd (pc' := 47) cx st d3_46 rfl ?_
  generalize hu5 : (u4 + ((u4.toUInt64 >>> ((16 : Int32) &&& 0x3f).toInt64.toUInt64).toInt64)) = u5
  refine E_lstoreN (pc' := 48) (L' := #[.val (.long u5), .second]) cx st d3_47 rfl rfl ?_
  refine E_lloadN (pc' := 49) cx st d3_48 rfl rfl ?_
  refine E_lloadN (pc' := 50) cx st d3_49 rfl rfl ?_
  refine E_bipush (pc' := 52) cx st (32 : Int32) d3_50 rfl rfl ?_
  refine E_lushr (pc' := 53) cx st d3_52 rfl ?_
  refine E_ladd (pc' := 54) cx st d3_53 rfl ?_
  generalize hu6 : (u5 + ((u5.toUInt64 >>> ((32 : Int32) &&& 0x3f).toInt64.toUInt64).toInt64)) = u6
  refine E_lstoreN (pc' := 55) (L' := #[.val (.long u6), .second]) cx st d3_54 rfl rfl ?_
  refine E_lloadN (pc' := 56) cx st d3_55 rfl rfl ?_
  refine E_l2i (pc' := 57) cx st d3_56 rfl ?_
  refine E_bipush (pc' := 59) cx st (127 : Int32) d3_57 rfl rfl ?_
  refine E_iand (pc' := 60) cx st d3_59 rfl ?_
  refine E_ireturn (t := .int) cx st d3_60 rfl (by simp) rfl (by decide) (by decide) ?_
  exact ⟨by subst hu1 hu2 hu3 hu4 hu5 hu6; rfl, rfl⟩
theorem d12_0 : decode jdk_33_method_48_code 0 = .ok (.iload_n 0, 1) := by decide +kernel
theorem d12_1 : decode jdk_33_method_48_code 1 = .ok (.iconst (-1), 1) := by decide +kernel
theorem d12_2 : decode jdk_33_method_48_code 2 = .ok (.ixor, 1) := by decide +kernel
theorem d12_3 : decode jdk_33_method_48_code 3 = .ok (.iload_n 0, 1) := by decide +kernel
theorem d12_4 : decode jdk_33_method_48_code 4 = .ok (.iconst 1, 1) := by decide +kernel
theorem d12_5 : decode jdk_33_method_48_code 5 = .ok (.isub, 1) := by decide +kernel
theorem d12_6 : decode jdk_33_method_48_code 6 = .ok (.iand, 1) := by decide +kernel
theorem d12_7 : decode jdk_33_method_48_code 7 = .ok (.istore_n 0, 1) := by decide +kernel
theorem d12_8 : decode jdk_33_method_48_code 8 = .ok (.iload_n 0, 1) := by decide +kernel
theorem d12_9 : decode jdk_33_method_48_code 9 = .ok (.ifCond .gt 8, 3) := by decide +kernel
theorem d12_12 : decode jdk_33_method_48_code 12 = .ok (.iload_n 0, 1) := by decide +kernel
theorem d12_13 : decode jdk_33_method_48_code 13 = .ok (.bipush 32, 2) := by decide +kernel
theorem d12_15 : decode jdk_33_method_48_code 15 = .ok (.iand, 1) := by decide +kernel
theorem d12_16 : decode jdk_33_method_48_code 16 = .ok (.ireturn, 1) := by decide +kernel
theorem d12_17 : decode jdk_33_method_48_code 17 = .ok (.iconst 1, 1) := by decide +kernel
theorem d12_18 : decode jdk_33_method_48_code 18 = .ok (.istore_n 1, 1) := by decide +kernel
theorem d12_19 : decode jdk_33_method_48_code 19 = .ok (.iload_n 0, 1) := by decide +kernel
theorem d12_20 : decode jdk_33_method_48_code 20 = .ok (.ldc_w 264, 3) := by decide +kernel
theorem d12_23 : decode jdk_33_method_48_code 23 = .ok (.if_icmp .le 11, 3) := by decide +kernel
theorem d12_26 : decode jdk_33_method_48_code 26 = .ok (.iinc 1 16, 3) := by decide +kernel
theorem d12_29 : decode jdk_33_method_48_code 29 = .ok (.iload_n 0, 1) := by decide +kernel
theorem d12_30 : decode jdk_33_method_48_code 30 = .ok (.bipush 16, 2) := by decide +kernel
theorem d12_32 : decode jdk_33_method_48_code 32 = .ok (.iushr, 1) := by decide +kernel
theorem d12_33 : decode jdk_33_method_48_code 33 = .ok (.istore_n 0, 1) := by decide +kernel
theorem d12_34 : decode jdk_33_method_48_code 34 = .ok (.iload_n 0, 1) := by decide +kernel
theorem d12_35 : decode jdk_33_method_48_code 35 = .ok (.sipush 256, 3) := by decide +kernel
theorem d12_38 : decode jdk_33_method_48_code 38 = .ok (.if_icmp .le 11, 3) := by decide +kernel
theorem d12_41 : decode jdk_33_method_48_code 41 = .ok (.iinc 1 8, 3) := by decide +kernel
theorem d12_44 : decode jdk_33_method_48_code 44 = .ok (.iload_n 0, 1) := by decide +kernel
theorem d12_45 : decode jdk_33_method_48_code 45 = .ok (.bipush 8, 2) := by decide +kernel
theorem d12_47 : decode jdk_33_method_48_code 47 = .ok (.iushr, 1) := by decide +kernel
theorem d12_48 : decode jdk_33_method_48_code 48 = .ok (.istore_n 0, 1) := by decide +kernel
theorem d12_49 : decode jdk_33_method_48_code 49 = .ok (.iload_n 0, 1) := by decide +kernel
theorem d12_50 : decode jdk_33_method_48_code 50 = .ok (.bipush 16, 2) := by decide +kernel
theorem d12_52 : decode jdk_33_method_48_code 52 = .ok (.if_icmp .le 10, 3) := by decide +kernel
theorem d12_55 : decode jdk_33_method_48_code 55 = .ok (.iinc 1 4, 3) := by decide +kernel
theorem d12_58 : decode jdk_33_method_48_code 58 = .ok (.iload_n 0, 1) := by decide +kernel
theorem d12_59 : decode jdk_33_method_48_code 59 = .ok (.iconst 4, 1) := by decide +kernel
theorem d12_60 : decode jdk_33_method_48_code 60 = .ok (.iushr, 1) := by decide +kernel
theorem d12_61 : decode jdk_33_method_48_code 61 = .ok (.istore_n 0, 1) := by decide +kernel
theorem d12_62 : decode jdk_33_method_48_code 62 = .ok (.iload_n 0, 1) := by decide +kernel
theorem d12_63 : decode jdk_33_method_48_code 63 = .ok (.iconst 4, 1) := by decide +kernel
theorem d12_64 : decode jdk_33_method_48_code 64 = .ok (.if_icmp .le 10, 3) := by decide +kernel
theorem d12_67 : decode jdk_33_method_48_code 67 = .ok (.iinc 1 2, 3) := by decide +kernel
theorem d12_70 : decode jdk_33_method_48_code 70 = .ok (.iload_n 0, 1) := by decide +kernel
theorem d12_71 : decode jdk_33_method_48_code 71 = .ok (.iconst 2, 1) := by decide +kernel
theorem d12_72 : decode jdk_33_method_48_code 72 = .ok (.iushr, 1) := by decide +kernel
theorem d12_73 : decode jdk_33_method_48_code 73 = .ok (.istore_n 0, 1) := by decide +kernel
theorem d12_74 : decode jdk_33_method_48_code 74 = .ok (.iload_n 1, 1) := by decide +kernel
theorem d12_75 : decode jdk_33_method_48_code 75 = .ok (.iload_n 0, 1) := by decide +kernel
theorem d12_76 : decode jdk_33_method_48_code 76 = .ok (.iconst 1, 1) := by decide +kernel
theorem d12_77 : decode jdk_33_method_48_code 77 = .ok (.iushr, 1) := by decide +kernel
theorem d12_78 : decode jdk_33_method_48_code 78 = .ok (.iadd, 1) := by decide +kernel
theorem d12_79 : decode jdk_33_method_48_code 79 = .ok (.ireturn, 1) := by decide +kernel
theorem pn_1 : plainName "java/lang/Integer" = true := by first | (simp [plainName, overriddenIn]; done) | decide +kernel
theorem ef_12 (m : MethodId) (x0 : Int32) : entryFrame m #[(.int x0)] 2 = mkF m 0 #[.val (.int x0), .unset] [] := by first | (simp [entryFrame, mkF, argsToLocals, Value.category]; done) | rfl
def ntI (i : Int32) : Int32 := (if (0 : Int32) < ((i ^^^ (-1 : Int32)) &&& (i - (1 : Int32))) then (if (65536 : Int32) < ((i ^^^ (-1 : Int32)) &&& (i - (1 : Int32))) then (if (256 : Int32) < ((((i ^^^ (-1 : Int32)) &&& (i - (1 : Int32))).toUInt32 >>> ((16 : Int32) &&& 31).toUInt32).toInt32) then (if (16 : Int32) < ((((((i ^^^ (-1 : Int32)) &&& (i - (1 : Int32))).toUInt32 >>> ((16 : Int32) &&& 31).toUInt32).toInt32).toUInt32 >>> ((8 : Int32) &&& 31).toUInt32).toInt32) then (if (4 : Int32) < ((((((((i ^^^ (-1 : Int32)) &&& (i - (1 : Int32))).toUInt32 >>> ((16 : Int32) &&& 31).toUInt32).toInt32).toUInt32 >>> ((8 : Int32) &&& 31).toUInt32).toInt32).toUInt32 >>> ((4 : Int32) &&& 31).toUInt32).toInt32) then ((31 : Int32) + ((((((((((((i ^^^ (-1 : Int32)) &&& (i - (1 : Int32))).toUInt32 >>> ((16 : Int32) &&& 31).toUInt32).toInt32).toUInt32 >>> ((8 : Int32) &&& 31).toUInt32).toInt32).toUInt32 >>> ((4 : Int32) &&& 31).toUInt32).toInt32).toUInt32 >>> ((2 : Int32) &&& 31).toUInt32).toInt32).toUInt32 >>> ((1 : Int32) &&& 31).toUInt32).toInt32)) else ((29 : Int32) + ((((((((((i ^^^ (-1 : Int32)) &&& (i - (1 : Int32))).toUInt32 >>> ((16 : Int32) &&& 31).toUInt32).toInt32).toUInt32 >>> ((8 : Int32) &&& 31).toUInt32).toInt32).toUInt32 >>> ((4 : Int32) &&& 31).toUInt32).toInt32).toUInt32 >>> ((1 : Int32) &&& 31).toUInt32).toInt32))) else (if (4 : Int32) < ((((((i ^^^ (-1 : Int32)) &&& (i - (1 : Int32))).toUInt32 >>> ((16 : Int32) &&& 31).toUInt32).toInt32).toUInt32 >>> ((8 : Int32) &&& 31).toUInt32).toInt32) then ((27 : Int32) + ((((((((((i ^^^ (-1 : Int32)) &&& (i - (1 : Int32))).toUInt32 >>> ((16 : Int32) &&& 31).toUInt32).toInt32).toUInt32 >>> ((8 : Int32) &&& 31).toUInt32).toInt32).toUInt32 >>> ((2 : Int32) &&& 31).toUInt32).toInt32).toUInt32 >>> ((1 : Int32) &&& 31).toUInt32).toInt32)) else ((25 : Int32) + ((((((((i ^^^ (-1 : Int32)) &&& (i - (1 : Int32))).toUInt32 >>> ((16 : Int32) &&& 31).toUInt32).toInt32).toUInt32 >>> ((8 : Int32) &&& 31).toUInt32).toInt32).toUInt32 >>> ((1 : Int32) &&& 31).toUInt32).toInt32)))) else (if (16 : Int32) < ((((i ^^^ (-1 : Int32)) &&& (i - (1 : Int32))).toUInt32 >>> ((16 : Int32) &&& 31).toUInt32).toInt32) then (if (4 : Int32) < ((((((i ^^^ (-1 : Int32)) &&& (i - (1 : Int32))).toUInt32 >>> ((16 : Int32) &&& 31).toUInt32).toInt32).toUInt32 >>> ((4 : Int32) &&& 31).toUInt32).toInt32) then ((23 : Int32) + ((((((((((i ^^^ (-1 : Int32)) &&& (i - (1 : Int32))).toUInt32 >>> ((16 : Int32) &&& 31).toUInt32).toInt32).toUInt32 >>> ((4 : Int32) &&& 31).toUInt32).toInt32).toUInt32 >>> ((2 : Int32) &&& 31).toUInt32).toInt32).toUInt32 >>> ((1 : Int32) &&& 31).toUInt32).toInt32)) else ((21 : Int32) + ((((((((i ^^^ (-1 : Int32)) &&& (i - (1 : Int32))).toUInt32 >>> ((16 : Int32) &&& 31).toUInt32).toInt32).toUInt32 >>> ((4 : Int32) &&& 31).toUInt32).toInt32).toUInt32 >>> ((1 : Int32) &&& 31).toUInt32).toInt32))) else (if (4 : Int32) < ((((i ^^^ (-1 : Int32)) &&& (i - (1 : Int32))).toUInt32 >>> ((16 : Int32) &&& 31).toUInt32).toInt32) then ((19 : Int32) + ((((((((i ^^^ (-1 : Int32)) &&& (i - (1 : Int32))).toUInt32 >>> ((16 : Int32) &&& 31).toUInt32).toInt32).toUInt32 >>> ((2 : Int32) &&& 31).toUInt32).toInt32).toUInt32 >>> ((1 : Int32) &&& 31).toUInt32).toInt32)) else ((17 : Int32) + ((((((i ^^^ (-1 : Int32)) &&& (i - (1 : Int32))).toUInt32 >>> ((16 : Int32) &&& 31).toUInt32).toInt32).toUInt32 >>> ((1 : Int32) &&& 31).toUInt32).toInt32))))) else (if (256 : Int32) < ((i ^^^ (-1 : Int32)) &&& (i - (1 : Int32))) then (if (16 : Int32) < ((((i ^^^ (-1 : Int32)) &&& (i - (1 : Int32))).toUInt32 >>> ((8 : Int32) &&& 31).toUInt32).toInt32) then (if (4 : Int32) < ((((((i ^^^ (-1 : Int32)) &&& (i - (1 : Int32))).toUInt32 >>> ((8 : Int32) &&& 31).toUInt32).toInt32).toUInt32 >>> ((4 : Int32) &&& 31).toUInt32).toInt32) then ((15 : Int32) + ((((((((((i ^^^ (-1 : Int32)) &&& (i - (1 : Int32))).toUInt32 >>> ((8 : Int32) &&& 31).toUInt32).toInt32).toUInt32 >>> ((4 : Int32) &&& 31).toUInt32).toInt32).toUInt32 >>> ((2 : Int32) &&& 31).toUInt32).toInt32).toUInt32 >>> ((1 : Int32) &&& 31).toUInt32).toInt32)) else ((13 : Int32) + ((((((((i ^^^ (-1 : Int32)) &&& (i - (1 : Int32))).toUInt32 >>> ((8 : Int32) &&& 31).toUInt32).toInt32).toUInt32 >>> ((4 : Int32) &&& 31).toUInt32).toInt32).toUInt32 >>> ((1 : Int32) &&& 31).toUInt32).toInt32))) else (if (4 : Int32) < ((((i ^^^ (-1 : Int32)) &&& (i - (1 : Int32))).toUInt32 >>> ((8 : Int32) &&& 31).toUInt32).toInt32) then ((11 : Int32) + ((((((((i ^^^ (-1 : Int32)) &&& (i - (1 : Int32))).toUInt32 >>> ((8 : Int32) &&& 31).toUInt32).toInt32).toUInt32 >>> ((2 : Int32) &&& 31).toUInt32).toInt32).toUInt32 >>> ((1 : Int32) &&& 31).toUInt32).toInt32)) else ((9 : Int32) + ((((((i ^^^ (-1 : Int32)) &&& (i - (1 : Int32))).toUInt32 >>> ((8 : Int32) &&& 31).toUInt32).toInt32).toUInt32 >>> ((1 : Int32) &&& 31).toUInt32).toInt32)))) else (if (16 : Int32) < ((i ^^^ (-1 : Int32)) &&& (i - (1 : Int32))) then (if (4 : Int32) < ((((i ^^^ (-1 : Int32)) &&& (i - (1 : Int32))).toUInt32 >>> ((4 : Int32) &&& 31).toUInt32).toInt32) then ((7 : Int32) + ((((((((i ^^^ (-1 : Int32)) &&& (i - (1 : Int32))).toUInt32 >>> ((4 : Int32) &&& 31).toUInt32).toInt32).toUInt32 >>> ((2 : Int32) &&& 31).toUInt32).toInt32).toUInt32 >>> ((1 : Int32) &&& 31).toUInt32).toInt32)) else ((5 : Int32) + ((((((i ^^^ (-1 : Int32)) &&& (i - (1 : Int32))).toUInt32 >>> ((4 : Int32) &&& 31).toUInt32).toInt32).toUInt32 >>> ((1 : Int32) &&& 31).toUInt32).toInt32))) else (if (4 : Int32) < ((i ^^^ (-1 : Int32)) &&& (i - (1 : Int32))) then ((3 : Int32) + ((((((i ^^^ (-1 : Int32)) &&& (i - (1 : Int32))).toUInt32 >>> ((2 : Int32) &&& 31).toUInt32).toInt32).toUInt32 >>> ((1 : Int32) &&& 31).toUInt32).toInt32)) else ((1 : Int32) + ((((i ^^^ (-1 : Int32)) &&& (i - (1 : Int32))).toUInt32 >>> ((1 : Int32) &&& 31).toUInt32).toInt32)))))) else (((i ^^^ (-1 : Int32)) &&& (i - (1 : Int32))) &&& (32 : Int32)))
set_option maxRecDepth 65536 in
set_option maxHeartbeats 40000000 in
theorem rm12 (l : Launch) (Z : State) (a0 : Array Value) (hw : ∀ d ∈ tables_1, d.before a0 Z = true) (i : Int32) (h0 : Heap) (n0 : Nat) (Z0 : n0 ≤ h0.size) :
    Con l Z (⟨"java/lang/Integer", "numberOfTrailingZeros", "(I)I"⟩ : MethodName) jdk_33_method_48_code 2 (some .int) ({ frames := 0, cells := 0, slots := 0, locals := 0 } : Room) #[(.int i)] h0 n0 (fun v h => v = some (.int (ntI i)) ∧ h = h0) := by
  refine Con.of (own := "java/lang/Integer") (name := "numberOfTrailingZeros") (plainFor_of_name pn_1) (fun m => ef_12 m i) rfl rfl ?_
  intro p e s m below meth c T F S cx st
  refine E_iloadN (pc' := 1) cx st d12_0 rfl rfl ?_
  refine E_iconst (pc' := 2) cx st (-1 : Int32) d12_1 rfl rfl ?_
  refine E_ixor (pc' := 3) cx st d12_2 rfl ?_
  refine E_iloadN (pc' := 4) cx st d12_3 rfl rfl ?_
  refine E_iconst (pc' := 5) cx st (1 : Int32) d12_4 rfl rfl ?_
  refine E_isub (pc' := 6) cx st d12_5 rfl ?_
  refine E_iand (pc' := 7) cx st d12_6 rfl ?_
  refine E_istoreN (pc' := 8) (L' := #[.val (.int ((i ^^^ (-1 : Int32)) &&& (i - (1 : Int32)))), .unset]) cx st d12_7 rfl rfl ?_
  refine E_iloadN (pc' := 9) cx st d12_8 rfl rfl ?_
  by_cases c1 : (0 : Int32) < ((i ^^^ (-1 : Int32)) &&& (i - (1 : Int32)))
  · refine E_if_gtY (pc' := 17) cx st d12_9 (by decide) (by decide) c1 ?_
    refine E_iconst (pc' := 18) cx st (1 : Int32) d12_17 rfl rfl ?_
    refine E_istoreN (pc' := 19) (L' := #[.val (.int ((i ^^^ (-1 : Int32)) &&& (i - (1 : Int32)))), .val (.int (1 : Int32))]) cx st d12_18 rfl rfl ?_
    refine E_iloadN (pc' := 20) cx st d12_19 rfl rfl ?_
    refine E_ldc_w (pc' := 23) (v := (65536 : Int32)) cx st (hw _ (List.mem_of_getElem? (i := 76) rfl)) d12_20 rfl ?_
    by_cases c2 : (65536 : Int32) < ((i ^^^ (-1 : Int32)) &&& (i - (1 : Int32)))
    · refine E_icmp_leN (pc' := 26) cx st d12_23 rfl c2 ?_
      refine E_iinc (pc' := 29) (L' := #[.val (.int ((i ^^^ (-1 : Int32)) &&& (i - (1 : Int32)))), .val (.int (17 : Int32))]) cx st (16 : Int32) d12_26 rfl rfl rfl rfl ?_
      refine E_iloadN (pc' := 30) cx st d12_29 rfl rfl ?_
      refine E_bipush (pc' := 32) cx st (16 : Int32) d12_30 rfl rfl ?_
      refine E_iushr (pc' := 33) cx st d12_32 rfl ?_
      refine E_istoreN (pc' := 34) (L' := #[.val (.int ((((i ^^^ (-1 : Int32)) &&& (i - (1 : Int32))).toUInt32 >>> ((16 : Int32) &&& 31).toUInt32).toInt32)), .val (.int (17 : Int32))]) cx st d12_33 rfl rfl ?_
      refine E_iloadN (pc' := 35) cx st d12_34 rfl rfl ?_
      refine E_sipush (pc' := 38) cx st (256 : Int32) d12_35 rfl rfl ?_
      by_cases c3 : (256 : Int32) < ((((i ^^^ (-1 : Int32)) &&& (i - (1 : Int32))).toUInt32 >>> ((16 : Int32) &&& 31).toUInt32).toInt32)
      · refine E_icmp_leN (pc' := 41) cx st d12_38 rfl c3 ?_
        refine E_iinc (pc' := 44) (L' := #[.val (.int ((((i ^^^ (-1 : Int32)) &&& (i - (1 : Int32))).toUInt32 >>> ((16 : Int32) &&& 31).toUInt32).toInt32)), .val (.int (25 : Int32))]) cx st (8 : Int32) d12_41 rfl rfl rfl rfl ?_
        refine E_iloadN (pc' := 45) cx st d12_44 rfl rfl ?_
        refine E_bipush (pc' := 47) cx st (8 : Int32) d12_45 rfl rfl ?_
        refine E_iushr (pc' := 48) cx st d12_47 rfl ?_
        refine E_istoreN (pc' := 49) (L' := #[.val (.int ((((((i ^^^ (-1 : Int32)) &&& (i - (1 : Int32))).toUInt32 >>> ((16 : Int32) &&& 31).toUInt32).toInt32).toUInt32 >>> ((8 : Int32) &&& 31).toUInt32).toInt32)), .val (.int (25 : Int32))]) cx st d12_48 rfl rfl ?_
        refine E_iloadN (pc' := 50) cx st d12_49 rfl rfl ?_
        refine E_bipush (pc' := 52) cx st (16 : Int32) d12_50 rfl rfl ?_
        by_cases c4 : (16 : Int32) < ((((((i ^^^ (-1 : Int32)) &&& (i - (1 : Int32))).toUInt32 >>> ((16 : Int32) &&& 31).toUInt32).toInt32).toUInt32 >>> ((8 : Int32) &&& 31).toUInt32).toInt32)
        · refine E_icmp_leN (pc' := 55) cx st d12_52 rfl c4 ?_
          refine E_iinc (pc' := 58) (L' := #[.val (.int ((((((i ^^^ (-1 : Int32)) &&& (i - (1 : Int32))).toUInt32 >>> ((16 : Int32) &&& 31).toUInt32).toInt32).toUInt32 >>> ((8 : Int32) &&& 31).toUInt32).toInt32)), .val (.int (29 : Int32))]) cx st (4 : Int32) d12_55 rfl rfl rfl rfl ?_
          refine E_iloadN (pc' := 59) cx st d12_58 rfl rfl ?_
          refine E_iconst (pc' := 60) cx st (4 : Int32) d12_59 rfl rfl ?_
          refine E_iushr (pc' := 61) cx st d12_60 rfl ?_
          refine E_istoreN (pc' := 62) (L' := #[.val (.int ((((((((i ^^^ (-1 : Int32)) &&& (i - (1 : Int32))).toUInt32 >>> ((16 : Int32) &&& 31).toUInt32).toInt32).toUInt32 >>> ((8 : Int32) &&& 31).toUInt32).toInt32).toUInt32 >>> ((4 : Int32) &&& 31).toUInt32).toInt32)), .val (.int (29 : Int32))]) cx st d12_61 rfl rfl ?_
          refine E_iloadN (pc' := 63) cx st d12_62 rfl rfl ?_
          refine E_iconst (pc' := 64) cx st (4 : Int32) d12_63 rfl rfl ?_
          by_cases c5 : (4 : Int32) < ((((((((i ^^^ (-1 : Int32)) &&& (i - (1 : Int32))).toUInt32 >>> ((16 : Int32) &&& 31).toUInt32).toInt32).toUInt32 >>> ((8 : Int32) &&& 31).toUInt32).toInt32).toUInt32 >>> ((4 : Int32) &&& 31).toUInt32).toInt32)
          · refine E_icmp_leN (pc' := 67) cx st d12_64 rfl c5 ?_
            refine E_iinc (pc' := 70) (L' := #[.val (.int ((((((((i ^^^ (-1 : Int32)) &&& (i - (1 : Int32))).toUInt32 >>> ((16 : Int32) &&& 31).toUInt32).toInt32).toUInt32 >>> ((8 : Int32) &&& 31).toUInt32).toInt32).toUInt32 >>> ((4 : Int32) &&& 31).toUInt32).toInt32)), .val (.int (31 : Int32))]) cx st (2 : Int32) d12_67 rfl rfl rfl rfl ?_
            refine E_iloadN (pc' := 71) cx st d12_70 rfl rfl ?_
            refine E_iconst (pc' := 72) cx st (2 : Int32) d12_71 rfl rfl ?_
            refine E_iushr (pc' := 73) cx st d12_72 rfl ?_
            refine E_istoreN (pc' := 74) (L' := #[.val (.int ((((((((((i ^^^ (-1 : Int32)) &&& (i - (1 : Int32))).toUInt32 >>> ((16 : Int32) &&& 31).toUInt32).toInt32).toUInt32 >>> ((8 : Int32) &&& 31).toUInt32).toInt32).toUInt32 >>> ((4 : Int32) &&& 31).toUInt32).toInt32).toUInt32 >>> ((2 : Int32) &&& 31).toUInt32).toInt32)), .val (.int (31 : Int32))]) cx st d12_73 rfl rfl ?_
            refine E_iloadN (pc' := 75) cx st d12_74 rfl rfl ?_
            refine E_iloadN (pc' := 76) cx st d12_75 rfl rfl ?_
            refine E_iconst (pc' := 77) cx st (1 : Int32) d12_76 rfl rfl ?_
            refine E_iushr (pc' := 78) cx st d12_77 rfl ?_
            refine E_iadd (pc' := 79) cx st d12_78 rfl ?_
            refine E_ireturn (t := .int) cx st d12_79 rfl (by simp) rfl (by decide) (by decide) ?_
            exact ⟨by unfold ntI; rw [if_pos c1, if_pos c2, if_pos c3, if_pos c4, if_pos c5], rfl⟩
          · refine E_icmp_leY (pc' := 74) cx st d12_64 (by decide) (by decide) c5 ?_
            refine E_iloadN (pc' := 75) cx st d12_74 rfl rfl ?_
            refine E_iloadN (pc' := 76) cx st d12_75 rfl rfl ?_
            refine E_iconst (pc' := 77) cx st (1 : Int32) d12_76 rfl rfl ?_
            refine E_iushr (pc' := 78) cx st d12_77 rfl ?_
            refine E_iadd (pc' := 79) cx st d12_78 rfl ?_
            refine E_ireturn (t := .int) cx st d12_79 rfl (by simp) rfl (by decide) (by decide) ?_
            exact ⟨by unfold ntI; rw [if_pos c1, if_pos c2, if_pos c3, if_pos c4, if_neg c5], rfl⟩
        · refine E_icmp_leY (pc' := 62) cx st d12_52 (by decide) (by decide) c4 ?_
          refine E_iloadN (pc' := 63) cx st d12_62 rfl rfl ?_
          refine E_iconst (pc' := 64) cx st (4 : Int32) d12_63 rfl rfl ?_
          by_cases c6 : (4 : Int32) < ((((((i ^^^ (-1 : Int32)) &&& (i - (1 : Int32))).toUInt32 >>> ((16 : Int32) &&& 31).toUInt32).toInt32).toUInt32 >>> ((8 : Int32) &&& 31).toUInt32).toInt32)
          · refine E_icmp_leN (pc' := 67) cx st d12_64 rfl c6 ?_
            refine E_iinc (pc' := 70) (L' := #[.val (.int ((((((i ^^^ (-1 : Int32)) &&& (i - (1 : Int32))).toUInt32 >>> ((16 : Int32) &&& 31).toUInt32).toInt32).toUInt32 >>> ((8 : Int32) &&& 31).toUInt32).toInt32)), .val (.int (27 : Int32))]) cx st (2 : Int32) d12_67 rfl rfl rfl rfl ?_
            refine E_iloadN (pc' := 71) cx st d12_70 rfl rfl ?_
            refine E_iconst (pc' := 72) cx st (2 : Int32) d12_71 rfl rfl ?_
            refine E_iushr (pc' := 73) cx st d12_72 rfl ?_
            refine E_istoreN (pc' := 74) (L' := #[.val (.int ((((((((i ^^^ (-1 : Int32)) &&& (i - (1 : Int32))).toUInt32 >>> ((16 : Int32) &&& 31).toUInt32).toInt32).toUInt32 >>> ((8 : Int32) &&& 31).toUInt32).toInt32).toUInt32 >>> ((2 : Int32) &&& 31).toUInt32).toInt32)), .val (.int (27 : Int32))]) cx st d12_73 rfl rfl ?_
            refine E_iloadN (pc' := 75) cx st d12_74 rfl rfl ?_
            refine E_iloadN (pc' := 76) cx st d12_75 rfl rfl ?_
            refine E_iconst (pc' := 77) cx st (1 : Int32) d12_76 rfl rfl ?_
            refine E_iushr (pc' := 78) cx st d12_77 rfl ?_
            refine E_iadd (pc' := 79) cx st d12_78 rfl ?_
            refine E_ireturn (t := .int) cx st d12_79 rfl (by simp) rfl (by decide) (by decide) ?_
            exact ⟨by unfold ntI; rw [if_pos c1, if_pos c2, if_pos c3, if_neg c4, if_pos c6], rfl⟩
          · refine E_icmp_leY (pc' := 74) cx st d12_64 (by decide) (by decide) c6 ?_
            refine E_iloadN (pc' := 75) cx st d12_74 rfl rfl ?_
            refine E_iloadN (pc' := 76) cx st d12_75 rfl rfl ?_
            refine E_iconst (pc' := 77) cx st (1 : Int32) d12_76 rfl rfl ?_
            refine E_iushr (pc' := 78) cx st d12_77 rfl ?_
            refine E_iadd (pc' := 79) cx st d12_78 rfl ?_
            refine E_ireturn (t := .int) cx st d12_79 rfl (by simp) rfl (by decide) (by decide) ?_
            exact ⟨by unfold ntI; rw [if_pos c1, if_pos c2, if_pos c3, if_neg c4, if_neg c6], rfl⟩
      · refine E_icmp_leY (pc' := 49) cx st d12_38 (by decide) (by decide) c3 ?_
        refine E_iloadN (pc' := 50) cx st d12_49 rfl rfl ?_
        refine E_bipush (pc' := 52) cx st (16 : Int32) d12_50 rfl rfl ?_
        by_cases c7 : (16 : Int32) < ((((i ^^^ (-1 : Int32)) &&& (i - (1 : Int32))).toUInt32 >>> ((16 : Int32) &&& 31).toUInt32).toInt32)
        · refine E_icmp_leN (pc' := 55) cx st d12_52 rfl c7 ?_
          refine E_iinc (pc' := 58) (L' := #[.val (.int ((((i ^^^ (-1 : Int32)) &&& (i - (1 : Int32))).toUInt32 >>> ((16 : Int32) &&& 31).toUInt32).toInt32)), .val (.int (21 : Int32))]) cx st (4 : Int32) d12_55 rfl rfl rfl rfl ?_
          refine E_iloadN (pc' := 59) cx st d12_58 rfl rfl ?_
          refine E_iconst (pc' := 60) cx st (4 : Int32) d12_59 rfl rfl ?_
          refine E_iushr (pc' := 61) cx st d12_60 rfl ?_
          refine E_istoreN (pc' := 62) (L' := #[.val (.int ((((((i ^^^ (-1 : Int32)) &&& (i - (1 : Int32))).toUInt32 >>> ((16 : Int32) &&& 31).toUInt32).toInt32).toUInt32 >>> ((4 : Int32) &&& 31).toUInt32).toInt32)), .val (.int (21 : Int32))]) cx st d12_61 rfl rfl ?_
          refine E_iloadN (pc' := 63) cx st d12_62 rfl rfl ?_
          refine E_iconst (pc' := 64) cx st (4 : Int32) d12_63 rfl rfl ?_
          by_cases c8 : (4 : Int32) < ((((((i ^^^ (-1 : Int32)) &&& (i - (1 : Int32))).toUInt32 >>> ((16 : Int32) &&& 31).toUInt32).toInt32).toUInt32 >>> ((4 : Int32) &&& 31).toUInt32).toInt32)
          · refine E_icmp_leN (pc' := 67) cx st d12_64 rfl c8 ?_
            refine E_iinc (pc' := 70) (L' := #[.val (.int ((((((i ^^^ (-1 : Int32)) &&& (i - (1 : Int32))).toUInt32 >>> ((16 : Int32) &&& 31).toUInt32).toInt32).toUInt32 >>> ((4 : Int32) &&& 31).toUInt32).toInt32)), .val (.int (23 : Int32))]) cx st (2 : Int32) d12_67 rfl rfl rfl rfl ?_
            refine E_iloadN (pc' := 71) cx st d12_70 rfl rfl ?_
            refine E_iconst (pc' := 72) cx st (2 : Int32) d12_71 rfl rfl ?_
            refine E_iushr (pc' := 73) cx st d12_72 rfl ?_
            refine E_istoreN (pc' := 74) (L' := #[.val (.int ((((((((i ^^^ (-1 : Int32)) &&& (i - (1 : Int32))).toUInt32 >>> ((16 : Int32) &&& 31).toUInt32).toInt32).toUInt32 >>> ((4 : Int32) &&& 31).toUInt32).toInt32).toUInt32 >>> ((2 : Int32) &&& 31).toUInt32).toInt32)), .val (.int (23 : Int32))]) cx st d12_73 rfl rfl ?_
            refine E_iloadN (pc' := 75) cx st d12_74 rfl rfl ?_
            refine E_iloadN (pc' := 76) cx st d12_75 rfl rfl ?_
            refine E_iconst (pc' := 77) cx st (1 : Int32) d12_76 rfl rfl ?_
            refine E_iushr (pc' := 78) cx st d12_77 rfl ?_
            refine E_iadd (pc' := 79) cx st d12_78 rfl ?_
            refine E_ireturn (t := .int) cx st d12_79 rfl (by simp) rfl (by decide) (by decide) ?_
            exact ⟨by unfold ntI; rw [if_pos c1, if_pos c2, if_neg c3, if_pos c7, if_pos c8], rfl⟩
          · refine E_icmp_leY (pc' := 74) cx st d12_64 (by decide) (by decide) c8 ?_
            refine E_iloadN (pc' := 75) cx st d12_74 rfl rfl ?_
            refine E_iloadN (pc' := 76) cx st d12_75 rfl rfl ?_
            refine E_iconst (pc' := 77) cx st (1 : Int32) d12_76 rfl rfl ?_
            refine E_iushr (pc' := 78) cx st d12_77 rfl ?_
            refine E_iadd (pc' := 79) cx st d12_78 rfl ?_
            refine E_ireturn (t := .int) cx st d12_79 rfl (by simp) rfl (by decide) (by decide) ?_
            exact ⟨by unfold ntI; rw [if_pos c1, if_pos c2, if_neg c3, if_pos c7, if_neg c8], rfl⟩
        · refine E_icmp_leY (pc' := 62) cx st d12_52 (by decide) (by decide) c7 ?_
          refine E_iloadN (pc' := 63) cx st d12_62 rfl rfl ?_
          refine E_iconst (pc' := 64) cx st (4 : Int32) d12_63 rfl rfl ?_
          by_cases c9 : (4 : Int32) < ((((i ^^^ (-1 : Int32)) &&& (i - (1 : Int32))).toUInt32 >>> ((16 : Int32) &&& 31).toUInt32).toInt32)
          · refine E_icmp_leN (pc' := 67) cx st d12_64 rfl c9 ?_
            refine E_iinc (pc' := 70) (L' := #[.val (.int ((((i ^^^ (-1 : Int32)) &&& (i - (1 : Int32))).toUInt32 >>> ((16 : Int32) &&& 31).toUInt32).toInt32)), .val (.int (19 : Int32))]) cx st (2 : Int32) d12_67 rfl rfl rfl rfl ?_
            refine E_iloadN (pc' := 71) cx st d12_70 rfl rfl ?_
            refine E_iconst (pc' := 72) cx st (2 : Int32) d12_71 rfl rfl ?_
            refine E_iushr (pc' := 73) cx st d12_72 rfl ?_
            refine E_istoreN (pc' := 74) (L' := #[.val (.int ((((((i ^^^ (-1 : Int32)) &&& (i - (1 : Int32))).toUInt32 >>> ((16 : Int32) &&& 31).toUInt32).toInt32).toUInt32 >>> ((2 : Int32) &&& 31).toUInt32).toInt32)), .val (.int (19 : Int32))]) cx st d12_73 rfl rfl ?_
            refine E_iloadN (pc' := 75) cx st d12_74 rfl rfl ?_
            refine E_iloadN (pc' := 76) cx st d12_75 rfl rfl ?_
            refine E_iconst (pc' := 77) cx st (1 : Int32) d12_76 rfl rfl ?_
            refine E_iushr (pc' := 78) cx st d12_77 rfl ?_
            refine E_iadd (pc' := 79) cx st d12_78 rfl ?_
            refine E_ireturn (t := .int) cx st d12_79 rfl (by simp) rfl (by decide) (by decide) ?_
            exact ⟨by unfold ntI; rw [if_pos c1, if_pos c2, if_neg c3, if_neg c7, if_pos c9], rfl⟩
          · refine E_icmp_leY (pc' := 74) cx st d12_64 (by decide) (by decide) c9 ?_
            refine E_iloadN (pc' := 75) cx st d12_74 rfl rfl ?_
            refine E_iloadN (pc' := 76) cx st d12_75 rfl rfl ?_
            refine E_iconst (pc' := 77) cx st (1 : Int32) d12_76 rfl rfl ?_
            refine E_iushr (pc' := 78) cx st d12_77 rfl ?_
            refine E_iadd (pc' := 79) cx st d12_78 rfl ?_
            refine E_ireturn (t := .int) cx st d12_79 rfl (by simp) rfl (by decide) (by decide) ?_
            exact ⟨by unfold ntI; rw [if_pos c1, if_pos c2, if_neg c3, if_neg c7, if_neg c9], rfl⟩
    · refine E_icmp_leY (pc' := 34) cx st d12_23 (by decide) (by decide) c2 ?_
      refine E_iloadN (pc' := 35) cx st d12_34 rfl rfl ?_
      refine E_sipush (pc' := 38) cx st (256 : Int32) d12_35 rfl rfl ?_
      by_cases c10 : (256 : Int32) < ((i ^^^ (-1 : Int32)) &&& (i - (1 : Int32)))
      · refine E_icmp_leN (pc' := 41) cx st d12_38 rfl c10 ?_
        refine E_iinc (pc' := 44) (L' := #[.val (.int ((i ^^^ (-1 : Int32)) &&& (i - (1 : Int32)))), .val (.int (9 : Int32))]) cx st (8 : Int32) d12_41 rfl rfl rfl rfl ?_
        refine E_iloadN (pc' := 45) cx st d12_44 rfl rfl ?_
        refine E_bipush (pc' := 47) cx st (8 : Int32) d12_45 rfl rfl ?_
        refine E_iushr (pc' := 48) cx st d12_47 rfl ?_
        refine E_istoreN (pc' := 49) (L' := #[.val (.int ((((i ^^^ (-1 : Int32)) &&& (i - (1 : Int32))).toUInt32 >>> ((8 : Int32) &&& 31).toUInt32).toInt32)), .val (.int (9 : Int32))]) cx st d12_48 rfl rfl ?_
        refine E_iloadN (pc' := 50) cx st d12_49 rfl rfl ?_
        refine E_bipush (pc' := 52) cx st (16 : Int32) d12_50 rfl rfl ?_
        by_cases c11 : (16 : Int32) < ((((i ^^^ (-1 : Int32)) &&& (i - (1 : Int32))).toUInt32 >>> ((8 : Int32) &&& 31).toUInt32).toInt32)
        · refine E_icmp_leN (pc' := 55) cx st d12_52 rfl c11 ?_
          refine E_iinc (pc' := 58) (L' := #[.val (.int ((((i ^^^ (-1 : Int32)) &&& (i - (1 : Int32))).toUInt32 >>> ((8 : Int32) &&& 31).toUInt32).toInt32)), .val (.int (13 : Int32))]) cx st (4 : Int32) d12_55 rfl rfl rfl rfl ?_
          refine E_iloadN (pc' := 59) cx st d12_58 rfl rfl ?_
          refine E_iconst (pc' := 60) cx st (4 : Int32) d12_59 rfl rfl ?_
          refine E_iushr (pc' := 61) cx st d12_60 rfl ?_
          refine E_istoreN (pc' := 62) (L' := #[.val (.int ((((((i ^^^ (-1 : Int32)) &&& (i - (1 : Int32))).toUInt32 >>> ((8 : Int32) &&& 31).toUInt32).toInt32).toUInt32 >>> ((4 : Int32) &&& 31).toUInt32).toInt32)), .val (.int (13 : Int32))]) cx st d12_61 rfl rfl ?_
          refine E_iloadN (pc' := 63) cx st d12_62 rfl rfl ?_
          refine E_iconst (pc' := 64) cx st (4 : Int32) d12_63 rfl rfl ?_
          by_cases c12 : (4 : Int32) < ((((((i ^^^ (-1 : Int32)) &&& (i - (1 : Int32))).toUInt32 >>> ((8 : Int32) &&& 31).toUInt32).toInt32).toUInt32 >>> ((4 : Int32) &&& 31).toUInt32).toInt32)
          · refine E_icmp_leN (pc' := 67) cx st d12_64 rfl c12 ?_
            refine E_iinc (pc' := 70) (L' := #[.val (.int ((((((i ^^^ (-1 : Int32)) &&& (i - (1 : Int32))).toUInt32 >>> ((8 : Int32) &&& 31).toUInt32).toInt32).toUInt32 >>> ((4 : Int32) &&& 31).toUInt32).toInt32)), .val (.int (15 : Int32))]) cx st (2 : Int32) d12_67 rfl rfl rfl rfl ?_
            refine E_iloadN (pc' := 71) cx st d12_70 rfl rfl ?_
            refine E_iconst (pc' := 72) cx st (2 : Int32) d12_71 rfl rfl ?_
            refine E_iushr (pc' := 73) cx st d12_72 rfl ?_
            refine E_istoreN (pc' := 74) (L' := #[.val (.int ((((((((i ^^^ (-1 : Int32)) &&& (i - (1 : Int32))).toUInt32 >>> ((8 : Int32) &&& 31).toUInt32).toInt32).toUInt32 >>> ((4 : Int32) &&& 31).toUInt32).toInt32).toUInt32 >>> ((2 : Int32) &&& 31).toUInt32).toInt32)), .val (.int (15 : Int32))]) cx st d12_73 rfl rfl ?_
            refine E_iloadN (pc' := 75) cx st d12_74 rfl rfl ?_
            refine E_iloadN (pc' := 76) cx st d12_75 rfl rfl ?_
            refine E_iconst (pc' := 77) cx st (1 : Int32) d12_76 rfl rfl ?_
            refine E_iushr (pc' := 78) cx st d12_77 rfl ?_
            refine E_iadd (pc' := 79) cx st d12_78 rfl ?_
            refine E_ireturn (t := .int) cx st d12_79 rfl (by simp) rfl (by decide) (by decide) ?_
            exact ⟨by unfold ntI; rw [if_pos c1, if_neg c2, if_pos c10, if_pos c11, if_pos c12], rfl⟩
          · refine E_icmp_leY (pc' := 74) cx st d12_64 (by decide) (by decide) c12 ?_
            refine E_iloadN (pc' := 75) cx st d12_74 rfl rfl ?_
            refine E_iloadN (pc' := 76) cx st d12_75 rfl rfl ?_
            refine E_iconst (pc' := 77) cx st (1 : Int32) d12_76 rfl rfl ?_
            refine E_iushr (pc' := 78) cx st d12_77 rfl ?_
            refine E_iadd (pc' := 79) cx st d12_78 rfl ?_
            refine E_ireturn (t := .int) cx st d12_79 rfl (by simp) rfl (by decide) (by decide) ?_
            exact ⟨by unfold ntI; rw [if_pos c1, if_neg c2, if_pos c10, if_pos c11, if_neg c12], rfl⟩
        · refine E_icmp_leY (pc' := 62) cx st d12_52 (by decide) (by decide) c11 ?_
          refine E_iloadN (pc' := 63) cx st d12_62 rfl rfl ?_
          refine E_iconst (pc' := 64) cx st (4 : Int32) d12_63 rfl rfl ?_
          by_cases c13 : (4 : Int32) < ((((i ^^^ (-1 : Int32)) &&& (i - (1 : Int32))).toUInt32 >>> ((8 : Int32) &&& 31).toUInt32).toInt32)
          · refine E_icmp_leN (pc' := 67) cx st d12_64 rfl c13 ?_
            refine E_iinc (pc' := 70) (L' := #[.val (.int ((((i ^^^ (-1 : Int32)) &&& (i - (1 : Int32))).toUInt32 >>> ((8 : Int32) &&& 31).toUInt32).toInt32)), .val (.int (11 : Int32))]) cx st (2 : Int32) d12_67 rfl rfl rfl rfl ?_
            refine E_iloadN (pc' := 71) cx st d12_70 rfl rfl ?_
            refine E_iconst (pc' := 72) cx st (2 : Int32) d12_71 rfl rfl ?_
            refine E_iushr (pc' := 73) cx st d12_72 rfl ?_
            refine E_istoreN (pc' := 74) (L' := #[.val (.int ((((((i ^^^ (-1 : Int32)) &&& (i - (1 : Int32))).toUInt32 >>> ((8 : Int32) &&& 31).toUInt32).toInt32).toUInt32 >>> ((2 : Int32) &&& 31).toUInt32).toInt32)), .val (.int (11 : Int32))]) cx st d12_73 rfl rfl ?_
            refine E_iloadN (pc' := 75) cx st d12_74 rfl rfl ?_
            refine E_iloadN (pc' := 76) cx st d12_75 rfl rfl ?_
            refine E_iconst (pc' := 77) cx st (1 : Int32) d12_76 rfl rfl ?_
            refine E_iushr (pc' := 78) cx st d12_77 rfl ?_
            refine E_iadd (pc' := 79) cx st d12_78 rfl ?_
            refine E_ireturn (t := .int) cx st d12_79 rfl (by simp) rfl (by decide) (by decide) ?_
            exact ⟨by unfold ntI; rw [if_pos c1, if_neg c2, if_pos c10, if_neg c11, if_pos c13], rfl⟩
          · refine E_icmp_leY (pc' := 74) cx st d12_64 (by decide) (by decide) c13 ?_
            refine E_iloadN (pc' := 75) cx st d12_74 rfl rfl ?_
            refine E_iloadN (pc' := 76) cx st d12_75 rfl rfl ?_
            refine E_iconst (pc' := 77) cx st (1 : Int32) d12_76 rfl rfl ?_
            refine E_iushr (pc' := 78) cx st d12_77 rfl ?_
            refine E_iadd (pc' := 79) cx st d12_78 rfl ?_
            refine E_ireturn (t := .int) cx st d12_79 rfl (by simp) rfl (by decide) (by decide) ?_
            exact ⟨by unfold ntI; rw [if_pos c1, if_neg c2, if_pos c10, if_neg c11, if_neg c13], rfl⟩
      · refine E_icmp_leY (pc' := 49) cx st d12_38 (by decide) (by decide) c10 ?_
        refine E_iloadN (pc' := 50) cx st d12_49 rfl rfl ?_
        refine E_bipush (pc' := 52) cx st (16 : Int32) d12_50 rfl rfl ?_
        by_cases c14 : (16 : Int32) < ((i ^^^ (-1 : Int32)) &&& (i - (1 : Int32)))
        · refine E_icmp_leN (pc' := 55) cx st d12_52 rfl c14 ?_
          refine E_iinc (pc' := 58) (L' := #[.val (.int ((i ^^^ (-1 : Int32)) &&& (i - (1 : Int32)))), .val (.int (5 : Int32))]) cx st (4 : Int32) d12_55 rfl rfl rfl rfl ?_
          refine E_iloadN (pc' := 59) cx st d12_58 rfl rfl ?_
          refine E_iconst (pc' := 60) cx st (4 : Int32) d12_59 rfl rfl ?_
          refine E_iushr (pc' := 61) cx st d12_60 rfl ?_
          refine E_istoreN (pc' := 62) (L' := #[.val (.int ((((i ^^^ (-1 : Int32)) &&& (i - (1 : Int32))).toUInt32 >>> ((4 : Int32) &&& 31).toUInt32).toInt32)), .val (.int (5 : Int32))]) cx st d12_61 rfl rfl ?_
          refine E_iloadN (pc' := 63) cx st d12_62 rfl rfl ?_
          refine E_iconst (pc' := 64) cx st (4 : Int32) d12_63 rfl rfl ?_
          by_cases c15 : (4 : Int32) < ((((i ^^^ (-1 : Int32)) &&& (i - (1 : Int32))).toUInt32 >>> ((4 : Int32) &&& 31).toUInt32).toInt32)
          · refine E_icmp_leN (pc' := 67) cx st d12_64 rfl c15 ?_
            refine E_iinc (pc' := 70) (L' := #[.val (.int ((((i ^^^ (-1 : Int32)) &&& (i - (1 : Int32))).toUInt32 >>> ((4 : Int32) &&& 31).toUInt32).toInt32)), .val (.int (7 : Int32))]) cx st (2 : Int32) d12_67 rfl rfl rfl rfl ?_
            refine E_iloadN (pc' := 71) cx st d12_70 rfl rfl ?_
            refine E_iconst (pc' := 72) cx st (2 : Int32) d12_71 rfl rfl ?_
            refine E_iushr (pc' := 73) cx st d12_72 rfl ?_
            refine E_istoreN (pc' := 74) (L' := #[.val (.int ((((((i ^^^ (-1 : Int32)) &&& (i - (1 : Int32))).toUInt32 >>> ((4 : Int32) &&& 31).toUInt32).toInt32).toUInt32 >>> ((2 : Int32) &&& 31).toUInt32).toInt32)), .val (.int (7 : Int32))]) cx st d12_73 rfl rfl ?_
            refine E_iloadN (pc' := 75) cx st d12_74 rfl rfl ?_
            refine E_iloadN (pc' := 76) cx st d12_75 rfl rfl ?_
            refine E_iconst (pc' := 77) cx st (1 : Int32) d12_76 rfl rfl ?_
            refine E_iushr (pc' := 78) cx st d12_77 rfl ?_
            refine E_iadd (pc' := 79) cx st d12_78 rfl ?_
            refine E_ireturn (t := .int) cx st d12_79 rfl (by simp) rfl (by decide) (by decide) ?_
            exact ⟨by unfold ntI; rw [if_pos c1, if_neg c2, if_neg c10, if_pos c14, if_pos c15], rfl⟩
          · refine E_icmp_leY (pc' := 74) cx st d12_64 (by decide) (by decide) c15 ?_
            refine E_iloadN (pc' := 75) cx st d12_74 rfl rfl ?_
            refine E_iloadN (pc' := 76) cx st d12_75 rfl rfl ?_
            refine E_iconst (pc' := 77) cx st (1 : Int32) d12_76 rfl rfl ?_
            refine E_iushr (pc' := 78) cx st d12_77 rfl ?_
            refine E_iadd (pc' := 79) cx st d12_78 rfl ?_
            refine E_ireturn (t := .int) cx st d12_79 rfl (by simp) rfl (by decide) (by decide) ?_
            exact ⟨by unfold ntI; rw [if_pos c1, if_neg c2, if_neg c10, if_pos c14, if_neg c15], rfl⟩
        · refine E_icmp_leY (pc' := 62) cx st d12_52 (by decide) (by decide) c14 ?_
          refine E_iloadN (pc' := 63) cx st d12_62 rfl rfl ?_
          refine E_iconst (pc' := 64) cx st (4 : Int32) d12_63 rfl rfl ?_
          by_cases c16 : (4 : Int32) < ((i ^^^ (-1 : Int32)) &&& (i - (1 : Int32)))
          · refine E_icmp_leN (pc' := 67) cx st d12_64 rfl c16 ?_
            refine E_iinc (pc' := 70) (L' := #[.val (.int ((i ^^^ (-1 : Int32)) &&& (i - (1 : Int32)))), .val (.int (3 : Int32))]) cx st (2 : Int32) d12_67 rfl rfl rfl rfl ?_
            refine E_iloadN (pc' := 71) cx st d12_70 rfl rfl ?_
            refine E_iconst (pc' := 72) cx st (2 : Int32) d12_71 rfl rfl ?_
            refine E_iushr (pc' := 73) cx st d12_72 rfl ?_
            refine E_istoreN (pc' := 74) (L' := #[.val (.int ((((i ^^^ (-1 : Int32)) &&& (i - (1 : Int32))).toUInt32 >>> ((2 : Int32) &&& 31).toUInt32).toInt32)), .val (.int (3 : Int32))]) cx st d12_73 rfl rfl ?_
            refine E_iloadN (pc' := 75) cx st d12_74 rfl rfl ?_
            refine E_iloadN (pc' := 76) cx st d12_75 rfl rfl ?_
            refine E_iconst (pc' := 77) cx st (1 : Int32) d12_76 rfl rfl ?_
            refine E_iushr (pc' := 78) cx st d12_77 rfl ?_
            refine E_iadd (pc' := 79) cx st d12_78 rfl ?_
            refine E_ireturn (t := .int) cx st d12_79 rfl (by simp) rfl (by decide) (by decide) ?_
            exact ⟨by unfold ntI; rw [if_pos c1, if_neg c2, if_neg c10, if_neg c14, if_pos c16], rfl⟩
          · refine E_icmp_leY (pc' := 74) cx st d12_64 (by decide) (by decide) c16 ?_
            refine E_iloadN (pc' := 75) cx st d12_74 rfl rfl ?_
            refine E_iloadN (pc' := 76) cx st d12_75 rfl rfl ?_
            refine E_iconst (pc' := 77) cx st (1 : Int32) d12_76 rfl rfl ?_
            refine E_iushr (pc' := 78) cx st d12_77 rfl ?_
            refine E_iadd (pc' := 79) cx st d12_78 rfl ?_
            refine E_ireturn (t := .int) cx st d12_79 rfl (by simp) rfl (by decide) (by decide) ?_
            exact ⟨by unfold ntI; rw [if_pos c1, if_neg c2, if_neg c10, if_neg c14, if_neg c16], rfl⟩
  · refine E_if_gtN (pc' := 12) cx st d12_9 rfl c1 ?_
    refine E_iloadN (pc' := 13) cx st d12_12 rfl rfl ?_
    refine E_bipush (pc' := 15) cx st (32 : Int32) d12_13 rfl rfl ?_
    refine E_iand (pc' := 16) cx st d12_15 rfl ?_
    refine E_ireturn (t := .int) cx st d12_16 rfl (by simp) rfl (by decide) (by decide) ?_
    exact ⟨by unfold ntI; rw [if_neg c1], rfl⟩
theorem d11_0 : decode jdk_35_method_49_code 0 = .ok (.lload_n 0, 1) := by decide +kernel
theorem d11_1 : decode jdk_35_method_49_code 1 = .ok (.l2i, 1) := by decide +kernel
theorem d11_2 : decode jdk_35_method_49_code 2 = .ok (.istore_n 2, 1) := by decide +kernel
theorem d11_3 : decode jdk_35_method_49_code 3 = .ok (.iload_n 2, 1) := by decide +kernel
theorem d11_4 : decode jdk_35_method_49_code 4 = .ok (.ifCond .ne 17, 3) := by decide +kernel
theorem d11_7 : decode jdk_35_method_49_code 7 = .ok (.bipush 32, 2) := by decide +kernel
theorem d11_9 : decode jdk_35_method_49_code 9 = .ok (.lload_n 0, 1) := by decide +kernel
theorem d11_10 : decode jdk_35_method_49_code 10 = .ok (.bipush 32, 2) := by decide +kernel
theorem d11_12 : decode jdk_35_method_49_code 12 = .ok (.lushr, 1) := by decide +kernel
theorem d11_13 : decode jdk_35_method_49_code 13 = .ok (.l2i, 1) := by decide +kernel
theorem d11_14 : decode jdk_35_method_49_code 14 = .ok (.invokestatic 311, 3) := by decide +kernel
theorem d11_17 : decode jdk_35_method_49_code 17 = .ok (.iadd, 1) := by decide +kernel
theorem d11_18 : decode jdk_35_method_49_code 18 = .ok (.goto 7, 3) := by decide +kernel
theorem d11_21 : decode jdk_35_method_49_code 21 = .ok (.iload_n 2, 1) := by decide +kernel
theorem d11_22 : decode jdk_35_method_49_code 22 = .ok (.invokestatic 311, 3) := by decide +kernel
theorem d11_25 : decode jdk_35_method_49_code 25 = .ok (.ireturn, 1) := by decide +kernel
theorem ef_11 (m : MethodId) (x0 : Int64) : entryFrame m #[(.long x0)] 3 = mkF m 0 #[.val (.long x0), .second, .unset] [] := by first | (simp [entryFrame, mkF, argsToLocals, Value.category]; done) | rfl
theorem pd_0 : parseMethodDescriptor "(I)I" = some ⟨[.int], some .int⟩ := by decide +kernel
def ntL (x : Int64) : Int32 := (if (x.toInt32) = (0 : Int32) then ((32 : Int32) + (ntI (((x.toUInt64 >>> ((32 : Int32) &&& 0x3f).toInt64.toUInt64).toInt64).toInt32))) else (ntI (x.toInt32)))
set_option maxRecDepth 65536 in
set_option maxHeartbeats 40000000 in
theorem rm11 (l : Launch) (Z : State) (a0 : Array Value) (hw : ∀ d ∈ tables_1, d.before a0 Z = true) (x : Int64) (h0 : Heap) (n0 : Nat) (Z0 : n0 ≤ h0.size) :
    Con l Z (⟨"java/lang/Long", "numberOfTrailingZeros", "(J)I"⟩ : MethodName) jdk_35_method_49_code 3 (some .int) ({ frames := 1, cells := 0, slots := 0, locals := 16 } : Room) #[(.long x)] h0 n0 (fun v h => v = some (.int (ntL x)) ∧ h = h0) := by
  refine Con.of (own := "java/lang/Long") (name := "numberOfTrailingZeros") (plainFor_of_name pn_0) (fun m => ef_11 m x) rfl rfl ?_
  intro p e s m below meth c T F S cx st
  refine E_lloadN (pc' := 1) cx st d11_0 rfl rfl ?_
  refine E_l2i (pc' := 2) cx st d11_1 rfl ?_
  refine E_istoreN (pc' := 3) (L' := #[.val (.long x), .second, .val (.int (x.toInt32))]) cx st d11_2 rfl rfl ?_
  refine E_iloadN (pc' := 4) cx st d11_3 rfl rfl ?_
  by_cases c1 : (x.toInt32) = (0 : Int32)
  · refine E_if_neN (pc' := 7) cx st d11_4 rfl c1 ?_
    refine E_bipush (pc' := 9) cx st (32 : Int32) d11_7 rfl rfl ?_
    refine E_lloadN (pc' := 10) cx st d11_9 rfl rfl ?_
    refine E_bipush (pc' := 12) cx st (32 : Int32) d11_10 rfl rfl ?_
    refine E_lushr (pc' := 13) cx st d11_12 rfl ?_
    refine E_l2i (pc' := 14) cx st d11_13 rfl ?_
    refine E_callS (pc' := 17) (kc' := 0) (ks' := 0) (W := 1) (argsL := [(.int (((x.toUInt64 >>> ((32 : Int32) &&& 0x3f).toInt64.toUInt64).toInt64).toInt32))]) cx st [(.int (32 : Int32))] (rm12 l Z a0 hw (((x.toUInt64 >>> ((32 : Int32) &&& 0x3f).toInt64.toUInt64).toInt64).toInt32) h0 n0 Z0) (hw _ (List.mem_of_getElem? (i := 72) rfl)) (hw _ (List.mem_of_getElem? (i := 73) rfl)) (hw _ (List.mem_of_getElem? (i := 74) rfl)) (hw _ (List.mem_of_getElem? (i := 75) rfl)) d11_14 rfl rfl (lenOf pd_0 rfl) (Nat.le_of_eq rfl) (by decide) (by decide) (by decide) (by decide) (by decide) (by decide) (by decide) rfl ?_
    intro v2 T2 h2 st2 hq2
    obtain ⟨rfl, hh2⟩ := hq2
    rw [hh2] at st2
    refine E_iadd (pc' := 18) cx st2 d11_17 rfl ?_
    refine E_goto (pc' := 25) cx st2 d11_18 (by decide) (by decide) ?_
    refine E_ireturn (t := .int) cx st2 d11_25 rfl (by simp) rfl (by decide) (by decide) ?_
    exact ⟨by unfold ntL; rw [if_pos c1], rfl⟩
  · refine E_if_neY (pc' := 21) cx st d11_4 (by decide) (by decide) c1 ?_
    refine E_iloadN (pc' := 22) cx st d11_21 rfl rfl ?_
    refine E_callS (pc' := 25) (kc' := 0) (ks' := 0) (W := 0) (argsL := [(.int (x.toInt32))]) cx st [] (rm12 l Z a0 hw (x.toInt32) h0 n0 Z0) (hw _ (List.mem_of_getElem? (i := 72) rfl)) (hw _ (List.mem_of_getElem? (i := 73) rfl)) (hw _ (List.mem_of_getElem? (i := 74) rfl)) (hw _ (List.mem_of_getElem? (i := 75) rfl)) d11_22 rfl rfl (lenOf pd_0 rfl) (Nat.le_of_eq rfl) (by decide) (by decide) (by decide) (by decide) (by decide) (by decide) (by decide) rfl ?_
    intro v3 T3 h3 st3 hq3
    obtain ⟨rfl, hh3⟩ := hq3
    rw [hh3] at st3
    refine E_ireturn (t := .int) cx st3 d11_25 rfl (by simp) rfl (by decide) (by decide) ?_
    exact ⟨by unfold ntL; rw [if_neg c1], rfl⟩
theorem d9_0 : decode method_4_code 0 = .ok (.iload_n 1, 1) := by decide +kernel
theorem d9_1 : decode method_4_code 1 = .ok (.iload_n 0, 1) := by decide +kernel
theorem d9_2 : decode method_4_code 2 = .ok (.if_icmp .ge 12, 3) := by decide +kernel
theorem d9_5 : decode method_4_code 5 = .ok (.iload_n 2, 1) := by decide +kernel
theorem d9_6 : decode method_4_code 6 = .ok (.iload_n 3, 1) := by decide +kernel
theorem d9_7 : decode method_4_code 7 = .ok (.if_icmp .ne 7, 3) := by decide +kernel
theorem d9_10 : decode method_4_code 10 = .ok (.iconst 1, 1) := by decide +kernel
theorem d9_11 : decode method_4_code 11 = .ok (.goto 4, 3) := by decide +kernel
theorem d9_14 : decode method_4_code 14 = .ok (.iconst 0, 1) := by decide +kernel
theorem d9_15 : decode method_4_code 15 = .ok (.ireturn, 1) := by decide +kernel
theorem pn_2 : plainName "com/example/widowbid/widowbid/WorldsCountPinLaw" = true := by first | (simp [plainName, overriddenIn]; done) | decide +kernel
theorem ef_9 (m : MethodId) (x0 : Int32) (x1 : Int32) (x2 : Int32) (x3 : Int32) : entryFrame m #[(.int x0), (.int x1), (.int x2), (.int x3)] 4 = mkF m 0 #[.val (.int x0), .val (.int x1), .val (.int x2), .val (.int x3)] [] := by first | (simp [entryFrame, mkF, argsToLocals, Value.category]; done) | rfl
def inF (n : Int32) (i : Int32) (pl : Int32) (p_ : Int32) : Int32 := (if i < n then (if pl = p_ then (1 : Int32) else (0 : Int32)) else (0 : Int32))
set_option maxRecDepth 65536 in
set_option maxHeartbeats 40000000 in
theorem rm9 (l : Launch) (Z : State) (a0 : Array Value) (hw : ∀ d ∈ tables_1, d.before a0 Z = true) (n : Int32) (i : Int32) (pl : Int32) (p_ : Int32) (h0 : Heap) (n0 : Nat) (Z0 : n0 ≤ h0.size) :
    Con l Z (⟨"com/example/widowbid/widowbid/WorldsCountPinLaw", "in", "(IIII)I"⟩ : MethodName) method_4_code 4 (some .int) ({ frames := 0, cells := 0, slots := 0, locals := 0 } : Room) #[(.int n), (.int i), (.int pl), (.int p_)] h0 n0 (fun v h => v = some (.int (inF n i pl p_)) ∧ h = h0) := by
  refine Con.of (own := "com/example/widowbid/widowbid/WorldsCountPinLaw") (name := "in") (plainFor_of_name pn_2) (fun m => ef_9 m n i pl p_) rfl rfl ?_
  intro p e s m below meth c T F S cx st
  refine E_iloadN (pc' := 1) cx st d9_0 rfl rfl ?_
  refine E_iloadN (pc' := 2) cx st d9_1 rfl rfl ?_
  by_cases c1 : i < n
  · refine E_icmp_geN (pc' := 5) cx st d9_2 rfl c1 ?_
    refine E_iloadN (pc' := 6) cx st d9_5 rfl rfl ?_
    refine E_iloadN (pc' := 7) cx st d9_6 rfl rfl ?_
    by_cases c2 : pl = p_
    · refine E_icmp_neN (pc' := 10) cx st d9_7 rfl c2 ?_
      refine E_iconst (pc' := 11) cx st (1 : Int32) d9_10 rfl rfl ?_
      refine E_goto (pc' := 15) cx st d9_11 (by decide) (by decide) ?_
      refine E_ireturn (t := .int) cx st d9_15 rfl (by simp) rfl (by decide) (by decide) ?_
      exact ⟨by unfold inF; rw [if_pos c1, if_pos c2], rfl⟩
    · refine E_icmp_neY (pc' := 14) cx st d9_7 (by decide) (by decide) c2 ?_
      refine E_iconst (pc' := 15) cx st (0 : Int32) d9_14 rfl rfl ?_
      refine E_ireturn (t := .int) cx st d9_15 rfl (by simp) rfl (by decide) (by decide) ?_
      exact ⟨by unfold inF; rw [if_pos c1, if_neg c2], rfl⟩
  · refine E_icmp_geY (pc' := 14) cx st d9_2 (by decide) (by decide) c1 ?_
    refine E_iconst (pc' := 15) cx st (0 : Int32) d9_14 rfl rfl ?_
    refine E_ireturn (t := .int) cx st d9_15 rfl (by simp) rfl (by decide) (by decide) ?_
    exact ⟨by unfold inF; rw [if_neg c1], rfl⟩
def exF (e0 e1 e2 : Int64) (p : Int32) : Int64 := [e0, e1, e2].getD p.toNatClampNeg 0
def poF (q0 q1 q2 q3 : Int32) (i : Int32) : Int32 := [q0, q1, q2, q3].getD i.toNatClampNeg 0
def fiF (e0 e1 e2 : Int64) (q0 q1 q2 q3 : Int32) (n i p : Int32) : Int32 := if i < n then (if (exF e0 e1 e2 p &&& ((1 : Int64) <<< (poF q0 q1 q2 q3 i &&& 0x3f).toInt64)) = (0 : Int64) then 1 else 0) else (if p = (0 : Int32) then 1 else 0)
theorem fiF01 (e0 e1 e2 : Int64) (q0 q1 q2 q3 : Int32) (n i p : Int32) : fiF e0 e1 e2 q0 q1 q2 q3 n i p = 0 ∨ fiF e0 e1 e2 q0 q1 q2 q3 n i p = 1 := by unfold fiF; (repeat' split) <;> simp

theorem d8_0 : decode method_3_code 0 = .ok (.iload_n 3, 1) := by decide +kernel
theorem d8_1 : decode method_3_code 1 = .ok (.iload_n 2, 1) := by decide +kernel
theorem d8_2 : decode method_3_code 2 = .ok (.if_icmp .lt 14, 3) := by decide +kernel
theorem d8_5 : decode method_3_code 5 = .ok (.iload 4, 2) := by decide +kernel
theorem d8_7 : decode method_3_code 7 = .ok (.ifCond .ne 7, 3) := by decide +kernel
theorem d8_10 : decode method_3_code 10 = .ok (.iconst 1, 1) := by decide +kernel
theorem d8_11 : decode method_3_code 11 = .ok (.goto 4, 3) := by decide +kernel
theorem d8_14 : decode method_3_code 14 = .ok (.iconst 0, 1) := by decide +kernel
theorem d8_15 : decode method_3_code 15 = .ok (.ireturn, 1) := by decide +kernel
theorem d8_16 : decode method_3_code 16 = .ok (.aload_n 0, 1) := by decide +kernel
theorem d8_17 : decode method_3_code 17 = .ok (.iload 4, 2) := by decide +kernel
theorem d8_19 : decode method_3_code 19 = .ok (.laload, 1) := by decide +kernel
theorem d8_20 : decode method_3_code 20 = .ok (.lconst 1, 1) := by decide +kernel
theorem d8_21 : decode method_3_code 21 = .ok (.aload_n 1, 1) := by decide +kernel
theorem d8_22 : decode method_3_code 22 = .ok (.iload_n 3, 1) := by decide +kernel
theorem d8_23 : decode method_3_code 23 = .ok (.iaload, 1) := by decide +kernel
theorem d8_24 : decode method_3_code 24 = .ok (.lshl, 1) := by decide +kernel
theorem d8_25 : decode method_3_code 25 = .ok (.land, 1) := by decide +kernel
theorem d8_26 : decode method_3_code 26 = .ok (.lconst 0, 1) := by decide +kernel
theorem d8_27 : decode method_3_code 27 = .ok (.lcmp, 1) := by decide +kernel
theorem d8_28 : decode method_3_code 28 = .ok (.ifCond .ne 7, 3) := by decide +kernel
theorem d8_31 : decode method_3_code 31 = .ok (.iconst 1, 1) := by decide +kernel
theorem d8_32 : decode method_3_code 32 = .ok (.goto 4, 3) := by decide +kernel
theorem d8_35 : decode method_3_code 35 = .ok (.iconst 0, 1) := by decide +kernel
theorem d8_36 : decode method_3_code 36 = .ok (.ireturn, 1) := by decide +kernel
theorem ef_8 (m : MethodId) (x0 : Addr) (x1 : Addr) (x2 : Int32) (x3 : Int32) (x4 : Int32) : entryFrame m #[(.ref x0), (.ref x1), (.int x2), (.int x3), (.int x4)] 5 = mkF m 0 #[.val (.ref x0), .val (.ref x1), .val (.int x2), .val (.int x3), .val (.int x4)] [] := by first | (simp [entryFrame, mkF, argsToLocals, Value.category]; done) | rfl
set_option maxRecDepth 65536 in
set_option maxHeartbeats 40000000 in
theorem rm8 (l : Launch) (Z : State) (a0 : Array Value) (hw : ∀ d ∈ tables_1, d.before a0 Z = true) (ea : Addr) (pa : Addr) (e0 : Int64) (e1 : Int64) (e2 : Int64) (q0 : Int32) (q1 : Int32) (q2 : Int32) (q3 : Int32) (n : Int32) (i : Int32) (p_ : Int32) (h0 : Heap) (n0 : Nat) (Z0 : n0 ≤ h0.size) (kE kP : ClassId) (VE : Arv Z h0 ea kE .long (3 : Int32) [(.long e0), (.long e1), (.long e2)] (.long (0 : Int64))) (VP : Arv Z h0 pa kP .int (4 : Int32) [(.int q0), (.int q1), (.int q2), (.int q3)] (.int (0 : Int32))) (hi : ¬ i < 0 ∧ i < (4 : Int32)) (hp : ¬ p_ < 0 ∧ p_ < (3 : Int32)) :
    Con l Z (⟨"com/example/widowbid/widowbid/WorldsCountPinLaw", "fits", "([J[IIII)Z"⟩ : MethodName) method_3_code 5 (some .boolean) ({ frames := 0, cells := 0, slots := 0, locals := 0 } : Room) #[(.ref ea), (.ref pa), (.int n), (.int i), (.int p_)] h0 n0 (fun v h => v = some (.int (fiF e0 e1 e2 q0 q1 q2 q3 n i p_)) ∧ h = h0) := by
  refine Con.of (own := "com/example/widowbid/widowbid/WorldsCountPinLaw") (name := "fits") (plainFor_of_name pn_2) (fun m => ef_8 m ea pa n i p_) rfl rfl ?_
  intro p e s m below meth c T F S cx st
  refine E_iloadN (pc' := 1) cx st d8_0 rfl rfl ?_
  refine E_iloadN (pc' := 2) cx st d8_1 rfl rfl ?_
  by_cases c1 : i < n
  · refine E_icmp_ltY (pc' := 16) cx st d8_2 (by decide) (by decide) c1 ?_
    refine E_aloadN (pc' := 17) cx st d8_16 rfl rfl rfl ?_
    refine E_iload (pc' := 19) cx st d8_17 rfl rfl ?_
    refine E_laload (pc' := 20) (x := (exF e0 e1 e2 p_)) cx st VE hp (getD_long [e0, e1, e2] _ 0) d8_19 rfl ?_
    refine E_lconst (pc' := 21) cx st (1 : Int64) d8_20 rfl rfl ?_
    refine E_aloadN (pc' := 22) cx st d8_21 rfl rfl rfl ?_
    refine E_iloadN (pc' := 23) cx st d8_22 rfl rfl ?_
    refine E_iaload (pc' := 24) (x := (poF q0 q1 q2 q3 i)) cx st VP hi (getD_int [q0, q1, q2, q3] _ 0) d8_23 rfl ?_
    refine E_lshl (pc' := 25) cx st d8_24 rfl ?_
    refine E_land (pc' := 26) cx st d8_25 rfl ?_
    refine E_lconst (pc' := 27) cx st (0 : Int64) d8_26 rfl rfl ?_
    by_cases c2 : ((exF e0 e1 e2 p_) &&& ((1 : Int64) <<< ((poF q0 q1 q2 q3 i) &&& 0x3f).toInt64)) = (0 : Int64)
    · refine E_lif_neN (pc' := 31) cx st d8_27 d8_28 rfl c2 ?_
      refine E_iconst (pc' := 32) cx st (1 : Int32) d8_31 rfl rfl ?_
      refine E_goto (pc' := 36) cx st d8_32 (by decide) (by decide) ?_
      refine E_ireturn (t := .boolean) cx st d8_36 rfl (by simp) rfl (by decide) (by decide) ?_
      exact ⟨by unfold fiF; rw [if_pos c1, if_pos c2], rfl⟩
    · refine E_lif_neY (pc' := 35) cx st d8_27 d8_28 (by decide) (by decide) c2 ?_
      refine E_iconst (pc' := 36) cx st (0 : Int32) d8_35 rfl rfl ?_
      refine E_ireturn (t := .boolean) cx st d8_36 rfl (by simp) rfl (by decide) (by decide) ?_
      exact ⟨by unfold fiF; rw [if_pos c1, if_neg c2], rfl⟩
  · refine E_icmp_ltN (pc' := 5) cx st d8_2 rfl c1 ?_
    refine E_iload (pc' := 7) cx st d8_5 rfl rfl ?_
    by_cases c3 : p_ = (0 : Int32)
    · refine E_if_neN (pc' := 10) cx st d8_7 rfl c3 ?_
      refine E_iconst (pc' := 11) cx st (1 : Int32) d8_10 rfl rfl ?_
      refine E_goto (pc' := 15) cx st d8_11 (by decide) (by decide) ?_
      refine E_ireturn (t := .boolean) cx st d8_15 rfl (by simp) rfl (by decide) (by decide) ?_
      exact ⟨by unfold fiF; rw [if_neg c1, if_pos c3], rfl⟩
    · refine E_if_neY (pc' := 14) cx st d8_7 (by decide) (by decide) c3 ?_
      refine E_iconst (pc' := 15) cx st (0 : Int32) d8_14 rfl rfl ?_
      refine E_ireturn (t := .boolean) cx st d8_15 rfl (by simp) rfl (by decide) (by decide) ?_
      exact ⟨by unfold fiF; rw [if_neg c1, if_neg c3], rfl⟩
def okF (e0 e1 e2 : Int64) (q0 q1 q2 q3 : Int32) (n a b d g : Int32) : Int32 := if fiF e0 e1 e2 q0 q1 q2 q3 n (0 : Int32) a = (0 : Int32) then 0 else if fiF e0 e1 e2 q0 q1 q2 q3 n (1 : Int32) b = (0 : Int32) then 0 else if fiF e0 e1 e2 q0 q1 q2 q3 n (2 : Int32) d = (0 : Int32) then 0 else if fiF e0 e1 e2 q0 q1 q2 q3 n (3 : Int32) g = (0 : Int32) then 0 else 1
def oneF (e0 e1 e2 : Int64) (q0 q1 q2 q3 : Int32) (n s0 s1 s2 a b d g : Int32) : Int64 := if okF e0 e1 e2 q0 q1 q2 q3 n a b d g = (0 : Int32) then 0 else if (((inF n (0 : Int32) a (0 : Int32) + inF n (1 : Int32) b (0 : Int32)) + inF n (2 : Int32) d (0 : Int32)) + inF n (3 : Int32) g (0 : Int32)) = s0 then (if (((inF n (0 : Int32) a (1 : Int32) + inF n (1 : Int32) b (1 : Int32)) + inF n (2 : Int32) d (1 : Int32)) + inF n (3 : Int32) g (1 : Int32)) = s1 then (if (((inF n (0 : Int32) a (2 : Int32) + inF n (1 : Int32) b (2 : Int32)) + inF n (2 : Int32) d (2 : Int32)) + inF n (3 : Int32) g (2 : Int32)) = s2 then 1 else 0) else 0) else 0
theorem d7_0 : decode method_5_code 0 = .ok (.aload_n 0, 1) := by decide +kernel
theorem d7_1 : decode method_5_code 1 = .ok (.aload_n 1, 1) := by decide +kernel
theorem d7_2 : decode method_5_code 2 = .ok (.iload_n 2, 1) := by decide +kernel
theorem d7_3 : decode method_5_code 3 = .ok (.iconst 0, 1) := by decide +kernel
theorem d7_4 : decode method_5_code 4 = .ok (.iload 4, 2) := by decide +kernel
theorem d7_6 : decode method_5_code 6 = .ok (.invokestatic 23, 3) := by decide +kernel
theorem d7_9 : decode method_5_code 9 = .ok (.ifCond .eq 43, 3) := by decide +kernel
theorem d7_12 : decode method_5_code 12 = .ok (.aload_n 0, 1) := by decide +kernel
theorem d7_13 : decode method_5_code 13 = .ok (.aload_n 1, 1) := by decide +kernel
theorem d7_14 : decode method_5_code 14 = .ok (.iload_n 2, 1) := by decide +kernel
theorem d7_15 : decode method_5_code 15 = .ok (.iconst 1, 1) := by decide +kernel
theorem d7_16 : decode method_5_code 16 = .ok (.iload 5, 2) := by decide +kernel
theorem d7_18 : decode method_5_code 18 = .ok (.invokestatic 23, 3) := by decide +kernel
theorem d7_21 : decode method_5_code 21 = .ok (.ifCond .eq 31, 3) := by decide +kernel
theorem d7_24 : decode method_5_code 24 = .ok (.aload_n 0, 1) := by decide +kernel
theorem d7_25 : decode method_5_code 25 = .ok (.aload_n 1, 1) := by decide +kernel
theorem d7_26 : decode method_5_code 26 = .ok (.iload_n 2, 1) := by decide +kernel
theorem d7_27 : decode method_5_code 27 = .ok (.iconst 2, 1) := by decide +kernel
theorem d7_28 : decode method_5_code 28 = .ok (.iload 6, 2) := by decide +kernel
theorem d7_30 : decode method_5_code 30 = .ok (.invokestatic 23, 3) := by decide +kernel
theorem d7_33 : decode method_5_code 33 = .ok (.ifCond .eq 19, 3) := by decide +kernel
theorem d7_36 : decode method_5_code 36 = .ok (.aload_n 0, 1) := by decide +kernel
theorem d7_37 : decode method_5_code 37 = .ok (.aload_n 1, 1) := by decide +kernel
theorem d7_38 : decode method_5_code 38 = .ok (.iload_n 2, 1) := by decide +kernel
theorem d7_39 : decode method_5_code 39 = .ok (.iconst 3, 1) := by decide +kernel
theorem d7_40 : decode method_5_code 40 = .ok (.iload 7, 2) := by decide +kernel
theorem d7_42 : decode method_5_code 42 = .ok (.invokestatic 23, 3) := by decide +kernel
theorem d7_45 : decode method_5_code 45 = .ok (.ifCond .eq 7, 3) := by decide +kernel
theorem d7_48 : decode method_5_code 48 = .ok (.iconst 1, 1) := by decide +kernel
theorem d7_49 : decode method_5_code 49 = .ok (.goto 4, 3) := by decide +kernel
theorem d7_52 : decode method_5_code 52 = .ok (.iconst 0, 1) := by decide +kernel
theorem d7_53 : decode method_5_code 53 = .ok (.istore 8, 2) := by decide +kernel
theorem d7_55 : decode method_5_code 55 = .ok (.iload_n 2, 1) := by decide +kernel
theorem d7_56 : decode method_5_code 56 = .ok (.iconst 0, 1) := by decide +kernel
theorem d7_57 : decode method_5_code 57 = .ok (.iload 4, 2) := by decide +kernel
theorem d7_59 : decode method_5_code 59 = .ok (.iconst 0, 1) := by decide +kernel
theorem d7_60 : decode method_5_code 60 = .ok (.invokestatic 27, 3) := by decide +kernel
theorem d7_63 : decode method_5_code 63 = .ok (.iload_n 2, 1) := by decide +kernel
theorem d7_64 : decode method_5_code 64 = .ok (.iconst 1, 1) := by decide +kernel
theorem d7_65 : decode method_5_code 65 = .ok (.iload 5, 2) := by decide +kernel
theorem d7_67 : decode method_5_code 67 = .ok (.iconst 0, 1) := by decide +kernel
theorem d7_68 : decode method_5_code 68 = .ok (.invokestatic 27, 3) := by decide +kernel
theorem d7_71 : decode method_5_code 71 = .ok (.iadd, 1) := by decide +kernel
theorem d7_72 : decode method_5_code 72 = .ok (.iload_n 2, 1) := by decide +kernel
theorem d7_73 : decode method_5_code 73 = .ok (.iconst 2, 1) := by decide +kernel
theorem d7_74 : decode method_5_code 74 = .ok (.iload 6, 2) := by decide +kernel
theorem d7_76 : decode method_5_code 76 = .ok (.iconst 0, 1) := by decide +kernel
theorem d7_77 : decode method_5_code 77 = .ok (.invokestatic 27, 3) := by decide +kernel
theorem d7_80 : decode method_5_code 80 = .ok (.iadd, 1) := by decide +kernel
theorem d7_81 : decode method_5_code 81 = .ok (.iload_n 2, 1) := by decide +kernel
theorem d7_82 : decode method_5_code 82 = .ok (.iconst 3, 1) := by decide +kernel
theorem d7_83 : decode method_5_code 83 = .ok (.iload 7, 2) := by decide +kernel
theorem d7_85 : decode method_5_code 85 = .ok (.iconst 0, 1) := by decide +kernel
theorem d7_86 : decode method_5_code 86 = .ok (.invokestatic 27, 3) := by decide +kernel
theorem d7_89 : decode method_5_code 89 = .ok (.iadd, 1) := by decide +kernel
theorem d7_90 : decode method_5_code 90 = .ok (.istore 9, 2) := by decide +kernel
theorem d7_92 : decode method_5_code 92 = .ok (.iload_n 2, 1) := by decide +kernel
theorem d7_93 : decode method_5_code 93 = .ok (.iconst 0, 1) := by decide +kernel
theorem d7_94 : decode method_5_code 94 = .ok (.iload 4, 2) := by decide +kernel
theorem d7_96 : decode method_5_code 96 = .ok (.iconst 1, 1) := by decide +kernel
theorem d7_97 : decode method_5_code 97 = .ok (.invokestatic 27, 3) := by decide +kernel
theorem d7_100 : decode method_5_code 100 = .ok (.iload_n 2, 1) := by decide +kernel
theorem d7_101 : decode method_5_code 101 = .ok (.iconst 1, 1) := by decide +kernel
theorem d7_102 : decode method_5_code 102 = .ok (.iload 5, 2) := by decide +kernel
theorem d7_104 : decode method_5_code 104 = .ok (.iconst 1, 1) := by decide +kernel
theorem d7_105 : decode method_5_code 105 = .ok (.invokestatic 27, 3) := by decide +kernel
theorem d7_108 : decode method_5_code 108 = .ok (.iadd, 1) := by decide +kernel
theorem d7_109 : decode method_5_code 109 = .ok (.iload_n 2, 1) := by decide +kernel
theorem d7_110 : decode method_5_code 110 = .ok (.iconst 2, 1) := by decide +kernel
theorem d7_111 : decode method_5_code 111 = .ok (.iload 6, 2) := by decide +kernel
theorem d7_113 : decode method_5_code 113 = .ok (.iconst 1, 1) := by decide +kernel
theorem d7_114 : decode method_5_code 114 = .ok (.invokestatic 27, 3) := by decide +kernel
theorem d7_117 : decode method_5_code 117 = .ok (.iadd, 1) := by decide +kernel
theorem d7_118 : decode method_5_code 118 = .ok (.iload_n 2, 1) := by decide +kernel
theorem d7_119 : decode method_5_code 119 = .ok (.iconst 3, 1) := by decide +kernel
theorem d7_120 : decode method_5_code 120 = .ok (.iload 7, 2) := by decide +kernel
theorem d7_122 : decode method_5_code 122 = .ok (.iconst 1, 1) := by decide +kernel
theorem d7_123 : decode method_5_code 123 = .ok (.invokestatic 27, 3) := by decide +kernel
theorem d7_126 : decode method_5_code 126 = .ok (.iadd, 1) := by decide +kernel
theorem d7_127 : decode method_5_code 127 = .ok (.istore 10, 2) := by decide +kernel
theorem d7_129 : decode method_5_code 129 = .ok (.iload_n 2, 1) := by decide +kernel
theorem d7_130 : decode method_5_code 130 = .ok (.iconst 0, 1) := by decide +kernel
theorem d7_131 : decode method_5_code 131 = .ok (.iload 4, 2) := by decide +kernel
theorem d7_133 : decode method_5_code 133 = .ok (.iconst 2, 1) := by decide +kernel
theorem d7_134 : decode method_5_code 134 = .ok (.invokestatic 27, 3) := by decide +kernel
theorem d7_137 : decode method_5_code 137 = .ok (.iload_n 2, 1) := by decide +kernel
theorem d7_138 : decode method_5_code 138 = .ok (.iconst 1, 1) := by decide +kernel
theorem d7_139 : decode method_5_code 139 = .ok (.iload 5, 2) := by decide +kernel
theorem d7_141 : decode method_5_code 141 = .ok (.iconst 2, 1) := by decide +kernel
theorem d7_142 : decode method_5_code 142 = .ok (.invokestatic 27, 3) := by decide +kernel
theorem d7_145 : decode method_5_code 145 = .ok (.iadd, 1) := by decide +kernel
theorem d7_146 : decode method_5_code 146 = .ok (.iload_n 2, 1) := by decide +kernel
theorem d7_147 : decode method_5_code 147 = .ok (.iconst 2, 1) := by decide +kernel
theorem d7_148 : decode method_5_code 148 = .ok (.iload 6, 2) := by decide +kernel
theorem d7_150 : decode method_5_code 150 = .ok (.iconst 2, 1) := by decide +kernel
theorem d7_151 : decode method_5_code 151 = .ok (.invokestatic 27, 3) := by decide +kernel
theorem d7_154 : decode method_5_code 154 = .ok (.iadd, 1) := by decide +kernel
theorem d7_155 : decode method_5_code 155 = .ok (.iload_n 2, 1) := by decide +kernel
theorem d7_156 : decode method_5_code 156 = .ok (.iconst 3, 1) := by decide +kernel
theorem d7_157 : decode method_5_code 157 = .ok (.iload 7, 2) := by decide +kernel
theorem d7_159 : decode method_5_code 159 = .ok (.iconst 2, 1) := by decide +kernel
theorem d7_160 : decode method_5_code 160 = .ok (.invokestatic 27, 3) := by decide +kernel
theorem d7_163 : decode method_5_code 163 = .ok (.iadd, 1) := by decide +kernel
theorem d7_164 : decode method_5_code 164 = .ok (.istore 11, 2) := by decide +kernel
theorem d7_166 : decode method_5_code 166 = .ok (.iload 8, 2) := by decide +kernel
theorem d7_168 : decode method_5_code 168 = .ok (.ifCond .eq 31, 3) := by decide +kernel
theorem d7_171 : decode method_5_code 171 = .ok (.iload 9, 2) := by decide +kernel
theorem d7_173 : decode method_5_code 173 = .ok (.aload_n 3, 1) := by decide +kernel
theorem d7_174 : decode method_5_code 174 = .ok (.iconst 0, 1) := by decide +kernel
theorem d7_175 : decode method_5_code 175 = .ok (.iaload, 1) := by decide +kernel
theorem d7_176 : decode method_5_code 176 = .ok (.if_icmp .ne 23, 3) := by decide +kernel
theorem d7_179 : decode method_5_code 179 = .ok (.iload 10, 2) := by decide +kernel
theorem d7_181 : decode method_5_code 181 = .ok (.aload_n 3, 1) := by decide +kernel
theorem d7_182 : decode method_5_code 182 = .ok (.iconst 1, 1) := by decide +kernel
theorem d7_183 : decode method_5_code 183 = .ok (.iaload, 1) := by decide +kernel
theorem d7_184 : decode method_5_code 184 = .ok (.if_icmp .ne 15, 3) := by decide +kernel
theorem d7_187 : decode method_5_code 187 = .ok (.iload 11, 2) := by decide +kernel
theorem d7_189 : decode method_5_code 189 = .ok (.aload_n 3, 1) := by decide +kernel
theorem d7_190 : decode method_5_code 190 = .ok (.iconst 2, 1) := by decide +kernel
theorem d7_191 : decode method_5_code 191 = .ok (.iaload, 1) := by decide +kernel
theorem d7_192 : decode method_5_code 192 = .ok (.if_icmp .ne 7, 3) := by decide +kernel
theorem d7_195 : decode method_5_code 195 = .ok (.lconst 1, 1) := by decide +kernel
theorem d7_196 : decode method_5_code 196 = .ok (.goto 4, 3) := by decide +kernel
theorem d7_199 : decode method_5_code 199 = .ok (.lconst 0, 1) := by decide +kernel
theorem d7_200 : decode method_5_code 200 = .ok (.lreturn, 1) := by decide +kernel
theorem ef_7 (m : MethodId) (x0 : Addr) (x1 : Addr) (x2 : Int32) (x3 : Addr) (x4 : Int32) (x5 : Int32) (x6 : Int32) (x7 : Int32) : entryFrame m #[(.ref x0), (.ref x1), (.int x2), (.ref x3), (.int x4), (.int x5), (.int x6), (.int x7)] 12 = mkF m 0 #[.val (.ref x0), .val (.ref x1), .val (.int x2), .val (.ref x3), .val (.int x4), .val (.int x5), .val (.int x6), .val (.int x7), .unset, .unset, .unset, .unset] [] := by first | (simp [entryFrame, mkF, argsToLocals, Value.category]; done) | rfl
theorem pd_1 : parseMethodDescriptor "([J[IIII)Z" = some ⟨[(.array .long), (.array .int), .int, .int, .int], some .boolean⟩ := by decide +kernel
theorem pd_2 : parseMethodDescriptor "(IIII)I" = some ⟨[.int, .int, .int, .int], some .int⟩ := by decide +kernel
set_option maxRecDepth 65536 in
set_option maxHeartbeats 40000000 in
theorem rm7 (l : Launch) (Z : State) (a0 : Array Value) (hw : ∀ d ∈ tables_1, d.before a0 Z = true) (ea : Addr) (pa : Addr) (sa : Addr) (e0 : Int64) (e1 : Int64) (e2 : Int64) (q0 : Int32) (q1 : Int32) (q2 : Int32) (q3 : Int32) (n : Int32) (s0 : Int32) (s1 : Int32) (s2 : Int32) (a : Int32) (b : Int32) (d : Int32) (g : Int32) (h0 : Heap) (n0 : Nat) (Z0 : n0 ≤ h0.size) (kE kP : ClassId) (VE : Arv Z h0 ea kE .long (3 : Int32) [(.long e0), (.long e1), (.long e2)] (.long (0 : Int64))) (VP : Arv Z h0 pa kP .int (4 : Int32) [(.int q0), (.int q1), (.int q2), (.int q3)] (.int (0 : Int32))) (kS : ClassId) (VS : Arv Z h0 sa kS .int (3 : Int32) [(.int s0), (.int s1), (.int s2)] (.int (0 : Int32))) (ha : ¬ a < 0 ∧ a < (3 : Int32)) (hb : ¬ b < 0 ∧ b < (3 : Int32)) (hd : ¬ d < 0 ∧ d < (3 : Int32)) (hg : ¬ g < 0 ∧ g < (3 : Int32)) :
    Con l Z (⟨"com/example/widowbid/widowbid/WorldsCountPinLaw", "one", "([J[II[IIIII)J"⟩ : MethodName) method_5_code 12 (some .long) ({ frames := 1, cells := 0, slots := 0, locals := 20 } : Room) #[(.ref ea), (.ref pa), (.int n), (.ref sa), (.int a), (.int b), (.int d), (.int g)] h0 n0 (fun v h => v = some (.long (oneF e0 e1 e2 q0 q1 q2 q3 n s0 s1 s2 a b d g)) ∧ h = h0) := by
  refine Con.of (own := "com/example/widowbid/widowbid/WorldsCountPinLaw") (name := "one") (plainFor_of_name pn_2) (fun m => ef_7 m ea pa n sa a b d g) rfl rfl ?_
  intro p e s m below meth c T F S cx st
  suffices J53 : ∀ T, S 0 0 T h0 → ∀ ok : Int32, ok = okF e0 e1 e2 q0 q1 q2 q3 n a b d g → F T (mkF m 53 #[.val (.ref ea), .val (.ref pa), .val (.int n), .val (.ref sa), .val (.int a), .val (.int b), .val (.int d), .val (.int g), .unset, .unset, .unset, .unset] [.int ok]) by
    refine E_aloadN (pc' := 1) cx st d7_0 rfl rfl rfl ?_
    refine E_aloadN (pc' := 2) cx st d7_1 rfl rfl rfl ?_
    refine E_iloadN (pc' := 3) cx st d7_2 rfl rfl ?_
    refine E_iconst (pc' := 4) cx st (0 : Int32) d7_3 rfl rfl ?_
    refine E_iload (pc' := 6) cx st d7_4 rfl rfl ?_
    refine E_callS (pc' := 9) (kc' := 0) (ks' := 0) (W := 0) (argsL := [(.ref ea), (.ref pa), (.int n), (.int (0 : Int32)), (.int a)]) cx st [] (rm8 l Z a0 hw ea pa e0 e1 e2 q0 q1 q2 q3 n (0 : Int32) a h0 n0 Z0 kE kP VE VP ⟨by decide, by decide⟩ ha) (hw _ (List.mem_of_getElem? (i := 58) rfl)) (hw _ (List.mem_of_getElem? (i := 59) rfl)) (hw _ (List.mem_of_getElem? (i := 47) rfl)) (hw _ (List.mem_of_getElem? (i := 60) rfl)) d7_6 rfl rfl (lenOf pd_1 rfl) (Nat.le_of_eq rfl) (by decide) (by decide) (by decide) (by decide) (by decide) (by decide) (by decide) rfl ?_
    intro v1 T1 h1 st1 hq1
    obtain ⟨rfl, hh1⟩ := hq1
    rw [hh1] at st1
    by_cases c2 : (fiF e0 e1 e2 q0 q1 q2 q3 n (0 : Int32) a) = (0 : Int32)
    · refine E_if_eqY (pc' := 52) cx st1 d7_9 (by decide) (by decide) c2 ?_
      refine E_iconst (pc' := 53) cx st1 (0 : Int32) d7_52 rfl rfl ?_
      have ho : okF e0 e1 e2 q0 q1 q2 q3 n a b d g = (0 : Int32) := by unfold okF; rw [if_pos c2]
      exact J53 T1 st1 _ ho.symm
    · refine E_if_eqN (pc' := 12) cx st1 d7_9 rfl c2 ?_
      refine E_aloadN (pc' := 13) cx st1 d7_12 rfl rfl rfl ?_
      refine E_aloadN (pc' := 14) cx st1 d7_13 rfl rfl rfl ?_
      refine E_iloadN (pc' := 15) cx st1 d7_14 rfl rfl ?_
      refine E_iconst (pc' := 16) cx st1 (1 : Int32) d7_15 rfl rfl ?_
      refine E_iload (pc' := 18) cx st1 d7_16 rfl rfl ?_
      refine E_callS (pc' := 21) (kc' := 0) (ks' := 0) (W := 0) (argsL := [(.ref ea), (.ref pa), (.int n), (.int (1 : Int32)), (.int b)]) cx st1 [] (rm8 l Z a0 hw ea pa e0 e1 e2 q0 q1 q2 q3 n (1 : Int32) b h0 n0 Z0 kE kP VE VP ⟨by decide, by decide⟩ hb) (hw _ (List.mem_of_getElem? (i := 58) rfl)) (hw _ (List.mem_of_getElem? (i := 59) rfl)) (hw _ (List.mem_of_getElem? (i := 47) rfl)) (hw _ (List.mem_of_getElem? (i := 60) rfl)) d7_18 rfl rfl (lenOf pd_1 rfl) (Nat.le_of_eq rfl) (by decide) (by decide) (by decide) (by decide) (by decide) (by decide) (by decide) rfl ?_
      intro v3 T3 h3 st3 hq3
      obtain ⟨rfl, hh3⟩ := hq3
      rw [hh3] at st3
      by_cases c4 : (fiF e0 e1 e2 q0 q1 q2 q3 n (1 : Int32) b) = (0 : Int32)
      · refine E_if_eqY (pc' := 52) cx st3 d7_21 (by decide) (by decide) c4 ?_
        refine E_iconst (pc' := 53) cx st3 (0 : Int32) d7_52 rfl rfl ?_
        have ho : okF e0 e1 e2 q0 q1 q2 q3 n a b d g = (0 : Int32) := by unfold okF; rw [if_neg c2, if_pos c4]
        exact J53 T3 st3 _ ho.symm
      · refine E_if_eqN (pc' := 24) cx st3 d7_21 rfl c4 ?_
        refine E_aloadN (pc' := 25) cx st3 d7_24 rfl rfl rfl ?_
        refine E_aloadN (pc' := 26) cx st3 d7_25 rfl rfl rfl ?_
        refine E_iloadN (pc' := 27) cx st3 d7_26 rfl rfl ?_
        refine E_iconst (pc' := 28) cx st3 (2 : Int32) d7_27 rfl rfl ?_
        refine E_iload (pc' := 30) cx st3 d7_28 rfl rfl ?_
        refine E_callS (pc' := 33) (kc' := 0) (ks' := 0) (W := 0) (argsL := [(.ref ea), (.ref pa), (.int n), (.int (2 : Int32)), (.int d)]) cx st3 [] (rm8 l Z a0 hw ea pa e0 e1 e2 q0 q1 q2 q3 n (2 : Int32) d h0 n0 Z0 kE kP VE VP ⟨by decide, by decide⟩ hd) (hw _ (List.mem_of_getElem? (i := 58) rfl)) (hw _ (List.mem_of_getElem? (i := 59) rfl)) (hw _ (List.mem_of_getElem? (i := 47) rfl)) (hw _ (List.mem_of_getElem? (i := 60) rfl)) d7_30 rfl rfl (lenOf pd_1 rfl) (Nat.le_of_eq rfl) (by decide) (by decide) (by decide) (by decide) (by decide) (by decide) (by decide) rfl ?_
        intro v5 T5 h5 st5 hq5
        obtain ⟨rfl, hh5⟩ := hq5
        rw [hh5] at st5
        by_cases c6 : (fiF e0 e1 e2 q0 q1 q2 q3 n (2 : Int32) d) = (0 : Int32)
        · refine E_if_eqY (pc' := 52) cx st5 d7_33 (by decide) (by decide) c6 ?_
          refine E_iconst (pc' := 53) cx st5 (0 : Int32) d7_52 rfl rfl ?_
          have ho : okF e0 e1 e2 q0 q1 q2 q3 n a b d g = (0 : Int32) := by unfold okF; rw [if_neg c2, if_neg c4, if_pos c6]
          exact J53 T5 st5 _ ho.symm
        · refine E_if_eqN (pc' := 36) cx st5 d7_33 rfl c6 ?_
          refine E_aloadN (pc' := 37) cx st5 d7_36 rfl rfl rfl ?_
          refine E_aloadN (pc' := 38) cx st5 d7_37 rfl rfl rfl ?_
          refine E_iloadN (pc' := 39) cx st5 d7_38 rfl rfl ?_
          refine E_iconst (pc' := 40) cx st5 (3 : Int32) d7_39 rfl rfl ?_
          refine E_iload (pc' := 42) cx st5 d7_40 rfl rfl ?_
          refine E_callS (pc' := 45) (kc' := 0) (ks' := 0) (W := 0) (argsL := [(.ref ea), (.ref pa), (.int n), (.int (3 : Int32)), (.int g)]) cx st5 [] (rm8 l Z a0 hw ea pa e0 e1 e2 q0 q1 q2 q3 n (3 : Int32) g h0 n0 Z0 kE kP VE VP ⟨by decide, by decide⟩ hg) (hw _ (List.mem_of_getElem? (i := 58) rfl)) (hw _ (List.mem_of_getElem? (i := 59) rfl)) (hw _ (List.mem_of_getElem? (i := 47) rfl)) (hw _ (List.mem_of_getElem? (i := 60) rfl)) d7_42 rfl rfl (lenOf pd_1 rfl) (Nat.le_of_eq rfl) (by decide) (by decide) (by decide) (by decide) (by decide) (by decide) (by decide) rfl ?_
          intro v7 T7 h7 st7 hq7
          obtain ⟨rfl, hh7⟩ := hq7
          rw [hh7] at st7
          by_cases c8 : (fiF e0 e1 e2 q0 q1 q2 q3 n (3 : Int32) g) = (0 : Int32)
          · refine E_if_eqY (pc' := 52) cx st7 d7_45 (by decide) (by decide) c8 ?_
            refine E_iconst (pc' := 53) cx st7 (0 : Int32) d7_52 rfl rfl ?_
            have ho : okF e0 e1 e2 q0 q1 q2 q3 n a b d g = (0 : Int32) := by unfold okF; rw [if_neg c2, if_neg c4, if_neg c6, if_pos c8]
            exact J53 T7 st7 _ ho.symm
          · refine E_if_eqN (pc' := 48) cx st7 d7_45 rfl c8 ?_
            refine E_iconst (pc' := 49) cx st7 (1 : Int32) d7_48 rfl rfl ?_
            refine E_goto (pc' := 53) cx st7 d7_49 (by decide) (by decide) ?_
            have ho : okF e0 e1 e2 q0 q1 q2 q3 n a b d g = (1 : Int32) := by unfold okF; rw [if_neg c2, if_neg c4, if_neg c6, if_neg c8]
            exact J53 T7 st7 _ ho.symm
  intro T st ok hok
  refine E_istore (pc' := 55) (L' := #[.val (.ref ea), .val (.ref pa), .val (.int n), .val (.ref sa), .val (.int a), .val (.int b), .val (.int d), .val (.int g), .val (.int ok), .unset, .unset, .unset]) cx st d7_53 rfl rfl ?_
  refine E_iloadN (pc' := 56) cx st d7_55 rfl rfl ?_
  refine E_iconst (pc' := 57) cx st (0 : Int32) d7_56 rfl rfl ?_
  refine E_iload (pc' := 59) cx st d7_57 rfl rfl ?_
  refine E_iconst (pc' := 60) cx st (0 : Int32) d7_59 rfl rfl ?_
  refine E_callS (pc' := 63) (kc' := 0) (ks' := 0) (W := 0) (argsL := [(.int n), (.int (0 : Int32)), (.int a), (.int (0 : Int32))]) cx st [] (rm9 l Z a0 hw n (0 : Int32) a (0 : Int32) h0 n0 Z0) (hw _ (List.mem_of_getElem? (i := 61) rfl)) (hw _ (List.mem_of_getElem? (i := 62) rfl)) (hw _ (List.mem_of_getElem? (i := 47) rfl)) (hw _ (List.mem_of_getElem? (i := 63) rfl)) d7_60 rfl rfl (lenOf pd_2 rfl) (Nat.le_of_eq rfl) (by decide) (by decide) (by decide) (by decide) (by decide) (by decide) (by decide) rfl ?_
  intro v9 T9 h9 st9 hq9
  obtain ⟨rfl, hh9⟩ := hq9
  rw [hh9] at st9
  refine E_iloadN (pc' := 64) cx st9 d7_63 rfl rfl ?_
  refine E_iconst (pc' := 65) cx st9 (1 : Int32) d7_64 rfl rfl ?_
  refine E_iload (pc' := 67) cx st9 d7_65 rfl rfl ?_
  refine E_iconst (pc' := 68) cx st9 (0 : Int32) d7_67 rfl rfl ?_
  refine E_callS (pc' := 71) (kc' := 0) (ks' := 0) (W := 1) (argsL := [(.int n), (.int (1 : Int32)), (.int b), (.int (0 : Int32))]) cx st9 [(.int (inF n (0 : Int32) a (0 : Int32)))] (rm9 l Z a0 hw n (1 : Int32) b (0 : Int32) h0 n0 Z0) (hw _ (List.mem_of_getElem? (i := 61) rfl)) (hw _ (List.mem_of_getElem? (i := 62) rfl)) (hw _ (List.mem_of_getElem? (i := 47) rfl)) (hw _ (List.mem_of_getElem? (i := 63) rfl)) d7_68 rfl rfl (lenOf pd_2 rfl) (Nat.le_of_eq rfl) (by decide) (by decide) (by decide) (by decide) (by decide) (by decide) (by decide) rfl ?_
  intro v10 T10 h10 st10 hq10
  obtain ⟨rfl, hh10⟩ := hq10
  rw [hh10] at st10
  refine E_iadd (pc' := 72) cx st10 d7_71 rfl ?_
  refine E_iloadN (pc' := 73) cx st10 d7_72 rfl rfl ?_
  refine E_iconst (pc' := 74) cx st10 (2 : Int32) d7_73 rfl rfl ?_
  refine E_iload (pc' := 76) cx st10 d7_74 rfl rfl ?_
  refine E_iconst (pc' := 77) cx st10 (0 : Int32) d7_76 rfl rfl ?_
  refine E_callS (pc' := 80) (kc' := 0) (ks' := 0) (W := 1) (argsL := [(.int n), (.int (2 : Int32)), (.int d), (.int (0 : Int32))]) cx st10 [(.int ((inF n (0 : Int32) a (0 : Int32)) + (inF n (1 : Int32) b (0 : Int32))))] (rm9 l Z a0 hw n (2 : Int32) d (0 : Int32) h0 n0 Z0) (hw _ (List.mem_of_getElem? (i := 61) rfl)) (hw _ (List.mem_of_getElem? (i := 62) rfl)) (hw _ (List.mem_of_getElem? (i := 47) rfl)) (hw _ (List.mem_of_getElem? (i := 63) rfl)) d7_77 rfl rfl (lenOf pd_2 rfl) (Nat.le_of_eq rfl) (by decide) (by decide) (by decide) (by decide) (by decide) (by decide) (by decide) rfl ?_
  intro v11 T11 h11 st11 hq11
  obtain ⟨rfl, hh11⟩ := hq11
  rw [hh11] at st11
  refine E_iadd (pc' := 81) cx st11 d7_80 rfl ?_
  refine E_iloadN (pc' := 82) cx st11 d7_81 rfl rfl ?_
  refine E_iconst (pc' := 83) cx st11 (3 : Int32) d7_82 rfl rfl ?_
  refine E_iload (pc' := 85) cx st11 d7_83 rfl rfl ?_
  refine E_iconst (pc' := 86) cx st11 (0 : Int32) d7_85 rfl rfl ?_
  refine E_callS (pc' := 89) (kc' := 0) (ks' := 0) (W := 1) (argsL := [(.int n), (.int (3 : Int32)), (.int g), (.int (0 : Int32))]) cx st11 [(.int (((inF n (0 : Int32) a (0 : Int32)) + (inF n (1 : Int32) b (0 : Int32))) + (inF n (2 : Int32) d (0 : Int32))))] (rm9 l Z a0 hw n (3 : Int32) g (0 : Int32) h0 n0 Z0) (hw _ (List.mem_of_getElem? (i := 61) rfl)) (hw _ (List.mem_of_getElem? (i := 62) rfl)) (hw _ (List.mem_of_getElem? (i := 47) rfl)) (hw _ (List.mem_of_getElem? (i := 63) rfl)) d7_86 rfl rfl (lenOf pd_2 rfl) (Nat.le_of_eq rfl) (by decide) (by decide) (by decide) (by decide) (by decide) (by decide) (by decide) rfl ?_
  intro v12 T12 h12 st12 hq12
  obtain ⟨rfl, hh12⟩ := hq12
  rw [hh12] at st12
  refine E_iadd (pc' := 90) cx st12 d7_89 rfl ?_
  refine E_istore (pc' := 92) (L' := #[.val (.ref ea), .val (.ref pa), .val (.int n), .val (.ref sa), .val (.int a), .val (.int b), .val (.int d), .val (.int g), .val (.int ok), .val (.int ((((inF n (0 : Int32) a (0 : Int32)) + (inF n (1 : Int32) b (0 : Int32))) + (inF n (2 : Int32) d (0 : Int32))) + (inF n (3 : Int32) g (0 : Int32)))), .unset, .unset]) cx st12 d7_90 rfl rfl ?_
  refine E_iloadN (pc' := 93) cx st12 d7_92 rfl rfl ?_
  refine E_iconst (pc' := 94) cx st12 (0 : Int32) d7_93 rfl rfl ?_
  refine E_iload (pc' := 96) cx st12 d7_94 rfl rfl ?_
  refine E_iconst (pc' := 97) cx st12 (1 : Int32) d7_96 rfl rfl ?_
  refine E_callS (pc' := 100) (kc' := 0) (ks' := 0) (W := 0) (argsL := [(.int n), (.int (0 : Int32)), (.int a), (.int (1 : Int32))]) cx st12 [] (rm9 l Z a0 hw n (0 : Int32) a (1 : Int32) h0 n0 Z0) (hw _ (List.mem_of_getElem? (i := 61) rfl)) (hw _ (List.mem_of_getElem? (i := 62) rfl)) (hw _ (List.mem_of_getElem? (i := 47) rfl)) (hw _ (List.mem_of_getElem? (i := 63) rfl)) d7_97 rfl rfl (lenOf pd_2 rfl) (Nat.le_of_eq rfl) (by decide) (by decide) (by decide) (by decide) (by decide) (by decide) (by decide) rfl ?_
  intro v13 T13 h13 st13 hq13
  obtain ⟨rfl, hh13⟩ := hq13
  rw [hh13] at st13
  refine E_iloadN (pc' := 101) cx st13 d7_100 rfl rfl ?_
  refine E_iconst (pc' := 102) cx st13 (1 : Int32) d7_101 rfl rfl ?_
  refine E_iload (pc' := 104) cx st13 d7_102 rfl rfl ?_
  refine E_iconst (pc' := 105) cx st13 (1 : Int32) d7_104 rfl rfl ?_
  refine E_callS (pc' := 108) (kc' := 0) (ks' := 0) (W := 1) (argsL := [(.int n), (.int (1 : Int32)), (.int b), (.int (1 : Int32))]) cx st13 [(.int (inF n (0 : Int32) a (1 : Int32)))] (rm9 l Z a0 hw n (1 : Int32) b (1 : Int32) h0 n0 Z0) (hw _ (List.mem_of_getElem? (i := 61) rfl)) (hw _ (List.mem_of_getElem? (i := 62) rfl)) (hw _ (List.mem_of_getElem? (i := 47) rfl)) (hw _ (List.mem_of_getElem? (i := 63) rfl)) d7_105 rfl rfl (lenOf pd_2 rfl) (Nat.le_of_eq rfl) (by decide) (by decide) (by decide) (by decide) (by decide) (by decide) (by decide) rfl ?_
  intro v14 T14 h14 st14 hq14
  obtain ⟨rfl, hh14⟩ := hq14
  rw [hh14] at st14
  refine E_iadd (pc' := 109) cx st14 d7_108 rfl ?_
  refine E_iloadN (pc' := 110) cx st14 d7_109 rfl rfl ?_
  refine E_iconst (pc' := 111) cx st14 (2 : Int32) d7_110 rfl rfl ?_
  refine E_iload (pc' := 113) cx st14 d7_111 rfl rfl ?_
  refine E_iconst (pc' := 114) cx st14 (1 : Int32) d7_113 rfl rfl ?_
  refine E_callS (pc' := 117) (kc' := 0) (ks' := 0) (W := 1) (argsL := [(.int n), (.int (2 : Int32)), (.int d), (.int (1 : Int32))]) cx st14 [(.int ((inF n (0 : Int32) a (1 : Int32)) + (inF n (1 : Int32) b (1 : Int32))))] (rm9 l Z a0 hw n (2 : Int32) d (1 : Int32) h0 n0 Z0) (hw _ (List.mem_of_getElem? (i := 61) rfl)) (hw _ (List.mem_of_getElem? (i := 62) rfl)) (hw _ (List.mem_of_getElem? (i := 47) rfl)) (hw _ (List.mem_of_getElem? (i := 63) rfl)) d7_114 rfl rfl (lenOf pd_2 rfl) (Nat.le_of_eq rfl) (by decide) (by decide) (by decide) (by decide) (by decide) (by decide) (by decide) rfl ?_
  intro v15 T15 h15 st15 hq15
  obtain ⟨rfl, hh15⟩ := hq15
  rw [hh15] at st15
  refine E_iadd (pc' := 118) cx st15 d7_117 rfl ?_
  refine E_iloadN (pc' := 119) cx st15 d7_118 rfl rfl ?_
  refine E_iconst (pc' := 120) cx st15 (3 : Int32) d7_119 rfl rfl ?_
  refine E_iload (pc' := 122) cx st15 d7_120 rfl rfl ?_
  refine E_iconst (pc' := 123) cx st15 (1 : Int32) d7_122 rfl rfl ?_
  refine E_callS (pc' := 126) (kc' := 0) (ks' := 0) (W := 1) (argsL := [(.int n), (.int (3 : Int32)), (.int g), (.int (1 : Int32))]) cx st15 [(.int (((inF n (0 : Int32) a (1 : Int32)) + (inF n (1 : Int32) b (1 : Int32))) + (inF n (2 : Int32) d (1 : Int32))))] (rm9 l Z a0 hw n (3 : Int32) g (1 : Int32) h0 n0 Z0) (hw _ (List.mem_of_getElem? (i := 61) rfl)) (hw _ (List.mem_of_getElem? (i := 62) rfl)) (hw _ (List.mem_of_getElem? (i := 47) rfl)) (hw _ (List.mem_of_getElem? (i := 63) rfl)) d7_123 rfl rfl (lenOf pd_2 rfl) (Nat.le_of_eq rfl) (by decide) (by decide) (by decide) (by decide) (by decide) (by decide) (by decide) rfl ?_
  intro v16 T16 h16 st16 hq16
  obtain ⟨rfl, hh16⟩ := hq16
  rw [hh16] at st16
  refine E_iadd (pc' := 127) cx st16 d7_126 rfl ?_
  refine E_istore (pc' := 129) (L' := #[.val (.ref ea), .val (.ref pa), .val (.int n), .val (.ref sa), .val (.int a), .val (.int b), .val (.int d), .val (.int g), .val (.int ok), .val (.int ((((inF n (0 : Int32) a (0 : Int32)) + (inF n (1 : Int32) b (0 : Int32))) + (inF n (2 : Int32) d (0 : Int32))) + (inF n (3 : Int32) g (0 : Int32)))), .val (.int ((((inF n (0 : Int32) a (1 : Int32)) + (inF n (1 : Int32) b (1 : Int32))) + (inF n (2 : Int32) d (1 : Int32))) + (inF n (3 : Int32) g (1 : Int32)))), .unset]) cx st16 d7_127 rfl rfl ?_
  refine E_iloadN (pc' := 130) cx st16 d7_129 rfl rfl ?_
  refine E_iconst (pc' := 131) cx st16 (0 : Int32) d7_130 rfl rfl ?_
  refine E_iload (pc' := 133) cx st16 d7_131 rfl rfl ?_
  refine E_iconst (pc' := 134) cx st16 (2 : Int32) d7_133 rfl rfl ?_
  refine E_callS (pc' := 137) (kc' := 0) (ks' := 0) (W := 0) (argsL := [(.int n), (.int (0 : Int32)), (.int a), (.int (2 : Int32))]) cx st16 [] (rm9 l Z a0 hw n (0 : Int32) a (2 : Int32) h0 n0 Z0) (hw _ (List.mem_of_getElem? (i := 61) rfl)) (hw _ (List.mem_of_getElem? (i := 62) rfl)) (hw _ (List.mem_of_getElem? (i := 47) rfl)) (hw _ (List.mem_of_getElem? (i := 63) rfl)) d7_134 rfl rfl (lenOf pd_2 rfl) (Nat.le_of_eq rfl) (by decide) (by decide) (by decide) (by decide) (by decide) (by decide) (by decide) rfl ?_
  intro v17 T17 h17 st17 hq17
  obtain ⟨rfl, hh17⟩ := hq17
  rw [hh17] at st17
  refine E_iloadN (pc' := 138) cx st17 d7_137 rfl rfl ?_
  refine E_iconst (pc' := 139) cx st17 (1 : Int32) d7_138 rfl rfl ?_
  refine E_iload (pc' := 141) cx st17 d7_139 rfl rfl ?_
  refine E_iconst (pc' := 142) cx st17 (2 : Int32) d7_141 rfl rfl ?_
  refine E_callS (pc' := 145) (kc' := 0) (ks' := 0) (W := 1) (argsL := [(.int n), (.int (1 : Int32)), (.int b), (.int (2 : Int32))]) cx st17 [(.int (inF n (0 : Int32) a (2 : Int32)))] (rm9 l Z a0 hw n (1 : Int32) b (2 : Int32) h0 n0 Z0) (hw _ (List.mem_of_getElem? (i := 61) rfl)) (hw _ (List.mem_of_getElem? (i := 62) rfl)) (hw _ (List.mem_of_getElem? (i := 47) rfl)) (hw _ (List.mem_of_getElem? (i := 63) rfl)) d7_142 rfl rfl (lenOf pd_2 rfl) (Nat.le_of_eq rfl) (by decide) (by decide) (by decide) (by decide) (by decide) (by decide) (by decide) rfl ?_
  intro v18 T18 h18 st18 hq18
  obtain ⟨rfl, hh18⟩ := hq18
  rw [hh18] at st18
  refine E_iadd (pc' := 146) cx st18 d7_145 rfl ?_
  refine E_iloadN (pc' := 147) cx st18 d7_146 rfl rfl ?_
  refine E_iconst (pc' := 148) cx st18 (2 : Int32) d7_147 rfl rfl ?_
  refine E_iload (pc' := 150) cx st18 d7_148 rfl rfl ?_
  refine E_iconst (pc' := 151) cx st18 (2 : Int32) d7_150 rfl rfl ?_
  refine E_callS (pc' := 154) (kc' := 0) (ks' := 0) (W := 1) (argsL := [(.int n), (.int (2 : Int32)), (.int d), (.int (2 : Int32))]) cx st18 [(.int ((inF n (0 : Int32) a (2 : Int32)) + (inF n (1 : Int32) b (2 : Int32))))] (rm9 l Z a0 hw n (2 : Int32) d (2 : Int32) h0 n0 Z0) (hw _ (List.mem_of_getElem? (i := 61) rfl)) (hw _ (List.mem_of_getElem? (i := 62) rfl)) (hw _ (List.mem_of_getElem? (i := 47) rfl)) (hw _ (List.mem_of_getElem? (i := 63) rfl)) d7_151 rfl rfl (lenOf pd_2 rfl) (Nat.le_of_eq rfl) (by decide) (by decide) (by decide) (by decide) (by decide) (by decide) (by decide) rfl ?_
  intro v19 T19 h19 st19 hq19
  obtain ⟨rfl, hh19⟩ := hq19
  rw [hh19] at st19
  refine E_iadd (pc' := 155) cx st19 d7_154 rfl ?_
  refine E_iloadN (pc' := 156) cx st19 d7_155 rfl rfl ?_
  refine E_iconst (pc' := 157) cx st19 (3 : Int32) d7_156 rfl rfl ?_
  refine E_iload (pc' := 159) cx st19 d7_157 rfl rfl ?_
  refine E_iconst (pc' := 160) cx st19 (2 : Int32) d7_159 rfl rfl ?_
  refine E_callS (pc' := 163) (kc' := 0) (ks' := 0) (W := 1) (argsL := [(.int n), (.int (3 : Int32)), (.int g), (.int (2 : Int32))]) cx st19 [(.int (((inF n (0 : Int32) a (2 : Int32)) + (inF n (1 : Int32) b (2 : Int32))) + (inF n (2 : Int32) d (2 : Int32))))] (rm9 l Z a0 hw n (3 : Int32) g (2 : Int32) h0 n0 Z0) (hw _ (List.mem_of_getElem? (i := 61) rfl)) (hw _ (List.mem_of_getElem? (i := 62) rfl)) (hw _ (List.mem_of_getElem? (i := 47) rfl)) (hw _ (List.mem_of_getElem? (i := 63) rfl)) d7_160 rfl rfl (lenOf pd_2 rfl) (Nat.le_of_eq rfl) (by decide) (by decide) (by decide) (by decide) (by decide) (by decide) (by decide) rfl ?_
  intro v20 T20 h20 st20 hq20
  obtain ⟨rfl, hh20⟩ := hq20
  rw [hh20] at st20
  refine E_iadd (pc' := 164) cx st20 d7_163 rfl ?_
  refine E_istore (pc' := 166) (L' := #[.val (.ref ea), .val (.ref pa), .val (.int n), .val (.ref sa), .val (.int a), .val (.int b), .val (.int d), .val (.int g), .val (.int ok), .val (.int ((((inF n (0 : Int32) a (0 : Int32)) + (inF n (1 : Int32) b (0 : Int32))) + (inF n (2 : Int32) d (0 : Int32))) + (inF n (3 : Int32) g (0 : Int32)))), .val (.int ((((inF n (0 : Int32) a (1 : Int32)) + (inF n (1 : Int32) b (1 : Int32))) + (inF n (2 : Int32) d (1 : Int32))) + (inF n (3 : Int32) g (1 : Int32)))), .val (.int ((((inF n (0 : Int32) a (2 : Int32)) + (inF n (1 : Int32) b (2 : Int32))) + (inF n (2 : Int32) d (2 : Int32))) + (inF n (3 : Int32) g (2 : Int32))))]) cx st20 d7_164 rfl rfl ?_
  refine E_iload (pc' := 168) cx st20 d7_166 rfl rfl ?_
  by_cases c21 : ok = (0 : Int32)
  · refine E_if_eqY (pc' := 199) cx st20 d7_168 (by decide) (by decide) c21 ?_
    refine E_lconst (pc' := 200) cx st20 (0 : Int64) d7_199 rfl rfl ?_
    refine E_lreturn cx st20 d7_200 rfl (by decide) (by decide) ?_
    exact ⟨by unfold oneF; rw [← hok]; rw [if_pos c21], rfl⟩
  · refine E_if_eqN (pc' := 171) cx st20 d7_168 rfl c21 ?_
    refine E_iload (pc' := 173) cx st20 d7_171 rfl rfl ?_
    refine E_aloadN (pc' := 174) cx st20 d7_173 rfl rfl rfl ?_
    refine E_iconst (pc' := 175) cx st20 (0 : Int32) d7_174 rfl rfl ?_
    refine E_iaload (pc' := 176) (x := s0) cx st20 VS ⟨by decide, by decide⟩ rfl d7_175 rfl ?_
    by_cases c22 : ((((inF n (0 : Int32) a (0 : Int32)) + (inF n (1 : Int32) b (0 : Int32))) + (inF n (2 : Int32) d (0 : Int32))) + (inF n (3 : Int32) g (0 : Int32))) = s0
    · refine E_icmp_neN (pc' := 179) cx st20 d7_176 rfl c22 ?_
      refine E_iload (pc' := 181) cx st20 d7_179 rfl rfl ?_
      refine E_aloadN (pc' := 182) cx st20 d7_181 rfl rfl rfl ?_
      refine E_iconst (pc' := 183) cx st20 (1 : Int32) d7_182 rfl rfl ?_
      refine E_iaload (pc' := 184) (x := s1) cx st20 VS ⟨by decide, by decide⟩ rfl d7_183 rfl ?_
      by_cases c23 : ((((inF n (0 : Int32) a (1 : Int32)) + (inF n (1 : Int32) b (1 : Int32))) + (inF n (2 : Int32) d (1 : Int32))) + (inF n (3 : Int32) g (1 : Int32))) = s1
      · refine E_icmp_neN (pc' := 187) cx st20 d7_184 rfl c23 ?_
        refine E_iload (pc' := 189) cx st20 d7_187 rfl rfl ?_
        refine E_aloadN (pc' := 190) cx st20 d7_189 rfl rfl rfl ?_
        refine E_iconst (pc' := 191) cx st20 (2 : Int32) d7_190 rfl rfl ?_
        refine E_iaload (pc' := 192) (x := s2) cx st20 VS ⟨by decide, by decide⟩ rfl d7_191 rfl ?_
        by_cases c24 : ((((inF n (0 : Int32) a (2 : Int32)) + (inF n (1 : Int32) b (2 : Int32))) + (inF n (2 : Int32) d (2 : Int32))) + (inF n (3 : Int32) g (2 : Int32))) = s2
        · refine E_icmp_neN (pc' := 195) cx st20 d7_192 rfl c24 ?_
          refine E_lconst (pc' := 196) cx st20 (1 : Int64) d7_195 rfl rfl ?_
          refine E_goto (pc' := 200) cx st20 d7_196 (by decide) (by decide) ?_
          refine E_lreturn cx st20 d7_200 rfl (by decide) (by decide) ?_
          exact ⟨by unfold oneF; rw [← hok]; rw [if_neg c21, if_pos c22, if_pos c23, if_pos c24], rfl⟩
        · refine E_icmp_neY (pc' := 199) cx st20 d7_192 (by decide) (by decide) c24 ?_
          refine E_lconst (pc' := 200) cx st20 (0 : Int64) d7_199 rfl rfl ?_
          refine E_lreturn cx st20 d7_200 rfl (by decide) (by decide) ?_
          exact ⟨by unfold oneF; rw [← hok]; rw [if_neg c21, if_pos c22, if_pos c23, if_neg c24], rfl⟩
      · refine E_icmp_neY (pc' := 199) cx st20 d7_184 (by decide) (by decide) c23 ?_
        refine E_lconst (pc' := 200) cx st20 (0 : Int64) d7_199 rfl rfl ?_
        refine E_lreturn cx st20 d7_200 rfl (by decide) (by decide) ?_
        exact ⟨by unfold oneF; rw [← hok]; rw [if_neg c21, if_pos c22, if_neg c23], rfl⟩
    · refine E_icmp_neY (pc' := 199) cx st20 d7_176 (by decide) (by decide) c22 ?_
      refine E_lconst (pc' := 200) cx st20 (0 : Int64) d7_199 rfl rfl ?_
      refine E_lreturn cx st20 d7_200 rfl (by decide) (by decide) ?_
      exact ⟨by unfold oneF; rw [← hok]; rw [if_neg c21, if_neg c22], rfl⟩
def l3F (e0 e1 e2 : Int64) (q0 q1 q2 q3 : Int32) (n s0 s1 s2 : Int32) (a b d : Int32) : Int64 := ((oneF e0 e1 e2 q0 q1 q2 q3 n s0 s1 s2 a b d (0 : Int32) + oneF e0 e1 e2 q0 q1 q2 q3 n s0 s1 s2 a b d (1 : Int32)) + oneF e0 e1 e2 q0 q1 q2 q3 n s0 s1 s2 a b d (2 : Int32))
theorem d6_0 : decode method_6_code 0 = .ok (.aload_n 0, 1) := by decide +kernel
theorem d6_1 : decode method_6_code 1 = .ok (.aload_n 1, 1) := by decide +kernel
theorem d6_2 : decode method_6_code 2 = .ok (.iload_n 2, 1) := by decide +kernel
theorem d6_3 : decode method_6_code 3 = .ok (.aload_n 3, 1) := by decide +kernel
theorem d6_4 : decode method_6_code 4 = .ok (.iload 4, 2) := by decide +kernel
theorem d6_6 : decode method_6_code 6 = .ok (.iload 5, 2) := by decide +kernel
theorem d6_8 : decode method_6_code 8 = .ok (.iload 6, 2) := by decide +kernel
theorem d6_10 : decode method_6_code 10 = .ok (.iconst 0, 1) := by decide +kernel
theorem d6_11 : decode method_6_code 11 = .ok (.invokestatic 31, 3) := by decide +kernel
theorem d6_14 : decode method_6_code 14 = .ok (.aload_n 0, 1) := by decide +kernel
theorem d6_15 : decode method_6_code 15 = .ok (.aload_n 1, 1) := by decide +kernel
theorem d6_16 : decode method_6_code 16 = .ok (.iload_n 2, 1) := by decide +kernel
theorem d6_17 : decode method_6_code 17 = .ok (.aload_n 3, 1) := by decide +kernel
theorem d6_18 : decode method_6_code 18 = .ok (.iload 4, 2) := by decide +kernel
theorem d6_20 : decode method_6_code 20 = .ok (.iload 5, 2) := by decide +kernel
theorem d6_22 : decode method_6_code 22 = .ok (.iload 6, 2) := by decide +kernel
theorem d6_24 : decode method_6_code 24 = .ok (.iconst 1, 1) := by decide +kernel
theorem d6_25 : decode method_6_code 25 = .ok (.invokestatic 31, 3) := by decide +kernel
theorem d6_28 : decode method_6_code 28 = .ok (.ladd, 1) := by decide +kernel
theorem d6_29 : decode method_6_code 29 = .ok (.aload_n 0, 1) := by decide +kernel
theorem d6_30 : decode method_6_code 30 = .ok (.aload_n 1, 1) := by decide +kernel
theorem d6_31 : decode method_6_code 31 = .ok (.iload_n 2, 1) := by decide +kernel
theorem d6_32 : decode method_6_code 32 = .ok (.aload_n 3, 1) := by decide +kernel
theorem d6_33 : decode method_6_code 33 = .ok (.iload 4, 2) := by decide +kernel
theorem d6_35 : decode method_6_code 35 = .ok (.iload 5, 2) := by decide +kernel
theorem d6_37 : decode method_6_code 37 = .ok (.iload 6, 2) := by decide +kernel
theorem d6_39 : decode method_6_code 39 = .ok (.iconst 2, 1) := by decide +kernel
theorem d6_40 : decode method_6_code 40 = .ok (.invokestatic 31, 3) := by decide +kernel
theorem d6_43 : decode method_6_code 43 = .ok (.ladd, 1) := by decide +kernel
theorem d6_44 : decode method_6_code 44 = .ok (.lreturn, 1) := by decide +kernel
theorem ef_6 (m : MethodId) (x0 : Addr) (x1 : Addr) (x2 : Int32) (x3 : Addr) (x4 : Int32) (x5 : Int32) (x6 : Int32) : entryFrame m #[(.ref x0), (.ref x1), (.int x2), (.ref x3), (.int x4), (.int x5), (.int x6)] 7 = mkF m 0 #[.val (.ref x0), .val (.ref x1), .val (.int x2), .val (.ref x3), .val (.int x4), .val (.int x5), .val (.int x6)] [] := by first | (simp [entryFrame, mkF, argsToLocals, Value.category]; done) | rfl
theorem pd_3 : parseMethodDescriptor "([J[II[IIIII)J" = some ⟨[(.array .long), (.array .int), .int, (.array .int), .int, .int, .int, .int], some .long⟩ := by decide +kernel
set_option maxRecDepth 65536 in
set_option maxHeartbeats 40000000 in
theorem rm6 (l : Launch) (Z : State) (a0 : Array Value) (hw : ∀ d ∈ tables_1, d.before a0 Z = true) (ea : Addr) (pa : Addr) (sa : Addr) (e0 : Int64) (e1 : Int64) (e2 : Int64) (q0 : Int32) (q1 : Int32) (q2 : Int32) (q3 : Int32) (n : Int32) (s0 : Int32) (s1 : Int32) (s2 : Int32) (a : Int32) (b : Int32) (d : Int32) (h0 : Heap) (n0 : Nat) (Z0 : n0 ≤ h0.size) (kE kP : ClassId) (VE : Arv Z h0 ea kE .long (3 : Int32) [(.long e0), (.long e1), (.long e2)] (.long (0 : Int64))) (VP : Arv Z h0 pa kP .int (4 : Int32) [(.int q0), (.int q1), (.int q2), (.int q3)] (.int (0 : Int32))) (kS : ClassId) (VS : Arv Z h0 sa kS .int (3 : Int32) [(.int s0), (.int s1), (.int s2)] (.int (0 : Int32))) (ha : ¬ a < 0 ∧ a < (3 : Int32)) (hb : ¬ b < 0 ∧ b < (3 : Int32)) (hd : ¬ d < 0 ∧ d < (3 : Int32)) :
    Con l Z (⟨"com/example/widowbid/widowbid/WorldsCountPinLaw", "l3", "([J[II[IIII)J"⟩ : MethodName) method_6_code 7 (some .long) ({ frames := 2, cells := 0, slots := 0, locals := 45 } : Room) #[(.ref ea), (.ref pa), (.int n), (.ref sa), (.int a), (.int b), (.int d)] h0 n0 (fun v h => v = some (.long (l3F e0 e1 e2 q0 q1 q2 q3 n s0 s1 s2 a b d)) ∧ h = h0) := by
  refine Con.of (own := "com/example/widowbid/widowbid/WorldsCountPinLaw") (name := "l3") (plainFor_of_name pn_2) (fun m => ef_6 m ea pa n sa a b d) rfl rfl ?_
  intro p e s m below meth c T F S cx st
  refine E_aloadN (pc' := 1) cx st d6_0 rfl rfl rfl ?_
  refine E_aloadN (pc' := 2) cx st d6_1 rfl rfl rfl ?_
  refine E_iloadN (pc' := 3) cx st d6_2 rfl rfl ?_
  refine E_aloadN (pc' := 4) cx st d6_3 rfl rfl rfl ?_
  refine E_iload (pc' := 6) cx st d6_4 rfl rfl ?_
  refine E_iload (pc' := 8) cx st d6_6 rfl rfl ?_
  refine E_iload (pc' := 10) cx st d6_8 rfl rfl ?_
  refine E_iconst (pc' := 11) cx st (0 : Int32) d6_10 rfl rfl ?_
  refine E_callS (pc' := 14) (kc' := 0) (ks' := 0) (W := 0) (argsL := [(.ref ea), (.ref pa), (.int n), (.ref sa), (.int a), (.int b), (.int d), (.int (0 : Int32))]) cx st [] (rm7 l Z a0 hw ea pa sa e0 e1 e2 q0 q1 q2 q3 n s0 s1 s2 a b d (0 : Int32) h0 n0 Z0 kE kP VE VP kS VS ha hb hd ⟨by decide, by decide⟩) (hw _ (List.mem_of_getElem? (i := 55) rfl)) (hw _ (List.mem_of_getElem? (i := 56) rfl)) (hw _ (List.mem_of_getElem? (i := 47) rfl)) (hw _ (List.mem_of_getElem? (i := 57) rfl)) d6_11 rfl rfl (lenOf pd_3 rfl) (Nat.le_of_eq rfl) (by decide) (by decide) (by decide) (by decide) (by decide) (by decide) (by decide) rfl ?_
  intro v1 T1 h1 st1 hq1
  obtain ⟨rfl, hh1⟩ := hq1
  rw [hh1] at st1
  refine E_aloadN (pc' := 15) cx st1 d6_14 rfl rfl rfl ?_
  refine E_aloadN (pc' := 16) cx st1 d6_15 rfl rfl rfl ?_
  refine E_iloadN (pc' := 17) cx st1 d6_16 rfl rfl ?_
  refine E_aloadN (pc' := 18) cx st1 d6_17 rfl rfl rfl ?_
  refine E_iload (pc' := 20) cx st1 d6_18 rfl rfl ?_
  refine E_iload (pc' := 22) cx st1 d6_20 rfl rfl ?_
  refine E_iload (pc' := 24) cx st1 d6_22 rfl rfl ?_
  refine E_iconst (pc' := 25) cx st1 (1 : Int32) d6_24 rfl rfl ?_
  refine E_callS (pc' := 28) (kc' := 0) (ks' := 0) (W := 2) (argsL := [(.ref ea), (.ref pa), (.int n), (.ref sa), (.int a), (.int b), (.int d), (.int (1 : Int32))]) cx st1 [(.long (oneF e0 e1 e2 q0 q1 q2 q3 n s0 s1 s2 a b d (0 : Int32)))] (rm7 l Z a0 hw ea pa sa e0 e1 e2 q0 q1 q2 q3 n s0 s1 s2 a b d (1 : Int32) h0 n0 Z0 kE kP VE VP kS VS ha hb hd ⟨by decide, by decide⟩) (hw _ (List.mem_of_getElem? (i := 55) rfl)) (hw _ (List.mem_of_getElem? (i := 56) rfl)) (hw _ (List.mem_of_getElem? (i := 47) rfl)) (hw _ (List.mem_of_getElem? (i := 57) rfl)) d6_25 rfl rfl (lenOf pd_3 rfl) (Nat.le_of_eq rfl) (by decide) (by decide) (by decide) (by decide) (by decide) (by decide) (by decide) rfl ?_
  intro v2 T2 h2 st2 hq2
  obtain ⟨rfl, hh2⟩ := hq2
  rw [hh2] at st2
  refine E_ladd (pc' := 29) cx st2 d6_28 rfl ?_
  refine E_aloadN (pc' := 30) cx st2 d6_29 rfl rfl rfl ?_
  refine E_aloadN (pc' := 31) cx st2 d6_30 rfl rfl rfl ?_
  refine E_iloadN (pc' := 32) cx st2 d6_31 rfl rfl ?_
  refine E_aloadN (pc' := 33) cx st2 d6_32 rfl rfl rfl ?_
  refine E_iload (pc' := 35) cx st2 d6_33 rfl rfl ?_
  refine E_iload (pc' := 37) cx st2 d6_35 rfl rfl ?_
  refine E_iload (pc' := 39) cx st2 d6_37 rfl rfl ?_
  refine E_iconst (pc' := 40) cx st2 (2 : Int32) d6_39 rfl rfl ?_
  refine E_callS (pc' := 43) (kc' := 0) (ks' := 0) (W := 2) (argsL := [(.ref ea), (.ref pa), (.int n), (.ref sa), (.int a), (.int b), (.int d), (.int (2 : Int32))]) cx st2 [(.long ((oneF e0 e1 e2 q0 q1 q2 q3 n s0 s1 s2 a b d (0 : Int32)) + (oneF e0 e1 e2 q0 q1 q2 q3 n s0 s1 s2 a b d (1 : Int32))))] (rm7 l Z a0 hw ea pa sa e0 e1 e2 q0 q1 q2 q3 n s0 s1 s2 a b d (2 : Int32) h0 n0 Z0 kE kP VE VP kS VS ha hb hd ⟨by decide, by decide⟩) (hw _ (List.mem_of_getElem? (i := 55) rfl)) (hw _ (List.mem_of_getElem? (i := 56) rfl)) (hw _ (List.mem_of_getElem? (i := 47) rfl)) (hw _ (List.mem_of_getElem? (i := 57) rfl)) d6_40 rfl rfl (lenOf pd_3 rfl) (Nat.le_of_eq rfl) (by decide) (by decide) (by decide) (by decide) (by decide) (by decide) (by decide) rfl ?_
  intro v3 T3 h3 st3 hq3
  obtain ⟨rfl, hh3⟩ := hq3
  rw [hh3] at st3
  refine E_ladd (pc' := 44) cx st3 d6_43 rfl ?_
  refine E_lreturn cx st3 d6_44 rfl (by decide) (by decide) ?_
  exact ⟨rfl, rfl⟩
def l2F (e0 e1 e2 : Int64) (q0 q1 q2 q3 : Int32) (n s0 s1 s2 : Int32) (a b : Int32) : Int64 := ((l3F e0 e1 e2 q0 q1 q2 q3 n s0 s1 s2 a b (0 : Int32) + l3F e0 e1 e2 q0 q1 q2 q3 n s0 s1 s2 a b (1 : Int32)) + l3F e0 e1 e2 q0 q1 q2 q3 n s0 s1 s2 a b (2 : Int32))
theorem d5_0 : decode method_7_code 0 = .ok (.aload_n 0, 1) := by decide +kernel
theorem d5_1 : decode method_7_code 1 = .ok (.aload_n 1, 1) := by decide +kernel
theorem d5_2 : decode method_7_code 2 = .ok (.iload_n 2, 1) := by decide +kernel
theorem d5_3 : decode method_7_code 3 = .ok (.aload_n 3, 1) := by decide +kernel
theorem d5_4 : decode method_7_code 4 = .ok (.iload 4, 2) := by decide +kernel
theorem d5_6 : decode method_7_code 6 = .ok (.iload 5, 2) := by decide +kernel
theorem d5_8 : decode method_7_code 8 = .ok (.iconst 0, 1) := by decide +kernel
theorem d5_9 : decode method_7_code 9 = .ok (.invokestatic 35, 3) := by decide +kernel
theorem d5_12 : decode method_7_code 12 = .ok (.aload_n 0, 1) := by decide +kernel
theorem d5_13 : decode method_7_code 13 = .ok (.aload_n 1, 1) := by decide +kernel
theorem d5_14 : decode method_7_code 14 = .ok (.iload_n 2, 1) := by decide +kernel
theorem d5_15 : decode method_7_code 15 = .ok (.aload_n 3, 1) := by decide +kernel
theorem d5_16 : decode method_7_code 16 = .ok (.iload 4, 2) := by decide +kernel
theorem d5_18 : decode method_7_code 18 = .ok (.iload 5, 2) := by decide +kernel
theorem d5_20 : decode method_7_code 20 = .ok (.iconst 1, 1) := by decide +kernel
theorem d5_21 : decode method_7_code 21 = .ok (.invokestatic 35, 3) := by decide +kernel
theorem d5_24 : decode method_7_code 24 = .ok (.ladd, 1) := by decide +kernel
theorem d5_25 : decode method_7_code 25 = .ok (.aload_n 0, 1) := by decide +kernel
theorem d5_26 : decode method_7_code 26 = .ok (.aload_n 1, 1) := by decide +kernel
theorem d5_27 : decode method_7_code 27 = .ok (.iload_n 2, 1) := by decide +kernel
theorem d5_28 : decode method_7_code 28 = .ok (.aload_n 3, 1) := by decide +kernel
theorem d5_29 : decode method_7_code 29 = .ok (.iload 4, 2) := by decide +kernel
theorem d5_31 : decode method_7_code 31 = .ok (.iload 5, 2) := by decide +kernel
theorem d5_33 : decode method_7_code 33 = .ok (.iconst 2, 1) := by decide +kernel
theorem d5_34 : decode method_7_code 34 = .ok (.invokestatic 35, 3) := by decide +kernel
theorem d5_37 : decode method_7_code 37 = .ok (.ladd, 1) := by decide +kernel
theorem d5_38 : decode method_7_code 38 = .ok (.lreturn, 1) := by decide +kernel
theorem ef_5 (m : MethodId) (x0 : Addr) (x1 : Addr) (x2 : Int32) (x3 : Addr) (x4 : Int32) (x5 : Int32) : entryFrame m #[(.ref x0), (.ref x1), (.int x2), (.ref x3), (.int x4), (.int x5)] 6 = mkF m 0 #[.val (.ref x0), .val (.ref x1), .val (.int x2), .val (.ref x3), .val (.int x4), .val (.int x5)] [] := by first | (simp [entryFrame, mkF, argsToLocals, Value.category]; done) | rfl
theorem pd_4 : parseMethodDescriptor "([J[II[IIII)J" = some ⟨[(.array .long), (.array .int), .int, (.array .int), .int, .int, .int], some .long⟩ := by decide +kernel
set_option maxRecDepth 65536 in
set_option maxHeartbeats 40000000 in
theorem rm5 (l : Launch) (Z : State) (a0 : Array Value) (hw : ∀ d ∈ tables_1, d.before a0 Z = true) (ea : Addr) (pa : Addr) (sa : Addr) (e0 : Int64) (e1 : Int64) (e2 : Int64) (q0 : Int32) (q1 : Int32) (q2 : Int32) (q3 : Int32) (n : Int32) (s0 : Int32) (s1 : Int32) (s2 : Int32) (a : Int32) (b : Int32) (h0 : Heap) (n0 : Nat) (Z0 : n0 ≤ h0.size) (kE kP : ClassId) (VE : Arv Z h0 ea kE .long (3 : Int32) [(.long e0), (.long e1), (.long e2)] (.long (0 : Int64))) (VP : Arv Z h0 pa kP .int (4 : Int32) [(.int q0), (.int q1), (.int q2), (.int q3)] (.int (0 : Int32))) (kS : ClassId) (VS : Arv Z h0 sa kS .int (3 : Int32) [(.int s0), (.int s1), (.int s2)] (.int (0 : Int32))) (ha : ¬ a < 0 ∧ a < (3 : Int32)) (hb : ¬ b < 0 ∧ b < (3 : Int32)) :
    Con l Z (⟨"com/example/widowbid/widowbid/WorldsCountPinLaw", "l2", "([J[II[III)J"⟩ : MethodName) method_7_code 6 (some .long) ({ frames := 3, cells := 0, slots := 0, locals := 65 } : Room) #[(.ref ea), (.ref pa), (.int n), (.ref sa), (.int a), (.int b)] h0 n0 (fun v h => v = some (.long (l2F e0 e1 e2 q0 q1 q2 q3 n s0 s1 s2 a b)) ∧ h = h0) := by
  refine Con.of (own := "com/example/widowbid/widowbid/WorldsCountPinLaw") (name := "l2") (plainFor_of_name pn_2) (fun m => ef_5 m ea pa n sa a b) rfl rfl ?_
  intro p e s m below meth c T F S cx st
  refine E_aloadN (pc' := 1) cx st d5_0 rfl rfl rfl ?_
  refine E_aloadN (pc' := 2) cx st d5_1 rfl rfl rfl ?_
  refine E_iloadN (pc' := 3) cx st d5_2 rfl rfl ?_
  refine E_aloadN (pc' := 4) cx st d5_3 rfl rfl rfl ?_
  refine E_iload (pc' := 6) cx st d5_4 rfl rfl ?_
  refine E_iload (pc' := 8) cx st d5_6 rfl rfl ?_
  refine E_iconst (pc' := 9) cx st (0 : Int32) d5_8 rfl rfl ?_
  refine E_callS (pc' := 12) (kc' := 0) (ks' := 0) (W := 0) (argsL := [(.ref ea), (.ref pa), (.int n), (.ref sa), (.int a), (.int b), (.int (0 : Int32))]) cx st [] (rm6 l Z a0 hw ea pa sa e0 e1 e2 q0 q1 q2 q3 n s0 s1 s2 a b (0 : Int32) h0 n0 Z0 kE kP VE VP kS VS ha hb ⟨by decide, by decide⟩) (hw _ (List.mem_of_getElem? (i := 52) rfl)) (hw _ (List.mem_of_getElem? (i := 53) rfl)) (hw _ (List.mem_of_getElem? (i := 47) rfl)) (hw _ (List.mem_of_getElem? (i := 54) rfl)) d5_9 rfl rfl (lenOf pd_4 rfl) (Nat.le_of_eq rfl) (by decide) (by decide) (by decide) (by decide) (by decide) (by decide) (by decide) rfl ?_
  intro v1 T1 h1 st1 hq1
  obtain ⟨rfl, hh1⟩ := hq1
  rw [hh1] at st1
  refine E_aloadN (pc' := 13) cx st1 d5_12 rfl rfl rfl ?_
  refine E_aloadN (pc' := 14) cx st1 d5_13 rfl rfl rfl ?_
  refine E_iloadN (pc' := 15) cx st1 d5_14 rfl rfl ?_
  refine E_aloadN (pc' := 16) cx st1 d5_15 rfl rfl rfl ?_
  refine E_iload (pc' := 18) cx st1 d5_16 rfl rfl ?_
  refine E_iload (pc' := 20) cx st1 d5_18 rfl rfl ?_
  refine E_iconst (pc' := 21) cx st1 (1 : Int32) d5_20 rfl rfl ?_
  refine E_callS (pc' := 24) (kc' := 0) (ks' := 0) (W := 2) (argsL := [(.ref ea), (.ref pa), (.int n), (.ref sa), (.int a), (.int b), (.int (1 : Int32))]) cx st1 [(.long (l3F e0 e1 e2 q0 q1 q2 q3 n s0 s1 s2 a b (0 : Int32)))] (rm6 l Z a0 hw ea pa sa e0 e1 e2 q0 q1 q2 q3 n s0 s1 s2 a b (1 : Int32) h0 n0 Z0 kE kP VE VP kS VS ha hb ⟨by decide, by decide⟩) (hw _ (List.mem_of_getElem? (i := 52) rfl)) (hw _ (List.mem_of_getElem? (i := 53) rfl)) (hw _ (List.mem_of_getElem? (i := 47) rfl)) (hw _ (List.mem_of_getElem? (i := 54) rfl)) d5_21 rfl rfl (lenOf pd_4 rfl) (Nat.le_of_eq rfl) (by decide) (by decide) (by decide) (by decide) (by decide) (by decide) (by decide) rfl ?_
  intro v2 T2 h2 st2 hq2
  obtain ⟨rfl, hh2⟩ := hq2
  rw [hh2] at st2
  refine E_ladd (pc' := 25) cx st2 d5_24 rfl ?_
  refine E_aloadN (pc' := 26) cx st2 d5_25 rfl rfl rfl ?_
  refine E_aloadN (pc' := 27) cx st2 d5_26 rfl rfl rfl ?_
  refine E_iloadN (pc' := 28) cx st2 d5_27 rfl rfl ?_
  refine E_aloadN (pc' := 29) cx st2 d5_28 rfl rfl rfl ?_
  refine E_iload (pc' := 31) cx st2 d5_29 rfl rfl ?_
  refine E_iload (pc' := 33) cx st2 d5_31 rfl rfl ?_
  refine E_iconst (pc' := 34) cx st2 (2 : Int32) d5_33 rfl rfl ?_
  refine E_callS (pc' := 37) (kc' := 0) (ks' := 0) (W := 2) (argsL := [(.ref ea), (.ref pa), (.int n), (.ref sa), (.int a), (.int b), (.int (2 : Int32))]) cx st2 [(.long ((l3F e0 e1 e2 q0 q1 q2 q3 n s0 s1 s2 a b (0 : Int32)) + (l3F e0 e1 e2 q0 q1 q2 q3 n s0 s1 s2 a b (1 : Int32))))] (rm6 l Z a0 hw ea pa sa e0 e1 e2 q0 q1 q2 q3 n s0 s1 s2 a b (2 : Int32) h0 n0 Z0 kE kP VE VP kS VS ha hb ⟨by decide, by decide⟩) (hw _ (List.mem_of_getElem? (i := 52) rfl)) (hw _ (List.mem_of_getElem? (i := 53) rfl)) (hw _ (List.mem_of_getElem? (i := 47) rfl)) (hw _ (List.mem_of_getElem? (i := 54) rfl)) d5_34 rfl rfl (lenOf pd_4 rfl) (Nat.le_of_eq rfl) (by decide) (by decide) (by decide) (by decide) (by decide) (by decide) (by decide) rfl ?_
  intro v3 T3 h3 st3 hq3
  obtain ⟨rfl, hh3⟩ := hq3
  rw [hh3] at st3
  refine E_ladd (pc' := 38) cx st3 d5_37 rfl ?_
  refine E_lreturn cx st3 d5_38 rfl (by decide) (by decide) ?_
  exact ⟨rfl, rfl⟩
def l1F (e0 e1 e2 : Int64) (q0 q1 q2 q3 : Int32) (n s0 s1 s2 : Int32) (a : Int32) : Int64 := ((l2F e0 e1 e2 q0 q1 q2 q3 n s0 s1 s2 a (0 : Int32) + l2F e0 e1 e2 q0 q1 q2 q3 n s0 s1 s2 a (1 : Int32)) + l2F e0 e1 e2 q0 q1 q2 q3 n s0 s1 s2 a (2 : Int32))
theorem d4_0 : decode method_8_code 0 = .ok (.aload_n 0, 1) := by decide +kernel
theorem d4_1 : decode method_8_code 1 = .ok (.aload_n 1, 1) := by decide +kernel
theorem d4_2 : decode method_8_code 2 = .ok (.iload_n 2, 1) := by decide +kernel
theorem d4_3 : decode method_8_code 3 = .ok (.aload_n 3, 1) := by decide +kernel
theorem d4_4 : decode method_8_code 4 = .ok (.iload 4, 2) := by decide +kernel
theorem d4_6 : decode method_8_code 6 = .ok (.iconst 0, 1) := by decide +kernel
theorem d4_7 : decode method_8_code 7 = .ok (.invokestatic 39, 3) := by decide +kernel
theorem d4_10 : decode method_8_code 10 = .ok (.aload_n 0, 1) := by decide +kernel
theorem d4_11 : decode method_8_code 11 = .ok (.aload_n 1, 1) := by decide +kernel
theorem d4_12 : decode method_8_code 12 = .ok (.iload_n 2, 1) := by decide +kernel
theorem d4_13 : decode method_8_code 13 = .ok (.aload_n 3, 1) := by decide +kernel
theorem d4_14 : decode method_8_code 14 = .ok (.iload 4, 2) := by decide +kernel
theorem d4_16 : decode method_8_code 16 = .ok (.iconst 1, 1) := by decide +kernel
theorem d4_17 : decode method_8_code 17 = .ok (.invokestatic 39, 3) := by decide +kernel
theorem d4_20 : decode method_8_code 20 = .ok (.ladd, 1) := by decide +kernel
theorem d4_21 : decode method_8_code 21 = .ok (.aload_n 0, 1) := by decide +kernel
theorem d4_22 : decode method_8_code 22 = .ok (.aload_n 1, 1) := by decide +kernel
theorem d4_23 : decode method_8_code 23 = .ok (.iload_n 2, 1) := by decide +kernel
theorem d4_24 : decode method_8_code 24 = .ok (.aload_n 3, 1) := by decide +kernel
theorem d4_25 : decode method_8_code 25 = .ok (.iload 4, 2) := by decide +kernel
theorem d4_27 : decode method_8_code 27 = .ok (.iconst 2, 1) := by decide +kernel
theorem d4_28 : decode method_8_code 28 = .ok (.invokestatic 39, 3) := by decide +kernel
theorem d4_31 : decode method_8_code 31 = .ok (.ladd, 1) := by decide +kernel
theorem d4_32 : decode method_8_code 32 = .ok (.lreturn, 1) := by decide +kernel
theorem ef_4 (m : MethodId) (x0 : Addr) (x1 : Addr) (x2 : Int32) (x3 : Addr) (x4 : Int32) : entryFrame m #[(.ref x0), (.ref x1), (.int x2), (.ref x3), (.int x4)] 5 = mkF m 0 #[.val (.ref x0), .val (.ref x1), .val (.int x2), .val (.ref x3), .val (.int x4)] [] := by first | (simp [entryFrame, mkF, argsToLocals, Value.category]; done) | rfl
theorem pd_5 : parseMethodDescriptor "([J[II[III)J" = some ⟨[(.array .long), (.array .int), .int, (.array .int), .int, .int], some .long⟩ := by decide +kernel
set_option maxRecDepth 65536 in
set_option maxHeartbeats 40000000 in
theorem rm4 (l : Launch) (Z : State) (a0 : Array Value) (hw : ∀ d ∈ tables_1, d.before a0 Z = true) (ea : Addr) (pa : Addr) (sa : Addr) (e0 : Int64) (e1 : Int64) (e2 : Int64) (q0 : Int32) (q1 : Int32) (q2 : Int32) (q3 : Int32) (n : Int32) (s0 : Int32) (s1 : Int32) (s2 : Int32) (a : Int32) (h0 : Heap) (n0 : Nat) (Z0 : n0 ≤ h0.size) (kE kP : ClassId) (VE : Arv Z h0 ea kE .long (3 : Int32) [(.long e0), (.long e1), (.long e2)] (.long (0 : Int64))) (VP : Arv Z h0 pa kP .int (4 : Int32) [(.int q0), (.int q1), (.int q2), (.int q3)] (.int (0 : Int32))) (kS : ClassId) (VS : Arv Z h0 sa kS .int (3 : Int32) [(.int s0), (.int s1), (.int s2)] (.int (0 : Int32))) (ha : ¬ a < 0 ∧ a < (3 : Int32)) :
    Con l Z (⟨"com/example/widowbid/widowbid/WorldsCountPinLaw", "l1", "([J[II[II)J"⟩ : MethodName) method_8_code 5 (some .long) ({ frames := 4, cells := 0, slots := 0, locals := 84 } : Room) #[(.ref ea), (.ref pa), (.int n), (.ref sa), (.int a)] h0 n0 (fun v h => v = some (.long (l1F e0 e1 e2 q0 q1 q2 q3 n s0 s1 s2 a)) ∧ h = h0) := by
  refine Con.of (own := "com/example/widowbid/widowbid/WorldsCountPinLaw") (name := "l1") (plainFor_of_name pn_2) (fun m => ef_4 m ea pa n sa a) rfl rfl ?_
  intro p e s m below meth c T F S cx st
  refine E_aloadN (pc' := 1) cx st d4_0 rfl rfl rfl ?_
  refine E_aloadN (pc' := 2) cx st d4_1 rfl rfl rfl ?_
  refine E_iloadN (pc' := 3) cx st d4_2 rfl rfl ?_
  refine E_aloadN (pc' := 4) cx st d4_3 rfl rfl rfl ?_
  refine E_iload (pc' := 6) cx st d4_4 rfl rfl ?_
  refine E_iconst (pc' := 7) cx st (0 : Int32) d4_6 rfl rfl ?_
  refine E_callS (pc' := 10) (kc' := 0) (ks' := 0) (W := 0) (argsL := [(.ref ea), (.ref pa), (.int n), (.ref sa), (.int a), (.int (0 : Int32))]) cx st [] (rm5 l Z a0 hw ea pa sa e0 e1 e2 q0 q1 q2 q3 n s0 s1 s2 a (0 : Int32) h0 n0 Z0 kE kP VE VP kS VS ha ⟨by decide, by decide⟩) (hw _ (List.mem_of_getElem? (i := 49) rfl)) (hw _ (List.mem_of_getElem? (i := 50) rfl)) (hw _ (List.mem_of_getElem? (i := 47) rfl)) (hw _ (List.mem_of_getElem? (i := 51) rfl)) d4_7 rfl rfl (lenOf pd_5 rfl) (Nat.le_of_eq rfl) (by decide) (by decide) (by decide) (by decide) (by decide) (by decide) (by decide) rfl ?_
  intro v1 T1 h1 st1 hq1
  obtain ⟨rfl, hh1⟩ := hq1
  rw [hh1] at st1
  refine E_aloadN (pc' := 11) cx st1 d4_10 rfl rfl rfl ?_
  refine E_aloadN (pc' := 12) cx st1 d4_11 rfl rfl rfl ?_
  refine E_iloadN (pc' := 13) cx st1 d4_12 rfl rfl ?_
  refine E_aloadN (pc' := 14) cx st1 d4_13 rfl rfl rfl ?_
  refine E_iload (pc' := 16) cx st1 d4_14 rfl rfl ?_
  refine E_iconst (pc' := 17) cx st1 (1 : Int32) d4_16 rfl rfl ?_
  refine E_callS (pc' := 20) (kc' := 0) (ks' := 0) (W := 2) (argsL := [(.ref ea), (.ref pa), (.int n), (.ref sa), (.int a), (.int (1 : Int32))]) cx st1 [(.long (l2F e0 e1 e2 q0 q1 q2 q3 n s0 s1 s2 a (0 : Int32)))] (rm5 l Z a0 hw ea pa sa e0 e1 e2 q0 q1 q2 q3 n s0 s1 s2 a (1 : Int32) h0 n0 Z0 kE kP VE VP kS VS ha ⟨by decide, by decide⟩) (hw _ (List.mem_of_getElem? (i := 49) rfl)) (hw _ (List.mem_of_getElem? (i := 50) rfl)) (hw _ (List.mem_of_getElem? (i := 47) rfl)) (hw _ (List.mem_of_getElem? (i := 51) rfl)) d4_17 rfl rfl (lenOf pd_5 rfl) (Nat.le_of_eq rfl) (by decide) (by decide) (by decide) (by decide) (by decide) (by decide) (by decide) rfl ?_
  intro v2 T2 h2 st2 hq2
  obtain ⟨rfl, hh2⟩ := hq2
  rw [hh2] at st2
  refine E_ladd (pc' := 21) cx st2 d4_20 rfl ?_
  refine E_aloadN (pc' := 22) cx st2 d4_21 rfl rfl rfl ?_
  refine E_aloadN (pc' := 23) cx st2 d4_22 rfl rfl rfl ?_
  refine E_iloadN (pc' := 24) cx st2 d4_23 rfl rfl ?_
  refine E_aloadN (pc' := 25) cx st2 d4_24 rfl rfl rfl ?_
  refine E_iload (pc' := 27) cx st2 d4_25 rfl rfl ?_
  refine E_iconst (pc' := 28) cx st2 (2 : Int32) d4_27 rfl rfl ?_
  refine E_callS (pc' := 31) (kc' := 0) (ks' := 0) (W := 2) (argsL := [(.ref ea), (.ref pa), (.int n), (.ref sa), (.int a), (.int (2 : Int32))]) cx st2 [(.long ((l2F e0 e1 e2 q0 q1 q2 q3 n s0 s1 s2 a (0 : Int32)) + (l2F e0 e1 e2 q0 q1 q2 q3 n s0 s1 s2 a (1 : Int32))))] (rm5 l Z a0 hw ea pa sa e0 e1 e2 q0 q1 q2 q3 n s0 s1 s2 a (2 : Int32) h0 n0 Z0 kE kP VE VP kS VS ha ⟨by decide, by decide⟩) (hw _ (List.mem_of_getElem? (i := 49) rfl)) (hw _ (List.mem_of_getElem? (i := 50) rfl)) (hw _ (List.mem_of_getElem? (i := 47) rfl)) (hw _ (List.mem_of_getElem? (i := 51) rfl)) d4_28 rfl rfl (lenOf pd_5 rfl) (Nat.le_of_eq rfl) (by decide) (by decide) (by decide) (by decide) (by decide) (by decide) (by decide) rfl ?_
  intro v3 T3 h3 st3 hq3
  obtain ⟨rfl, hh3⟩ := hq3
  rw [hh3] at st3
  refine E_ladd (pc' := 32) cx st3 d4_31 rfl ?_
  refine E_lreturn cx st3 d4_32 rfl (by decide) (by decide) ?_
  exact ⟨rfl, rfl⟩
section OwnWd
variable {Z : State} {h h' : Heap} {o ca cz ce wa sz : Addr} {cs : List Int32} {za zb zc : Nat} {e0 e1 e2 : Int64} {f : Nat → Nat → Nat → Int64}
/-- the object o of Worlds with all it holds, and the caller's sizes -/
def Wd (Z : State) (h : Heap) (o ca cz ce wa sz : Addr) (cs : List Int32) (za zb zc : Nat) (e0 e1 e2 : Int64) (f : Nat → Nat → Nat → Int64) : Prop :=
  Exa Z h o "com/example/widowbid/widowbid/Worlds" ∧ Fld Z h o "com/example/widowbid/widowbid/Worlds" "cards" "[I" (.ref ca) ∧ Fld Z h o "com/example/widowbid/widowbid/Worlds" "sizes" "[I" (.ref cz) ∧ Fld Z h o "com/example/widowbid/widowbid/Worlds" "excluded" "[J" (.ref ce) ∧ Fld Z h o "com/example/widowbid/widowbid/Worlds" "ways" "[[[J" (.ref wa) ∧
  (∃ k, Arv Z h ca k .int (Int32.ofNat cs.length) (cs.map Value.int) (.int (0 : Int32))) ∧ (∃ k, Arv Z h cz k .int (3 : Int32) [(.int (Int32.ofNat za)), (.int (Int32.ofNat zb)), (.int (Int32.ofNat zc))] (.int (0 : Int32))) ∧ (∃ k, Arv Z h ce k .long (3 : Int32) [(.long e0), (.long e1), (.long e2)] (.long (0 : Int64))) ∧ (∃ k, Arv Z h sz k .int (3 : Int32) [(.int (Int32.ofNat za)), (.int (Int32.ofNat zb)), (.int (Int32.ofNat zc))] (.int (0 : Int32))) ∧
  Cube Z h wa (cs.length + 1) (za + 1) (zb + 1) f ∧ (o : Nat) < wa ∧ (ca : Nat) < wa ∧ (cz : Nat) < wa ∧ (ce : Nat) < wa ∧ (sz : Nat) < wa
theorem Wd.keep0 (D : Wd Z h o ca cz ce wa sz cs za zb zc e0 e1 e2 f) (K : Keep h h' []) : Wd Z h' o ca cz ce wa sz cs za zb zc e0 e1 e2 f := by
  obtain ⟨d1, d2, d3, d4, d5, ⟨k6, d6⟩, ⟨k7, d7⟩, ⟨k8, d8⟩, ⟨k9, d9⟩, d10, d11⟩ := D
  exact ⟨d1.keep K, d2.keep K nin0, d3.keep K nin0, d4.keep K nin0, d5.keep K nin0, ⟨k6, d6.keep K nin0⟩, ⟨k7, d7.keep K nin0⟩, ⟨k8, d8.keep K nin0⟩, ⟨k9, d9.keep K nin0⟩, d10.keep K (fun x hx => by cases hx), d11⟩
theorem addr_lt3 (b w x q : Nat) (h : b < w) : b ≠ w + 1 + x + 1 + q := by omega
theorem Wd.set (D : Wd Z h o ca cz ce wa sz cs za zb zc e0 e1 e2 f) {i q r : Nat} {v : Int64} (hi : i < cs.length + 1) (hq : q < za + 1) (hr : r < zb + 1) (hK : zb + 1 < 2147483648) (W : Wr h h' (wa + 1 + i * ((za + 1) + 1) + 1 + q) r (.long v)) : Wd Z h' o ca cz ce wa sz cs za zb zc e0 e1 e2 (upd f i q r v) := by
  obtain ⟨d1, d2, d3, d4, d5, ⟨k6, d6⟩, ⟨k7, d7⟩, ⟨k8, d8⟩, ⟨k9, d9⟩, d10, b1, b2, b3, b4, b5⟩ := D
  have n1 : o ≠ wa + 1 + i * ((za + 1) + 1) + 1 + q := addr_lt3 o wa _ q b1
  exact ⟨d1.wr W, d2.other W (Or.inl n1), d3.other W (Or.inl n1), d4.other W (Or.inl n1), d5.other W (Or.inl n1), ⟨k6, d6.other W (addr_lt3 ca wa _ q b2)⟩, ⟨k7, d7.other W (addr_lt3 cz wa _ q b3)⟩, ⟨k8, d8.other W (addr_lt3 ce wa _ q b4)⟩, ⟨k9, d9.other W (addr_lt3 sz wa _ q b5)⟩, d10.set hi hq hr hK W, b1, b2, b3, b4, b5⟩
theorem i32_pred {x : Nat} (hx : x ≠ 0) : Int32.ofNat x - (1 : Int32) = Int32.ofNat (x - 1) := by
  obtain ⟨y, rfl⟩ : ∃ y, x = y + 1 := ⟨x - 1, by omega⟩
  rw [Int32.ofNat_add]; show Int32.ofNat y + 1 - 1 = Int32.ofNat y
  exact Int32.add_sub_cancel _ _
theorem i32_next (x : Nat) : Int32.ofNat x + (1 : Int32) = Int32.ofNat (x + 1) := (Int32.ofNat_add x 1).symm
theorem ofNat_ne0 {x : Nat} (h : ¬ Int32.ofNat x = (0 : Int32)) : x ≠ 0 := fun q => h (by rw [q]; rfl)
def th (n k x y : Nat) : Int32 := ((Int32.ofNat n - Int32.ofNat k) - Int32.ofNat x) - Int32.ofNat y
def xc (e : Int64) (c : Int32) : Int64 := (e &&& ((1 : Int64) <<< (c &&& 0x3f).toInt64))
def af0 (e : Int64) (cs : List Int32) (f : Nat → Nat → Nat → Int64) (k x y : Nat) : Int64 := if Int32.ofNat x = (0 : Int32) then 0 else if th cs.length k x y < (0 : Int32) then 0 else if xc e (cs.getD k 0) = (0 : Int64) then f (k + 1) (x - 1) y else 0
def af1 (e : Int64) (cs : List Int32) (f : Nat → Nat → Nat → Int64) (k x y : Nat) : Int64 := if Int32.ofNat y = (0 : Int32) then 0 else if th cs.length k x y < (0 : Int32) then 0 else if xc e (cs.getD k 0) = (0 : Int64) then f (k + 1) x (y - 1) else 0
def af2 (e : Int64) (cs : List Int32) (f : Nat → Nat → Nat → Int64) (k x y : Nat) : Int64 := if th cs.length k x y = (0 : Int32) then 0 else if th cs.length k x y < (0 : Int32) then 0 else if xc e (cs.getD k 0) = (0 : Int64) then f (k + 1) x y else 0
/-- the ways to lay out the cards of the list, x to the first place, y to the second, the rest to the third -/
def wy (e0 e1 e2 : Int64) : List Int32 → Nat → Nat → Int64
  | [], x, y => if x = 0 ∧ y = 0 then 1 else 0
  | c :: t, x, y => (((0 : Int64) + (if x = 0 then 0 else if t.length + 1 < x + y then 0 else if xc e0 c = 0 then wy e0 e1 e2 t (x - 1) y else 0)) + (if y = 0 then 0 else if t.length + 1 < x + y then 0 else if xc e1 c = 0 then wy e0 e1 e2 t x (y - 1) else 0)) + (if t.length + 1 ≤ x + y then 0 else if xc e2 c = 0 then wy e0 e1 e2 t x y else 0)
theorem th_toInt {n k x y : Nat} (h1 : n ≤ 1000) (h2 : k ≤ n) (h3 : x ≤ 1000) (h4 : y ≤ 1000) : (th n k x y).toInt = (n : Int) - k - x - y := by
  have t : ∀ z : Nat, z ≤ 1000 → (Int32.ofNat z).toInt = z := fun z hz => Int32.toInt_ofNat_of_lt (by omega)
  have a1 : (Int32.ofNat n - Int32.ofNat k).toInt = (n : Int) - k := by
    rw [Jvm.Free.XT.sub32, t n h1, t k (by omega)]; rw [t n h1, t k (by omega)]; constructor <;> omega
  have a2 : (Int32.ofNat n - Int32.ofNat k - Int32.ofNat x).toInt = (n : Int) - k - x := by
    rw [Jvm.Free.XT.sub32, a1, t x h3]; rw [a1, t x h3]; constructor <;> omega
  unfold th
  rw [Jvm.Free.XT.sub32, a2, t y h4]; rw [a2, t y h4]; constructor <;> omega
theorem th_lt {n k x y : Nat} (h1 : n ≤ 1000) (h2 : k ≤ n) (h3 : x ≤ 1000) (h4 : y ≤ 1000) : (th n k x y < (0 : Int32)) ↔ n - k < x + y := by
  rw [Int32.lt_iff_toInt_lt, th_toInt h1 h2 h3 h4]; have : (0 : Int32).toInt = 0 := rfl
  rw [this]; omega
theorem th_eq {n k x y : Nat} (h1 : n ≤ 1000) (h2 : k ≤ n) (h3 : x ≤ 1000) (h4 : y ≤ 1000) : (th n k x y = (0 : Int32)) ↔ n - k = x + y := by
  rw [← Int32.toInt_inj, th_toInt h1 h2 h3 h4]; have : (0 : Int32).toInt = 0 := rfl
  rw [this]; omega
theorem of0_iff {x : Nat} (h : x ≤ 1000) : (Int32.ofNat x = (0 : Int32)) ↔ x = 0 := by
  rw [← Int32.toInt_inj, Int32.toInt_ofNat_of_lt (by omega)]; have : (0 : Int32).toInt = 0 := rfl
  rw [this]; omega
theorem wy_step {k x y : Nat} (hn : cs.length ≤ 1000) (hk : k < cs.length) (hx : x ≤ 1000) (hy : y ≤ 1000) (hf : ∀ x' y', x' ≤ x → y' ≤ y → f (k + 1) x' y' = wy e0 e1 e2 (cs.drop (k + 1)) x' y') :
    (((0 : Int64) + af0 e0 cs f k x y) + af1 e1 cs f k x y) + af2 e2 cs f k x y = wy e0 e1 e2 (cs.drop k) x y := by
  have hd : cs.drop k = cs.getD k 0 :: cs.drop (k + 1) := by
    rw [List.drop_eq_getElem_cons hk]; congr 1; simp [List.getD_eq_getElem?_getD, hk]
  have hl : (cs.drop (k + 1)).length + 1 = cs.length - k := by simp; omega
  rw [hd]; unfold wy; unfold af0 af1 af2
  simp only [th_lt hn (Nat.le_of_lt hk) hx hy, th_eq hn (Nat.le_of_lt hk) hx hy, of0_iff hx, of0_iff hy, hl]
  congr 1
  · congr 1
    · congr 1
      split
      · rfl
      · split
        · rfl
        · rw [hf (x - 1) y (by omega) (Nat.le_refl _)]
    · split
      · rfl
      · split
        · rfl
        · rw [hf x (y - 1) (Nat.le_refl _) (by omega)]
  · by_cases q : cs.length - k = x + y
    · rw [if_pos q, if_pos (by omega)]
    · rw [if_neg q]
      by_cases q2 : cs.length - k < x + y
      · rw [if_pos q2, if_pos (by omega)]
      · rw [if_neg q2, if_neg (show ¬ (cs.length - k ≤ x + y) by omega), hf x y (Nat.le_refl _) (Nat.le_refl _)]
/-- the table is right behind card k, in the rows of k below x, and in row x below y -/
def Row (e0 e1 e2 : Int64) (cs : List Int32) (za zb : Nat) (k x y : Nat) (f : Nat → Nat → Nat → Int64) : Prop :=
  (∀ k' x' y', k < k' → k' ≤ cs.length → x' ≤ za → y' ≤ zb → f k' x' y' = wy e0 e1 e2 (cs.drop k') x' y') ∧ (∀ x' y', x' < x → y' ≤ zb → f k x' y' = wy e0 e1 e2 (cs.drop k) x' y') ∧ (∀ y', y' < y → f k x y' = wy e0 e1 e2 (cs.drop k) x y')
def Inv (e0 e1 e2 : Int64) (cs : List Int32) (za zb : Nat) (j : Nat) (f : Nat → Nat → Nat → Int64) : Prop :=
  ∀ k' x' y', j ≤ k' → k' ≤ cs.length → x' ≤ za → y' ≤ zb → f k' x' y' = wy e0 e1 e2 (cs.drop k') x' y'
theorem Row.next {k x y : Nat} (hn : cs.length ≤ 1000) (hk : k < cs.length) (hx : x ≤ za) (hy : y ≤ zb) (ha : za ≤ 1000) (hb : zb ≤ 1000) (r : Row e0 e1 e2 cs za zb k x y f) : Row e0 e1 e2 cs za zb k x (y + 1) (upd f k x y ((((0 : Int64) + af0 e0 cs f k x y) + af1 e1 cs f k x y) + af2 e2 cs f k x y)) := by
  obtain ⟨r1, r2, r3⟩ := r
  have e := wy_step (cs := cs) (f := f) (e0 := e0) (e1 := e1) (e2 := e2) (k := k) (x := x) (y := y) hn hk (by omega) (by omega) (fun x' y' h1 h2 => r1 (k + 1) x' y' (by omega) (by omega) (by omega) (by omega))
  rw [e]
  refine ⟨fun k' x' y' h1 h2 h3 h4 => ?_, fun x' y' h1 h2 => ?_, fun y' h1 => ?_⟩
  · unfold upd; rw [if_neg (by omega)]; exact r1 k' x' y' h1 h2 h3 h4
  · unfold upd; rw [if_neg (by omega)]; exact r2 x' y' h1 h2
  · unfold upd
    by_cases q : y' = y
    · subst q; rw [if_pos ⟨rfl, rfl, rfl⟩]
    · rw [if_neg (fun z => q z.2.2)]; exact r3 y' (by omega)
theorem Row.line {k x : Nat} (r : Row e0 e1 e2 cs za zb k x (zb + 1) f) : Row e0 e1 e2 cs za zb k (x + 1) 0 f := by
  obtain ⟨r1, r2, r3⟩ := r
  refine ⟨r1, fun x' y' h1 h2 => ?_, fun y' h1 => by omega⟩
  by_cases q : x' = x
  · subst q; exact r3 y' (by omega)
  · exact r2 x' y' (by omega) h2
theorem Row.page {k : Nat} (r : Row e0 e1 e2 cs za zb k (za + 1) 0 f) : Inv e0 e1 e2 cs za zb k f := by
  obtain ⟨r1, r2, r3⟩ := r
  intro k' x' y' h1 h2 h3 h4
  by_cases q : k' = k
  · subst q; exact r2 x' y' (by omega) h4
  · exact r1 k' x' y' (by omega) h2 h3 h4
theorem Inv.row {k : Nat} (r : Inv e0 e1 e2 cs za zb (k + 1) f) : Row e0 e1 e2 cs za zb k 0 0 f := ⟨fun k' x' y' h1 h2 h3 h4 => r k' x' y' h1 h2 h3 h4, fun x' y' h1 _ => by omega, fun y' h1 => by omega⟩
theorem Inv.start : Inv e0 e1 e2 cs za zb cs.length (upd (fun _ _ _ => 0) cs.length 0 0 1) := by
  intro k' x' y' h1 h2 h3 h4
  have : k' = cs.length := by omega
  subst this
  rw [List.drop_length]; unfold wy upd
  by_cases q : x' = 0 ∧ y' = 0
  · rw [if_pos ⟨rfl, q.1, q.2⟩, if_pos q]
  · rw [if_neg (fun z => q z.2), if_neg q]
def Low : Int64 → List Int32 → Prop
  | x, [] => x = 0
  | x, c :: t => ¬ x = 0 ∧ ntL x = c ∧ Low (x &&& (x - (1 : Int64))) t
theorem mk9 {a b : Nat} (h : a + b ≤ 4) : (a + 1) * (b + 1) ≤ 9 := by
  have : a = 0 ∨ a = 1 ∨ a = 2 ∨ a = 3 ∨ a = 4 := by omega
  rcases this with rfl | rfl | rfl | rfl | rfl <;> omega
def SI (x : Slot) : Prop := x = .unset ∨ ∃ i, x = .val (.int i)
def SL (x y : Slot) : Prop := (x = .unset ∧ y = .unset) ∨ ∃ i, x = .val (.long i) ∧ y = .second
theorem nn32 {n : Nat} (h : n < 2147483647) : ¬ (Int32.ofNat n) < 0 := (idx_nat (N := n + 1) (Nat.lt_succ_self n) (by omega)).1
theorem not_lt32 {y z : Nat} (h : y ≤ z) (hz : z < 2147483647) : ¬ (Int32.ofNat z) < (Int32.ofNat y) := by
  rw [Int32.lt_iff_toInt_lt, Int32.toInt_ofNat_of_lt (by omega), Int32.toInt_ofNat_of_lt (by omega)]; omega
theorem set_at (dn : List Int32) (c0 : Int32) (n : Nat) : (dn.map Value.int ++ List.replicate (n + 1) (Value.int (0 : Int32))).set dn.length (Value.int c0) = (dn ++ [c0]).map Value.int ++ List.replicate n (Value.int (0 : Int32)) := by
  simp [List.replicate_succ, List.set_append]
theorem addr_ge (n w x q : Nat) (h : n ≤ w) : n ≤ w + 1 + x + 1 + q := by omega
end OwnWd

theorem d13_0 : decode prog_68_method_4_code 0 = .ok (.aload_n 0, 1) := by decide +kernel
theorem d13_1 : decode prog_68_method_4_code 1 = .ok (.getfield 24, 3) := by decide +kernel
theorem d13_4 : decode prog_68_method_4_code 4 = .ok (.arraylength, 1) := by decide +kernel
theorem d13_5 : decode prog_68_method_4_code 5 = .ok (.iload_n 1, 1) := by decide +kernel
theorem d13_6 : decode prog_68_method_4_code 6 = .ok (.isub, 1) := by decide +kernel
theorem d13_7 : decode prog_68_method_4_code 7 = .ok (.iload_n 2, 1) := by decide +kernel
theorem d13_8 : decode prog_68_method_4_code 8 = .ok (.isub, 1) := by decide +kernel
theorem d13_9 : decode prog_68_method_4_code 9 = .ok (.iload_n 3, 1) := by decide +kernel
theorem d13_10 : decode prog_68_method_4_code 10 = .ok (.isub, 1) := by decide +kernel
theorem d13_11 : decode prog_68_method_4_code 11 = .ok (.istore 5, 2) := by decide +kernel
theorem d13_13 : decode prog_68_method_4_code 13 = .ok (.iconst 3, 1) := by decide +kernel
theorem d13_14 : decode prog_68_method_4_code 14 = .ok (.newarray .int, 2) := by decide +kernel
theorem d13_16 : decode prog_68_method_4_code 16 = .ok (.dup, 1) := by decide +kernel
theorem d13_17 : decode prog_68_method_4_code 17 = .ok (.iconst 0, 1) := by decide +kernel
theorem d13_18 : decode prog_68_method_4_code 18 = .ok (.iload_n 2, 1) := by decide +kernel
theorem d13_19 : decode prog_68_method_4_code 19 = .ok (.iastore, 1) := by decide +kernel
theorem d13_20 : decode prog_68_method_4_code 20 = .ok (.dup, 1) := by decide +kernel
theorem d13_21 : decode prog_68_method_4_code 21 = .ok (.iconst 1, 1) := by decide +kernel
theorem d13_22 : decode prog_68_method_4_code 22 = .ok (.iload_n 3, 1) := by decide +kernel
theorem d13_23 : decode prog_68_method_4_code 23 = .ok (.iastore, 1) := by decide +kernel
theorem d13_24 : decode prog_68_method_4_code 24 = .ok (.dup, 1) := by decide +kernel
theorem d13_25 : decode prog_68_method_4_code 25 = .ok (.iconst 2, 1) := by decide +kernel
theorem d13_26 : decode prog_68_method_4_code 26 = .ok (.iload 5, 2) := by decide +kernel
theorem d13_28 : decode prog_68_method_4_code 28 = .ok (.iastore, 1) := by decide +kernel
theorem d13_29 : decode prog_68_method_4_code 29 = .ok (.astore 6, 2) := by decide +kernel
theorem d13_31 : decode prog_68_method_4_code 31 = .ok (.aload 6, 2) := by decide +kernel
theorem d13_33 : decode prog_68_method_4_code 33 = .ok (.iload 4, 2) := by decide +kernel
theorem d13_35 : decode prog_68_method_4_code 35 = .ok (.iaload, 1) := by decide +kernel
theorem d13_36 : decode prog_68_method_4_code 36 = .ok (.ifCond .eq 29, 3) := by decide +kernel
theorem d13_39 : decode prog_68_method_4_code 39 = .ok (.iload 5, 2) := by decide +kernel
theorem d13_41 : decode prog_68_method_4_code 41 = .ok (.ifCond .lt 24, 3) := by decide +kernel
theorem d13_44 : decode prog_68_method_4_code 44 = .ok (.aload_n 0, 1) := by decide +kernel
theorem d13_45 : decode prog_68_method_4_code 45 = .ok (.getfield 42, 3) := by decide +kernel
theorem d13_48 : decode prog_68_method_4_code 48 = .ok (.iload 4, 2) := by decide +kernel
theorem d13_50 : decode prog_68_method_4_code 50 = .ok (.laload, 1) := by decide +kernel
theorem d13_51 : decode prog_68_method_4_code 51 = .ok (.lconst 1, 1) := by decide +kernel
theorem d13_52 : decode prog_68_method_4_code 52 = .ok (.aload_n 0, 1) := by decide +kernel
theorem d13_53 : decode prog_68_method_4_code 53 = .ok (.getfield 24, 3) := by decide +kernel
theorem d13_56 : decode prog_68_method_4_code 56 = .ok (.iload_n 1, 1) := by decide +kernel
theorem d13_57 : decode prog_68_method_4_code 57 = .ok (.iaload, 1) := by decide +kernel
theorem d13_58 : decode prog_68_method_4_code 58 = .ok (.lshl, 1) := by decide +kernel
theorem d13_59 : decode prog_68_method_4_code 59 = .ok (.land, 1) := by decide +kernel
theorem d13_60 : decode prog_68_method_4_code 60 = .ok (.lconst 0, 1) := by decide +kernel
theorem d13_61 : decode prog_68_method_4_code 61 = .ok (.lcmp, 1) := by decide +kernel
theorem d13_62 : decode prog_68_method_4_code 62 = .ok (.ifCond .eq 5, 3) := by decide +kernel
theorem d13_65 : decode prog_68_method_4_code 65 = .ok (.lconst 0, 1) := by decide +kernel
theorem d13_66 : decode prog_68_method_4_code 66 = .ok (.lreturn, 1) := by decide +kernel
theorem d13_67 : decode prog_68_method_4_code 67 = .ok (.iload 4, 2) := by decide +kernel
theorem d13_69 : decode prog_68_method_4_code 69 = .ok (.ifCond .ne 20, 3) := by decide +kernel
theorem d13_72 : decode prog_68_method_4_code 72 = .ok (.aload_n 0, 1) := by decide +kernel
theorem d13_73 : decode prog_68_method_4_code 73 = .ok (.getfield 47, 3) := by decide +kernel
theorem d13_76 : decode prog_68_method_4_code 76 = .ok (.iload_n 1, 1) := by decide +kernel
theorem d13_77 : decode prog_68_method_4_code 77 = .ok (.iconst 1, 1) := by decide +kernel
theorem d13_78 : decode prog_68_method_4_code 78 = .ok (.iadd, 1) := by decide +kernel
theorem d13_79 : decode prog_68_method_4_code 79 = .ok (.aaload, 1) := by decide +kernel
theorem d13_80 : decode prog_68_method_4_code 80 = .ok (.iload_n 2, 1) := by decide +kernel
theorem d13_81 : decode prog_68_method_4_code 81 = .ok (.iconst 1, 1) := by decide +kernel
theorem d13_82 : decode prog_68_method_4_code 82 = .ok (.isub, 1) := by decide +kernel
theorem d13_83 : decode prog_68_method_4_code 83 = .ok (.aaload, 1) := by decide +kernel
theorem d13_84 : decode prog_68_method_4_code 84 = .ok (.iload_n 3, 1) := by decide +kernel
theorem d13_85 : decode prog_68_method_4_code 85 = .ok (.laload, 1) := by decide +kernel
theorem d13_86 : decode prog_68_method_4_code 86 = .ok (.goto 38, 3) := by decide +kernel
theorem d13_89 : decode prog_68_method_4_code 89 = .ok (.iload 4, 2) := by decide +kernel
theorem d13_91 : decode prog_68_method_4_code 91 = .ok (.iconst 1, 1) := by decide +kernel
theorem d13_92 : decode prog_68_method_4_code 92 = .ok (.if_icmp .ne 20, 3) := by decide +kernel
theorem d13_95 : decode prog_68_method_4_code 95 = .ok (.aload_n 0, 1) := by decide +kernel
theorem d13_96 : decode prog_68_method_4_code 96 = .ok (.getfield 47, 3) := by decide +kernel
theorem d13_99 : decode prog_68_method_4_code 99 = .ok (.iload_n 1, 1) := by decide +kernel
theorem d13_100 : decode prog_68_method_4_code 100 = .ok (.iconst 1, 1) := by decide +kernel
theorem d13_101 : decode prog_68_method_4_code 101 = .ok (.iadd, 1) := by decide +kernel
theorem d13_102 : decode prog_68_method_4_code 102 = .ok (.aaload, 1) := by decide +kernel
theorem d13_103 : decode prog_68_method_4_code 103 = .ok (.iload_n 2, 1) := by decide +kernel
theorem d13_104 : decode prog_68_method_4_code 104 = .ok (.aaload, 1) := by decide +kernel
theorem d13_105 : decode prog_68_method_4_code 105 = .ok (.iload_n 3, 1) := by decide +kernel
theorem d13_106 : decode prog_68_method_4_code 106 = .ok (.iconst 1, 1) := by decide +kernel
theorem d13_107 : decode prog_68_method_4_code 107 = .ok (.isub, 1) := by decide +kernel
theorem d13_108 : decode prog_68_method_4_code 108 = .ok (.laload, 1) := by decide +kernel
theorem d13_109 : decode prog_68_method_4_code 109 = .ok (.goto 15, 3) := by decide +kernel
theorem d13_112 : decode prog_68_method_4_code 112 = .ok (.aload_n 0, 1) := by decide +kernel
theorem d13_113 : decode prog_68_method_4_code 113 = .ok (.getfield 47, 3) := by decide +kernel
theorem d13_116 : decode prog_68_method_4_code 116 = .ok (.iload_n 1, 1) := by decide +kernel
theorem d13_117 : decode prog_68_method_4_code 117 = .ok (.iconst 1, 1) := by decide +kernel
theorem d13_118 : decode prog_68_method_4_code 118 = .ok (.iadd, 1) := by decide +kernel
theorem d13_119 : decode prog_68_method_4_code 119 = .ok (.aaload, 1) := by decide +kernel
theorem d13_120 : decode prog_68_method_4_code 120 = .ok (.iload_n 2, 1) := by decide +kernel
theorem d13_121 : decode prog_68_method_4_code 121 = .ok (.aaload, 1) := by decide +kernel
theorem d13_122 : decode prog_68_method_4_code 122 = .ok (.iload_n 3, 1) := by decide +kernel
theorem d13_123 : decode prog_68_method_4_code 123 = .ok (.laload, 1) := by decide +kernel
theorem d13_124 : decode prog_68_method_4_code 124 = .ok (.lreturn, 1) := by decide +kernel
theorem pn_3 : plainName "com/example/widowbid/widowbid/Worlds" = true := by first | (simp [plainName, overriddenIn]; done) | decide +kernel
theorem ef_13p0 (m : MethodId) (x0 : Addr) (x1 : Int32) (x2 : Int32) (x3 : Int32) (x4 : Int32) : entryFrame m #[(.ref x0), (.int x1), (.int x2), (.int x3), (.int x4)] 7 = mkF m 0 #[.val (.ref x0), .val (.int x1), .val (.int x2), .val (.int x3), .val (.int x4), .unset, .unset] [] := by first | (simp [entryFrame, mkF, argsToLocals, Value.category]; done) | rfl
set_option maxRecDepth 65536 in
set_option maxHeartbeats 40000000 in
theorem rm13p0 (l : Launch) (Z : State) (a0 : Array Value) (hw : ∀ d ∈ tables_1, d.before a0 Z = true) (o : Addr) (ca : Addr) (cz : Addr) (ce : Addr) (wa : Addr) (sz : Addr) (h0 : Heap) (n0 : Nat) (Z0 : n0 ≤ h0.size) (cs : List Int32) (za zb zc : Nat) (e0 e1 e2 : Int64) (f : Nat → Nat → Nat → Int64) (D : Wd Z h0 o ca cz ce wa sz cs za zb zc e0 e1 e2 f) (hn : cs.length ≤ 4) (hz : za + zb ≤ 4) (k x y : Nat) (hk : k < cs.length) (hx : x ≤ za) (hy : y ≤ zb) :
    Con l Z (⟨"com/example/widowbid/widowbid/Worlds", "after", "(IIII)J"⟩ : MethodName) prog_68_method_4_code 7 (some .long) ({ frames := 0, cells := 1, slots := 3, locals := 0 } : Room) #[(.ref o), (.int (Int32.ofNat k)), (.int (Int32.ofNat x)), (.int (Int32.ofNat y)), (.int (0 : Int32))] h0 n0 (fun v h => v = some (.long (af0 e0 cs f k x y)) ∧ Keep h0 h []) := by
  refine Con.of (own := "com/example/widowbid/widowbid/Worlds") (name := "after") (plainFor_of_name pn_3) (fun m => ef_13p0 m o (Int32.ofNat k) (Int32.ofNat x) (Int32.ofNat y) (0 : Int32)) rfl rfl ?_
  intro p e s m below meth c T F S cx st
  obtain ⟨dE1, dc1, ds1, de1, dw1, ⟨kC1, VC1⟩, ⟨kZ1, VZ1⟩, ⟨kX1, VX1⟩, ⟨kS1, VS1⟩, dQ1, lo1, lc1, lz1, lx1, ls1⟩ := id D
  refine E_aloadN (pc' := 1) cx st d13_0 rfl rfl rfl ?_
  refine E_getfield (pc' := 4) cx st (hw _ (List.mem_of_getElem? (i := 19) rfl)) dc1 d13_1 rfl ?_
  intro T2 st2
  refine E_arraylength (pc' := 5) cx st2 VC1 d13_4 rfl ?_
  refine E_iloadN (pc' := 6) cx st2 d13_5 rfl rfl ?_
  refine E_isub (pc' := 7) cx st2 d13_6 rfl ?_
  refine E_iloadN (pc' := 8) cx st2 d13_7 rfl rfl ?_
  refine E_isub (pc' := 9) cx st2 d13_8 rfl ?_
  refine E_iloadN (pc' := 10) cx st2 d13_9 rfl rfl ?_
  refine E_isub (pc' := 11) cx st2 d13_10 rfl ?_
  generalize hu3 : ((((Int32.ofNat cs.length) - (Int32.ofNat k)) - (Int32.ofNat x)) - (Int32.ofNat y)) = u3
  refine E_istore (pc' := 13) (L' := #[.val (.ref o), .val (.int (Int32.ofNat k)), .val (.int (Int32.ofNat x)), .val (.int (Int32.ofNat y)), .val (.int (0 : Int32)), .val (.int u3), .unset]) cx st2 d13_11 rfl rfl ?_
  refine E_iconst (pc' := 14) cx st2 (3 : Int32) d13_13 rfl rfl ?_
  refine E_newP (pc' := 16) (kc' := 1) (ks' := 3) (cap := 3) cx st2 (hw _ (List.mem_of_getElem? (i := 0) rfl)) d13_14 (by decide) (by decide) (by decide) (by decide) (by decide) (by decide) (by decide) rfl (ad := "[I") (by decide) ?_
  intro T4 h4 ca4 ar4 eq4 st4 E4 V4 X4
  have g_ar4 : n0 ≤ ar4 := by rw [eq4]; exact Z0
  have ne_o_ar4 : o ≠ ar4 := by rw [eq4]; exact Nat.ne_of_lt dE1.lt
  have ne_ca_ar4 : ca ≠ ar4 := by rw [eq4]; exact Nat.ne_of_lt VC1.lt
  have ne_cz_ar4 : cz ≠ ar4 := by rw [eq4]; exact Nat.ne_of_lt VZ1.lt
  have ne_ce_ar4 : ce ≠ ar4 := by rw [eq4]; exact Nat.ne_of_lt VX1.lt
  have ne_sz_ar4 : sz ≠ ar4 := by rw [eq4]; exact Nat.ne_of_lt VS1.lt
  have sz_ar4 : h0.size ≤ ar4 := by rw [eq4]; exact (Keep.refl h0 []).1
  have Z4 : n0 ≤ h4.size := Nat.le_trans Z0 E4.1
  have K4 : Keep h0 h4 [] := (Keep.refl h0 []).ext E4
  have V4p : Arv Z h4 ar4 ca4 .int (3 : Int32) [(.int (0 : Int32)), (.int (0 : Int32)), (.int (0 : Int32))] (.int (0 : Int32)) := V4.pad (pad_rep [] (.int (0 : Int32)) 3)
  refine E_dup (pc' := 17) cx st4 d13_16 rfl rfl ?_
  refine E_iconst (pc' := 18) cx st4 (0 : Int32) d13_17 rfl rfl ?_
  refine E_iloadN (pc' := 19) cx st4 d13_18 rfl rfl ?_
  refine E_iastore (pc' := 20) (i := 0) cx st4 V4p ⟨by decide, by decide⟩ rfl (Nat.le_of_ble_eq_true rfl) g_ar4 d13_19 rfl ?_
  intro T5 h5 st5 W5 V5
  have Z5 : n0 ≤ h5.size := Nat.le_trans Z4 (Keep.of_wr W5).1
  have K5 : Keep h0 h5 [] := K4.wr W5 (Or.inr sz_ar4)
  have V5p : Arv Z h5 ar4 ca4 .int (3 : Int32) [(.int (Int32.ofNat x)), (.int (0 : Int32)), (.int (0 : Int32))] (.int (0 : Int32)) := V5
  refine E_dup (pc' := 21) cx st5 d13_20 rfl rfl ?_
  refine E_iconst (pc' := 22) cx st5 (1 : Int32) d13_21 rfl rfl ?_
  refine E_iloadN (pc' := 23) cx st5 d13_22 rfl rfl ?_
  refine E_iastore (pc' := 24) (i := 1) cx st5 V5p ⟨by decide, by decide⟩ rfl (Nat.le_of_ble_eq_true rfl) g_ar4 d13_23 rfl ?_
  intro T6 h6 st6 W6 V6
  have Z6 : n0 ≤ h6.size := Nat.le_trans Z5 (Keep.of_wr W6).1
  have K6 : Keep h0 h6 [] := K5.wr W6 (Or.inr sz_ar4)
  have V6p : Arv Z h6 ar4 ca4 .int (3 : Int32) [(.int (Int32.ofNat x)), (.int (Int32.ofNat y)), (.int (0 : Int32))] (.int (0 : Int32)) := V6
  refine E_dup (pc' := 25) cx st6 d13_24 rfl rfl ?_
  refine E_iconst (pc' := 26) cx st6 (2 : Int32) d13_25 rfl rfl ?_
  refine E_iload (pc' := 28) cx st6 d13_26 rfl rfl ?_
  refine E_iastore (pc' := 29) (i := 2) cx st6 V6p ⟨by decide, by decide⟩ rfl (Nat.le_of_ble_eq_true rfl) g_ar4 d13_28 rfl ?_
  intro T7 h7 st7 W7 V7
  have Z7 : n0 ≤ h7.size := Nat.le_trans Z6 (Keep.of_wr W7).1
  have K7 : Keep h0 h7 [] := K6.wr W7 (Or.inr sz_ar4)
  have V7p : Arv Z h7 ar4 ca4 .int (3 : Int32) [(.int (Int32.ofNat x)), (.int (Int32.ofNat y)), (.int u3)] (.int (0 : Int32)) := V7
  refine E_astore (pc' := 31) (L' := #[.val (.ref o), .val (.int (Int32.ofNat k)), .val (.int (Int32.ofNat x)), .val (.int (Int32.ofNat y)), .val (.int (0 : Int32)), .val (.int u3), .val (.ref ar4)]) cx st7 d13_29 rfl rfl rfl ?_
  refine E_aload (pc' := 33) cx st7 d13_31 rfl rfl rfl ?_
  refine E_iload (pc' := 35) cx st7 d13_33 rfl rfl ?_
  refine E_iaload (pc' := 36) (x := (Int32.ofNat x)) cx st7 V7p ⟨by decide, by decide⟩ rfl d13_35 rfl ?_
  by_cases c8 : (Int32.ofNat x) = (0 : Int32)
  · refine E_if_eqY (pc' := 65) cx st7 d13_36 (by decide) (by decide) c8 ?_
    refine E_lconst (pc' := 66) cx st7 (0 : Int64) d13_65 rfl rfl ?_
    refine E_lreturn cx st7 d13_66 rfl (by decide) (by decide) ?_
    exact ⟨by unfold af0 xc; rw [show th cs.length k x y = u3 from hu3]; rw [if_pos c8], K7⟩
  · refine E_if_eqN (pc' := 39) cx st7 d13_36 rfl c8 ?_
    refine E_iload (pc' := 41) cx st7 d13_39 rfl rfl ?_
    by_cases c9 : u3 < (0 : Int32)
    · refine E_if_ltY (pc' := 65) cx st7 d13_41 (by decide) (by decide) c9 ?_
      refine E_lconst (pc' := 66) cx st7 (0 : Int64) d13_65 rfl rfl ?_
      refine E_lreturn cx st7 d13_66 rfl (by decide) (by decide) ?_
      exact ⟨by unfold af0 xc; rw [show th cs.length k x y = u3 from hu3]; rw [if_neg c8, if_pos c9], K7⟩
    · refine E_if_ltN (pc' := 44) cx st7 d13_41 rfl c9 ?_
      refine E_aloadN (pc' := 45) cx st7 d13_44 rfl rfl rfl ?_
      have G11 : Fld Z h7 o "com/example/widowbid/widowbid/Worlds" "excluded" "[J" (.ref ce) := ((((de1.ext E4).other W5 (Or.inl ne_o_ar4)).other W6 (Or.inl ne_o_ar4)).other W7 (Or.inl ne_o_ar4))
      refine E_getfield (pc' := 48) cx st7 (hw _ (List.mem_of_getElem? (i := 38) rfl)) G11 d13_45 rfl ?_
      intro T10 st10
      refine E_iload (pc' := 50) cx st10 d13_48 rfl rfl ?_
      have V12 : Arv Z h7 ce kX1 .long (3 : Int32) [(.long e0), (.long e1), (.long e2)] (.long (0 : Int64)) := ((((VX1.ext E4).other W5 ne_ce_ar4).other W6 ne_ce_ar4).other W7 ne_ce_ar4)
      refine E_laload (pc' := 51) (x := e0) cx st10 V12 ⟨by decide, by decide⟩ rfl d13_50 rfl ?_
      refine E_lconst (pc' := 52) cx st10 (1 : Int64) d13_51 rfl rfl ?_
      refine E_aloadN (pc' := 53) cx st10 d13_52 rfl rfl rfl ?_
      have G14 : Fld Z h7 o "com/example/widowbid/widowbid/Worlds" "cards" "[I" (.ref ca) := ((((dc1.ext E4).other W5 (Or.inl ne_o_ar4)).other W6 (Or.inl ne_o_ar4)).other W7 (Or.inl ne_o_ar4))
      refine E_getfield (pc' := 56) cx st10 (hw _ (List.mem_of_getElem? (i := 19) rfl)) G14 d13_53 rfl ?_
      intro T13 st13
      refine E_iloadN (pc' := 57) cx st13 d13_56 rfl rfl ?_
      have V15 : Arv Z h7 ca kC1 .int (Int32.ofNat cs.length) (cs.map Value.int) (.int (0 : Int32)) := ((((VC1.ext E4).other W5 ne_ca_ar4).other W6 ne_ca_ar4).other W7 ne_ca_ar4)
      refine E_iaload (pc' := 58) (x := (cs.getD k 0)) cx st13 V15 (idx_nat hk (by omega)) (by rw [ofNat_clamp (by omega)]; exact getD_int cs k 0) d13_57 rfl ?_
      refine E_lshl (pc' := 59) cx st13 d13_58 rfl ?_
      refine E_land (pc' := 60) cx st13 d13_59 rfl ?_
      refine E_lconst (pc' := 61) cx st13 (0 : Int64) d13_60 rfl rfl ?_
      by_cases c16 : (e0 &&& ((1 : Int64) <<< ((cs.getD k 0) &&& 0x3f).toInt64)) = (0 : Int64)
      · refine E_lif_eqY (pc' := 67) cx st13 d13_61 d13_62 (by decide) (by decide) c16 ?_
        refine E_iload (pc' := 69) cx st13 d13_67 rfl rfl ?_
        refine E_if_neN (pc' := 72) cx st13 d13_69 rfl (by decide) ?_
        refine E_aloadN (pc' := 73) cx st13 d13_72 rfl rfl rfl ?_
        have G18 : Fld Z h7 o "com/example/widowbid/widowbid/Worlds" "ways" "[[[J" (.ref wa) := ((((dw1.ext E4).other W5 (Or.inl ne_o_ar4)).other W6 (Or.inl ne_o_ar4)).other W7 (Or.inl ne_o_ar4))
        refine E_getfield (pc' := 76) cx st13 (hw _ (List.mem_of_getElem? (i := 43) rfl)) G18 d13_73 rfl ?_
        intro T17 st17
        refine E_iloadN (pc' := 77) cx st17 d13_76 rfl rfl ?_
        refine E_iconst (pc' := 78) cx st17 (1 : Int32) d13_77 rfl rfl ?_
        refine E_iadd (pc' := 79) cx st17 d13_78 rfl ?_
        rw [show ((Int32.ofNat k) + (1 : Int32)) = (Int32.ofNat (k + 1)) from i32_next k]
        have cq : Cube Z h7 wa (cs.length + 1) (za + 1) (zb + 1) f := dQ1.keep K7 (fun z hz => by cases hz)
        refine Cube.at1 (pc' := 80) cq (show k + 1 < cs.length + 1 by omega) (by omega) cx st17 d13_79 rfl ?_
        refine E_iloadN (pc' := 81) cx st17 d13_80 rfl rfl ?_
        refine E_iconst (pc' := 82) cx st17 (1 : Int32) d13_81 rfl rfl ?_
        refine E_isub (pc' := 83) cx st17 d13_82 rfl ?_
        have hx0 := ofNat_ne0 c8
        rw [show ((Int32.ofNat x) - (1 : Int32)) = (Int32.ofNat (x - 1)) from i32_pred hx0]
        refine Cube.at2 (pc' := 84) cq (show k + 1 < cs.length + 1 by omega) (show (x - 1) < za + 1 by omega) (by omega) cx st17 d13_83 rfl ?_
        refine E_iloadN (pc' := 85) cx st17 d13_84 rfl rfl ?_
        refine Cube.at3 (pc' := 86) cq (show k + 1 < cs.length + 1 by omega) (show (x - 1) < za + 1 by omega) (show y < zb + 1 by omega) (by omega) cx st17 d13_85 rfl ?_
        refine E_goto (pc' := 124) cx st17 d13_86 (by decide) (by decide) ?_
        refine E_lreturn cx st17 d13_124 rfl (by decide) (by decide) ?_
        exact ⟨by unfold af0 xc; rw [show th cs.length k x y = u3 from hu3]; rw [if_neg c8, if_neg c9, if_pos c16], K7⟩
      · refine E_lif_eqN (pc' := 65) cx st13 d13_61 d13_62 rfl c16 ?_
        refine E_lconst (pc' := 66) cx st13 (0 : Int64) d13_65 rfl rfl ?_
        refine E_lreturn cx st13 d13_66 rfl (by decide) (by decide) ?_
        exact ⟨by unfold af0 xc; rw [show th cs.length k x y = u3 from hu3]; rw [if_neg c8, if_neg c9, if_neg c16], K7⟩
theorem ef_13p1 (m : MethodId) (x0 : Addr) (x1 : Int32) (x2 : Int32) (x3 : Int32) (x4 : Int32) : entryFrame m #[(.ref x0), (.int x1), (.int x2), (.int x3), (.int x4)] 7 = mkF m 0 #[.val (.ref x0), .val (.int x1), .val (.int x2), .val (.int x3), .val (.int x4), .unset, .unset] [] := by first | (simp [entryFrame, mkF, argsToLocals, Value.category]; done) | rfl
set_option maxRecDepth 65536 in
set_option maxHeartbeats 40000000 in
theorem rm13p1 (l : Launch) (Z : State) (a0 : Array Value) (hw : ∀ d ∈ tables_1, d.before a0 Z = true) (o : Addr) (ca : Addr) (cz : Addr) (ce : Addr) (wa : Addr) (sz : Addr) (h0 : Heap) (n0 : Nat) (Z0 : n0 ≤ h0.size) (cs : List Int32) (za zb zc : Nat) (e0 e1 e2 : Int64) (f : Nat → Nat → Nat → Int64) (D : Wd Z h0 o ca cz ce wa sz cs za zb zc e0 e1 e2 f) (hn : cs.length ≤ 4) (hz : za + zb ≤ 4) (k x y : Nat) (hk : k < cs.length) (hx : x ≤ za) (hy : y ≤ zb) :
    Con l Z (⟨"com/example/widowbid/widowbid/Worlds", "after", "(IIII)J"⟩ : MethodName) prog_68_method_4_code 7 (some .long) ({ frames := 0, cells := 1, slots := 3, locals := 0 } : Room) #[(.ref o), (.int (Int32.ofNat k)), (.int (Int32.ofNat x)), (.int (Int32.ofNat y)), (.int (1 : Int32))] h0 n0 (fun v h => v = some (.long (af1 e1 cs f k x y)) ∧ Keep h0 h []) := by
  refine Con.of (own := "com/example/widowbid/widowbid/Worlds") (name := "after") (plainFor_of_name pn_3) (fun m => ef_13p1 m o (Int32.ofNat k) (Int32.ofNat x) (Int32.ofNat y) (1 : Int32)) rfl rfl ?_
  intro p e s m below meth c T F S cx st
  obtain ⟨dE1, dc1, ds1, de1, dw1, ⟨kC1, VC1⟩, ⟨kZ1, VZ1⟩, ⟨kX1, VX1⟩, ⟨kS1, VS1⟩, dQ1, lo1, lc1, lz1, lx1, ls1⟩ := id D
  refine E_aloadN (pc' := 1) cx st d13_0 rfl rfl rfl ?_
  refine E_getfield (pc' := 4) cx st (hw _ (List.mem_of_getElem? (i := 19) rfl)) dc1 d13_1 rfl ?_
  intro T2 st2
  refine E_arraylength (pc' := 5) cx st2 VC1 d13_4 rfl ?_
  refine E_iloadN (pc' := 6) cx st2 d13_5 rfl rfl ?_
  refine E_isub (pc' := 7) cx st2 d13_6 rfl ?_
  refine E_iloadN (pc' := 8) cx st2 d13_7 rfl rfl ?_
  refine E_isub (pc' := 9) cx st2 d13_8 rfl ?_
  refine E_iloadN (pc' := 10) cx st2 d13_9 rfl rfl ?_
  refine E_isub (pc' := 11) cx st2 d13_10 rfl ?_
  generalize hu3 : ((((Int32.ofNat cs.length) - (Int32.ofNat k)) - (Int32.ofNat x)) - (Int32.ofNat y)) = u3
  refine E_istore (pc' := 13) (L' := #[.val (.ref o), .val (.int (Int32.ofNat k)), .val (.int (Int32.ofNat x)), .val (.int (Int32.ofNat y)), .val (.int (1 : Int32)), .val (.int u3), .unset]) cx st2 d13_11 rfl rfl ?_
  refine E_iconst (pc' := 14) cx st2 (3 : Int32) d13_13 rfl rfl ?_
  refine E_newP (pc' := 16) (kc' := 1) (ks' := 3) (cap := 3) cx st2 (hw _ (List.mem_of_getElem? (i := 0) rfl)) d13_14 (by decide) (by decide) (by decide) (by decide) (by decide) (by decide) (by decide) rfl (ad := "[I") (by decide) ?_
  intro T4 h4 ca4 ar4 eq4 st4 E4 V4 X4
  have g_ar4 : n0 ≤ ar4 := by rw [eq4]; exact Z0
  have ne_o_ar4 : o ≠ ar4 := by rw [eq4]; exact Nat.ne_of_lt dE1.lt
  have ne_ca_ar4 : ca ≠ ar4 := by rw [eq4]; exact Nat.ne_of_lt VC1.lt
  have ne_cz_ar4 : cz ≠ ar4 := by rw [eq4]; exact Nat.ne_of_lt VZ1.lt
  have ne_ce_ar4 : ce ≠ ar4 := by rw [eq4]; exact Nat.ne_of_lt VX1.lt
  have ne_sz_ar4 : sz ≠ ar4 := by rw [eq4]; exact Nat.ne_of_lt VS1.lt
  have sz_ar4 : h0.size ≤ ar4 := by rw [eq4]; exact (Keep.refl h0 []).1
  have Z4 : n0 ≤ h4.size := Nat.le_trans Z0 E4.1
  have K4 : Keep h0 h4 [] := (Keep.refl h0 []).ext E4
  have V4p : Arv Z h4 ar4 ca4 .int (3 : Int32) [(.int (0 : Int32)), (.int (0 : Int32)), (.int (0 : Int32))] (.int (0 : Int32)) := V4.pad (pad_rep [] (.int (0 : Int32)) 3)
  refine E_dup (pc' := 17) cx st4 d13_16 rfl rfl ?_
  refine E_iconst (pc' := 18) cx st4 (0 : Int32) d13_17 rfl rfl ?_
  refine E_iloadN (pc' := 19) cx st4 d13_18 rfl rfl ?_
  refine E_iastore (pc' := 20) (i := 0) cx st4 V4p ⟨by decide, by decide⟩ rfl (Nat.le_of_ble_eq_true rfl) g_ar4 d13_19 rfl ?_
  intro T5 h5 st5 W5 V5
  have Z5 : n0 ≤ h5.size := Nat.le_trans Z4 (Keep.of_wr W5).1
  have K5 : Keep h0 h5 [] := K4.wr W5 (Or.inr sz_ar4)
  have V5p : Arv Z h5 ar4 ca4 .int (3 : Int32) [(.int (Int32.ofNat x)), (.int (0 : Int32)), (.int (0 : Int32))] (.int (0 : Int32)) := V5
  refine E_dup (pc' := 21) cx st5 d13_20 rfl rfl ?_
  refine E_iconst (pc' := 22) cx st5 (1 : Int32) d13_21 rfl rfl ?_
  refine E_iloadN (pc' := 23) cx st5 d13_22 rfl rfl ?_
  refine E_iastore (pc' := 24) (i := 1) cx st5 V5p ⟨by decide, by decide⟩ rfl (Nat.le_of_ble_eq_true rfl) g_ar4 d13_23 rfl ?_
  intro T6 h6 st6 W6 V6
  have Z6 : n0 ≤ h6.size := Nat.le_trans Z5 (Keep.of_wr W6).1
  have K6 : Keep h0 h6 [] := K5.wr W6 (Or.inr sz_ar4)
  have V6p : Arv Z h6 ar4 ca4 .int (3 : Int32) [(.int (Int32.ofNat x)), (.int (Int32.ofNat y)), (.int (0 : Int32))] (.int (0 : Int32)) := V6
  refine E_dup (pc' := 25) cx st6 d13_24 rfl rfl ?_
  refine E_iconst (pc' := 26) cx st6 (2 : Int32) d13_25 rfl rfl ?_
  refine E_iload (pc' := 28) cx st6 d13_26 rfl rfl ?_
  refine E_iastore (pc' := 29) (i := 2) cx st6 V6p ⟨by decide, by decide⟩ rfl (Nat.le_of_ble_eq_true rfl) g_ar4 d13_28 rfl ?_
  intro T7 h7 st7 W7 V7
  have Z7 : n0 ≤ h7.size := Nat.le_trans Z6 (Keep.of_wr W7).1
  have K7 : Keep h0 h7 [] := K6.wr W7 (Or.inr sz_ar4)
  have V7p : Arv Z h7 ar4 ca4 .int (3 : Int32) [(.int (Int32.ofNat x)), (.int (Int32.ofNat y)), (.int u3)] (.int (0 : Int32)) := V7
  refine E_astore (pc' := 31) (L' := #[.val (.ref o), .val (.int (Int32.ofNat k)), .val (.int (Int32.ofNat x)), .val (.int (Int32.ofNat y)), .val (.int (1 : Int32)), .val (.int u3), .val (.ref ar4)]) cx st7 d13_29 rfl rfl rfl ?_
  refine E_aload (pc' := 33) cx st7 d13_31 rfl rfl rfl ?_
  refine E_iload (pc' := 35) cx st7 d13_33 rfl rfl ?_
  refine E_iaload (pc' := 36) (x := (Int32.ofNat y)) cx st7 V7p ⟨by decide, by decide⟩ rfl d13_35 rfl ?_
  by_cases c8 : (Int32.ofNat y) = (0 : Int32)
  · refine E_if_eqY (pc' := 65) cx st7 d13_36 (by decide) (by decide) c8 ?_
    refine E_lconst (pc' := 66) cx st7 (0 : Int64) d13_65 rfl rfl ?_
    refine E_lreturn cx st7 d13_66 rfl (by decide) (by decide) ?_
    exact ⟨by unfold af1 xc; rw [show th cs.length k x y = u3 from hu3]; rw [if_pos c8], K7⟩
  · refine E_if_eqN (pc' := 39) cx st7 d13_36 rfl c8 ?_
    refine E_iload (pc' := 41) cx st7 d13_39 rfl rfl ?_
    by_cases c9 : u3 < (0 : Int32)
    · refine E_if_ltY (pc' := 65) cx st7 d13_41 (by decide) (by decide) c9 ?_
      refine E_lconst (pc' := 66) cx st7 (0 : Int64) d13_65 rfl rfl ?_
      refine E_lreturn cx st7 d13_66 rfl (by decide) (by decide) ?_
      exact ⟨by unfold af1 xc; rw [show th cs.length k x y = u3 from hu3]; rw [if_neg c8, if_pos c9], K7⟩
    · refine E_if_ltN (pc' := 44) cx st7 d13_41 rfl c9 ?_
      refine E_aloadN (pc' := 45) cx st7 d13_44 rfl rfl rfl ?_
      have G11 : Fld Z h7 o "com/example/widowbid/widowbid/Worlds" "excluded" "[J" (.ref ce) := ((((de1.ext E4).other W5 (Or.inl ne_o_ar4)).other W6 (Or.inl ne_o_ar4)).other W7 (Or.inl ne_o_ar4))
      refine E_getfield (pc' := 48) cx st7 (hw _ (List.mem_of_getElem? (i := 38) rfl)) G11 d13_45 rfl ?_
      intro T10 st10
      refine E_iload (pc' := 50) cx st10 d13_48 rfl rfl ?_
      have V12 : Arv Z h7 ce kX1 .long (3 : Int32) [(.long e0), (.long e1), (.long e2)] (.long (0 : Int64)) := ((((VX1.ext E4).other W5 ne_ce_ar4).other W6 ne_ce_ar4).other W7 ne_ce_ar4)
      refine E_laload (pc' := 51) (x := e1) cx st10 V12 ⟨by decide, by decide⟩ rfl d13_50 rfl ?_
      refine E_lconst (pc' := 52) cx st10 (1 : Int64) d13_51 rfl rfl ?_
      refine E_aloadN (pc' := 53) cx st10 d13_52 rfl rfl rfl ?_
      have G14 : Fld Z h7 o "com/example/widowbid/widowbid/Worlds" "cards" "[I" (.ref ca) := ((((dc1.ext E4).other W5 (Or.inl ne_o_ar4)).other W6 (Or.inl ne_o_ar4)).other W7 (Or.inl ne_o_ar4))
      refine E_getfield (pc' := 56) cx st10 (hw _ (List.mem_of_getElem? (i := 19) rfl)) G14 d13_53 rfl ?_
      intro T13 st13
      refine E_iloadN (pc' := 57) cx st13 d13_56 rfl rfl ?_
      have V15 : Arv Z h7 ca kC1 .int (Int32.ofNat cs.length) (cs.map Value.int) (.int (0 : Int32)) := ((((VC1.ext E4).other W5 ne_ca_ar4).other W6 ne_ca_ar4).other W7 ne_ca_ar4)
      refine E_iaload (pc' := 58) (x := (cs.getD k 0)) cx st13 V15 (idx_nat hk (by omega)) (by rw [ofNat_clamp (by omega)]; exact getD_int cs k 0) d13_57 rfl ?_
      refine E_lshl (pc' := 59) cx st13 d13_58 rfl ?_
      refine E_land (pc' := 60) cx st13 d13_59 rfl ?_
      refine E_lconst (pc' := 61) cx st13 (0 : Int64) d13_60 rfl rfl ?_
      by_cases c16 : (e1 &&& ((1 : Int64) <<< ((cs.getD k 0) &&& 0x3f).toInt64)) = (0 : Int64)
      · refine E_lif_eqY (pc' := 67) cx st13 d13_61 d13_62 (by decide) (by decide) c16 ?_
        refine E_iload (pc' := 69) cx st13 d13_67 rfl rfl ?_
        refine E_if_neY (pc' := 89) cx st13 d13_69 (by decide) (by decide) (by decide) ?_
        refine E_iload (pc' := 91) cx st13 d13_89 rfl rfl ?_
        refine E_iconst (pc' := 92) cx st13 (1 : Int32) d13_91 rfl rfl ?_
        refine E_icmp_neN (pc' := 95) cx st13 d13_92 rfl (by decide) ?_
        refine E_aloadN (pc' := 96) cx st13 d13_95 rfl rfl rfl ?_
        have G18 : Fld Z h7 o "com/example/widowbid/widowbid/Worlds" "ways" "[[[J" (.ref wa) := ((((dw1.ext E4).other W5 (Or.inl ne_o_ar4)).other W6 (Or.inl ne_o_ar4)).other W7 (Or.inl ne_o_ar4))
        refine E_getfield (pc' := 99) cx st13 (hw _ (List.mem_of_getElem? (i := 43) rfl)) G18 d13_96 rfl ?_
        intro T17 st17
        refine E_iloadN (pc' := 100) cx st17 d13_99 rfl rfl ?_
        refine E_iconst (pc' := 101) cx st17 (1 : Int32) d13_100 rfl rfl ?_
        refine E_iadd (pc' := 102) cx st17 d13_101 rfl ?_
        rw [show ((Int32.ofNat k) + (1 : Int32)) = (Int32.ofNat (k + 1)) from i32_next k]
        have cq : Cube Z h7 wa (cs.length + 1) (za + 1) (zb + 1) f := dQ1.keep K7 (fun z hz => by cases hz)
        refine Cube.at1 (pc' := 103) cq (show k + 1 < cs.length + 1 by omega) (by omega) cx st17 d13_102 rfl ?_
        refine E_iloadN (pc' := 104) cx st17 d13_103 rfl rfl ?_
        refine Cube.at2 (pc' := 105) cq (show k + 1 < cs.length + 1 by omega) (show x < za + 1 by omega) (by omega) cx st17 d13_104 rfl ?_
        refine E_iloadN (pc' := 106) cx st17 d13_105 rfl rfl ?_
        refine E_iconst (pc' := 107) cx st17 (1 : Int32) d13_106 rfl rfl ?_
        refine E_isub (pc' := 108) cx st17 d13_107 rfl ?_
        have hx0 := ofNat_ne0 c8
        rw [show ((Int32.ofNat y) - (1 : Int32)) = (Int32.ofNat (y - 1)) from i32_pred hx0]
        refine Cube.at3 (pc' := 109) cq (show k + 1 < cs.length + 1 by omega) (show x < za + 1 by omega) (show (y - 1) < zb + 1 by omega) (by omega) cx st17 d13_108 rfl ?_
        refine E_goto (pc' := 124) cx st17 d13_109 (by decide) (by decide) ?_
        refine E_lreturn cx st17 d13_124 rfl (by decide) (by decide) ?_
        exact ⟨by unfold af1 xc; rw [show th cs.length k x y = u3 from hu3]; rw [if_neg c8, if_neg c9, if_pos c16], K7⟩
      · refine E_lif_eqN (pc' := 65) cx st13 d13_61 d13_62 rfl c16 ?_
        refine E_lconst (pc' := 66) cx st13 (0 : Int64) d13_65 rfl rfl ?_
        refine E_lreturn cx st13 d13_66 rfl (by decide) (by decide) ?_
        exact ⟨by unfold af1 xc; rw [show th cs.length k x y = u3 from hu3]; rw [if_neg c8, if_neg c9, if_neg c16], K7⟩
theorem ef_13p2 (m : MethodId) (x0 : Addr) (x1 : Int32) (x2 : Int32) (x3 : Int32) (x4 : Int32) : entryFrame m #[(.ref x0), (.int x1), (.int x2), (.int x3), (.int x4)] 7 = mkF m 0 #[.val (.ref x0), .val (.int x1), .val (.int x2), .val (.int x3), .val (.int x4), .unset, .unset] [] := by first | (simp [entryFrame, mkF, argsToLocals, Value.category]; done) | rfl
set_option maxRecDepth 65536 in
set_option maxHeartbeats 40000000 in
theorem rm13p2 (l : Launch) (Z : State) (a0 : Array Value) (hw : ∀ d ∈ tables_1, d.before a0 Z = true) (o : Addr) (ca : Addr) (cz : Addr) (ce : Addr) (wa : Addr) (sz : Addr) (h0 : Heap) (n0 : Nat) (Z0 : n0 ≤ h0.size) (cs : List Int32) (za zb zc : Nat) (e0 e1 e2 : Int64) (f : Nat → Nat → Nat → Int64) (D : Wd Z h0 o ca cz ce wa sz cs za zb zc e0 e1 e2 f) (hn : cs.length ≤ 4) (hz : za + zb ≤ 4) (k x y : Nat) (hk : k < cs.length) (hx : x ≤ za) (hy : y ≤ zb) :
    Con l Z (⟨"com/example/widowbid/widowbid/Worlds", "after", "(IIII)J"⟩ : MethodName) prog_68_method_4_code 7 (some .long) ({ frames := 0, cells := 1, slots := 3, locals := 0 } : Room) #[(.ref o), (.int (Int32.ofNat k)), (.int (Int32.ofNat x)), (.int (Int32.ofNat y)), (.int (2 : Int32))] h0 n0 (fun v h => v = some (.long (af2 e2 cs f k x y)) ∧ Keep h0 h []) := by
  refine Con.of (own := "com/example/widowbid/widowbid/Worlds") (name := "after") (plainFor_of_name pn_3) (fun m => ef_13p2 m o (Int32.ofNat k) (Int32.ofNat x) (Int32.ofNat y) (2 : Int32)) rfl rfl ?_
  intro p e s m below meth c T F S cx st
  obtain ⟨dE1, dc1, ds1, de1, dw1, ⟨kC1, VC1⟩, ⟨kZ1, VZ1⟩, ⟨kX1, VX1⟩, ⟨kS1, VS1⟩, dQ1, lo1, lc1, lz1, lx1, ls1⟩ := id D
  refine E_aloadN (pc' := 1) cx st d13_0 rfl rfl rfl ?_
  refine E_getfield (pc' := 4) cx st (hw _ (List.mem_of_getElem? (i := 19) rfl)) dc1 d13_1 rfl ?_
  intro T2 st2
  refine E_arraylength (pc' := 5) cx st2 VC1 d13_4 rfl ?_
  refine E_iloadN (pc' := 6) cx st2 d13_5 rfl rfl ?_
  refine E_isub (pc' := 7) cx st2 d13_6 rfl ?_
  refine E_iloadN (pc' := 8) cx st2 d13_7 rfl rfl ?_
  refine E_isub (pc' := 9) cx st2 d13_8 rfl ?_
  refine E_iloadN (pc' := 10) cx st2 d13_9 rfl rfl ?_
  refine E_isub (pc' := 11) cx st2 d13_10 rfl ?_
  generalize hu3 : ((((Int32.ofNat cs.length) - (Int32.ofNat k)) - (Int32.ofNat x)) - (Int32.ofNat y)) = u3
  refine E_istore (pc' := 13) (L' := #[.val (.ref o), .val (.int (Int32.ofNat k)), .val (.int (Int32.ofNat x)), .val (.int (Int32.ofNat y)), .val (.int (2 : Int32)), .val (.int u3), .unset]) cx st2 d13_11 rfl rfl ?_
  refine E_iconst (pc' := 14) cx st2 (3 : Int32) d13_13 rfl rfl ?_
  refine E_newP (pc' := 16) (kc' := 1) (ks' := 3) (cap := 3) cx st2 (hw _ (List.mem_of_getElem? (i := 0) rfl)) d13_14 (by decide) (by decide) (by decide) (by decide) (by decide) (by decide) (by decide) rfl (ad := "[I") (by decide) ?_
  intro T4 h4 ca4 ar4 eq4 st4 E4 V4 X4
  have g_ar4 : n0 ≤ ar4 := by rw [eq4]; exact Z0
  have ne_o_ar4 : o ≠ ar4 := by rw [eq4]; exact Nat.ne_of_lt dE1.lt
  have ne_ca_ar4 : ca ≠ ar4 := by rw [eq4]; exact Nat.ne_of_lt VC1.lt
  have ne_cz_ar4 : cz ≠ ar4 := by rw [eq4]; exact Nat.ne_of_lt VZ1.lt
  have ne_ce_ar4 : ce ≠ ar4 := by rw [eq4]; exact Nat.ne_of_lt VX1.lt
  have ne_sz_ar4 : sz ≠ ar4 := by rw [eq4]; exact Nat.ne_of_lt VS1.lt
  have sz_ar4 : h0.size ≤ ar4 := by rw [eq4]; exact (Keep.refl h0 []).1
  have Z4 : n0 ≤ h4.size := Nat.le_trans Z0 E4.1
  have K4 : Keep h0 h4 [] := (Keep.refl h0 []).ext E4
  have V4p : Arv Z h4 ar4 ca4 .int (3 : Int32) [(.int (0 : Int32)), (.int (0 : Int32)), (.int (0 : Int32))] (.int (0 : Int32)) := V4.pad (pad_rep [] (.int (0 : Int32)) 3)
  refine E_dup (pc' := 17) cx st4 d13_16 rfl rfl ?_
  refine E_iconst (pc' := 18) cx st4 (0 : Int32) d13_17 rfl rfl ?_
  refine E_iloadN (pc' := 19) cx st4 d13_18 rfl rfl ?_
  refine E_iastore (pc' := 20) (i := 0) cx st4 V4p ⟨by decide, by decide⟩ rfl (Nat.le_of_ble_eq_true rfl) g_ar4 d13_19 rfl ?_
  intro T5 h5 st5 W5 V5
  have Z5 : n0 ≤ h5.size := Nat.le_trans Z4 (Keep.of_wr W5).1
  have K5 : Keep h0 h5 [] := K4.wr W5 (Or.inr sz_ar4)
  have V5p : Arv Z h5 ar4 ca4 .int (3 : Int32) [(.int (Int32.ofNat x)), (.int (0 : Int32)), (.int (0 : Int32))] (.int (0 : Int32)) := V5
  refine E_dup (pc' := 21) cx st5 d13_20 rfl rfl ?_
  refine E_iconst (pc' := 22) cx st5 (1 : Int32) d13_21 rfl rfl ?_
  refine E_iloadN (pc' := 23) cx st5 d13_22 rfl rfl ?_
  refine E_iastore (pc' := 24) (i := 1) cx st5 V5p ⟨by decide, by decide⟩ rfl (Nat.le_of_ble_eq_true rfl) g_ar4 d13_23 rfl ?_
  intro T6 h6 st6 W6 V6
  have Z6 : n0 ≤ h6.size := Nat.le_trans Z5 (Keep.of_wr W6).1
  have K6 : Keep h0 h6 [] := K5.wr W6 (Or.inr sz_ar4)
  have V6p : Arv Z h6 ar4 ca4 .int (3 : Int32) [(.int (Int32.ofNat x)), (.int (Int32.ofNat y)), (.int (0 : Int32))] (.int (0 : Int32)) := V6
  refine E_dup (pc' := 25) cx st6 d13_24 rfl rfl ?_
  refine E_iconst (pc' := 26) cx st6 (2 : Int32) d13_25 rfl rfl ?_
  refine E_iload (pc' := 28) cx st6 d13_26 rfl rfl ?_
  refine E_iastore (pc' := 29) (i := 2) cx st6 V6p ⟨by decide, by decide⟩ rfl (Nat.le_of_ble_eq_true rfl) g_ar4 d13_28 rfl ?_
  intro T7 h7 st7 W7 V7
  have Z7 : n0 ≤ h7.size := Nat.le_trans Z6 (Keep.of_wr W7).1
  have K7 : Keep h0 h7 [] := K6.wr W7 (Or.inr sz_ar4)
  have V7p : Arv Z h7 ar4 ca4 .int (3 : Int32) [(.int (Int32.ofNat x)), (.int (Int32.ofNat y)), (.int u3)] (.int (0 : Int32)) := V7
  refine E_astore (pc' := 31) (L' := #[.val (.ref o), .val (.int (Int32.ofNat k)), .val (.int (Int32.ofNat x)), .val (.int (Int32.ofNat y)), .val (.int (2 : Int32)), .val (.int u3), .val (.ref ar4)]) cx st7 d13_29 rfl rfl rfl ?_
  refine E_aload (pc' := 33) cx st7 d13_31 rfl rfl rfl ?_
  refine E_iload (pc' := 35) cx st7 d13_33 rfl rfl ?_
  refine E_iaload (pc' := 36) (x := u3) cx st7 V7p ⟨by decide, by decide⟩ rfl d13_35 rfl ?_
  by_cases c8 : u3 = (0 : Int32)
  · refine E_if_eqY (pc' := 65) cx st7 d13_36 (by decide) (by decide) c8 ?_
    refine E_lconst (pc' := 66) cx st7 (0 : Int64) d13_65 rfl rfl ?_
    refine E_lreturn cx st7 d13_66 rfl (by decide) (by decide) ?_
    exact ⟨by unfold af2 xc; rw [show th cs.length k x y = u3 from hu3]; rw [if_pos c8], K7⟩
  · refine E_if_eqN (pc' := 39) cx st7 d13_36 rfl c8 ?_
    refine E_iload (pc' := 41) cx st7 d13_39 rfl rfl ?_
    by_cases c9 : u3 < (0 : Int32)
    · refine E_if_ltY (pc' := 65) cx st7 d13_41 (by decide) (by decide) c9 ?_
      refine E_lconst (pc' := 66) cx st7 (0 : Int64) d13_65 rfl rfl ?_
      refine E_lreturn cx st7 d13_66 rfl (by decide) (by decide) ?_
      exact ⟨by unfold af2 xc; rw [show th cs.length k x y = u3 from hu3]; rw [if_neg c8, if_pos c9], K7⟩
    · refine E_if_ltN (pc' := 44) cx st7 d13_41 rfl c9 ?_
      refine E_aloadN (pc' := 45) cx st7 d13_44 rfl rfl rfl ?_
      have G11 : Fld Z h7 o "com/example/widowbid/widowbid/Worlds" "excluded" "[J" (.ref ce) := ((((de1.ext E4).other W5 (Or.inl ne_o_ar4)).other W6 (Or.inl ne_o_ar4)).other W7 (Or.inl ne_o_ar4))
      refine E_getfield (pc' := 48) cx st7 (hw _ (List.mem_of_getElem? (i := 38) rfl)) G11 d13_45 rfl ?_
      intro T10 st10
      refine E_iload (pc' := 50) cx st10 d13_48 rfl rfl ?_
      have V12 : Arv Z h7 ce kX1 .long (3 : Int32) [(.long e0), (.long e1), (.long e2)] (.long (0 : Int64)) := ((((VX1.ext E4).other W5 ne_ce_ar4).other W6 ne_ce_ar4).other W7 ne_ce_ar4)
      refine E_laload (pc' := 51) (x := e2) cx st10 V12 ⟨by decide, by decide⟩ rfl d13_50 rfl ?_
      refine E_lconst (pc' := 52) cx st10 (1 : Int64) d13_51 rfl rfl ?_
      refine E_aloadN (pc' := 53) cx st10 d13_52 rfl rfl rfl ?_
      have G14 : Fld Z h7 o "com/example/widowbid/widowbid/Worlds" "cards" "[I" (.ref ca) := ((((dc1.ext E4).other W5 (Or.inl ne_o_ar4)).other W6 (Or.inl ne_o_ar4)).other W7 (Or.inl ne_o_ar4))
      refine E_getfield (pc' := 56) cx st10 (hw _ (List.mem_of_getElem? (i := 19) rfl)) G14 d13_53 rfl ?_
      intro T13 st13
      refine E_iloadN (pc' := 57) cx st13 d13_56 rfl rfl ?_
      have V15 : Arv Z h7 ca kC1 .int (Int32.ofNat cs.length) (cs.map Value.int) (.int (0 : Int32)) := ((((VC1.ext E4).other W5 ne_ca_ar4).other W6 ne_ca_ar4).other W7 ne_ca_ar4)
      refine E_iaload (pc' := 58) (x := (cs.getD k 0)) cx st13 V15 (idx_nat hk (by omega)) (by rw [ofNat_clamp (by omega)]; exact getD_int cs k 0) d13_57 rfl ?_
      refine E_lshl (pc' := 59) cx st13 d13_58 rfl ?_
      refine E_land (pc' := 60) cx st13 d13_59 rfl ?_
      refine E_lconst (pc' := 61) cx st13 (0 : Int64) d13_60 rfl rfl ?_
      by_cases c16 : (e2 &&& ((1 : Int64) <<< ((cs.getD k 0) &&& 0x3f).toInt64)) = (0 : Int64)
      · refine E_lif_eqY (pc' := 67) cx st13 d13_61 d13_62 (by decide) (by decide) c16 ?_
        refine E_iload (pc' := 69) cx st13 d13_67 rfl rfl ?_
        refine E_if_neY (pc' := 89) cx st13 d13_69 (by decide) (by decide) (by decide) ?_
        refine E_iload (pc' := 91) cx st13 d13_89 rfl rfl ?_
        refine E_iconst (pc' := 92) cx st13 (1 : Int32) d13_91 rfl rfl ?_
        refine E_icmp_neY (pc' := 112) cx st13 d13_92 (by decide) (by decide) (by decide) ?_
        refine E_aloadN (pc' := 113) cx st13 d13_112 rfl rfl rfl ?_
        have G18 : Fld Z h7 o "com/example/widowbid/widowbid/Worlds" "ways" "[[[J" (.ref wa) := ((((dw1.ext E4).other W5 (Or.inl ne_o_ar4)).other W6 (Or.inl ne_o_ar4)).other W7 (Or.inl ne_o_ar4))
        refine E_getfield (pc' := 116) cx st13 (hw _ (List.mem_of_getElem? (i := 43) rfl)) G18 d13_113 rfl ?_
        intro T17 st17
        refine E_iloadN (pc' := 117) cx st17 d13_116 rfl rfl ?_
        refine E_iconst (pc' := 118) cx st17 (1 : Int32) d13_117 rfl rfl ?_
        refine E_iadd (pc' := 119) cx st17 d13_118 rfl ?_
        rw [show ((Int32.ofNat k) + (1 : Int32)) = (Int32.ofNat (k + 1)) from i32_next k]
        have cq : Cube Z h7 wa (cs.length + 1) (za + 1) (zb + 1) f := dQ1.keep K7 (fun z hz => by cases hz)
        refine Cube.at1 (pc' := 120) cq (show k + 1 < cs.length + 1 by omega) (by omega) cx st17 d13_119 rfl ?_
        refine E_iloadN (pc' := 121) cx st17 d13_120 rfl rfl ?_
        refine Cube.at2 (pc' := 122) cq (show k + 1 < cs.length + 1 by omega) (show x < za + 1 by omega) (by omega) cx st17 d13_121 rfl ?_
        refine E_iloadN (pc' := 123) cx st17 d13_122 rfl rfl ?_
        refine Cube.at3 (pc' := 124) cq (show k + 1 < cs.length + 1 by omega) (show x < za + 1 by omega) (show y < zb + 1 by omega) (by omega) cx st17 d13_123 rfl ?_
        refine E_lreturn cx st17 d13_124 rfl (by decide) (by decide) ?_
        exact ⟨by unfold af2 xc; rw [show th cs.length k x y = u3 from hu3]; rw [if_neg c8, if_neg c9, if_pos c16], K7⟩
      · refine E_lif_eqN (pc' := 65) cx st13 d13_61 d13_62 rfl c16 ?_
        refine E_lconst (pc' := 66) cx st13 (0 : Int64) d13_65 rfl rfl ?_
        refine E_lreturn cx st13 d13_66 rfl (by decide) (by decide) ?_
        exact ⟨by unfold af2 xc; rw [show th cs.length k x y = u3 from hu3]; rw [if_neg c8, if_neg c9, if_neg c16], K7⟩
theorem d10_0 : decode prog_68_method_2_code 0 = .ok (.aload_n 0, 1) := by decide +kernel
theorem d10_1 : decode prog_68_method_2_code 1 = .ok (.getfield 47, 3) := by decide +kernel
theorem d10_4 : decode prog_68_method_2_code 4 = .ok (.iconst 0, 1) := by decide +kernel
theorem d10_5 : decode prog_68_method_2_code 5 = .ok (.aaload, 1) := by decide +kernel
theorem d10_6 : decode prog_68_method_2_code 6 = .ok (.aload_n 0, 1) := by decide +kernel
theorem d10_7 : decode prog_68_method_2_code 7 = .ok (.getfield 36, 3) := by decide +kernel
theorem d10_10 : decode prog_68_method_2_code 10 = .ok (.iconst 0, 1) := by decide +kernel
theorem d10_11 : decode prog_68_method_2_code 11 = .ok (.iaload, 1) := by decide +kernel
theorem d10_12 : decode prog_68_method_2_code 12 = .ok (.aaload, 1) := by decide +kernel
theorem d10_13 : decode prog_68_method_2_code 13 = .ok (.aload_n 0, 1) := by decide +kernel
theorem d10_14 : decode prog_68_method_2_code 14 = .ok (.getfield 36, 3) := by decide +kernel
theorem d10_17 : decode prog_68_method_2_code 17 = .ok (.iconst 1, 1) := by decide +kernel
theorem d10_18 : decode prog_68_method_2_code 18 = .ok (.iaload, 1) := by decide +kernel
theorem d10_19 : decode prog_68_method_2_code 19 = .ok (.laload, 1) := by decide +kernel
theorem d10_20 : decode prog_68_method_2_code 20 = .ok (.lreturn, 1) := by decide +kernel
theorem ef_10 (m : MethodId) (x0 : Addr) : entryFrame m #[(.ref x0)] 1 = mkF m 0 #[.val (.ref x0)] [] := by first | (simp [entryFrame, mkF, argsToLocals, Value.category]; done) | rfl
set_option maxRecDepth 65536 in
set_option maxHeartbeats 40000000 in
theorem rm10 (l : Launch) (Z : State) (a0 : Array Value) (hw : ∀ d ∈ tables_1, d.before a0 Z = true) (o : Addr) (ca : Addr) (cz : Addr) (ce : Addr) (wa : Addr) (sz : Addr) (h0 : Heap) (n0 : Nat) (Z0 : n0 ≤ h0.size) (cs : List Int32) (za zb zc : Nat) (e0 e1 e2 : Int64) (f : Nat → Nat → Nat → Int64) (D : Wd Z h0 o ca cz ce wa sz cs za zb zc e0 e1 e2 f) (hn : cs.length ≤ 4) (hz : za + zb ≤ 4) :
    Con l Z (⟨"com/example/widowbid/widowbid/Worlds", "count", "()J"⟩ : MethodName) prog_68_method_2_code 1 (some .long) ({ frames := 0, cells := 0, slots := 0, locals := 0 } : Room) #[(.ref o)] h0 n0 (fun v h => v = some (.long (f 0 za zb)) ∧ h = h0) := by
  refine Con.of (own := "com/example/widowbid/widowbid/Worlds") (name := "count") (plainFor_of_name pn_3) (fun m => ef_10 m o) rfl rfl ?_
  intro p e s m below meth c T F S cx st
  obtain ⟨dE1, dc1, ds1, de1, dw1, ⟨kC1, VC1⟩, ⟨kZ1, VZ1⟩, ⟨kX1, VX1⟩, ⟨kS1, VS1⟩, dQ1, lo1, lc1, lz1, lx1, ls1⟩ := id D
  have hn0 : 0 < cs.length + 1 := by omega
  refine E_aloadN (pc' := 1) cx st d10_0 rfl rfl rfl ?_
  refine E_getfield (pc' := 4) cx st (hw _ (List.mem_of_getElem? (i := 43) rfl)) dw1 d10_1 rfl ?_
  intro T2 st2
  refine E_iconst (pc' := 5) cx st2 (0 : Int32) d10_4 rfl rfl ?_
  refine Cube.at1 (pc' := 6) dQ1 (i := 0) hn0 (by omega) cx st2 d10_5 rfl ?_
  refine E_aloadN (pc' := 7) cx st2 d10_6 rfl rfl rfl ?_
  refine E_getfield (pc' := 10) cx st2 (hw _ (List.mem_of_getElem? (i := 30) rfl)) ds1 d10_7 rfl ?_
  intro T3 st3
  refine E_iconst (pc' := 11) cx st3 (0 : Int32) d10_10 rfl rfl ?_
  refine E_iaload (pc' := 12) (x := (Int32.ofNat za)) cx st3 VZ1 ⟨by decide, by decide⟩ rfl d10_11 rfl ?_
  refine Cube.at2 (pc' := 13) dQ1 (i := 0) hn0 (show za < za + 1 by omega) (by omega) cx st3 d10_12 rfl ?_
  refine E_aloadN (pc' := 14) cx st3 d10_13 rfl rfl rfl ?_
  refine E_getfield (pc' := 17) cx st3 (hw _ (List.mem_of_getElem? (i := 30) rfl)) ds1 d10_14 rfl ?_
  intro T4 st4
  refine E_iconst (pc' := 18) cx st4 (1 : Int32) d10_17 rfl rfl ?_
  refine E_iaload (pc' := 19) (x := (Int32.ofNat zb)) cx st4 VZ1 ⟨by decide, by decide⟩ rfl d10_18 rfl ?_
  refine Cube.at3 (pc' := 20) dQ1 (i := 0) hn0 (show za < za + 1 by omega) (show zb < zb + 1 by omega) (by omega) cx st4 d10_19 rfl ?_
  refine E_lreturn cx st4 d10_20 rfl (by decide) (by decide) ?_
  exact ⟨rfl, rfl⟩
theorem d1_0 : decode prog_68_method_1_code 0 = .ok (.aload_n 0, 1) := by decide +kernel
theorem d1_1 : decode prog_68_method_1_code 1 = .ok (.invokespecial 1, 3) := by decide +kernel
theorem d1_4 : decode prog_68_method_1_code 4 = .ok (.aload_n 3, 1) := by decide +kernel
theorem d1_5 : decode prog_68_method_1_code 5 = .ok (.arraylength, 1) := by decide +kernel
theorem d1_6 : decode prog_68_method_1_code 6 = .ok (.iconst 3, 1) := by decide +kernel
theorem d1_7 : decode prog_68_method_1_code 7 = .ok (.if_icmp .ne 28, 3) := by decide +kernel
theorem d1_10 : decode prog_68_method_1_code 10 = .ok (.aload 4, 2) := by decide +kernel
theorem d1_12 : decode prog_68_method_1_code 12 = .ok (.arraylength, 1) := by decide +kernel
theorem d1_13 : decode prog_68_method_1_code 13 = .ok (.iconst 3, 1) := by decide +kernel
theorem d1_14 : decode prog_68_method_1_code 14 = .ok (.if_icmp .ne 21, 3) := by decide +kernel
theorem d1_17 : decode prog_68_method_1_code 17 = .ok (.aload_n 3, 1) := by decide +kernel
theorem d1_18 : decode prog_68_method_1_code 18 = .ok (.iconst 0, 1) := by decide +kernel
theorem d1_19 : decode prog_68_method_1_code 19 = .ok (.iaload, 1) := by decide +kernel
theorem d1_20 : decode prog_68_method_1_code 20 = .ok (.aload_n 3, 1) := by decide +kernel
theorem d1_21 : decode prog_68_method_1_code 21 = .ok (.iconst 1, 1) := by decide +kernel
theorem d1_22 : decode prog_68_method_1_code 22 = .ok (.iaload, 1) := by decide +kernel
theorem d1_23 : decode prog_68_method_1_code 23 = .ok (.iadd, 1) := by decide +kernel
theorem d1_24 : decode prog_68_method_1_code 24 = .ok (.aload_n 3, 1) := by decide +kernel
theorem d1_25 : decode prog_68_method_1_code 25 = .ok (.iconst 2, 1) := by decide +kernel
theorem d1_26 : decode prog_68_method_1_code 26 = .ok (.iaload, 1) := by decide +kernel
theorem d1_27 : decode prog_68_method_1_code 27 = .ok (.iadd, 1) := by decide +kernel
theorem d1_28 : decode prog_68_method_1_code 28 = .ok (.lload_n 1, 1) := by decide +kernel
theorem d1_29 : decode prog_68_method_1_code 29 = .ok (.invokestatic 9, 3) := by decide +kernel
theorem d1_32 : decode prog_68_method_1_code 32 = .ok (.if_icmp .eq 20, 3) := by decide +kernel
theorem d1_35 : decode prog_68_method_1_code 35 = .ok (.new 15, 3) := by decide +kernel
theorem d1_38 : decode prog_68_method_1_code 38 = .ok (.dup, 1) := by decide +kernel
theorem d1_39 : decode prog_68_method_1_code 39 = .ok (.lload_n 1, 1) := by decide +kernel
theorem d1_40 : decode prog_68_method_1_code 40 = .ok (.invokestatic 9, 3) := by decide +kernel
theorem d1_48 : decode prog_68_method_1_code 48 = .ok (.invokespecial 21, 3) := by decide +kernel
theorem d1_51 : decode prog_68_method_1_code 51 = .ok (.athrow, 1) := by decide +kernel
theorem d1_52 : decode prog_68_method_1_code 52 = .ok (.aload_n 0, 1) := by decide +kernel
theorem d1_53 : decode prog_68_method_1_code 53 = .ok (.lload_n 1, 1) := by decide +kernel
theorem d1_54 : decode prog_68_method_1_code 54 = .ok (.invokestatic 9, 3) := by decide +kernel
theorem d1_57 : decode prog_68_method_1_code 57 = .ok (.newarray .int, 2) := by decide +kernel
theorem d1_59 : decode prog_68_method_1_code 59 = .ok (.putfield 24, 3) := by decide +kernel
theorem d1_62 : decode prog_68_method_1_code 62 = .ok (.iconst 0, 1) := by decide +kernel
theorem d1_63 : decode prog_68_method_1_code 63 = .ok (.istore 5, 2) := by decide +kernel
theorem d1_65 : decode prog_68_method_1_code 65 = .ok (.lload_n 1, 1) := by decide +kernel
theorem d1_66 : decode prog_68_method_1_code 66 = .ok (.lstore 6, 2) := by decide +kernel
theorem d1_68 : decode prog_68_method_1_code 68 = .ok (.lload 6, 2) := by decide +kernel
theorem d1_70 : decode prog_68_method_1_code 70 = .ok (.lconst 0, 1) := by decide +kernel
theorem d1_71 : decode prog_68_method_1_code 71 = .ok (.lcmp, 1) := by decide +kernel
theorem d1_72 : decode prog_68_method_1_code 72 = .ok (.ifCond .eq 30, 3) := by decide +kernel
theorem d1_75 : decode prog_68_method_1_code 75 = .ok (.aload_n 0, 1) := by decide +kernel
theorem d1_76 : decode prog_68_method_1_code 76 = .ok (.getfield 24, 3) := by decide +kernel
theorem d1_79 : decode prog_68_method_1_code 79 = .ok (.iload 5, 2) := by decide +kernel
theorem d1_81 : decode prog_68_method_1_code 81 = .ok (.iinc 5 1, 3) := by decide +kernel
theorem d1_84 : decode prog_68_method_1_code 84 = .ok (.lload 6, 2) := by decide +kernel
theorem d1_86 : decode prog_68_method_1_code 86 = .ok (.invokestatic 28, 3) := by decide +kernel
theorem d1_89 : decode prog_68_method_1_code 89 = .ok (.iastore, 1) := by decide +kernel
theorem d1_90 : decode prog_68_method_1_code 90 = .ok (.lload 6, 2) := by decide +kernel
theorem d1_92 : decode prog_68_method_1_code 92 = .ok (.lload 6, 2) := by decide +kernel
theorem d1_94 : decode prog_68_method_1_code 94 = .ok (.lconst 1, 1) := by decide +kernel
theorem d1_95 : decode prog_68_method_1_code 95 = .ok (.lsub, 1) := by decide +kernel
theorem d1_96 : decode prog_68_method_1_code 96 = .ok (.land, 1) := by decide +kernel
theorem d1_97 : decode prog_68_method_1_code 97 = .ok (.lstore 6, 2) := by decide +kernel
theorem d1_99 : decode prog_68_method_1_code 99 = .ok (.goto (-31), 3) := by decide +kernel
theorem d1_102 : decode prog_68_method_1_code 102 = .ok (.aload_n 0, 1) := by decide +kernel
theorem d1_103 : decode prog_68_method_1_code 103 = .ok (.aload_n 3, 1) := by decide +kernel
theorem d1_104 : decode prog_68_method_1_code 104 = .ok (.invokevirtual 31, 3) := by decide +kernel
theorem d1_107 : decode prog_68_method_1_code 107 = .ok (.checkcast 32, 3) := by decide +kernel
theorem d1_110 : decode prog_68_method_1_code 110 = .ok (.putfield 36, 3) := by decide +kernel
theorem d1_113 : decode prog_68_method_1_code 113 = .ok (.aload_n 0, 1) := by decide +kernel
theorem d1_114 : decode prog_68_method_1_code 114 = .ok (.aload 4, 2) := by decide +kernel
theorem d1_116 : decode prog_68_method_1_code 116 = .ok (.invokevirtual 39, 3) := by decide +kernel
theorem d1_119 : decode prog_68_method_1_code 119 = .ok (.checkcast 40, 3) := by decide +kernel
theorem d1_122 : decode prog_68_method_1_code 122 = .ok (.putfield 42, 3) := by decide +kernel
theorem d1_125 : decode prog_68_method_1_code 125 = .ok (.aload_n 0, 1) := by decide +kernel
theorem d1_126 : decode prog_68_method_1_code 126 = .ok (.aload_n 0, 1) := by decide +kernel
theorem d1_127 : decode prog_68_method_1_code 127 = .ok (.getfield 24, 3) := by decide +kernel
theorem d1_130 : decode prog_68_method_1_code 130 = .ok (.arraylength, 1) := by decide +kernel
theorem d1_131 : decode prog_68_method_1_code 131 = .ok (.iconst 1, 1) := by decide +kernel
theorem d1_132 : decode prog_68_method_1_code 132 = .ok (.iadd, 1) := by decide +kernel
theorem d1_133 : decode prog_68_method_1_code 133 = .ok (.aload_n 3, 1) := by decide +kernel
theorem d1_134 : decode prog_68_method_1_code 134 = .ok (.iconst 0, 1) := by decide +kernel
theorem d1_135 : decode prog_68_method_1_code 135 = .ok (.iaload, 1) := by decide +kernel
theorem d1_136 : decode prog_68_method_1_code 136 = .ok (.iconst 1, 1) := by decide +kernel
theorem d1_137 : decode prog_68_method_1_code 137 = .ok (.iadd, 1) := by decide +kernel
theorem d1_138 : decode prog_68_method_1_code 138 = .ok (.aload_n 3, 1) := by decide +kernel
theorem d1_139 : decode prog_68_method_1_code 139 = .ok (.iconst 1, 1) := by decide +kernel
theorem d1_140 : decode prog_68_method_1_code 140 = .ok (.iaload, 1) := by decide +kernel
theorem d1_141 : decode prog_68_method_1_code 141 = .ok (.iconst 1, 1) := by decide +kernel
theorem d1_142 : decode prog_68_method_1_code 142 = .ok (.iadd, 1) := by decide +kernel
theorem d1_143 : decode prog_68_method_1_code 143 = .ok (.multianewarray 45 3, 4) := by decide +kernel
theorem d1_147 : decode prog_68_method_1_code 147 = .ok (.putfield 47, 3) := by decide +kernel
theorem d1_150 : decode prog_68_method_1_code 150 = .ok (.aload_n 0, 1) := by decide +kernel
theorem d1_151 : decode prog_68_method_1_code 151 = .ok (.getfield 47, 3) := by decide +kernel
theorem d1_154 : decode prog_68_method_1_code 154 = .ok (.aload_n 0, 1) := by decide +kernel
theorem d1_155 : decode prog_68_method_1_code 155 = .ok (.getfield 24, 3) := by decide +kernel
theorem d1_158 : decode prog_68_method_1_code 158 = .ok (.arraylength, 1) := by decide +kernel
theorem d1_159 : decode prog_68_method_1_code 159 = .ok (.aaload, 1) := by decide +kernel
theorem d1_160 : decode prog_68_method_1_code 160 = .ok (.iconst 0, 1) := by decide +kernel
theorem d1_161 : decode prog_68_method_1_code 161 = .ok (.aaload, 1) := by decide +kernel
theorem d1_162 : decode prog_68_method_1_code 162 = .ok (.iconst 0, 1) := by decide +kernel
theorem d1_163 : decode prog_68_method_1_code 163 = .ok (.lconst 1, 1) := by decide +kernel
theorem d1_164 : decode prog_68_method_1_code 164 = .ok (.lastore, 1) := by decide +kernel
theorem d1_165 : decode prog_68_method_1_code 165 = .ok (.aload_n 0, 1) := by decide +kernel
theorem d1_166 : decode prog_68_method_1_code 166 = .ok (.getfield 24, 3) := by decide +kernel
theorem d1_169 : decode prog_68_method_1_code 169 = .ok (.arraylength, 1) := by decide +kernel
theorem d1_170 : decode prog_68_method_1_code 170 = .ok (.iconst 1, 1) := by decide +kernel
theorem d1_171 : decode prog_68_method_1_code 171 = .ok (.isub, 1) := by decide +kernel
theorem d1_172 : decode prog_68_method_1_code 172 = .ok (.istore 6, 2) := by decide +kernel
theorem d1_174 : decode prog_68_method_1_code 174 = .ok (.iload 6, 2) := by decide +kernel
theorem d1_176 : decode prog_68_method_1_code 176 = .ok (.ifCond .lt 93, 3) := by decide +kernel
theorem d1_179 : decode prog_68_method_1_code 179 = .ok (.iconst 0, 1) := by decide +kernel
theorem d1_180 : decode prog_68_method_1_code 180 = .ok (.istore 7, 2) := by decide +kernel
theorem d1_182 : decode prog_68_method_1_code 182 = .ok (.iload 7, 2) := by decide +kernel
theorem d1_184 : decode prog_68_method_1_code 184 = .ok (.aload_n 3, 1) := by decide +kernel
theorem d1_185 : decode prog_68_method_1_code 185 = .ok (.iconst 0, 1) := by decide +kernel
theorem d1_186 : decode prog_68_method_1_code 186 = .ok (.iaload, 1) := by decide +kernel
theorem d1_187 : decode prog_68_method_1_code 187 = .ok (.if_icmp .gt 76, 3) := by decide +kernel
theorem d1_190 : decode prog_68_method_1_code 190 = .ok (.iconst 0, 1) := by decide +kernel
theorem d1_191 : decode prog_68_method_1_code 191 = .ok (.istore 8, 2) := by decide +kernel
theorem d1_193 : decode prog_68_method_1_code 193 = .ok (.iload 8, 2) := by decide +kernel
theorem d1_195 : decode prog_68_method_1_code 195 = .ok (.aload_n 3, 1) := by decide +kernel
theorem d1_196 : decode prog_68_method_1_code 196 = .ok (.iconst 1, 1) := by decide +kernel
theorem d1_197 : decode prog_68_method_1_code 197 = .ok (.iaload, 1) := by decide +kernel
theorem d1_198 : decode prog_68_method_1_code 198 = .ok (.if_icmp .gt 59, 3) := by decide +kernel
theorem d1_201 : decode prog_68_method_1_code 201 = .ok (.lconst 0, 1) := by decide +kernel
theorem d1_202 : decode prog_68_method_1_code 202 = .ok (.lstore 9, 2) := by decide +kernel
theorem d1_204 : decode prog_68_method_1_code 204 = .ok (.iconst 0, 1) := by decide +kernel
theorem d1_205 : decode prog_68_method_1_code 205 = .ok (.istore 11, 2) := by decide +kernel
theorem d1_207 : decode prog_68_method_1_code 207 = .ok (.iload 11, 2) := by decide +kernel
theorem d1_209 : decode prog_68_method_1_code 209 = .ok (.iconst 3, 1) := by decide +kernel
theorem d1_210 : decode prog_68_method_1_code 210 = .ok (.if_icmp .ge 26, 3) := by decide +kernel
theorem d1_213 : decode prog_68_method_1_code 213 = .ok (.lload 9, 2) := by decide +kernel
theorem d1_215 : decode prog_68_method_1_code 215 = .ok (.aload_n 0, 1) := by decide +kernel
theorem d1_216 : decode prog_68_method_1_code 216 = .ok (.iload 6, 2) := by decide +kernel
theorem d1_218 : decode prog_68_method_1_code 218 = .ok (.iload 7, 2) := by decide +kernel
theorem d1_220 : decode prog_68_method_1_code 220 = .ok (.iload 8, 2) := by decide +kernel
theorem d1_222 : decode prog_68_method_1_code 222 = .ok (.iload 11, 2) := by decide +kernel
theorem d1_224 : decode prog_68_method_1_code 224 = .ok (.invokevirtual 50, 3) := by decide +kernel
theorem d1_227 : decode prog_68_method_1_code 227 = .ok (.ladd, 1) := by decide +kernel
theorem d1_228 : decode prog_68_method_1_code 228 = .ok (.lstore 9, 2) := by decide +kernel
theorem d1_230 : decode prog_68_method_1_code 230 = .ok (.iinc 11 1, 3) := by decide +kernel
theorem d1_233 : decode prog_68_method_1_code 233 = .ok (.goto (-26), 3) := by decide +kernel
theorem d1_236 : decode prog_68_method_1_code 236 = .ok (.aload_n 0, 1) := by decide +kernel
theorem d1_237 : decode prog_68_method_1_code 237 = .ok (.getfield 47, 3) := by decide +kernel
theorem d1_240 : decode prog_68_method_1_code 240 = .ok (.iload 6, 2) := by decide +kernel
theorem d1_242 : decode prog_68_method_1_code 242 = .ok (.aaload, 1) := by decide +kernel
theorem d1_243 : decode prog_68_method_1_code 243 = .ok (.iload 7, 2) := by decide +kernel
theorem d1_245 : decode prog_68_method_1_code 245 = .ok (.aaload, 1) := by decide +kernel
theorem d1_246 : decode prog_68_method_1_code 246 = .ok (.iload 8, 2) := by decide +kernel
theorem d1_248 : decode prog_68_method_1_code 248 = .ok (.lload 9, 2) := by decide +kernel
theorem d1_250 : decode prog_68_method_1_code 250 = .ok (.lastore, 1) := by decide +kernel
theorem d1_251 : decode prog_68_method_1_code 251 = .ok (.iinc 8 1, 3) := by decide +kernel
theorem d1_254 : decode prog_68_method_1_code 254 = .ok (.goto (-61), 3) := by decide +kernel
theorem d1_257 : decode prog_68_method_1_code 257 = .ok (.iinc 7 1, 3) := by decide +kernel
theorem d1_260 : decode prog_68_method_1_code 260 = .ok (.goto (-78), 3) := by decide +kernel
theorem d1_263 : decode prog_68_method_1_code 263 = .ok (.iinc 6 (-1), 3) := by decide +kernel
theorem d1_266 : decode prog_68_method_1_code 266 = .ok (.goto (-92), 3) := by decide +kernel
theorem d1_269 : decode prog_68_method_1_code 269 = .ok (.return_, 1) := by decide +kernel
theorem ef_1 (m : MethodId) (x0 : Addr) (x1 : Int64) (x2 : Addr) (x3 : Addr) : entryFrame m #[(.ref x0), (.long x1), (.ref x2), (.ref x3)] 12 = mkF m 0 #[.val (.ref x0), .val (.long x1), .second, .val (.ref x2), .val (.ref x3), .unset, .unset, .unset, .unset, .unset, .unset, .unset] [] := by first | (simp [entryFrame, mkF, argsToLocals, Value.category]; done) | rfl
theorem pd_6 : parseMethodDescriptor "(J)I" = some ⟨[.long], some .int⟩ := by decide +kernel
theorem pd_7 : parseMethodDescriptor "(IIII)J" = some ⟨[.int, .int, .int, .int], some .long⟩ := by decide +kernel
set_option maxRecDepth 65536 in
set_option maxHeartbeats 40000000 in
theorem rm1 (l : Launch) (Z : State) (a0 : Array Value) (hw : ∀ d ∈ tables_1, d.before a0 Z = true) (o : Addr) (us : Int64) (sz : Addr) (ex : Addr) (h0 : Heap) (n0 : Nat) (Z0 : n0 ≤ h0.size) (cs : List Int32) (za zb zc : Nat) (e0 e1 e2 : Int64) (kS kX : ClassId) (hE : Exa Z h0 o "com/example/widowbid/widowbid/Worlds") (f0 : Fld Z h0 o "com/example/widowbid/widowbid/Worlds" "cards" "[I" .null) (f1 : Fld Z h0 o "com/example/widowbid/widowbid/Worlds" "sizes" "[I" .null) (f2 : Fld Z h0 o "com/example/widowbid/widowbid/Worlds" "excluded" "[J" .null) (f3 : Fld Z h0 o "com/example/widowbid/widowbid/Worlds" "ways" "[[[J" .null) (VS : Arv Z h0 sz kS .int (3 : Int32) [(.int (Int32.ofNat za)), (.int (Int32.ofNat zb)), (.int (Int32.ofNat zc))] (.int (0 : Int32))) (ES : Exa Z h0 sz "[I") (VX : Arv Z h0 ex kX .long (3 : Int32) [(.long e0), (.long e1), (.long e2)] (.long (0 : Int64))) (EX : Exa Z h0 ex "[J") (g_o : n0 ≤ o) (ne1 : o ≠ sz) (ne2 : o ≠ ex) (ne3 : sz ≠ ex) (hn : cs.length ≤ 4) (hz : za + zb + zc = cs.length) (hb : bcF us = Int32.ofNat cs.length) (hL : Low us cs) :
    Con l Z (⟨"com/example/widowbid/widowbid/Worlds", "<init>", "(J[I[J)V"⟩ : MethodName) prog_68_method_1_code 12 none ({ frames := 2, cells := 150, slots := 430, locals := 40 } : Room) #[(.ref o), (.long us), (.ref sz), (.ref ex)] h0 n0 (fun v h => v = none ∧ Keep h0 h [o] ∧ ∃ ca cz ce wa f, Wd Z h o ca cz ce wa sz cs za zb zc e0 e1 e2 f ∧ f 0 za zb = wy e0 e1 e2 cs za zb) := by
  refine Con.of (own := "com/example/widowbid/widowbid/Worlds") (name := "<init>") (plainFor_of_name pn_3) (fun m => ef_1 m o us sz ex) rfl rfl ?_
  intro p e s m below meth c T F S cx st
  refine E_aloadN (pc' := 1) cx st d1_0 rfl rfl rfl ?_
  refine E_initO (pc' := 4) (W := 0) cx st (hw _ (List.mem_of_getElem? (i := 9) rfl)) (hw _ (List.mem_of_getElem? (i := 10) rfl)) (hw _ (List.mem_of_getElem? (i := 11) rfl)) d1_1 rfl (by decide) (Nat.le_of_eq rfl) (by decide) rfl ?_
  intro T1 st1
  refine E_aloadN (pc' := 5) cx st1 d1_4 rfl rfl rfl ?_
  refine E_arraylength (pc' := 6) cx st1 VS d1_5 rfl ?_
  refine E_iconst (pc' := 7) cx st1 (3 : Int32) d1_6 rfl rfl ?_
  refine E_icmp_neN (pc' := 10) cx st1 d1_7 rfl (by decide) ?_
  refine E_aload (pc' := 12) cx st1 d1_10 rfl rfl rfl ?_
  refine E_arraylength (pc' := 13) cx st1 VX d1_12 rfl ?_
  refine E_iconst (pc' := 14) cx st1 (3 : Int32) d1_13 rfl rfl ?_
  refine E_icmp_neN (pc' := 17) cx st1 d1_14 rfl (by decide) ?_
  refine E_aloadN (pc' := 18) cx st1 d1_17 rfl rfl rfl ?_
  refine E_iconst (pc' := 19) cx st1 (0 : Int32) d1_18 rfl rfl ?_
  refine E_iaload (pc' := 20) (x := (Int32.ofNat za)) cx st1 VS ⟨by decide, by decide⟩ rfl d1_19 rfl ?_
  refine E_aloadN (pc' := 21) cx st1 d1_20 rfl rfl rfl ?_
  refine E_iconst (pc' := 22) cx st1 (1 : Int32) d1_21 rfl rfl ?_
  refine E_iaload (pc' := 23) (x := (Int32.ofNat zb)) cx st1 VS ⟨by decide, by decide⟩ rfl d1_22 rfl ?_
  refine E_iadd (pc' := 24) cx st1 d1_23 rfl ?_
  refine E_aloadN (pc' := 25) cx st1 d1_24 rfl rfl rfl ?_
  refine E_iconst (pc' := 26) cx st1 (2 : Int32) d1_25 rfl rfl ?_
  refine E_iaload (pc' := 27) (x := (Int32.ofNat zc)) cx st1 VS ⟨by decide, by decide⟩ rfl d1_26 rfl ?_
  refine E_iadd (pc' := 28) cx st1 d1_27 rfl ?_
  refine E_lloadN (pc' := 29) cx st1 d1_28 rfl rfl ?_
  refine E_callS (pc' := 32) (kc' := 0) (ks' := 0) (W := 1) (argsL := [(.long us)]) cx st1 [(.int (((Int32.ofNat za) + (Int32.ofNat zb)) + (Int32.ofNat zc)))] (rm3 l Z a0 hw us h0 n0 Z0) (hw _ (List.mem_of_getElem? (i := 12) rfl)) (hw _ (List.mem_of_getElem? (i := 13) rfl)) (hw _ (List.mem_of_getElem? (i := 14) rfl)) (hw _ (List.mem_of_getElem? (i := 15) rfl)) d1_29 rfl rfl (lenOf pd_6 rfl) (Nat.le_of_eq rfl) (by decide) (by decide) (by decide) (by decide) (by decide) (by decide) (by decide) rfl ?_
  intro v2 T2 h2 st2 hq2
  obtain ⟨rfl, hh2⟩ := hq2
  rw [hh2] at st2
  have hsum : (((Int32.ofNat za) + (Int32.ofNat zb)) + (Int32.ofNat zc)) = (bcF us) := by rw [hb, ← hz, Int32.ofNat_add, Int32.ofNat_add]
  refine E_icmp_eqY (pc' := 52) cx st2 d1_32 (by decide) (by decide) hsum ?_
  refine E_aloadN (pc' := 53) cx st2 d1_52 rfl rfl rfl ?_
  refine E_lloadN (pc' := 54) cx st2 d1_53 rfl rfl ?_
  refine E_callS (pc' := 57) (kc' := 0) (ks' := 0) (W := 1) (argsL := [(.long us)]) cx st2 [(.ref o)] (rm3 l Z a0 hw us h0 n0 Z0) (hw _ (List.mem_of_getElem? (i := 12) rfl)) (hw _ (List.mem_of_getElem? (i := 13) rfl)) (hw _ (List.mem_of_getElem? (i := 14) rfl)) (hw _ (List.mem_of_getElem? (i := 15) rfl)) d1_54 rfl rfl (lenOf pd_6 rfl) (Nat.le_of_eq rfl) (by decide) (by decide) (by decide) (by decide) (by decide) (by decide) (by decide) rfl ?_
  intro v3 T3 h3 st3 hq3
  obtain ⟨rfl, hh3⟩ := hq3
  rw [hh3] at st3
  rw [show (bcF us) = (Int32.ofNat cs.length) from hb]
  refine E_newP (pc' := 59) (kc' := 1) (ks' := 4) (cap := 4) cx st3 (hw _ (List.mem_of_getElem? (i := 0) rfl)) d1_57 (nn32 (by omega)) (by rw [ofNat_clamp (by omega)]; exact hn) (by decide) (by decide) (by decide) (by decide) (by decide) rfl (ad := "[I") (by decide) ?_
  intro T4 h4 ca4 ca eq4 st4 E4 V4 X4
  have g_ca : n0 ≤ ca := by rw [eq4]; exact Z0
  have ne_o_ca : o ≠ ca := by rw [eq4]; exact Nat.ne_of_lt hE.lt
  have ne_sz_ca : sz ≠ ca := by rw [eq4]; exact Nat.ne_of_lt VS.lt
  have ne_ex_ca : ex ≠ ca := by rw [eq4]; exact Nat.ne_of_lt VX.lt
  have sz_ca : h0.size ≤ ca := by rw [eq4]; exact (Keep.refl h0 [o]).1
  have Z4 : n0 ≤ h4.size := Nat.le_trans Z0 E4.1
  have K4 : Keep h0 h4 [o] := (Keep.refl h0 [o]).ext E4
  have V4p : Arv Z h4 ca ca4 .int (Int32.ofNat cs.length) [] (.int (0 : Int32)) := V4.pad (pad_rep [] (.int (0 : Int32)) 0)
  have G5 : Fld Z h4 o "com/example/widowbid/widowbid/Worlds" "cards" "[I" .null := (f0.ext E4)
  have X6 : Exa Z h4 o "com/example/widowbid/widowbid/Worlds" := (hE.ext E4)
  refine E_putfield (pc' := 62) (ty := (.array .int)) cx st4 (hw _ (List.mem_of_getElem? (i := 19) rfl)) G5 X6 (Or.inr ⟨(hw _ (List.mem_of_getElem? (i := 20) rfl)), rfl, rfl⟩) (hw _ (List.mem_of_getElem? (i := 4) rfl)) (by decide) rfl rfl g_o d1_59 rfl ?_
  intro T7 h7 st7 W7
  have Z7 : n0 ≤ h7.size := Nat.le_trans Z4 (Keep.of_wr W7).1
  have K7 : Keep h0 h7 [o] := K4.wr W7 (Or.inl (List.mem_of_getElem? (i := 0) rfl))
  have G7w : Fld Z h7 o "com/example/widowbid/widowbid/Worlds" "cards" "[I" (.ref ca) := G5.same W7
  refine E_iconst (pc' := 63) cx st7 (0 : Int32) d1_62 rfl rfl ?_
  refine E_istore (pc' := 65) (L' := #[.val (.ref o), .val (.long us), .second, .val (.ref sz), .val (.ref ex), .val (.int (0 : Int32)), .unset, .unset, .unset, .unset, .unset, .unset]) cx st7 d1_63 rfl rfl ?_
  refine E_lloadN (pc' := 66) cx st7 d1_65 rfl rfl ?_
  refine E_lstore (pc' := 68) (L' := #[.val (.ref o), .val (.long us), .second, .val (.ref sz), .val (.ref ex), .val (.int (0 : Int32)), .val (.long us), .second, .unset, .unset, .unset, .unset]) cx st7 d1_66 rfl rfl ?_
  have V8 : Arv Z h7 ca ca4 .int (Int32.ofNat cs.length) [] (.int (0 : Int32)) := (V4p.other W7 (Ne.symm ne_o_ca))
  have Vr : Arv Z h7 ca ca4 .int (Int32.ofNat cs.length) (([] : List Int32).map Value.int ++ List.replicate cs.length (.int (0 : Int32))) (.int (0 : Int32)) := V8.pad (pad_rep [] (.int (0 : Int32)) cs.length)
  suffices J102 : ∀ T h, S 1 4 T h → Keep h7 h [ca] → Arv Z h ca ca4 .int (Int32.ofNat cs.length) (cs.map Value.int) (.int (0 : Int32)) → F T (mkF m 102 #[.val (.ref o), .val (.long us), .second, .val (.ref sz), .val (.ref ex), .val (.int (Int32.ofNat cs.length)), .val (.long (0 : Int64)), .second, .unset, .unset, .unset, .unset] []) by
    suffices J68 : ∀ (t dn : List Int32) (x : Int64) T h, cs = dn ++ t → Low x t → S 1 4 T h → Keep h7 h [ca] → Arv Z h ca ca4 .int (Int32.ofNat cs.length) (dn.map Value.int ++ List.replicate t.length (.int (0 : Int32))) (.int (0 : Int32)) → F T (mkF m 68 #[.val (.ref o), .val (.long us), .second, .val (.ref sz), .val (.ref ex), .val (.int (Int32.ofNat dn.length)), .val (.long x), .second, .unset, .unset, .unset, .unset] []) from J68 cs [] us T7 h7 rfl hL st7 (Keep.refl _ _) Vr
    intro t
    induction t with
    | nil =>
      intro dn x T9 h9 hc hl st9 K9 V9
      have hl : x = 0 := hl
      have e1 : dn = cs := by rw [hc]; simp
      rw [e1] at V9
      rw [e1, hl]
      refine E_lload (pc' := 70) cx st9 d1_68 rfl rfl ?_
      refine E_lconst (pc' := 71) cx st9 (0 : Int64) d1_70 rfl rfl ?_
      refine E_lif_eqY (pc' := 102) cx st9 d1_71 d1_72 (by decide) (by decide) rfl ?_
      exact J102 T9 h9 st9 K9 (by simpa using V9)
    | cons c0 t ih =>
      intro dn x T10 h10 hc hl st10 K10 V10
      obtain ⟨l1, l2, l3⟩ := hl
      have hlen : cs.length = dn.length + (t.length + 1) := by rw [hc]; simp
      have Z10 : n0 ≤ h10.size := Nat.le_trans Z7 K10.1
      have KK10' : Keep h0 h10 [o] := K7.trans K10 (allS (Or.inr sz_ca) all0)
      refine E_lload (pc' := 70) cx st10 d1_68 rfl rfl ?_
      refine E_lconst (pc' := 71) cx st10 (0 : Int64) d1_70 rfl rfl ?_
      refine E_lif_eqN (pc' := 75) cx st10 d1_71 d1_72 rfl l1 ?_
      refine E_aloadN (pc' := 76) cx st10 d1_75 rfl rfl rfl ?_
      have G12 : Fld Z h10 o "com/example/widowbid/widowbid/Worlds" "cards" "[I" (.ref ca) := (G7w.keep K10 (ninS ne_o_ca nin0))
      refine E_getfield (pc' := 79) cx st10 (hw _ (List.mem_of_getElem? (i := 19) rfl)) G12 d1_76 rfl ?_
      intro T11 st11
      refine E_iload (pc' := 81) cx st11 d1_79 rfl rfl ?_
      refine E_iinc (pc' := 84) (L' := #[.val (.ref o), .val (.long us), .second, .val (.ref sz), .val (.ref ex), .val (.int ((Int32.ofNat dn.length) + (1 : Int32))), .val (.long x), .second, .unset, .unset, .unset, .unset]) cx st11 (1 : Int32) d1_81 rfl rfl rfl rfl ?_
      refine E_lload (pc' := 86) cx st11 d1_84 rfl rfl ?_
      refine E_callS (pc' := 89) (kc' := 1) (ks' := 4) (W := 2) (argsL := [(.long x)]) cx st11 [(.int (Int32.ofNat dn.length)), (.ref ca)] (rm11 l Z a0 hw x h10 n0 Z10) (hw _ (List.mem_of_getElem? (i := 69) rfl)) (hw _ (List.mem_of_getElem? (i := 70) rfl)) (hw _ (List.mem_of_getElem? (i := 14) rfl)) (hw _ (List.mem_of_getElem? (i := 71) rfl)) d1_86 rfl rfl (lenOf pd_6 rfl) (Nat.le_of_eq rfl) (by decide) (by decide) (by decide) (by decide) (by decide) (by decide) (by decide) rfl ?_
      intro v13 T13 h13 st13 hq13
      obtain ⟨rfl, hh13⟩ := hq13
      rw [hh13] at st13
      rw [show (ntL x) = c0 from l2]
      refine E_iastore (pc' := 90) (i := dn.length) cx st13 V10 (idx_nat (by omega) (by omega)) (ofNat_clamp (by omega)) (by simp) g_ca d1_89 rfl ?_
      intro T14 h14 st14 W14 V14
      have Z14 : n0 ≤ h14.size := Nat.le_trans Z10 (Keep.of_wr W14).1
      have K14 : Keep h0 h14 [o] := KK10'.wr W14 (Or.inr sz_ca)
      have V14p : Arv Z h14 ca ca4 .int (Int32.ofNat cs.length) ((dn.map Value.int ++ List.replicate (t.length + 1) (Value.int (0 : Int32))).set dn.length (.int c0)) (.int (0 : Int32)) := V14
      refine E_lload (pc' := 92) cx st14 d1_90 rfl rfl ?_
      refine E_lload (pc' := 94) cx st14 d1_92 rfl rfl ?_
      refine E_lconst (pc' := 95) cx st14 (1 : Int64) d1_94 rfl rfl ?_
      refine E_lsub (pc' := 96) cx st14 d1_95 rfl ?_
      refine E_land (pc' := 97) cx st14 d1_96 rfl ?_
      refine E_lstore (pc' := 99) (L' := #[.val (.ref o), .val (.long us), .second, .val (.ref sz), .val (.ref ex), .val (.int ((Int32.ofNat dn.length) + (1 : Int32))), .val (.long (x &&& (x - (1 : Int64)))), .second, .unset, .unset, .unset, .unset]) cx st14 d1_97 rfl rfl ?_
      refine E_goto (pc' := 68) cx st14 d1_99 (by decide) (by decide) ?_
      rw [show ((Int32.ofNat dn.length) + (1 : Int32)) = Int32.ofNat (dn ++ [c0]).length from by rw [List.length_append]; exact i32_next _]
      exact ih (dn ++ [c0]) (x &&& (x - (1 : Int64))) T14 h14 (by rw [hc]; simp) l3 st14 (K10.wr W14 (Or.inl (List.mem_of_getElem? (i := 0) rfl))) (by rw [← set_at]; exact V14p)
  intro T15 h15 st15 K15 V15
  have Z15 : n0 ≤ h15.size := Nat.le_trans Z7 K15.1
  have KK15' : Keep h0 h15 [o] := K7.trans K15 (allS (Or.inr sz_ca) all0)
  refine E_aloadN (pc' := 103) cx st15 d1_102 rfl rfl rfl ?_
  refine E_aloadN (pc' := 104) cx st15 d1_103 rfl rfl rfl ?_
  have V16 : Arv Z h15 sz kS .int (3 : Int32) [(.int (Int32.ofNat za)), (.int (Int32.ofNat zb)), (.int (Int32.ofNat zc))] (.int (0 : Int32)) := (((VS.ext E4).other W7 (Ne.symm ne1)).keep K15 (ninS ne_sz_ca nin0))
  have X17 : Exa Z h15 sz "[I" := (((ES.ext E4).wr W7).keep K15)
  have X18 : Exa Z h15 o "com/example/widowbid/widowbid/Worlds" := ((X6.wr W7).keep K15)
  have V19 : Arv Z h15 ex kX .long (3 : Int32) [(.long e0), (.long e1), (.long e2)] (.long (0 : Int64)) := (((VX.ext E4).other W7 (Ne.symm ne2)).keep K15 (ninS ne_ex_ca nin0))
  refine E_clone (pc' := 107) (kc' := 2) (ks' := 7) (W := 1) (cap := 3) cx st15 V16 X17 (hw _ (List.mem_of_getElem? (i := 21) rfl)) (hw _ (List.mem_of_getElem? (i := 22) rfl)) (hw _ (List.mem_of_getElem? (i := 26) rfl)) (hw _ (List.mem_of_getElem? (i := 24) rfl)) (hw _ (List.mem_of_getElem? (i := 25) rfl)) (hw _ (List.mem_of_getElem? (i := 27) rfl)) d1_104 rfl (by decide) (Nat.le_of_eq rfl) (by decide) (by decide) (by decide) (by decide) (by decide) (by decide) rfl ?_
  intro T20 h20 ar20 eq20 st20 E20 V20 X20
  have g_ar20 : n0 ≤ ar20 := by rw [eq20]; exact Z15
  have ne_o_ar20 : o ≠ ar20 := by rw [eq20]; exact Nat.ne_of_lt X18.lt
  have ne_sz_ar20 : sz ≠ ar20 := by rw [eq20]; exact Nat.ne_of_lt V16.lt
  have ne_ex_ar20 : ex ≠ ar20 := by rw [eq20]; exact Nat.ne_of_lt V19.lt
  have ne_ca_ar20 : ca ≠ ar20 := by rw [eq20]; exact Nat.ne_of_lt V15.lt
  have sz_ar20 : h0.size ≤ ar20 := by rw [eq20]; exact KK15'.1
  have Z20 : n0 ≤ h20.size := Nat.le_trans Z15 E20.1
  have K20 : Keep h0 h20 [o] := KK15'.ext E20
  refine E_checkcast (pc' := 110) cx st20 (hw _ (List.mem_of_getElem? (i := 28) rfl)) (Ins.self X20) d1_107 rfl ?_
  intro T21 st21
  have G22 : Fld Z h20 o "com/example/widowbid/widowbid/Worlds" "sizes" "[I" .null := ((((f1.ext E4).other W7 (Or.inr (slot_ne (Or.inr (hw _ (List.mem_of_getElem? (i := 31) rfl))) (Or.inr (hw _ (List.mem_of_getElem? (i := 20) rfl))) (by decide) (t := (.array .int)) (t' := (.array .int)) (by decide) (by decide)))).keep K15 (ninS ne_o_ca nin0)).ext E20)
  have X23 : Exa Z h20 o "com/example/widowbid/widowbid/Worlds" := (X18.ext E20)
  refine E_putfield (pc' := 113) (ty := (.array .int)) cx st21 (hw _ (List.mem_of_getElem? (i := 30) rfl)) G22 X23 (Or.inr ⟨(hw _ (List.mem_of_getElem? (i := 31) rfl)), rfl, rfl⟩) (hw _ (List.mem_of_getElem? (i := 4) rfl)) (by decide) rfl rfl g_o d1_110 rfl ?_
  intro T24 h24 st24 W24
  have Z24 : n0 ≤ h24.size := Nat.le_trans Z20 (Keep.of_wr W24).1
  have K24 : Keep h0 h24 [o] := K20.wr W24 (Or.inl (List.mem_of_getElem? (i := 0) rfl))
  have G24w : Fld Z h24 o "com/example/widowbid/widowbid/Worlds" "sizes" "[I" (.ref ar20) := G22.same W24
  refine E_aloadN (pc' := 114) cx st24 d1_113 rfl rfl rfl ?_
  refine E_aload (pc' := 116) cx st24 d1_114 rfl rfl rfl ?_
  have V25 : Arv Z h24 ex kX .long (3 : Int32) [(.long e0), (.long e1), (.long e2)] (.long (0 : Int64)) := ((V19.ext E20).other W24 (Ne.symm ne2))
  have X26 : Exa Z h24 ex "[J" := (((((EX.ext E4).wr W7).keep K15).ext E20).wr W24)
  have X27 : Exa Z h24 o "com/example/widowbid/widowbid/Worlds" := (X23.wr W24)
  have V28 : Arv Z h24 sz kS .int (3 : Int32) [(.int (Int32.ofNat za)), (.int (Int32.ofNat zb)), (.int (Int32.ofNat zc))] (.int (0 : Int32)) := ((V16.ext E20).other W24 (Ne.symm ne1))
  have V29 : Arv Z h24 ca ca4 .int (Int32.ofNat cs.length) (cs.map Value.int) (.int (0 : Int32)) := ((V15.ext E20).other W24 (Ne.symm ne_o_ca))
  have V30 : Arv Z h24 ar20 kS .int (3 : Int32) [(.int (Int32.ofNat za)), (.int (Int32.ofNat zb)), (.int (Int32.ofNat zc))] (.int (0 : Int32)) := (V20.other W24 (Ne.symm ne_o_ar20))
  refine E_clone (pc' := 119) (kc' := 3) (ks' := 10) (W := 1) (cap := 3) cx st24 V25 X26 (hw _ (List.mem_of_getElem? (i := 32) rfl)) (hw _ (List.mem_of_getElem? (i := 33) rfl)) (hw _ (List.mem_of_getElem? (i := 26) rfl)) (hw _ (List.mem_of_getElem? (i := 24) rfl)) (hw _ (List.mem_of_getElem? (i := 34) rfl)) (hw _ (List.mem_of_getElem? (i := 35) rfl)) d1_116 rfl (by decide) (Nat.le_of_eq rfl) (by decide) (by decide) (by decide) (by decide) (by decide) (by decide) rfl ?_
  intro T31 h31 ar31 eq31 st31 E31 V31 X31
  have g_ar31 : n0 ≤ ar31 := by rw [eq31]; exact Z24
  have ne_o_ar31 : o ≠ ar31 := by rw [eq31]; exact Nat.ne_of_lt X27.lt
  have ne_sz_ar31 : sz ≠ ar31 := by rw [eq31]; exact Nat.ne_of_lt V28.lt
  have ne_ex_ar31 : ex ≠ ar31 := by rw [eq31]; exact Nat.ne_of_lt V25.lt
  have ne_ca_ar31 : ca ≠ ar31 := by rw [eq31]; exact Nat.ne_of_lt V29.lt
  have ne_ar20_ar31 : ar20 ≠ ar31 := by rw [eq31]; exact Nat.ne_of_lt V30.lt
  have sz_ar31 : h0.size ≤ ar31 := by rw [eq31]; exact K24.1
  have Z31 : n0 ≤ h31.size := Nat.le_trans Z24 E31.1
  have K31 : Keep h0 h31 [o] := K24.ext E31
  refine E_checkcast (pc' := 122) cx st31 (hw _ (List.mem_of_getElem? (i := 36) rfl)) (Ins.self X31) d1_119 rfl ?_
  intro T32 st32
  have G33 : Fld Z h31 o "com/example/widowbid/widowbid/Worlds" "excluded" "[J" .null := ((((((f2.ext E4).other W7 (Or.inr (slot_ne (Or.inr (hw _ (List.mem_of_getElem? (i := 39) rfl))) (Or.inr (hw _ (List.mem_of_getElem? (i := 20) rfl))) (by decide) (t := (.array .long)) (t' := (.array .int)) (by decide) (by decide)))).keep K15 (ninS ne_o_ca nin0)).ext E20).other W24 (Or.inr (slot_ne (Or.inr (hw _ (List.mem_of_getElem? (i := 39) rfl))) (Or.inr (hw _ (List.mem_of_getElem? (i := 31) rfl))) (by decide) (t := (.array .long)) (t' := (.array .int)) (by decide) (by decide)))).ext E31)
  have X34 : Exa Z h31 o "com/example/widowbid/widowbid/Worlds" := (X27.ext E31)
  refine E_putfield (pc' := 125) (ty := (.array .long)) cx st32 (hw _ (List.mem_of_getElem? (i := 38) rfl)) G33 X34 (Or.inr ⟨(hw _ (List.mem_of_getElem? (i := 39) rfl)), rfl, rfl⟩) (hw _ (List.mem_of_getElem? (i := 4) rfl)) (by decide) rfl rfl g_o d1_122 rfl ?_
  intro T35 h35 st35 W35
  have Z35 : n0 ≤ h35.size := Nat.le_trans Z31 (Keep.of_wr W35).1
  have K35 : Keep h0 h35 [o] := K31.wr W35 (Or.inl (List.mem_of_getElem? (i := 0) rfl))
  have G35w : Fld Z h35 o "com/example/widowbid/widowbid/Worlds" "excluded" "[J" (.ref ar31) := G33.same W35
  refine E_aloadN (pc' := 126) cx st35 d1_125 rfl rfl rfl ?_
  refine E_aloadN (pc' := 127) cx st35 d1_126 rfl rfl rfl ?_
  have G37 : Fld Z h35 o "com/example/widowbid/widowbid/Worlds" "cards" "[I" (.ref ca) := (((((G7w.keep K15 (ninS ne_o_ca nin0)).ext E20).other W24 (Or.inr (slot_ne (Or.inr (hw _ (List.mem_of_getElem? (i := 20) rfl))) (Or.inr (hw _ (List.mem_of_getElem? (i := 31) rfl))) (by decide) (t := (.array .int)) (t' := (.array .int)) (by decide) (by decide)))).ext E31).other W35 (Or.inr (slot_ne (Or.inr (hw _ (List.mem_of_getElem? (i := 20) rfl))) (Or.inr (hw _ (List.mem_of_getElem? (i := 39) rfl))) (by decide) (t := (.array .int)) (t' := (.array .long)) (by decide) (by decide))))
  refine E_getfield (pc' := 130) cx st35 (hw _ (List.mem_of_getElem? (i := 19) rfl)) G37 d1_127 rfl ?_
  intro T36 st36
  have V38 : Arv Z h35 ca ca4 .int (Int32.ofNat cs.length) (cs.map Value.int) (.int (0 : Int32)) := ((V29.ext E31).other W35 (Ne.symm ne_o_ca))
  refine E_arraylength (pc' := 131) cx st36 V38 d1_130 rfl ?_
  refine E_iconst (pc' := 132) cx st36 (1 : Int32) d1_131 rfl rfl ?_
  refine E_iadd (pc' := 133) cx st36 d1_132 rfl ?_
  rw [show ((Int32.ofNat cs.length) + (1 : Int32)) = (Int32.ofNat (cs.length + 1)) from i32_next _]
  refine E_aloadN (pc' := 134) cx st36 d1_133 rfl rfl rfl ?_
  refine E_iconst (pc' := 135) cx st36 (0 : Int32) d1_134 rfl rfl ?_
  have V39 : Arv Z h35 sz kS .int (3 : Int32) [(.int (Int32.ofNat za)), (.int (Int32.ofNat zb)), (.int (Int32.ofNat zc))] (.int (0 : Int32)) := ((V28.ext E31).other W35 (Ne.symm ne1))
  refine E_iaload (pc' := 136) (x := (Int32.ofNat za)) cx st36 V39 ⟨by decide, by decide⟩ rfl d1_135 rfl ?_
  refine E_iconst (pc' := 137) cx st36 (1 : Int32) d1_136 rfl rfl ?_
  refine E_iadd (pc' := 138) cx st36 d1_137 rfl ?_
  rw [show ((Int32.ofNat za) + (1 : Int32)) = (Int32.ofNat (za + 1)) from i32_next _]
  refine E_aloadN (pc' := 139) cx st36 d1_138 rfl rfl rfl ?_
  refine E_iconst (pc' := 140) cx st36 (1 : Int32) d1_139 rfl rfl ?_
  refine E_iaload (pc' := 141) (x := (Int32.ofNat zb)) cx st36 V39 ⟨by decide, by decide⟩ rfl d1_140 rfl ?_
  refine E_iconst (pc' := 142) cx st36 (1 : Int32) d1_141 rfl rfl ?_
  refine E_iadd (pc' := 143) cx st36 d1_142 rfl ?_
  rw [show ((Int32.ofNat zb) + (1 : Int32)) = (Int32.ofNat (zb + 1)) from i32_next _]
  have X40 : Exa Z h35 o "com/example/widowbid/widowbid/Worlds" := (X34.wr W35)
  have V41 : Arv Z h35 ex kX .long (3 : Int32) [(.long e0), (.long e1), (.long e2)] (.long (0 : Int64)) := ((V25.ext E31).other W35 (Ne.symm ne2))
  have V42 : Arv Z h35 ar20 kS .int (3 : Int32) [(.int (Int32.ofNat za)), (.int (Int32.ofNat zb)), (.int (Int32.ofNat zc))] (.int (0 : Int32)) := ((V30.ext E31).other W35 (Ne.symm ne_o_ar20))
  have V43 : Arv Z h35 ar31 kX .long (3 : Int32) [(.long e0), (.long e1), (.long e2)] (.long (0 : Int64)) := (V31.other W35 (Ne.symm ne_o_ar31))
  have c30 : (cs.length + 1) * (za + 1 + 1) ≤ 5 * 6 := Nat.mul_le_mul (by omega) (by omega)
  have m9 := mk9 (a := za) (b := zb) (by omega)
  have c70 : (cs.length + 1) * (za + 1 + (za + 1) * (zb + 1)) ≤ 5 * (5 + 9) := Nat.mul_le_mul (by omega) (Nat.add_le_add (by omega) m9)
  refine E_cube (pc' := 147) (kc' := 34) (ks' := 85) (ty := .long) (C := "[[J") (ad := "[[[J") (N := cs.length + 1) (M := za + 1) (K := zb + 1) cx st36 (by decide) (by decide) (hw _ (List.mem_of_getElem? (i := 40) rfl)) (hw _ (List.mem_of_getElem? (i := 41) rfl)) (hw _ (List.mem_of_getElem? (i := 42) rfl)) (hw _ (List.mem_of_getElem? (i := 2) rfl)) d1_143 (nn32 (by omega)) (nn32 (by omega)) (nn32 (by omega)) (ofNat_clamp (by omega)) (ofNat_clamp (by omega)) (ofNat_clamp (by omega)) (by omega) (by omega) (by omega) rfl rfl (by omega) (by omega) (by decide) (by decide) rfl ?_
  intro T44 h44 cA44 cB44 cD44 st44 E44 A44 B44 D44
  obtain ⟨wa, hwa⟩ : ∃ z, z = h35.size := ⟨_, rfl⟩
  rw [← hwa] at A44 B44 D44 ⊢
  have Q44 : Cube Z h44 wa (cs.length + 1) (za + 1) (zb + 1) (fun _ _ _ => 0) := Cube.ofNew A44 B44 D44
  have g_wa : n0 ≤ wa := by rw [hwa]; exact Z35
  have sz_wa : h0.size ≤ wa := by rw [hwa]; exact K35.1
  have lw_o : (o : Nat) < wa := by rw [hwa]; exact X40.lt
  have lw_sz : (sz : Nat) < wa := by rw [hwa]; exact V39.lt
  have lw_ex : (ex : Nat) < wa := by rw [hwa]; exact V41.lt
  have lw_ca : (ca : Nat) < wa := by rw [hwa]; exact V38.lt
  have lw_ar20 : (ar20 : Nat) < wa := by rw [hwa]; exact V42.lt
  have lw_ar31 : (ar31 : Nat) < wa := by rw [hwa]; exact V43.lt
  have Z44 : n0 ≤ h44.size := Nat.le_trans Z35 E44.1
  have K44 : Keep h0 h44 [o] := K35.ext E44
  have G45 : Fld Z h44 o "com/example/widowbid/widowbid/Worlds" "ways" "[[[J" .null := ((((((((f3.ext E4).other W7 (Or.inr (slot_ne (Or.inr (hw _ (List.mem_of_getElem? (i := 44) rfl))) (Or.inr (hw _ (List.mem_of_getElem? (i := 20) rfl))) (by decide) (t := (.array (.array (.array .long)))) (t' := (.array .int)) (by decide) (by decide)))).keep K15 (ninS ne_o_ca nin0)).ext E20).other W24 (Or.inr (slot_ne (Or.inr (hw _ (List.mem_of_getElem? (i := 44) rfl))) (Or.inr (hw _ (List.mem_of_getElem? (i := 31) rfl))) (by decide) (t := (.array (.array (.array .long)))) (t' := (.array .int)) (by decide) (by decide)))).ext E31).other W35 (Or.inr (slot_ne (Or.inr (hw _ (List.mem_of_getElem? (i := 44) rfl))) (Or.inr (hw _ (List.mem_of_getElem? (i := 39) rfl))) (by decide) (t := (.array (.array (.array .long)))) (t' := (.array .long)) (by decide) (by decide)))).ext E44)
  have X46 : Exa Z h44 o "com/example/widowbid/widowbid/Worlds" := (X40.ext E44)
  refine E_putfield (pc' := 150) (ty := (.array (.array (.array .long)))) cx st44 (hw _ (List.mem_of_getElem? (i := 43) rfl)) G45 X46 (Or.inr ⟨(hw _ (List.mem_of_getElem? (i := 44) rfl)), rfl, rfl⟩) (hw _ (List.mem_of_getElem? (i := 4) rfl)) (by decide) rfl rfl g_o d1_147 rfl ?_
  intro T47 h47 st47 W47
  have Z47 : n0 ≤ h47.size := Nat.le_trans Z44 (Keep.of_wr W47).1
  have K47 : Keep h0 h47 [o] := K44.wr W47 (Or.inl (List.mem_of_getElem? (i := 0) rfl))
  have G47w : Fld Z h47 o "com/example/widowbid/widowbid/Worlds" "ways" "[[[J" (.ref wa) := G45.same W47
  have Q0 : Cube Z h47 wa (cs.length + 1) (za + 1) (zb + 1) (fun _ _ _ => 0) := Q44.keep (Keep.of_wr W47) (fun x hx => by cases List.mem_singleton.mp hx; exact lw_o)
  skip
  have X48 : Exa Z h47 o "com/example/widowbid/widowbid/Worlds" := (X46.wr W47)
  have G49 : Fld Z h47 o "com/example/widowbid/widowbid/Worlds" "cards" "[I" (.ref ca) := ((G37.ext E44).other W47 (Or.inr (slot_ne (Or.inr (hw _ (List.mem_of_getElem? (i := 20) rfl))) (Or.inr (hw _ (List.mem_of_getElem? (i := 44) rfl))) (by decide) (t := (.array .int)) (t' := (.array (.array (.array .long)))) (by decide) (by decide))))
  have G50 : Fld Z h47 o "com/example/widowbid/widowbid/Worlds" "sizes" "[I" (.ref ar20) := ((((G24w.ext E31).other W35 (Or.inr (slot_ne (Or.inr (hw _ (List.mem_of_getElem? (i := 31) rfl))) (Or.inr (hw _ (List.mem_of_getElem? (i := 39) rfl))) (by decide) (t := (.array .int)) (t' := (.array .long)) (by decide) (by decide)))).ext E44).other W47 (Or.inr (slot_ne (Or.inr (hw _ (List.mem_of_getElem? (i := 31) rfl))) (Or.inr (hw _ (List.mem_of_getElem? (i := 44) rfl))) (by decide) (t := (.array .int)) (t' := (.array (.array (.array .long)))) (by decide) (by decide))))
  have G51 : Fld Z h47 o "com/example/widowbid/widowbid/Worlds" "excluded" "[J" (.ref ar31) := ((G35w.ext E44).other W47 (Or.inr (slot_ne (Or.inr (hw _ (List.mem_of_getElem? (i := 39) rfl))) (Or.inr (hw _ (List.mem_of_getElem? (i := 44) rfl))) (by decide) (t := (.array .long)) (t' := (.array (.array (.array .long)))) (by decide) (by decide))))
  have V52 : Arv Z h47 ca ca4 .int (Int32.ofNat cs.length) (cs.map Value.int) (.int (0 : Int32)) := ((V38.ext E44).other W47 (Ne.symm ne_o_ca))
  have V53 : Arv Z h47 ar20 kS .int (3 : Int32) [(.int (Int32.ofNat za)), (.int (Int32.ofNat zb)), (.int (Int32.ofNat zc))] (.int (0 : Int32)) := ((V42.ext E44).other W47 (Ne.symm ne_o_ar20))
  have V54 : Arv Z h47 ar31 kX .long (3 : Int32) [(.long e0), (.long e1), (.long e2)] (.long (0 : Int64)) := ((V43.ext E44).other W47 (Ne.symm ne_o_ar31))
  have V55 : Arv Z h47 sz kS .int (3 : Int32) [(.int (Int32.ofNat za)), (.int (Int32.ofNat zb)), (.int (Int32.ofNat zc))] (.int (0 : Int32)) := ((V39.ext E44).other W47 (Ne.symm ne1))
  have D0 : Wd Z h47 o ca ar20 ar31 wa sz cs za zb zc e0 e1 e2 (fun _ _ _ => 0) := ⟨X48, G49, G50, G51, G47w, ⟨_, V52⟩, ⟨_, V53⟩, ⟨_, V54⟩, ⟨_, V55⟩, Q0, lw_o, lw_ca, lw_ar20, lw_ar31, lw_sz⟩
  skip
  refine E_aloadN (pc' := 151) cx st47 d1_150 rfl rfl rfl ?_
  refine E_getfield (pc' := 154) cx st47 (hw _ (List.mem_of_getElem? (i := 43) rfl)) G47w d1_151 rfl ?_
  intro T56 st56
  refine E_aloadN (pc' := 155) cx st56 d1_154 rfl rfl rfl ?_
  refine E_getfield (pc' := 158) cx st56 (hw _ (List.mem_of_getElem? (i := 19) rfl)) G49 d1_155 rfl ?_
  intro T57 st57
  refine E_arraylength (pc' := 159) cx st57 V52 d1_158 rfl ?_
  refine Cube.at1 (pc' := 160) Q0 (show cs.length < cs.length + 1 by omega) (by omega) cx st57 d1_159 rfl ?_
  refine E_iconst (pc' := 161) cx st57 (0 : Int32) d1_160 rfl rfl ?_
  refine Cube.at2 (pc' := 162) Q0 (q := 0) (show cs.length < cs.length + 1 by omega) (show 0 < za + 1 by omega) (by omega) cx st57 d1_161 rfl ?_
  refine E_iconst (pc' := 163) cx st57 (0 : Int32) d1_162 rfl rfl ?_
  refine E_lconst (pc' := 164) cx st57 (1 : Int64) d1_163 rfl rfl ?_
  refine Cube.put (pc' := 165) (i := cs.length) (q := 0) (r := 0) Q0 (show cs.length < cs.length + 1 by omega) (show 0 < za + 1 by omega) (show 0 < zb + 1 by omega) (by omega) g_wa cx st57 d1_164 rfl ?_
  intro T58 h58 st58 W58 _
  have Z58 : n0 ≤ h58.size := Nat.le_trans Z47 (Keep.of_wr W58).1
  have D1 := D0.set (show cs.length < cs.length + 1 by omega) (show 0 < za + 1 by omega) (show 0 < zb + 1 by omega) (by omega) W58
  have K58 : Keep h0 h58 [o] := K47.wr W58 (Or.inr (addr_ge h0.size wa _ _ sz_wa))
  obtain ⟨dE59, dc59, ds59, de59, dw59, ⟨kC59, VC59⟩, ⟨kZ59, VZ59⟩, ⟨kX59, VX59⟩, ⟨kS59, VS59⟩, dQ59, lo59, lc59, lz59, lx59, ls59⟩ := id D1
  refine E_aloadN (pc' := 166) cx st58 d1_165 rfl rfl rfl ?_
  refine E_getfield (pc' := 169) cx st58 (hw _ (List.mem_of_getElem? (i := 19) rfl)) dc59 d1_166 rfl ?_
  intro T60 st60
  refine E_arraylength (pc' := 170) cx st60 VC59 d1_169 rfl ?_
  refine E_iconst (pc' := 171) cx st60 (1 : Int32) d1_170 rfl rfl ?_
  refine E_isub (pc' := 172) cx st60 d1_171 rfl ?_
  refine E_istore (pc' := 174) (L' := #[.val (.ref o), .val (.long us), .second, .val (.ref sz), .val (.ref ex), .val (.int (Int32.ofNat cs.length)), .val (.int ((Int32.ofNat cs.length) - (1 : Int32))), .unset, .unset, .unset, .unset, .unset]) cx st60 d1_172 rfl rfl ?_
  have J193 : ∀ (k x X : Nat), k < cs.length → x ≤ za → (∀ T h f kc ks l9 l10 l11, S kc ks T h → n0 ≤ h.size → Keep h0 h [o] → Wd Z h o ca ar20 ar31 wa sz cs za zb zc e0 e1 e2 f → Row e0 e1 e2 cs za zb k x (zb + 1) f → kc + 3 * X ≤ 150 → ks + 9 * X ≤ 430 → SL l9 l10 → SI l11 → F T (mkF m 257 #[.val (.ref o), .val (.long us), .second, .val (.ref sz), .val (.ref ex), .val (.int (Int32.ofNat cs.length)), .val (.int (Int32.ofNat k)), .val (.int (Int32.ofNat x)), .val (.int (Int32.ofNat (zb + 1))), l9, l10, l11] [])) → ∀ (r y : Nat) T h f kc ks l9 l10 l11, y + r = zb + 1 → S kc ks T h → n0 ≤ h.size → Keep h0 h [o] → Wd Z h o ca ar20 ar31 wa sz cs za zb zc e0 e1 e2 f → Row e0 e1 e2 cs za zb k x y f → kc + 3 * (r + X) ≤ 150 → ks + 9 * (r + X) ≤ 430 → SL l9 l10 → SI l11 → F T (mkF m 193 #[.val (.ref o), .val (.long us), .second, .val (.ref sz), .val (.ref ex), .val (.int (Int32.ofNat cs.length)), .val (.int (Int32.ofNat k)), .val (.int (Int32.ofNat x)), .val (.int (Int32.ofNat y)), l9, l10, l11] []) := by
    intro k x X hk hx C r
    induction r with
    | zero =>
      intro y T61 h61 f kc ks l9 l10 l11 hy st61 Zh61 Kh61 D61 Rw b1 b2 H9 H11
      obtain rfl : y = zb + 1 := by omega
      obtain ⟨dE62, dc62, ds62, de62, dw62, ⟨kC62, VC62⟩, ⟨kZ62, VZ62⟩, ⟨kX62, VX62⟩, ⟨kS62, VS62⟩, dQ62, lo62, lc62, lz62, lx62, ls62⟩ := id D61
      refine E_iload (pc' := 195) cx st61 d1_193 rfl rfl ?_
      refine E_aloadN (pc' := 196) cx st61 d1_195 rfl rfl rfl ?_
      refine E_iconst (pc' := 197) cx st61 (1 : Int32) d1_196 rfl rfl ?_
      refine E_iaload (pc' := 198) (x := (Int32.ofNat zb)) cx st61 VS62 ⟨by decide, by decide⟩ rfl d1_197 rfl ?_
      refine E_icmp_gtY (pc' := 257) cx st61 d1_198 (by decide) (by decide) (idx_nat (Nat.lt_succ_self zb) (by omega)).2 ?_
      exact C T61 h61 f kc ks l9 l10 l11 st61 Zh61 Kh61 D61 Rw (by omega) (by omega) H9 H11
    | succ r ih =>
      intro y T63 h63 f kc ks l9 l10 l11 hy st63 Zh63 Kh63 D63 Rw b1 b2 H9 H11
      obtain ⟨dE64, dc64, ds64, de64, dw64, ⟨kC64, VC64⟩, ⟨kZ64, VZ64⟩, ⟨kX64, VX64⟩, ⟨kS64, VS64⟩, dQ64, lo64, lc64, lz64, lx64, ls64⟩ := id D63
      refine E_iload (pc' := 195) cx st63 d1_193 rfl rfl ?_
      refine E_aloadN (pc' := 196) cx st63 d1_195 rfl rfl rfl ?_
      refine E_iconst (pc' := 197) cx st63 (1 : Int32) d1_196 rfl rfl ?_
      refine E_iaload (pc' := 198) (x := (Int32.ofNat zb)) cx st63 VS64 ⟨by decide, by decide⟩ rfl d1_197 rfl ?_
      refine E_icmp_gtN (pc' := 201) cx st63 d1_198 rfl (not_lt32 (by omega) (by omega)) ?_
      refine E_lconst (pc' := 202) cx st63 (0 : Int64) d1_201 rfl rfl ?_
      refine E_lstore (pc' := 204) (L' := #[.val (.ref o), .val (.long us), .second, .val (.ref sz), .val (.ref ex), .val (.int (Int32.ofNat cs.length)), .val (.int (Int32.ofNat k)), .val (.int (Int32.ofNat x)), .val (.int (Int32.ofNat y)), .val (.long (0 : Int64)), .second, l11]) cx st63 d1_202 (by rcases H9 with ⟨rfl, rfl⟩ | ⟨_, rfl, rfl⟩ <;> rfl) rfl ?_
      refine E_iconst (pc' := 205) cx st63 (0 : Int32) d1_204 rfl rfl ?_
      refine E_istore (pc' := 207) (L' := #[.val (.ref o), .val (.long us), .second, .val (.ref sz), .val (.ref ex), .val (.int (Int32.ofNat cs.length)), .val (.int (Int32.ofNat k)), .val (.int (Int32.ofNat x)), .val (.int (Int32.ofNat y)), .val (.long (0 : Int64)), .second, .val (.int (0 : Int32))]) cx st63 d1_205 (by rcases H11 with rfl | ⟨_, rfl⟩ <;> rfl) rfl ?_
      refine E_iload (pc' := 209) cx st63 d1_207 rfl rfl ?_
      refine E_iconst (pc' := 210) cx st63 (3 : Int32) d1_209 rfl rfl ?_
      refine E_icmp_geN (pc' := 213) cx st63 d1_210 rfl (by decide) ?_
      refine E_lload (pc' := 215) cx st63 d1_213 rfl rfl ?_
      refine E_aloadN (pc' := 216) cx st63 d1_215 rfl rfl rfl ?_
      refine E_iload (pc' := 218) cx st63 d1_216 rfl rfl ?_
      refine E_iload (pc' := 220) cx st63 d1_218 rfl rfl ?_
      refine E_iload (pc' := 222) cx st63 d1_220 rfl rfl ?_
      refine E_iload (pc' := 224) cx st63 d1_222 rfl rfl ?_
      refine E_callP (pc' := 227) (kc' := kc + 1) (ks' := ks + 3) (W := 2) (a := o) (argsL := [(.int (Int32.ofNat k)), (.int (Int32.ofNat x)), (.int (Int32.ofNat y)), (.int (0 : Int32))]) cx st63 [(.long (0 : Int64))] (rm13p0 l Z a0 hw o ca ar20 ar31 wa sz h63 n0 Zh63 cs za zb zc e0 e1 e2 f D63 hn (by omega) k x y hk hx (by omega)) dE64 (hw _ (List.mem_of_getElem? (i := 77) rfl)) (hw _ (List.mem_of_getElem? (i := 79) rfl)) (hw _ (List.mem_of_getElem? (i := 4) rfl)) (hw _ (List.mem_of_getElem? (i := 78) rfl)) (hw _ (List.mem_of_getElem? (i := 5) rfl)) (hw _ (List.mem_of_getElem? (i := 80) rfl)) d1_224 rfl rfl (lenOf pd_7 rfl) (Nat.le_of_eq rfl) (by decide) (by decide) (by decide) (show kc + 1 ≤ kc + 1 by omega) (show ks + 3 ≤ ks + 3 by omega) (show kc + 1 ≤ 150 by omega) (show ks + 3 ≤ 430 by omega) rfl ?_
      intro v65 T65 h65 st65 hq65
      obtain ⟨rfl, Kc65⟩ := hq65
      have D65 := D63.keep0 Kc65
      have Zh65 : n0 ≤ h65.size := Nat.le_trans Zh63 Kc65.1
      have Kh65 : Keep h0 h65 [o] := Kh63.trans Kc65 all0
      obtain ⟨dE66, dc66, ds66, de66, dw66, ⟨kC66, VC66⟩, ⟨kZ66, VZ66⟩, ⟨kX66, VX66⟩, ⟨kS66, VS66⟩, dQ66, lo66, lc66, lz66, lx66, ls66⟩ := id D65
      refine E_ladd (pc' := 228) cx st65 d1_227 rfl ?_
      refine E_lstore (pc' := 230) (L' := #[.val (.ref o), .val (.long us), .second, .val (.ref sz), .val (.ref ex), .val (.int (Int32.ofNat cs.length)), .val (.int (Int32.ofNat k)), .val (.int (Int32.ofNat x)), .val (.int (Int32.ofNat y)), .val (.long ((0 : Int64) + (af0 e0 cs f k x y))), .second, .val (.int (0 : Int32))]) cx st65 d1_228 rfl rfl ?_
      refine E_iinc (pc' := 233) (L' := #[.val (.ref o), .val (.long us), .second, .val (.ref sz), .val (.ref ex), .val (.int (Int32.ofNat cs.length)), .val (.int (Int32.ofNat k)), .val (.int (Int32.ofNat x)), .val (.int (Int32.ofNat y)), .val (.long ((0 : Int64) + (af0 e0 cs f k x y))), .second, .val (.int (1 : Int32))]) cx st65 (1 : Int32) d1_230 rfl rfl rfl rfl ?_
      refine E_goto (pc' := 207) cx st65 d1_233 (by decide) (by decide) ?_
      refine E_iload (pc' := 209) cx st65 d1_207 rfl rfl ?_
      refine E_iconst (pc' := 210) cx st65 (3 : Int32) d1_209 rfl rfl ?_
      refine E_icmp_geN (pc' := 213) cx st65 d1_210 rfl (by decide) ?_
      refine E_lload (pc' := 215) cx st65 d1_213 rfl rfl ?_
      refine E_aloadN (pc' := 216) cx st65 d1_215 rfl rfl rfl ?_
      refine E_iload (pc' := 218) cx st65 d1_216 rfl rfl ?_
      refine E_iload (pc' := 220) cx st65 d1_218 rfl rfl ?_
      refine E_iload (pc' := 222) cx st65 d1_220 rfl rfl ?_
      refine E_iload (pc' := 224) cx st65 d1_222 rfl rfl ?_
      refine E_callP (pc' := 227) (kc' := kc + 2) (ks' := ks + 6) (W := 2) (a := o) (argsL := [(.int (Int32.ofNat k)), (.int (Int32.ofNat x)), (.int (Int32.ofNat y)), (.int (1 : Int32))]) cx st65 [(.long ((0 : Int64) + (af0 e0 cs f k x y)))] (rm13p1 l Z a0 hw o ca ar20 ar31 wa sz h65 n0 Zh65 cs za zb zc e0 e1 e2 f D65 hn (by omega) k x y hk hx (by omega)) dE66 (hw _ (List.mem_of_getElem? (i := 77) rfl)) (hw _ (List.mem_of_getElem? (i := 79) rfl)) (hw _ (List.mem_of_getElem? (i := 4) rfl)) (hw _ (List.mem_of_getElem? (i := 78) rfl)) (hw _ (List.mem_of_getElem? (i := 5) rfl)) (hw _ (List.mem_of_getElem? (i := 80) rfl)) d1_224 rfl rfl (lenOf pd_7 rfl) (Nat.le_of_eq rfl) (by decide) (by decide) (by decide) (show kc + 1 + 1 ≤ kc + 2 by omega) (show ks + 3 + 3 ≤ ks + 6 by omega) (show kc + 2 ≤ 150 by omega) (show ks + 6 ≤ 430 by omega) rfl ?_
      intro v67 T67 h67 st67 hq67
      obtain ⟨rfl, Kc67⟩ := hq67
      have D67 := D65.keep0 Kc67
      have Zh67 : n0 ≤ h67.size := Nat.le_trans Zh65 Kc67.1
      have Kh67 : Keep h0 h67 [o] := Kh65.trans Kc67 all0
      obtain ⟨dE68, dc68, ds68, de68, dw68, ⟨kC68, VC68⟩, ⟨kZ68, VZ68⟩, ⟨kX68, VX68⟩, ⟨kS68, VS68⟩, dQ68, lo68, lc68, lz68, lx68, ls68⟩ := id D67
      refine E_ladd (pc' := 228) cx st67 d1_227 rfl ?_
      refine E_lstore (pc' := 230) (L' := #[.val (.ref o), .val (.long us), .second, .val (.ref sz), .val (.ref ex), .val (.int (Int32.ofNat cs.length)), .val (.int (Int32.ofNat k)), .val (.int (Int32.ofNat x)), .val (.int (Int32.ofNat y)), .val (.long (((0 : Int64) + (af0 e0 cs f k x y)) + (af1 e1 cs f k x y))), .second, .val (.int (1 : Int32))]) cx st67 d1_228 rfl rfl ?_
      refine E_iinc (pc' := 233) (L' := #[.val (.ref o), .val (.long us), .second, .val (.ref sz), .val (.ref ex), .val (.int (Int32.ofNat cs.length)), .val (.int (Int32.ofNat k)), .val (.int (Int32.ofNat x)), .val (.int (Int32.ofNat y)), .val (.long (((0 : Int64) + (af0 e0 cs f k x y)) + (af1 e1 cs f k x y))), .second, .val (.int (2 : Int32))]) cx st67 (1 : Int32) d1_230 rfl rfl rfl rfl ?_
      refine E_goto (pc' := 207) cx st67 d1_233 (by decide) (by decide) ?_
      refine E_iload (pc' := 209) cx st67 d1_207 rfl rfl ?_
      refine E_iconst (pc' := 210) cx st67 (3 : Int32) d1_209 rfl rfl ?_
      refine E_icmp_geN (pc' := 213) cx st67 d1_210 rfl (by decide) ?_
      refine E_lload (pc' := 215) cx st67 d1_213 rfl rfl ?_
      refine E_aloadN (pc' := 216) cx st67 d1_215 rfl rfl rfl ?_
      refine E_iload (pc' := 218) cx st67 d1_216 rfl rfl ?_
      refine E_iload (pc' := 220) cx st67 d1_218 rfl rfl ?_
      refine E_iload (pc' := 222) cx st67 d1_220 rfl rfl ?_
      refine E_iload (pc' := 224) cx st67 d1_222 rfl rfl ?_
      refine E_callP (pc' := 227) (kc' := kc + 3) (ks' := ks + 9) (W := 2) (a := o) (argsL := [(.int (Int32.ofNat k)), (.int (Int32.ofNat x)), (.int (Int32.ofNat y)), (.int (2 : Int32))]) cx st67 [(.long (((0 : Int64) + (af0 e0 cs f k x y)) + (af1 e1 cs f k x y)))] (rm13p2 l Z a0 hw o ca ar20 ar31 wa sz h67 n0 Zh67 cs za zb zc e0 e1 e2 f D67 hn (by omega) k x y hk hx (by omega)) dE68 (hw _ (List.mem_of_getElem? (i := 77) rfl)) (hw _ (List.mem_of_getElem? (i := 79) rfl)) (hw _ (List.mem_of_getElem? (i := 4) rfl)) (hw _ (List.mem_of_getElem? (i := 78) rfl)) (hw _ (List.mem_of_getElem? (i := 5) rfl)) (hw _ (List.mem_of_getElem? (i := 80) rfl)) d1_224 rfl rfl (lenOf pd_7 rfl) (Nat.le_of_eq rfl) (by decide) (by decide) (by decide) (show kc + 2 + 1 ≤ kc + 3 by omega) (show ks + 6 + 3 ≤ ks + 9 by omega) (show kc + 3 ≤ 150 by omega) (show ks + 9 ≤ 430 by omega) rfl ?_
      intro v69 T69 h69 st69 hq69
      obtain ⟨rfl, Kc69⟩ := hq69
      have D69 := D67.keep0 Kc69
      have Zh69 : n0 ≤ h69.size := Nat.le_trans Zh67 Kc69.1
      have Kh69 : Keep h0 h69 [o] := Kh67.trans Kc69 all0
      obtain ⟨dE70, dc70, ds70, de70, dw70, ⟨kC70, VC70⟩, ⟨kZ70, VZ70⟩, ⟨kX70, VX70⟩, ⟨kS70, VS70⟩, dQ70, lo70, lc70, lz70, lx70, ls70⟩ := id D69
      refine E_ladd (pc' := 228) cx st69 d1_227 rfl ?_
      refine E_lstore (pc' := 230) (L' := #[.val (.ref o), .val (.long us), .second, .val (.ref sz), .val (.ref ex), .val (.int (Int32.ofNat cs.length)), .val (.int (Int32.ofNat k)), .val (.int (Int32.ofNat x)), .val (.int (Int32.ofNat y)), .val (.long ((((0 : Int64) + (af0 e0 cs f k x y)) + (af1 e1 cs f k x y)) + (af2 e2 cs f k x y))), .second, .val (.int (2 : Int32))]) cx st69 d1_228 rfl rfl ?_
      refine E_iinc (pc' := 233) (L' := #[.val (.ref o), .val (.long us), .second, .val (.ref sz), .val (.ref ex), .val (.int (Int32.ofNat cs.length)), .val (.int (Int32.ofNat k)), .val (.int (Int32.ofNat x)), .val (.int (Int32.ofNat y)), .val (.long ((((0 : Int64) + (af0 e0 cs f k x y)) + (af1 e1 cs f k x y)) + (af2 e2 cs f k x y))), .second, .val (.int (3 : Int32))]) cx st69 (1 : Int32) d1_230 rfl rfl rfl rfl ?_
      refine E_goto (pc' := 207) cx st69 d1_233 (by decide) (by decide) ?_
      refine E_iload (pc' := 209) cx st69 d1_207 rfl rfl ?_
      refine E_iconst (pc' := 210) cx st69 (3 : Int32) d1_209 rfl rfl ?_
      refine E_icmp_geY (pc' := 236) cx st69 d1_210 (by decide) (by decide) (by decide) ?_
      refine E_aloadN (pc' := 237) cx st69 d1_236 rfl rfl rfl ?_
      refine E_getfield (pc' := 240) cx st69 (hw _ (List.mem_of_getElem? (i := 43) rfl)) dw70 d1_237 rfl ?_
      intro T71 st71
      refine E_iload (pc' := 242) cx st71 d1_240 rfl rfl ?_
      have cq : Cube Z h69 wa (cs.length + 1) (za + 1) (zb + 1) f := D69.2.2.2.2.2.2.2.2.2.1
      refine Cube.at1 (pc' := 243) cq (show k < cs.length + 1 by omega) (by omega) cx st71 d1_242 rfl ?_
      refine E_iload (pc' := 245) cx st71 d1_243 rfl rfl ?_
      refine Cube.at2 (pc' := 246) cq (show k < cs.length + 1 by omega) (show x < za + 1 by omega) (by omega) cx st71 d1_245 rfl ?_
      refine E_iload (pc' := 248) cx st71 d1_246 rfl rfl ?_
      refine E_lload (pc' := 250) cx st71 d1_248 rfl rfl ?_
      refine Cube.put (pc' := 251) (i := k) (q := x) (r := y) cq (show k < cs.length + 1 by omega) (show x < za + 1 by omega) (show y < zb + 1 by omega) (by omega) g_wa cx st71 d1_250 rfl ?_
      intro T72 h72 st72 W72 _
      have Z72 : n0 ≤ h72.size := Nat.le_trans Zh69 (Keep.of_wr W72).1
      have Dw := D69.set (show k < cs.length + 1 by omega) (show x < za + 1 by omega) (show y < zb + 1 by omega) (by omega) W72
      have K72 : Keep h0 h72 [o] := Kh69.wr W72 (Or.inr (addr_ge h0.size wa _ _ sz_wa))
      refine E_iinc (pc' := 254) (L' := #[.val (.ref o), .val (.long us), .second, .val (.ref sz), .val (.ref ex), .val (.int (Int32.ofNat cs.length)), .val (.int (Int32.ofNat k)), .val (.int (Int32.ofNat x)), .val (.int ((Int32.ofNat y) + (1 : Int32))), .val (.long ((((0 : Int64) + (af0 e0 cs f k x y)) + (af1 e1 cs f k x y)) + (af2 e2 cs f k x y))), .second, .val (.int (3 : Int32))]) cx st72 (1 : Int32) d1_251 rfl rfl rfl rfl ?_
      refine E_goto (pc' := 193) cx st72 d1_254 (by decide) (by decide) ?_
      rw [show ((Int32.ofNat y) + (1 : Int32)) = Int32.ofNat (y + 1) from i32_next y]
      exact ih (y + 1) T72 h72 _ (kc + 3) (ks + 9) _ _ _ (by omega) st72 Z72 K72 Dw (Rw.next (by omega) hk hx (by omega) (by omega) (by omega)) (by omega) (by omega) (Or.inr ⟨_, rfl, rfl⟩) (Or.inr ⟨_, rfl⟩)
  have J182 : ∀ (k X : Nat), k < cs.length → (∀ T h f kc ks l8 l9 l10 l11, S kc ks T h → n0 ≤ h.size → Keep h0 h [o] → Wd Z h o ca ar20 ar31 wa sz cs za zb zc e0 e1 e2 f → Row e0 e1 e2 cs za zb k (za + 1) 0 f → kc + 3 * X ≤ 150 → ks + 9 * X ≤ 430 → SI l8 → SL l9 l10 → SI l11 → F T (mkF m 263 #[.val (.ref o), .val (.long us), .second, .val (.ref sz), .val (.ref ex), .val (.int (Int32.ofNat cs.length)), .val (.int (Int32.ofNat k)), .val (.int (Int32.ofNat (za + 1))), l8, l9, l10, l11] [])) → ∀ (r x : Nat) T h f kc ks l8 l9 l10 l11, x + r = za + 1 → S kc ks T h → n0 ≤ h.size → Keep h0 h [o] → Wd Z h o ca ar20 ar31 wa sz cs za zb zc e0 e1 e2 f → Row e0 e1 e2 cs za zb k x 0 f → kc + 3 * (r * (zb + 1) + X) ≤ 150 → ks + 9 * (r * (zb + 1) + X) ≤ 430 → SI l8 → SL l9 l10 → SI l11 → F T (mkF m 182 #[.val (.ref o), .val (.long us), .second, .val (.ref sz), .val (.ref ex), .val (.int (Int32.ofNat cs.length)), .val (.int (Int32.ofNat k)), .val (.int (Int32.ofNat x)), l8, l9, l10, l11] []) := by
    intro k X hk C r
    induction r with
    | zero =>
      intro x T73 h73 f kc ks l8 l9 l10 l11 hx st73 Zh73 Kh73 D73 Rw b1 b2 H8 H9 H11
      obtain rfl : x = za + 1 := by omega
      obtain ⟨dE74, dc74, ds74, de74, dw74, ⟨kC74, VC74⟩, ⟨kZ74, VZ74⟩, ⟨kX74, VX74⟩, ⟨kS74, VS74⟩, dQ74, lo74, lc74, lz74, lx74, ls74⟩ := id D73
      refine E_iload (pc' := 184) cx st73 d1_182 rfl rfl ?_
      refine E_aloadN (pc' := 185) cx st73 d1_184 rfl rfl rfl ?_
      refine E_iconst (pc' := 186) cx st73 (0 : Int32) d1_185 rfl rfl ?_
      refine E_iaload (pc' := 187) (x := (Int32.ofNat za)) cx st73 VS74 ⟨by decide, by decide⟩ rfl d1_186 rfl ?_
      refine E_icmp_gtY (pc' := 263) cx st73 d1_187 (by decide) (by decide) (idx_nat (Nat.lt_succ_self za) (by omega)).2 ?_
      exact C T73 h73 f kc ks l8 l9 l10 l11 st73 Zh73 Kh73 D73 Rw (by omega) (by omega) H8 H9 H11
    | succ r ih =>
      intro x T75 h75 f kc ks l8 l9 l10 l11 hx st75 Zh75 Kh75 D75 Rw b1 b2 H8 H9 H11
      rw [show (r + 1) * (zb + 1) = r * (zb + 1) + (zb + 1) from Nat.succ_mul _ _] at b1 b2
      obtain ⟨dE76, dc76, ds76, de76, dw76, ⟨kC76, VC76⟩, ⟨kZ76, VZ76⟩, ⟨kX76, VX76⟩, ⟨kS76, VS76⟩, dQ76, lo76, lc76, lz76, lx76, ls76⟩ := id D75
      refine E_iload (pc' := 184) cx st75 d1_182 rfl rfl ?_
      refine E_aloadN (pc' := 185) cx st75 d1_184 rfl rfl rfl ?_
      refine E_iconst (pc' := 186) cx st75 (0 : Int32) d1_185 rfl rfl ?_
      refine E_iaload (pc' := 187) (x := (Int32.ofNat za)) cx st75 VS76 ⟨by decide, by decide⟩ rfl d1_186 rfl ?_
      refine E_icmp_gtN (pc' := 190) cx st75 d1_187 rfl (not_lt32 (by omega) (by omega)) ?_
      refine E_iconst (pc' := 191) cx st75 (0 : Int32) d1_190 rfl rfl ?_
      refine E_istore (pc' := 193) (L' := #[.val (.ref o), .val (.long us), .second, .val (.ref sz), .val (.ref ex), .val (.int (Int32.ofNat cs.length)), .val (.int (Int32.ofNat k)), .val (.int (Int32.ofNat x)), .val (.int (0 : Int32)), l9, l10, l11]) cx st75 d1_191 (by rcases H8 with rfl | ⟨_, rfl⟩ <;> rfl) rfl ?_
      refine J193 k x (r * (zb + 1) + X) hk (by omega) ?_ (zb + 1) 0 T75 h75 f kc ks l9 l10 l11 (by omega) st75 Zh75 Kh75 D75 Rw (by omega) (by omega) H9 H11
      intro T77 h77 f kc ks l9 l10 l11 st77 Zh77 Kh77 D77 Rw b1 b2 H9 H11
      obtain ⟨dE78, dc78, ds78, de78, dw78, ⟨kC78, VC78⟩, ⟨kZ78, VZ78⟩, ⟨kX78, VX78⟩, ⟨kS78, VS78⟩, dQ78, lo78, lc78, lz78, lx78, ls78⟩ := id D77
      refine E_iinc (pc' := 260) (L' := #[.val (.ref o), .val (.long us), .second, .val (.ref sz), .val (.ref ex), .val (.int (Int32.ofNat cs.length)), .val (.int (Int32.ofNat k)), .val (.int ((Int32.ofNat x) + (1 : Int32))), .val (.int (Int32.ofNat (zb + 1))), l9, l10, l11]) cx st77 (1 : Int32) d1_257 rfl rfl rfl rfl ?_
      refine E_goto (pc' := 182) cx st77 d1_260 (by decide) (by decide) ?_
      rw [show ((Int32.ofNat x) + (1 : Int32)) = Int32.ofNat (x + 1) from i32_next x]
      exact ih (x + 1) T77 h77 f kc ks _ l9 l10 l11 (by omega) st77 Zh77 Kh77 D77 Rw.line (by omega) (by omega) (Or.inr ⟨_, rfl⟩) H9 H11
  have J174 : ∀ (j : Nat) T h f kc ks l7 l8 l9 l10 l11, j ≤ cs.length → S kc ks T h → n0 ≤ h.size → Keep h0 h [o] → Wd Z h o ca ar20 ar31 wa sz cs za zb zc e0 e1 e2 f → Inv e0 e1 e2 cs za zb j f → kc + 3 * (j * ((za + 1) * (zb + 1))) ≤ 150 → ks + 9 * (j * ((za + 1) * (zb + 1))) ≤ 430 → SI l7 → SI l8 → SL l9 l10 → SI l11 → F T (mkF m 174 #[.val (.ref o), .val (.long us), .second, .val (.ref sz), .val (.ref ex), .val (.int (Int32.ofNat cs.length)), .val (.int (Int32.ofNat j - (1 : Int32))), l7, l8, l9, l10, l11] []) := by
    intro j
    induction j with
    | zero =>
      intro T79 h79 f kc ks l7 l8 l9 l10 l11 hj st79 Zh79 Kh79 D79 Rw b1 b2 H7 H8 H9 H11
      obtain ⟨dE80, dc80, ds80, de80, dw80, ⟨kC80, VC80⟩, ⟨kZ80, VZ80⟩, ⟨kX80, VX80⟩, ⟨kS80, VS80⟩, dQ80, lo80, lc80, lz80, lx80, ls80⟩ := id D79
      refine E_iload (pc' := 176) cx st79 d1_174 rfl rfl ?_
      refine E_if_ltY (pc' := 269) cx st79 d1_176 (by decide) (by decide) (by decide) ?_
      refine E_return cx st79 d1_269 rfl (show kc ≤ 150 by omega) (show ks ≤ 430 by omega) ?_
      exact ⟨rfl, Kh79, ca, ar20, ar31, wa, f, D79, Rw 0 za zb (Nat.le_refl _) (Nat.zero_le _) (Nat.le_refl _) (Nat.le_refl _)⟩
    | succ j ih =>
      intro T81 h81 f kc ks l7 l8 l9 l10 l11 hj st81 Zh81 Kh81 D81 Rw b1 b2 H7 H8 H9 H11
      rw [show (j + 1) * ((za + 1) * (zb + 1)) = j * ((za + 1) * (zb + 1)) + (za + 1) * (zb + 1) from Nat.succ_mul _ _] at b1 b2
      rw [show Int32.ofNat (j + 1) - (1 : Int32) = Int32.ofNat j from i32_pred (Nat.succ_ne_zero j)]
      obtain ⟨dE82, dc82, ds82, de82, dw82, ⟨kC82, VC82⟩, ⟨kZ82, VZ82⟩, ⟨kX82, VX82⟩, ⟨kS82, VS82⟩, dQ82, lo82, lc82, lz82, lx82, ls82⟩ := id D81
      refine E_iload (pc' := 176) cx st81 d1_174 rfl rfl ?_
      refine E_if_ltN (pc' := 179) cx st81 d1_176 rfl (nn32 (by omega)) ?_
      refine E_iconst (pc' := 180) cx st81 (0 : Int32) d1_179 rfl rfl ?_
      refine E_istore (pc' := 182) (L' := #[.val (.ref o), .val (.long us), .second, .val (.ref sz), .val (.ref ex), .val (.int (Int32.ofNat cs.length)), .val (.int (Int32.ofNat j)), .val (.int (0 : Int32)), l8, l9, l10, l11]) cx st81 d1_180 (by rcases H7 with rfl | ⟨_, rfl⟩ <;> rfl) rfl ?_
      refine J182 j (j * ((za + 1) * (zb + 1))) (by omega) ?_ (za + 1) 0 T81 h81 f kc ks l8 l9 l10 l11 (by omega) st81 Zh81 Kh81 D81 Rw.row (by omega) (by omega) H8 H9 H11
      intro T83 h83 f kc ks l8 l9 l10 l11 st83 Zh83 Kh83 D83 Rw b1 b2 H8 H9 H11
      obtain ⟨dE84, dc84, ds84, de84, dw84, ⟨kC84, VC84⟩, ⟨kZ84, VZ84⟩, ⟨kX84, VX84⟩, ⟨kS84, VS84⟩, dQ84, lo84, lc84, lz84, lx84, ls84⟩ := id D83
      refine E_iinc (pc' := 266) (L' := #[.val (.ref o), .val (.long us), .second, .val (.ref sz), .val (.ref ex), .val (.int (Int32.ofNat cs.length)), .val (.int ((Int32.ofNat j) + (-1 : Int32))), .val (.int (Int32.ofNat (za + 1))), l8, l9, l10, l11]) cx st83 (-1 : Int32) d1_263 rfl rfl rfl rfl ?_
      refine E_goto (pc' := 174) cx st83 d1_266 (by decide) (by decide) ?_
      rw [show ((Int32.ofNat j) + (-1 : Int32)) = Int32.ofNat j - (1 : Int32) from (Int32.sub_eq_add_neg _ _).symm]
      exact ih T83 h83 f kc ks _ l8 l9 l10 l11 (by omega) st83 Zh83 Kh83 D83 Rw.page (by omega) (by omega) (Or.inr ⟨_, rfl⟩) H8 H9 H11
  have c36 : cs.length * ((za + 1) * (zb + 1)) ≤ 4 * 9 := Nat.mul_le_mul hn m9
  exact J174 cs.length T60 h58 _ 34 85 _ _ _ _ _ (Nat.le_refl _) st60 Z58 K58 D1 Inv.start (by omega) (by omega) (Or.inl rfl) (Or.inl rfl) (Or.inl ⟨rfl, rfl⟩) (Or.inl rfl)
section OwnPlain
def wt (e : Int64) (q : Int32) : Int64 := if xc e q = 0 then 1 else 0
def stp (w0 w1 w2 : Int64) (F : Nat → Nat → Nat → Int64) (a b c : Nat) : Int64 := w0 * (if a = 0 then 0 else F (a - 1) b c) + (w1 * (if b = 0 then 0 else F a (b - 1) c) + w2 * (if c = 0 then 0 else F a b (c - 1)))
def cnt (e0 e1 e2 : Int64) : List Int32 → Nat → Nat → Nat → Int64
  | [], a, b, c => if a = 0 ∧ b = 0 ∧ c = 0 then 1 else 0
  | q :: t, a, b, c => stp (wt e0 q) (wt e1 q) (wt e2 q) (cnt e0 e1 e2 t) a b c
theorem wt_mul (e : Int64) (q : Int32) (z : Int64) : wt e q * z = if xc e q = 0 then z else 0 := by
  unfold wt; split
  · exact Int64.one_mul z
  · exact Int64.zero_mul
theorem wy_cnt (e0 e1 e2 : Int64) : ∀ (l : List Int32) (x y z : Nat), x + y + z = l.length → wy e0 e1 e2 l x y = cnt e0 e1 e2 l x y z
  | [], x, y, z, h => by
    simp only [List.length_nil] at h
    unfold wy cnt
    rw [if_pos (by omega), if_pos (by omega)]
  | q :: t, x, y, z, h => by
    simp only [List.length_cons] at h
    unfold wy cnt stp
    rw [wt_mul, wt_mul, wt_mul, Int64.zero_add, Int64.add_assoc]
    congr 1
    · by_cases c1 : x = 0
      · rw [if_pos c1, if_pos c1]; simp
      · rw [if_neg c1, if_neg c1, if_neg (show ¬ (t.length + 1 < x + y) by omega), wy_cnt e0 e1 e2 t (x - 1) y z (by omega)]
    · congr 1
      · by_cases c1 : y = 0
        · rw [if_pos c1, if_pos c1]; simp
        · rw [if_neg c1, if_neg c1, if_neg (show ¬ (t.length + 1 < x + y) by omega), wy_cnt e0 e1 e2 t x (y - 1) z (by omega)]
      · by_cases c1 : z = 0
        · rw [if_pos (show t.length + 1 ≤ x + y by omega), if_pos c1]; simp
        · rw [if_neg (show ¬ (t.length + 1 ≤ x + y) by omega), if_neg c1, wy_cnt e0 e1 e2 t x y (z - 1) (by omega)]
theorem stp_comm (v0 v1 v2 w0 w1 w2 : Int64) (F : Nat → Nat → Nat → Int64) (a b c : Nat) : stp v0 v1 v2 (stp w0 w1 w2 F) a b c = stp w0 w1 w2 (stp v0 v1 v2 F) a b c := by
  cases a <;> cases b <;> cases c <;> simp only [stp, Nat.add_one_ne_zero, if_false, if_true, Nat.add_sub_cancel, Int64.mul_zero, Int64.zero_add, Int64.add_zero, Int64.mul_add, reduceIte] <;> grind
theorem cnt_perm (e0 e1 e2 : Int64) {l l' : List Int32} (h : l.Perm l') : ∀ a b c, cnt e0 e1 e2 l a b c = cnt e0 e1 e2 l' a b c := by
  induction h with
  | nil => intro a b c; rfl
  | cons x _ ih => intro a b c; show stp _ _ _ _ a b c = stp _ _ _ _ a b c; unfold stp; simp only [ih]
  | swap x y l => intro a b c; exact stp_comm _ _ _ _ _ _ _ a b c
  | trans _ _ ih1 ih2 => intro a b c; rw [ih1, ih2]
/-- the same count from the other side: i, j, k cards laid so far -/
def dN (a b c i j k : Nat) : Int64 := if i = a ∧ j = b ∧ k = c then 1 else 0
def GG (e0 e1 e2 : Int64) (a b c : Nat) : List Int32 → Nat → Nat → Nat → Int64
  | [], i, j, k => dN a b c i j k
  | q :: t, i, j, k => wt e0 q * GG e0 e1 e2 a b c t (i + 1) j k + (wt e1 q * GG e0 e1 e2 a b c t i (j + 1) k + wt e2 q * GG e0 e1 e2 a b c t i j (k + 1))
theorem GG_cnt (e0 e1 e2 : Int64) (a b c : Nat) : ∀ (l : List Int32) (i j k : Nat), GG e0 e1 e2 a b c l i j k = if i ≤ a ∧ j ≤ b ∧ k ≤ c then cnt e0 e1 e2 l (a - i) (b - j) (c - k) else 0
  | [], i, j, k => by
    unfold GG cnt dN
    by_cases h : i ≤ a ∧ j ≤ b ∧ k ≤ c
    · rw [if_pos h]
      by_cases h2 : i = a ∧ j = b ∧ k = c
      · rw [if_pos h2, if_pos (by omega)]
      · rw [if_neg h2, if_neg (by omega)]
    · rw [if_neg h, if_neg (by omega)]
  | q :: t, i, j, k => by
    unfold GG cnt stp
    rw [GG_cnt e0 e1 e2 a b c t (i + 1) j k, GG_cnt e0 e1 e2 a b c t i (j + 1) k, GG_cnt e0 e1 e2 a b c t i j (k + 1)]
    by_cases h : i ≤ a ∧ j ≤ b ∧ k ≤ c
    · rw [if_pos h]
      congr 1
      · congr 1
        by_cases h2 : a - i = 0
        · rw [if_pos h2, if_neg (by omega)]
        · rw [if_neg h2, if_pos (by omega), Nat.sub_sub]
      · congr 1
        · congr 1
          by_cases h2 : b - j = 0
          · rw [if_pos h2, if_neg (by omega)]
          · rw [if_neg h2, if_pos (by omega), Nat.sub_sub]
        · congr 1
          by_cases h2 : c - k = 0
          · rw [if_pos h2, if_neg (by omega)]
          · rw [if_neg h2, if_pos (by omega), Nat.sub_sub]
    · rw [if_neg h, if_neg (by omega), if_neg (by omega), if_neg (by omega)]; simp
theorem cnt_GG (e0 e1 e2 : Int64) (l : List Int32) (a b c : Nat) : cnt e0 e1 e2 l a b c = GG e0 e1 e2 a b c l 0 0 0 := by
  rw [GG_cnt, if_pos ⟨Nat.zero_le _, Nat.zero_le _, Nat.zero_le _⟩]; rfl
def fw (e0 e1 e2 : Int64) (q0 q1 q2 q3 n i p : Int32) : Int64 := if fiF e0 e1 e2 q0 q1 q2 q3 n i p = (0 : Int32) then 0 else 1
def dl (s0 s1 s2 i j k : Int32) : Int64 := if i = s0 then (if j = s1 then (if k = s2 then 1 else 0) else 0) else 0
theorem oneF_eq (e0 e1 e2 : Int64) (q0 q1 q2 q3 n s0 s1 s2 a b d g : Int32) : oneF e0 e1 e2 q0 q1 q2 q3 n s0 s1 s2 a b d g = fw e0 e1 e2 q0 q1 q2 q3 n 0 a * (fw e0 e1 e2 q0 q1 q2 q3 n 1 b * (fw e0 e1 e2 q0 q1 q2 q3 n 2 d * (fw e0 e1 e2 q0 q1 q2 q3 n 3 g * dl s0 s1 s2 (((inF n 0 a 0 + inF n 1 b 0) + inF n 2 d 0) + inF n 3 g 0) (((inF n 0 a 1 + inF n 1 b 1) + inF n 2 d 1) + inF n 3 g 1) (((inF n 0 a 2 + inF n 1 b 2) + inF n 2 d 2) + inF n 3 g 2)))) := by
  unfold oneF okF fw dl
  by_cases c0 : fiF e0 e1 e2 q0 q1 q2 q3 n 0 a = (0 : Int32)
  · simp [c0]
  · by_cases c1 : fiF e0 e1 e2 q0 q1 q2 q3 n 1 b = (0 : Int32)
    · simp [c0, c1]
    · by_cases c2 : fiF e0 e1 e2 q0 q1 q2 q3 n 2 d = (0 : Int32)
      · simp [c0, c1, c2]
      · by_cases c3 : fiF e0 e1 e2 q0 q1 q2 q3 n 3 g = (0 : Int32)
        · simp [c0, c1, c2, c3]
        · simp [c0, c1, c2, c3]
theorem of_inj {i a : Nat} (hi : i ≤ 1000) (ha : a ≤ 1000) : (Int32.ofNat i = Int32.ofNat a) ↔ i = a := by
  rw [← Int32.toInt_inj, Int32.toInt_ofNat_of_lt (by omega), Int32.toInt_ofNat_of_lt (by omega)]; omega
theorem dl_nat {a b c i j k : Nat} (ha : a ≤ 1000) (hb : b ≤ 1000) (hc : c ≤ 1000) (hi : i ≤ 1000) (hj : j ≤ 1000) (hk : k ≤ 1000) : dl (Int32.ofNat a) (Int32.ofNat b) (Int32.ofNat c) (Int32.ofNat i) (Int32.ofNat j) (Int32.ofNat k) = dN a b c i j k := by
  unfold dl dN
  simp only [of_inj hi ha, of_inj hj hb, of_inj hk hc]
  by_cases c1 : i = a <;> by_cases c2 : j = b <;> by_cases c3 : k = c <;> simp [c1, c2, c3]
theorem fw_in {e0 e1 e2 : Int64} {q0 q1 q2 q3 n i p : Int32} (h : i < n) : fw e0 e1 e2 q0 q1 q2 q3 n i p = wt (exF e0 e1 e2 p) (poF q0 q1 q2 q3 i) := by
  unfold fw fiF wt xc; rw [if_pos h]
  by_cases c1 : (exF e0 e1 e2 p &&& ((1 : Int64) <<< (poF q0 q1 q2 q3 i &&& 0x3f).toInt64)) = (0 : Int64)
  · rw [if_pos c1, if_pos c1]; rfl
  · rw [if_neg c1, if_neg c1]; rfl
theorem fw_out {e0 e1 e2 : Int64} {q0 q1 q2 q3 n i p : Int32} (h : ¬ i < n) : fw e0 e1 e2 q0 q1 q2 q3 n i p = if p = 0 then 1 else 0 := by
  unfold fw fiF; rw [if_neg h]
  by_cases c1 : p = 0
  · rw [if_pos c1, if_pos c1]; rfl
  · rw [if_neg c1, if_neg c1]; rfl
end OwnPlain

section OwnPlain2
set_option maxRecDepth 65536 in
set_option maxHeartbeats 40000000 in
theorem lawN0 (e0 e1 e2 : Int64) (q0 q1 q2 q3 : Int32) {a b c : Nat} (ha : a ≤ 4) (hb : b ≤ 4) (hc : c ≤ 4) : (l1F e0 e1 e2 q0 q1 q2 q3 (0 : Int32) (Int32.ofNat a) (Int32.ofNat b) (Int32.ofNat c) 0 + l1F e0 e1 e2 q0 q1 q2 q3 (0 : Int32) (Int32.ofNat a) (Int32.ofNat b) (Int32.ofNat c) 1) + l1F e0 e1 e2 q0 q1 q2 q3 (0 : Int32) (Int32.ofNat a) (Int32.ofNat b) (Int32.ofNat c) 2 = GG e0 e1 e2 a b c [] 0 0 0 := by
  have i000 : inF (0 : Int32) (0 : Int32) (0 : Int32) (0 : Int32) = 0 := by decide
  have i001 : inF (0 : Int32) (0 : Int32) (0 : Int32) (1 : Int32) = 0 := by decide
  have i002 : inF (0 : Int32) (0 : Int32) (0 : Int32) (2 : Int32) = 0 := by decide
  have i010 : inF (0 : Int32) (0 : Int32) (1 : Int32) (0 : Int32) = 0 := by decide
  have i011 : inF (0 : Int32) (0 : Int32) (1 : Int32) (1 : Int32) = 0 := by decide
  have i012 : inF (0 : Int32) (0 : Int32) (1 : Int32) (2 : Int32) = 0 := by decide
  have i020 : inF (0 : Int32) (0 : Int32) (2 : Int32) (0 : Int32) = 0 := by decide
  have i021 : inF (0 : Int32) (0 : Int32) (2 : Int32) (1 : Int32) = 0 := by decide
  have i022 : inF (0 : Int32) (0 : Int32) (2 : Int32) (2 : Int32) = 0 := by decide
  have i100 : inF (0 : Int32) (1 : Int32) (0 : Int32) (0 : Int32) = 0 := by decide
  have i101 : inF (0 : Int32) (1 : Int32) (0 : Int32) (1 : Int32) = 0 := by decide
  have i102 : inF (0 : Int32) (1 : Int32) (0 : Int32) (2 : Int32) = 0 := by decide
  have i110 : inF (0 : Int32) (1 : Int32) (1 : Int32) (0 : Int32) = 0 := by decide
  have i111 : inF (0 : Int32) (1 : Int32) (1 : Int32) (1 : Int32) = 0 := by decide
  have i112 : inF (0 : Int32) (1 : Int32) (1 : Int32) (2 : Int32) = 0 := by decide
  have i120 : inF (0 : Int32) (1 : Int32) (2 : Int32) (0 : Int32) = 0 := by decide
  have i121 : inF (0 : Int32) (1 : Int32) (2 : Int32) (1 : Int32) = 0 := by decide
  have i122 : inF (0 : Int32) (1 : Int32) (2 : Int32) (2 : Int32) = 0 := by decide
  have i200 : inF (0 : Int32) (2 : Int32) (0 : Int32) (0 : Int32) = 0 := by decide
  have i201 : inF (0 : Int32) (2 : Int32) (0 : Int32) (1 : Int32) = 0 := by decide
  have i202 : inF (0 : Int32) (2 : Int32) (0 : Int32) (2 : Int32) = 0 := by decide
  have i210 : inF (0 : Int32) (2 : Int32) (1 : Int32) (0 : Int32) = 0 := by decide
  have i211 : inF (0 : Int32) (2 : Int32) (1 : Int32) (1 : Int32) = 0 := by decide
  have i212 : inF (0 : Int32) (2 : Int32) (1 : Int32) (2 : Int32) = 0 := by decide
  have i220 : inF (0 : Int32) (2 : Int32) (2 : Int32) (0 : Int32) = 0 := by decide
  have i221 : inF (0 : Int32) (2 : Int32) (2 : Int32) (1 : Int32) = 0 := by decide
  have i222 : inF (0 : Int32) (2 : Int32) (2 : Int32) (2 : Int32) = 0 := by decide
  have i300 : inF (0 : Int32) (3 : Int32) (0 : Int32) (0 : Int32) = 0 := by decide
  have i301 : inF (0 : Int32) (3 : Int32) (0 : Int32) (1 : Int32) = 0 := by decide
  have i302 : inF (0 : Int32) (3 : Int32) (0 : Int32) (2 : Int32) = 0 := by decide
  have i310 : inF (0 : Int32) (3 : Int32) (1 : Int32) (0 : Int32) = 0 := by decide
  have i311 : inF (0 : Int32) (3 : Int32) (1 : Int32) (1 : Int32) = 0 := by decide
  have i312 : inF (0 : Int32) (3 : Int32) (1 : Int32) (2 : Int32) = 0 := by decide
  have i320 : inF (0 : Int32) (3 : Int32) (2 : Int32) (0 : Int32) = 0 := by decide
  have i321 : inF (0 : Int32) (3 : Int32) (2 : Int32) (1 : Int32) = 0 := by decide
  have i322 : inF (0 : Int32) (3 : Int32) (2 : Int32) (2 : Int32) = 0 := by decide
  have f00 : fw e0 e1 e2 q0 q1 q2 q3 (0 : Int32) (0 : Int32) (0 : Int32) = 1 := by rw [fw_out (by decide)]; rfl
  have f01 : fw e0 e1 e2 q0 q1 q2 q3 (0 : Int32) (0 : Int32) (1 : Int32) = 0 := by rw [fw_out (by decide)]; rfl
  have f02 : fw e0 e1 e2 q0 q1 q2 q3 (0 : Int32) (0 : Int32) (2 : Int32) = 0 := by rw [fw_out (by decide)]; rfl
  have f10 : fw e0 e1 e2 q0 q1 q2 q3 (0 : Int32) (1 : Int32) (0 : Int32) = 1 := by rw [fw_out (by decide)]; rfl
  have f11 : fw e0 e1 e2 q0 q1 q2 q3 (0 : Int32) (1 : Int32) (1 : Int32) = 0 := by rw [fw_out (by decide)]; rfl
  have f12 : fw e0 e1 e2 q0 q1 q2 q3 (0 : Int32) (1 : Int32) (2 : Int32) = 0 := by rw [fw_out (by decide)]; rfl
  have f20 : fw e0 e1 e2 q0 q1 q2 q3 (0 : Int32) (2 : Int32) (0 : Int32) = 1 := by rw [fw_out (by decide)]; rfl
  have f21 : fw e0 e1 e2 q0 q1 q2 q3 (0 : Int32) (2 : Int32) (1 : Int32) = 0 := by rw [fw_out (by decide)]; rfl
  have f22 : fw e0 e1 e2 q0 q1 q2 q3 (0 : Int32) (2 : Int32) (2 : Int32) = 0 := by rw [fw_out (by decide)]; rfl
  have f30 : fw e0 e1 e2 q0 q1 q2 q3 (0 : Int32) (3 : Int32) (0 : Int32) = 1 := by rw [fw_out (by decide)]; rfl
  have f31 : fw e0 e1 e2 q0 q1 q2 q3 (0 : Int32) (3 : Int32) (1 : Int32) = 0 := by rw [fw_out (by decide)]; rfl
  have f32 : fw e0 e1 e2 q0 q1 q2 q3 (0 : Int32) (3 : Int32) (2 : Int32) = 0 := by rw [fw_out (by decide)]; rfl
  have d000 : dl (Int32.ofNat a) (Int32.ofNat b) (Int32.ofNat c) (0 : Int32) (0 : Int32) (0 : Int32) = dN a b c 0 0 0 := dl_nat (i := 0) (j := 0) (k := 0) (by omega) (by omega) (by omega) (by decide) (by decide) (by decide)
  simp only [l1F, l2F, l3F, oneF_eq, i000, i001, i002, i010, i011, i012, i020, i021, i022, i100, i101, i102, i110, i111, i112, i120, i121, i122, i200, i201, i202, i210, i211, i212, i220, i221, i222, i300, i301, i302, i310, i311, i312, i320, i321, i322, f00, f01, f02, f10, f11, f12, f20, f21, f22, f30, f31, f32, d000, Int32.reduceAdd, GG, Nat.reduceAdd, Int64.mul_zero, Int64.zero_mul, Int64.one_mul, Int64.add_zero, Int64.zero_add, Int64.mul_add, Int64.add_assoc]
set_option maxRecDepth 65536 in
set_option maxHeartbeats 40000000 in
theorem lawN1 (e0 e1 e2 : Int64) (q0 q1 q2 q3 : Int32) {a b c : Nat} (ha : a ≤ 4) (hb : b ≤ 4) (hc : c ≤ 4) : (l1F e0 e1 e2 q0 q1 q2 q3 (1 : Int32) (Int32.ofNat a) (Int32.ofNat b) (Int32.ofNat c) 0 + l1F e0 e1 e2 q0 q1 q2 q3 (1 : Int32) (Int32.ofNat a) (Int32.ofNat b) (Int32.ofNat c) 1) + l1F e0 e1 e2 q0 q1 q2 q3 (1 : Int32) (Int32.ofNat a) (Int32.ofNat b) (Int32.ofNat c) 2 = GG e0 e1 e2 a b c [q0] 0 0 0 := by
  have i000 : inF (1 : Int32) (0 : Int32) (0 : Int32) (0 : Int32) = 1 := by decide
  have i001 : inF (1 : Int32) (0 : Int32) (0 : Int32) (1 : Int32) = 0 := by decide
  have i002 : inF (1 : Int32) (0 : Int32) (0 : Int32) (2 : Int32) = 0 := by decide
  have i010 : inF (1 : Int32) (0 : Int32) (1 : Int32) (0 : Int32) = 0 := by decide
  have i011 : inF (1 : Int32) (0 : Int32) (1 : Int32) (1 : Int32) = 1 := by decide
  have i012 : inF (1 : Int32) (0 : Int32) (1 : Int32) (2 : Int32) = 0 := by decide
  have i020 : inF (1 : Int32) (0 : Int32) (2 : Int32) (0 : Int32) = 0 := by decide
  have i021 : inF (1 : Int32) (0 : Int32) (2 : Int32) (1 : Int32) = 0 := by decide
  have i022 : inF (1 : Int32) (0 : Int32) (2 : Int32) (2 : Int32) = 1 := by decide
  have i100 : inF (1 : Int32) (1 : Int32) (0 : Int32) (0 : Int32) = 0 := by decide
  have i101 : inF (1 : Int32) (1 : Int32) (0 : Int32) (1 : Int32) = 0 := by decide
  have i102 : inF (1 : Int32) (1 : Int32) (0 : Int32) (2 : Int32) = 0 := by decide
  have i110 : inF (1 : Int32) (1 : Int32) (1 : Int32) (0 : Int32) = 0 := by decide
  have i111 : inF (1 : Int32) (1 : Int32) (1 : Int32) (1 : Int32) = 0 := by decide
  have i112 : inF (1 : Int32) (1 : Int32) (1 : Int32) (2 : Int32) = 0 := by decide
  have i120 : inF (1 : Int32) (1 : Int32) (2 : Int32) (0 : Int32) = 0 := by decide
  have i121 : inF (1 : Int32) (1 : Int32) (2 : Int32) (1 : Int32) = 0 := by decide
  have i122 : inF (1 : Int32) (1 : Int32) (2 : Int32) (2 : Int32) = 0 := by decide
  have i200 : inF (1 : Int32) (2 : Int32) (0 : Int32) (0 : Int32) = 0 := by decide
  have i201 : inF (1 : Int32) (2 : Int32) (0 : Int32) (1 : Int32) = 0 := by decide
  have i202 : inF (1 : Int32) (2 : Int32) (0 : Int32) (2 : Int32) = 0 := by decide
  have i210 : inF (1 : Int32) (2 : Int32) (1 : Int32) (0 : Int32) = 0 := by decide
  have i211 : inF (1 : Int32) (2 : Int32) (1 : Int32) (1 : Int32) = 0 := by decide
  have i212 : inF (1 : Int32) (2 : Int32) (1 : Int32) (2 : Int32) = 0 := by decide
  have i220 : inF (1 : Int32) (2 : Int32) (2 : Int32) (0 : Int32) = 0 := by decide
  have i221 : inF (1 : Int32) (2 : Int32) (2 : Int32) (1 : Int32) = 0 := by decide
  have i222 : inF (1 : Int32) (2 : Int32) (2 : Int32) (2 : Int32) = 0 := by decide
  have i300 : inF (1 : Int32) (3 : Int32) (0 : Int32) (0 : Int32) = 0 := by decide
  have i301 : inF (1 : Int32) (3 : Int32) (0 : Int32) (1 : Int32) = 0 := by decide
  have i302 : inF (1 : Int32) (3 : Int32) (0 : Int32) (2 : Int32) = 0 := by decide
  have i310 : inF (1 : Int32) (3 : Int32) (1 : Int32) (0 : Int32) = 0 := by decide
  have i311 : inF (1 : Int32) (3 : Int32) (1 : Int32) (1 : Int32) = 0 := by decide
  have i312 : inF (1 : Int32) (3 : Int32) (1 : Int32) (2 : Int32) = 0 := by decide
  have i320 : inF (1 : Int32) (3 : Int32) (2 : Int32) (0 : Int32) = 0 := by decide
  have i321 : inF (1 : Int32) (3 : Int32) (2 : Int32) (1 : Int32) = 0 := by decide
  have i322 : inF (1 : Int32) (3 : Int32) (2 : Int32) (2 : Int32) = 0 := by decide
  have f00 : fw e0 e1 e2 q0 q1 q2 q3 (1 : Int32) (0 : Int32) (0 : Int32) = wt e0 q0 := fw_in (by decide)
  have f01 : fw e0 e1 e2 q0 q1 q2 q3 (1 : Int32) (0 : Int32) (1 : Int32) = wt e1 q0 := fw_in (by decide)
  have f02 : fw e0 e1 e2 q0 q1 q2 q3 (1 : Int32) (0 : Int32) (2 : Int32) = wt e2 q0 := fw_in (by decide)
  have f10 : fw e0 e1 e2 q0 q1 q2 q3 (1 : Int32) (1 : Int32) (0 : Int32) = 1 := by rw [fw_out (by decide)]; rfl
  have f11 : fw e0 e1 e2 q0 q1 q2 q3 (1 : Int32) (1 : Int32) (1 : Int32) = 0 := by rw [fw_out (by decide)]; rfl
  have f12 : fw e0 e1 e2 q0 q1 q2 q3 (1 : Int32) (1 : Int32) (2 : Int32) = 0 := by rw [fw_out (by decide)]; rfl
  have f20 : fw e0 e1 e2 q0 q1 q2 q3 (1 : Int32) (2 : Int32) (0 : Int32) = 1 := by rw [fw_out (by decide)]; rfl
  have f21 : fw e0 e1 e2 q0 q1 q2 q3 (1 : Int32) (2 : Int32) (1 : Int32) = 0 := by rw [fw_out (by decide)]; rfl
  have f22 : fw e0 e1 e2 q0 q1 q2 q3 (1 : Int32) (2 : Int32) (2 : Int32) = 0 := by rw [fw_out (by decide)]; rfl
  have f30 : fw e0 e1 e2 q0 q1 q2 q3 (1 : Int32) (3 : Int32) (0 : Int32) = 1 := by rw [fw_out (by decide)]; rfl
  have f31 : fw e0 e1 e2 q0 q1 q2 q3 (1 : Int32) (3 : Int32) (1 : Int32) = 0 := by rw [fw_out (by decide)]; rfl
  have f32 : fw e0 e1 e2 q0 q1 q2 q3 (1 : Int32) (3 : Int32) (2 : Int32) = 0 := by rw [fw_out (by decide)]; rfl
  have d001 : dl (Int32.ofNat a) (Int32.ofNat b) (Int32.ofNat c) (0 : Int32) (0 : Int32) (1 : Int32) = dN a b c 0 0 1 := dl_nat (i := 0) (j := 0) (k := 1) (by omega) (by omega) (by omega) (by decide) (by decide) (by decide)
  have d010 : dl (Int32.ofNat a) (Int32.ofNat b) (Int32.ofNat c) (0 : Int32) (1 : Int32) (0 : Int32) = dN a b c 0 1 0 := dl_nat (i := 0) (j := 1) (k := 0) (by omega) (by omega) (by omega) (by decide) (by decide) (by decide)
  have d100 : dl (Int32.ofNat a) (Int32.ofNat b) (Int32.ofNat c) (1 : Int32) (0 : Int32) (0 : Int32) = dN a b c 1 0 0 := dl_nat (i := 1) (j := 0) (k := 0) (by omega) (by omega) (by omega) (by decide) (by decide) (by decide)
  simp only [l1F, l2F, l3F, oneF_eq, i000, i001, i002, i010, i011, i012, i020, i021, i022, i100, i101, i102, i110, i111, i112, i120, i121, i122, i200, i201, i202, i210, i211, i212, i220, i221, i222, i300, i301, i302, i310, i311, i312, i320, i321, i322, f00, f01, f02, f10, f11, f12, f20, f21, f22, f30, f31, f32, d001, d010, d100, Int32.reduceAdd, GG, Nat.reduceAdd, Int64.mul_zero, Int64.zero_mul, Int64.one_mul, Int64.add_zero, Int64.zero_add, Int64.mul_add, Int64.add_assoc]
set_option maxRecDepth 65536 in
set_option maxHeartbeats 40000000 in
theorem lawN2 (e0 e1 e2 : Int64) (q0 q1 q2 q3 : Int32) {a b c : Nat} (ha : a ≤ 4) (hb : b ≤ 4) (hc : c ≤ 4) : (l1F e0 e1 e2 q0 q1 q2 q3 (2 : Int32) (Int32.ofNat a) (Int32.ofNat b) (Int32.ofNat c) 0 + l1F e0 e1 e2 q0 q1 q2 q3 (2 : Int32) (Int32.ofNat a) (Int32.ofNat b) (Int32.ofNat c) 1) + l1F e0 e1 e2 q0 q1 q2 q3 (2 : Int32) (Int32.ofNat a) (Int32.ofNat b) (Int32.ofNat c) 2 = GG e0 e1 e2 a b c [q0, q1] 0 0 0 := by
  have i000 : inF (2 : Int32) (0 : Int32) (0 : Int32) (0 : Int32) = 1 := by decide
  have i001 : inF (2 : Int32) (0 : Int32) (0 : Int32) (1 : Int32) = 0 := by decide
  have i002 : inF (2 : Int32) (0 : Int32) (0 : Int32) (2 : Int32) = 0 := by decide
  have i010 : inF (2 : Int32) (0 : Int32) (1 : Int32) (0 : Int32) = 0 := by decide
  have i011 : inF (2 : Int32) (0 : Int32) (1 : Int32) (1 : Int32) = 1 := by decide
  have i012 : inF (2 : Int32) (0 : Int32) (1 : Int32) (2 : Int32) = 0 := by decide
  have i020 : inF (2 : Int32) (0 : Int32) (2 : Int32) (0 : Int32) = 0 := by decide
  have i021 : inF (2 : Int32) (0 : Int32) (2 : Int32) (1 : Int32) = 0 := by decide
  have i022 : inF (2 : Int32) (0 : Int32) (2 : Int32) (2 : Int32) = 1 := by decide
  have i100 : inF (2 : Int32) (1 : Int32) (0 : Int32) (0 : Int32) = 1 := by decide
  have i101 : inF (2 : Int32) (1 : Int32) (0 : Int32) (1 : Int32) = 0 := by decide
  have i102 : inF (2 : Int32) (1 : Int32) (0 : Int32) (2 : Int32) = 0 := by decide
  have i110 : inF (2 : Int32) (1 : Int32) (1 : Int32) (0 : Int32) = 0 := by decide
  have i111 : inF (2 : Int32) (1 : Int32) (1 : Int32) (1 : Int32) = 1 := by decide
  have i112 : inF (2 : Int32) (1 : Int32) (1 : Int32) (2 : Int32) = 0 := by decide
  have i120 : inF (2 : Int32) (1 : Int32) (2 : Int32) (0 : Int32) = 0 := by decide
  have i121 : inF (2 : Int32) (1 : Int32) (2 : Int32) (1 : Int32) = 0 := by decide
  have i122 : inF (2 : Int32) (1 : Int32) (2 : Int32) (2 : Int32) = 1 := by decide
  have i200 : inF (2 : Int32) (2 : Int32) (0 : Int32) (0 : Int32) = 0 := by decide
  have i201 : inF (2 : Int32) (2 : Int32) (0 : Int32) (1 : Int32) = 0 := by decide
  have i202 : inF (2 : Int32) (2 : Int32) (0 : Int32) (2 : Int32) = 0 := by decide
  have i210 : inF (2 : Int32) (2 : Int32) (1 : Int32) (0 : Int32) = 0 := by decide
  have i211 : inF (2 : Int32) (2 : Int32) (1 : Int32) (1 : Int32) = 0 := by decide
  have i212 : inF (2 : Int32) (2 : Int32) (1 : Int32) (2 : Int32) = 0 := by decide
  have i220 : inF (2 : Int32) (2 : Int32) (2 : Int32) (0 : Int32) = 0 := by decide
  have i221 : inF (2 : Int32) (2 : Int32) (2 : Int32) (1 : Int32) = 0 := by decide
  have i222 : inF (2 : Int32) (2 : Int32) (2 : Int32) (2 : Int32) = 0 := by decide
  have i300 : inF (2 : Int32) (3 : Int32) (0 : Int32) (0 : Int32) = 0 := by decide
  have i301 : inF (2 : Int32) (3 : Int32) (0 : Int32) (1 : Int32) = 0 := by decide
  have i302 : inF (2 : Int32) (3 : Int32) (0 : Int32) (2 : Int32) = 0 := by decide
  have i310 : inF (2 : Int32) (3 : Int32) (1 : Int32) (0 : Int32) = 0 := by decide
  have i311 : inF (2 : Int32) (3 : Int32) (1 : Int32) (1 : Int32) = 0 := by decide
  have i312 : inF (2 : Int32) (3 : Int32) (1 : Int32) (2 : Int32) = 0 := by decide
  have i320 : inF (2 : Int32) (3 : Int32) (2 : Int32) (0 : Int32) = 0 := by decide
  have i321 : inF (2 : Int32) (3 : Int32) (2 : Int32) (1 : Int32) = 0 := by decide
  have i322 : inF (2 : Int32) (3 : Int32) (2 : Int32) (2 : Int32) = 0 := by decide
  have f00 : fw e0 e1 e2 q0 q1 q2 q3 (2 : Int32) (0 : Int32) (0 : Int32) = wt e0 q0 := fw_in (by decide)
  have f01 : fw e0 e1 e2 q0 q1 q2 q3 (2 : Int32) (0 : Int32) (1 : Int32) = wt e1 q0 := fw_in (by decide)
  have f02 : fw e0 e1 e2 q0 q1 q2 q3 (2 : Int32) (0 : Int32) (2 : Int32) = wt e2 q0 := fw_in (by decide)
  have f10 : fw e0 e1 e2 q0 q1 q2 q3 (2 : Int32) (1 : Int32) (0 : Int32) = wt e0 q1 := fw_in (by decide)
  have f11 : fw e0 e1 e2 q0 q1 q2 q3 (2 : Int32) (1 : Int32) (1 : Int32) = wt e1 q1 := fw_in (by decide)
  have f12 : fw e0 e1 e2 q0 q1 q2 q3 (2 : Int32) (1 : Int32) (2 : Int32) = wt e2 q1 := fw_in (by decide)
  have f20 : fw e0 e1 e2 q0 q1 q2 q3 (2 : Int32) (2 : Int32) (0 : Int32) = 1 := by rw [fw_out (by decide)]; rfl
  have f21 : fw e0 e1 e2 q0 q1 q2 q3 (2 : Int32) (2 : Int32) (1 : Int32) = 0 := by rw [fw_out (by decide)]; rfl
  have f22 : fw e0 e1 e2 q0 q1 q2 q3 (2 : Int32) (2 : Int32) (2 : Int32) = 0 := by rw [fw_out (by decide)]; rfl
  have f30 : fw e0 e1 e2 q0 q1 q2 q3 (2 : Int32) (3 : Int32) (0 : Int32) = 1 := by rw [fw_out (by decide)]; rfl
  have f31 : fw e0 e1 e2 q0 q1 q2 q3 (2 : Int32) (3 : Int32) (1 : Int32) = 0 := by rw [fw_out (by decide)]; rfl
  have f32 : fw e0 e1 e2 q0 q1 q2 q3 (2 : Int32) (3 : Int32) (2 : Int32) = 0 := by rw [fw_out (by decide)]; rfl
  have d002 : dl (Int32.ofNat a) (Int32.ofNat b) (Int32.ofNat c) (0 : Int32) (0 : Int32) (2 : Int32) = dN a b c 0 0 2 := dl_nat (i := 0) (j := 0) (k := 2) (by omega) (by omega) (by omega) (by decide) (by decide) (by decide)
  have d011 : dl (Int32.ofNat a) (Int32.ofNat b) (Int32.ofNat c) (0 : Int32) (1 : Int32) (1 : Int32) = dN a b c 0 1 1 := dl_nat (i := 0) (j := 1) (k := 1) (by omega) (by omega) (by omega) (by decide) (by decide) (by decide)
  have d020 : dl (Int32.ofNat a) (Int32.ofNat b) (Int32.ofNat c) (0 : Int32) (2 : Int32) (0 : Int32) = dN a b c 0 2 0 := dl_nat (i := 0) (j := 2) (k := 0) (by omega) (by omega) (by omega) (by decide) (by decide) (by decide)
  have d101 : dl (Int32.ofNat a) (Int32.ofNat b) (Int32.ofNat c) (1 : Int32) (0 : Int32) (1 : Int32) = dN a b c 1 0 1 := dl_nat (i := 1) (j := 0) (k := 1) (by omega) (by omega) (by omega) (by decide) (by decide) (by decide)
  have d110 : dl (Int32.ofNat a) (Int32.ofNat b) (Int32.ofNat c) (1 : Int32) (1 : Int32) (0 : Int32) = dN a b c 1 1 0 := dl_nat (i := 1) (j := 1) (k := 0) (by omega) (by omega) (by omega) (by decide) (by decide) (by decide)
  have d200 : dl (Int32.ofNat a) (Int32.ofNat b) (Int32.ofNat c) (2 : Int32) (0 : Int32) (0 : Int32) = dN a b c 2 0 0 := dl_nat (i := 2) (j := 0) (k := 0) (by omega) (by omega) (by omega) (by decide) (by decide) (by decide)
  simp only [l1F, l2F, l3F, oneF_eq, i000, i001, i002, i010, i011, i012, i020, i021, i022, i100, i101, i102, i110, i111, i112, i120, i121, i122, i200, i201, i202, i210, i211, i212, i220, i221, i222, i300, i301, i302, i310, i311, i312, i320, i321, i322, f00, f01, f02, f10, f11, f12, f20, f21, f22, f30, f31, f32, d002, d011, d020, d101, d110, d200, Int32.reduceAdd, GG, Nat.reduceAdd, Int64.mul_zero, Int64.zero_mul, Int64.one_mul, Int64.add_zero, Int64.zero_add, Int64.mul_add, Int64.add_assoc]
set_option maxRecDepth 65536 in
set_option maxHeartbeats 40000000 in
theorem lawN3 (e0 e1 e2 : Int64) (q0 q1 q2 q3 : Int32) {a b c : Nat} (ha : a ≤ 4) (hb : b ≤ 4) (hc : c ≤ 4) : (l1F e0 e1 e2 q0 q1 q2 q3 (3 : Int32) (Int32.ofNat a) (Int32.ofNat b) (Int32.ofNat c) 0 + l1F e0 e1 e2 q0 q1 q2 q3 (3 : Int32) (Int32.ofNat a) (Int32.ofNat b) (Int32.ofNat c) 1) + l1F e0 e1 e2 q0 q1 q2 q3 (3 : Int32) (Int32.ofNat a) (Int32.ofNat b) (Int32.ofNat c) 2 = GG e0 e1 e2 a b c [q0, q1, q2] 0 0 0 := by
  have i000 : inF (3 : Int32) (0 : Int32) (0 : Int32) (0 : Int32) = 1 := by decide
  have i001 : inF (3 : Int32) (0 : Int32) (0 : Int32) (1 : Int32) = 0 := by decide
  have i002 : inF (3 : Int32) (0 : Int32) (0 : Int32) (2 : Int32) = 0 := by decide
  have i010 : inF (3 : Int32) (0 : Int32) (1 : Int32) (0 : Int32) = 0 := by decide
  have i011 : inF (3 : Int32) (0 : Int32) (1 : Int32) (1 : Int32) = 1 := by decide
  have i012 : inF (3 : Int32) (0 : Int32) (1 : Int32) (2 : Int32) = 0 := by decide
  have i020 : inF (3 : Int32) (0 : Int32) (2 : Int32) (0 : Int32) = 0 := by decide
  have i021 : inF (3 : Int32) (0 : Int32) (2 : Int32) (1 : Int32) = 0 := by decide
  have i022 : inF (3 : Int32) (0 : Int32) (2 : Int32) (2 : Int32) = 1 := by decide
  have i100 : inF (3 : Int32) (1 : Int32) (0 : Int32) (0 : Int32) = 1 := by decide
  have i101 : inF (3 : Int32) (1 : Int32) (0 : Int32) (1 : Int32) = 0 := by decide
  have i102 : inF (3 : Int32) (1 : Int32) (0 : Int32) (2 : Int32) = 0 := by decide
  have i110 : inF (3 : Int32) (1 : Int32) (1 : Int32) (0 : Int32) = 0 := by decide
  have i111 : inF (3 : Int32) (1 : Int32) (1 : Int32) (1 : Int32) = 1 := by decide
  have i112 : inF (3 : Int32) (1 : Int32) (1 : Int32) (2 : Int32) = 0 := by decide
  have i120 : inF (3 : Int32) (1 : Int32) (2 : Int32) (0 : Int32) = 0 := by decide
  have i121 : inF (3 : Int32) (1 : Int32) (2 : Int32) (1 : Int32) = 0 := by decide
  have i122 : inF (3 : Int32) (1 : Int32) (2 : Int32) (2 : Int32) = 1 := by decide
  have i200 : inF (3 : Int32) (2 : Int32) (0 : Int32) (0 : Int32) = 1 := by decide
  have i201 : inF (3 : Int32) (2 : Int32) (0 : Int32) (1 : Int32) = 0 := by decide
  have i202 : inF (3 : Int32) (2 : Int32) (0 : Int32) (2 : Int32) = 0 := by decide
  have i210 : inF (3 : Int32) (2 : Int32) (1 : Int32) (0 : Int32) = 0 := by decide
  have i211 : inF (3 : Int32) (2 : Int32) (1 : Int32) (1 : Int32) = 1 := by decide
  have i212 : inF (3 : Int32) (2 : Int32) (1 : Int32) (2 : Int32) = 0 := by decide
  have i220 : inF (3 : Int32) (2 : Int32) (2 : Int32) (0 : Int32) = 0 := by decide
  have i221 : inF (3 : Int32) (2 : Int32) (2 : Int32) (1 : Int32) = 0 := by decide
  have i222 : inF (3 : Int32) (2 : Int32) (2 : Int32) (2 : Int32) = 1 := by decide
  have i300 : inF (3 : Int32) (3 : Int32) (0 : Int32) (0 : Int32) = 0 := by decide
  have i301 : inF (3 : Int32) (3 : Int32) (0 : Int32) (1 : Int32) = 0 := by decide
  have i302 : inF (3 : Int32) (3 : Int32) (0 : Int32) (2 : Int32) = 0 := by decide
  have i310 : inF (3 : Int32) (3 : Int32) (1 : Int32) (0 : Int32) = 0 := by decide
  have i311 : inF (3 : Int32) (3 : Int32) (1 : Int32) (1 : Int32) = 0 := by decide
  have i312 : inF (3 : Int32) (3 : Int32) (1 : Int32) (2 : Int32) = 0 := by decide
  have i320 : inF (3 : Int32) (3 : Int32) (2 : Int32) (0 : Int32) = 0 := by decide
  have i321 : inF (3 : Int32) (3 : Int32) (2 : Int32) (1 : Int32) = 0 := by decide
  have i322 : inF (3 : Int32) (3 : Int32) (2 : Int32) (2 : Int32) = 0 := by decide
  have f00 : fw e0 e1 e2 q0 q1 q2 q3 (3 : Int32) (0 : Int32) (0 : Int32) = wt e0 q0 := fw_in (by decide)
  have f01 : fw e0 e1 e2 q0 q1 q2 q3 (3 : Int32) (0 : Int32) (1 : Int32) = wt e1 q0 := fw_in (by decide)
  have f02 : fw e0 e1 e2 q0 q1 q2 q3 (3 : Int32) (0 : Int32) (2 : Int32) = wt e2 q0 := fw_in (by decide)
  have f10 : fw e0 e1 e2 q0 q1 q2 q3 (3 : Int32) (1 : Int32) (0 : Int32) = wt e0 q1 := fw_in (by decide)
  have f11 : fw e0 e1 e2 q0 q1 q2 q3 (3 : Int32) (1 : Int32) (1 : Int32) = wt e1 q1 := fw_in (by decide)
  have f12 : fw e0 e1 e2 q0 q1 q2 q3 (3 : Int32) (1 : Int32) (2 : Int32) = wt e2 q1 := fw_in (by decide)
  have f20 : fw e0 e1 e2 q0 q1 q2 q3 (3 : Int32) (2 : Int32) (0 : Int32) = wt e0 q2 := fw_in (by decide)
  have f21 : fw e0 e1 e2 q0 q1 q2 q3 (3 : Int32) (2 : Int32) (1 : Int32) = wt e1 q2 := fw_in (by decide)
  have f22 : fw e0 e1 e2 q0 q1 q2 q3 (3 : Int32) (2 : Int32) (2 : Int32) = wt e2 q2 := fw_in (by decide)
  have f30 : fw e0 e1 e2 q0 q1 q2 q3 (3 : Int32) (3 : Int32) (0 : Int32) = 1 := by rw [fw_out (by decide)]; rfl
  have f31 : fw e0 e1 e2 q0 q1 q2 q3 (3 : Int32) (3 : Int32) (1 : Int32) = 0 := by rw [fw_out (by decide)]; rfl
  have f32 : fw e0 e1 e2 q0 q1 q2 q3 (3 : Int32) (3 : Int32) (2 : Int32) = 0 := by rw [fw_out (by decide)]; rfl
  have d003 : dl (Int32.ofNat a) (Int32.ofNat b) (Int32.ofNat c) (0 : Int32) (0 : Int32) (3 : Int32) = dN a b c 0 0 3 := dl_nat (i := 0) (j := 0) (k := 3) (by omega) (by omega) (by omega) (by decide) (by decide) (by decide)
  have d012 : dl (Int32.ofNat a) (Int32.ofNat b) (Int32.ofNat c) (0 : Int32) (1 : Int32) (2 : Int32) = dN a b c 0 1 2 := dl_nat (i := 0) (j := 1) (k := 2) (by omega) (by omega) (by omega) (by decide) (by decide) (by decide)
  have d021 : dl (Int32.ofNat a) (Int32.ofNat b) (Int32.ofNat c) (0 : Int32) (2 : Int32) (1 : Int32) = dN a b c 0 2 1 := dl_nat (i := 0) (j := 2) (k := 1) (by omega) (by omega) (by omega) (by decide) (by decide) (by decide)
  have d030 : dl (Int32.ofNat a) (Int32.ofNat b) (Int32.ofNat c) (0 : Int32) (3 : Int32) (0 : Int32) = dN a b c 0 3 0 := dl_nat (i := 0) (j := 3) (k := 0) (by omega) (by omega) (by omega) (by decide) (by decide) (by decide)
  have d102 : dl (Int32.ofNat a) (Int32.ofNat b) (Int32.ofNat c) (1 : Int32) (0 : Int32) (2 : Int32) = dN a b c 1 0 2 := dl_nat (i := 1) (j := 0) (k := 2) (by omega) (by omega) (by omega) (by decide) (by decide) (by decide)
  have d111 : dl (Int32.ofNat a) (Int32.ofNat b) (Int32.ofNat c) (1 : Int32) (1 : Int32) (1 : Int32) = dN a b c 1 1 1 := dl_nat (i := 1) (j := 1) (k := 1) (by omega) (by omega) (by omega) (by decide) (by decide) (by decide)
  have d120 : dl (Int32.ofNat a) (Int32.ofNat b) (Int32.ofNat c) (1 : Int32) (2 : Int32) (0 : Int32) = dN a b c 1 2 0 := dl_nat (i := 1) (j := 2) (k := 0) (by omega) (by omega) (by omega) (by decide) (by decide) (by decide)
  have d201 : dl (Int32.ofNat a) (Int32.ofNat b) (Int32.ofNat c) (2 : Int32) (0 : Int32) (1 : Int32) = dN a b c 2 0 1 := dl_nat (i := 2) (j := 0) (k := 1) (by omega) (by omega) (by omega) (by decide) (by decide) (by decide)
  have d210 : dl (Int32.ofNat a) (Int32.ofNat b) (Int32.ofNat c) (2 : Int32) (1 : Int32) (0 : Int32) = dN a b c 2 1 0 := dl_nat (i := 2) (j := 1) (k := 0) (by omega) (by omega) (by omega) (by decide) (by decide) (by decide)
  have d300 : dl (Int32.ofNat a) (Int32.ofNat b) (Int32.ofNat c) (3 : Int32) (0 : Int32) (0 : Int32) = dN a b c 3 0 0 := dl_nat (i := 3) (j := 0) (k := 0) (by omega) (by omega) (by omega) (by decide) (by decide) (by decide)
  simp only [l1F, l2F, l3F, oneF_eq, i000, i001, i002, i010, i011, i012, i020, i021, i022, i100, i101, i102, i110, i111, i112, i120, i121, i122, i200, i201, i202, i210, i211, i212, i220, i221, i222, i300, i301, i302, i310, i311, i312, i320, i321, i322, f00, f01, f02, f10, f11, f12, f20, f21, f22, f30, f31, f32, d003, d012, d021, d030, d102, d111, d120, d201, d210, d300, Int32.reduceAdd, GG, Nat.reduceAdd, Int64.mul_zero, Int64.zero_mul, Int64.one_mul, Int64.add_zero, Int64.zero_add, Int64.mul_add, Int64.add_assoc]
set_option maxRecDepth 65536 in
set_option maxHeartbeats 40000000 in
theorem lawN4 (e0 e1 e2 : Int64) (q0 q1 q2 q3 : Int32) {a b c : Nat} (ha : a ≤ 4) (hb : b ≤ 4) (hc : c ≤ 4) : (l1F e0 e1 e2 q0 q1 q2 q3 (4 : Int32) (Int32.ofNat a) (Int32.ofNat b) (Int32.ofNat c) 0 + l1F e0 e1 e2 q0 q1 q2 q3 (4 : Int32) (Int32.ofNat a) (Int32.ofNat b) (Int32.ofNat c) 1) + l1F e0 e1 e2 q0 q1 q2 q3 (4 : Int32) (Int32.ofNat a) (Int32.ofNat b) (Int32.ofNat c) 2 = GG e0 e1 e2 a b c [q0, q1, q2, q3] 0 0 0 := by
  have i000 : inF (4 : Int32) (0 : Int32) (0 : Int32) (0 : Int32) = 1 := by decide
  have i001 : inF (4 : Int32) (0 : Int32) (0 : Int32) (1 : Int32) = 0 := by decide
  have i002 : inF (4 : Int32) (0 : Int32) (0 : Int32) (2 : Int32) = 0 := by decide
  have i010 : inF (4 : Int32) (0 : Int32) (1 : Int32) (0 : Int32) = 0 := by decide
  have i011 : inF (4 : Int32) (0 : Int32) (1 : Int32) (1 : Int32) = 1 := by decide
  have i012 : inF (4 : Int32) (0 : Int32) (1 : Int32) (2 : Int32) = 0 := by decide
  have i020 : inF (4 : Int32) (0 : Int32) (2 : Int32) (0 : Int32) = 0 := by decide
  have i021 : inF (4 : Int32) (0 : Int32) (2 : Int32) (1 : Int32) = 0 := by decide
  have i022 : inF (4 : Int32) (0 : Int32) (2 : Int32) (2 : Int32) = 1 := by decide
  have i100 : inF (4 : Int32) (1 : Int32) (0 : Int32) (0 : Int32) = 1 := by decide
  have i101 : inF (4 : Int32) (1 : Int32) (0 : Int32) (1 : Int32) = 0 := by decide
  have i102 : inF (4 : Int32) (1 : Int32) (0 : Int32) (2 : Int32) = 0 := by decide
  have i110 : inF (4 : Int32) (1 : Int32) (1 : Int32) (0 : Int32) = 0 := by decide
  have i111 : inF (4 : Int32) (1 : Int32) (1 : Int32) (1 : Int32) = 1 := by decide
  have i112 : inF (4 : Int32) (1 : Int32) (1 : Int32) (2 : Int32) = 0 := by decide
  have i120 : inF (4 : Int32) (1 : Int32) (2 : Int32) (0 : Int32) = 0 := by decide
  have i121 : inF (4 : Int32) (1 : Int32) (2 : Int32) (1 : Int32) = 0 := by decide
  have i122 : inF (4 : Int32) (1 : Int32) (2 : Int32) (2 : Int32) = 1 := by decide
  have i200 : inF (4 : Int32) (2 : Int32) (0 : Int32) (0 : Int32) = 1 := by decide
  have i201 : inF (4 : Int32) (2 : Int32) (0 : Int32) (1 : Int32) = 0 := by decide
  have i202 : inF (4 : Int32) (2 : Int32) (0 : Int32) (2 : Int32) = 0 := by decide
  have i210 : inF (4 : Int32) (2 : Int32) (1 : Int32) (0 : Int32) = 0 := by decide
  have i211 : inF (4 : Int32) (2 : Int32) (1 : Int32) (1 : Int32) = 1 := by decide
  have i212 : inF (4 : Int32) (2 : Int32) (1 : Int32) (2 : Int32) = 0 := by decide
  have i220 : inF (4 : Int32) (2 : Int32) (2 : Int32) (0 : Int32) = 0 := by decide
  have i221 : inF (4 : Int32) (2 : Int32) (2 : Int32) (1 : Int32) = 0 := by decide
  have i222 : inF (4 : Int32) (2 : Int32) (2 : Int32) (2 : Int32) = 1 := by decide
  have i300 : inF (4 : Int32) (3 : Int32) (0 : Int32) (0 : Int32) = 1 := by decide
  have i301 : inF (4 : Int32) (3 : Int32) (0 : Int32) (1 : Int32) = 0 := by decide
  have i302 : inF (4 : Int32) (3 : Int32) (0 : Int32) (2 : Int32) = 0 := by decide
  have i310 : inF (4 : Int32) (3 : Int32) (1 : Int32) (0 : Int32) = 0 := by decide
  have i311 : inF (4 : Int32) (3 : Int32) (1 : Int32) (1 : Int32) = 1 := by decide
  have i312 : inF (4 : Int32) (3 : Int32) (1 : Int32) (2 : Int32) = 0 := by decide
  have i320 : inF (4 : Int32) (3 : Int32) (2 : Int32) (0 : Int32) = 0 := by decide
  have i321 : inF (4 : Int32) (3 : Int32) (2 : Int32) (1 : Int32) = 0 := by decide
  have i322 : inF (4 : Int32) (3 : Int32) (2 : Int32) (2 : Int32) = 1 := by decide
  have f00 : fw e0 e1 e2 q0 q1 q2 q3 (4 : Int32) (0 : Int32) (0 : Int32) = wt e0 q0 := fw_in (by decide)
  have f01 : fw e0 e1 e2 q0 q1 q2 q3 (4 : Int32) (0 : Int32) (1 : Int32) = wt e1 q0 := fw_in (by decide)
  have f02 : fw e0 e1 e2 q0 q1 q2 q3 (4 : Int32) (0 : Int32) (2 : Int32) = wt e2 q0 := fw_in (by decide)
  have f10 : fw e0 e1 e2 q0 q1 q2 q3 (4 : Int32) (1 : Int32) (0 : Int32) = wt e0 q1 := fw_in (by decide)
  have f11 : fw e0 e1 e2 q0 q1 q2 q3 (4 : Int32) (1 : Int32) (1 : Int32) = wt e1 q1 := fw_in (by decide)
  have f12 : fw e0 e1 e2 q0 q1 q2 q3 (4 : Int32) (1 : Int32) (2 : Int32) = wt e2 q1 := fw_in (by decide)
  have f20 : fw e0 e1 e2 q0 q1 q2 q3 (4 : Int32) (2 : Int32) (0 : Int32) = wt e0 q2 := fw_in (by decide)
  have f21 : fw e0 e1 e2 q0 q1 q2 q3 (4 : Int32) (2 : Int32) (1 : Int32) = wt e1 q2 := fw_in (by decide)
  have f22 : fw e0 e1 e2 q0 q1 q2 q3 (4 : Int32) (2 : Int32) (2 : Int32) = wt e2 q2 := fw_in (by decide)
  have f30 : fw e0 e1 e2 q0 q1 q2 q3 (4 : Int32) (3 : Int32) (0 : Int32) = wt e0 q3 := fw_in (by decide)
  have f31 : fw e0 e1 e2 q0 q1 q2 q3 (4 : Int32) (3 : Int32) (1 : Int32) = wt e1 q3 := fw_in (by decide)
  have f32 : fw e0 e1 e2 q0 q1 q2 q3 (4 : Int32) (3 : Int32) (2 : Int32) = wt e2 q3 := fw_in (by decide)
  have d004 : dl (Int32.ofNat a) (Int32.ofNat b) (Int32.ofNat c) (0 : Int32) (0 : Int32) (4 : Int32) = dN a b c 0 0 4 := dl_nat (i := 0) (j := 0) (k := 4) (by omega) (by omega) (by omega) (by decide) (by decide) (by decide)
  have d013 : dl (Int32.ofNat a) (Int32.ofNat b) (Int32.ofNat c) (0 : Int32) (1 : Int32) (3 : Int32) = dN a b c 0 1 3 := dl_nat (i := 0) (j := 1) (k := 3) (by omega) (by omega) (by omega) (by decide) (by decide) (by decide)
  have d022 : dl (Int32.ofNat a) (Int32.ofNat b) (Int32.ofNat c) (0 : Int32) (2 : Int32) (2 : Int32) = dN a b c 0 2 2 := dl_nat (i := 0) (j := 2) (k := 2) (by omega) (by omega) (by omega) (by decide) (by decide) (by decide)
  have d031 : dl (Int32.ofNat a) (Int32.ofNat b) (Int32.ofNat c) (0 : Int32) (3 : Int32) (1 : Int32) = dN a b c 0 3 1 := dl_nat (i := 0) (j := 3) (k := 1) (by omega) (by omega) (by omega) (by decide) (by decide) (by decide)
  have d040 : dl (Int32.ofNat a) (Int32.ofNat b) (Int32.ofNat c) (0 : Int32) (4 : Int32) (0 : Int32) = dN a b c 0 4 0 := dl_nat (i := 0) (j := 4) (k := 0) (by omega) (by omega) (by omega) (by decide) (by decide) (by decide)
  have d103 : dl (Int32.ofNat a) (Int32.ofNat b) (Int32.ofNat c) (1 : Int32) (0 : Int32) (3 : Int32) = dN a b c 1 0 3 := dl_nat (i := 1) (j := 0) (k := 3) (by omega) (by omega) (by omega) (by decide) (by decide) (by decide)
  have d112 : dl (Int32.ofNat a) (Int32.ofNat b) (Int32.ofNat c) (1 : Int32) (1 : Int32) (2 : Int32) = dN a b c 1 1 2 := dl_nat (i := 1) (j := 1) (k := 2) (by omega) (by omega) (by omega) (by decide) (by decide) (by decide)
  have d121 : dl (Int32.ofNat a) (Int32.ofNat b) (Int32.ofNat c) (1 : Int32) (2 : Int32) (1 : Int32) = dN a b c 1 2 1 := dl_nat (i := 1) (j := 2) (k := 1) (by omega) (by omega) (by omega) (by decide) (by decide) (by decide)
  have d130 : dl (Int32.ofNat a) (Int32.ofNat b) (Int32.ofNat c) (1 : Int32) (3 : Int32) (0 : Int32) = dN a b c 1 3 0 := dl_nat (i := 1) (j := 3) (k := 0) (by omega) (by omega) (by omega) (by decide) (by decide) (by decide)
  have d202 : dl (Int32.ofNat a) (Int32.ofNat b) (Int32.ofNat c) (2 : Int32) (0 : Int32) (2 : Int32) = dN a b c 2 0 2 := dl_nat (i := 2) (j := 0) (k := 2) (by omega) (by omega) (by omega) (by decide) (by decide) (by decide)
  have d211 : dl (Int32.ofNat a) (Int32.ofNat b) (Int32.ofNat c) (2 : Int32) (1 : Int32) (1 : Int32) = dN a b c 2 1 1 := dl_nat (i := 2) (j := 1) (k := 1) (by omega) (by omega) (by omega) (by decide) (by decide) (by decide)
  have d220 : dl (Int32.ofNat a) (Int32.ofNat b) (Int32.ofNat c) (2 : Int32) (2 : Int32) (0 : Int32) = dN a b c 2 2 0 := dl_nat (i := 2) (j := 2) (k := 0) (by omega) (by omega) (by omega) (by decide) (by decide) (by decide)
  have d301 : dl (Int32.ofNat a) (Int32.ofNat b) (Int32.ofNat c) (3 : Int32) (0 : Int32) (1 : Int32) = dN a b c 3 0 1 := dl_nat (i := 3) (j := 0) (k := 1) (by omega) (by omega) (by omega) (by decide) (by decide) (by decide)
  have d310 : dl (Int32.ofNat a) (Int32.ofNat b) (Int32.ofNat c) (3 : Int32) (1 : Int32) (0 : Int32) = dN a b c 3 1 0 := dl_nat (i := 3) (j := 1) (k := 0) (by omega) (by omega) (by omega) (by decide) (by decide) (by decide)
  have d400 : dl (Int32.ofNat a) (Int32.ofNat b) (Int32.ofNat c) (4 : Int32) (0 : Int32) (0 : Int32) = dN a b c 4 0 0 := dl_nat (i := 4) (j := 0) (k := 0) (by omega) (by omega) (by omega) (by decide) (by decide) (by decide)
  simp only [l1F, l2F, l3F, oneF_eq, i000, i001, i002, i010, i011, i012, i020, i021, i022, i100, i101, i102, i110, i111, i112, i120, i121, i122, i200, i201, i202, i210, i211, i212, i220, i221, i222, i300, i301, i302, i310, i311, i312, i320, i321, i322, f00, f01, f02, f10, f11, f12, f20, f21, f22, f30, f31, f32, d004, d013, d022, d031, d040, d103, d112, d121, d130, d202, d211, d220, d301, d310, d400, Int32.reduceAdd, GG, Nat.reduceAdd, Int64.mul_zero, Int64.zero_mul, Int64.one_mul, Int64.add_zero, Int64.zero_add, Int64.mul_add, Int64.add_assoc]
theorem law_all (e0 e1 e2 : Int64) (q0 q1 q2 q3 : Int32) {N a b c : Nat} {cs : List Int32} (hN : N ≤ 4) (hz : a + b + c = N) (hp : cs.Perm ([q0, q1, q2, q3].take N)) (hl : cs.length = N) :
    wy e0 e1 e2 cs a b = (l1F e0 e1 e2 q0 q1 q2 q3 (Int32.ofNat N) (Int32.ofNat a) (Int32.ofNat b) (Int32.ofNat c) 0 + l1F e0 e1 e2 q0 q1 q2 q3 (Int32.ofNat N) (Int32.ofNat a) (Int32.ofNat b) (Int32.ofNat c) 1) + l1F e0 e1 e2 q0 q1 q2 q3 (Int32.ofNat N) (Int32.ofNat a) (Int32.ofNat b) (Int32.ofNat c) 2 := by
  rw [wy_cnt e0 e1 e2 cs a b c (by omega), cnt_perm e0 e1 e2 hp, cnt_GG]
  have : N = 0 ∨ N = 1 ∨ N = 2 ∨ N = 3 ∨ N = 4 := by omega
  rcases this with rfl | rfl | rfl | rfl | rfl
  · exact (lawN0 e0 e1 e2 q0 q1 q2 q3 (by omega) (by omega) (by omega)).symm
  · exact (lawN1 e0 e1 e2 q0 q1 q2 q3 (by omega) (by omega) (by omega)).symm
  · exact (lawN2 e0 e1 e2 q0 q1 q2 q3 (by omega) (by omega) (by omega)).symm
  · exact (lawN3 e0 e1 e2 q0 q1 q2 q3 (by omega) (by omega) (by omega)).symm
  · exact (lawN4 e0 e1 e2 q0 q1 q2 q3 (by omega) (by omega) (by omega)).symm
end OwnPlain2

section OwnBits
theorem land256 (a b c d : Nat) (ha : a < 256) (hc : c < 256) : (a + 256 * b) &&& (c + 256 * d) = (a &&& c) + 256 * (b &&& d) := by
  apply Nat.eq_of_testBit_eq; intro i
  have hac : a &&& c < 256 := Nat.lt_of_le_of_lt Nat.and_le_left ha
  have e1 : a + 256 * b = 2 ^ 8 * b + a := by omega
  have e2 : c + 256 * d = 2 ^ 8 * d + c := by omega
  have e3 : (a &&& c) + 256 * (b &&& d) = 2 ^ 8 * (b &&& d) + (a &&& c) := by omega
  rw [e1, e2, e3, Nat.testBit_and, Nat.testBit_two_pow_mul_add _ ha, Nat.testBit_two_pow_mul_add _ hc, Nat.testBit_two_pow_mul_add _ hac]
  split
  · rw [Nat.testBit_and]
  · rw [Nat.testBit_and]
def rp (m : Nat) : Nat → Nat
  | 0 => 0
  | k + 1 => m + 256 * rp m k
def mp (f : Nat → Nat) : Nat → Nat → Nat
  | 0, _ => 0
  | k + 1, x => f (x % 256) + 256 * mp f k (x / 256)
theorem spl (x : Nat) : x = x % 256 + 256 * (x / 256) := by omega
theorem and_rp {m : Nat} (hm : m < 256) : ∀ k x, x &&& rp m k = mp (fun B => B &&& m) k x
  | 0, x => by simp [rp, mp]
  | k + 1, x => by
    show x &&& (m + 256 * rp m k) = (x % 256 &&& m) + 256 * mp _ k (x / 256)
    rw [← and_rp hm k (x / 256), ← land256 _ _ _ _ (Nat.mod_lt _ (by decide)) hm, ← spl]
theorem byte1 (y : Nat) : (y / 2) % 256 &&& 0x55 = (y % 256) / 2 &&& 0x55 := by
  have h1 : (y / 2) % 256 = (y % 512) / 2 := by omega
  have h2 : y % 256 = (y % 512) % 256 := by omega
  rw [h1, h2]
  have : ∀ z : Fin 512, (z.val / 2) &&& 0x55 = (z.val % 256) / 2 &&& 0x55 := by decide +kernel
  exact this ⟨y % 512, Nat.mod_lt _ (by decide)⟩
theorem byte2 (y : Nat) : (y / 4) % 256 &&& 0x33 = (y % 256) / 4 &&& 0x33 := by
  have h1 : (y / 4) % 256 = (y % 1024) / 4 := by omega
  have h2 : y % 256 = (y % 1024) % 256 := by omega
  rw [h1, h2]
  have : ∀ z : Fin 1024, (z.val / 4) &&& 0x33 = (z.val % 256) / 4 &&& 0x33 := by decide +kernel
  exact this ⟨y % 1024, Nat.mod_lt _ (by decide)⟩
theorem shr1_rp : ∀ k x, (x / 2) &&& rp 0x55 k = mp (fun B => B / 2 &&& 0x55) k x
  | 0, x => by simp [rp, mp]
  | k + 1, x => by
    show (x / 2) &&& (0x55 + 256 * rp 0x55 k) = (x % 256 / 2 &&& 0x55) + 256 * mp _ k (x / 256)
    rw [← shr1_rp k (x / 256), show x / 256 / 2 = x / 2 / 256 by omega, ← byte1, ← land256 _ _ _ _ (Nat.mod_lt _ (by decide)) (by decide), ← spl]
theorem shr2_rp : ∀ k x, (x / 4) &&& rp 0x33 k = mp (fun B => B / 4 &&& 0x33) k x
  | 0, x => by simp [rp, mp]
  | k + 1, x => by
    show (x / 4) &&& (0x33 + 256 * rp 0x33 k) = (x % 256 / 4 &&& 0x33) + 256 * mp _ k (x / 256)
    rw [← shr2_rp k (x / 256), show x / 256 / 4 = x / 4 / 256 by omega, ← byte2, ← land256 _ _ _ _ (Nat.mod_lt _ (by decide)) (by decide), ← spl]
theorem mp_sub (f : Nat → Nat) (hf : ∀ B, B < 256 → f B ≤ B) : ∀ k x, x < 256 ^ k → mp f k x ≤ x ∧ x - mp f k x = mp (fun B => B - f B) k x
  | 0, x, h => by simp at h; subst h; simp [mp]
  | k + 1, x, h => by
    obtain ⟨h1, h2⟩ := mp_sub f hf k (x / 256) (by rw [Nat.pow_succ] at h; omega)
    have h3 := hf (x % 256) (Nat.mod_lt _ (by decide))
    show f (x % 256) + 256 * mp f k (x / 256) ≤ x ∧ x - (f (x % 256) + 256 * mp f k (x / 256)) = (x % 256 - f (x % 256)) + 256 * mp (fun B => B - f B) k (x / 256)
    rw [← h2]
    have := spl x
    omega
theorem mp_add (f g : Nat → Nat) : ∀ k x, mp f k x + mp g k x = mp (fun B => f B + g B) k x
  | 0, x => rfl
  | k + 1, x => by
    have := mp_add f g k (x / 256)
    show f (x % 256) + 256 * mp f k (x / 256) + (g (x % 256) + 256 * mp g k (x / 256)) = (f (x % 256) + g (x % 256)) + 256 * mp (fun B => f B + g B) k (x / 256)
    rw [← this]; omega
theorem mp_mp (f g : Nat → Nat) (hg : ∀ B, B < 256 → g B < 256) : ∀ k x, mp f k (mp g k x) = mp (fun B => f (g B)) k x
  | 0, x => rfl
  | k + 1, x => by
    have h3 := hg (x % 256) (Nat.mod_lt _ (by decide))
    show f ((g (x % 256) + 256 * mp g k (x / 256)) % 256) + 256 * mp f k ((g (x % 256) + 256 * mp g k (x / 256)) / 256) = f (g (x % 256)) + 256 * mp _ k (x / 256)
    rw [← mp_mp f g hg k (x / 256), show (g (x % 256) + 256 * mp g k (x / 256)) % 256 = g (x % 256) by omega, show (g (x % 256) + 256 * mp g k (x / 256)) / 256 = mp g k (x / 256) by omega]
theorem mp_lt (f : Nat → Nat) (hf : ∀ B, B < 256 → f B < 256) : ∀ k x, mp f k x < 256 ^ k
  | 0, x => by simp [mp]
  | k + 1, x => by
    have h3 := hf (x % 256) (Nat.mod_lt _ (by decide))
    have h4 := mp_lt f hf k (x / 256)
    show f (x % 256) + 256 * mp f k (x / 256) < 256 ^ (k + 1)
    rw [Nat.pow_succ]; omega
theorem mp_congr (f g : Nat → Nat) (h : ∀ B, B < 256 → f B = g B) : ∀ k x, mp f k x = mp g k x
  | 0, x => rfl
  | k + 1, x => by
    show f (x % 256) + 256 * mp f k (x / 256) = g (x % 256) + 256 * mp g k (x / 256)
    rw [h _ (Nat.mod_lt _ (by decide)), mp_congr f g h k (x / 256)]
/-- the third step, over bytes whose halves are at most 4 -/
theorem step3 (g : Nat → Nat) (hg : ∀ B, B < 256 → g B % 16 ≤ 4 ∧ g B / 16 ≤ 4) : ∀ k x, (mp g k x + mp g k x / 16) &&& rp 15 k = mp (fun B => g B % 16 + g B / 16) k x
  | 0, x => by simp [mp, rp]
  | k + 1, x => by
    obtain ⟨a1, a2⟩ := hg (x % 256) (Nat.mod_lt _ (by decide))
    have ih := step3 g hg k (x / 256)
    show (g (x % 256) + 256 * mp g k (x / 256) + (g (x % 256) + 256 * mp g k (x / 256)) / 16) &&& (15 + 256 * rp 15 k) = (g (x % 256) % 16 + g (x % 256) / 16) + 256 * mp _ k (x / 256)
    rw [← ih]
    have lo : mp g k (x / 256) % 16 ≤ 4 := by
      cases k with
      | zero => simp [mp]
      | succ k =>
        have := (hg (x / 256 % 256) (Nat.mod_lt _ (by decide))).1
        show (g (x / 256 % 256) + 256 * mp g k (x / 256 / 256)) % 16 ≤ 4
        omega
    generalize mp g k (x / 256) = b at *
    generalize g (x % 256) = a at *
    have e : a + 256 * b + (a + 256 * b) / 16 = (a + a / 16 + 16 * (b % 16)) + 256 * (b + b / 16) := by omega
    rw [e, land256 _ _ _ _ (by omega) (by decide)]
    congr 1
    rw [show (15 : Nat) = 2 ^ 4 - 1 from rfl, Nat.and_two_pow_sub_one_eq_mod]
    omega
def pb (B : Nat) : Nat := ((B - (B / 2 &&& 0x55)) &&& 0x33) + ((B - (B / 2 &&& 0x55)) / 4 &&& 0x33)
def pc8 (B : Nat) : Nat := pb B % 16 + pb B / 16
theorem pc8_eq : ∀ B : Fin 256, pc8 B.val = (B.val.testBit 0).toNat + (B.val.testBit 1).toNat + (B.val.testBit 2).toNat + (B.val.testBit 3).toNat + (B.val.testBit 4).toNat + (B.val.testBit 5).toNat + (B.val.testBit 6).toNat + (B.val.testBit 7).toNat := by decide +kernel
theorem pb_fact : ∀ B : Fin 256, pb B.val % 16 ≤ 4 ∧ pb B.val / 16 ≤ 4 ∧ (B.val / 2 &&& 0x55) ≤ B.val ∧ B.val - (B.val / 2 &&& 0x55) < 256 ∧ pc8 B.val ≤ 8 ∧ pb B.val < 128 := by decide +kernel
/-- the count's word in Nat -/
def w1 (X : Nat) : Nat := X - (X / 2 &&& 6148914691236517205)
def w2 (X : Nat) : Nat := (w1 X &&& 3689348814741910323) + (w1 X / 4 &&& 3689348814741910323)
def w3 (X : Nat) : Nat := (w2 X + w2 X / 16) &&& 1085102592571150095
theorem w1_eq {X : Nat} (h : X < 256 ^ 8) : w1 X = mp (fun B => B - (B / 2 &&& 0x55)) 8 X ∧ (X / 2 &&& 6148914691236517205) ≤ X := by
  have e : (6148914691236517205 : Nat) = rp 0x55 8 := by decide
  obtain ⟨a, b⟩ := mp_sub (fun B => B / 2 &&& 0x55) (fun B hB => (pb_fact ⟨B, hB⟩).2.2.1) 8 X h
  unfold w1; rw [e, shr1_rp]; exact ⟨b, a⟩
theorem w2_eq {X : Nat} (h : X < 256 ^ 8) : w2 X = mp pb 8 X := by
  have e : (3689348814741910323 : Nat) = rp 0x33 8 := by decide
  unfold w2; rw [e, and_rp (by decide), shr2_rp, mp_add, (w1_eq h).1, mp_mp _ _ (fun B hB => (pb_fact ⟨B, hB⟩).2.2.2.1)]
  rfl
theorem w3_eq {X : Nat} (h : X < 256 ^ 8) : w3 X = mp pc8 8 X := by
  have e : (1085102592571150095 : Nat) = rp 15 8 := by decide
  unfold w3; rw [e, w2_eq h, step3 _ (fun B hB => ⟨(pb_fact ⟨B, hB⟩).1, (pb_fact ⟨B, hB⟩).2.1⟩)]; rfl
def bsum (X : Nat) : Nat := pc8 (X % 256) + pc8 (X / 256 % 256) + pc8 (X / 256 / 256 % 256) + pc8 (X / 256 / 256 / 256 % 256) + pc8 (X / 256 / 256 / 256 / 256 % 256) + pc8 (X / 256 / 256 / 256 / 256 / 256 % 256) + pc8 (X / 256 / 256 / 256 / 256 / 256 / 256 % 256) + pc8 (X / 256 / 256 / 256 / 256 / 256 / 256 / 256 % 256)
theorem dv (A B K : Nat) (hK : 0 < K) (h : A < K) : (A + K * B) / K = B := by rw [Nat.add_mul_div_left _ _ hK, Nat.div_eq_of_lt h, Nat.zero_add]
set_option maxHeartbeats 4000000 in
theorem w6_sum (c0 c1 c2 c3 c4 c5 c6 c7 : Nat) (q0 : c0 ≤ 8) (q1 : c1 ≤ 8) (q2 : c2 ≤ 8) (q3 : c3 ≤ 8) (q4 : c4 ≤ 8) (q5 : c5 ≤ 8) (q6 : c6 ≤ 8) (q7 : c7 ≤ 8) :
    ((c0 + 256 * (c1 + 256 * (c2 + 256 * (c3 + 256 * (c4 + 256 * (c5 + 256 * (c6 + 256 * (c7 + 256 * 0)))))))) + (c0 + 256 * (c1 + 256 * (c2 + 256 * (c3 + 256 * (c4 + 256 * (c5 + 256 * (c6 + 256 * (c7 + 256 * 0)))))))) / 256 + ((c0 + 256 * (c1 + 256 * (c2 + 256 * (c3 + 256 * (c4 + 256 * (c5 + 256 * (c6 + 256 * (c7 + 256 * 0)))))))) + (c0 + 256 * (c1 + 256 * (c2 + 256 * (c3 + 256 * (c4 + 256 * (c5 + 256 * (c6 + 256 * (c7 + 256 * 0)))))))) / 256) / 65536 + ((c0 + 256 * (c1 + 256 * (c2 + 256 * (c3 + 256 * (c4 + 256 * (c5 + 256 * (c6 + 256 * (c7 + 256 * 0)))))))) + (c0 + 256 * (c1 + 256 * (c2 + 256 * (c3 + 256 * (c4 + 256 * (c5 + 256 * (c6 + 256 * (c7 + 256 * 0)))))))) / 256 + ((c0 + 256 * (c1 + 256 * (c2 + 256 * (c3 + 256 * (c4 + 256 * (c5 + 256 * (c6 + 256 * (c7 + 256 * 0)))))))) + (c0 + 256 * (c1 + 256 * (c2 + 256 * (c3 + 256 * (c4 + 256 * (c5 + 256 * (c6 + 256 * (c7 + 256 * 0)))))))) / 256) / 65536) / 4294967296 < 2 ^ 64) ∧ ((c0 + 256 * (c1 + 256 * (c2 + 256 * (c3 + 256 * (c4 + 256 * (c5 + 256 * (c6 + 256 * (c7 + 256 * 0)))))))) + (c0 + 256 * (c1 + 256 * (c2 + 256 * (c3 + 256 * (c4 + 256 * (c5 + 256 * (c6 + 256 * (c7 + 256 * 0)))))))) / 256 + ((c0 + 256 * (c1 + 256 * (c2 + 256 * (c3 + 256 * (c4 + 256 * (c5 + 256 * (c6 + 256 * (c7 + 256 * 0)))))))) + (c0 + 256 * (c1 + 256 * (c2 + 256 * (c3 + 256 * (c4 + 256 * (c5 + 256 * (c6 + 256 * (c7 + 256 * 0)))))))) / 256) / 65536 < 2 ^ 64) ∧ ((c0 + 256 * (c1 + 256 * (c2 + 256 * (c3 + 256 * (c4 + 256 * (c5 + 256 * (c6 + 256 * (c7 + 256 * 0)))))))) + (c0 + 256 * (c1 + 256 * (c2 + 256 * (c3 + 256 * (c4 + 256 * (c5 + 256 * (c6 + 256 * (c7 + 256 * 0)))))))) / 256 < 2 ^ 64) ∧ ((c0 + 256 * (c1 + 256 * (c2 + 256 * (c3 + 256 * (c4 + 256 * (c5 + 256 * (c6 + 256 * (c7 + 256 * 0)))))))) + (c0 + 256 * (c1 + 256 * (c2 + 256 * (c3 + 256 * (c4 + 256 * (c5 + 256 * (c6 + 256 * (c7 + 256 * 0)))))))) / 256 + ((c0 + 256 * (c1 + 256 * (c2 + 256 * (c3 + 256 * (c4 + 256 * (c5 + 256 * (c6 + 256 * (c7 + 256 * 0)))))))) + (c0 + 256 * (c1 + 256 * (c2 + 256 * (c3 + 256 * (c4 + 256 * (c5 + 256 * (c6 + 256 * (c7 + 256 * 0)))))))) / 256) / 65536 + ((c0 + 256 * (c1 + 256 * (c2 + 256 * (c3 + 256 * (c4 + 256 * (c5 + 256 * (c6 + 256 * (c7 + 256 * 0)))))))) + (c0 + 256 * (c1 + 256 * (c2 + 256 * (c3 + 256 * (c4 + 256 * (c5 + 256 * (c6 + 256 * (c7 + 256 * 0)))))))) / 256 + ((c0 + 256 * (c1 + 256 * (c2 + 256 * (c3 + 256 * (c4 + 256 * (c5 + 256 * (c6 + 256 * (c7 + 256 * 0)))))))) + (c0 + 256 * (c1 + 256 * (c2 + 256 * (c3 + 256 * (c4 + 256 * (c5 + 256 * (c6 + 256 * (c7 + 256 * 0)))))))) / 256) / 65536) / 4294967296) % 128 = c0 + c1 + c2 + c3 + c4 + c5 + c6 + c7 := by
  have e4 : (c0 + 256 * (c1 + 256 * (c2 + 256 * (c3 + 256 * (c4 + 256 * (c5 + 256 * (c6 + 256 * (c7 + 256 * 0)))))))) / 256 = c1 + 256 * (c2 + 256 * (c3 + 256 * (c4 + 256 * (c5 + 256 * (c6 + 256 * (c7)))))) := dv c0 (c1 + 256 * (c2 + 256 * (c3 + 256 * (c4 + 256 * (c5 + 256 * (c6 + 256 * (c7))))))) 256 (by decide) (by omega)
  rw [e4]
  have f4 : (c0 + 256 * (c1 + 256 * (c2 + 256 * (c3 + 256 * (c4 + 256 * (c5 + 256 * (c6 + 256 * (c7 + 256 * 0)))))))) + (c1 + 256 * (c2 + 256 * (c3 + 256 * (c4 + 256 * (c5 + 256 * (c6 + 256 * (c7))))))) = (c0 + c1 + 256 * (c1 + c2)) + 65536 * ((c2 + c3) + 256 * ((c3 + c4) + 256 * ((c4 + c5) + 256 * ((c5 + c6) + 256 * ((c6 + c7) + 256 * (c7)))))) := by omega
  rw [f4, dv _ ((c2 + c3) + 256 * ((c3 + c4) + 256 * ((c4 + c5) + 256 * ((c5 + c6) + 256 * ((c6 + c7) + 256 * (c7)))))) 65536 (by decide) (by omega)]
  have f5 : (c0 + c1 + 256 * (c1 + c2)) + 65536 * ((c2 + c3) + 256 * ((c3 + c4) + 256 * ((c4 + c5) + 256 * ((c5 + c6) + 256 * ((c6 + c7) + 256 * (c7)))))) + ((c2 + c3) + 256 * ((c3 + c4) + 256 * ((c4 + c5) + 256 * ((c5 + c6) + 256 * ((c6 + c7) + 256 * (c7)))))) = ((c0 + c1 + c2 + c3) + 256 * ((c1 + c2 + c3 + c4) + 256 * ((c2 + c3 + c4 + c5) + 256 * ((c3 + c4 + c5 + c6))))) + 4294967296 * ((c4 + c5 + c6 + c7) + 256 * ((c5 + c6 + c7) + 256 * ((c6 + c7) + 256 * ((c7))))) := by omega
  rw [f5, dv _ ((c4 + c5 + c6 + c7) + 256 * ((c5 + c6 + c7) + 256 * ((c6 + c7) + 256 * ((c7))))) 4294967296 (by decide) (by omega)]
  refine ⟨by omega, by omega, by omega, ?_⟩
  have f6 : ((c0 + c1 + c2 + c3) + 256 * ((c1 + c2 + c3 + c4) + 256 * ((c2 + c3 + c4 + c5) + 256 * ((c3 + c4 + c5 + c6))))) + 4294967296 * ((c4 + c5 + c6 + c7) + 256 * ((c5 + c6 + c7) + 256 * ((c6 + c7) + 256 * ((c7))))) + ((c4 + c5 + c6 + c7) + 256 * ((c5 + c6 + c7) + 256 * ((c6 + c7) + 256 * ((c7))))) = (c0 + c1 + c2 + c3 + c4 + c5 + c6 + c7) + 128 * (2 * ((c1 + c2 + c3 + c4) + 256 * ((c2 + c3 + c4 + c5) + 256 * ((c3 + c4 + c5 + c6)))) + 33554432 * ((c4 + c5 + c6 + c7) + 256 * ((c5 + c6 + c7) + 256 * ((c6 + c7) + 256 * ((c7))))) + 2 * ((c5 + c6 + c7) + 256 * ((c6 + c7) + 256 * ((c7))))) := by omega
  rw [f6, Nat.add_mul_mod_self_left, Nat.mod_eq_of_lt (by omega)]
theorem w6_eq {X : Nat} (h : X < 256 ^ 8) : ∃ y4 y5 y6, y4 = w3 X + w3 X / 256 ∧ y5 = y4 + y4 / 65536 ∧ y6 = y5 + y5 / 4294967296 ∧ y6 < 2 ^ 64 ∧ y5 < 2 ^ 64 ∧ y4 < 2 ^ 64 ∧ y6 % 128 = bsum X := by
  refine ⟨_, _, _, rfl, rfl, rfl, ?_⟩
  rw [w3_eq h]
  have p : ∀ y, pc8 (y % 256) ≤ 8 := fun y => (pb_fact ⟨y % 256, Nat.mod_lt _ (by decide)⟩).2.2.2.2.1
  simp only [mp, bsum]
  have q0 := p X
  have q1 := p (X / 256)
  have q2 := p (X / 256 / 256)
  have q3 := p (X / 256 / 256 / 256)
  have q4 := p (X / 256 / 256 / 256 / 256)
  have q5 := p (X / 256 / 256 / 256 / 256 / 256)
  have q6 := p (X / 256 / 256 / 256 / 256 / 256 / 256)
  have q7 := p (X / 256 / 256 / 256 / 256 / 256 / 256 / 256)
  generalize pc8 (X / 256 / 256 / 256 / 256 / 256 / 256 / 256 % 256) = c7 at *
  generalize pc8 (X / 256 / 256 / 256 / 256 / 256 / 256 % 256) = c6 at *
  generalize pc8 (X / 256 / 256 / 256 / 256 / 256 % 256) = c5 at *
  generalize pc8 (X / 256 / 256 / 256 / 256 % 256) = c4 at *
  generalize pc8 (X / 256 / 256 / 256 % 256) = c3 at *
  generalize pc8 (X / 256 / 256 % 256) = c2 at *
  generalize pc8 (X / 256 % 256) = c1 at *
  generalize pc8 (X % 256) = c0 at *
  exact w6_sum c0 c1 c2 c3 c4 c5 c6 c7 q0 q1 q2 q3 q4 q5 q6 q7
end OwnBits

section OwnBits2
theorem sh1 (x : Int64) : ((x.toUInt64 >>> ((1 : Int32) &&& 0x3f).toInt64.toUInt64).toInt64).toBitVec.toNat = x.toBitVec.toNat / 2 := by
  show (x.toBitVec >>> (((1 : Int32) &&& 0x3f).toInt64.toBitVec % 64)).toNat = _
  rw [show (((1 : Int32) &&& 0x3f).toInt64.toBitVec % 64) = 1#64 from by decide, BitVec.ushiftRight_eq', BitVec.toNat_ushiftRight, Nat.shiftRight_eq_div_pow]; rfl
theorem sh2 (x : Int64) : ((x.toUInt64 >>> ((2 : Int32) &&& 0x3f).toInt64.toUInt64).toInt64).toBitVec.toNat = x.toBitVec.toNat / 4 := by
  show (x.toBitVec >>> (((2 : Int32) &&& 0x3f).toInt64.toBitVec % 64)).toNat = _
  rw [show (((2 : Int32) &&& 0x3f).toInt64.toBitVec % 64) = 2#64 from by decide, BitVec.ushiftRight_eq', BitVec.toNat_ushiftRight, Nat.shiftRight_eq_div_pow]; rfl
theorem sh4 (x : Int64) : ((x.toUInt64 >>> ((4 : Int32) &&& 0x3f).toInt64.toUInt64).toInt64).toBitVec.toNat = x.toBitVec.toNat / 16 := by
  show (x.toBitVec >>> (((4 : Int32) &&& 0x3f).toInt64.toBitVec % 64)).toNat = _
  rw [show (((4 : Int32) &&& 0x3f).toInt64.toBitVec % 64) = 4#64 from by decide, BitVec.ushiftRight_eq', BitVec.toNat_ushiftRight, Nat.shiftRight_eq_div_pow]; rfl
theorem sh8 (x : Int64) : ((x.toUInt64 >>> ((8 : Int32) &&& 0x3f).toInt64.toUInt64).toInt64).toBitVec.toNat = x.toBitVec.toNat / 256 := by
  show (x.toBitVec >>> (((8 : Int32) &&& 0x3f).toInt64.toBitVec % 64)).toNat = _
  rw [show (((8 : Int32) &&& 0x3f).toInt64.toBitVec % 64) = 8#64 from by decide, BitVec.ushiftRight_eq', BitVec.toNat_ushiftRight, Nat.shiftRight_eq_div_pow]; rfl
theorem sh16 (x : Int64) : ((x.toUInt64 >>> ((16 : Int32) &&& 0x3f).toInt64.toUInt64).toInt64).toBitVec.toNat = x.toBitVec.toNat / 65536 := by
  show (x.toBitVec >>> (((16 : Int32) &&& 0x3f).toInt64.toBitVec % 64)).toNat = _
  rw [show (((16 : Int32) &&& 0x3f).toInt64.toBitVec % 64) = 16#64 from by decide, BitVec.ushiftRight_eq', BitVec.toNat_ushiftRight, Nat.shiftRight_eq_div_pow]; rfl
theorem sh32b (x : Int64) : ((x.toUInt64 >>> ((32 : Int32) &&& 0x3f).toInt64.toUInt64).toInt64).toBitVec = x.toBitVec >>> 32 := by
  show (x.toBitVec >>> (((32 : Int32) &&& 0x3f).toInt64.toBitVec % 64)) = _
  rw [show (((32 : Int32) &&& 0x3f).toInt64.toBitVec % 64) = 32#64 from by decide, BitVec.ushiftRight_eq']; rfl
theorem sh32 (x : Int64) : ((x.toUInt64 >>> ((32 : Int32) &&& 0x3f).toInt64.toUInt64).toInt64).toBitVec.toNat = x.toBitVec.toNat / 4294967296 := by
  rw [sh32b, BitVec.toNat_ushiftRight, Nat.shiftRight_eq_div_pow]
theorem nadd {a b : Int64} {A B : Nat} (ha : a.toBitVec.toNat = A) (hb : b.toBitVec.toNat = B) (h : A + B < 2 ^ 64) : (a + b).toBitVec.toNat = A + B := by
  rw [Int64.toBitVec_add, BitVec.toNat_add, ha, hb, Nat.mod_eq_of_lt h]
theorem nand {a b : Int64} {A B : Nat} (ha : a.toBitVec.toNat = A) (hb : b.toBitVec.toNat = B) : (a &&& b).toBitVec.toNat = A &&& B := by
  rw [Int64.toBitVec_and, BitVec.toNat_and, ha, hb]
theorem nsub {a b : Int64} {A B : Nat} (ha : a.toBitVec.toNat = A) (hb : b.toBitVec.toNat = B) (h : B ≤ A) : (a - b).toBitVec.toNat = A - B := by
  rw [Int64.toBitVec_sub, BitVec.toNat_sub_of_le (by rw [BitVec.le_def, ha, hb]; exact h), ha, hb]
theorem mp_le (f : Nat → Nat) (hf : ∀ B, B < 256 → f B ≤ 127) : ∀ k x, mp f k x ≤ 127 * rp 1 k
  | 0, x => by simp [mp, rp]
  | k + 1, x => by
    have h3 := hf (x % 256) (Nat.mod_lt _ (by decide))
    have h4 := mp_le f hf k (x / 256)
    show f (x % 256) + 256 * mp f k (x / 256) ≤ 127 * (1 + 256 * rp 1 k)
    omega
theorem and127 (u : Int64) : (u.toInt32 &&& (127 : Int32)) = Int32.ofNat (u.toBitVec.toNat % 128) := by
  apply Int32.toBitVec_inj.mp
  show (u.toBitVec.signExtend 32) &&& 127#32 = BitVec.ofNat 32 (u.toBitVec.toNat % 128)
  apply BitVec.eq_of_getLsbD_eq
  intro i hi
  have a1 : i < 64 := by omega
  have e : (127#32).getLsbD i = decide (i < 7) := by
    have : ∀ z : Fin 32, (127#32).getLsbD z.val = decide (z.val < 7) := by decide +kernel
    exact this ⟨i, hi⟩
  rw [BitVec.getLsbD_and, e, BitVec.getLsbD_signExtend, BitVec.getLsbD_ofNat, show (128 : Nat) = 2 ^ 7 from rfl, Nat.testBit_mod_two_pow]
  simp [hi, a1, BitVec.testBit_toNat, Bool.and_comm]
theorem bcF_nat (x : Int64) : bcF x = Int32.ofNat (bsum x.toBitVec.toNat) := by
  have hX : x.toBitVec.toNat < 256 ^ 8 := x.toBitVec.isLt
  obtain ⟨u1, h1⟩ : ∃ u, u = (x - (((x.toUInt64 >>> ((1 : Int32) &&& 0x3f).toInt64.toUInt64).toInt64) &&& (6148914691236517205 : Int64))) := ⟨_, rfl⟩
  obtain ⟨u2, h2⟩ : ∃ u, u = ((u1 &&& (3689348814741910323 : Int64)) + (((u1.toUInt64 >>> ((2 : Int32) &&& 0x3f).toInt64.toUInt64).toInt64) &&& (3689348814741910323 : Int64))) := ⟨_, rfl⟩
  obtain ⟨u3, h3⟩ : ∃ u, u = ((u2 + ((u2.toUInt64 >>> ((4 : Int32) &&& 0x3f).toInt64.toUInt64).toInt64)) &&& (1085102592571150095 : Int64)) := ⟨_, rfl⟩
  obtain ⟨u4, h4⟩ : ∃ u, u = (u3 + ((u3.toUInt64 >>> ((8 : Int32) &&& 0x3f).toInt64.toUInt64).toInt64)) := ⟨_, rfl⟩
  obtain ⟨u5, h5⟩ : ∃ u, u = (u4 + ((u4.toUInt64 >>> ((16 : Int32) &&& 0x3f).toInt64.toUInt64).toInt64)) := ⟨_, rfl⟩
  obtain ⟨u6, h6⟩ : ∃ u, u = (u5 + ((u5.toUInt64 >>> ((32 : Int32) &&& 0x3f).toInt64.toUInt64).toInt64)) := ⟨_, rfl⟩
  have hb : bcF x = (u6.toInt32 &&& (127 : Int32)) := by subst h1 h2 h3 h4 h5 h6; rfl
  obtain ⟨y4, y5, y6, e4, e5, e6, b6, b5, b4, es⟩ := w6_eq hX
  have n1 : u1.toBitVec.toNat = w1 x.toBitVec.toNat := by
    rw [h1]; exact nsub rfl (nand (sh1 x) rfl) (w1_eq hX).2
  have c1 : w2 x.toBitVec.toNat ≤ 127 * rp 1 8 := by rw [w2_eq hX]; exact mp_le _ (fun B hB => Nat.le_of_lt_succ (pb_fact ⟨B, hB⟩).2.2.2.2.2) 8 _
  have c2 : rp 1 8 = 72340172838076673 := by decide
  rw [c2] at c1
  have n2 : u2.toBitVec.toNat = w2 x.toBitVec.toNat := by
    rw [h2]; exact nadd (nand n1 rfl) (nand ((sh2 u1).trans (by rw [n1])) rfl) (show w2 x.toBitVec.toNat < 2 ^ 64 by omega)
  have n3 : u3.toBitVec.toNat = w3 x.toBitVec.toNat := by
    rw [h3]; exact nand (nadd n2 ((sh4 u2).trans (by rw [n2])) (by omega)) rfl
  have n4 : u4.toBitVec.toNat = y4 := by rw [h4, e4]; exact nadd n3 ((sh8 u3).trans (by rw [n3])) (by rw [← e4]; exact b4)
  have n5 : u5.toBitVec.toNat = y5 := by rw [h5, e5]; exact nadd n4 ((sh16 u4).trans (by rw [n4])) (by rw [← e5]; exact b5)
  have n6 : u6.toBitVec.toNat = y6 := by rw [h6, e6]; exact nadd n5 ((sh32 u5).trans (by rw [n5])) (by rw [← e6]; exact b6)
  rw [hb, and127, n6, es]
theorem tb8 (Y j : Nat) : (Y / 256).testBit j = Y.testBit (8 + j) := by
  rw [show (256 : Nat) = 2 ^ 8 from rfl, Nat.testBit_div_two_pow, Nat.add_comm]
theorem pcY (Y : Nat) : pc8 (Y % 256) = (Y.testBit 0).toNat + (Y.testBit 1).toNat + (Y.testBit 2).toNat + (Y.testBit 3).toNat + (Y.testBit 4).toNat + (Y.testBit 5).toNat + (Y.testBit 6).toNat + (Y.testBit 7).toNat := by
  have q : ∀ j, j < 8 → (Y % 256).testBit j = Y.testBit j := fun j hj => by rw [show (256 : Nat) = 2 ^ 8 from rfl, Nat.testBit_mod_two_pow]; simp [hj]
  have := pc8_eq ⟨Y % 256, Nat.mod_lt _ (by decide)⟩
  simp only [q 0 (by decide), q 1 (by decide), q 2 (by decide), q 3 (by decide), q 4 (by decide), q 5 (by decide), q 6 (by decide), q 7 (by decide)] at this
  exact this
theorem ite_nat (b : Bool) : (if b = true then 1 else 0) = b.toNat := by cases b <;> rfl
theorem bits_count (X : Nat) (l : List Nat) (hn : l.Nodup) (hl : ∀ t ∈ l, t < 64) (hb : ∀ j, j < 64 → X.testBit j = decide (j ∈ l)) : bsum X = l.length := by
  have p : ((List.range 64).filter (fun j => X.testBit j)).Perm l := (List.perm_ext_iff_of_nodup (List.nodup_range.filter _) hn).mpr (fun a => by
    rw [List.mem_filter, List.mem_range]
    constructor
    · rintro ⟨h1, h2⟩; rw [hb a h1] at h2; exact of_decide_eq_true h2
    · intro h; exact ⟨hl a h, by rw [hb a (hl a h)]; exact decide_eq_true h⟩)
  rw [← p.length_eq, ← List.countP_eq_length_filter]
  rw [show List.range 64 = [0, 1, 2, 3, 4, 5, 6, 7, 8, 9, 10, 11, 12, 13, 14, 15, 16, 17, 18, 19, 20, 21, 22, 23, 24, 25, 26, 27, 28, 29, 30, 31, 32, 33, 34, 35, 36, 37, 38, 39, 40, 41, 42, 43, 44, 45, 46, 47, 48, 49, 50, 51, 52, 53, 54, 55, 56, 57, 58, 59, 60, 61, 62, 63] from rfl]
  simp only [List.countP_cons, List.countP_nil, ite_nat, bsum, pcY, tb8, Nat.reduceAdd]
  omega
theorem lowsub (X t : Nat) (h1 : X.testBit t = true) (h2 : ∀ j, j < t → X.testBit j = false) (j : Nat) : (X - 1).testBit j = if j < t then true else if j = t then false else X.testBit j := by
  have hp : 0 < 2 ^ t := Nat.two_pow_pos t
  have hm : X % 2 ^ (t + 1) = 2 ^ t := by
    apply Nat.eq_of_testBit_eq; intro i
    rw [Nat.testBit_mod_two_pow, Nat.testBit_two_pow]
    by_cases c1 : i < t
    · rw [h2 i c1]; simp; omega
    · by_cases c2 : i = t
      · subst c2; simp [h1]
      · have : ¬ (i < t + 1) := by omega
        simp [this]; omega
  have hX : X = 2 ^ (t + 1) * (X / 2 ^ (t + 1)) + 2 ^ t := by
    have := Nat.div_add_mod X (2 ^ (t + 1)); rw [hm] at this; exact this.symm
  have hlt : 2 ^ t < 2 ^ (t + 1) := by rw [Nat.pow_succ]; omega
  have hX1 : X - 1 = 2 ^ (t + 1) * (X / 2 ^ (t + 1)) + (2 ^ t - 1) := by omega
  rw [hX1, Nat.testBit_two_pow_mul_add _ (by omega)]
  by_cases c1 : j < t
  · rw [if_pos (by omega), if_pos c1, Nat.testBit_two_pow_sub_one]; simp [c1]
  · by_cases c2 : j = t
    · rw [if_pos (by omega), if_neg c1, if_pos c2, Nat.testBit_two_pow_sub_one]; simp [c1]
    · rw [if_neg (by omega), if_neg c1, if_neg c2, Nat.testBit_div_two_pow]; congr 1; omega
theorem low64 (x : Int64) (t : Nat) (h1 : x.toBitVec.getLsbD t = true) (h2 : ∀ j, j < t → x.toBitVec.getLsbD j = false) (j : Nat) : (x - (1 : Int64)).toBitVec.getLsbD j = if j < t then true else if j = t then false else x.toBitVec.getLsbD j := by
  have hX : 1 ≤ x.toBitVec.toNat := by
    rcases Nat.eq_zero_or_pos x.toBitVec.toNat with q | q
    · rw [BitVec.getLsbD, q] at h1; simp at h1
    · exact q
  have e : (x - (1 : Int64)).toBitVec.toNat = x.toBitVec.toNat - 1 := nsub rfl rfl hX
  rw [BitVec.getLsbD, e]; exact lowsub _ t h1 h2 j
theorem low32 (x : Int32) (t : Nat) (h1 : x.toBitVec.getLsbD t = true) (h2 : ∀ j, j < t → x.toBitVec.getLsbD j = false) (j : Nat) : (x - (1 : Int32)).toBitVec.getLsbD j = if j < t then true else if j = t then false else x.toBitVec.getLsbD j := by
  have hX : 1 ≤ x.toBitVec.toNat := by
    rcases Nat.eq_zero_or_pos x.toBitVec.toNat with q | q
    · rw [BitVec.getLsbD, q] at h1; simp at h1
    · exact q
  have e : (x - (1 : Int32)).toBitVec.toNat = x.toBitVec.toNat - 1 := by
    rw [Int32.toBitVec_sub, BitVec.toNat_sub_of_le (by rw [BitVec.le_def]; exact hX)]; rfl
  rw [BitVec.getLsbD, e]; exact lowsub _ t h1 h2 j
theorem Abits (i : Int32) (t : Nat) (h1 : i.toBitVec.getLsbD t = true) (h2 : ∀ j, j < t → i.toBitVec.getLsbD j = false) (j : Nat) (hj : j < 32) : ((i ^^^ (-1 : Int32)) &&& (i - (1 : Int32))).toBitVec.getLsbD j = decide (j < t) := by
  rw [Int32.toBitVec_and, BitVec.getLsbD_and, Int32.toBitVec_xor, BitVec.getLsbD_xor, low32 i t h1 h2 j]
  have : ∀ z : Fin 32, (-1 : Int32).toBitVec.getLsbD z.val = true := by decide +kernel
  rw [this ⟨j, hj⟩]
  by_cases c1 : j < t
  · rw [h2 j c1]; simp [c1]
  · by_cases c2 : j = t
    · subst c2; simp
    · rw [if_neg c1, if_neg c2]; simp [c1]
theorem ntI_low (i : Int32) (t : Nat) (ht : t < 32) (h1 : i.toBitVec.getLsbD t = true) (h2 : ∀ j, j < t → i.toBitVec.getLsbD j = false) : ntI i = Int32.ofNat t := by
  have k1 : ∀ a b : Fin 32, (Int32.ofNat (2 ^ a.val)).toBitVec.getLsbD b.val = decide (b.val = a.val) := by decide +kernel
  have k2 : ∀ a : Fin 32, ntI (Int32.ofNat (2 ^ a.val)) = Int32.ofNat a.val := by decide +kernel
  have e : ((i ^^^ (-1 : Int32)) &&& (i - (1 : Int32))) = ((Int32.ofNat (2 ^ t) ^^^ (-1 : Int32)) &&& (Int32.ofNat (2 ^ t) - (1 : Int32))) := by
    apply Int32.toBitVec_inj.mp
    apply BitVec.eq_of_getLsbD_eq
    intro j hj
    rw [Abits i t h1 h2 j hj, Abits _ t (by rw [k1 ⟨t, ht⟩ ⟨t, ht⟩]; simp) (fun z hz => by rw [k1 ⟨t, ht⟩ ⟨z, by omega⟩]; simp; omega) j hj]
  rw [← k2 ⟨t, ht⟩]
  show ntI i = ntI (Int32.ofNat (2 ^ t))
  unfold ntI
  simp only [e]
theorem lo_bit (e : Int64) (i : Nat) (hi : i < 32) : (e.toInt32).toBitVec.getLsbD i = e.toBitVec.getLsbD i := by
  show (e.toBitVec.signExtend 32).getLsbD i = _
  simp only [BitVec.getLsbD_signExtend]
  have a1 : i < 64 := by omega
  simp [hi, a1]
theorem hi_bit (e : Int64) (i : Nat) (hi : i < 32) : (((e.toUInt64 >>> ((32 : Int32) &&& 0x3f).toInt64.toUInt64).toInt64).toInt32).toBitVec.getLsbD i = e.toBitVec.getLsbD (32 + i) := by
  rw [lo_bit _ i hi, sh32b, BitVec.getLsbD_ushiftRight]
theorem ntL_low (x : Int64) (t : Nat) (ht : t < 64) (h1 : x.toBitVec.getLsbD t = true) (h2 : ∀ j, j < t → x.toBitVec.getLsbD j = false) : ntL x = Int32.ofNat t := by
  unfold ntL
  by_cases c : t < 32
  · rw [if_neg (fun q => by have := lo_bit x t c; rw [q, h1] at this; simp at this)]
    exact ntI_low _ t c (by rw [lo_bit x t c]; exact h1) (fun j hj => by rw [lo_bit x j (by omega)]; exact h2 j hj)
  · have z : x.toInt32 = 0 := by
      apply Int32.toBitVec_inj.mp
      apply BitVec.eq_of_getLsbD_eq
      intro j hj
      rw [lo_bit x j hj, h2 j (by omega)]; simp
    rw [if_pos z, ntI_low _ (t - 32) (by omega) (by rw [hi_bit _ _ (by omega), show 32 + (t - 32) = t by omega]; exact h1) (fun j hj => by rw [hi_bit _ _ (by omega)]; exact h2 _ (by omega))]
    show Int32.ofNat 32 + Int32.ofNat (t - 32) = _
    rw [← Int32.ofNat_add, show 32 + (t - 32) = t by omega]
def Bits (x : Int64) (l : List Nat) : Prop := ∀ j, j < 64 → x.toBitVec.getLsbD j = decide (j ∈ l)
theorem least : ∀ (l : List Nat), l ≠ [] → ∃ t ∈ l, ∀ s ∈ l, t ≤ s
  | [], h => absurd rfl h
  | [a], _ => ⟨a, List.mem_singleton.mpr rfl, fun s hs => by rw [List.mem_singleton.mp hs]; exact Nat.le_refl _⟩
  | a :: b :: l, _ => by
    obtain ⟨t, h1, h2⟩ := least (b :: l) (by simp)
    by_cases c : a ≤ t
    · exact ⟨a, List.mem_cons_self, fun s hs => by rcases List.mem_cons.mp hs with rfl | q; exact Nat.le_refl _; exact Nat.le_trans c (h2 s q)⟩
    · exact ⟨t, List.mem_cons_of_mem _ h1, fun s hs => by rcases List.mem_cons.mp hs with rfl | q; omega; exact h2 s q⟩
theorem low_ex : ∀ (n : Nat) (l : List Nat) (x : Int64), l.length = n → l.Nodup → (∀ t ∈ l, t < 64) → Bits x l → ∃ cs : List Nat, cs.Perm l ∧ Low x (cs.map Int32.ofNat)
  | 0, l, x, hl, _, _, hb => by
    have : l = [] := List.length_eq_zero_iff.mp hl
    subst this
    refine ⟨[], List.Perm.refl _, ?_⟩
    show x = 0
    apply Int64.toBitVec_inj.mp
    apply BitVec.eq_of_getLsbD_eq
    intro j hj
    rw [hb j hj]; simp
  | n + 1, l, x, hl, hn, h64, hb => by
    obtain ⟨t, h1, h2⟩ := least l (fun q => by rw [q] at hl; cases hl)
    have ht := h64 t h1
    have b1 : x.toBitVec.getLsbD t = true := by rw [hb t ht]; exact decide_eq_true h1
    have b2 : ∀ j, j < t → x.toBitVec.getLsbD j = false := fun j hj => by
      rw [hb j (by omega)]; apply decide_eq_false; intro q; have := h2 j q; omega
    obtain ⟨cs, p, L⟩ := low_ex n (l.erase t) (x &&& (x - (1 : Int64))) (by rw [List.length_erase_of_mem h1, hl]; rfl) (hn.erase _) (fun s hs => h64 s (List.mem_of_mem_erase hs)) (fun j hj => by
      rw [Int64.toBitVec_and, BitVec.getLsbD_and, low64 x t b1 b2 j]
      by_cases c1 : j < t
      · rw [b2 j c1]; symm; simp only [Bool.false_and]; apply decide_eq_false; intro q; have := h2 j (List.mem_of_mem_erase q); omega
      · by_cases c2 : j = t
        · subst c2; rw [if_neg c1, if_pos rfl]; symm; simp only [Bool.and_false]; apply decide_eq_false; intro q; exact ((hn.mem_erase_iff).mp q).1 rfl
        · rw [if_neg c1, if_neg c2, Bool.and_self, hb j hj]
          apply decide_eq_decide.mpr
          rw [hn.mem_erase_iff]; exact ⟨fun q => ⟨c2, q⟩, fun q => q.2⟩)
    refine ⟨t :: cs, (List.Perm.cons t p).trans (List.perm_cons_erase h1).symm, ?_⟩
    show ¬ x = 0 ∧ ntL x = Int32.ofNat t ∧ Low (x &&& (x - (1 : Int64))) (cs.map Int32.ofNat)
    refine ⟨fun q => ?_, ntL_low x t ht b1 b2, L⟩
    rw [q] at b1; simp at b1
end OwnBits2

section OwnLaw
theorem and_low (y : Int32) (k : Nat) (hk : k < 32) (mk : Int32) (hm : mk.toBitVec.toNat = 2 ^ k - 1) : (y &&& mk) = Int32.ofNat (y.toBitVec.toNat % 2 ^ k) := by
  apply Int32.toBitVec_inj.mp
  apply BitVec.eq_of_toNat_eq
  have h1 : y.toBitVec.toNat % 2 ^ k < 2 ^ 32 := Nat.lt_of_le_of_lt (Nat.mod_le _ _) y.toBitVec.isLt
  rw [Int32.toBitVec_and, BitVec.toNat_and, hm, Nat.and_two_pow_sub_one_eq_mod]
  show _ = (BitVec.ofNat 32 (y.toBitVec.toNat % 2 ^ k)).toNat
  rw [BitVec.toNat_ofNat, Nat.mod_eq_of_lt h1]
theorem m63 (y : Int32) : ∃ t, t < 64 ∧ (y &&& (63 : Int32)) = Int32.ofNat t := ⟨_, Nat.mod_lt _ (by decide), and_low y 6 (by decide) 63 rfl⟩
theorem m15 (y : Int32) : ∃ t, t < 16 ∧ (y &&& (15 : Int32)) = Int32.ofNat t := ⟨_, Nat.mod_lt _ (by decide), and_low y 4 (by decide) 15 rfl⟩
theorem m16 (y : Int32) : ∃ t, t < 65536 ∧ (y &&& (65535 : Int32)) = Int32.ofNat t := ⟨_, Nat.mod_lt _ (by decide), and_low y 16 (by decide) 65535 rfl⟩
theorem q_and {a b : Nat} (h : a + b < 1000) : (Int32.ofNat a + Int32.ofNat b) &&& (63 : Int32) = Int32.ofNat ((a + b) % 64) := by
  rw [← Int32.ofNat_add, and_low _ 6 (by decide) 63 rfl]
  have : (Int32.ofNat (a + b)).toBitVec.toNat = a + b := by
    show (BitVec.ofNat 32 (a + b)).toNat = _
    rw [BitVec.toNat_ofNat, Nat.mod_eq_of_lt (by omega)]
  rw [this]
theorem o_add {a m : Nat} {y : Int32} (e : y = Int32.ofNat m) : (Int32.ofNat a + (1 : Int32)) + y = Int32.ofNat (a + 1 + m) := by
  rw [e, Int32.ofNat_add (a + 1) m, Int32.ofNat_add a 1]; rfl
theorem of_sub {N a : Nat} (h : a ≤ N) : Int32.ofNat N - Int32.ofNat a = Int32.ofNat (N - a) := by
  have : Int32.ofNat N = Int32.ofNat (N - a) + Int32.ofNat a := by rw [← Int32.ofNat_add, show N - a + a = N by omega]
  rw [this]; exact Int32.add_sub_cancel _ _
theorem nz32 {n : Nat} (h : n < 1000) : Int32.ofNat (n + 1) ≠ 0 := fun q => by
  have := (of0_iff (x := n + 1) (by omega)).mp q; omega
theorem rem_ex {k : Int32} (hk : 0 ≤ k.toInt) {n : Nat} (h0 : 0 < n) (hn : n < 1000) : ∃ a, a < n ∧ k % Int32.ofNat n = Int32.ofNat a := by
  obtain ⟨h1, h2⟩ := i32_small (i32_rem k n hk h0 (by omega)) (by omega)
  exact ⟨_, h1, h2⟩
theorem nn_of {t : Nat} (h : t < 2147483648) : 0 ≤ (Int32.ofNat t).toInt := by rw [Int32.toInt_ofNat_of_lt h]; omega
theorem nn_bv {x : Int32} (h : x.toBitVec.toNat < 2 ^ 31) : 0 ≤ x.toInt := by
  show 0 ≤ x.toBitVec.toInt
  rw [BitVec.toInt_eq_toNat_of_lt (by omega)]; omega
theorem ush12 (x : Int32) : 0 ≤ ((x.toUInt32 >>> ((12 : Int32) &&& 31).toUInt32).toInt32).toInt := by
  apply nn_bv
  show (x.toBitVec >>> (((12 : Int32) &&& 31).toBitVec % 32)).toNat < _
  rw [show (((12 : Int32) &&& 31).toBitVec % 32) = 12#32 from by decide, BitVec.ushiftRight_eq', BitVec.toNat_ushiftRight, Nat.shiftRight_eq_div_pow]
  have := x.toBitVec.isLt
  show x.toBitVec.toNat / 2 ^ 12 < _
  omega
theorem ush16 (x : Int32) : 0 ≤ ((x.toUInt32 >>> ((16 : Int32) &&& 31).toUInt32).toInt32).toInt := by
  apply nn_bv
  show (x.toBitVec >>> (((16 : Int32) &&& 31).toBitVec % 32)).toNat < _
  rw [show (((16 : Int32) &&& 31).toBitVec % 32) = 16#32 from by decide, BitVec.ushiftRight_eq', BitVec.toNat_ushiftRight, Nat.shiftRight_eq_div_pow]
  have := x.toBitVec.isLt
  show x.toBitVec.toNat / 2 ^ 16 < _
  omega
def bt (t : Nat) : Int64 := ((1 : Int64) <<< (Int32.ofNat t &&& 0x3f).toInt64)
theorem bt_bits {t : Nat} (h : t < 64) (j : Nat) (hj : j < 64) : (bt t).toBitVec.getLsbD j = decide (j = t) := by
  have : ∀ a b : Fin 64, (bt a.val).toBitVec.getLsbD b.val = decide (b.val = a.val) := by decide +kernel
  exact this ⟨t, h⟩ ⟨j, hj⟩
theorem Bits.or {x : Int64} {l : List Nat} {t : Nat} (hb : Bits x l) (h : t < 64) : Bits (x ||| bt t) (l ++ [t]) := fun j hj => by
  rw [Int64.toBitVec_or, BitVec.getLsbD_or, hb j hj, bt_bits h j hj]
  by_cases c1 : j ∈ l <;> by_cases c2 : j = t <;> simp [c1, c2]
theorem Bits.zero : Bits 0 [] := fun j hj => by simp
theorem un_ex {N t0 t1 t2 t3 : Nat} {x1 x2 x3 x4 : Int64} (hN : N ≤ 4) (h0 : t0 < 64) (h1 : t1 < 64) (h2 : t2 < 64) (h3 : t3 < 64) (d : [t0, t1, t2, t3].Nodup)
    (e1 : (if (0 : Int32) < Int32.ofNat N then (0 : Int64) ||| bt t0 else (0 : Int64)) = x1) (e2 : (if (1 : Int32) < Int32.ofNat N then x1 ||| bt t1 else x1) = x2) (e3 : (if (2 : Int32) < Int32.ofNat N then x2 ||| bt t2 else x2) = x3) (e4 : (if (3 : Int32) < Int32.ofNat N then x3 ||| bt t3 else x3) = x4) :
    ∃ cs : List Int32, cs.length = N ∧ bcF x4 = Int32.ofNat cs.length ∧ Low x4 cs ∧ cs.Perm ([Int32.ofNat t0, Int32.ofNat t1, Int32.ofNat t2, Int32.ofNat t3].take N) := by
  have hb : Bits x4 ([t0, t1, t2, t3].take N) := by
    have : N = 0 ∨ N = 1 ∨ N = 2 ∨ N = 3 ∨ N = 4 := by omega
    rcases this with rfl | rfl | rfl | rfl | rfl
    · rw [if_neg (by decide)] at e1 e2 e3 e4; subst e1 e2 e3 e4; exact Bits.zero
    · rw [if_pos (by decide)] at e1; rw [if_neg (by decide)] at e2 e3 e4; subst e1 e2 e3 e4; exact Bits.zero.or h0
    · rw [if_pos (by decide)] at e1 e2; rw [if_neg (by decide)] at e3 e4; subst e1 e2 e3 e4; exact (Bits.zero.or h0).or h1
    · rw [if_pos (by decide)] at e1 e2 e3; rw [if_neg (by decide)] at e4; subst e1 e2 e3 e4; exact ((Bits.zero.or h0).or h1).or h2
    · rw [if_pos (by decide)] at e1 e2 e3 e4; subst e1 e2 e3 e4; exact (((Bits.zero.or h0).or h1).or h2).or h3
  have hnd : ([t0, t1, t2, t3].take N).Nodup := d.sublist (List.take_sublist _ _)
  have h64 : ∀ t ∈ [t0, t1, t2, t3].take N, t < 64 := fun t ht => by
    have := List.mem_of_mem_take ht
    simp only [List.mem_cons, List.not_mem_nil, or_false] at this
    rcases this with rfl | rfl | rfl | rfl <;> assumption
  have hlen : ([t0, t1, t2, t3].take N).length = N := by simp; omega
  obtain ⟨cs, p, L⟩ := low_ex N _ x4 hlen hnd h64 hb
  have hl : cs.length = N := by rw [p.length_eq, hlen]
  refine ⟨cs.map Int32.ofNat, by rw [List.length_map, hl], ?_, L, ?_⟩
  · rw [List.length_map, hl, bcF_nat, bits_count _ _ hnd h64 (fun j hj => hb j hj), hlen]
  · have := p.map Int32.ofNat
    rw [List.map_take] at this; exact this
end OwnLaw

theorem ef_0 (m : MethodId) (x0 : Int64) (x1 : Int64) (x2 : Int64) (x3 : Int32) (x4 : Int32) (x5 : Int32) : entryFrame m #[(.long x0), (.long x1), (.long x2), (.int x3), (.int x4), (.int x5)] maxLocals = mkF m 0 #[.val (.long x0), .second, .val (.long x1), .second, .val (.long x2), .second, .val (.int x3), .val (.int x4), .val (.int x5), .unset, .unset, .unset, .unset, .unset, .unset, .unset, .unset, .unset, .unset, .unset, .unset, .unset, .unset, .unset, .unset] [] := by first | (simp [entryFrame, mkF, argsToLocals, Value.category, maxLocals]; done) | rfl
theorem pd_8 : parseMethodDescriptor "(J[I[J)V" = some ⟨[.long, (.array .int), (.array .long)], none⟩ := by decide +kernel
theorem pd_9 : parseMethodDescriptor "([J[II[II)J" = some ⟨[(.array .long), (.array .int), .int, (.array .int), .int], some .long⟩ := by decide +kernel
theorem pd_10 : parseMethodDescriptor "()J" = some ⟨[], some .long⟩ := by decide +kernel
set_option maxRecDepth 65536 in
set_option maxHeartbeats 40000000 in
theorem rm0 (l : Launch) (Z : State) (a0 : Array Value) (hw : ∀ d ∈ tables_1, d.before a0 Z = true) (e0 : Int64) (e1 : Int64) (e2 : Int64) (bs : Int32) (sh : Int32) (sp : Int32) (h0 : Heap) (n0 : Nat) (Z0 : n0 ≤ h0.size) :
    Con l Z x code maxLocals ret room_1 #[(.long e0), (.long e1), (.long e2), (.int bs), (.int sh), (.int sp)] h0 n0 (fun v h => v = some (.int 1)) := by
  refine Con.of (own := "com/example/widowbid/widowbid/WorldsCountPinLaw") (name := "law") (plainFor_of_name pn_2) (fun m => ef_0 m e0 e1 e2 bs sh sp) rfl rfl ?_
  intro p e s m below meth c T F S cx st
  refine E_iload (pc' := 2) cx st at_0 rfl rfl ?_
  refine E_bipush (pc' := 4) cx st (12 : Int32) at_2 rfl rfl ?_
  refine E_iushr (pc' := 5) cx st at_4 rfl ?_
  refine E_iconst (pc' := 6) cx st (5 : Int32) at_5 rfl rfl ?_
  refine E_irem (pc' := 7) cx st at_6 (by decide) rfl ?_
  obtain ⟨N, hN, eN⟩ := rem_ex (n := 5) (ush12 sh) (by decide) (by decide)
  rw [show (((sh.toUInt32 >>> ((12 : Int32) &&& 31).toUInt32).toInt32) % (5 : Int32)) = (Int32.ofNat N) from eN]
  refine E_istore (pc' := 9) (L' := #[.val (.long e0), .second, .val (.long e1), .second, .val (.long e2), .second, .val (.int bs), .val (.int sh), .val (.int sp), .val (.int (Int32.ofNat N)), .unset, .unset, .unset, .unset, .unset, .unset, .unset, .unset, .unset, .unset, .unset, .unset, .unset, .unset, .unset]) cx st at_7 rfl rfl ?_
  refine E_iload (pc' := 11) cx st at_9 rfl rfl ?_
  refine E_bipush (pc' := 13) cx st (63 : Int32) at_11 rfl rfl ?_
  refine E_iand (pc' := 14) cx st at_13 rfl ?_
  obtain ⟨t0, ht0, et0⟩ := m63 bs
  rw [show (bs &&& (63 : Int32)) = (Int32.ofNat t0) from et0]
  refine E_istore (pc' := 16) (L' := #[.val (.long e0), .second, .val (.long e1), .second, .val (.long e2), .second, .val (.int bs), .val (.int sh), .val (.int sp), .val (.int (Int32.ofNat N)), .val (.int (Int32.ofNat t0)), .unset, .unset, .unset, .unset, .unset, .unset, .unset, .unset, .unset, .unset, .unset, .unset, .unset, .unset]) cx st at_14 rfl rfl ?_
  refine E_iconst (pc' := 17) cx st (1 : Int32) at_16 rfl rfl ?_
  refine E_iload (pc' := 19) cx st at_17 rfl rfl ?_
  refine E_bipush (pc' := 21) cx st (15 : Int32) at_19 rfl rfl ?_
  refine E_iand (pc' := 22) cx st at_21 rfl ?_
  refine E_iadd (pc' := 23) cx st at_22 rfl ?_
  obtain ⟨m1, hm1, em1⟩ := m15 sh
  rw [show ((1 : Int32) + (sh &&& (15 : Int32))) = (Int32.ofNat (1 + m1)) from by rw [em1]; exact (Int32.ofNat_add 1 m1).symm]
  refine E_istore (pc' := 25) (L' := #[.val (.long e0), .second, .val (.long e1), .second, .val (.long e2), .second, .val (.int bs), .val (.int sh), .val (.int sp), .val (.int (Int32.ofNat N)), .val (.int (Int32.ofNat t0)), .val (.int (Int32.ofNat (1 + m1))), .unset, .unset, .unset, .unset, .unset, .unset, .unset, .unset, .unset, .unset, .unset, .unset, .unset]) cx st at_23 rfl rfl ?_
  refine E_iload (pc' := 27) cx st at_25 rfl rfl ?_
  refine E_iconst (pc' := 28) cx st (1 : Int32) at_27 rfl rfl ?_
  refine E_iadd (pc' := 29) cx st at_28 rfl ?_
  refine E_iload (pc' := 31) cx st at_29 rfl rfl ?_
  refine E_iconst (pc' := 32) cx st (4 : Int32) at_31 rfl rfl ?_
  refine E_iushr (pc' := 33) cx st at_32 rfl ?_
  refine E_bipush (pc' := 35) cx st (15 : Int32) at_33 rfl rfl ?_
  refine E_iand (pc' := 36) cx st at_35 rfl ?_
  refine E_iadd (pc' := 37) cx st at_36 rfl ?_
  obtain ⟨m2, hm2, em2⟩ := m15 ((sh.toUInt32 >>> ((4 : Int32) &&& 31).toUInt32).toInt32)
  rw [show (((Int32.ofNat (1 + m1)) + (1 : Int32)) + (((sh.toUInt32 >>> ((4 : Int32) &&& 31).toUInt32).toInt32) &&& (15 : Int32))) = (Int32.ofNat (1 + m1 + 1 + m2)) from o_add em2]
  refine E_istore (pc' := 39) (L' := #[.val (.long e0), .second, .val (.long e1), .second, .val (.long e2), .second, .val (.int bs), .val (.int sh), .val (.int sp), .val (.int (Int32.ofNat N)), .val (.int (Int32.ofNat t0)), .val (.int (Int32.ofNat (1 + m1))), .val (.int (Int32.ofNat (1 + m1 + 1 + m2))), .unset, .unset, .unset, .unset, .unset, .unset, .unset, .unset, .unset, .unset, .unset, .unset]) cx st at_37 rfl rfl ?_
  refine E_iload (pc' := 41) cx st at_39 rfl rfl ?_
  refine E_iconst (pc' := 42) cx st (1 : Int32) at_41 rfl rfl ?_
  refine E_iadd (pc' := 43) cx st at_42 rfl ?_
  refine E_iload (pc' := 45) cx st at_43 rfl rfl ?_
  refine E_bipush (pc' := 47) cx st (8 : Int32) at_45 rfl rfl ?_
  refine E_iushr (pc' := 48) cx st at_47 rfl ?_
  refine E_bipush (pc' := 50) cx st (15 : Int32) at_48 rfl rfl ?_
  refine E_iand (pc' := 51) cx st at_50 rfl ?_
  refine E_iadd (pc' := 52) cx st at_51 rfl ?_
  obtain ⟨m3, hm3, em3⟩ := m15 ((sh.toUInt32 >>> ((8 : Int32) &&& 31).toUInt32).toInt32)
  rw [show (((Int32.ofNat (1 + m1 + 1 + m2)) + (1 : Int32)) + (((sh.toUInt32 >>> ((8 : Int32) &&& 31).toUInt32).toInt32) &&& (15 : Int32))) = (Int32.ofNat (1 + m1 + 1 + m2 + 1 + m3)) from o_add em3]
  refine E_istore (pc' := 54) (L' := #[.val (.long e0), .second, .val (.long e1), .second, .val (.long e2), .second, .val (.int bs), .val (.int sh), .val (.int sp), .val (.int (Int32.ofNat N)), .val (.int (Int32.ofNat t0)), .val (.int (Int32.ofNat (1 + m1))), .val (.int (Int32.ofNat (1 + m1 + 1 + m2))), .val (.int (Int32.ofNat (1 + m1 + 1 + m2 + 1 + m3))), .unset, .unset, .unset, .unset, .unset, .unset, .unset, .unset, .unset, .unset, .unset]) cx st at_52 rfl rfl ?_
  refine E_iconst (pc' := 55) cx st (4 : Int32) at_54 rfl rfl ?_
  refine E_newP (pc' := 57) (kc' := 1) (ks' := 4) (cap := 4) cx st (hw _ (List.mem_of_getElem? (i := 0) rfl)) at_55 (by decide) (by decide) (by decide) (by decide) (by decide) (by decide) (by decide) rfl (ad := "[I") (by decide) ?_
  intro T1 h1 ca1 pa eq1 st1 E1 V1 X1
  have g_pa : n0 ≤ pa := by rw [eq1]; exact Z0
  have Z1 : n0 ≤ h1.size := Nat.le_trans Z0 E1.1
  have V1p : Arv Z h1 pa ca1 .int (4 : Int32) [(.int (0 : Int32)), (.int (0 : Int32)), (.int (0 : Int32)), (.int (0 : Int32))] (.int (0 : Int32)) := V1.pad (pad_rep [] (.int (0 : Int32)) 4)
  refine E_dup (pc' := 58) cx st1 at_57 rfl rfl ?_
  refine E_iconst (pc' := 59) cx st1 (0 : Int32) at_58 rfl rfl ?_
  refine E_iload (pc' := 61) cx st1 at_59 rfl rfl ?_
  refine E_iastore (pc' := 62) (i := 0) cx st1 V1p ⟨by decide, by decide⟩ rfl (Nat.le_of_ble_eq_true rfl) g_pa at_61 rfl ?_
  intro T2 h2 st2 W2 V2
  have Z2 : n0 ≤ h2.size := Nat.le_trans Z1 (Keep.of_wr W2).1
  have V2p : Arv Z h2 pa ca1 .int (4 : Int32) [(.int (Int32.ofNat t0)), (.int (0 : Int32)), (.int (0 : Int32)), (.int (0 : Int32))] (.int (0 : Int32)) := V2
  refine E_dup (pc' := 63) cx st2 at_62 rfl rfl ?_
  refine E_iconst (pc' := 64) cx st2 (1 : Int32) at_63 rfl rfl ?_
  refine E_iload (pc' := 66) cx st2 at_64 rfl rfl ?_
  refine E_iload (pc' := 68) cx st2 at_66 rfl rfl ?_
  refine E_iadd (pc' := 69) cx st2 at_68 rfl ?_
  refine E_bipush (pc' := 71) cx st2 (63 : Int32) at_69 rfl rfl ?_
  refine E_iand (pc' := 72) cx st2 at_71 rfl ?_
  obtain ⟨t1, et1⟩ : ∃ t, t = (t0 + (1 + m1)) % 64 := ⟨_, rfl⟩
  rw [show (((Int32.ofNat t0) + (Int32.ofNat (1 + m1))) &&& (63 : Int32)) = (Int32.ofNat t1) from by rw [et1]; exact q_and (by omega)]
  refine E_iastore (pc' := 73) (i := 1) cx st2 V2p ⟨by decide, by decide⟩ rfl (Nat.le_of_ble_eq_true rfl) g_pa at_72 rfl ?_
  intro T3 h3 st3 W3 V3
  have Z3 : n0 ≤ h3.size := Nat.le_trans Z2 (Keep.of_wr W3).1
  have V3p : Arv Z h3 pa ca1 .int (4 : Int32) [(.int (Int32.ofNat t0)), (.int (Int32.ofNat t1)), (.int (0 : Int32)), (.int (0 : Int32))] (.int (0 : Int32)) := V3
  refine E_dup (pc' := 74) cx st3 at_73 rfl rfl ?_
  refine E_iconst (pc' := 75) cx st3 (2 : Int32) at_74 rfl rfl ?_
  refine E_iload (pc' := 77) cx st3 at_75 rfl rfl ?_
  refine E_iload (pc' := 79) cx st3 at_77 rfl rfl ?_
  refine E_iadd (pc' := 80) cx st3 at_79 rfl ?_
  refine E_bipush (pc' := 82) cx st3 (63 : Int32) at_80 rfl rfl ?_
  refine E_iand (pc' := 83) cx st3 at_82 rfl ?_
  obtain ⟨t2, et2⟩ : ∃ t, t = (t0 + (1 + m1 + 1 + m2)) % 64 := ⟨_, rfl⟩
  rw [show (((Int32.ofNat t0) + (Int32.ofNat (1 + m1 + 1 + m2))) &&& (63 : Int32)) = (Int32.ofNat t2) from by rw [et2]; exact q_and (by omega)]
  refine E_iastore (pc' := 84) (i := 2) cx st3 V3p ⟨by decide, by decide⟩ rfl (Nat.le_of_ble_eq_true rfl) g_pa at_83 rfl ?_
  intro T4 h4 st4 W4 V4
  have Z4 : n0 ≤ h4.size := Nat.le_trans Z3 (Keep.of_wr W4).1
  have V4p : Arv Z h4 pa ca1 .int (4 : Int32) [(.int (Int32.ofNat t0)), (.int (Int32.ofNat t1)), (.int (Int32.ofNat t2)), (.int (0 : Int32))] (.int (0 : Int32)) := V4
  refine E_dup (pc' := 85) cx st4 at_84 rfl rfl ?_
  refine E_iconst (pc' := 86) cx st4 (3 : Int32) at_85 rfl rfl ?_
  refine E_iload (pc' := 88) cx st4 at_86 rfl rfl ?_
  refine E_iload (pc' := 90) cx st4 at_88 rfl rfl ?_
  refine E_iadd (pc' := 91) cx st4 at_90 rfl ?_
  refine E_bipush (pc' := 93) cx st4 (63 : Int32) at_91 rfl rfl ?_
  refine E_iand (pc' := 94) cx st4 at_93 rfl ?_
  obtain ⟨t3, et3⟩ : ∃ t, t = (t0 + (1 + m1 + 1 + m2 + 1 + m3)) % 64 := ⟨_, rfl⟩
  rw [show (((Int32.ofNat t0) + (Int32.ofNat (1 + m1 + 1 + m2 + 1 + m3))) &&& (63 : Int32)) = (Int32.ofNat t3) from by rw [et3]; exact q_and (by omega)]
  refine E_iastore (pc' := 95) (i := 3) cx st4 V4p ⟨by decide, by decide⟩ rfl (Nat.le_of_ble_eq_true rfl) g_pa at_94 rfl ?_
  intro T5 h5 st5 W5 V5
  have Z5 : n0 ≤ h5.size := Nat.le_trans Z4 (Keep.of_wr W5).1
  have V5p : Arv Z h5 pa ca1 .int (4 : Int32) [(.int (Int32.ofNat t0)), (.int (Int32.ofNat t1)), (.int (Int32.ofNat t2)), (.int (Int32.ofNat t3))] (.int (0 : Int32)) := V5
  refine E_astore (pc' := 97) (L' := #[.val (.long e0), .second, .val (.long e1), .second, .val (.long e2), .second, .val (.int bs), .val (.int sh), .val (.int sp), .val (.int (Int32.ofNat N)), .val (.int (Int32.ofNat t0)), .val (.int (Int32.ofNat (1 + m1))), .val (.int (Int32.ofNat (1 + m1 + 1 + m2))), .val (.int (Int32.ofNat (1 + m1 + 1 + m2 + 1 + m3))), .val (.ref pa), .unset, .unset, .unset, .unset, .unset, .unset, .unset, .unset, .unset, .unset]) cx st5 at_95 rfl rfl rfl ?_
  refine E_lconst (pc' := 98) cx st5 (0 : Int64) at_97 rfl rfl ?_
  refine E_lstore (pc' := 100) (L' := #[.val (.long e0), .second, .val (.long e1), .second, .val (.long e2), .second, .val (.int bs), .val (.int sh), .val (.int sp), .val (.int (Int32.ofNat N)), .val (.int (Int32.ofNat t0)), .val (.int (Int32.ofNat (1 + m1))), .val (.int (Int32.ofNat (1 + m1 + 1 + m2))), .val (.int (Int32.ofNat (1 + m1 + 1 + m2 + 1 + m3))), .val (.ref pa), .val (.long (0 : Int64)), .second, .unset, .unset, .unset, .unset, .unset, .unset, .unset, .unset]) cx st5 at_98 rfl rfl ?_
  refine E_iload (pc' := 102) cx st5 at_100 rfl rfl ?_
  suffices j7 : F T5 (mkF m 116 #[.val (.long e0), .second, .val (.long e1), .second, .val (.long e2), .second, .val (.int bs), .val (.int sh), .val (.int sp), .val (.int (Int32.ofNat N)), .val (.int (Int32.ofNat t0)), .val (.int (Int32.ofNat (1 + m1))), .val (.int (Int32.ofNat (1 + m1 + 1 + m2))), .val (.int (Int32.ofNat (1 + m1 + 1 + m2 + 1 + m3))), .val (.ref pa), .val (.long (if (0 : Int32) < (Int32.ofNat N) then ((0 : Int64) ||| ((1 : Int64) <<< ((Int32.ofNat t0) &&& 0x3f).toInt64)) else (0 : Int64))), .second, .unset, .unset, .unset, .unset, .unset, .unset, .unset, .unset] []) by
    by_cases c6 : (0 : Int32) < (Int32.ofNat N)
    · refine E_if_leN (pc' := 105) cx st5 at_102 rfl c6 ?_
      refine E_lload (pc' := 107) cx st5 at_105 rfl rfl ?_
      refine E_lconst (pc' := 108) cx st5 (1 : Int64) at_107 rfl rfl ?_
      refine E_aload (pc' := 110) cx st5 at_108 rfl rfl rfl ?_
      refine E_iconst (pc' := 111) cx st5 (0 : Int32) at_110 rfl rfl ?_
      refine E_iaload (pc' := 112) (x := (Int32.ofNat t0)) cx st5 V5p ⟨by decide, by decide⟩ rfl at_111 rfl ?_
      refine E_lshl (pc' := 113) cx st5 at_112 rfl ?_
      refine E_lor (pc' := 114) cx st5 at_113 rfl ?_
      refine E_lstore (pc' := 116) (L' := #[.val (.long e0), .second, .val (.long e1), .second, .val (.long e2), .second, .val (.int bs), .val (.int sh), .val (.int sp), .val (.int (Int32.ofNat N)), .val (.int (Int32.ofNat t0)), .val (.int (Int32.ofNat (1 + m1))), .val (.int (Int32.ofNat (1 + m1 + 1 + m2))), .val (.int (Int32.ofNat (1 + m1 + 1 + m2 + 1 + m3))), .val (.ref pa), .val (.long ((0 : Int64) ||| ((1 : Int64) <<< ((Int32.ofNat t0) &&& 0x3f).toInt64))), .second, .unset, .unset, .unset, .unset, .unset, .unset, .unset, .unset]) cx st5 at_114 rfl rfl ?_
      simp only [if_pos c6] at j7; exact j7
    · refine E_if_leY (pc' := 116) cx st5 at_102 (by decide) (by decide) c6 ?_
      simp only [if_neg c6] at j7; exact j7
  generalize hu8 : (if (0 : Int32) < (Int32.ofNat N) then ((0 : Int64) ||| ((1 : Int64) <<< ((Int32.ofNat t0) &&& 0x3f).toInt64)) else (0 : Int64)) = u8
  refine E_iload (pc' := 118) cx st5 at_116 rfl rfl ?_
  refine E_iconst (pc' := 119) cx st5 (1 : Int32) at_118 rfl rfl ?_
  suffices j10 : F T5 (mkF m 133 #[.val (.long e0), .second, .val (.long e1), .second, .val (.long e2), .second, .val (.int bs), .val (.int sh), .val (.int sp), .val (.int (Int32.ofNat N)), .val (.int (Int32.ofNat t0)), .val (.int (Int32.ofNat (1 + m1))), .val (.int (Int32.ofNat (1 + m1 + 1 + m2))), .val (.int (Int32.ofNat (1 + m1 + 1 + m2 + 1 + m3))), .val (.ref pa), .val (.long (if (1 : Int32) < (Int32.ofNat N) then (u8 ||| ((1 : Int64) <<< ((Int32.ofNat t1) &&& 0x3f).toInt64)) else u8)), .second, .unset, .unset, .unset, .unset, .unset, .unset, .unset, .unset] []) by
    by_cases c9 : (1 : Int32) < (Int32.ofNat N)
    · refine E_icmp_leN (pc' := 122) cx st5 at_119 rfl c9 ?_
      refine E_lload (pc' := 124) cx st5 at_122 rfl rfl ?_
      refine E_lconst (pc' := 125) cx st5 (1 : Int64) at_124 rfl rfl ?_
      refine E_aload (pc' := 127) cx st5 at_125 rfl rfl rfl ?_
      refine E_iconst (pc' := 128) cx st5 (1 : Int32) at_127 rfl rfl ?_
      refine E_iaload (pc' := 129) (x := (Int32.ofNat t1)) cx st5 V5p ⟨by decide, by decide⟩ rfl at_128 rfl ?_
      refine E_lshl (pc' := 130) cx st5 at_129 rfl ?_
      refine E_lor (pc' := 131) cx st5 at_130 rfl ?_
      refine E_lstore (pc' := 133) (L' := #[.val (.long e0), .second, .val (.long e1), .second, .val (.long e2), .second, .val (.int bs), .val (.int sh), .val (.int sp), .val (.int (Int32.ofNat N)), .val (.int (Int32.ofNat t0)), .val (.int (Int32.ofNat (1 + m1))), .val (.int (Int32.ofNat (1 + m1 + 1 + m2))), .val (.int (Int32.ofNat (1 + m1 + 1 + m2 + 1 + m3))), .val (.ref pa), .val (.long (u8 ||| ((1 : Int64) <<< ((Int32.ofNat t1) &&& 0x3f).toInt64))), .second, .unset, .unset, .unset, .unset, .unset, .unset, .unset, .unset]) cx st5 at_131 rfl rfl ?_
      simp only [if_pos c9] at j10; exact j10
    · refine E_icmp_leY (pc' := 133) cx st5 at_119 (by decide) (by decide) c9 ?_
      simp only [if_neg c9] at j10; exact j10
  generalize hu11 : (if (1 : Int32) < (Int32.ofNat N) then (u8 ||| ((1 : Int64) <<< ((Int32.ofNat t1) &&& 0x3f).toInt64)) else u8) = u11
  refine E_iload (pc' := 135) cx st5 at_133 rfl rfl ?_
  refine E_iconst (pc' := 136) cx st5 (2 : Int32) at_135 rfl rfl ?_
  suffices j13 : F T5 (mkF m 150 #[.val (.long e0), .second, .val (.long e1), .second, .val (.long e2), .second, .val (.int bs), .val (.int sh), .val (.int sp), .val (.int (Int32.ofNat N)), .val (.int (Int32.ofNat t0)), .val (.int (Int32.ofNat (1 + m1))), .val (.int (Int32.ofNat (1 + m1 + 1 + m2))), .val (.int (Int32.ofNat (1 + m1 + 1 + m2 + 1 + m3))), .val (.ref pa), .val (.long (if (2 : Int32) < (Int32.ofNat N) then (u11 ||| ((1 : Int64) <<< ((Int32.ofNat t2) &&& 0x3f).toInt64)) else u11)), .second, .unset, .unset, .unset, .unset, .unset, .unset, .unset, .unset] []) by
    by_cases c12 : (2 : Int32) < (Int32.ofNat N)
    · refine E_icmp_leN (pc' := 139) cx st5 at_136 rfl c12 ?_
      refine E_lload (pc' := 141) cx st5 at_139 rfl rfl ?_
      refine E_lconst (pc' := 142) cx st5 (1 : Int64) at_141 rfl rfl ?_
      refine E_aload (pc' := 144) cx st5 at_142 rfl rfl rfl ?_
      refine E_iconst (pc' := 145) cx st5 (2 : Int32) at_144 rfl rfl ?_
      refine E_iaload (pc' := 146) (x := (Int32.ofNat t2)) cx st5 V5p ⟨by decide, by decide⟩ rfl at_145 rfl ?_
      refine E_lshl (pc' := 147) cx st5 at_146 rfl ?_
      refine E_lor (pc' := 148) cx st5 at_147 rfl ?_
      refine E_lstore (pc' := 150) (L' := #[.val (.long e0), .second, .val (.long e1), .second, .val (.long e2), .second, .val (.int bs), .val (.int sh), .val (.int sp), .val (.int (Int32.ofNat N)), .val (.int (Int32.ofNat t0)), .val (.int (Int32.ofNat (1 + m1))), .val (.int (Int32.ofNat (1 + m1 + 1 + m2))), .val (.int (Int32.ofNat (1 + m1 + 1 + m2 + 1 + m3))), .val (.ref pa), .val (.long (u11 ||| ((1 : Int64) <<< ((Int32.ofNat t2) &&& 0x3f).toInt64))), .second, .unset, .unset, .unset, .unset, .unset, .unset, .unset, .unset]) cx st5 at_148 rfl rfl ?_
      simp only [if_pos c12] at j13; exact j13
    · refine E_icmp_leY (pc' := 150) cx st5 at_136 (by decide) (by decide) c12 ?_
      simp only [if_neg c12] at j13; exact j13
  generalize hu14 : (if (2 : Int32) < (Int32.ofNat N) then (u11 ||| ((1 : Int64) <<< ((Int32.ofNat t2) &&& 0x3f).toInt64)) else u11) = u14
  refine E_iload (pc' := 152) cx st5 at_150 rfl rfl ?_
  refine E_iconst (pc' := 153) cx st5 (3 : Int32) at_152 rfl rfl ?_
  suffices j16 : F T5 (mkF m 167 #[.val (.long e0), .second, .val (.long e1), .second, .val (.long e2), .second, .val (.int bs), .val (.int sh), .val (.int sp), .val (.int (Int32.ofNat N)), .val (.int (Int32.ofNat t0)), .val (.int (Int32.ofNat (1 + m1))), .val (.int (Int32.ofNat (1 + m1 + 1 + m2))), .val (.int (Int32.ofNat (1 + m1 + 1 + m2 + 1 + m3))), .val (.ref pa), .val (.long (if (3 : Int32) < (Int32.ofNat N) then (u14 ||| ((1 : Int64) <<< ((Int32.ofNat t3) &&& 0x3f).toInt64)) else u14)), .second, .unset, .unset, .unset, .unset, .unset, .unset, .unset, .unset] []) by
    by_cases c15 : (3 : Int32) < (Int32.ofNat N)
    · refine E_icmp_leN (pc' := 156) cx st5 at_153 rfl c15 ?_
      refine E_lload (pc' := 158) cx st5 at_156 rfl rfl ?_
      refine E_lconst (pc' := 159) cx st5 (1 : Int64) at_158 rfl rfl ?_
      refine E_aload (pc' := 161) cx st5 at_159 rfl rfl rfl ?_
      refine E_iconst (pc' := 162) cx st5 (3 : Int32) at_161 rfl rfl ?_
      refine E_iaload (pc' := 163) (x := (Int32.ofNat t3)) cx st5 V5p ⟨by decide, by decide⟩ rfl at_162 rfl ?_
      refine E_lshl (pc' := 164) cx st5 at_163 rfl ?_
      refine E_lor (pc' := 165) cx st5 at_164 rfl ?_
      refine E_lstore (pc' := 167) (L' := #[.val (.long e0), .second, .val (.long e1), .second, .val (.long e2), .second, .val (.int bs), .val (.int sh), .val (.int sp), .val (.int (Int32.ofNat N)), .val (.int (Int32.ofNat t0)), .val (.int (Int32.ofNat (1 + m1))), .val (.int (Int32.ofNat (1 + m1 + 1 + m2))), .val (.int (Int32.ofNat (1 + m1 + 1 + m2 + 1 + m3))), .val (.ref pa), .val (.long (u14 ||| ((1 : Int64) <<< ((Int32.ofNat t3) &&& 0x3f).toInt64))), .second, .unset, .unset, .unset, .unset, .unset, .unset, .unset, .unset]) cx st5 at_165 rfl rfl ?_
      simp only [if_pos c15] at j16; exact j16
    · refine E_icmp_leY (pc' := 167) cx st5 at_153 (by decide) (by decide) c15 ?_
      simp only [if_neg c15] at j16; exact j16
  generalize hu17 : (if (3 : Int32) < (Int32.ofNat N) then (u14 ||| ((1 : Int64) <<< ((Int32.ofNat t3) &&& 0x3f).toInt64)) else u14) = u17
  refine E_iload (pc' := 169) cx st5 at_167 rfl rfl ?_
  refine E_ldc (pc' := 171) (v := (65535 : Int32)) cx st5 (hw _ (List.mem_of_getElem? (i := 1) rfl)) at_169 rfl ?_
  refine E_iand (pc' := 172) cx st5 at_171 rfl ?_
  refine E_iload (pc' := 174) cx st5 at_172 rfl rfl ?_
  refine E_iconst (pc' := 175) cx st5 (1 : Int32) at_174 rfl rfl ?_
  refine E_iadd (pc' := 176) cx st5 at_175 rfl ?_
  rw [show ((Int32.ofNat N) + (1 : Int32)) = (Int32.ofNat (N + 1)) from i32_next N]
  refine E_irem (pc' := 177) cx st5 at_176 (nz32 (by omega)) rfl ?_
  obtain ⟨z16, hz16, ez16⟩ := m16 sp
  obtain ⟨za, hza, eza⟩ := rem_ex (k := sp &&& (65535 : Int32)) (by rw [ez16]; exact nn_of (by omega)) (n := N + 1) (by omega) (by omega)
  rw [show ((sp &&& (65535 : Int32)) % (Int32.ofNat (N + 1))) = (Int32.ofNat za) from eza]
  refine E_istore (pc' := 179) (L' := #[.val (.long e0), .second, .val (.long e1), .second, .val (.long e2), .second, .val (.int bs), .val (.int sh), .val (.int sp), .val (.int (Int32.ofNat N)), .val (.int (Int32.ofNat t0)), .val (.int (Int32.ofNat (1 + m1))), .val (.int (Int32.ofNat (1 + m1 + 1 + m2))), .val (.int (Int32.ofNat (1 + m1 + 1 + m2 + 1 + m3))), .val (.ref pa), .val (.long u17), .second, .val (.int (Int32.ofNat za)), .unset, .unset, .unset, .unset, .unset, .unset, .unset]) cx st5 at_177 rfl rfl ?_
  refine E_iload (pc' := 181) cx st5 at_179 rfl rfl ?_
  refine E_bipush (pc' := 183) cx st5 (16 : Int32) at_181 rfl rfl ?_
  refine E_iushr (pc' := 184) cx st5 at_183 rfl ?_
  refine E_iload (pc' := 186) cx st5 at_184 rfl rfl ?_
  refine E_iload (pc' := 188) cx st5 at_186 rfl rfl ?_
  refine E_isub (pc' := 189) cx st5 at_188 rfl ?_
  refine E_iconst (pc' := 190) cx st5 (1 : Int32) at_189 rfl rfl ?_
  refine E_iadd (pc' := 191) cx st5 at_190 rfl ?_
  rw [show (((Int32.ofNat N) - (Int32.ofNat za)) + (1 : Int32)) = (Int32.ofNat (N - za + 1)) from by rw [of_sub (by omega)]; exact i32_next _]
  refine E_irem (pc' := 192) cx st5 at_191 (nz32 (by omega)) rfl ?_
  obtain ⟨zb, hzb, ezb⟩ := rem_ex (ush16 sp) (n := N - za + 1) (by omega) (by omega)
  rw [show (((sp.toUInt32 >>> ((16 : Int32) &&& 31).toUInt32).toInt32) % (Int32.ofNat (N - za + 1))) = (Int32.ofNat zb) from ezb]
  refine E_istore (pc' := 194) (L' := #[.val (.long e0), .second, .val (.long e1), .second, .val (.long e2), .second, .val (.int bs), .val (.int sh), .val (.int sp), .val (.int (Int32.ofNat N)), .val (.int (Int32.ofNat t0)), .val (.int (Int32.ofNat (1 + m1))), .val (.int (Int32.ofNat (1 + m1 + 1 + m2))), .val (.int (Int32.ofNat (1 + m1 + 1 + m2 + 1 + m3))), .val (.ref pa), .val (.long u17), .second, .val (.int (Int32.ofNat za)), .val (.int (Int32.ofNat zb)), .unset, .unset, .unset, .unset, .unset, .unset]) cx st5 at_192 rfl rfl ?_
  refine E_iload (pc' := 196) cx st5 at_194 rfl rfl ?_
  refine E_iload (pc' := 198) cx st5 at_196 rfl rfl ?_
  refine E_isub (pc' := 199) cx st5 at_198 rfl ?_
  refine E_iload (pc' := 201) cx st5 at_199 rfl rfl ?_
  refine E_isub (pc' := 202) cx st5 at_201 rfl ?_
  obtain ⟨zc, ezc⟩ : ∃ z, z = N - za - zb := ⟨_, rfl⟩
  rw [show (((Int32.ofNat N) - (Int32.ofNat za)) - (Int32.ofNat zb)) = (Int32.ofNat zc) from by rw [ezc, of_sub (by omega), of_sub (by omega)]]
  refine E_istore (pc' := 204) (L' := #[.val (.long e0), .second, .val (.long e1), .second, .val (.long e2), .second, .val (.int bs), .val (.int sh), .val (.int sp), .val (.int (Int32.ofNat N)), .val (.int (Int32.ofNat t0)), .val (.int (Int32.ofNat (1 + m1))), .val (.int (Int32.ofNat (1 + m1 + 1 + m2))), .val (.int (Int32.ofNat (1 + m1 + 1 + m2 + 1 + m3))), .val (.ref pa), .val (.long u17), .second, .val (.int (Int32.ofNat za)), .val (.int (Int32.ofNat zb)), .val (.int (Int32.ofNat zc)), .unset, .unset, .unset, .unset, .unset]) cx st5 at_202 rfl rfl ?_
  refine E_iconst (pc' := 205) cx st5 (3 : Int32) at_204 rfl rfl ?_
  refine E_newP (pc' := 207) (kc' := 2) (ks' := 7) (cap := 3) cx st5 (hw _ (List.mem_of_getElem? (i := 0) rfl)) at_205 (by decide) (by decide) (by decide) (by decide) (by decide) (by decide) (by decide) rfl (ad := "[I") (by decide) ?_
  intro T18 h18 ca18 sa eq18 st18 E18 V18 X18
  have g_sa : n0 ≤ sa := by rw [eq18]; exact Z5
  have ne_pa_sa : pa ≠ sa := by rw [eq18]; exact Nat.ne_of_lt V5p.lt
  have Z18 : n0 ≤ h18.size := Nat.le_trans Z5 E18.1
  have V18p : Arv Z h18 sa ca18 .int (3 : Int32) [(.int (0 : Int32)), (.int (0 : Int32)), (.int (0 : Int32))] (.int (0 : Int32)) := V18.pad (pad_rep [] (.int (0 : Int32)) 3)
  refine E_dup (pc' := 208) cx st18 at_207 rfl rfl ?_
  refine E_iconst (pc' := 209) cx st18 (0 : Int32) at_208 rfl rfl ?_
  refine E_iload (pc' := 211) cx st18 at_209 rfl rfl ?_
  refine E_iastore (pc' := 212) (i := 0) cx st18 V18p ⟨by decide, by decide⟩ rfl (Nat.le_of_ble_eq_true rfl) g_sa at_211 rfl ?_
  intro T19 h19 st19 W19 V19
  have Z19 : n0 ≤ h19.size := Nat.le_trans Z18 (Keep.of_wr W19).1
  have V19p : Arv Z h19 sa ca18 .int (3 : Int32) [(.int (Int32.ofNat za)), (.int (0 : Int32)), (.int (0 : Int32))] (.int (0 : Int32)) := V19
  refine E_dup (pc' := 213) cx st19 at_212 rfl rfl ?_
  refine E_iconst (pc' := 214) cx st19 (1 : Int32) at_213 rfl rfl ?_
  refine E_iload (pc' := 216) cx st19 at_214 rfl rfl ?_
  refine E_iastore (pc' := 217) (i := 1) cx st19 V19p ⟨by decide, by decide⟩ rfl (Nat.le_of_ble_eq_true rfl) g_sa at_216 rfl ?_
  intro T20 h20 st20 W20 V20
  have Z20 : n0 ≤ h20.size := Nat.le_trans Z19 (Keep.of_wr W20).1
  have V20p : Arv Z h20 sa ca18 .int (3 : Int32) [(.int (Int32.ofNat za)), (.int (Int32.ofNat zb)), (.int (0 : Int32))] (.int (0 : Int32)) := V20
  refine E_dup (pc' := 218) cx st20 at_217 rfl rfl ?_
  refine E_iconst (pc' := 219) cx st20 (2 : Int32) at_218 rfl rfl ?_
  refine E_iload (pc' := 221) cx st20 at_219 rfl rfl ?_
  refine E_iastore (pc' := 222) (i := 2) cx st20 V20p ⟨by decide, by decide⟩ rfl (Nat.le_of_ble_eq_true rfl) g_sa at_221 rfl ?_
  intro T21 h21 st21 W21 V21
  have Z21 : n0 ≤ h21.size := Nat.le_trans Z20 (Keep.of_wr W21).1
  have V21p : Arv Z h21 sa ca18 .int (3 : Int32) [(.int (Int32.ofNat za)), (.int (Int32.ofNat zb)), (.int (Int32.ofNat zc))] (.int (0 : Int32)) := V21
  refine E_astore (pc' := 224) (L' := #[.val (.long e0), .second, .val (.long e1), .second, .val (.long e2), .second, .val (.int bs), .val (.int sh), .val (.int sp), .val (.int (Int32.ofNat N)), .val (.int (Int32.ofNat t0)), .val (.int (Int32.ofNat (1 + m1))), .val (.int (Int32.ofNat (1 + m1 + 1 + m2))), .val (.int (Int32.ofNat (1 + m1 + 1 + m2 + 1 + m3))), .val (.ref pa), .val (.long u17), .second, .val (.int (Int32.ofNat za)), .val (.int (Int32.ofNat zb)), .val (.int (Int32.ofNat zc)), .val (.ref sa), .unset, .unset, .unset, .unset]) cx st21 at_222 rfl rfl rfl ?_
  refine E_iconst (pc' := 225) cx st21 (3 : Int32) at_224 rfl rfl ?_
  have V22 : Arv Z h21 pa ca1 .int (4 : Int32) [(.int (Int32.ofNat t0)), (.int (Int32.ofNat t1)), (.int (Int32.ofNat t2)), (.int (Int32.ofNat t3))] (.int (0 : Int32)) := ((((V5p.ext E18).other W19 ne_pa_sa).other W20 ne_pa_sa).other W21 ne_pa_sa)
  refine E_newP (pc' := 227) (kc' := 3) (ks' := 10) (cap := 3) cx st21 (hw _ (List.mem_of_getElem? (i := 2) rfl)) at_225 (by decide) (by decide) (by decide) (by decide) (by decide) (by decide) (by decide) rfl (ad := "[J") (by decide) ?_
  intro T23 h23 ca23 ea eq23 st23 E23 V23 X23
  have g_ea : n0 ≤ ea := by rw [eq23]; exact Z21
  have ne_pa_ea : pa ≠ ea := by rw [eq23]; exact Nat.ne_of_lt V22.lt
  have ne_sa_ea : sa ≠ ea := by rw [eq23]; exact Nat.ne_of_lt V21p.lt
  have Z23 : n0 ≤ h23.size := Nat.le_trans Z21 E23.1
  have V23p : Arv Z h23 ea ca23 .long (3 : Int32) [(.long (0 : Int64)), (.long (0 : Int64)), (.long (0 : Int64))] (.long (0 : Int64)) := V23.pad (pad_rep [] (.long (0 : Int64)) 3)
  refine E_dup (pc' := 228) cx st23 at_227 rfl rfl ?_
  refine E_iconst (pc' := 229) cx st23 (0 : Int32) at_228 rfl rfl ?_
  refine E_lloadN (pc' := 230) cx st23 at_229 rfl rfl ?_
  refine E_lastore (pc' := 231) (i := 0) cx st23 V23p ⟨by decide, by decide⟩ rfl (Nat.le_of_ble_eq_true rfl) g_ea at_230 rfl ?_
  intro T24 h24 st24 W24 V24
  have Z24 : n0 ≤ h24.size := Nat.le_trans Z23 (Keep.of_wr W24).1
  have V24p : Arv Z h24 ea ca23 .long (3 : Int32) [(.long e0), (.long (0 : Int64)), (.long (0 : Int64))] (.long (0 : Int64)) := V24
  refine E_dup (pc' := 232) cx st24 at_231 rfl rfl ?_
  refine E_iconst (pc' := 233) cx st24 (1 : Int32) at_232 rfl rfl ?_
  refine E_lloadN (pc' := 234) cx st24 at_233 rfl rfl ?_
  refine E_lastore (pc' := 235) (i := 1) cx st24 V24p ⟨by decide, by decide⟩ rfl (Nat.le_of_ble_eq_true rfl) g_ea at_234 rfl ?_
  intro T25 h25 st25 W25 V25
  have Z25 : n0 ≤ h25.size := Nat.le_trans Z24 (Keep.of_wr W25).1
  have V25p : Arv Z h25 ea ca23 .long (3 : Int32) [(.long e0), (.long e1), (.long (0 : Int64))] (.long (0 : Int64)) := V25
  refine E_dup (pc' := 236) cx st25 at_235 rfl rfl ?_
  refine E_iconst (pc' := 237) cx st25 (2 : Int32) at_236 rfl rfl ?_
  refine E_lload (pc' := 239) cx st25 at_237 rfl rfl ?_
  refine E_lastore (pc' := 240) (i := 2) cx st25 V25p ⟨by decide, by decide⟩ rfl (Nat.le_of_ble_eq_true rfl) g_ea at_239 rfl ?_
  intro T26 h26 st26 W26 V26
  have Z26 : n0 ≤ h26.size := Nat.le_trans Z25 (Keep.of_wr W26).1
  have V26p : Arv Z h26 ea ca23 .long (3 : Int32) [(.long e0), (.long e1), (.long e2)] (.long (0 : Int64)) := V26
  refine E_astore (pc' := 242) (L' := #[.val (.long e0), .second, .val (.long e1), .second, .val (.long e2), .second, .val (.int bs), .val (.int sh), .val (.int sp), .val (.int (Int32.ofNat N)), .val (.int (Int32.ofNat t0)), .val (.int (Int32.ofNat (1 + m1))), .val (.int (Int32.ofNat (1 + m1 + 1 + m2))), .val (.int (Int32.ofNat (1 + m1 + 1 + m2 + 1 + m3))), .val (.ref pa), .val (.long u17), .second, .val (.int (Int32.ofNat za)), .val (.int (Int32.ofNat zb)), .val (.int (Int32.ofNat zc)), .val (.ref sa), .val (.ref ea), .unset, .unset, .unset]) cx st26 at_240 rfl rfl rfl ?_
  have V27 : Arv Z h26 pa ca1 .int (4 : Int32) [(.int (Int32.ofNat t0)), (.int (Int32.ofNat t1)), (.int (Int32.ofNat t2)), (.int (Int32.ofNat t3))] (.int (0 : Int32)) := ((((V22.ext E23).other W24 ne_pa_ea).other W25 ne_pa_ea).other W26 ne_pa_ea)
  have V28 : Arv Z h26 sa ca18 .int (3 : Int32) [(.int (Int32.ofNat za)), (.int (Int32.ofNat zb)), (.int (Int32.ofNat zc))] (.int (0 : Int32)) := ((((V21p.ext E23).other W24 ne_sa_ea).other W25 ne_sa_ea).other W26 ne_sa_ea)
  refine E_new (pc' := 245) (kc' := 4) (ks' := 14) cx st26 (hw _ (List.mem_of_getElem? (i := 3) rfl)) (hw _ (List.mem_of_getElem? (i := 4) rfl)) (hw _ (List.mem_of_getElem? (i := 5) rfl)) at_242 (by decide) (by decide) (by decide) (by decide) rfl ?_
  intro T29 h29 ob eq29 st29 E29 X29 D29
  have g_ob : n0 ≤ ob := by rw [eq29]; exact Z26
  have ne_pa_ob : pa ≠ ob := by rw [eq29]; exact Nat.ne_of_lt V27.lt
  have ne_sa_ob : sa ≠ ob := by rw [eq29]; exact Nat.ne_of_lt V28.lt
  have ne_ea_ob : ea ≠ ob := by rw [eq29]; exact Nat.ne_of_lt V26p.lt
  have Z29 : n0 ≤ h29.size := Nat.le_trans Z26 E29.1
  have F29_cards : Fld Z h29 ob "com/example/widowbid/widowbid/Worlds" "cards" "[I" .null := D29 (Or.inr (hw _ (List.mem_of_getElem? (i := 20) rfl))) (ty := (.array .int)) (by decide)
  have F29_sizes : Fld Z h29 ob "com/example/widowbid/widowbid/Worlds" "sizes" "[I" .null := D29 (Or.inr (hw _ (List.mem_of_getElem? (i := 31) rfl))) (ty := (.array .int)) (by decide)
  have F29_excluded : Fld Z h29 ob "com/example/widowbid/widowbid/Worlds" "excluded" "[J" .null := D29 (Or.inr (hw _ (List.mem_of_getElem? (i := 39) rfl))) (ty := (.array .long)) (by decide)
  have F29_ways : Fld Z h29 ob "com/example/widowbid/widowbid/Worlds" "ways" "[[[J" .null := D29 (Or.inr (hw _ (List.mem_of_getElem? (i := 44) rfl))) (ty := (.array (.array (.array .long)))) (by decide)
  refine E_dup (pc' := 246) cx st29 at_245 rfl rfl ?_
  refine E_lload (pc' := 248) cx st29 at_246 rfl rfl ?_
  refine E_aload (pc' := 250) cx st29 at_248 rfl rfl rfl ?_
  refine E_aload (pc' := 252) cx st29 at_250 rfl rfl rfl ?_
  have hd4 : [t0, t1, t2, t3].Nodup := by simp only [List.nodup_cons, List.mem_cons, List.not_mem_nil, or_false, not_or, List.nodup_nil, and_true, not_false_eq_true]; omega
  obtain ⟨cs, hcl, hcb, hcL, hcp⟩ := un_ex (by omega) ht0 (by omega) (by omega) (by omega) hd4 hu8 hu11 hu14 hu17
  have V30 : Arv Z h29 sa ca18 .int (3 : Int32) [(.int (Int32.ofNat za)), (.int (Int32.ofNat zb)), (.int (Int32.ofNat zc))] (.int (0 : Int32)) := (V28.ext E29)
  have V31 : Arv Z h29 ea ca23 .long (3 : Int32) [(.long e0), (.long e1), (.long e2)] (.long (0 : Int64)) := (V26p.ext E29)
  have X32 : Exa Z h29 sa "[I" := ((((((((X18.wr W19).wr W20).wr W21).ext E23).wr W24).wr W25).wr W26).ext E29)
  have X33 : Exa Z h29 ea "[J" := ((((X23.wr W24).wr W25).wr W26).ext E29)
  have V34 : Arv Z h29 pa ca1 .int (4 : Int32) [(.int (Int32.ofNat t0)), (.int (Int32.ofNat t1)), (.int (Int32.ofNat t2)), (.int (Int32.ofNat t3))] (.int (0 : Int32)) := (V27.ext E29)
  refine E_callI (pc' := 255) (kc' := 154) (ks' := 444) (W := 1) (a := ob) (argsL := [(.long u17), (.ref sa), (.ref ea)]) cx st29 [(.ref ob)] (rm1 l Z a0 hw ob u17 sa ea h29 n0 Z29 cs za zb zc e0 e1 e2 ca18 ca23 X29 F29_cards F29_sizes F29_excluded F29_ways V30 X32 V31 X33 g_ob (Ne.symm ne_sa_ob) (Ne.symm ne_ea_ob) ne_sa_ea (by omega) (by omega) hcb hcL) rfl (hw _ (List.mem_of_getElem? (i := 6) rfl)) (hw _ (List.mem_of_getElem? (i := 7) rfl)) (hw _ (List.mem_of_getElem? (i := 5) rfl)) (hw _ (List.mem_of_getElem? (i := 8) rfl)) at_252 rfl rfl (lenOf pd_8 rfl) (Nat.le_of_eq rfl) (by decide) (by decide) (by decide) (by decide) (by decide) (by decide) (by decide) rfl ?_
  intro v35 T35 h35 st35 hq35
  obtain ⟨rfl, Kc, ca, cz, ce, wa, f, Dw, hf⟩ := hq35
  have Z35 : n0 ≤ h35.size := Nat.le_trans Z29 Kc.1
  refine E_astore (pc' := 257) (L' := #[.val (.long e0), .second, .val (.long e1), .second, .val (.long e2), .second, .val (.int bs), .val (.int sh), .val (.int sp), .val (.int (Int32.ofNat N)), .val (.int (Int32.ofNat t0)), .val (.int (Int32.ofNat (1 + m1))), .val (.int (Int32.ofNat (1 + m1 + 1 + m2))), .val (.int (Int32.ofNat (1 + m1 + 1 + m2 + 1 + m3))), .val (.ref pa), .val (.long u17), .second, .val (.int (Int32.ofNat za)), .val (.int (Int32.ofNat zb)), .val (.int (Int32.ofNat zc)), .val (.ref sa), .val (.ref ea), .val (.ref ob), .unset, .unset]) cx st35 at_255 rfl rfl rfl ?_
  refine E_aload (pc' := 259) cx st35 at_257 rfl rfl rfl ?_
  refine E_aload (pc' := 261) cx st35 at_259 rfl rfl rfl ?_
  refine E_iload (pc' := 263) cx st35 at_261 rfl rfl ?_
  refine E_aload (pc' := 265) cx st35 at_263 rfl rfl rfl ?_
  refine E_iconst (pc' := 266) cx st35 (0 : Int32) at_265 rfl rfl ?_
  have V36 : Arv Z h35 ea ca23 .long (3 : Int32) [(.long e0), (.long e1), (.long e2)] (.long (0 : Int64)) := (V31.keep Kc (ninS ne_ea_ob nin0))
  have V37 : Arv Z h35 pa ca1 .int (4 : Int32) [(.int (Int32.ofNat t0)), (.int (Int32.ofNat t1)), (.int (Int32.ofNat t2)), (.int (Int32.ofNat t3))] (.int (0 : Int32)) := (V34.keep Kc (ninS ne_pa_ob nin0))
  have V38 : Arv Z h35 sa ca18 .int (3 : Int32) [(.int (Int32.ofNat za)), (.int (Int32.ofNat zb)), (.int (Int32.ofNat zc))] (.int (0 : Int32)) := (V30.keep Kc (ninS ne_sa_ob nin0))
  refine E_callS (pc' := 269) (kc' := 154) (ks' := 444) (W := 0) (argsL := [(.ref ea), (.ref pa), (.int (Int32.ofNat N)), (.ref sa), (.int (0 : Int32))]) cx st35 [] (rm4 l Z a0 hw ea pa sa e0 e1 e2 (Int32.ofNat t0) (Int32.ofNat t1) (Int32.ofNat t2) (Int32.ofNat t3) (Int32.ofNat N) (Int32.ofNat za) (Int32.ofNat zb) (Int32.ofNat zc) (0 : Int32) h35 n0 Z35 ca23 ca1 V36 V37 ca18 V38 ⟨by decide, by decide⟩) (hw _ (List.mem_of_getElem? (i := 45) rfl)) (hw _ (List.mem_of_getElem? (i := 46) rfl)) (hw _ (List.mem_of_getElem? (i := 47) rfl)) (hw _ (List.mem_of_getElem? (i := 48) rfl)) at_266 rfl rfl (lenOf pd_9 rfl) (Nat.le_of_eq rfl) (by decide) (by decide) (by decide) (by decide) (by decide) (by decide) (by decide) rfl ?_
  intro v39 T39 h39 st39 hq39
  obtain ⟨rfl, hh39⟩ := hq39
  rw [hh39] at st39
  refine E_aload (pc' := 271) cx st39 at_269 rfl rfl rfl ?_
  refine E_aload (pc' := 273) cx st39 at_271 rfl rfl rfl ?_
  refine E_iload (pc' := 275) cx st39 at_273 rfl rfl ?_
  refine E_aload (pc' := 277) cx st39 at_275 rfl rfl rfl ?_
  refine E_iconst (pc' := 278) cx st39 (1 : Int32) at_277 rfl rfl ?_
  refine E_callS (pc' := 281) (kc' := 154) (ks' := 444) (W := 2) (argsL := [(.ref ea), (.ref pa), (.int (Int32.ofNat N)), (.ref sa), (.int (1 : Int32))]) cx st39 [(.long (l1F e0 e1 e2 (Int32.ofNat t0) (Int32.ofNat t1) (Int32.ofNat t2) (Int32.ofNat t3) (Int32.ofNat N) (Int32.ofNat za) (Int32.ofNat zb) (Int32.ofNat zc) (0 : Int32)))] (rm4 l Z a0 hw ea pa sa e0 e1 e2 (Int32.ofNat t0) (Int32.ofNat t1) (Int32.ofNat t2) (Int32.ofNat t3) (Int32.ofNat N) (Int32.ofNat za) (Int32.ofNat zb) (Int32.ofNat zc) (1 : Int32) h35 n0 Z35 ca23 ca1 V36 V37 ca18 V38 ⟨by decide, by decide⟩) (hw _ (List.mem_of_getElem? (i := 45) rfl)) (hw _ (List.mem_of_getElem? (i := 46) rfl)) (hw _ (List.mem_of_getElem? (i := 47) rfl)) (hw _ (List.mem_of_getElem? (i := 48) rfl)) at_278 rfl rfl (lenOf pd_9 rfl) (Nat.le_of_eq rfl) (by decide) (by decide) (by decide) (by decide) (by decide) (by decide) (by decide) rfl ?_
  intro v40 T40 h40 st40 hq40
  obtain ⟨rfl, hh40⟩ := hq40
  rw [hh40] at st40
  refine E_ladd (pc' := 282) cx st40 at_281 rfl ?_
  refine E_aload (pc' := 284) cx st40 at_282 rfl rfl rfl ?_
  refine E_aload (pc' := 286) cx st40 at_284 rfl rfl rfl ?_
  refine E_iload (pc' := 288) cx st40 at_286 rfl rfl ?_
  refine E_aload (pc' := 290) cx st40 at_288 rfl rfl rfl ?_
  refine E_iconst (pc' := 291) cx st40 (2 : Int32) at_290 rfl rfl ?_
  refine E_callS (pc' := 294) (kc' := 154) (ks' := 444) (W := 2) (argsL := [(.ref ea), (.ref pa), (.int (Int32.ofNat N)), (.ref sa), (.int (2 : Int32))]) cx st40 [(.long ((l1F e0 e1 e2 (Int32.ofNat t0) (Int32.ofNat t1) (Int32.ofNat t2) (Int32.ofNat t3) (Int32.ofNat N) (Int32.ofNat za) (Int32.ofNat zb) (Int32.ofNat zc) (0 : Int32)) + (l1F e0 e1 e2 (Int32.ofNat t0) (Int32.ofNat t1) (Int32.ofNat t2) (Int32.ofNat t3) (Int32.ofNat N) (Int32.ofNat za) (Int32.ofNat zb) (Int32.ofNat zc) (1 : Int32))))] (rm4 l Z a0 hw ea pa sa e0 e1 e2 (Int32.ofNat t0) (Int32.ofNat t1) (Int32.ofNat t2) (Int32.ofNat t3) (Int32.ofNat N) (Int32.ofNat za) (Int32.ofNat zb) (Int32.ofNat zc) (2 : Int32) h35 n0 Z35 ca23 ca1 V36 V37 ca18 V38 ⟨by decide, by decide⟩) (hw _ (List.mem_of_getElem? (i := 45) rfl)) (hw _ (List.mem_of_getElem? (i := 46) rfl)) (hw _ (List.mem_of_getElem? (i := 47) rfl)) (hw _ (List.mem_of_getElem? (i := 48) rfl)) at_291 rfl rfl (lenOf pd_9 rfl) (Nat.le_of_eq rfl) (by decide) (by decide) (by decide) (by decide) (by decide) (by decide) (by decide) rfl ?_
  intro v41 T41 h41 st41 hq41
  obtain ⟨rfl, hh41⟩ := hq41
  rw [hh41] at st41
  refine E_ladd (pc' := 295) cx st41 at_294 rfl ?_
  refine E_lstore (pc' := 297) (L' := #[.val (.long e0), .second, .val (.long e1), .second, .val (.long e2), .second, .val (.int bs), .val (.int sh), .val (.int sp), .val (.int (Int32.ofNat N)), .val (.int (Int32.ofNat t0)), .val (.int (Int32.ofNat (1 + m1))), .val (.int (Int32.ofNat (1 + m1 + 1 + m2))), .val (.int (Int32.ofNat (1 + m1 + 1 + m2 + 1 + m3))), .val (.ref pa), .val (.long u17), .second, .val (.int (Int32.ofNat za)), .val (.int (Int32.ofNat zb)), .val (.int (Int32.ofNat zc)), .val (.ref sa), .val (.ref ea), .val (.ref ob), .val (.long (((l1F e0 e1 e2 (Int32.ofNat t0) (Int32.ofNat t1) (Int32.ofNat t2) (Int32.ofNat t3) (Int32.ofNat N) (Int32.ofNat za) (Int32.ofNat zb) (Int32.ofNat zc) (0 : Int32)) + (l1F e0 e1 e2 (Int32.ofNat t0) (Int32.ofNat t1) (Int32.ofNat t2) (Int32.ofNat t3) (Int32.ofNat N) (Int32.ofNat za) (Int32.ofNat zb) (Int32.ofNat zc) (1 : Int32))) + (l1F e0 e1 e2 (Int32.ofNat t0) (Int32.ofNat t1) (Int32.ofNat t2) (Int32.ofNat t3) (Int32.ofNat N) (Int32.ofNat za) (Int32.ofNat zb) (Int32.ofNat zc) (2 : Int32)))), .second]) cx st41 at_295 rfl rfl ?_
  refine E_aload (pc' := 299) cx st41 at_297 rfl rfl rfl ?_
  have X42 : Exa Z h35 ob "com/example/widowbid/widowbid/Worlds" := (X29.keep Kc)
  refine E_callV (pc' := 302) (kc' := 154) (ks' := 444) (W := 0) (a := ob) (argsL := []) cx st41 [] (rm10 l Z a0 hw ob ca cz ce wa sa h35 n0 Z35 cs za zb zc e0 e1 e2 f Dw (by omega) (by omega)) X42 (hw _ (List.mem_of_getElem? (i := 64) rfl)) (hw _ (List.mem_of_getElem? (i := 65) rfl)) (hw _ (List.mem_of_getElem? (i := 67) rfl)) (hw _ (List.mem_of_getElem? (i := 66) rfl)) (hw _ (List.mem_of_getElem? (i := 5) rfl)) (hw _ (List.mem_of_getElem? (i := 68) rfl)) at_299 rfl rfl (lenOf pd_10 rfl) (Nat.le_of_eq rfl) (by decide) (by decide) (by decide) (by decide) (by decide) (by decide) (by decide) rfl ?_
  intro v43 T43 h43 st43 hq43
  obtain ⟨rfl, hh43⟩ := hq43
  rw [hh43] at st43
  refine E_lload (pc' := 304) cx st43 at_302 rfl rfl ?_
  have heq : (f 0 za zb) = (((l1F e0 e1 e2 (Int32.ofNat t0) (Int32.ofNat t1) (Int32.ofNat t2) (Int32.ofNat t3) (Int32.ofNat N) (Int32.ofNat za) (Int32.ofNat zb) (Int32.ofNat zc) (0 : Int32)) + (l1F e0 e1 e2 (Int32.ofNat t0) (Int32.ofNat t1) (Int32.ofNat t2) (Int32.ofNat t3) (Int32.ofNat N) (Int32.ofNat za) (Int32.ofNat zb) (Int32.ofNat zc) (1 : Int32))) + (l1F e0 e1 e2 (Int32.ofNat t0) (Int32.ofNat t1) (Int32.ofNat t2) (Int32.ofNat t3) (Int32.ofNat N) (Int32.ofNat za) (Int32.ofNat zb) (Int32.ofNat zc) (2 : Int32))) := by rw [hf]; exact law_all e0 e1 e2 _ _ _ _ (by omega) (by omega) hcp hcl
  refine E_lif_neN (pc' := 308) cx st43 at_304 at_305 rfl heq ?_
  refine E_iconst (pc' := 309) cx st43 (1 : Int32) at_308 rfl rfl ?_
  refine E_goto (pc' := 313) cx st43 at_309 (by decide) (by decide) ?_
  refine E_ireturn (t := .boolean) cx st43 at_313 rfl (by simp) rfl (by decide) (by decide) ?_
  exact rfl
set_option maxRecDepth 65536 in
set_option maxHeartbeats 40000000 in
theorem comes_1 {Post : Tables → Env → Array Value → State → Outcome → State → Prop} (hpost : ∀ tb e args s v u, (limb_1_1.after args s (.returned v) u = true ∧ limb_1_2.after args s (.returned v) u = true ∧ True) → FrameEnd s (.returned v) u (Jvm.fieldLocs frame_1_writes args s ++ Jvm.arrayLocs frame_1_arrays args s ++ Jvm.staticLocs frame_1_statics s) 280 896 → Post tb e args s (.returned v) u) :
    ArmFor flags0 classFile x code maxLocals ret World_1 tables_1 room_1 Calls_1 rest_1 Pre_1 Post := by
  intro l hfl _ _ p e ha hc hk s m args below hf hA hF happ hP
  obtain ⟨hcalls, hrest, hpre⟩ := hP
  obtain ⟨-, -, -, hnamed, -, -, -, hat⟩ := (Spec.applies_iff hf).mp happ
  obtain ⟨hg, hn⟩ := and_e (Cond.before_iff.mp (show (Jvm.Cond.and given_1 narrow_1).before args s = true from hpre))
  obtain ⟨g0, hg⟩ := and_e hg
  obtain ⟨ga0, hg⟩ := and_e hg
  obtain ⟨ga1, hg⟩ := and_e hg
  obtain ⟨ga2, hg⟩ := and_e hg
  obtain ⟨ga3, hg⟩ := and_e hg
  obtain ⟨ga4, hg⟩ := and_e hg
  have ga5 := hg
  obtain ⟨w0, w1, w2, w3, w4, w5, rfl⟩ : ∃ w0 w1 w2 w3 w4 w5 : Value, args = #[w0, w1, w2, w3, w4, w5] := by
    have hs : args.size = 6 := by simpa [Cond.value, given_1] using g0
    obtain ⟨L⟩ := args
    match L, hs with
    | [w0, w1, w2, w3, w4, w5], _ => exact ⟨w0, w1, w2, w3, w4, w5, rfl⟩
  have hw := fun d (hd : d ∈ tables_1) => atoms_spec (ws := Jvm.Cond.code x code maxLocals ret :: tables_1) hat d (List.mem_cons_of_mem _ hd)
  obtain ⟨i0, ei0⟩ := isL_v ga0
  obtain rfl : w0 = (.long i0) := Option.some.inj ei0
  obtain ⟨i1, ei1⟩ := isL_v ga1
  obtain rfl : w1 = (.long i1) := Option.some.inj ei1
  obtain ⟨i2, ei2⟩ := isL_v ga2
  obtain rfl : w2 = (.long i2) := Option.some.inj ei2
  obtain ⟨i3, ei3⟩ := is_v ga3
  obtain rfl : w3 = (.int i3) := Option.some.inj ei3
  obtain ⟨i4, ei4⟩ := is_v ga4
  obtain rfl : w4 = (.int i4) := Option.some.inj ei4
  obtain ⟨i5, ei5⟩ := is_v ga5
  obtain rfl : w5 = (.int i5) := Option.some.inj ei5
  obtain ⟨n, o, h1, h2, h3, _, L, rfl, ⟨N, rfl⟩, hq⟩ := rm0 l s _ hw i0 i1 i2 i3 i4 i5 s.heap s.heap.size (Nat.le_refl _) tables_1 p e ha hc hk s m _ below hf ((Spec.applies_iff_loose hf).mp happ).1 ⟨rfl, State.Warmed39.refl s, rfl⟩ trivial
  refine ⟨n, _, h1, h2, h3, hpost _ _ _ _ _ _ ⟨Cond.after_iff.mpr rfl, Cond.after_iff.mpr (eq_i res_at (Term.int_eval (1)) rfl), trivial⟩ ⟨hq.1, hq.2.1, (hq.2.2.sift fun y hy => Or.inr (N y hy)).mono (by decide) (by decide)⟩⟩
theorem main_1_1 : Claimed_1_1 := comes_1 fun _ _ _ _ _ _ h hF => ⟨h.1, hF⟩
theorem main_1_2 : Claimed_1_2 := comes_1 fun _ _ _ _ _ _ h hF => ⟨h.2.1, hF⟩
end Jvm.Pilot.@@N@@
namespace Jvm.Pilot.@@N@@
open Jvm Jvm.ClassFile Sem Op Lib Jvm.Free Jvm.Stand Jvm.Pilot.@@N@@.Jvm.D
/-! MADE BY PROGRAM (witnessworld.py) out of the Statement's table words and the real class files: 17 classes; the members and pool entries that the words name. The judged class is class 1, her method 1. -/
namespace start1
open Jvm.ClassFile
def u (s : String) : CpInfo := .utf8 (stringToUtf16 s)
/-- a pool by its gaps: so many unusable entries, then the entry; so many at the end -/
def gap : Nat → List CpInfo → List CpInfo
  | 0, r => r
  | n + 1, r => .unusable :: gap n r
def poolList (es : List (Nat × CpInfo)) (last : Nat) : List CpInfo := es.foldr (fun e r => gap e.1 (e.2 :: r)) (gap last [])
def pool (es : List (Nat × CpInfo)) (last : Nat) : Array CpInfo := ⟨poolList es last⟩
def fileOf (pool : Array CpInfo) (this : Nat) (attrs : Array Attribute := #[]) (ms : Array MethodInfo := #[]) (fl : Nat := 33) (sup : Nat := 0) (ifs : Array Nat := #[]) (fds : Array FieldInfo := #[]) : ClassFile where
  minorVersion := 0
  majorVersion := 65
  constantPool := pool
  accessFlags := fl
  thisClass := this
  superClass := sup
  interfaces := ifs
  fields := fds
  methods := ms
  attributes := attrs
def plain (name : String) (sup : Option ClassId) : Class where
  name := name
  kind := .ordinary
  loader := none
  accessFlags := 33
  super := sup
  interfaces := #[]
  cf := none
  fields := #[]
  methods := #[]
  instanceTypes := #[]
  staticTypes := #[]
  resolved := #[]
  callSites := []
  init := .initialized
  statics := none
  mirror := none

def pool0 : Array CpInfo := pool [(5, u "<init>"), (0, u "()V"), (1, .class_ 10), (1, u "java/lang/Object"), (85, u "clone"), (0, u "()Ljava/lang/Object;")] 26

def k0c0 : Code := { maxStack := 0, maxLocals := 1, code := object_method_1_code, exceptionTable := #[], attributes := #[] }
def k0m0 : Method := { name := "<init>", desc := "()V", sig := { parameters := [], returnType := none }, accessFlags := 1, code := some k0c0 }
def k0m1 : Method := { name := "clone", desc := "()Ljava/lang/Object;", sig := { parameters := [], returnType := some (.object "java/lang/Object") }, accessFlags := 260, code := none }
/-- java/lang/Object -/
def k0 : Class := { plain "java/lang/Object" none with
  accessFlags := 33
  interfaces := #[]
  cf := some (fileOf pool0 8 #[] #[{ accessFlags := 1, nameIndex := 5, descriptorIndex := 6, attributes := #[] }, { accessFlags := 260, nameIndex := 96, descriptorIndex := 97, attributes := #[] }] 33 0 #[] #[])
  fields := #[]
  methods := #[k0m0, k0m1]
  instanceTypes := #[]
  staticTypes := #[]
  resolved := Array.replicate 124 none
  statics := none }

def pool1 : Array CpInfo := pool [(2, .class_ 4), (1, u "java/lang/Object"), (0, u "<init>"), (0, u "()V"), (0, .integer 65535), (0, .class_ 9), (0, u "com/example/widowbid/widowbid/Worlds"), (0, .methodref 8 11), (0, .nameAndType 5 12), (0, u "(J[I[J)V"), (0, .methodref 14 15), (0, .class_ 16), (0, .nameAndType 17 18), (0, u "com/example/widowbid/widowbid/WorldsCountPinLaw"), (0, u "l1"), (0, u "([J[II[II)J"), (0, .methodref 8 20), (0, .nameAndType 21 22), (0, u "count"), (0, u "()J"), (0, .methodref 14 24), (0, .nameAndType 25 26), (0, u "fits"), (0, u "([J[IIII)Z"), (0, .methodref 14 28), (0, .nameAndType 29 30), (0, u "in"), (0, u "(IIII)I"), (0, .methodref 14 32), (0, .nameAndType 33 34), (0, u "one"), (0, u "([J[II[IIIII)J"), (0, .methodref 14 36), (0, .nameAndType 37 38), (0, u "l3"), (0, u "([J[II[IIII)J"), (0, .methodref 14 40), (0, .nameAndType 41 42), (0, u "l2"), (0, u "([J[II[III)J"), (2, u "law"), (0, u "(JJJIII)Z")] 7

def k1m0 : Method := { name := "<init>", desc := "()V", sig := { parameters := [], returnType := none }, accessFlags := 1, code := none }
def k1c1 : Code := { maxStack := 7, maxLocals := 25, code := code, exceptionTable := #[], attributes := #[] }
def k1m1 : Method := { name := "law", desc := "(JJJIII)Z", sig := { parameters := [.long, .long, .long, .int, .int, .int], returnType := some .boolean }, accessFlags := 9, code := some k1c1 }
def k1c2 : Code := { maxStack := 6, maxLocals := 5, code := method_3_code, exceptionTable := #[], attributes := #[] }
def k1m2 : Method := { name := "fits", desc := "([J[IIII)Z", sig := { parameters := [(.array .long), (.array .int), .int, .int, .int], returnType := some .boolean }, accessFlags := 10, code := some k1c2 }
def k1c3 : Code := { maxStack := 2, maxLocals := 4, code := method_4_code, exceptionTable := #[], attributes := #[] }
def k1m3 : Method := { name := "in", desc := "(IIII)I", sig := { parameters := [.int, .int, .int, .int], returnType := some .int }, accessFlags := 10, code := some k1c3 }
def k1c4 : Code := { maxStack := 5, maxLocals := 12, code := method_5_code, exceptionTable := #[], attributes := #[] }
def k1m4 : Method := { name := "one", desc := "([J[II[IIIII)J", sig := { parameters := [(.array .long), (.array .int), .int, (.array .int), .int, .int, .int, .int], returnType := some .long }, accessFlags := 10, code := some k1c4 }
def k1c5 : Code := { maxStack := 10, maxLocals := 7, code := method_6_code, exceptionTable := #[], attributes := #[] }
def k1m5 : Method := { name := "l3", desc := "([J[II[IIII)J", sig := { parameters := [(.array .long), (.array .int), .int, (.array .int), .int, .int, .int], returnType := some .long }, accessFlags := 10, code := some k1c5 }
def k1c6 : Code := { maxStack := 9, maxLocals := 6, code := method_7_code, exceptionTable := #[], attributes := #[] }
def k1m6 : Method := { name := "l2", desc := "([J[II[III)J", sig := { parameters := [(.array .long), (.array .int), .int, (.array .int), .int, .int], returnType := some .long }, accessFlags := 10, code := some k1c6 }
def k1c7 : Code := { maxStack := 8, maxLocals := 5, code := method_8_code, exceptionTable := #[], attributes := #[] }
def k1m7 : Method := { name := "l1", desc := "([J[II[II)J", sig := { parameters := [(.array .long), (.array .int), .int, (.array .int), .int], returnType := some .long }, accessFlags := 10, code := some k1c7 }
/-- com/example/widowbid/widowbid/WorldsCountPinLaw -/
def k1 : Class := { plain "com/example/widowbid/widowbid/WorldsCountPinLaw" (some 0) with
  accessFlags := 49
  interfaces := #[]
  cf := some (fileOf pool1 14 #[] #[{ accessFlags := 1, nameIndex := 5, descriptorIndex := 6, attributes := #[] }, { accessFlags := 9, nameIndex := 45, descriptorIndex := 46, attributes := #[] }, { accessFlags := 10, nameIndex := 25, descriptorIndex := 26, attributes := #[] }, { accessFlags := 10, nameIndex := 29, descriptorIndex := 30, attributes := #[] }, { accessFlags := 10, nameIndex := 33, descriptorIndex := 34, attributes := #[] }, { accessFlags := 10, nameIndex := 37, descriptorIndex := 38, attributes := #[] }, { accessFlags := 10, nameIndex := 41, descriptorIndex := 42, attributes := #[] }, { accessFlags := 10, nameIndex := 17, descriptorIndex := 18, attributes := #[] }] 49 2 #[] #[])
  fields := #[]
  methods := #[k1m0, k1m1, k1m2, k1m3, k1m4, k1m5, k1m6, k1m7]
  instanceTypes := #[]
  staticTypes := #[]
  resolved := Array.replicate 54 none
  statics := none }

def pool2 : Array CpInfo := pool [(1, .methodref 2 3), (0, .class_ 4), (0, .nameAndType 5 6), (0, u "java/lang/Object"), (0, u "<init>"), (0, u "()V"), (0, .class_ 8), (0, u "com/example/widowbid/widowbid/Worlds"), (0, .methodref 10 11), (0, .class_ 12), (0, .nameAndType 13 14), (0, u "java/lang/Long"), (0, u "bitCount"), (0, u "(J)I"), (9, .fieldref 7 25), (0, .nameAndType 26 27), (0, u "cards"), (0, u "[I"), (0, .methodref 10 29), (0, .nameAndType 30 14), (0, u "numberOfTrailingZeros"), (0, .methodref 32 33), (0, .class_ 27), (0, .nameAndType 34 35), (0, u "clone"), (0, u "()Ljava/lang/Object;"), (0, .fieldref 7 37), (0, .nameAndType 38 27), (0, u "sizes"), (0, .methodref 40 33), (0, .class_ 41), (0, u "[J"), (0, .fieldref 7 43), (0, .nameAndType 44 41), (0, u "excluded"), (0, .class_ 46), (0, u "[[[J"), (0, .fieldref 7 48), (0, .nameAndType 49 46), (0, u "ways"), (0, .methodref 7 51), (0, .nameAndType 52 53), (0, u "after"), (0, u "(IIII)J"), (2, u "count"), (0, u "()J"), (11, u "PLACES"), (0, u "I"), (2, u "(J[I[J)V")] 22

def k2c0 : Code := { maxStack := 7, maxLocals := 12, code := prog_68_method_1_code, exceptionTable := #[], attributes := #[] }
def k2m0 : Method := { name := "<init>", desc := "(J[I[J)V", sig := { parameters := [.long, (.array .int), (.array .long)], returnType := none }, accessFlags := 0, code := some k2c0 }
def k2c1 : Code := { maxStack := 3, maxLocals := 1, code := prog_68_method_2_code, exceptionTable := #[], attributes := #[] }
def k2m1 : Method := { name := "count", desc := "()J", sig := { parameters := [], returnType := some .long }, accessFlags := 0, code := some k2c1 }
def k2c2 : Code := { maxStack := 6, maxLocals := 7, code := prog_68_method_4_code, exceptionTable := #[], attributes := #[] }
def k2m2 : Method := { name := "after", desc := "(IIII)J", sig := { parameters := [.int, .int, .int, .int], returnType := some .long }, accessFlags := 2, code := some k2c2 }
/-- com/example/widowbid/widowbid/Worlds -/
def k2 : Class := { plain "com/example/widowbid/widowbid/Worlds" (some 0) with
  accessFlags := 48
  interfaces := #[]
  cf := some (fileOf pool2 7 #[] #[{ accessFlags := 0, nameIndex := 5, descriptorIndex := 73, attributes := #[] }, { accessFlags := 0, nameIndex := 56, descriptorIndex := 57, attributes := #[] }, { accessFlags := 2, nameIndex := 52, descriptorIndex := 53, attributes := #[] }] 48 2 #[] #[{ accessFlags := 24, nameIndex := 69, descriptorIndex := 70, attributes := #[] }, { accessFlags := 18, nameIndex := 26, descriptorIndex := 27, attributes := #[] }, { accessFlags := 18, nameIndex := 44, descriptorIndex := 41, attributes := #[] }, { accessFlags := 18, nameIndex := 38, descriptorIndex := 27, attributes := #[] }, { accessFlags := 18, nameIndex := 49, descriptorIndex := 46, attributes := #[] }])
  fields := #[{ name := "PLACES", type := .int, accessFlags := 24, slot := 0, constantValue := 0 }, { name := "cards", type := (.array .int), accessFlags := 18, slot := 0, constantValue := 0 }, { name := "excluded", type := (.array .long), accessFlags := 18, slot := 1, constantValue := 0 }, { name := "sizes", type := (.array .int), accessFlags := 18, slot := 2, constantValue := 0 }, { name := "ways", type := (.array (.array (.array .long))), accessFlags := 18, slot := 3, constantValue := 0 }]
  methods := #[k2m0, k2m1, k2m2]
  instanceTypes := #[(.array .int), (.array .long), (.array .int), (.array (.array (.array .long)))]
  staticTypes := #[.int]
  resolved := Array.replicate 96 none
  statics := none }

def pool3 : Array CpInfo := pool [(1, .class_ 2), (0, u "java/io/Serializable"), (0, .class_ 4), (0, u "java/lang/Object")] 2

/-- java/io/Serializable -/
def k3 : Class := { plain "java/io/Serializable" (some 0) with
  accessFlags := 1537
  interfaces := #[]
  cf := some (fileOf pool3 1 #[] #[] 1537 3 #[] #[])
  fields := #[]
  methods := #[]
  instanceTypes := #[]
  staticTypes := #[]
  resolved := Array.replicate 7 none
  statics := none }

def pool4 : Array CpInfo := pool [(2, .class_ 4), (1, u "java/lang/Object"), (0, u "<init>"), (0, u "()V"), (1, .class_ 10), (1, u "java/lang/Number"), (2, .class_ 14), (0, u "java/io/Serializable"), (0, u "serialVersionUID"), (0, u "J")] 20

def k4m0 : Method := { name := "<init>", desc := "()V", sig := { parameters := [], returnType := none }, accessFlags := 1, code := none }
/-- java/lang/Number -/
def k4 : Class := { plain "java/lang/Number" (some 0) with
  accessFlags := 1057
  interfaces := #[3]
  cf := some (fileOf pool4 8 #[] #[{ accessFlags := 1, nameIndex := 5, descriptorIndex := 6, attributes := #[] }] 1057 2 #[13] #[{ accessFlags := 26, nameIndex := 15, descriptorIndex := 16, attributes := #[] }])
  fields := #[{ name := "serialVersionUID", type := .long, accessFlags := 26, slot := 0, constantValue := 0 }]
  methods := #[k4m0]
  instanceTypes := #[]
  staticTypes := #[.long]
  resolved := Array.replicate 37 none
  statics := none }

def pool5 : Array CpInfo := pool [(1, .class_ 2), (0, u "java/lang/Comparable"), (0, .class_ 4), (0, u "java/lang/Object")] 7

/-- java/lang/Comparable -/
def k5 : Class := { plain "java/lang/Comparable" (some 0) with
  accessFlags := 1537
  interfaces := #[]
  cf := some (fileOf pool5 1 #[] #[] 1537 3 #[] #[])
  fields := #[]
  methods := #[]
  instanceTypes := #[]
  staticTypes := #[]
  resolved := Array.replicate 12 none
  statics := none }

def pool6 : Array CpInfo := pool [(1, .class_ 2), (0, u "java/lang/constant/Constable"), (0, .class_ 4), (0, u "java/lang/Object")] 6

/-- java/lang/constant/Constable -/
def k6 : Class := { plain "java/lang/constant/Constable" (some 0) with
  accessFlags := 1537
  interfaces := #[]
  cf := some (fileOf pool6 1 #[] #[] 1537 3 #[] #[])
  fields := #[]
  methods := #[]
  instanceTypes := #[]
  staticTypes := #[]
  resolved := Array.replicate 11 none
  statics := none }

def pool7 : Array CpInfo := pool [(1, .class_ 2), (0, u "java/lang/constant/ConstantDesc"), (0, .class_ 4), (0, u "java/lang/Object")] 32

/-- java/lang/constant/ConstantDesc -/
def k7 : Class := { plain "java/lang/constant/ConstantDesc" (some 0) with
  accessFlags := 1537
  interfaces := #[]
  cf := some (fileOf pool7 1 #[] #[] 1537 3 #[] #[])
  fields := #[]
  methods := #[]
  instanceTypes := #[]
  staticTypes := #[]
  resolved := Array.replicate 37 none
  statics := none }

def pool8 : Array CpInfo := pool [(1, .class_ 2), (0, u "java/lang/Long"), (15, .class_ 20), (1, u "java/lang/Integer"), (80, u "(J)I"), (133, .class_ 237), (1, u "java/lang/Long$LongCache"), (33, .class_ 272), (0, u "java/lang/Number"), (2, u "value"), (0, u "J"), (33, u "(I)I"), (0, .methodref 18 312), (0, .nameAndType 313 310), (0, u "numberOfTrailingZeros"), (0, .long 6148914691236517205), (1, .long 3689348814741910323), (1, .long 1085102592571150095), (42, u "TYPE"), (0, u "Ljava/lang/Class;"), (0, .class_ 364), (0, u "java/lang/Comparable"), (0, .class_ 366), (0, u "java/lang/constant/Constable"), (0, .class_ 368), (0, u "java/lang/constant/ConstantDesc"), (0, u "MIN_VALUE"), (1, u "MAX_VALUE"), (4, u "SIZE"), (0, u "I"), (1, u "BYTES"), (1, u "serialVersionUID"), (94, u "bitCount")] 47

def k8c0 : Code := { maxStack := 4, maxLocals := 3, code := jdk_35_method_49_code, exceptionTable := #[], attributes := #[] }
def k8m0 : Method := { name := "numberOfTrailingZeros", desc := "(J)I", sig := { parameters := [.long], returnType := some .int }, accessFlags := 9, code := some k8c0 }
def k8c1 : Code := { maxStack := 6, maxLocals := 2, code := jdk_35_method_50_code, exceptionTable := #[], attributes := #[] }
def k8m1 : Method := { name := "bitCount", desc := "(J)I", sig := { parameters := [.long], returnType := some .int }, accessFlags := 9, code := some k8c1 }
/-- java/lang/Long -/
def k8 : Class := { plain "java/lang/Long" (some 4) with
  accessFlags := 49
  interfaces := #[5, 6, 7]
  cf := some (fileOf pool8 1 #[.nestMembers #[235]] #[{ accessFlags := 9, nameIndex := 313, descriptorIndex := 101, attributes := #[] }, { accessFlags := 9, nameIndex := 476, descriptorIndex := 101, attributes := #[] }] 49 271 #[363, 365, 367] #[{ accessFlags := 25, nameIndex := 369, descriptorIndex := 276, attributes := #[] }, { accessFlags := 25, nameIndex := 371, descriptorIndex := 276, attributes := #[] }, { accessFlags := 25, nameIndex := 361, descriptorIndex := 362, attributes := #[] }, { accessFlags := 18, nameIndex := 275, descriptorIndex := 276, attributes := #[] }, { accessFlags := 25, nameIndex := 376, descriptorIndex := 377, attributes := #[] }, { accessFlags := 25, nameIndex := 379, descriptorIndex := 377, attributes := #[] }, { accessFlags := 26, nameIndex := 381, descriptorIndex := 276, attributes := #[] }])
  fields := #[{ name := "MIN_VALUE", type := .long, accessFlags := 25, slot := 0, constantValue := 0 }, { name := "MAX_VALUE", type := .long, accessFlags := 25, slot := 1, constantValue := 0 }, { name := "TYPE", type := (.object "java/lang/Class"), accessFlags := 25, slot := 2, constantValue := 0 }, { name := "value", type := .long, accessFlags := 18, slot := 0, constantValue := 0 }, { name := "SIZE", type := .int, accessFlags := 25, slot := 3, constantValue := 0 }, { name := "BYTES", type := .int, accessFlags := 25, slot := 4, constantValue := 0 }, { name := "serialVersionUID", type := .long, accessFlags := 26, slot := 5, constantValue := 0 }]
  methods := #[k8m0, k8m1]
  instanceTypes := #[.long]
  staticTypes := #[.long, .long, (.object "java/lang/Class"), .int, .int, .long]
  resolved := Array.replicate 524 none
  statics := none }

def pool9 : Array CpInfo := pool [(1, .class_ 2), (0, u "java/lang/Cloneable"), (0, .class_ 4), (0, u "java/lang/Object")] 2

/-- java/lang/Cloneable -/
def k9 : Class := { plain "java/lang/Cloneable" (some 0) with
  accessFlags := 1537
  interfaces := #[]
  cf := some (fileOf pool9 1 #[] #[] 1537 3 #[] #[])
  fields := #[]
  methods := #[]
  instanceTypes := #[]
  staticTypes := #[]
  resolved := Array.replicate 7 none
  statics := none }

def pool10 : Array CpInfo := pool [(1, .class_ 2), (0, u "java/lang/Integer"), (16, u "digits"), (0, u "[C"), (33, u "(I)I"), (30, u "DigitOnes"), (0, u "[B"), (2, u "DigitTens"), (99, .class_ 190), (0, u "java/lang/Integer$IntegerCache"), (3, u "I"), (8, .class_ 204), (0, u "java/lang/Number"), (2, u "value"), (56, .integer 65536), (37, u "TYPE"), (0, u "Ljava/lang/Class;"), (0, .class_ 305), (0, u "java/lang/Comparable"), (0, .class_ 307), (0, u "java/lang/constant/Constable"), (0, .class_ 309), (0, u "java/lang/constant/ConstantDesc"), (0, u "MIN_VALUE"), (1, u "MAX_VALUE"), (3, u "SIZE"), (1, u "BYTES"), (1, u "serialVersionUID"), (0, u "J"), (84, u "numberOfTrailingZeros")] 46

def k10c0 : Code := { maxStack := 3, maxLocals := 2, code := jdk_33_method_48_code, exceptionTable := #[], attributes := #[] }
def k10m0 : Method := { name := "numberOfTrailingZeros", desc := "(I)I", sig := { parameters := [.int], returnType := some .int }, accessFlags := 9, code := some k10c0 }
/-- java/lang/Integer -/
def k10 : Class := { plain "java/lang/Integer" (some 4) with
  accessFlags := 49
  interfaces := #[5, 6, 7]
  cf := some (fileOf pool10 1 #[.nestMembers #[189]] #[{ accessFlags := 9, nameIndex := 406, descriptorIndex := 54, attributes := #[] }] 49 203 #[304, 306, 308] #[{ accessFlags := 25, nameIndex := 310, descriptorIndex := 194, attributes := #[] }, { accessFlags := 25, nameIndex := 312, descriptorIndex := 194, attributes := #[] }, { accessFlags := 25, nameIndex := 302, descriptorIndex := 303, attributes := #[] }, { accessFlags := 24, nameIndex := 19, descriptorIndex := 20, attributes := #[] }, { accessFlags := 24, nameIndex := 89, descriptorIndex := 86, attributes := #[] }, { accessFlags := 24, nameIndex := 85, descriptorIndex := 86, attributes := #[] }, { accessFlags := 18, nameIndex := 207, descriptorIndex := 194, attributes := #[] }, { accessFlags := 25, nameIndex := 316, descriptorIndex := 194, attributes := #[] }, { accessFlags := 25, nameIndex := 318, descriptorIndex := 194, attributes := #[] }, { accessFlags := 26, nameIndex := 320, descriptorIndex := 321, attributes := #[] }])
  fields := #[{ name := "MIN_VALUE", type := .int, accessFlags := 25, slot := 0, constantValue := 0 }, { name := "MAX_VALUE", type := .int, accessFlags := 25, slot := 1, constantValue := 0 }, { name := "TYPE", type := (.object "java/lang/Class"), accessFlags := 25, slot := 2, constantValue := 0 }, { name := "digits", type := (.array .char), accessFlags := 24, slot := 3, constantValue := 0 }, { name := "DigitTens", type := (.array .byte), accessFlags := 24, slot := 4, constantValue := 0 }, { name := "DigitOnes", type := (.array .byte), accessFlags := 24, slot := 5, constantValue := 0 }, { name := "value", type := .int, accessFlags := 18, slot := 0, constantValue := 0 }, { name := "SIZE", type := .int, accessFlags := 25, slot := 6, constantValue := 0 }, { name := "BYTES", type := .int, accessFlags := 25, slot := 7, constantValue := 0 }, { name := "serialVersionUID", type := .long, accessFlags := 26, slot := 8, constantValue := 0 }]
  methods := #[k10m0]
  instanceTypes := #[.int]
  staticTypes := #[.int, .int, (.object "java/lang/Class"), (.array .char), (.array .byte), (.array .byte), .int, .int, .long]
  resolved := Array.replicate 453 none
  statics := none }

/-- the primitive byte -/
def k11 : Class := { plain "byte" none with kind := .primitive 'B', accessFlags := 0x411 }
/-- [B -/
def k12 : Class := { plain "[B" (some 0) with kind := .array 11 .byte, interfaces := #[9, 3], accessFlags := 1041 }

/-- the primitive int -/
def k13 : Class := { plain "int" none with kind := .primitive 'I', accessFlags := 0x411 }
/-- [I -/
def k14 : Class := { plain "[I" (some 0) with kind := .array 13 .int, interfaces := #[9, 3], accessFlags := 1041 }

/-- the primitive long -/
def k15 : Class := { plain "long" none with kind := .primitive 'J', accessFlags := 0x411 }
/-- [J -/
def k16 : Class := { plain "[J" (some 0) with kind := .array 15 .long, interfaces := #[9, 3], accessFlags := 1041 }

def heap : Heap := #[]
/-- arrays of long arrays -/
def k17 : Class := { plain "[[J" (some 0) with kind := .array 16 (.array .long), interfaces := #[9, 3], accessFlags := 1041 }
/-- arrays of them -/
def k18 : Class := { plain "[[[J" (some 0) with kind := .array 17 (.array (.array .long)), interfaces := #[9, 3], accessFlags := 1041 }
def classes : Array Class := #[k0, k1, k2, k3, k4, k5, k6, k7, k8, k9, k10, k11, k12, k13, k14, k15, k16, k17, k18]
def interned : List (Array UInt16 × Addr) := []
def slotsUsed : Nat := 0
def theMethod : MethodId := ⟨1, 1⟩
def args0 : Array Value := #[.long 5, .long 7, .long 9, .int 3, .int 8192, .int 65537]
def aboutOver (below : List Frame) : State where
  vm := { classes := classes, interned := interned.toArray }
  heap := heap
  slotsUsed := slotsUsed
  threads := #[{ frames := .invoking theMethod args0 :: below }]
def below0 : List Frame := [.native { method := ⟨0, 0⟩, args := #[] }]
def about1 : State := aboutOver below0
def p0 : Program := .bare "" "" ""
def e0 : Env := launch0.env 0 0 0
theorem w_frames : about1.frames = Frame.invoking theMethod args0 :: below0 := rfl
set_option maxRecDepth 65536 in
theorem w_args : argsFit about1.vm theMethod args0 = true := by decide +kernel
set_option maxRecDepth 65536 in
theorem w_heap : heapFits about1 = true := by decide +kernel
set_option maxRecDepth 65536 in
theorem w_runnable : about1.curStatus? = some .runnable := by decide +kernel
set_option maxRecDepth 65536 in
theorem w_alone : about1.alone = true := by decide +kernel
set_option maxRecDepth 65536 in
theorem w_named : about1.methodNamed? x = some theMethod := by decide +kernel
set_option maxRecDepth 65536 in
theorem w_hears : about1.hears theMethod below0 = true := by decide +kernel
set_option maxRecDepth 65536 in
theorem w_ripe : about1.ripe theMethod args0 below0 = true := by decide +kernel
theorem w_running : about1.status = .running := rfl
set_option maxRecDepth 65536 in
theorem w_room : about1.hasRoom e0.platform room_1 = true :=
  launch0.hasRoom_least _ room_1 (by decide +kernel) (by decide +kernel) (by decide +kernel) (by decide +kernel) (by decide +kernel) (by decide +kernel)
theorem allAtoms_all (ts : List Jvm.Cond) (a : Array Jvm.Value) (st : Jvm.State) : (allAtoms ts).before a st = ts.all (fun c => c.before a st) := by
  induction ts with
  | nil => rfl
  | cons c t ih =>
    show (Jvm.Cond.and c (allAtoms t)).before a st = _
    rw [Jvm.Cond.before_and, ih, List.all_cons]
def words1 : List Jvm.Cond := Jvm.Cond.code x code maxLocals ret :: tables_1
/-- a 'code' word, met by the world's own term for the bytes: nothing is compared byte by byte -/
theorem code_word {y : MethodName} {bytes : ByteArray} {mx : Nat} {rt : Option FieldType} {a : Array Value} {s : State} {m : MethodId} {meth : Method} {c : Code} (h1 : s.methodNamed? y = some m) (h2 : s.vm.method? m = some meth) (h3 : meth.code = some c) (h4 : c.code = bytes)
    (h5 : (c.maxLocals == mx && c.exceptionTable.isEmpty && decide (c.maxStack ≤ mostOperands) && decide (meth.sig.returnType = rt) && !meth.locks && decide (parseMethodDescriptor y.desc = some meth.sig)) = true) : (Jvm.Cond.code y bytes mx rt).before a s = true := by
  simp only [Bool.and_eq_true, beq_iff_eq, Bool.not_eq_true', decide_eq_true_eq] at h5
  obtain ⟨⟨⟨⟨⟨g1, g2⟩, g3⟩, g4⟩, g5⟩, g6⟩ := h5
  simp [Cond.before, Cond.holds, Cond.value, h1, h2, h3, h4, g1, g2, g3, g4, g5, g6]
def isCode : Jvm.Cond → Bool
  | .code _ _ _ _ => true
  | _ => false
theorem all_split {L : List Jvm.Cond} {P : Jvm.Cond → Bool} (h1 : L.all (fun c => isCode c || P c) = true) (h2 : ∀ c ∈ L.filter isCode, P c = true) : L.all P = true := by
  refine List.all_eq_true.mpr fun c hc => ?_
  have h := List.all_eq_true.mp h1 c hc
  rcases Bool.eq_false_or_eq_true (isCode c) with hi | hi
  · exact h2 c (List.mem_filter.mpr ⟨hc, hi⟩)
  · simpa [hi] using h
set_option maxRecDepth 65536 in
theorem w_c0 : (Jvm.Cond.code x code maxLocals ret).before args0 about1 = true := code_word (m := ⟨1, 1⟩) (meth := k1m1) (c := k1c1) (by decide +kernel) rfl rfl rfl (by decide +kernel)
set_option maxRecDepth 65536 in
theorem w_c1 : (Jvm.Cond.code ({ cls := "com/example/widowbid/widowbid/Worlds", name := "<init>", desc := "(J[I[J)V" } : Jvm.MethodName) prog_68_method_1_code (12 : Nat) (Option.none : Option Jvm.ClassFile.FieldType)).before args0 about1 = true := code_word (m := ⟨2, 0⟩) (meth := k2m0) (c := k2c0) (by decide +kernel) rfl rfl rfl (by decide +kernel)
set_option maxRecDepth 65536 in
theorem w_c2 : (Jvm.Cond.code ({ cls := "java/lang/Object", name := "<init>", desc := "()V" } : Jvm.MethodName) object_method_1_code (1 : Nat) (Option.none : Option Jvm.ClassFile.FieldType)).before args0 about1 = true := code_word (m := ⟨0, 0⟩) (meth := k0m0) (c := k0c0) (by decide +kernel) rfl rfl rfl (by decide +kernel)
set_option maxRecDepth 65536 in
theorem w_c3 : (Jvm.Cond.code ({ cls := "java/lang/Long", name := "bitCount", desc := "(J)I" } : Jvm.MethodName) jdk_35_method_50_code (2 : Nat) (Option.some Jvm.ClassFile.FieldType.int)).before args0 about1 = true := code_word (m := ⟨8, 1⟩) (meth := k8m1) (c := k8c1) (by decide +kernel) rfl rfl rfl (by decide +kernel)
set_option maxRecDepth 65536 in
theorem w_c4 : (Jvm.Cond.code ({ cls := "com/example/widowbid/widowbid/WorldsCountPinLaw", name := "l1", desc := "([J[II[II)J" } : Jvm.MethodName) method_8_code (5 : Nat) (Option.some Jvm.ClassFile.FieldType.long)).before args0 about1 = true := code_word (m := ⟨1, 7⟩) (meth := k1m7) (c := k1c7) (by decide +kernel) rfl rfl rfl (by decide +kernel)
set_option maxRecDepth 65536 in
theorem w_c5 : (Jvm.Cond.code ({ cls := "com/example/widowbid/widowbid/WorldsCountPinLaw", name := "l2", desc := "([J[II[III)J" } : Jvm.MethodName) method_7_code (6 : Nat) (Option.some Jvm.ClassFile.FieldType.long)).before args0 about1 = true := code_word (m := ⟨1, 6⟩) (meth := k1m6) (c := k1c6) (by decide +kernel) rfl rfl rfl (by decide +kernel)
set_option maxRecDepth 65536 in
theorem w_c6 : (Jvm.Cond.code ({ cls := "com/example/widowbid/widowbid/WorldsCountPinLaw", name := "l3", desc := "([J[II[IIII)J" } : Jvm.MethodName) method_6_code (7 : Nat) (Option.some Jvm.ClassFile.FieldType.long)).before args0 about1 = true := code_word (m := ⟨1, 5⟩) (meth := k1m5) (c := k1c5) (by decide +kernel) rfl rfl rfl (by decide +kernel)
set_option maxRecDepth 65536 in
theorem w_c7 : (Jvm.Cond.code ({ cls := "com/example/widowbid/widowbid/WorldsCountPinLaw", name := "one", desc := "([J[II[IIIII)J" } : Jvm.MethodName) method_5_code (12 : Nat) (Option.some Jvm.ClassFile.FieldType.long)).before args0 about1 = true := code_word (m := ⟨1, 4⟩) (meth := k1m4) (c := k1c4) (by decide +kernel) rfl rfl rfl (by decide +kernel)
set_option maxRecDepth 65536 in
theorem w_c8 : (Jvm.Cond.code ({ cls := "com/example/widowbid/widowbid/WorldsCountPinLaw", name := "fits", desc := "([J[IIII)Z" } : Jvm.MethodName) method_3_code (5 : Nat) (Option.some Jvm.ClassFile.FieldType.boolean)).before args0 about1 = true := code_word (m := ⟨1, 2⟩) (meth := k1m2) (c := k1c2) (by decide +kernel) rfl rfl rfl (by decide +kernel)
set_option maxRecDepth 65536 in
theorem w_c9 : (Jvm.Cond.code ({ cls := "com/example/widowbid/widowbid/WorldsCountPinLaw", name := "in", desc := "(IIII)I" } : Jvm.MethodName) method_4_code (4 : Nat) (Option.some Jvm.ClassFile.FieldType.int)).before args0 about1 = true := code_word (m := ⟨1, 3⟩) (meth := k1m3) (c := k1c3) (by decide +kernel) rfl rfl rfl (by decide +kernel)
set_option maxRecDepth 65536 in
theorem w_c10 : (Jvm.Cond.code ({ cls := "com/example/widowbid/widowbid/Worlds", name := "count", desc := "()J" } : Jvm.MethodName) prog_68_method_2_code (1 : Nat) (Option.some Jvm.ClassFile.FieldType.long)).before args0 about1 = true := code_word (m := ⟨2, 1⟩) (meth := k2m1) (c := k2c1) (by decide +kernel) rfl rfl rfl (by decide +kernel)
set_option maxRecDepth 65536 in
theorem w_c11 : (Jvm.Cond.code ({ cls := "java/lang/Long", name := "numberOfTrailingZeros", desc := "(J)I" } : Jvm.MethodName) jdk_35_method_49_code (3 : Nat) (Option.some Jvm.ClassFile.FieldType.int)).before args0 about1 = true := code_word (m := ⟨8, 0⟩) (meth := k8m0) (c := k8c0) (by decide +kernel) rfl rfl rfl (by decide +kernel)
set_option maxRecDepth 65536 in
theorem w_c12 : (Jvm.Cond.code ({ cls := "java/lang/Integer", name := "numberOfTrailingZeros", desc := "(I)I" } : Jvm.MethodName) jdk_33_method_48_code (2 : Nat) (Option.some Jvm.ClassFile.FieldType.int)).before args0 about1 = true := code_word (m := ⟨10, 0⟩) (meth := k10m0) (c := k10c0) (by decide +kernel) rfl rfl rfl (by decide +kernel)
set_option maxRecDepth 65536 in
theorem w_c13 : (Jvm.Cond.code ({ cls := "com/example/widowbid/widowbid/Worlds", name := "after", desc := "(IIII)J" } : Jvm.MethodName) prog_68_method_4_code (7 : Nat) (Option.some Jvm.ClassFile.FieldType.long)).before args0 about1 = true := code_word (m := ⟨2, 2⟩) (meth := k2m2) (c := k2c2) (by decide +kernel) rfl rfl rfl (by decide +kernel)
def codes1 : List Jvm.Cond := [Jvm.Cond.code x code maxLocals ret, Jvm.Cond.code ({ cls := "com/example/widowbid/widowbid/Worlds", name := "<init>", desc := "(J[I[J)V" } : Jvm.MethodName) prog_68_method_1_code (12 : Nat) (Option.none : Option Jvm.ClassFile.FieldType), Jvm.Cond.code ({ cls := "java/lang/Object", name := "<init>", desc := "()V" } : Jvm.MethodName) object_method_1_code (1 : Nat) (Option.none : Option Jvm.ClassFile.FieldType), Jvm.Cond.code ({ cls := "java/lang/Long", name := "bitCount", desc := "(J)I" } : Jvm.MethodName) jdk_35_method_50_code (2 : Nat) (Option.some Jvm.ClassFile.FieldType.int), Jvm.Cond.code ({ cls := "com/example/widowbid/widowbid/WorldsCountPinLaw", name := "l1", desc := "([J[II[II)J" } : Jvm.MethodName) method_8_code (5 : Nat) (Option.some Jvm.ClassFile.FieldType.long), Jvm.Cond.code ({ cls := "com/example/widowbid/widowbid/WorldsCountPinLaw", name := "l2", desc := "([J[II[III)J" } : Jvm.MethodName) method_7_code (6 : Nat) (Option.some Jvm.ClassFile.FieldType.long), Jvm.Cond.code ({ cls := "com/example/widowbid/widowbid/WorldsCountPinLaw", name := "l3", desc := "([J[II[IIII)J" } : Jvm.MethodName) method_6_code (7 : Nat) (Option.some Jvm.ClassFile.FieldType.long), Jvm.Cond.code ({ cls := "com/example/widowbid/widowbid/WorldsCountPinLaw", name := "one", desc := "([J[II[IIIII)J" } : Jvm.MethodName) method_5_code (12 : Nat) (Option.some Jvm.ClassFile.FieldType.long), Jvm.Cond.code ({ cls := "com/example/widowbid/widowbid/WorldsCountPinLaw", name := "fits", desc := "([J[IIII)Z" } : Jvm.MethodName) method_3_code (5 : Nat) (Option.some Jvm.ClassFile.FieldType.boolean), Jvm.Cond.code ({ cls := "com/example/widowbid/widowbid/WorldsCountPinLaw", name := "in", desc := "(IIII)I" } : Jvm.MethodName) method_4_code (4 : Nat) (Option.some Jvm.ClassFile.FieldType.int), Jvm.Cond.code ({ cls := "com/example/widowbid/widowbid/Worlds", name := "count", desc := "()J" } : Jvm.MethodName) prog_68_method_2_code (1 : Nat) (Option.some Jvm.ClassFile.FieldType.long), Jvm.Cond.code ({ cls := "java/lang/Long", name := "numberOfTrailingZeros", desc := "(J)I" } : Jvm.MethodName) jdk_35_method_49_code (3 : Nat) (Option.some Jvm.ClassFile.FieldType.int), Jvm.Cond.code ({ cls := "java/lang/Integer", name := "numberOfTrailingZeros", desc := "(I)I" } : Jvm.MethodName) jdk_33_method_48_code (2 : Nat) (Option.some Jvm.ClassFile.FieldType.int), Jvm.Cond.code ({ cls := "com/example/widowbid/widowbid/Worlds", name := "after", desc := "(IIII)J" } : Jvm.MethodName) prog_68_method_4_code (7 : Nat) (Option.some Jvm.ClassFile.FieldType.long)]
set_option maxRecDepth 65536 in
theorem codes_eq : words1.filter isCode = codes1 := rfl
theorem w_codes : ∀ c ∈ words1.filter isCode, c.before args0 about1 = true := by
  rw [codes_eq]
  intro c hc
  simp only [codes1, List.mem_cons, List.not_mem_nil, or_false] at hc
  rcases hc with rfl | rfl | rfl | rfl | rfl | rfl | rfl | rfl | rfl | rfl | rfl | rfl | rfl | rfl
  · exact w_c0
  · exact w_c1
  · exact w_c2
  · exact w_c3
  · exact w_c4
  · exact w_c5
  · exact w_c6
  · exact w_c7
  · exact w_c8
  · exact w_c9
  · exact w_c10
  · exact w_c11
  · exact w_c12
  · exact w_c13
set_option maxRecDepth 65536 in
theorem w_t1 : (words1.take 24).all (fun c => isCode c || c.before args0 about1) = true := by decide +kernel
set_option maxRecDepth 65536 in
theorem w_t2 : ((words1.drop 24).take 24).all (fun c => isCode c || c.before args0 about1) = true := by decide +kernel
set_option maxRecDepth 65536 in
theorem w_t3 : (((words1.drop 24).drop 24).take 24).all (fun c => isCode c || c.before args0 about1) = true := by decide +kernel
set_option maxRecDepth 65536 in
theorem w_t4 : (((words1.drop 24).drop 24).drop 24).all (fun c => isCode c || c.before args0 about1) = true := by decide +kernel
theorem w_tables : (allAtoms (Jvm.Cond.code x code maxLocals ret :: tables_1)).before args0 about1 = true := by
  rw [allAtoms_all]
  show words1.all (fun c => c.before args0 about1) = true
  refine all_split ?_ w_codes
  rw [← List.take_append_drop 24 words1, List.all_append, w_t1, ← List.take_append_drop 24 (words1.drop 24), List.all_append, w_t2, ← List.take_append_drop 24 ((words1.drop 24).drop 24), List.all_append, w_t3, w_t4]
  rfl
set_option maxRecDepth 65536 in
theorem w_case : (Jvm.Cond.and given_1 narrow_1).before args0 about1 = true := by decide +kernel
theorem w_applies : (headSpec (Jvm.Cond.code x code maxLocals ret :: tables_1) room_1).applies x e0.platform about1 = true :=
  (Spec.applies_iff w_frames).mpr ⟨w_running, w_runnable, w_alone, w_named, w_hears, w_ripe, w_room, w_tables⟩
theorem atStart : AtStart classFile x code maxLocals ret World_1 tables_1 room_1 Calls_1 rest_1 Pre_1 launch0 p0 e0 about1 theMethod args0 below0 :=
  ⟨lists_1, trivial, launch0.admits_env _ _ _, launch0.least_env, fairChoices_fair.cas, fairChoices_fair.clock, w_frames, w_args, w_heap, w_applies, trivial, trivial, w_case⟩
end start1
theorem witness_1 : WitnessClaimed_1 := ⟨start1.p0, start1.e0, start1.about1, start1.theMethod, start1.args0, start1.below0, start1.atStart⟩
end Jvm.Pilot.@@N@@
