import JvmDerived
import JvmDerived.Pilot.@@N@@Statement
import JvmDerived.Pilot.@@N@@Code
set_option linter.unusedVariables false
set_option linter.unusedSimpArgs false
set_option maxRecDepth 65536
namespace Jvm.Pilot.@@N@@
open Jvm Jvm.ClassFile Sem Op Lib Jvm.Free Jvm.Stand Jvm.LawKit Jvm.RoadKit Bundle Jvm.Pilot.@@N@@.Jvm.D

section OwnKit
/-- a walk's fixed things: program, launch, environment, room, first state, method, arguments, frames below, the method, its code -/
abbrev own_B : Type := Program × Launch × Env × Room × State × MethodId × Array Value × List Frame × Method × Code
def own_Ok (B : own_B) (Z : State) (a0 : Array Value) (l0 : Launch) (R0 : Room) (y : MethodName) (code : ByteArray) (N : Nat) (ret : Option FieldType) : Prop :=
  match B with
  | (p, l, e, R, s, m, args, below, meth, c) => l = l0 ∧ R = R0 ∧ p.tables.exec = Jvm.exec ∧ Z.Warmed39 s.vm ∧ s.vm.findClass y.cls = some m.cls ∧ c.code = code ∧ c.maxLocals = N ∧ meth.sig.returnType = ret ∧ meth.locks = false ∧ meth.name = y.name ∧ (∀ (i : Nat) (d : Jvm.Cond), tables_1[i]? = some d → d.before a0 Z = true)
/-- the rest of the walk ends well -/
def own_Fin (p : Program) (e : Env) (below : List Frame) (s : State) (n0 : Nat) (Q : Option Value → Heap → Prop) (kc ks : Nat) (A : State) : Prop :=
  ∃ s₂ o, Steps p.tables e below A s₂ ∧ s₂.status = .running ∧ Ended s₂ below o ∧ ∃ v L, o = .returned v ∧ (Q v s₂.heap ∧ Fr n0 L) ∧ FrameEnd s o s₂ L kc ks
theorem own_go {p : Program} {e : Env} {below : List Frame} {s : State} {n0 : Nat} {Q : Option Value → Heap → Prop} {kc ks : Nat} {A A' : State} (st : ∀ t, Steps p.tables e below A' t → Steps p.tables e below A t) (k : own_Fin p e below s n0 Q kc ks A') : own_Fin p e below s n0 Q kc ks A := by
  obtain ⟨s2, o, h1, r⟩ := k
  exact ⟨s2, o, st _ h1, r⟩
/-- from this point (heap h, at most so many cells and slots made, pc, locals, stack) the walk ends in Q -/
def own_G (B : own_B) (n0 : Nat) (Q : Option Value → Heap → Prop) (kc ks cells slots : Nat) (h : Heap) (pc : Nat) (Ls : Array Slot) (st : List Value) : Prop :=
  match B with
  | (p, l, e, R, s, m, args, below, meth, c) => ∀ (T : State) (locs : List Loc) (c1 s1 : Nat), Stand p l e R s m args below meth c T locs c1 s1 → Fr n0 locs → c1 ≤ cells → s1 ≤ slots → T.heap = h → own_Fin p e below s n0 Q kc ks (T.setTop (mkF m pc Ls st))
/-- a method's contract -/
def own_Met (l : Launch) (Z : State) (ws : List Jvm.Cond) (y : MethodName) (bytes : ByteArray) (maxL : Nat) (ret : Option FieldType) (rm : Room) (as : Array Value) (h : Heap) (n0 kc ks : Nat) (Q : Option Value → Heap → Prop) : Prop :=
  MetFree l y (head1 (Jvm.Cond.code y bytes maxL ret :: ws) rm) (fun a U => a = as ∧ Z.Warmed39 U.vm ∧ U.heap = h) (fun _ _ _ _ _ => True) (fun _ U o U' => ∃ v L, o = .returned v ∧ (Q v U'.heap ∧ Fr n0 L) ∧ FrameEnd U o U' L kc ks)
/-- a callee's contract -/
abbrev own_C (l : Launch) (Z : State) (y : MethodName) (bytes : ByteArray) (maxL : Nat) (ret : Option FieldType) (rm : Room) (as : Array Value) (h : Heap) (n0 : Nat) (Q : Option Value → Heap → Prop) : Prop := own_Met l Z [] y bytes maxL ret rm as h n0 rm.cells rm.slots Q
/-- a callee that returns w and leaves the heap -/
abbrev own_P (l : Launch) (Z : State) (y : MethodName) (bytes : ByteArray) (maxL : Nat) (ret : Option FieldType) (rm : Room) (as : Array Value) (h : Heap) (n0 : Nat) (w : Value) : Prop := own_C l Z y bytes maxL ret rm as h n0 (fun v h' => v = some w ∧ h = h')
abbrev own_rm (f lo : Nat) : Room := { frames := f, cells := 0, slots := 0, locals := lo }
theorem own_met {l : Launch} {Z : State} {a0 : Array Value} {ws : List Jvm.Cond} {y : MethodName} {bytes : ByteArray} {maxL : Nat} {ret : Option FieldType} {rm : Room} {as : Array Value} {h : Heap} {n0 kc ks : Nat} {Q : Option Value → Heap → Prop} {Ls : Array Slot}
    (hw : ∀ (i : Nat) (d : Jvm.Cond), tables_1[i]? = some d → d.before a0 Z = true) (hpl : plainFor y = true) (hef : ∀ m, entryFrame m as maxL = mkF m 0 Ls [])
    (body : ∀ B : own_B, own_Ok B Z a0 l rm y bytes maxL ret → own_G B n0 Q kc ks 0 0 h 0 Ls []) : own_Met l Z ws y bytes maxL ret rm as h n0 kc ks Q := by
  refine MetFree.of_bodySF hpl hisR ?_
  intro p e s m args below meth c s₁ Bd hml0 hP hK
  obtain ⟨rfl, hZ, hh⟩ := hP
  have X0 := Stand.of_body Bd
  have e0 : s₁.heap = h := by rw [← hh, Bd.state]; rfl
  have q := body (p, l, e, rm, s, m, args, below, meth, c) ⟨rfl, rfl, Bd.exec, hZ, findClass_of_methodNamed Bd.named, Bd.bytes, hml0, Bd.returns, Bd.notSynchronized, (name_of_methodNamed Bd.named Bd.method).1, hw⟩ s₁ [] 0 0 X0 (Fr.nil n0) (Nat.le_refl _) (Nat.le_refl _) e0
  rw [hef m]
  exact q
section Laws
variable {B : own_B} {Z : State} {a0 : Array Value} {l : Launch} {R : Room} {y : MethodName} {code : ByteArray} {N : Nat} {ret : Option FieldType} {n0 : Nat} {Q : Option Value → Heap → Prop} {kc ks cells slots : Nat} {h : Heap} {pc pc' : Nat} {Ls Ls' : Array Slot} {st : List Value}
theorem own_mono {cells' slots' : Nat} (hc : cells ≤ cells') (hs : slots ≤ slots') (k : own_G B n0 Q kc ks cells' slots' h pc Ls st) : own_G B n0 Q kc ks cells slots h pc Ls st := by
  obtain ⟨p, l, e, R, s, m, args, below, meth, c⟩ := B
  intro T locs c1 s1 X F q1 q2 eT
  exact k T locs c1 s1 X F (Nat.le_trans q1 hc) (Nat.le_trans q2 hs) eT
theorem own_cut (pc' : Nat) (Ls' : Array Slot) (st' : List Value) (f : own_G B n0 Q kc ks cells slots h pc' Ls' st' → own_G B n0 Q kc ks cells slots h pc Ls st) (k : own_G B n0 Q kc ks cells slots h pc' Ls' st') : own_G B n0 Q kc ks cells slots h pc Ls st := f k
theorem own_cast {Ls' : Array Slot} {st' : List Value} (hL : Ls = Ls') (hS : st = st') (k : own_G B n0 Q kc ks cells slots h pc Ls' st') : own_G B n0 Q kc ks cells slots h pc Ls st := by
  subst hL hS
  exact k
theorem own_w (H : own_Ok B Z a0 l R y code N ret) {i : Nat} {d : Jvm.Cond} (q : tables_1[i]? = some d) : d.before a0 Z = true := by
  obtain ⟨p, l, e, R, s, m, args, below, meth, c⟩ := B
  exact H.2.2.2.2.2.2.2.2.2.2 i d q
theorem own_hw (H : own_Ok B Z a0 l R y code N ret) : ∀ (i : Nat) (d : Jvm.Cond), tables_1[i]? = some d → d.before a0 Z = true := by
  obtain ⟨p, l, e, R, s, m, args, below, meth, c⟩ := B
  exact H.2.2.2.2.2.2.2.2.2.2
theorem own_iadd (H : own_Ok B Z a0 l R y code N ret) {x z v : Int32} (hv : x + z = v) (hd : decode code pc = .ok (.iadd, 1)) (k : own_G B n0 Q kc ks cells slots h (pc + 1) Ls (.int v :: st)) : own_G B n0 Q kc ks cells slots h pc Ls (.int z :: .int x :: st) := by
  subst hv
  obtain ⟨p, l, e, R, s, m, args, below, meth, c⟩ := B
  obtain ⟨rfl, rfl, hx, hZ, hown, hby, hml, hrt, hlk, hnm, hw⟩ := H
  intro T locs c1 s1 X F hc hs eT
  exact own_go (fun t q => XS.iadd X.here hx rfl (hb hby hd) rfl q) (k T locs c1 s1 X F hc hs eT)
theorem own_isub (H : own_Ok B Z a0 l R y code N ret) {x z v : Int32} (hv : x - z = v) (hd : decode code pc = .ok (.isub, 1)) (k : own_G B n0 Q kc ks cells slots h (pc + 1) Ls (.int v :: st)) : own_G B n0 Q kc ks cells slots h pc Ls (.int z :: .int x :: st) := by
  subst hv
  obtain ⟨p, l, e, R, s, m, args, below, meth, c⟩ := B
  obtain ⟨rfl, rfl, hx, hZ, hown, hby, hml, hrt, hlk, hnm, hw⟩ := H
  intro T locs c1 s1 X F hc hs eT
  exact own_go (fun t q => XS.isub X.here hx rfl (hb hby hd) rfl q) (k T locs c1 s1 X F hc hs eT)
theorem own_imul (H : own_Ok B Z a0 l R y code N ret) {x z v : Int32} (hv : x * z = v) (hd : decode code pc = .ok (.imul, 1)) (k : own_G B n0 Q kc ks cells slots h (pc + 1) Ls (.int v :: st)) : own_G B n0 Q kc ks cells slots h pc Ls (.int z :: .int x :: st) := by
  subst hv
  obtain ⟨p, l, e, R, s, m, args, below, meth, c⟩ := B
  obtain ⟨rfl, rfl, hx, hZ, hown, hby, hml, hrt, hlk, hnm, hw⟩ := H
  intro T locs c1 s1 X F hc hs eT
  exact own_go (fun t q => XS.imul X.here hx rfl (hb hby hd) rfl q) (k T locs c1 s1 X F hc hs eT)
theorem own_iand (H : own_Ok B Z a0 l R y code N ret) {x z v : Int32} (hv : x &&& z = v) (hd : decode code pc = .ok (.iand, 1)) (k : own_G B n0 Q kc ks cells slots h (pc + 1) Ls (.int v :: st)) : own_G B n0 Q kc ks cells slots h pc Ls (.int z :: .int x :: st) := by
  subst hv
  obtain ⟨p, l, e, R, s, m, args, below, meth, c⟩ := B
  obtain ⟨rfl, rfl, hx, hZ, hown, hby, hml, hrt, hlk, hnm, hw⟩ := H
  intro T locs c1 s1 X F hc hs eT
  exact own_go (fun t q => XS.iand X.here hx rfl (hb hby hd) rfl q) (k T locs c1 s1 X F hc hs eT)
theorem own_ior (H : own_Ok B Z a0 l R y code N ret) {x z v : Int32} (hv : x ||| z = v) (hd : decode code pc = .ok (.ior, 1)) (k : own_G B n0 Q kc ks cells slots h (pc + 1) Ls (.int v :: st)) : own_G B n0 Q kc ks cells slots h pc Ls (.int z :: .int x :: st) := by
  subst hv
  obtain ⟨p, l, e, R, s, m, args, below, meth, c⟩ := B
  obtain ⟨rfl, rfl, hx, hZ, hown, hby, hml, hrt, hlk, hnm, hw⟩ := H
  intro T locs c1 s1 X F hc hs eT
  exact own_go (fun t q => XT.ior X.here hx rfl (hb hby hd) rfl q) (k T locs c1 s1 X F hc hs eT)
theorem own_ixor (H : own_Ok B Z a0 l R y code N ret) {x z v : Int32} (hv : x ^^^ z = v) (hd : decode code pc = .ok (.ixor, 1)) (k : own_G B n0 Q kc ks cells slots h (pc + 1) Ls (.int v :: st)) : own_G B n0 Q kc ks cells slots h pc Ls (.int z :: .int x :: st) := by
  subst hv
  obtain ⟨p, l, e, R, s, m, args, below, meth, c⟩ := B
  obtain ⟨rfl, rfl, hx, hZ, hown, hby, hml, hrt, hlk, hnm, hw⟩ := H
  intro T locs c1 s1 X F hc hs eT
  exact own_go (fun t q => XT.ixor X.here hx rfl (hb hby hd) rfl q) (k T locs c1 s1 X F hc hs eT)
theorem own_ishl (H : own_Ok B Z a0 l R y code N ret) {x z v : Int32} (hv : x <<< (z &&& 31) = v) (hd : decode code pc = .ok (.ishl, 1)) (k : own_G B n0 Q kc ks cells slots h (pc + 1) Ls (.int v :: st)) : own_G B n0 Q kc ks cells slots h pc Ls (.int z :: .int x :: st) := by
  subst hv
  obtain ⟨p, l, e, R, s, m, args, below, meth, c⟩ := B
  obtain ⟨rfl, rfl, hx, hZ, hown, hby, hml, hrt, hlk, hnm, hw⟩ := H
  intro T locs c1 s1 X F hc hs eT
  exact own_go (fun t q => XT.ishl X.here hx rfl (hb hby hd) rfl q) (k T locs c1 s1 X F hc hs eT)
theorem own_ishr (H : own_Ok B Z a0 l R y code N ret) {x z v : Int32} (hv : x >>> (z &&& 31) = v) (hd : decode code pc = .ok (.ishr, 1)) (k : own_G B n0 Q kc ks cells slots h (pc + 1) Ls (.int v :: st)) : own_G B n0 Q kc ks cells slots h pc Ls (.int z :: .int x :: st) := by
  subst hv
  obtain ⟨p, l, e, R, s, m, args, below, meth, c⟩ := B
  obtain ⟨rfl, rfl, hx, hZ, hown, hby, hml, hrt, hlk, hnm, hw⟩ := H
  intro T locs c1 s1 X F hc hs eT
  exact own_go (fun t q => XT.ishr X.here hx rfl (hb hby hd) rfl q) (k T locs c1 s1 X F hc hs eT)
theorem own_iushr (H : own_Ok B Z a0 l R y code N ret) {x z v : Int32} (hv : XT.ushr x z = v) (hd : decode code pc = .ok (.iushr, 1)) (k : own_G B n0 Q kc ks cells slots h (pc + 1) Ls (.int v :: st)) : own_G B n0 Q kc ks cells slots h pc Ls (.int z :: .int x :: st) := by
  subst hv
  obtain ⟨p, l, e, R, s, m, args, below, meth, c⟩ := B
  obtain ⟨rfl, rfl, hx, hZ, hown, hby, hml, hrt, hlk, hnm, hw⟩ := H
  intro T locs c1 s1 X F hc hs eT
  exact own_go (fun t q => XT.iushr X.here hx rfl (hb hby hd) rfl q) (k T locs c1 s1 X F hc hs eT)
theorem own_ladd (H : own_Ok B Z a0 l R y code N ret) {x z v : Int64} (hv : x + z = v) (hd : decode code pc = .ok (.ladd, 1)) (k : own_G B n0 Q kc ks cells slots h (pc + 1) Ls (.long v :: st)) : own_G B n0 Q kc ks cells slots h pc Ls (.long z :: .long x :: st) := by
  subst hv
  obtain ⟨p, l, e, R, s, m, args, below, meth, c⟩ := B
  obtain ⟨rfl, rfl, hx, hZ, hown, hby, hml, hrt, hlk, hnm, hw⟩ := H
  intro T locs c1 s1 X F hc hs eT
  exact own_go (fun t q => XT.ladd X.here hx rfl (hb hby hd) rfl q) (k T locs c1 s1 X F hc hs eT)
theorem own_lsub (H : own_Ok B Z a0 l R y code N ret) {x z v : Int64} (hv : x - z = v) (hd : decode code pc = .ok (.lsub, 1)) (k : own_G B n0 Q kc ks cells slots h (pc + 1) Ls (.long v :: st)) : own_G B n0 Q kc ks cells slots h pc Ls (.long z :: .long x :: st) := by
  subst hv
  obtain ⟨p, l, e, R, s, m, args, below, meth, c⟩ := B
  obtain ⟨rfl, rfl, hx, hZ, hown, hby, hml, hrt, hlk, hnm, hw⟩ := H
  intro T locs c1 s1 X F hc hs eT
  exact own_go (fun t q => XT.lsub X.here hx rfl (hb hby hd) rfl q) (k T locs c1 s1 X F hc hs eT)
theorem own_lmul (H : own_Ok B Z a0 l R y code N ret) {x z v : Int64} (hv : x * z = v) (hd : decode code pc = .ok (.lmul, 1)) (k : own_G B n0 Q kc ks cells slots h (pc + 1) Ls (.long v :: st)) : own_G B n0 Q kc ks cells slots h pc Ls (.long z :: .long x :: st) := by
  subst hv
  obtain ⟨p, l, e, R, s, m, args, below, meth, c⟩ := B
  obtain ⟨rfl, rfl, hx, hZ, hown, hby, hml, hrt, hlk, hnm, hw⟩ := H
  intro T locs c1 s1 X F hc hs eT
  exact own_go (fun t q => XT.lmul X.here hx rfl (hb hby hd) rfl q) (k T locs c1 s1 X F hc hs eT)
theorem own_land (H : own_Ok B Z a0 l R y code N ret) {x z v : Int64} (hv : x &&& z = v) (hd : decode code pc = .ok (.land, 1)) (k : own_G B n0 Q kc ks cells slots h (pc + 1) Ls (.long v :: st)) : own_G B n0 Q kc ks cells slots h pc Ls (.long z :: .long x :: st) := by
  subst hv
  obtain ⟨p, l, e, R, s, m, args, below, meth, c⟩ := B
  obtain ⟨rfl, rfl, hx, hZ, hown, hby, hml, hrt, hlk, hnm, hw⟩ := H
  intro T locs c1 s1 X F hc hs eT
  exact own_go (fun t q => XT.land X.here hx rfl (hb hby hd) rfl q) (k T locs c1 s1 X F hc hs eT)
theorem own_lor (H : own_Ok B Z a0 l R y code N ret) {x z v : Int64} (hv : x ||| z = v) (hd : decode code pc = .ok (.lor, 1)) (k : own_G B n0 Q kc ks cells slots h (pc + 1) Ls (.long v :: st)) : own_G B n0 Q kc ks cells slots h pc Ls (.long z :: .long x :: st) := by
  subst hv
  obtain ⟨p, l, e, R, s, m, args, below, meth, c⟩ := B
  obtain ⟨rfl, rfl, hx, hZ, hown, hby, hml, hrt, hlk, hnm, hw⟩ := H
  intro T locs c1 s1 X F hc hs eT
  exact own_go (fun t q => XT.lor X.here hx rfl (hb hby hd) rfl q) (k T locs c1 s1 X F hc hs eT)
theorem own_lxor (H : own_Ok B Z a0 l R y code N ret) {x z v : Int64} (hv : x ^^^ z = v) (hd : decode code pc = .ok (.lxor, 1)) (k : own_G B n0 Q kc ks cells slots h (pc + 1) Ls (.long v :: st)) : own_G B n0 Q kc ks cells slots h pc Ls (.long z :: .long x :: st) := by
  subst hv
  obtain ⟨p, l, e, R, s, m, args, below, meth, c⟩ := B
  obtain ⟨rfl, rfl, hx, hZ, hown, hby, hml, hrt, hlk, hnm, hw⟩ := H
  intro T locs c1 s1 X F hc hs eT
  exact own_go (fun t q => XT.lxor X.here hx rfl (hb hby hd) rfl q) (k T locs c1 s1 X F hc hs eT)
theorem own_idiv (H : own_Ok B Z a0 l R y code N ret) {x z v : Int32} (hv : x / z = v) (hd : decode code pc = .ok (.idiv, 1)) (hz : z ≠ 0) (k : own_G B n0 Q kc ks cells slots h (pc + 1) Ls (.int v :: st)) : own_G B n0 Q kc ks cells slots h pc Ls (.int z :: .int x :: st) := by
  subst hv
  obtain ⟨p, l, e, R, s, m, args, below, meth, c⟩ := B
  obtain ⟨rfl, rfl, hx, hZ, hown, hby, hml, hrt, hlk, hnm, hw⟩ := H
  intro T locs c1 s1 X F hc hs eT
  exact own_go (fun t q => XS.idiv X.here hx rfl (hb hby hd) rfl hz q) (k T locs c1 s1 X F hc hs eT)
theorem own_irem (H : own_Ok B Z a0 l R y code N ret) {x z v : Int32} (hv : x % z = v) (hd : decode code pc = .ok (.irem, 1)) (hz : z ≠ 0) (k : own_G B n0 Q kc ks cells slots h (pc + 1) Ls (.int v :: st)) : own_G B n0 Q kc ks cells slots h pc Ls (.int z :: .int x :: st) := by
  subst hv
  obtain ⟨p, l, e, R, s, m, args, below, meth, c⟩ := B
  obtain ⟨rfl, rfl, hx, hZ, hown, hby, hml, hrt, hlk, hnm, hw⟩ := H
  intro T locs c1 s1 X F hc hs eT
  exact own_go (fun t q => iremM X hx rfl (hb hby hd) rfl hz q) (k T locs c1 s1 X F hc hs eT)
theorem own_ldiv (H : own_Ok B Z a0 l R y code N ret) {x z v : Int64} (hv : x / z = v) (hd : decode code pc = .ok (.ldiv, 1)) (hz : z ≠ 0) (k : own_G B n0 Q kc ks cells slots h (pc + 1) Ls (.long v :: st)) : own_G B n0 Q kc ks cells slots h pc Ls (.long z :: .long x :: st) := by
  subst hv
  obtain ⟨p, l, e, R, s, m, args, below, meth, c⟩ := B
  obtain ⟨rfl, rfl, hx, hZ, hown, hby, hml, hrt, hlk, hnm, hw⟩ := H
  intro T locs c1 s1 X F hc hs eT
  exact own_go (fun t q => XT.ldiv X.here hx rfl (hb hby hd) rfl hz q) (k T locs c1 s1 X F hc hs eT)
theorem own_lrem (H : own_Ok B Z a0 l R y code N ret) {x z v : Int64} (hv : x - x / z * z = v) (hd : decode code pc = .ok (.lrem, 1)) (hz : z ≠ 0) (k : own_G B n0 Q kc ks cells slots h (pc + 1) Ls (.long v :: st)) : own_G B n0 Q kc ks cells slots h pc Ls (.long z :: .long x :: st) := by
  subst hv
  obtain ⟨p, l, e, R, s, m, args, below, meth, c⟩ := B
  obtain ⟨rfl, rfl, hx, hZ, hown, hby, hml, hrt, hlk, hnm, hw⟩ := H
  intro T locs c1 s1 X F hc hs eT
  exact own_go (fun t q => XT.lrem X.here hx rfl (hb hby hd) rfl hz q) (k T locs c1 s1 X F hc hs eT)
theorem own_lshl (H : own_Ok B Z a0 l R y code N ret) {x v : Int64} {z : Int32} (hv : x <<< (z.toInt64 &&& 63) = v) (hd : decode code pc = .ok (.lshl, 1)) (k : own_G B n0 Q kc ks cells slots h (pc + 1) Ls (.long v :: st)) : own_G B n0 Q kc ks cells slots h pc Ls (.int z :: .long x :: st) := by
  subst hv
  obtain ⟨p, l, e, R, s, m, args, below, meth, c⟩ := B
  obtain ⟨rfl, rfl, hx, hZ, hown, hby, hml, hrt, hlk, hnm, hw⟩ := H
  intro T locs c1 s1 X F hc hs eT
  exact own_go (fun t q => XT.lshl X.here hx rfl (hb hby hd) rfl q) (k T locs c1 s1 X F hc hs eT)
theorem own_lshr (H : own_Ok B Z a0 l R y code N ret) {x v : Int64} {z : Int32} (hv : x >>> (z.toInt64 &&& 63) = v) (hd : decode code pc = .ok (.lshr, 1)) (k : own_G B n0 Q kc ks cells slots h (pc + 1) Ls (.long v :: st)) : own_G B n0 Q kc ks cells slots h pc Ls (.int z :: .long x :: st) := by
  subst hv
  obtain ⟨p, l, e, R, s, m, args, below, meth, c⟩ := B
  obtain ⟨rfl, rfl, hx, hZ, hown, hby, hml, hrt, hlk, hnm, hw⟩ := H
  intro T locs c1 s1 X F hc hs eT
  exact own_go (fun t q => XT.lshr X.here hx rfl (hb hby hd) rfl q) (k T locs c1 s1 X F hc hs eT)
theorem own_lushr (H : own_Ok B Z a0 l R y code N ret) {x v : Int64} {z : Int32} (hv : XT.ushrL x z = v) (hd : decode code pc = .ok (.lushr, 1)) (k : own_G B n0 Q kc ks cells slots h (pc + 1) Ls (.long v :: st)) : own_G B n0 Q kc ks cells slots h pc Ls (.int z :: .long x :: st) := by
  subst hv
  obtain ⟨p, l, e, R, s, m, args, below, meth, c⟩ := B
  obtain ⟨rfl, rfl, hx, hZ, hown, hby, hml, hrt, hlk, hnm, hw⟩ := H
  intro T locs c1 s1 X F hc hs eT
  exact own_go (fun t q => XT.lushr X.here hx rfl (hb hby hd) rfl q) (k T locs c1 s1 X F hc hs eT)
theorem own_ineg (H : own_Ok B Z a0 l R y code N ret) {x : Int32} {v : Int32} (hv : -x = v) (hd : decode code pc = .ok (.ineg, 1)) (k : own_G B n0 Q kc ks cells slots h (pc + 1) Ls (.int v :: st)) : own_G B n0 Q kc ks cells slots h pc Ls (.int x :: st) := by
  subst hv
  obtain ⟨p, l, e, R, s, m, args, below, meth, c⟩ := B
  obtain ⟨rfl, rfl, hx, hZ, hown, hby, hml, hrt, hlk, hnm, hw⟩ := H
  intro T locs c1 s1 X F hc hs eT
  exact own_go (fun t q => XS.ineg X.here hx rfl (hb hby hd) rfl q) (k T locs c1 s1 X F hc hs eT)
theorem own_lneg (H : own_Ok B Z a0 l R y code N ret) {x : Int64} {v : Int64} (hv : -x = v) (hd : decode code pc = .ok (.lneg, 1)) (k : own_G B n0 Q kc ks cells slots h (pc + 1) Ls (.long v :: st)) : own_G B n0 Q kc ks cells slots h pc Ls (.long x :: st) := by
  subst hv
  obtain ⟨p, l, e, R, s, m, args, below, meth, c⟩ := B
  obtain ⟨rfl, rfl, hx, hZ, hown, hby, hml, hrt, hlk, hnm, hw⟩ := H
  intro T locs c1 s1 X F hc hs eT
  exact own_go (fun t q => XT.lneg X.here hx rfl (hb hby hd) rfl q) (k T locs c1 s1 X F hc hs eT)
theorem own_i2l (H : own_Ok B Z a0 l R y code N ret) {x : Int32} {v : Int64} (hv : x.toInt64 = v) (hd : decode code pc = .ok (.i2l, 1)) (k : own_G B n0 Q kc ks cells slots h (pc + 1) Ls (.long v :: st)) : own_G B n0 Q kc ks cells slots h pc Ls (.int x :: st) := by
  subst hv
  obtain ⟨p, l, e, R, s, m, args, below, meth, c⟩ := B
  obtain ⟨rfl, rfl, hx, hZ, hown, hby, hml, hrt, hlk, hnm, hw⟩ := H
  intro T locs c1 s1 X F hc hs eT
  exact own_go (fun t q => XT.i2l X.here hx rfl (hb hby hd) rfl q) (k T locs c1 s1 X F hc hs eT)
theorem own_l2i (H : own_Ok B Z a0 l R y code N ret) {x : Int64} {v : Int32} (hv : x.toInt32 = v) (hd : decode code pc = .ok (.l2i, 1)) (k : own_G B n0 Q kc ks cells slots h (pc + 1) Ls (.int v :: st)) : own_G B n0 Q kc ks cells slots h pc Ls (.long x :: st) := by
  subst hv
  obtain ⟨p, l, e, R, s, m, args, below, meth, c⟩ := B
  obtain ⟨rfl, rfl, hx, hZ, hown, hby, hml, hrt, hlk, hnm, hw⟩ := H
  intro T locs c1 s1 X F hc hs eT
  exact own_go (fun t q => XT.l2i X.here hx rfl (hb hby hd) rfl q) (k T locs c1 s1 X F hc hs eT)
theorem own_i2b (H : own_Ok B Z a0 l R y code N ret) {x : Int32} {v : Int32} (hv : x.toInt8.toInt32 = v) (hd : decode code pc = .ok (.i2b, 1)) (k : own_G B n0 Q kc ks cells slots h (pc + 1) Ls (.int v :: st)) : own_G B n0 Q kc ks cells slots h pc Ls (.int x :: st) := by
  subst hv
  obtain ⟨p, l, e, R, s, m, args, below, meth, c⟩ := B
  obtain ⟨rfl, rfl, hx, hZ, hown, hby, hml, hrt, hlk, hnm, hw⟩ := H
  intro T locs c1 s1 X F hc hs eT
  exact own_go (fun t q => XT.i2b X.here hx rfl (hb hby hd) rfl q) (k T locs c1 s1 X F hc hs eT)
theorem own_i2c (H : own_Ok B Z a0 l R y code N ret) {x : Int32} {v : Int32} (hv : x.toUInt32.toUInt16.toUInt32.toInt32 = v) (hd : decode code pc = .ok (.i2c, 1)) (k : own_G B n0 Q kc ks cells slots h (pc + 1) Ls (.int v :: st)) : own_G B n0 Q kc ks cells slots h pc Ls (.int x :: st) := by
  subst hv
  obtain ⟨p, l, e, R, s, m, args, below, meth, c⟩ := B
  obtain ⟨rfl, rfl, hx, hZ, hown, hby, hml, hrt, hlk, hnm, hw⟩ := H
  intro T locs c1 s1 X F hc hs eT
  exact own_go (fun t q => XT.i2c X.here hx rfl (hb hby hd) rfl q) (k T locs c1 s1 X F hc hs eT)
theorem own_i2s (H : own_Ok B Z a0 l R y code N ret) {x : Int32} {v : Int32} (hv : x.toInt16.toInt32 = v) (hd : decode code pc = .ok (.i2s, 1)) (k : own_G B n0 Q kc ks cells slots h (pc + 1) Ls (.int v :: st)) : own_G B n0 Q kc ks cells slots h pc Ls (.int x :: st) := by
  subst hv
  obtain ⟨p, l, e, R, s, m, args, below, meth, c⟩ := B
  obtain ⟨rfl, rfl, hx, hZ, hown, hby, hml, hrt, hlk, hnm, hw⟩ := H
  intro T locs c1 s1 X F hc hs eT
  exact own_go (fun t q => XT.i2s X.here hx rfl (hb hby hd) rfl q) (k T locs c1 s1 X F hc hs eT)
theorem own_iconst (H : own_Ok B Z a0 l R y code N ret) {i : Int} (v : Int32) (hv : Int32.ofInt i = v) (hd : decode code pc = .ok (.iconst i, 1)) (k : own_G B n0 Q kc ks cells slots h (pc + 1) Ls (.int v :: st)) : own_G B n0 Q kc ks cells slots h pc Ls st := by
  obtain ⟨p, l, e, R, s, m, args, below, meth, c⟩ := B
  obtain ⟨rfl, rfl, hx, hZ, hown, hby, hml, hrt, hlk, hnm, hw⟩ := H
  intro T locs c1 s1 X F hc hs eT
  exact own_go (fun t q => XT.iconstV X.here hx rfl v (hb hby hd) hv q) (k T locs c1 s1 X F hc hs eT)
theorem own_bipush (H : own_Ok B Z a0 l R y code N ret) {i : Int} (v : Int32) (hv : (Int8.ofInt i).toInt32 = v) (hd : decode code pc = .ok (.bipush i, 2)) (k : own_G B n0 Q kc ks cells slots h (pc + 2) Ls (.int v :: st)) : own_G B n0 Q kc ks cells slots h pc Ls st := by
  obtain ⟨p, l, e, R, s, m, args, below, meth, c⟩ := B
  obtain ⟨rfl, rfl, hx, hZ, hown, hby, hml, hrt, hlk, hnm, hw⟩ := H
  intro T locs c1 s1 X F hc hs eT
  exact own_go (fun t q => XT.bipushV X.here hx rfl v (hb hby hd) hv q) (k T locs c1 s1 X F hc hs eT)
theorem own_sipush (H : own_Ok B Z a0 l R y code N ret) {i : Int} (v : Int32) (hv : (Int16.ofInt i).toInt32 = v) (hd : decode code pc = .ok (.sipush i, 3)) (k : own_G B n0 Q kc ks cells slots h (pc + 3) Ls (.int v :: st)) : own_G B n0 Q kc ks cells slots h pc Ls st := by
  obtain ⟨p, l, e, R, s, m, args, below, meth, c⟩ := B
  obtain ⟨rfl, rfl, hx, hZ, hown, hby, hml, hrt, hlk, hnm, hw⟩ := H
  intro T locs c1 s1 X F hc hs eT
  exact own_go (fun t q => XT.sipushV X.here hx rfl v (hb hby hd) hv q) (k T locs c1 s1 X F hc hs eT)
theorem own_lconst (H : own_Ok B Z a0 l R y code N ret) {i : Fin 2} (v : Int64) (hv : Int64.ofNat i = v) (hd : decode code pc = .ok (.lconst i, 1)) (k : own_G B n0 Q kc ks cells slots h (pc + 1) Ls (.long v :: st)) : own_G B n0 Q kc ks cells slots h pc Ls st := by
  obtain ⟨p, l, e, R, s, m, args, below, meth, c⟩ := B
  obtain ⟨rfl, rfl, hx, hZ, hown, hby, hml, hrt, hlk, hnm, hw⟩ := H
  intro T locs c1 s1 X F hc hs eT
  exact own_go (fun t q => XT.lconstV X.here hx rfl v (hb hby hd) hv q) (k T locs c1 s1 X F hc hs eT)
theorem own_aconst_null (H : own_Ok B Z a0 l R y code N ret)  (hd : decode code pc = .ok (.aconst_null, 1)) (k : own_G B n0 Q kc ks cells slots h (pc + 1) Ls (.null :: st)) : own_G B n0 Q kc ks cells slots h pc Ls st := by
  obtain ⟨p, l, e, R, s, m, args, below, meth, c⟩ := B
  obtain ⟨rfl, rfl, hx, hZ, hown, hby, hml, hrt, hlk, hnm, hw⟩ := H
  intro T locs c1 s1 X F hc hs eT
  exact own_go (fun t q => XS.aconstNull X.here hx rfl (hb hby hd)  q) (k T locs c1 s1 X F hc hs eT)
theorem own_dup (H : own_Ok B Z a0 l R y code N ret) {x : Value} (hq : x.category = 1) (hd : decode code pc = .ok (.dup, 1)) (k : own_G B n0 Q kc ks cells slots h (pc + 1) Ls (x :: x :: st)) : own_G B n0 Q kc ks cells slots h pc Ls (x :: st) := by
  obtain ⟨p, l, e, R, s, m, args, below, meth, c⟩ := B
  obtain ⟨rfl, rfl, hx, hZ, hown, hby, hml, hrt, hlk, hnm, hw⟩ := H
  intro T locs c1 s1 X F hc hs eT
  exact own_go (fun t q => XS.dup X.here hx rfl (hb hby hd) rfl hq q) (k T locs c1 s1 X F hc hs eT)
theorem own_dup2 (H : own_Ok B Z a0 l R y code N ret) {x z : Value} (hq : x.category = 1) (hq' : z.category = 1) (hd : decode code pc = .ok (.dup2, 1)) (k : own_G B n0 Q kc ks cells slots h (pc + 1) Ls (x :: z :: x :: z :: st)) : own_G B n0 Q kc ks cells slots h pc Ls (x :: z :: st) := by
  obtain ⟨p, l, e, R, s, m, args, below, meth, c⟩ := B
  obtain ⟨rfl, rfl, hx, hZ, hown, hby, hml, hrt, hlk, hnm, hw⟩ := H
  intro T locs c1 s1 X F hc hs eT
  exact own_go (fun t q => XT.dup2 X.here hx rfl (hb hby hd) rfl hq hq' q) (k T locs c1 s1 X F hc hs eT)
theorem own_dup2L (H : own_Ok B Z a0 l R y code N ret) {x : Int64} (hd : decode code pc = .ok (.dup2, 1)) (k : own_G B n0 Q kc ks cells slots h (pc + 1) Ls (.long x :: .long x :: st)) : own_G B n0 Q kc ks cells slots h pc Ls (.long x :: st) := by
  obtain ⟨p, l, e, R, s, m, args, below, meth, c⟩ := B
  obtain ⟨rfl, rfl, hx, hZ, hown, hby, hml, hrt, hlk, hnm, hw⟩ := H
  intro T locs c1 s1 X F hc hs eT
  exact own_go (fun t q => XT.dup2L X.here hx rfl (hb hby hd) rfl q) (k T locs c1 s1 X F hc hs eT)
theorem own_dup_x1 (H : own_Ok B Z a0 l R y code N ret) {x z : Value} (hq : x.category = 1) (hq' : z.category = 1) (hd : decode code pc = .ok (.dup_x1, 1)) (k : own_G B n0 Q kc ks cells slots h (pc + 1) Ls (x :: z :: x :: st)) : own_G B n0 Q kc ks cells slots h pc Ls (x :: z :: st) := by
  obtain ⟨p, l, e, R, s, m, args, below, meth, c⟩ := B
  obtain ⟨rfl, rfl, hx, hZ, hown, hby, hml, hrt, hlk, hnm, hw⟩ := H
  intro T locs c1 s1 X F hc hs eT
  exact own_go (fun t q => XT.dupX1 X.here hx rfl (hb hby hd) rfl hq hq' q) (k T locs c1 s1 X F hc hs eT)
theorem own_pop (H : own_Ok B Z a0 l R y code N ret) {x : Value} (hq : x.category = 1) (hd : decode code pc = .ok (.pop, 1)) (k : own_G B n0 Q kc ks cells slots h (pc + 1) Ls st) : own_G B n0 Q kc ks cells slots h pc Ls (x :: st) := by
  obtain ⟨p, l, e, R, s, m, args, below, meth, c⟩ := B
  obtain ⟨rfl, rfl, hx, hZ, hown, hby, hml, hrt, hlk, hnm, hw⟩ := H
  intro T locs c1 s1 X F hc hs eT
  exact own_go (fun t q => XT.pop X.here hx rfl (hb hby hd) rfl hq q) (k T locs c1 s1 X F hc hs eT)
theorem own_iload_n (H : own_Ok B Z a0 l R y code N ret) {i : Fin 4} {v : Int32} (hl : Ls[i.val]? = some (.val (.int v))) (hd : decode code pc = .ok (.iload_n i, 1)) (k : own_G B n0 Q kc ks cells slots h (pc + 1) Ls (.int v :: st)) : own_G B n0 Q kc ks cells slots h pc Ls st := by
  obtain ⟨p, l, e, R, s, m, args, below, meth, c⟩ := B
  obtain ⟨rfl, rfl, hx, hZ, hown, hby, hml, hrt, hlk, hnm, hw⟩ := H
  intro T locs c1 s1 X F hc hs eT
  exact own_go (fun t q => XS.iloadN X.here hx rfl (hb hby hd) hl q) (k T locs c1 s1 X F hc hs eT)
theorem own_iload (H : own_Ok B Z a0 l R y code N ret) {i : Nat} {v : Int32} (hl : Ls[i]? = some (.val (.int v))) (hd : decode code pc = .ok (.iload i, 2)) (k : own_G B n0 Q kc ks cells slots h (pc + 2) Ls (.int v :: st)) : own_G B n0 Q kc ks cells slots h pc Ls st := by
  obtain ⟨p, l, e, R, s, m, args, below, meth, c⟩ := B
  obtain ⟨rfl, rfl, hx, hZ, hown, hby, hml, hrt, hlk, hnm, hw⟩ := H
  intro T locs c1 s1 X F hc hs eT
  exact own_go (fun t q => XS.iload X.here hx rfl (hb hby hd) hl q) (k T locs c1 s1 X F hc hs eT)
theorem own_lload_n (H : own_Ok B Z a0 l R y code N ret) {i : Fin 4} {v : Int64} (hl : Ls[i.val]? = some (.val (.long v))) (hd : decode code pc = .ok (.lload_n i, 1)) (k : own_G B n0 Q kc ks cells slots h (pc + 1) Ls (.long v :: st)) : own_G B n0 Q kc ks cells slots h pc Ls st := by
  obtain ⟨p, l, e, R, s, m, args, below, meth, c⟩ := B
  obtain ⟨rfl, rfl, hx, hZ, hown, hby, hml, hrt, hlk, hnm, hw⟩ := H
  intro T locs c1 s1 X F hc hs eT
  exact own_go (fun t q => XT.lloadN X.here hx rfl (hb hby hd) hl q) (k T locs c1 s1 X F hc hs eT)
theorem own_lload (H : own_Ok B Z a0 l R y code N ret) {i : Nat} {v : Int64} (hl : Ls[i]? = some (.val (.long v))) (hd : decode code pc = .ok (.lload i, 2)) (k : own_G B n0 Q kc ks cells slots h (pc + 2) Ls (.long v :: st)) : own_G B n0 Q kc ks cells slots h pc Ls st := by
  obtain ⟨p, l, e, R, s, m, args, below, meth, c⟩ := B
  obtain ⟨rfl, rfl, hx, hZ, hown, hby, hml, hrt, hlk, hnm, hw⟩ := H
  intro T locs c1 s1 X F hc hs eT
  exact own_go (fun t q => XT.lload X.here hx rfl (hb hby hd) hl q) (k T locs c1 s1 X F hc hs eT)
theorem own_aload_n (H : own_Ok B Z a0 l R y code N ret) {i : Fin 4} {v : Value} (hl : Ls[i.val]? = some (.val v)) (hv : v.isRef = true) (hd : decode code pc = .ok (.aload_n i, 1)) (k : own_G B n0 Q kc ks cells slots h (pc + 1) Ls (v :: st)) : own_G B n0 Q kc ks cells slots h pc Ls st := by
  obtain ⟨p, l, e, R, s, m, args, below, meth, c⟩ := B
  obtain ⟨rfl, rfl, hx, hZ, hown, hby, hml, hrt, hlk, hnm, hw⟩ := H
  intro T locs c1 s1 X F hc hs eT
  exact own_go (fun t q => XS.aloadN X.here hx rfl (hb hby hd) hl hv q) (k T locs c1 s1 X F hc hs eT)
theorem own_aload (H : own_Ok B Z a0 l R y code N ret) {i : Nat} {v : Value} (hl : Ls[i]? = some (.val v)) (hv : v.isRef = true) (hd : decode code pc = .ok (.aload i, 2)) (k : own_G B n0 Q kc ks cells slots h (pc + 2) Ls (v :: st)) : own_G B n0 Q kc ks cells slots h pc Ls st := by
  obtain ⟨p, l, e, R, s, m, args, below, meth, c⟩ := B
  obtain ⟨rfl, rfl, hx, hZ, hown, hby, hml, hrt, hlk, hnm, hw⟩ := H
  intro T locs c1 s1 X F hc hs eT
  exact own_go (fun t q => XS.aload X.here hx rfl (hb hby hd) hl hv q) (k T locs c1 s1 X F hc hs eT)
theorem own_istore_n (H : own_Ok B Z a0 l R y code N ret) {i : Fin 4} {x : Int32} (Ls' : Array Slot) (hl : storeLocals Ls i.val (.int x) = some Ls') (hd : decode code pc = .ok (.istore_n i, 1)) (k : own_G B n0 Q kc ks cells slots h (pc + 1) Ls' st) : own_G B n0 Q kc ks cells slots h pc Ls (.int x :: st) := by
  obtain ⟨p, l, e, R, s, m, args, below, meth, c⟩ := B
  obtain ⟨rfl, rfl, hx, hZ, hown, hby, hml, hrt, hlk, hnm, hw⟩ := H
  intro T locs c1 s1 X F hc hs eT
  exact own_go (fun t q => XS.istoreN X.here hx rfl (hb hby hd) rfl hl q) (k T locs c1 s1 X F hc hs eT)
theorem own_istore (H : own_Ok B Z a0 l R y code N ret) {i : Nat} {x : Int32} (Ls' : Array Slot) (hl : storeLocals Ls i (.int x) = some Ls') (hd : decode code pc = .ok (.istore i, 2)) (k : own_G B n0 Q kc ks cells slots h (pc + 2) Ls' st) : own_G B n0 Q kc ks cells slots h pc Ls (.int x :: st) := by
  obtain ⟨p, l, e, R, s, m, args, below, meth, c⟩ := B
  obtain ⟨rfl, rfl, hx, hZ, hown, hby, hml, hrt, hlk, hnm, hw⟩ := H
  intro T locs c1 s1 X F hc hs eT
  exact own_go (fun t q => XS.istore X.here hx rfl (hb hby hd) rfl hl q) (k T locs c1 s1 X F hc hs eT)
theorem own_lstore_n (H : own_Ok B Z a0 l R y code N ret) {i : Fin 4} {x : Int64} (Ls' : Array Slot) (hl : storeLocals Ls i.val (.long x) = some Ls') (hd : decode code pc = .ok (.lstore_n i, 1)) (k : own_G B n0 Q kc ks cells slots h (pc + 1) Ls' st) : own_G B n0 Q kc ks cells slots h pc Ls (.long x :: st) := by
  obtain ⟨p, l, e, R, s, m, args, below, meth, c⟩ := B
  obtain ⟨rfl, rfl, hx, hZ, hown, hby, hml, hrt, hlk, hnm, hw⟩ := H
  intro T locs c1 s1 X F hc hs eT
  exact own_go (fun t q => XT.lstoreN X.here hx rfl (hb hby hd) rfl hl q) (k T locs c1 s1 X F hc hs eT)
theorem own_lstore (H : own_Ok B Z a0 l R y code N ret) {i : Nat} {x : Int64} (Ls' : Array Slot) (hl : storeLocals Ls i (.long x) = some Ls') (hd : decode code pc = .ok (.lstore i, 2)) (k : own_G B n0 Q kc ks cells slots h (pc + 2) Ls' st) : own_G B n0 Q kc ks cells slots h pc Ls (.long x :: st) := by
  obtain ⟨p, l, e, R, s, m, args, below, meth, c⟩ := B
  obtain ⟨rfl, rfl, hx, hZ, hown, hby, hml, hrt, hlk, hnm, hw⟩ := H
  intro T locs c1 s1 X F hc hs eT
  exact own_go (fun t q => XT.lstore X.here hx rfl (hb hby hd) rfl hl q) (k T locs c1 s1 X F hc hs eT)
theorem own_astore_n (H : own_Ok B Z a0 l R y code N ret) {i : Fin 4} {x : Value} (hv : x.isRef = true) (Ls' : Array Slot) (hl : storeLocals Ls i.val x = some Ls') (hd : decode code pc = .ok (.astore_n i, 1)) (k : own_G B n0 Q kc ks cells slots h (pc + 1) Ls' st) : own_G B n0 Q kc ks cells slots h pc Ls (x :: st) := by
  obtain ⟨p, l, e, R, s, m, args, below, meth, c⟩ := B
  obtain ⟨rfl, rfl, hx, hZ, hown, hby, hml, hrt, hlk, hnm, hw⟩ := H
  intro T locs c1 s1 X F hc hs eT
  exact own_go (fun t q => XS.astoreN X.here hx rfl (hb hby hd) rfl hv hl q) (k T locs c1 s1 X F hc hs eT)
theorem own_astore (H : own_Ok B Z a0 l R y code N ret) {i : Nat} {x : Value} (hv : x.isRef = true) (Ls' : Array Slot) (hl : storeLocals Ls i x = some Ls') (hd : decode code pc = .ok (.astore i, 2)) (k : own_G B n0 Q kc ks cells slots h (pc + 2) Ls' st) : own_G B n0 Q kc ks cells slots h pc Ls (x :: st) := by
  obtain ⟨p, l, e, R, s, m, args, below, meth, c⟩ := B
  obtain ⟨rfl, rfl, hx, hZ, hown, hby, hml, hrt, hlk, hnm, hw⟩ := H
  intro T locs c1 s1 X F hc hs eT
  exact own_go (fun t q => XS.astore X.here hx rfl (hb hby hd) rfl hv hl q) (k T locs c1 s1 X F hc hs eT)
theorem own_iinc (H : own_Ok B Z a0 l R y code N ret) {i : Nat} {cst : Int} {x u : Int32} (v : Int32) (hv : Int32.ofInt cst = v) (hl : Ls[i]? = some (.val (.int x))) (hu : x + v = u) (Ls' : Array Slot) (hl' : storeLocals Ls i (.int u) = some Ls') (hd : decode code pc = .ok (.iinc i cst, 3)) (k : own_G B n0 Q kc ks cells slots h (pc + 3) Ls' st) : own_G B n0 Q kc ks cells slots h pc Ls st := by
  subst hu
  obtain ⟨p, l, e, R, s, m, args, below, meth, c⟩ := B
  obtain ⟨rfl, rfl, hx, hZ, hown, hby, hml, hrt, hlk, hnm, hw⟩ := H
  intro T locs c1 s1 X F hc hs eT
  exact own_go (fun t q => XT.iincV X.here hx rfl v (hb hby hd) hv hl hl' q) (k T locs c1 s1 X F hc hs eT)
theorem own_goto (H : own_Ok B Z a0 l R y code N ret) {o : Int} (hd : decode code pc = .ok (.goto o, 3)) (ho : 0 ≤ (pc : Int) + o) (hp : ((pc : Int) + o).toNat = pc') (k : own_G B n0 Q kc ks cells slots h pc' Ls st) : own_G B n0 Q kc ks cells slots h pc Ls st := by
  obtain ⟨p, l, e, R, s, m, args, below, meth, c⟩ := B
  obtain ⟨rfl, rfl, hx, hZ, hown, hby, hml, hrt, hlk, hnm, hw⟩ := H
  intro T locs c1 s1 X F hc hs eT
  exact own_go (fun t q => XS.goto X.here hx rfl rfl (hb hby hd) ho hp q) (k T locs c1 s1 X F hc hs eT)
theorem own_ifeq_t (H : own_Ok B Z a0 l R y code N ret) {x : Int32} {o : Int} (hd : decode code pc = .ok (.ifCond .eq o, 3)) (ho : 0 ≤ (pc : Int) + o) (hp : ((pc : Int) + o).toNat = pc') (hq : x = 0) (k : own_G B n0 Q kc ks cells slots h pc' Ls st) : own_G B n0 Q kc ks cells slots h pc Ls (.int x :: st) := by
  obtain ⟨p, l, e, R, s, m, args, below, meth, c⟩ := B
  obtain ⟨rfl, rfl, hx, hZ, hown, hby, hml, hrt, hlk, hnm, hw⟩ := H
  intro T locs c1 s1 X F hc hs eT
  exact own_go (fun t q => XS.ifYes X.here hx rfl rfl (hb hby hd) rfl (XT.i0_eq_t hq) ho hp q) (k T locs c1 s1 X F hc hs eT)
theorem own_ifeq_f (H : own_Ok B Z a0 l R y code N ret) {x : Int32} {o : Int} (hd : decode code pc = .ok (.ifCond .eq o, 3)) (hq : ¬ x = 0) (k : own_G B n0 Q kc ks cells slots h (pc + 3) Ls st) : own_G B n0 Q kc ks cells slots h pc Ls (.int x :: st) := by
  obtain ⟨p, l, e, R, s, m, args, below, meth, c⟩ := B
  obtain ⟨rfl, rfl, hx, hZ, hown, hby, hml, hrt, hlk, hnm, hw⟩ := H
  intro T locs c1 s1 X F hc hs eT
  exact own_go (fun t q => XS.ifNo X.here hx rfl (hb hby hd) rfl (XT.i0_eq_f hq) q) (k T locs c1 s1 X F hc hs eT)
theorem own_icmpeq_t (H : own_Ok B Z a0 l R y code N ret) {x z : Int32} {o : Int} (hd : decode code pc = .ok (.if_icmp .eq o, 3)) (ho : 0 ≤ (pc : Int) + o) (hp : ((pc : Int) + o).toNat = pc') (hq : x = z) (k : own_G B n0 Q kc ks cells slots h pc' Ls st) : own_G B n0 Q kc ks cells slots h pc Ls (.int z :: .int x :: st) := by
  obtain ⟨p, l, e, R, s, m, args, below, meth, c⟩ := B
  obtain ⟨rfl, rfl, hx, hZ, hown, hby, hml, hrt, hlk, hnm, hw⟩ := H
  intro T locs c1 s1 X F hc hs eT
  exact own_go (fun t q => XS.icmpYes X.here hx rfl rfl (hb hby hd) rfl (XT.ii_eq_t hq) ho hp q) (k T locs c1 s1 X F hc hs eT)
theorem own_icmpeq_f (H : own_Ok B Z a0 l R y code N ret) {x z : Int32} {o : Int} (hd : decode code pc = .ok (.if_icmp .eq o, 3)) (hq : ¬ x = z) (k : own_G B n0 Q kc ks cells slots h (pc + 3) Ls st) : own_G B n0 Q kc ks cells slots h pc Ls (.int z :: .int x :: st) := by
  obtain ⟨p, l, e, R, s, m, args, below, meth, c⟩ := B
  obtain ⟨rfl, rfl, hx, hZ, hown, hby, hml, hrt, hlk, hnm, hw⟩ := H
  intro T locs c1 s1 X F hc hs eT
  exact own_go (fun t q => XS.icmpNo X.here hx rfl (hb hby hd) rfl (XT.ii_eq_f hq) q) (k T locs c1 s1 X F hc hs eT)
theorem own_lcmpeq_t (H : own_Ok B Z a0 l R y code N ret) {x z : Int64} {o : Int} (hd0 : decode code pc = .ok (.lcmp, 1)) (hd : decode code (pc + 1) = .ok (.ifCond .eq o, 3)) (ho : 0 ≤ ((pc + 1 : Nat) : Int) + o) (hp : (((pc + 1 : Nat) : Int) + o).toNat = pc') (hq : x = z) (k : own_G B n0 Q kc ks cells slots h pc' Ls st) : own_G B n0 Q kc ks cells slots h pc Ls (.long z :: .long x :: st) := by
  obtain ⟨p, l, e, R, s, m, args, below, meth, c⟩ := B
  obtain ⟨rfl, rfl, hx, hZ, hown, hby, hml, hrt, hlk, hnm, hw⟩ := H
  intro T locs c1 s1 X F hc hs eT
  exact own_go (fun t q => XT.lcmp X.here hx rfl (hb hby hd0) rfl (XS.ifYes X.here hx rfl rfl (hb hby hd) rfl (XT.ll_eq_t hq) ho hp q)) (k T locs c1 s1 X F hc hs eT)
theorem own_lcmpeq_f (H : own_Ok B Z a0 l R y code N ret) {x z : Int64} {o : Int} (hd0 : decode code pc = .ok (.lcmp, 1)) (hd : decode code (pc + 1) = .ok (.ifCond .eq o, 3)) (hq : ¬ x = z) (k : own_G B n0 Q kc ks cells slots h (pc + 4) Ls st) : own_G B n0 Q kc ks cells slots h pc Ls (.long z :: .long x :: st) := by
  obtain ⟨p, l, e, R, s, m, args, below, meth, c⟩ := B
  obtain ⟨rfl, rfl, hx, hZ, hown, hby, hml, hrt, hlk, hnm, hw⟩ := H
  intro T locs c1 s1 X F hc hs eT
  exact own_go (fun t q => XT.lcmp X.here hx rfl (hb hby hd0) rfl (XS.ifNo X.here hx rfl (hb hby hd) rfl (XT.ll_eq_f hq) q)) (k T locs c1 s1 X F hc hs eT)
theorem own_ifne_t (H : own_Ok B Z a0 l R y code N ret) {x : Int32} {o : Int} (hd : decode code pc = .ok (.ifCond .ne o, 3)) (ho : 0 ≤ (pc : Int) + o) (hp : ((pc : Int) + o).toNat = pc') (hq : ¬ x = 0) (k : own_G B n0 Q kc ks cells slots h pc' Ls st) : own_G B n0 Q kc ks cells slots h pc Ls (.int x :: st) := by
  obtain ⟨p, l, e, R, s, m, args, below, meth, c⟩ := B
  obtain ⟨rfl, rfl, hx, hZ, hown, hby, hml, hrt, hlk, hnm, hw⟩ := H
  intro T locs c1 s1 X F hc hs eT
  exact own_go (fun t q => XS.ifYes X.here hx rfl rfl (hb hby hd) rfl (XT.i0_ne_t hq) ho hp q) (k T locs c1 s1 X F hc hs eT)
theorem own_ifne_f (H : own_Ok B Z a0 l R y code N ret) {x : Int32} {o : Int} (hd : decode code pc = .ok (.ifCond .ne o, 3)) (hq : x = 0) (k : own_G B n0 Q kc ks cells slots h (pc + 3) Ls st) : own_G B n0 Q kc ks cells slots h pc Ls (.int x :: st) := by
  obtain ⟨p, l, e, R, s, m, args, below, meth, c⟩ := B
  obtain ⟨rfl, rfl, hx, hZ, hown, hby, hml, hrt, hlk, hnm, hw⟩ := H
  intro T locs c1 s1 X F hc hs eT
  exact own_go (fun t q => XS.ifNo X.here hx rfl (hb hby hd) rfl (XT.i0_ne_f hq) q) (k T locs c1 s1 X F hc hs eT)
theorem own_icmpne_t (H : own_Ok B Z a0 l R y code N ret) {x z : Int32} {o : Int} (hd : decode code pc = .ok (.if_icmp .ne o, 3)) (ho : 0 ≤ (pc : Int) + o) (hp : ((pc : Int) + o).toNat = pc') (hq : ¬ x = z) (k : own_G B n0 Q kc ks cells slots h pc' Ls st) : own_G B n0 Q kc ks cells slots h pc Ls (.int z :: .int x :: st) := by
  obtain ⟨p, l, e, R, s, m, args, below, meth, c⟩ := B
  obtain ⟨rfl, rfl, hx, hZ, hown, hby, hml, hrt, hlk, hnm, hw⟩ := H
  intro T locs c1 s1 X F hc hs eT
  exact own_go (fun t q => XS.icmpYes X.here hx rfl rfl (hb hby hd) rfl (XT.ii_ne_t hq) ho hp q) (k T locs c1 s1 X F hc hs eT)
theorem own_icmpne_f (H : own_Ok B Z a0 l R y code N ret) {x z : Int32} {o : Int} (hd : decode code pc = .ok (.if_icmp .ne o, 3)) (hq : x = z) (k : own_G B n0 Q kc ks cells slots h (pc + 3) Ls st) : own_G B n0 Q kc ks cells slots h pc Ls (.int z :: .int x :: st) := by
  obtain ⟨p, l, e, R, s, m, args, below, meth, c⟩ := B
  obtain ⟨rfl, rfl, hx, hZ, hown, hby, hml, hrt, hlk, hnm, hw⟩ := H
  intro T locs c1 s1 X F hc hs eT
  exact own_go (fun t q => XS.icmpNo X.here hx rfl (hb hby hd) rfl (XT.ii_ne_f hq) q) (k T locs c1 s1 X F hc hs eT)
theorem own_lcmpne_t (H : own_Ok B Z a0 l R y code N ret) {x z : Int64} {o : Int} (hd0 : decode code pc = .ok (.lcmp, 1)) (hd : decode code (pc + 1) = .ok (.ifCond .ne o, 3)) (ho : 0 ≤ ((pc + 1 : Nat) : Int) + o) (hp : (((pc + 1 : Nat) : Int) + o).toNat = pc') (hq : ¬ x = z) (k : own_G B n0 Q kc ks cells slots h pc' Ls st) : own_G B n0 Q kc ks cells slots h pc Ls (.long z :: .long x :: st) := by
  obtain ⟨p, l, e, R, s, m, args, below, meth, c⟩ := B
  obtain ⟨rfl, rfl, hx, hZ, hown, hby, hml, hrt, hlk, hnm, hw⟩ := H
  intro T locs c1 s1 X F hc hs eT
  exact own_go (fun t q => XT.lcmp X.here hx rfl (hb hby hd0) rfl (XS.ifYes X.here hx rfl rfl (hb hby hd) rfl (XT.ll_ne_t hq) ho hp q)) (k T locs c1 s1 X F hc hs eT)
theorem own_lcmpne_f (H : own_Ok B Z a0 l R y code N ret) {x z : Int64} {o : Int} (hd0 : decode code pc = .ok (.lcmp, 1)) (hd : decode code (pc + 1) = .ok (.ifCond .ne o, 3)) (hq : x = z) (k : own_G B n0 Q kc ks cells slots h (pc + 4) Ls st) : own_G B n0 Q kc ks cells slots h pc Ls (.long z :: .long x :: st) := by
  obtain ⟨p, l, e, R, s, m, args, below, meth, c⟩ := B
  obtain ⟨rfl, rfl, hx, hZ, hown, hby, hml, hrt, hlk, hnm, hw⟩ := H
  intro T locs c1 s1 X F hc hs eT
  exact own_go (fun t q => XT.lcmp X.here hx rfl (hb hby hd0) rfl (XS.ifNo X.here hx rfl (hb hby hd) rfl (XT.ll_ne_f hq) q)) (k T locs c1 s1 X F hc hs eT)
theorem own_iflt_t (H : own_Ok B Z a0 l R y code N ret) {x : Int32} {o : Int} (hd : decode code pc = .ok (.ifCond .lt o, 3)) (ho : 0 ≤ (pc : Int) + o) (hp : ((pc : Int) + o).toNat = pc') (hq : x < 0) (k : own_G B n0 Q kc ks cells slots h pc' Ls st) : own_G B n0 Q kc ks cells slots h pc Ls (.int x :: st) := by
  obtain ⟨p, l, e, R, s, m, args, below, meth, c⟩ := B
  obtain ⟨rfl, rfl, hx, hZ, hown, hby, hml, hrt, hlk, hnm, hw⟩ := H
  intro T locs c1 s1 X F hc hs eT
  exact own_go (fun t q => XS.ifYes X.here hx rfl rfl (hb hby hd) rfl (XT.i0_lt_t hq) ho hp q) (k T locs c1 s1 X F hc hs eT)
theorem own_iflt_f (H : own_Ok B Z a0 l R y code N ret) {x : Int32} {o : Int} (hd : decode code pc = .ok (.ifCond .lt o, 3)) (hq : ¬ x < 0) (k : own_G B n0 Q kc ks cells slots h (pc + 3) Ls st) : own_G B n0 Q kc ks cells slots h pc Ls (.int x :: st) := by
  obtain ⟨p, l, e, R, s, m, args, below, meth, c⟩ := B
  obtain ⟨rfl, rfl, hx, hZ, hown, hby, hml, hrt, hlk, hnm, hw⟩ := H
  intro T locs c1 s1 X F hc hs eT
  exact own_go (fun t q => XS.ifNo X.here hx rfl (hb hby hd) rfl (XT.i0_lt_f hq) q) (k T locs c1 s1 X F hc hs eT)
theorem own_icmplt_t (H : own_Ok B Z a0 l R y code N ret) {x z : Int32} {o : Int} (hd : decode code pc = .ok (.if_icmp .lt o, 3)) (ho : 0 ≤ (pc : Int) + o) (hp : ((pc : Int) + o).toNat = pc') (hq : x < z) (k : own_G B n0 Q kc ks cells slots h pc' Ls st) : own_G B n0 Q kc ks cells slots h pc Ls (.int z :: .int x :: st) := by
  obtain ⟨p, l, e, R, s, m, args, below, meth, c⟩ := B
  obtain ⟨rfl, rfl, hx, hZ, hown, hby, hml, hrt, hlk, hnm, hw⟩ := H
  intro T locs c1 s1 X F hc hs eT
  exact own_go (fun t q => XS.icmpYes X.here hx rfl rfl (hb hby hd) rfl (XT.ii_lt_t hq) ho hp q) (k T locs c1 s1 X F hc hs eT)
theorem own_icmplt_f (H : own_Ok B Z a0 l R y code N ret) {x z : Int32} {o : Int} (hd : decode code pc = .ok (.if_icmp .lt o, 3)) (hq : ¬ x < z) (k : own_G B n0 Q kc ks cells slots h (pc + 3) Ls st) : own_G B n0 Q kc ks cells slots h pc Ls (.int z :: .int x :: st) := by
  obtain ⟨p, l, e, R, s, m, args, below, meth, c⟩ := B
  obtain ⟨rfl, rfl, hx, hZ, hown, hby, hml, hrt, hlk, hnm, hw⟩ := H
  intro T locs c1 s1 X F hc hs eT
  exact own_go (fun t q => XS.icmpNo X.here hx rfl (hb hby hd) rfl (XT.ii_lt_f hq) q) (k T locs c1 s1 X F hc hs eT)
theorem own_lcmplt_t (H : own_Ok B Z a0 l R y code N ret) {x z : Int64} {o : Int} (hd0 : decode code pc = .ok (.lcmp, 1)) (hd : decode code (pc + 1) = .ok (.ifCond .lt o, 3)) (ho : 0 ≤ ((pc + 1 : Nat) : Int) + o) (hp : (((pc + 1 : Nat) : Int) + o).toNat = pc') (hq : x < z) (k : own_G B n0 Q kc ks cells slots h pc' Ls st) : own_G B n0 Q kc ks cells slots h pc Ls (.long z :: .long x :: st) := by
  obtain ⟨p, l, e, R, s, m, args, below, meth, c⟩ := B
  obtain ⟨rfl, rfl, hx, hZ, hown, hby, hml, hrt, hlk, hnm, hw⟩ := H
  intro T locs c1 s1 X F hc hs eT
  exact own_go (fun t q => XT.lcmp X.here hx rfl (hb hby hd0) rfl (XS.ifYes X.here hx rfl rfl (hb hby hd) rfl (XT.ll_lt_t hq) ho hp q)) (k T locs c1 s1 X F hc hs eT)
theorem own_lcmplt_f (H : own_Ok B Z a0 l R y code N ret) {x z : Int64} {o : Int} (hd0 : decode code pc = .ok (.lcmp, 1)) (hd : decode code (pc + 1) = .ok (.ifCond .lt o, 3)) (hq : ¬ x < z) (k : own_G B n0 Q kc ks cells slots h (pc + 4) Ls st) : own_G B n0 Q kc ks cells slots h pc Ls (.long z :: .long x :: st) := by
  obtain ⟨p, l, e, R, s, m, args, below, meth, c⟩ := B
  obtain ⟨rfl, rfl, hx, hZ, hown, hby, hml, hrt, hlk, hnm, hw⟩ := H
  intro T locs c1 s1 X F hc hs eT
  exact own_go (fun t q => XT.lcmp X.here hx rfl (hb hby hd0) rfl (XS.ifNo X.here hx rfl (hb hby hd) rfl (XT.ll_lt_f hq) q)) (k T locs c1 s1 X F hc hs eT)
theorem own_ifge_t (H : own_Ok B Z a0 l R y code N ret) {x : Int32} {o : Int} (hd : decode code pc = .ok (.ifCond .ge o, 3)) (ho : 0 ≤ (pc : Int) + o) (hp : ((pc : Int) + o).toNat = pc') (hq : ¬ x < 0) (k : own_G B n0 Q kc ks cells slots h pc' Ls st) : own_G B n0 Q kc ks cells slots h pc Ls (.int x :: st) := by
  obtain ⟨p, l, e, R, s, m, args, below, meth, c⟩ := B
  obtain ⟨rfl, rfl, hx, hZ, hown, hby, hml, hrt, hlk, hnm, hw⟩ := H
  intro T locs c1 s1 X F hc hs eT
  exact own_go (fun t q => XS.ifYes X.here hx rfl rfl (hb hby hd) rfl (XT.i0_ge_t hq) ho hp q) (k T locs c1 s1 X F hc hs eT)
theorem own_ifge_f (H : own_Ok B Z a0 l R y code N ret) {x : Int32} {o : Int} (hd : decode code pc = .ok (.ifCond .ge o, 3)) (hq : x < 0) (k : own_G B n0 Q kc ks cells slots h (pc + 3) Ls st) : own_G B n0 Q kc ks cells slots h pc Ls (.int x :: st) := by
  obtain ⟨p, l, e, R, s, m, args, below, meth, c⟩ := B
  obtain ⟨rfl, rfl, hx, hZ, hown, hby, hml, hrt, hlk, hnm, hw⟩ := H
  intro T locs c1 s1 X F hc hs eT
  exact own_go (fun t q => XS.ifNo X.here hx rfl (hb hby hd) rfl (XT.i0_ge_f hq) q) (k T locs c1 s1 X F hc hs eT)
theorem own_icmpge_t (H : own_Ok B Z a0 l R y code N ret) {x z : Int32} {o : Int} (hd : decode code pc = .ok (.if_icmp .ge o, 3)) (ho : 0 ≤ (pc : Int) + o) (hp : ((pc : Int) + o).toNat = pc') (hq : ¬ x < z) (k : own_G B n0 Q kc ks cells slots h pc' Ls st) : own_G B n0 Q kc ks cells slots h pc Ls (.int z :: .int x :: st) := by
  obtain ⟨p, l, e, R, s, m, args, below, meth, c⟩ := B
  obtain ⟨rfl, rfl, hx, hZ, hown, hby, hml, hrt, hlk, hnm, hw⟩ := H
  intro T locs c1 s1 X F hc hs eT
  exact own_go (fun t q => XS.icmpYes X.here hx rfl rfl (hb hby hd) rfl (XT.ii_ge_t hq) ho hp q) (k T locs c1 s1 X F hc hs eT)
theorem own_icmpge_f (H : own_Ok B Z a0 l R y code N ret) {x z : Int32} {o : Int} (hd : decode code pc = .ok (.if_icmp .ge o, 3)) (hq : x < z) (k : own_G B n0 Q kc ks cells slots h (pc + 3) Ls st) : own_G B n0 Q kc ks cells slots h pc Ls (.int z :: .int x :: st) := by
  obtain ⟨p, l, e, R, s, m, args, below, meth, c⟩ := B
  obtain ⟨rfl, rfl, hx, hZ, hown, hby, hml, hrt, hlk, hnm, hw⟩ := H
  intro T locs c1 s1 X F hc hs eT
  exact own_go (fun t q => XS.icmpNo X.here hx rfl (hb hby hd) rfl (XT.ii_ge_f hq) q) (k T locs c1 s1 X F hc hs eT)
theorem own_lcmpge_t (H : own_Ok B Z a0 l R y code N ret) {x z : Int64} {o : Int} (hd0 : decode code pc = .ok (.lcmp, 1)) (hd : decode code (pc + 1) = .ok (.ifCond .ge o, 3)) (ho : 0 ≤ ((pc + 1 : Nat) : Int) + o) (hp : (((pc + 1 : Nat) : Int) + o).toNat = pc') (hq : ¬ x < z) (k : own_G B n0 Q kc ks cells slots h pc' Ls st) : own_G B n0 Q kc ks cells slots h pc Ls (.long z :: .long x :: st) := by
  obtain ⟨p, l, e, R, s, m, args, below, meth, c⟩ := B
  obtain ⟨rfl, rfl, hx, hZ, hown, hby, hml, hrt, hlk, hnm, hw⟩ := H
  intro T locs c1 s1 X F hc hs eT
  exact own_go (fun t q => XT.lcmp X.here hx rfl (hb hby hd0) rfl (XS.ifYes X.here hx rfl rfl (hb hby hd) rfl (XT.ll_ge_t hq) ho hp q)) (k T locs c1 s1 X F hc hs eT)
theorem own_lcmpge_f (H : own_Ok B Z a0 l R y code N ret) {x z : Int64} {o : Int} (hd0 : decode code pc = .ok (.lcmp, 1)) (hd : decode code (pc + 1) = .ok (.ifCond .ge o, 3)) (hq : x < z) (k : own_G B n0 Q kc ks cells slots h (pc + 4) Ls st) : own_G B n0 Q kc ks cells slots h pc Ls (.long z :: .long x :: st) := by
  obtain ⟨p, l, e, R, s, m, args, below, meth, c⟩ := B
  obtain ⟨rfl, rfl, hx, hZ, hown, hby, hml, hrt, hlk, hnm, hw⟩ := H
  intro T locs c1 s1 X F hc hs eT
  exact own_go (fun t q => XT.lcmp X.here hx rfl (hb hby hd0) rfl (XS.ifNo X.here hx rfl (hb hby hd) rfl (XT.ll_ge_f hq) q)) (k T locs c1 s1 X F hc hs eT)
theorem own_ifgt_t (H : own_Ok B Z a0 l R y code N ret) {x : Int32} {o : Int} (hd : decode code pc = .ok (.ifCond .gt o, 3)) (ho : 0 ≤ (pc : Int) + o) (hp : ((pc : Int) + o).toNat = pc') (hq : 0 < x) (k : own_G B n0 Q kc ks cells slots h pc' Ls st) : own_G B n0 Q kc ks cells slots h pc Ls (.int x :: st) := by
  obtain ⟨p, l, e, R, s, m, args, below, meth, c⟩ := B
  obtain ⟨rfl, rfl, hx, hZ, hown, hby, hml, hrt, hlk, hnm, hw⟩ := H
  intro T locs c1 s1 X F hc hs eT
  exact own_go (fun t q => XS.ifYes X.here hx rfl rfl (hb hby hd) rfl (XT.i0_gt_t hq) ho hp q) (k T locs c1 s1 X F hc hs eT)
theorem own_ifgt_f (H : own_Ok B Z a0 l R y code N ret) {x : Int32} {o : Int} (hd : decode code pc = .ok (.ifCond .gt o, 3)) (hq : ¬ 0 < x) (k : own_G B n0 Q kc ks cells slots h (pc + 3) Ls st) : own_G B n0 Q kc ks cells slots h pc Ls (.int x :: st) := by
  obtain ⟨p, l, e, R, s, m, args, below, meth, c⟩ := B
  obtain ⟨rfl, rfl, hx, hZ, hown, hby, hml, hrt, hlk, hnm, hw⟩ := H
  intro T locs c1 s1 X F hc hs eT
  exact own_go (fun t q => XS.ifNo X.here hx rfl (hb hby hd) rfl (XT.i0_gt_f hq) q) (k T locs c1 s1 X F hc hs eT)
theorem own_icmpgt_t (H : own_Ok B Z a0 l R y code N ret) {x z : Int32} {o : Int} (hd : decode code pc = .ok (.if_icmp .gt o, 3)) (ho : 0 ≤ (pc : Int) + o) (hp : ((pc : Int) + o).toNat = pc') (hq : z < x) (k : own_G B n0 Q kc ks cells slots h pc' Ls st) : own_G B n0 Q kc ks cells slots h pc Ls (.int z :: .int x :: st) := by
  obtain ⟨p, l, e, R, s, m, args, below, meth, c⟩ := B
  obtain ⟨rfl, rfl, hx, hZ, hown, hby, hml, hrt, hlk, hnm, hw⟩ := H
  intro T locs c1 s1 X F hc hs eT
  exact own_go (fun t q => XS.icmpYes X.here hx rfl rfl (hb hby hd) rfl (XT.ii_gt_t hq) ho hp q) (k T locs c1 s1 X F hc hs eT)
theorem own_icmpgt_f (H : own_Ok B Z a0 l R y code N ret) {x z : Int32} {o : Int} (hd : decode code pc = .ok (.if_icmp .gt o, 3)) (hq : ¬ z < x) (k : own_G B n0 Q kc ks cells slots h (pc + 3) Ls st) : own_G B n0 Q kc ks cells slots h pc Ls (.int z :: .int x :: st) := by
  obtain ⟨p, l, e, R, s, m, args, below, meth, c⟩ := B
  obtain ⟨rfl, rfl, hx, hZ, hown, hby, hml, hrt, hlk, hnm, hw⟩ := H
  intro T locs c1 s1 X F hc hs eT
  exact own_go (fun t q => XS.icmpNo X.here hx rfl (hb hby hd) rfl (XT.ii_gt_f hq) q) (k T locs c1 s1 X F hc hs eT)
theorem own_lcmpgt_t (H : own_Ok B Z a0 l R y code N ret) {x z : Int64} {o : Int} (hd0 : decode code pc = .ok (.lcmp, 1)) (hd : decode code (pc + 1) = .ok (.ifCond .gt o, 3)) (ho : 0 ≤ ((pc + 1 : Nat) : Int) + o) (hp : (((pc + 1 : Nat) : Int) + o).toNat = pc') (hq : z < x) (k : own_G B n0 Q kc ks cells slots h pc' Ls st) : own_G B n0 Q kc ks cells slots h pc Ls (.long z :: .long x :: st) := by
  obtain ⟨p, l, e, R, s, m, args, below, meth, c⟩ := B
  obtain ⟨rfl, rfl, hx, hZ, hown, hby, hml, hrt, hlk, hnm, hw⟩ := H
  intro T locs c1 s1 X F hc hs eT
  exact own_go (fun t q => XT.lcmp X.here hx rfl (hb hby hd0) rfl (XS.ifYes X.here hx rfl rfl (hb hby hd) rfl (XT.ll_gt_t hq) ho hp q)) (k T locs c1 s1 X F hc hs eT)
theorem own_lcmpgt_f (H : own_Ok B Z a0 l R y code N ret) {x z : Int64} {o : Int} (hd0 : decode code pc = .ok (.lcmp, 1)) (hd : decode code (pc + 1) = .ok (.ifCond .gt o, 3)) (hq : ¬ z < x) (k : own_G B n0 Q kc ks cells slots h (pc + 4) Ls st) : own_G B n0 Q kc ks cells slots h pc Ls (.long z :: .long x :: st) := by
  obtain ⟨p, l, e, R, s, m, args, below, meth, c⟩ := B
  obtain ⟨rfl, rfl, hx, hZ, hown, hby, hml, hrt, hlk, hnm, hw⟩ := H
  intro T locs c1 s1 X F hc hs eT
  exact own_go (fun t q => XT.lcmp X.here hx rfl (hb hby hd0) rfl (XS.ifNo X.here hx rfl (hb hby hd) rfl (XT.ll_gt_f hq) q)) (k T locs c1 s1 X F hc hs eT)
theorem own_ifle_t (H : own_Ok B Z a0 l R y code N ret) {x : Int32} {o : Int} (hd : decode code pc = .ok (.ifCond .le o, 3)) (ho : 0 ≤ (pc : Int) + o) (hp : ((pc : Int) + o).toNat = pc') (hq : ¬ 0 < x) (k : own_G B n0 Q kc ks cells slots h pc' Ls st) : own_G B n0 Q kc ks cells slots h pc Ls (.int x :: st) := by
  obtain ⟨p, l, e, R, s, m, args, below, meth, c⟩ := B
  obtain ⟨rfl, rfl, hx, hZ, hown, hby, hml, hrt, hlk, hnm, hw⟩ := H
  intro T locs c1 s1 X F hc hs eT
  exact own_go (fun t q => XS.ifYes X.here hx rfl rfl (hb hby hd) rfl (XT.i0_le_t hq) ho hp q) (k T locs c1 s1 X F hc hs eT)
theorem own_ifle_f (H : own_Ok B Z a0 l R y code N ret) {x : Int32} {o : Int} (hd : decode code pc = .ok (.ifCond .le o, 3)) (hq : 0 < x) (k : own_G B n0 Q kc ks cells slots h (pc + 3) Ls st) : own_G B n0 Q kc ks cells slots h pc Ls (.int x :: st) := by
  obtain ⟨p, l, e, R, s, m, args, below, meth, c⟩ := B
  obtain ⟨rfl, rfl, hx, hZ, hown, hby, hml, hrt, hlk, hnm, hw⟩ := H
  intro T locs c1 s1 X F hc hs eT
  exact own_go (fun t q => XS.ifNo X.here hx rfl (hb hby hd) rfl (XT.i0_le_f hq) q) (k T locs c1 s1 X F hc hs eT)
theorem own_icmple_t (H : own_Ok B Z a0 l R y code N ret) {x z : Int32} {o : Int} (hd : decode code pc = .ok (.if_icmp .le o, 3)) (ho : 0 ≤ (pc : Int) + o) (hp : ((pc : Int) + o).toNat = pc') (hq : ¬ z < x) (k : own_G B n0 Q kc ks cells slots h pc' Ls st) : own_G B n0 Q kc ks cells slots h pc Ls (.int z :: .int x :: st) := by
  obtain ⟨p, l, e, R, s, m, args, below, meth, c⟩ := B
  obtain ⟨rfl, rfl, hx, hZ, hown, hby, hml, hrt, hlk, hnm, hw⟩ := H
  intro T locs c1 s1 X F hc hs eT
  exact own_go (fun t q => XS.icmpYes X.here hx rfl rfl (hb hby hd) rfl (XT.ii_le_t hq) ho hp q) (k T locs c1 s1 X F hc hs eT)
theorem own_icmple_f (H : own_Ok B Z a0 l R y code N ret) {x z : Int32} {o : Int} (hd : decode code pc = .ok (.if_icmp .le o, 3)) (hq : z < x) (k : own_G B n0 Q kc ks cells slots h (pc + 3) Ls st) : own_G B n0 Q kc ks cells slots h pc Ls (.int z :: .int x :: st) := by
  obtain ⟨p, l, e, R, s, m, args, below, meth, c⟩ := B
  obtain ⟨rfl, rfl, hx, hZ, hown, hby, hml, hrt, hlk, hnm, hw⟩ := H
  intro T locs c1 s1 X F hc hs eT
  exact own_go (fun t q => XS.icmpNo X.here hx rfl (hb hby hd) rfl (XT.ii_le_f hq) q) (k T locs c1 s1 X F hc hs eT)
theorem own_lcmple_t (H : own_Ok B Z a0 l R y code N ret) {x z : Int64} {o : Int} (hd0 : decode code pc = .ok (.lcmp, 1)) (hd : decode code (pc + 1) = .ok (.ifCond .le o, 3)) (ho : 0 ≤ ((pc + 1 : Nat) : Int) + o) (hp : (((pc + 1 : Nat) : Int) + o).toNat = pc') (hq : ¬ z < x) (k : own_G B n0 Q kc ks cells slots h pc' Ls st) : own_G B n0 Q kc ks cells slots h pc Ls (.long z :: .long x :: st) := by
  obtain ⟨p, l, e, R, s, m, args, below, meth, c⟩ := B
  obtain ⟨rfl, rfl, hx, hZ, hown, hby, hml, hrt, hlk, hnm, hw⟩ := H
  intro T locs c1 s1 X F hc hs eT
  exact own_go (fun t q => XT.lcmp X.here hx rfl (hb hby hd0) rfl (XS.ifYes X.here hx rfl rfl (hb hby hd) rfl (XT.ll_le_t hq) ho hp q)) (k T locs c1 s1 X F hc hs eT)
theorem own_lcmple_f (H : own_Ok B Z a0 l R y code N ret) {x z : Int64} {o : Int} (hd0 : decode code pc = .ok (.lcmp, 1)) (hd : decode code (pc + 1) = .ok (.ifCond .le o, 3)) (hq : z < x) (k : own_G B n0 Q kc ks cells slots h (pc + 4) Ls st) : own_G B n0 Q kc ks cells slots h pc Ls (.long z :: .long x :: st) := by
  obtain ⟨p, l, e, R, s, m, args, below, meth, c⟩ := B
  obtain ⟨rfl, rfl, hx, hZ, hown, hby, hml, hrt, hlk, hnm, hw⟩ := H
  intro T locs c1 s1 X F hc hs eT
  exact own_go (fun t q => XT.lcmp X.here hx rfl (hb hby hd0) rfl (XS.ifNo X.here hx rfl (hb hby hd) rfl (XT.ll_le_f hq) q)) (k T locs c1 s1 X F hc hs eT)
theorem own_acmpeq_t (H : own_Ok B Z a0 l R y code N ret) {x z : Value} {o : Int} (hd : decode code pc = .ok (.if_acmp .eq o, 3)) (ho : 0 ≤ (pc : Int) + o) (hp : ((pc : Int) + o).toNat = pc') (h1 : x.isRef = true) (h2 : z.isRef = true) (hq : x = z) (k : own_G B n0 Q kc ks cells slots h pc' Ls st) : own_G B n0 Q kc ks cells slots h pc Ls (z :: x :: st) := by
  obtain ⟨p, l, e, R, s, m, args, below, meth, c⟩ := B
  obtain ⟨rfl, rfl, hx, hZ, hown, hby, hml, hrt, hlk, hnm, hw⟩ := H
  intro T locs c1 s1 X F hc hs eT
  exact own_go (fun t q => XT.acmpYes X.here hx rfl rfl (hb hby hd) rfl h1 h2 (XT.aa_eq_t hq) ho hp q) (k T locs c1 s1 X F hc hs eT)
theorem own_acmpeq_f (H : own_Ok B Z a0 l R y code N ret) {x z : Value} {o : Int} (hd : decode code pc = .ok (.if_acmp .eq o, 3)) (h1 : x.isRef = true) (h2 : z.isRef = true) (hq : ¬ x = z) (k : own_G B n0 Q kc ks cells slots h (pc + 3) Ls st) : own_G B n0 Q kc ks cells slots h pc Ls (z :: x :: st) := by
  obtain ⟨p, l, e, R, s, m, args, below, meth, c⟩ := B
  obtain ⟨rfl, rfl, hx, hZ, hown, hby, hml, hrt, hlk, hnm, hw⟩ := H
  intro T locs c1 s1 X F hc hs eT
  exact own_go (fun t q => XT.acmpNo X.here hx rfl (hb hby hd) rfl h1 h2 (XT.aa_eq_f hq) q) (k T locs c1 s1 X F hc hs eT)
theorem own_acmpne_t (H : own_Ok B Z a0 l R y code N ret) {x z : Value} {o : Int} (hd : decode code pc = .ok (.if_acmp .ne o, 3)) (ho : 0 ≤ (pc : Int) + o) (hp : ((pc : Int) + o).toNat = pc') (h1 : x.isRef = true) (h2 : z.isRef = true) (hq : ¬ x = z) (k : own_G B n0 Q kc ks cells slots h pc' Ls st) : own_G B n0 Q kc ks cells slots h pc Ls (z :: x :: st) := by
  obtain ⟨p, l, e, R, s, m, args, below, meth, c⟩ := B
  obtain ⟨rfl, rfl, hx, hZ, hown, hby, hml, hrt, hlk, hnm, hw⟩ := H
  intro T locs c1 s1 X F hc hs eT
  exact own_go (fun t q => XT.acmpYes X.here hx rfl rfl (hb hby hd) rfl h1 h2 (XT.aa_ne_t hq) ho hp q) (k T locs c1 s1 X F hc hs eT)
theorem own_acmpne_f (H : own_Ok B Z a0 l R y code N ret) {x z : Value} {o : Int} (hd : decode code pc = .ok (.if_acmp .ne o, 3)) (h1 : x.isRef = true) (h2 : z.isRef = true) (hq : x = z) (k : own_G B n0 Q kc ks cells slots h (pc + 3) Ls st) : own_G B n0 Q kc ks cells slots h pc Ls (z :: x :: st) := by
  obtain ⟨p, l, e, R, s, m, args, below, meth, c⟩ := B
  obtain ⟨rfl, rfl, hx, hZ, hown, hby, hml, hrt, hlk, hnm, hw⟩ := H
  intro T locs c1 s1 X F hc hs eT
  exact own_go (fun t q => XT.acmpNo X.here hx rfl (hb hby hd) rfl h1 h2 (XT.aa_ne_f hq) q) (k T locs c1 s1 X F hc hs eT)
theorem own_ifnull_t (H : own_Ok B Z a0 l R y code N ret) {x : Value} {o : Int} (hd : decode code pc = .ok (.ifnull o, 3)) (ho : 0 ≤ (pc : Int) + o) (hp : ((pc : Int) + o).toNat = pc') (h1 : x.isRef = true) (hq : x = .null) (k : own_G B n0 Q kc ks cells slots h pc' Ls st) : own_G B n0 Q kc ks cells slots h pc Ls (x :: st) := by
  obtain ⟨p, l, e, R, s, m, args, below, meth, c⟩ := B
  obtain ⟨rfl, rfl, hx, hZ, hown, hby, hml, hrt, hlk, hnm, hw⟩ := H
  intro T locs c1 s1 X F hc hs eT
  exact own_go (fun t q => XT.nullYes X.here hx rfl rfl (hb hby hd) rfl hq ho hp q) (k T locs c1 s1 X F hc hs eT)
theorem own_ifnull_f (H : own_Ok B Z a0 l R y code N ret) {x : Value} {o : Int} (hd : decode code pc = .ok (.ifnull o, 3)) (h1 : x.isRef = true) (hq : ¬ x = .null) (k : own_G B n0 Q kc ks cells slots h (pc + 3) Ls st) : own_G B n0 Q kc ks cells slots h pc Ls (x :: st) := by
  obtain ⟨p, l, e, R, s, m, args, below, meth, c⟩ := B
  obtain ⟨rfl, rfl, hx, hZ, hown, hby, hml, hrt, hlk, hnm, hw⟩ := H
  intro T locs c1 s1 X F hc hs eT
  exact own_go (fun t q => XT.nullNo X.here hx rfl (hb hby hd) rfl h1 hq q) (k T locs c1 s1 X F hc hs eT)
theorem own_ifnonnull_t (H : own_Ok B Z a0 l R y code N ret) {x : Value} {o : Int} (hd : decode code pc = .ok (.ifnonnull o, 3)) (ho : 0 ≤ (pc : Int) + o) (hp : ((pc : Int) + o).toNat = pc') (h1 : x.isRef = true) (hq : ¬ x = .null) (k : own_G B n0 Q kc ks cells slots h pc' Ls st) : own_G B n0 Q kc ks cells slots h pc Ls (x :: st) := by
  obtain ⟨p, l, e, R, s, m, args, below, meth, c⟩ := B
  obtain ⟨rfl, rfl, hx, hZ, hown, hby, hml, hrt, hlk, hnm, hw⟩ := H
  intro T locs c1 s1 X F hc hs eT
  exact own_go (fun t q => XT.nonnullYes X.here hx rfl rfl (hb hby hd) rfl h1 hq ho hp q) (k T locs c1 s1 X F hc hs eT)
theorem own_ifnonnull_f (H : own_Ok B Z a0 l R y code N ret) {x : Value} {o : Int} (hd : decode code pc = .ok (.ifnonnull o, 3)) (h1 : x.isRef = true) (hq : x = .null) (k : own_G B n0 Q kc ks cells slots h (pc + 3) Ls st) : own_G B n0 Q kc ks cells slots h pc Ls (x :: st) := by
  obtain ⟨p, l, e, R, s, m, args, below, meth, c⟩ := B
  obtain ⟨rfl, rfl, hx, hZ, hown, hby, hml, hrt, hlk, hnm, hw⟩ := H
  intro T locs c1 s1 X F hc hs eT
  exact own_go (fun t q => XT.nonnullNo X.here hx rfl (hb hby hd) rfl hq q) (k T locs c1 s1 X F hc hs eT)
theorem own_ldcI (H : own_Ok B Z a0 l R y code N ret) {i w : Nat} {v : Int32} (q : tables_1[w]? = some (Jvm.Cond.constant y.cls i v)) (hd : decode code pc = .ok (.ldc i, 2)) (k : own_G B n0 Q kc ks cells slots h (pc + 2) Ls (.int v :: st)) : own_G B n0 Q kc ks cells slots h pc Ls st := by
  obtain ⟨p, l, e, R, s, m, args, below, meth, c⟩ := B
  obtain ⟨rfl, rfl, hx, hZ, hown, hby, hml, hrt, hlk, hnm, hw⟩ := H
  intro T locs c1 s1 X F hc hs eT
  exact own_go (fun t r => X.ldcInt hx hown (mvT hZ (hw _ _ q)) (g := mkF m pc Ls st) rfl (hb hby hd) _ r) (k T locs c1 s1 X F hc hs eT)
theorem own_ldcwI (H : own_Ok B Z a0 l R y code N ret) {i w : Nat} {v : Int32} (q : tables_1[w]? = some (Jvm.Cond.constant y.cls i v)) (hd : decode code pc = .ok (.ldc_w i, 3)) (k : own_G B n0 Q kc ks cells slots h (pc + 3) Ls (.int v :: st)) : own_G B n0 Q kc ks cells slots h pc Ls st := by
  obtain ⟨p, l, e, R, s, m, args, below, meth, c⟩ := B
  obtain ⟨rfl, rfl, hx, hZ, hown, hby, hml, hrt, hlk, hnm, hw⟩ := H
  intro T locs c1 s1 X F hc hs eT
  exact own_go (fun t r => X.ldcwInt hx hown (mvT hZ (hw _ _ q)) (g := mkF m pc Ls st) rfl (hb hby hd) _ r) (k T locs c1 s1 X F hc hs eT)
theorem own_ldc2J (H : own_Ok B Z a0 l R y code N ret) {i w : Nat} {v : Int64} (q : tables_1[w]? = some (Jvm.Cond.constantLong y.cls i v)) (hd : decode code pc = .ok (.ldc2_w i, 3)) (k : own_G B n0 Q kc ks cells slots h (pc + 3) Ls (.long v :: st)) : own_G B n0 Q kc ks cells slots h pc Ls st := by
  obtain ⟨p, l, e, R, s, m, args, below, meth, c⟩ := B
  obtain ⟨rfl, rfl, hx, hZ, hown, hby, hml, hrt, hlk, hnm, hw⟩ := H
  intro T locs c1 s1 X F hc hs eT
  exact own_go (fun t r => X.ldc2Long hx hown (mvT hZ (hw _ _ q)) (g := mkF m pc Ls st) rfl (hb hby hd) _ r) (k T locs c1 s1 X F hc hs eT)
theorem own_ireturn {t : FieldType} (H : own_Ok B Z a0 l R y code N (some t)) {z : Int32} (ht : t = .int ∨ t = .boolean ∨ t = .byte ∨ t = .char ∨ t = .short) (hn : narrow t (.int z) = .int z) (hd : decode code pc = .ok (.ireturn, 1)) (hkc : cells ≤ kc) (hks : slots ≤ ks) (hQ : Q (some (.int z)) h) : own_G B n0 Q kc ks cells slots h pc Ls (.int z :: st) := by
  obtain ⟨p, l, e, R, s, m, args, below, meth, c⟩ := B
  obtain ⟨rfl, rfl, hx, hZ, hown, hby, hml, hrt, hlk, hnm, hw⟩ := H
  intro T locs c1 s1 X F hc hs eT
  obtain ⟨fs, hr, hrun, hended, hW, hsame⟩ := X.leave (v := some (.int z)) (fun h => by rw [hrt] at h; cases h) hlk
  exact ⟨_, _, retOut X hx hrt hn (Or.inl ⟨rfl, ht, _, rfl⟩) (hb hby hd) hr, hrun, hended, _, _, rfl, ⟨by show Q _ T.heap; rw [eT]; exact hQ, F⟩, ⟨_, rfl⟩, hW, hsame.mono (Nat.le_trans hc hkc) (Nat.le_trans hs hks)⟩
theorem own_lreturn (H : own_Ok B Z a0 l R y code N (some .long)) {z : Int64} (hd : decode code pc = .ok (.lreturn, 1)) (hkc : cells ≤ kc) (hks : slots ≤ ks) (hQ : Q (some (.long z)) h) : own_G B n0 Q kc ks cells slots h pc Ls (.long z :: st) := by
  obtain ⟨p, l, e, R, s, m, args, below, meth, c⟩ := B
  obtain ⟨rfl, rfl, hx, hZ, hown, hby, hml, hrt, hlk, hnm, hw⟩ := H
  intro T locs c1 s1 X F hc hs eT
  obtain ⟨fs, hr, hrun, hended, hW, hsame⟩ := X.leave (v := some (.long z)) (fun h => by rw [hrt] at h; cases h) hlk
  exact ⟨_, _, retOut X hx hrt rfl (Or.inr (Or.inl ⟨rfl, rfl, _, rfl⟩)) (hb hby hd) hr, hrun, hended, _, _, rfl, ⟨by show Q _ T.heap; rw [eT]; exact hQ, F⟩, ⟨_, rfl⟩, hW, hsame.mono (Nat.le_trans hc hkc) (Nat.le_trans hs hks)⟩
theorem own_areturn {t : FieldType} (H : own_Ok B Z a0 l R y code N (some t)) (ht : t.isReference = true) {z : Value} (hz : z.isRef = true) (hn : narrow t z = z) (hd : decode code pc = .ok (.areturn, 1)) (hkc : cells ≤ kc) (hks : slots ≤ ks) (hQ : Q (some z) h) : own_G B n0 Q kc ks cells slots h pc Ls (z :: st) := by
  obtain ⟨p, l, e, R, s, m, args, below, meth, c⟩ := B
  obtain ⟨rfl, rfl, hx, hZ, hown, hby, hml, hrt, hlk, hnm, hw⟩ := H
  intro T locs c1 s1 X F hc hs eT
  obtain ⟨fs, hr, hrun, hended, hW, hsame⟩ := X.leave (v := some z) (fun h => by rw [hrt] at h; cases h) hlk
  exact ⟨_, _, retOut X hx hrt hn (Or.inr (Or.inr (Or.inr (Or.inr ⟨rfl, ht, hz⟩)))) (hb hby hd) hr, hrun, hended, _, _, rfl, ⟨by show Q _ T.heap; rw [eT]; exact hQ, F⟩, ⟨_, rfl⟩, hW, hsame.mono (Nat.le_trans hc hkc) (Nat.le_trans hs hks)⟩
theorem own_return (H : own_Ok B Z a0 l R y code N none) (hd : decode code pc = .ok (.return_, 1)) (hkc : cells ≤ kc) (hks : slots ≤ ks) (hQ : Q none h) : own_G B n0 Q kc ks cells slots h pc Ls [] := by
  obtain ⟨p, l, e, R, s, m, args, below, meth, c⟩ := B
  obtain ⟨rfl, rfl, hx, hZ, hown, hby, hml, hrt, hlk, hnm, hw⟩ := H
  intro T locs c1 s1 X F hc hs eT
  obtain ⟨fs, hr, hrun, hended, hW, hsame⟩ := X.leave (v := none) (fun h => rfl) hlk
  exact ⟨_, _, X.returnOut hx hrt (hb hby hd) hr, hrun, hended, _, _, rfl, ⟨by show Q _ T.heap; rw [eT]; exact hQ, F⟩, ⟨_, rfl⟩, hW, hsame.mono (Nat.le_trans hc hkc) (Nat.le_trans hs hks)⟩
theorem own_getfield (H : own_Ok B Z a0 l R y code N ret) {O n d : String} {i w : Nat} (q : tables_1[w]? = some (Jvm.Cond.fieldLink y.cls i O n d)) {a : Addr} {v : Value} (Fd : Fld Z h a O n d v) (hd : decode code pc = .ok (.getfield i, 3)) (k : own_G B n0 Q kc ks cells slots h (pc + 3) Ls (v :: st)) : own_G B n0 Q kc ks cells slots h pc Ls (.ref a :: st) := by
  obtain ⟨p, l, e, R, s, m, args, below, meth, c⟩ := B
  obtain ⟨rfl, rfl, hx, hZ, hown, hby, hml, hrt, hlk, hnm, hw⟩ := H
  intro T locs c1 s1 X F hc hs eT
  obtain ⟨T', X', e', s'⟩ := getF X hx hZ hown (host := "") (Or.inl (hw _ _ q)) Via.refl eT Fd (g := mkF m pc Ls (.ref a :: st)) rfl rfl (hb hby hd)
  exact own_go s' (k T' locs c1 s1 X' F hc hs e')
theorem own_getstatic (H : own_Ok B Z a0 l R y code N ret) {O n d : String} {i w : Nat} (q : tables_1[w]? = some (Jvm.Cond.fieldLink y.cls i O n d)) {v : Value} (Fd : Sta Z h O n d v) (hd : decode code pc = .ok (.getstatic i, 3)) (k : own_G B n0 Q kc ks cells slots h (pc + 3) Ls (v :: st)) : own_G B n0 Q kc ks cells slots h pc Ls st := by
  obtain ⟨p, l, e, R, s, m, args, below, meth, c⟩ := B
  obtain ⟨rfl, rfl, hx, hZ, hown, hby, hml, hrt, hlk, hnm, hw⟩ := H
  intro T locs c1 s1 X F hc hs eT
  obtain ⟨T', X', e', s'⟩ := getS X hx hZ hown (host := "") (hw _ _ q) Via.refl eT Fd (g := mkF m pc Ls st) rfl (hb hby hd)
  exact own_go s' (k T' locs c1 s1 X' F hc hs e')
theorem own_putfield (H : own_Ok B Z a0 l R y code N ret) {O n d C : String} {i w wi kk : Nat} {ty : FieldType} (q : tables_1[w]? = some (Jvm.Cond.fieldLink y.cls i O n d)) {a : Addr} {v old : Value} (Fd : Fld Z h a O n d old) (E : Exa Z h a C) (ha : n0 ≤ a)
    (Lw : (Jvm.Cond.lays C O n d).before a0 Z = true ∨ ((Jvm.Cond.laysFinal C O n d).before a0 Z = true ∧ y.cls = O ∧ y.name = "<init>")) (qi : tables_1[wi]? = some (Jvm.Cond.instantiable C kk)) (hty : parseFieldDescriptor d = some ty) (hn : narrow ty v = v) (hf : fits ty v = true)
    (hd : decode code pc = .ok (.putfield i, 3)) (k : ∀ h', Wr h h' a (Jvm.RoadKit.slotOf Z O n d) v → own_G B n0 Q kc ks cells slots h' (pc + 3) Ls st) : own_G B n0 Q kc ks cells slots h pc Ls (v :: .ref a :: st) := by
  obtain ⟨p, l, e, R, s, m, args, below, meth, c⟩ := B
  obtain ⟨rfl, rfl, hx, hZ, hown, hby, hml, hrt, hlk, hnm, hw⟩ := H
  intro T locs c1 s1 X F hc hs eT
  obtain ⟨T', h', X', e', W', s'⟩ := putF X hx hZ hown (host := "") (Or.inl (hw _ _ q)) Via.refl eT Fd E (Lw.imp id fun z => ⟨z.1, z.2.1, hnm.trans z.2.2⟩) (hw _ _ qi) hty hn hf (g := mkF m pc Ls (v :: .ref a :: st)) rfl rfl (hb hby hd)
  exact own_go s' (k h' W' T' _ c1 s1 X' (Fr.snoc X' F ha) hc hs e')
theorem own_new (H : own_Ok B Z a0 l R y code N ret) {C : String} {i n w wi wz : Nat} (q : tables_1[w]? = some (Jvm.Cond.classLink y.cls i C)) (qi : tables_1[wi]? = some (Jvm.Cond.instantiable C n)) (qz : tables_1[wz]? = some (Jvm.Cond.initialized C)) (hd : decode code pc = .ok (.new i, 3)) (hkc : cells + 1 ≤ R.cells) (hks : slots + n ≤ R.slots)
    (k : ∀ h' a, a = h.size → Ext h h' → Exa Z h' a C → (∀ {O nm d : String} {ty : FieldType}, Laid Z a0 C O nm d → parseFieldDescriptor d = some ty → Fld Z h' a O nm d (defaultValue ty)) → own_G B n0 Q kc ks (cells + 1) (slots + n) h' (pc + 3) Ls (.ref a :: st)) : own_G B n0 Q kc ks cells slots h pc Ls st := by
  obtain ⟨p, l, e, R, s, m, args, below, meth, c⟩ := B
  obtain ⟨rfl, rfl, hx, hZ, hown, hby, hml, hrt, hlk, hnm, hw⟩ := H
  intro T locs c1 s1 X F hc hs eT
  obtain ⟨T', h', X', e', E', A', D', -, s'⟩ := newO X hx hZ hown (hw _ _ q) (hw _ _ qi) (hw _ _ qz) eT (g := mkF m pc Ls st) rfl (hb hby hd) (Nat.le_trans (Nat.add_le_add_right hc 1) hkc) (Nat.le_trans (Nat.add_le_add_right hs n) hks)
  exact own_go s' (k h' h.size rfl E' A' D' T' locs _ _ X' F (Nat.add_le_add_right hc 1) (Nat.add_le_add_right hs n) e')
theorem own_newarray (H : own_Ok B Z a0 l R y code N ret) {aty : ArrayType} {w : Nat} (q : tables_1[w]? = some (Jvm.Cond.arrayClass (newarray.typeOf aty))) {n : Int32} (hn : ¬ n < 0) (cap : Nat) (hcap : n.toNatClampNeg ≤ cap) (hcb : cap * 8 ≤ 536870912) (hd : decode code pc = .ok (.newarray aty, 2)) (hkc : cells + 1 ≤ R.cells) (hks : slots + cap ≤ R.slots)
    (k : ∀ h' a kA, a = h.size → Ext h h' → Arv Z h' a kA (newarray.typeOf aty) n [] (defaultValue (newarray.typeOf aty)) → own_G B n0 Q kc ks (cells + 1) (slots + cap) h' (pc + 2) Ls (.ref a :: st)) : own_G B n0 Q kc ks cells slots h pc Ls (.int n :: st) := by
  obtain ⟨p, l, e, R, s, m, args, below, meth, c⟩ := B
  obtain ⟨rfl, rfl, hx, hZ, hown, hby, hml, hrt, hlk, hnm, hw⟩ := H
  intro T locs c1 s1 X F hc hs eT
  obtain ⟨T', h', kA, X', e', E', A', s'⟩ := newP X hx hZ (hw _ _ q) eT (g := mkF m pc Ls (.int n :: st)) rfl (hb hby hd) rfl hn hcap hcb (Nat.le_trans (Nat.add_le_add_right hc 1) hkc) (Nat.le_trans (Nat.add_le_add_right hs cap) hks)
  exact own_go s' (k h' h.size kA rfl E' (Arv.new A' hn) T' locs _ _ X' F (Nat.add_le_add_right hc 1) (Nat.add_le_add_right hs cap) e')
theorem own_anewarray (H : own_Ok B Z a0 l R y code N ret) {C : String} {i w w2 : Nat} (q : tables_1[w]? = some (Jvm.Cond.classLink y.cls i C)) (q2 : tables_1[w2]? = some (Jvm.Cond.arrayOver (.object C))) {n : Int32} (hn : ¬ n < 0) (cap : Nat) (hcap : n.toNatClampNeg ≤ cap) (hcb : cap * 8 ≤ 536870912) (hd : decode code pc = .ok (.anewarray i, 3)) (hkc : cells + 1 ≤ R.cells) (hks : slots + cap ≤ R.slots)
    (k : ∀ h' a kA, a = h.size → Ext h h' → Arv Z h' a kA (.object C) n [] .null → Ovr Z kA C → own_G B n0 Q kc ks (cells + 1) (slots + cap) h' (pc + 3) Ls (.ref a :: st)) : own_G B n0 Q kc ks cells slots h pc Ls (.int n :: st) := by
  obtain ⟨p, l, e, R, s, m, args, below, meth, c⟩ := B
  obtain ⟨rfl, rfl, hx, hZ, hown, hby, hml, hrt, hlk, hnm, hw⟩ := H
  intro T locs c1 s1 X F hc hs eT
  obtain ⟨T', h', kA, X', e', E', A', O', s'⟩ := newR X hx hZ hown (hw _ _ q) (hw _ _ q2) eT (g := mkF m pc Ls (.int n :: st)) rfl (hb hby hd) rfl hn hcap hcb (Nat.le_trans (Nat.add_le_add_right hc 1) hkc) (Nat.le_trans (Nat.add_le_add_right hs cap) hks)
  exact own_go s' (k h' h.size kA rfl E' (Arv.new A' hn) O' T' locs _ _ X' F (Nat.add_le_add_right hc 1) (Nat.add_le_add_right hs cap) e')
theorem own_iaload (H : own_Ok B Z a0 l R y code N ret) {a : Addr} {cl : Cell} {j : Int32} {v : Value} (A : Arr Z h a cl .int) (hin : ¬ (j < 0 ∨ cl.slots.size ≤ j.toNatClampNeg)) (hv : cl.slots[j.toNatClampNeg]? = some v) (hd : decode code pc = .ok (.iaload, 1)) (k : own_G B n0 Q kc ks cells slots h (pc + 1) Ls (v :: st)) : own_G B n0 Q kc ks cells slots h pc Ls (.int j :: .ref a :: st) := by
  obtain ⟨p, l, e, R, s, m, args, below, meth, c⟩ := B
  obtain ⟨rfl, rfl, hx, hZ, hown, hby, hml, hrt, hlk, hnm, hw⟩ := H
  intro T locs c1 s1 X F hc hs eT
  exact own_go (fun t r => X.iaload hx (j := j) (v := v) (by rw [eT]; exact A.1) (State.isArrayOf_alike hZ.alike A.2.1) A.2.2 hin hv (g := mkF m pc Ls (.int j :: .ref a :: st)) rfl rfl (hb hby hd) _ r) (k T locs c1 s1 X F hc hs eT)
theorem own_laload (H : own_Ok B Z a0 l R y code N ret) {a : Addr} {cl : Cell} {j : Int32} {v : Value} (A : Arr Z h a cl .long) (hin : ¬ (j < 0 ∨ cl.slots.size ≤ j.toNatClampNeg)) (hv : cl.slots[j.toNatClampNeg]? = some v) (hd : decode code pc = .ok (.laload, 1)) (k : own_G B n0 Q kc ks cells slots h (pc + 1) Ls (v :: st)) : own_G B n0 Q kc ks cells slots h pc Ls (.int j :: .ref a :: st) := by
  obtain ⟨p, l, e, R, s, m, args, below, meth, c⟩ := B
  obtain ⟨rfl, rfl, hx, hZ, hown, hby, hml, hrt, hlk, hnm, hw⟩ := H
  intro T locs c1 s1 X F hc hs eT
  exact own_go (fun t r => X.laload hx (j := j) (v := v) (by rw [eT]; exact A.1) (State.isArrayOf_alike hZ.alike A.2.1) A.2.2 hin hv (g := mkF m pc Ls (.int j :: .ref a :: st)) rfl rfl (hb hby hd) _ r) (k T locs c1 s1 X F hc hs eT)
theorem own_caload (H : own_Ok B Z a0 l R y code N ret) {a : Addr} {cl : Cell} {j : Int32} {v : Value} (A : Arr Z h a cl .char) (hin : ¬ (j < 0 ∨ cl.slots.size ≤ j.toNatClampNeg)) (hv : cl.slots[j.toNatClampNeg]? = some v) (hd : decode code pc = .ok (.caload, 1)) (k : own_G B n0 Q kc ks cells slots h (pc + 1) Ls (v :: st)) : own_G B n0 Q kc ks cells slots h pc Ls (.int j :: .ref a :: st) := by
  obtain ⟨p, l, e, R, s, m, args, below, meth, c⟩ := B
  obtain ⟨rfl, rfl, hx, hZ, hown, hby, hml, hrt, hlk, hnm, hw⟩ := H
  intro T locs c1 s1 X F hc hs eT
  exact own_go (fun t r => X.caload hx (j := j) (v := v) (by rw [eT]; exact A.1) (State.isArrayOf_alike hZ.alike A.2.1) A.2.2 hin hv (g := mkF m pc Ls (.int j :: .ref a :: st)) rfl rfl (hb hby hd) _ r) (k T locs c1 s1 X F hc hs eT)
theorem own_baload (H : own_Ok B Z a0 l R y code N ret) {a : Addr} {cl : Cell} {j : Int32} {v : Value} (A : Arr Z h a cl .byte) (hin : ¬ (j < 0 ∨ cl.slots.size ≤ j.toNatClampNeg)) (hv : cl.slots[j.toNatClampNeg]? = some v) (hd : decode code pc = .ok (.baload, 1)) (k : own_G B n0 Q kc ks cells slots h (pc + 1) Ls (v :: st)) : own_G B n0 Q kc ks cells slots h pc Ls (.int j :: .ref a :: st) := by
  obtain ⟨p, l, e, R, s, m, args, below, meth, c⟩ := B
  obtain ⟨rfl, rfl, hx, hZ, hown, hby, hml, hrt, hlk, hnm, hw⟩ := H
  intro T locs c1 s1 X F hc hs eT
  exact own_go (fun t r => X.baloadBytes hx (j := j) (v := v) (by rw [eT]; exact A.1) (State.isArrayOf_alike hZ.alike A.2.1) A.2.2 hin hv (g := mkF m pc Ls (.int j :: .ref a :: st)) rfl rfl (hb hby hd) _ r) (k T locs c1 s1 X F hc hs eT)
theorem own_aaload (H : own_Ok B Z a0 l R y code N ret) {a : Addr} {cl : Cell} {ty : FieldType} {j : Int32} {v : Value} (A : Arr Z h a cl ty) (hty : ty.isReference = true) (hin : ¬ (j < 0 ∨ cl.slots.size ≤ j.toNatClampNeg)) (hv : cl.slots[j.toNatClampNeg]? = some v) (hd : decode code pc = .ok (.aaload, 1)) (k : own_G B n0 Q kc ks cells slots h (pc + 1) Ls (v :: st)) : own_G B n0 Q kc ks cells slots h pc Ls (.int j :: .ref a :: st) := by
  obtain ⟨p, l, e, R, s, m, args, below, meth, c⟩ := B
  obtain ⟨rfl, rfl, hx, hZ, hown, hby, hml, hrt, hlk, hnm, hw⟩ := H
  intro T locs c1 s1 X F hc hs eT
  exact own_go (fun t r => X.aaload hx (j := j) (v := v) (by rw [eT]; exact A.1) (State.isArrayOf_alike hZ.alike A.2.1) hty A.2.2 hin hv (g := mkF m pc Ls (.int j :: .ref a :: st)) rfl rfl (hb hby hd) _ r) (k T locs c1 s1 X F hc hs eT)
theorem own_arraylength (H : own_Ok B Z a0 l R y code N ret) {a : Addr} {cl : Cell} {ty : FieldType} {z : Int32} (A : Arr Z h a cl ty) (S : cl.slots.size = z.toNatClampNeg) (hz : ¬ z < 0) (hd : decode code pc = .ok (.arraylength, 1)) (k : own_G B n0 Q kc ks cells slots h (pc + 1) Ls (.int z :: st)) : own_G B n0 Q kc ks cells slots h pc Ls (.ref a :: st) := by
  obtain ⟨p, l, e, R, s, m, args, below, meth, c⟩ := B
  obtain ⟨rfl, rfl, hx, hZ, hown, hby, hml, hrt, hlk, hnm, hw⟩ := H
  intro T locs c1 s1 X F hc hs eT
  refine own_go (fun t r => X.arraylength hx (by rw [eT]; exact A.1) (State.isArrayOf_alike hZ.alike A.2.1) (g := mkF m pc Ls (.ref a :: st)) rfl rfl (hb hby hd) _ r) ?_
  rw [len_of S hz]
  exact k T locs c1 s1 X F hc hs eT
theorem own_iastore (H : own_Ok B Z a0 l R y code N ret) {a : Addr} {cl : Cell} {j : Int32} {x : Int32} (A : Arr Z h a cl .int) (hin : ¬ (j < 0 ∨ cl.slots.size ≤ j.toNatClampNeg)) (ha : n0 ≤ a) (hd : decode code pc = .ok (.iastore, 1)) (k : ∀ h', Wr h h' a j.toNatClampNeg (.int x) → own_G B n0 Q kc ks cells slots h' (pc + 1) Ls st) : own_G B n0 Q kc ks cells slots h pc Ls (.int x :: .int j :: .ref a :: st) := by
  obtain ⟨p, l, e, R, s, m, args, below, meth, c⟩ := B
  obtain ⟨rfl, rfl, hx, hZ, hown, hby, hml, hrt, hlk, hnm, hw⟩ := H
  intro T locs c1 s1 X F hc hs eT
  obtain ⟨T', h', X', e', W', s'⟩ := stI X hx hZ eT A hin (g := mkF m pc Ls (.int x :: .int j :: .ref a :: st)) rfl rfl (hb hby hd)
  exact own_go s' (k h' W' T' _ c1 s1 X' (Fr.snoc X' F ha) hc hs e')
theorem own_lastore (H : own_Ok B Z a0 l R y code N ret) {a : Addr} {cl : Cell} {j : Int32} {x : Int64} (A : Arr Z h a cl .long) (hin : ¬ (j < 0 ∨ cl.slots.size ≤ j.toNatClampNeg)) (ha : n0 ≤ a) (hd : decode code pc = .ok (.lastore, 1)) (k : ∀ h', Wr h h' a j.toNatClampNeg (.long x) → own_G B n0 Q kc ks cells slots h' (pc + 1) Ls st) : own_G B n0 Q kc ks cells slots h pc Ls (.long x :: .int j :: .ref a :: st) := by
  obtain ⟨p, l, e, R, s, m, args, below, meth, c⟩ := B
  obtain ⟨rfl, rfl, hx, hZ, hown, hby, hml, hrt, hlk, hnm, hw⟩ := H
  intro T locs c1 s1 X F hc hs eT
  obtain ⟨T', h', X', e', W', s'⟩ := stJ X hx hZ eT A hin (g := mkF m pc Ls (.long x :: .int j :: .ref a :: st)) rfl rfl (hb hby hd)
  exact own_go s' (k h' W' T' _ c1 s1 X' (Fr.snoc X' F ha) hc hs e')
theorem own_bastore (H : own_Ok B Z a0 l R y code N ret) {a : Addr} {cl : Cell} {j : Int32} {x : Int32} (A : Arr Z h a cl .byte) (hin : ¬ (j < 0 ∨ cl.slots.size ≤ j.toNatClampNeg)) (ha : n0 ≤ a) (hd : decode code pc = .ok (.bastore, 1)) (k : ∀ h', Wr h h' a j.toNatClampNeg (.int (nar .byte x)) → own_G B n0 Q kc ks cells slots h' (pc + 1) Ls st) : own_G B n0 Q kc ks cells slots h pc Ls (.int x :: .int j :: .ref a :: st) := by
  obtain ⟨p, l, e, R, s, m, args, below, meth, c⟩ := B
  obtain ⟨rfl, rfl, hx, hZ, hown, hby, hml, hrt, hlk, hnm, hw⟩ := H
  intro T locs c1 s1 X F hc hs eT
  obtain ⟨T', h', X', e', W', s'⟩ := stB X hx hZ eT A hin (g := mkF m pc Ls (.int x :: .int j :: .ref a :: st)) rfl rfl (hb hby hd)
  exact own_go s' (k h' W' T' _ c1 s1 X' (Fr.snoc X' F ha) hc hs e')
theorem own_castore (H : own_Ok B Z a0 l R y code N ret) {a : Addr} {cl : Cell} {j : Int32} {x : Int32} (A : Arr Z h a cl .char) (hin : ¬ (j < 0 ∨ cl.slots.size ≤ j.toNatClampNeg)) (ha : n0 ≤ a) (hd : decode code pc = .ok (.castore, 1)) (k : ∀ h', Wr h h' a j.toNatClampNeg (.int (nar .char x)) → own_G B n0 Q kc ks cells slots h' (pc + 1) Ls st) : own_G B n0 Q kc ks cells slots h pc Ls (.int x :: .int j :: .ref a :: st) := by
  obtain ⟨p, l, e, R, s, m, args, below, meth, c⟩ := B
  obtain ⟨rfl, rfl, hx, hZ, hown, hby, hml, hrt, hlk, hnm, hw⟩ := H
  intro T locs c1 s1 X F hc hs eT
  obtain ⟨T', h', X', e', W', s'⟩ := stC X hx hZ eT A hin (g := mkF m pc Ls (.int x :: .int j :: .ref a :: st)) rfl rfl (hb hby hd)
  exact own_go s' (k h' W' T' _ c1 s1 X' (Fr.snoc X' F ha) hc hs e')
theorem own_ialoadV (H : own_Ok B Z a0 l R y code N ret) {a : Addr} {kA : ClassId} {n j : Int32} {vs : List Value} {dv v : Value} (V : Arv Z h a kA .int n vs dv) (h1 : ¬ j < 0) (h2 : j < n) (hv : vs.getD j.toNatClampNeg dv = v) (hd : decode code pc = .ok (.iaload, 1)) (k : own_G B n0 Q kc ks cells slots h (pc + 1) Ls (v :: st)) : own_G B n0 Q kc ks cells slots h pc Ls (.int j :: .ref a :: st) := by
  obtain ⟨cl, A, -, S, M, Hs, -⟩ := V
  exact own_iaload H A (inb_of S ⟨h1, h2⟩) (Hs.at (inb_of S ⟨h1, h2⟩) hv) hd k
theorem own_laloadV (H : own_Ok B Z a0 l R y code N ret) {a : Addr} {kA : ClassId} {n j : Int32} {vs : List Value} {dv v : Value} (V : Arv Z h a kA .long n vs dv) (h1 : ¬ j < 0) (h2 : j < n) (hv : vs.getD j.toNatClampNeg dv = v) (hd : decode code pc = .ok (.laload, 1)) (k : own_G B n0 Q kc ks cells slots h (pc + 1) Ls (v :: st)) : own_G B n0 Q kc ks cells slots h pc Ls (.int j :: .ref a :: st) := by
  obtain ⟨cl, A, -, S, M, Hs, -⟩ := V
  exact own_laload H A (inb_of S ⟨h1, h2⟩) (Hs.at (inb_of S ⟨h1, h2⟩) hv) hd k
theorem own_caloadV (H : own_Ok B Z a0 l R y code N ret) {a : Addr} {kA : ClassId} {n j : Int32} {vs : List Value} {dv v : Value} (V : Arv Z h a kA .char n vs dv) (h1 : ¬ j < 0) (h2 : j < n) (hv : vs.getD j.toNatClampNeg dv = v) (hd : decode code pc = .ok (.caload, 1)) (k : own_G B n0 Q kc ks cells slots h (pc + 1) Ls (v :: st)) : own_G B n0 Q kc ks cells slots h pc Ls (.int j :: .ref a :: st) := by
  obtain ⟨cl, A, -, S, M, Hs, -⟩ := V
  exact own_caload H A (inb_of S ⟨h1, h2⟩) (Hs.at (inb_of S ⟨h1, h2⟩) hv) hd k
theorem own_baloadV (H : own_Ok B Z a0 l R y code N ret) {a : Addr} {kA : ClassId} {n j : Int32} {vs : List Value} {dv v : Value} (V : Arv Z h a kA .byte n vs dv) (h1 : ¬ j < 0) (h2 : j < n) (hv : vs.getD j.toNatClampNeg dv = v) (hd : decode code pc = .ok (.baload, 1)) (k : own_G B n0 Q kc ks cells slots h (pc + 1) Ls (v :: st)) : own_G B n0 Q kc ks cells slots h pc Ls (.int j :: .ref a :: st) := by
  obtain ⟨cl, A, -, S, M, Hs, -⟩ := V
  exact own_baload H A (inb_of S ⟨h1, h2⟩) (Hs.at (inb_of S ⟨h1, h2⟩) hv) hd k
theorem own_aaloadV (H : own_Ok B Z a0 l R y code N ret) {a : Addr} {kA : ClassId} {ty : FieldType} {n j : Int32} {vs : List Value} {dv v : Value} (V : Arv Z h a kA ty n vs dv) (hty : ty.isReference = true) (h1 : ¬ j < 0) (h2 : j < n) (hv : vs.getD j.toNatClampNeg dv = v) (hd : decode code pc = .ok (.aaload, 1)) (k : own_G B n0 Q kc ks cells slots h (pc + 1) Ls (v :: st)) : own_G B n0 Q kc ks cells slots h pc Ls (.int j :: .ref a :: st) := by
  obtain ⟨cl, A, -, S, M, Hs, -⟩ := V
  exact own_aaload H A hty (inb_of S ⟨h1, h2⟩) (Hs.at (inb_of S ⟨h1, h2⟩) hv) hd k
theorem own_arraylengthV (H : own_Ok B Z a0 l R y code N ret) {a : Addr} {kA : ClassId} {ty : FieldType} {n : Int32} {vs : List Value} {dv : Value} (V : Arv Z h a kA ty n vs dv) (hd : decode code pc = .ok (.arraylength, 1)) (k : own_G B n0 Q kc ks cells slots h (pc + 1) Ls (.int n :: st)) : own_G B n0 Q kc ks cells slots h pc Ls (.ref a :: st) := by
  obtain ⟨cl, A, -, S, M, -, -⟩ := V
  exact own_arraylength H A S M hd k
theorem own_iastoreV (H : own_Ok B Z a0 l R y code N ret) {a : Addr} {kA : ClassId} {n j : Int32} {vs : List Value} {dv u : Value} {x : Int32} (V : Arv Z h a kA .int n vs dv) (h1 : ¬ j < 0) (h2 : j < n) (i : Nat) (hj : j.toNatClampNeg = i) (hi : i < vs.length) (ha : n0 ≤ a) (hu : (.int x) = u) (hd : decode code pc = .ok (.iastore, 1)) (k : ∀ h', Wr h h' a j.toNatClampNeg u → Arv Z h' a kA .int n (vs.set i u) dv → own_G B n0 Q kc ks cells slots h' (pc + 1) Ls st) : own_G B n0 Q kc ks cells slots h pc Ls (.int x :: .int j :: .ref a :: st) := by
  subst hu
  obtain ⟨cl, A, q1, S, M, Hs, Fs⟩ := V
  exact own_iastore H A (inb_of S ⟨h1, h2⟩) ha hd fun h' W => k h' W (Arv.set A q1 S M Hs Fs rfl W i hj hi)
theorem own_lastoreV (H : own_Ok B Z a0 l R y code N ret) {a : Addr} {kA : ClassId} {n j : Int32} {vs : List Value} {dv u : Value} {x : Int64} (V : Arv Z h a kA .long n vs dv) (h1 : ¬ j < 0) (h2 : j < n) (i : Nat) (hj : j.toNatClampNeg = i) (hi : i < vs.length) (ha : n0 ≤ a) (hu : (.long x) = u) (hd : decode code pc = .ok (.lastore, 1)) (k : ∀ h', Wr h h' a j.toNatClampNeg u → Arv Z h' a kA .long n (vs.set i u) dv → own_G B n0 Q kc ks cells slots h' (pc + 1) Ls st) : own_G B n0 Q kc ks cells slots h pc Ls (.long x :: .int j :: .ref a :: st) := by
  subst hu
  obtain ⟨cl, A, q1, S, M, Hs, Fs⟩ := V
  exact own_lastore H A (inb_of S ⟨h1, h2⟩) ha hd fun h' W => k h' W (Arv.set A q1 S M Hs Fs rfl W i hj hi)
theorem own_bastoreV (H : own_Ok B Z a0 l R y code N ret) {a : Addr} {kA : ClassId} {n j : Int32} {vs : List Value} {dv u : Value} {x : Int32} (V : Arv Z h a kA .byte n vs dv) (h1 : ¬ j < 0) (h2 : j < n) (i : Nat) (hj : j.toNatClampNeg = i) (hi : i < vs.length) (ha : n0 ≤ a) (hu : (.int (nar .byte x)) = u) (hd : decode code pc = .ok (.bastore, 1)) (k : ∀ h', Wr h h' a j.toNatClampNeg u → Arv Z h' a kA .byte n (vs.set i u) dv → own_G B n0 Q kc ks cells slots h' (pc + 1) Ls st) : own_G B n0 Q kc ks cells slots h pc Ls (.int x :: .int j :: .ref a :: st) := by
  subst hu
  obtain ⟨cl, A, q1, S, M, Hs, Fs⟩ := V
  exact own_bastore H A (inb_of S ⟨h1, h2⟩) ha hd fun h' W => k h' W (Arv.set A q1 S M Hs Fs (fits_nar_byte x) W i hj hi)
theorem own_castoreV (H : own_Ok B Z a0 l R y code N ret) {a : Addr} {kA : ClassId} {n j : Int32} {vs : List Value} {dv u : Value} {x : Int32} (V : Arv Z h a kA .char n vs dv) (h1 : ¬ j < 0) (h2 : j < n) (i : Nat) (hj : j.toNatClampNeg = i) (hi : i < vs.length) (ha : n0 ≤ a) (hu : (.int (nar .char x)) = u) (hd : decode code pc = .ok (.castore, 1)) (k : ∀ h', Wr h h' a j.toNatClampNeg u → Arv Z h' a kA .char n (vs.set i u) dv → own_G B n0 Q kc ks cells slots h' (pc + 1) Ls st) : own_G B n0 Q kc ks cells slots h pc Ls (.int x :: .int j :: .ref a :: st) := by
  subst hu
  obtain ⟨cl, A, q1, S, M, Hs, Fs⟩ := V
  exact own_castore H A (inb_of S ⟨h1, h2⟩) ha hd fun h' W => k h' W (Arv.set A q1 S M Hs Fs (fits_nar_char x) W i hj hi)
theorem own_initObject (H : own_Ok B Z a0 l R y code N ret) {i w1 w2 w3 : Nat} (q1 : tables_1[w1]? = some (Jvm.Cond.methodLink y.cls i Lib.objectInit)) (q2 : tables_1[w2]? = some (Jvm.Cond.instanceMethod Lib.objectInit)) (q3 : tables_1[w3]? = some (Jvm.Cond.code Lib.objectInit ⟨#[0xb1]⟩ 1 none)) {a : Addr} (W : Nat) (hsz : Ls.size = N) (hf : 1 ≤ R.frames) (hW : (st.map fun v => v.category).sum ≤ W) (hl : W + 12 ≤ R.locals)
    (hd : decode code pc = .ok (.invokespecial i, 3)) (k : own_G B n0 Q kc ks cells slots h (pc + 3) Ls st) : own_G B n0 Q kc ks cells slots h pc Ls (.ref a :: st) := by
  obtain ⟨p, l, e, R, s, m, args, below, meth, c⟩ := B
  obtain ⟨rfl, rfl, hx, hZ, hown, hby, hml, hrt, hlk, hnm, hw⟩ := H
  intro T locs c1 s1 X F hc hs eT
  obtain ⟨T', X', e', s'⟩ := initO X hx hZ hown (hw _ _ q1) (hw _ _ q2) (hw _ _ q3) eT (g := mkF m pc Ls (.ref a :: st)) rfl (hsz.trans hml.symm) rfl (hb hby hd) hf (W := W) (by show 2 * 0 + _ ≤ _; omega) hl
  exact own_go s' (k T' locs c1 s1 X' F hc hs e')
theorem own_invokestatic (H : own_Ok B Z a0 l R y code N ret) {i w1 w2 w3 w4 : Nat} {yc : MethodName} {bytes : ByteArray} {maxL : Nat} {rc : Option FieldType} {rm : Room} {Qc : Option Value → Heap → Prop} {argsL rest : List Value} (hM : own_C l Z yc bytes maxL rc rm argsL.toArray h n0 Qc)
    (q1 : tables_1[w1]? = some (Jvm.Cond.methodLink y.cls i yc)) (q2 : tables_1[w2]? = some (Jvm.Cond.static yc)) (qz : tables_1[w3]? = some (Jvm.Cond.initialized yc.cls)) (qc : tables_1[w4]? = some (Jvm.Cond.code yc bytes maxL rc)) {ps : List FieldType} {r : Option FieldType} (hpd : parseMethodDescriptor yc.desc = some ⟨ps, r⟩) (hln : argsL.length = ps.length) (W : Nat) (hne : yc.cls ≠ "java/lang/invoke/MethodHandle" ∧ yc.cls ≠ "java/lang/invoke/VarHandle")
    (hsz : Ls.size = N) (hfr : rm.frames + 1 ≤ R.frames) (hW : (rest.map fun v => v.category).sum ≤ W) (hlo : W + (maxL + 11) + rm.locals ≤ R.locals) (hkc : cells + rm.cells ≤ R.cells) (hks : slots + rm.slots ≤ R.slots) (hst : st = argsL.reverse ++ rest) (hd : decode code pc = .ok (.invokestatic i, 3))
    (k : ∀ v h', Qc v h' → own_G B n0 Q kc ks (cells + rm.cells) (slots + rm.slots) h' (pc + 3) Ls (v.toList ++ rest)) : own_G B n0 Q kc ks cells slots h pc Ls st := by
  obtain ⟨p, l, e, R, s, m, args, below, meth, c⟩ := B
  obtain ⟨rfl, rfl, hx, hZ, hown, hby, hml, hrt, hlk, hnm, hw⟩ := H
  intro T locs c1 s1 X F hc hs eT
  subst hst
  obtain ⟨v', _, ⟨T', L', k', n'⟩, -, X', ⟨Lc', hQ', l', y', z'⟩, s'⟩ := Jvm.LawKit.callS X hx (y := yc) hown (mvT hZ (hw _ _ q1)) (mvT hZ (hw _ _ q2)) (mvT hZ (hw _ _ qz)) (mvT hZ (hw _ _ qc)) hne (backOf (W := W) (bytes := bytes) (rm := rm) (Q := fun v hh L => Qc v hh ∧ Fr n0 L) (h := h) hM hZ (hw _ _ qc) (hw _ _ qz) hfr hlo) (g := mkF m pc Ls (argsL.reverse ++ rest)) rfl (hsz.trans hml.symm) (argsL := argsL) (rest := rest) (lenOf hpd hln) rfl (by show 2 * 0 + _ ≤ _; omega) (hb hby hd) (fun _ _ => ⟨rfl, eT, Nat.le_trans (Nat.add_le_add_right hc _) hkc, Nat.le_trans (Nat.add_le_add_right hs _) hks⟩)
  dsimp only [Pt.U, Pt.locs, Pt.cells, Pt.slots] at X' l' y' z' s' hQ'
  subst l' y' z'
  exact own_go s' (k v' _ hQ'.1 T' _ _ _ X' (F.app hQ'.2) (Nat.add_le_add_right hc _) (Nat.add_le_add_right hs _) rfl)
theorem own_invokespecial (H : own_Ok B Z a0 l R y code N ret) {i w1 w2 w3 w4 : Nat} {yc : MethodName} {bytes : ByteArray} {maxL : Nat} {rm : Room} {Qc : Option Value → Heap → Prop} {a : Addr} {argsL rest : List Value} (hM : own_C l Z yc bytes maxL none rm (.ref a :: argsL).toArray h n0 Qc) (hin : yc.name = "<init>")
    (q1 : tables_1[w1]? = some (Jvm.Cond.methodLink y.cls i yc)) (q2 : tables_1[w2]? = some (Jvm.Cond.instanceMethod yc)) (qz : tables_1[w3]? = some (Jvm.Cond.initialized yc.cls)) (qc : tables_1[w4]? = some (Jvm.Cond.code yc bytes maxL none)) {ps : List FieldType} {r : Option FieldType} (hpd : parseMethodDescriptor yc.desc = some ⟨ps, r⟩) (hln : argsL.length = ps.length) (W : Nat) (hne : yc.cls ≠ "java/lang/invoke/MethodHandle" ∧ yc.cls ≠ "java/lang/invoke/VarHandle")
    (hsz : Ls.size = N) (hfr : rm.frames + 1 ≤ R.frames) (hW : (rest.map fun v => v.category).sum ≤ W) (hlo : W + (maxL + 11) + rm.locals ≤ R.locals) (hkc : cells + rm.cells ≤ R.cells) (hks : slots + rm.slots ≤ R.slots) (hst : st = argsL.reverse ++ .ref a :: rest) (hd : decode code pc = .ok (.invokespecial i, 3))
    (k : ∀ v h', Qc v h' → own_G B n0 Q kc ks (cells + rm.cells) (slots + rm.slots) h' (pc + 3) Ls (v.toList ++ rest)) : own_G B n0 Q kc ks cells slots h pc Ls st := by
  obtain ⟨p, l, e, R, s, m, args, below, meth, c⟩ := B
  obtain ⟨rfl, rfl, hx, hZ, hown, hby, hml, hrt, hlk, hnm, hw⟩ := H
  intro T locs c1 s1 X F hc hs eT
  subst hst
  obtain ⟨v', _, ⟨T', L', k', n'⟩, -, X', ⟨Lc', hQ', l', y', z'⟩, s'⟩ := X.specialBack hx (y := yc) hin hown (mvT hZ (hw _ _ q1)) (mvT hZ (hw _ _ q2)) (mvT hZ (hw _ _ qc)) hne (backOf (W := W) (bytes := bytes) (rm := rm) (Q := fun v hh L => Qc v hh ∧ Fr n0 L) (h := h) hM hZ (hw _ _ qc) (hw _ _ qz) hfr hlo) (g := mkF m pc Ls (argsL.reverse ++ .ref a :: rest)) rfl (hsz.trans hml.symm) (Steps.refl _) (a := a) (argsL := argsL) (rest := rest) (lenOf hpd hln) rfl (by show 2 * 0 + _ ≤ _; omega) (hb hby hd) (fun _ _ => ⟨rfl, eT, Nat.le_trans (Nat.add_le_add_right hc _) hkc, Nat.le_trans (Nat.add_le_add_right hs _) hks⟩)
  dsimp only [Pt.U, Pt.locs, Pt.cells, Pt.slots] at X' l' y' z' s' hQ'
  subst l' y' z'
  exact own_go (fun t q => s'.trans q) (k v' _ hQ'.1 T' _ _ _ X' (F.app hQ'.2) (Nat.add_le_add_right hc _) (Nat.add_le_add_right hs _) rfl)
theorem own_invokevirtual (H : own_Ok B Z a0 l R y code N ret) {i w0 w1 w2 w3 w4 w5 : Nat} {C : String} {yc : MethodName} {bytes : ByteArray} {maxL : Nat} {rc : Option FieldType} {rm : Room} {Qc : Option Value → Heap → Prop} {a : Addr} {argsL rest : List Value} (hM : own_C l Z yc bytes maxL rc rm (.ref a :: argsL).toArray h n0 Qc) (E : Exa Z h a C)
    (q1 : tables_1[w1]? = some (Jvm.Cond.methodLink y.cls i yc)) (q0 : tables_1[w0]? = some (Jvm.Cond.declares yc)) (q5 : tables_1[w5]? = some (Jvm.Cond.selects C yc yc)) (q2 : tables_1[w2]? = some (Jvm.Cond.instanceMethod yc)) (qz : tables_1[w3]? = some (Jvm.Cond.initialized yc.cls)) (qc : tables_1[w4]? = some (Jvm.Cond.code yc bytes maxL rc)) {ps : List FieldType} {r : Option FieldType} (hpd : parseMethodDescriptor yc.desc = some ⟨ps, r⟩) (hln : argsL.length = ps.length) (W : Nat) (hne : yc.cls ≠ "java/lang/invoke/MethodHandle" ∧ yc.cls ≠ "java/lang/invoke/VarHandle")
    (hsz : Ls.size = N) (hfr : rm.frames + 1 ≤ R.frames) (hW : (rest.map fun v => v.category).sum ≤ W) (hlo : W + (maxL + 11) + rm.locals ≤ R.locals) (hkc : cells + rm.cells ≤ R.cells) (hks : slots + rm.slots ≤ R.slots) (hst : st = argsL.reverse ++ .ref a :: rest) (hd : decode code pc = .ok (.invokevirtual i, 3))
    (k : ∀ v h', Qc v h' → own_G B n0 Q kc ks (cells + rm.cells) (slots + rm.slots) h' (pc + 3) Ls (v.toList ++ rest)) : own_G B n0 Q kc ks cells slots h pc Ls st := by
  obtain ⟨p, l, e, R, s, m, args, below, meth, c⟩ := B
  obtain ⟨rfl, rfl, hx, hZ, hown, hby, hml, hrt, hlk, hnm, hw⟩ := H
  intro T locs c1 s1 X F hc hs eT
  subst hst
  obtain ⟨cq, kq, qa, -, qb⟩ := isOf hZ eT E
  obtain ⟨v', _, ⟨T', L', k', n'⟩, -, X', ⟨Lc', hQ', l', y', z'⟩, s'⟩ := X.virtualBack hx (y := yc) (z := yc) hown (mvT hZ (hw _ _ q1)) (mvT hZ (hw _ _ q0)) (notFace_of_selects (args := #[]) (mvT hZ (hw _ _ q5))) (mvT hZ (hw _ _ q5)) (mvT hZ (hw _ _ q2)) hne (backOf (W := W) (bytes := bytes) (rm := rm) (Q := fun v hh L => Qc v hh ∧ Fr n0 L) (h := h) hM hZ (hw _ _ qc) (hw _ _ qz) hfr hlo) qa qb (g := mkF m pc Ls (argsL.reverse ++ .ref a :: rest)) rfl (hsz.trans hml.symm) (Steps.refl _) (argsL := argsL) (rest := rest) (lenOf hpd hln) rfl (by show 2 * 0 + _ ≤ _; omega) (hb hby hd) (fun _ _ => ⟨rfl, eT, Nat.le_trans (Nat.add_le_add_right hc _) hkc, Nat.le_trans (Nat.add_le_add_right hs _) hks⟩)
  dsimp only [Pt.U, Pt.locs, Pt.cells, Pt.slots] at X' l' y' z' s' hQ'
  subst l' y' z'
  exact own_go (fun t q => s'.trans q) (k v' _ hQ'.1 T' _ _ _ X' (F.app hQ'.2) (Nat.add_le_add_right hc _) (Nat.add_le_add_right hs _) rfl)
theorem own_newarrayE (H : own_Ok B Z a0 l R y code N ret) {aty : ArrayType} {w : Nat} (q : tables_1[w]? = some (Jvm.Cond.arrayClass (newarray.typeOf aty))) {n : Int32} (ad : String) (had : "[" ++ (newarray.typeOf aty).toString = ad) (hn : ¬ n < 0) (cap : Nat) (hcap : n.toNatClampNeg ≤ cap) (hcb : cap * 8 ≤ 536870912) (hd : decode code pc = .ok (.newarray aty, 2)) (hkc : cells + 1 ≤ R.cells) (hks : slots + cap ≤ R.slots)
    (k : ∀ h' a kA, a = h.size → Ext h h' → Arv Z h' a kA (newarray.typeOf aty) n [] (defaultValue (newarray.typeOf aty)) → Exa Z h' a ad → own_G B n0 Q kc ks (cells + 1) (slots + cap) h' (pc + 2) Ls (.ref a :: st)) : own_G B n0 Q kc ks cells slots h pc Ls (.int n :: st) := by
  obtain ⟨p, l, e, R, s, m, args, below, meth, c⟩ := B
  obtain ⟨rfl, rfl, hx, hZ, hown, hby, hml, hrt, hlk, hnm, hw⟩ := H
  intro T locs c1 s1 X F hc hs eT
  obtain ⟨T', h', kA, X', e', E', A', Ex', s'⟩ := newPE X hx hZ (hw _ _ q) eT (g := mkF m pc Ls (.int n :: st)) rfl (hb hby hd) rfl hn hcap hcb (Nat.le_trans (Nat.add_le_add_right hc 1) hkc) (Nat.le_trans (Nat.add_le_add_right hs cap) hks) had
  exact own_go s' (k h' h.size kA rfl E' (Arv.new A' hn) Ex' T' locs _ _ X' F (Nat.add_le_add_right hc 1) (Nat.add_le_add_right hs cap) e')
theorem own_clone (H : own_Ok B Z a0 l R y code N ret) {ad : String} {i w1 w2 w3 w4 w5 w6 : Nat} (q1 : tables_1[w1]? = some (Jvm.Cond.methodLink y.cls i ⟨ad, "clone", "()Ljava/lang/Object;"⟩)) (q2 : tables_1[w2]? = some (Jvm.Cond.sameMethod ad "java/lang/Object" "clone" "()Ljava/lang/Object;")) (q3 : tables_1[w3]? = some (Jvm.Cond.native ⟨"java/lang/Object", "clone", "()Ljava/lang/Object;"⟩)) (q4 : tables_1[w4]? = some (Jvm.Cond.instanceMethod ⟨"java/lang/Object", "clone", "()Ljava/lang/Object;"⟩)) (q5 : tables_1[w5]? = some (Jvm.Cond.selects ad ⟨ad, "clone", "()Ljava/lang/Object;"⟩ ⟨"java/lang/Object", "clone", "()Ljava/lang/Object;"⟩)) (q6 : tables_1[w6]? = some (Jvm.Cond.castable ad "java/lang/Cloneable"))
    {a : Addr} {kA : ClassId} {ty : FieldType} {n : Int32} {vs : List Value} {dv : Value} (V : Arv Z h a kA ty n vs dv) (E : Exa Z h a ad) (hsz : Ls.size = N) (hf : 1 ≤ R.frames) (W : Nat) (hW : (st.map fun v => v.category).sum ≤ W) (hl : W + 14 ≤ R.locals) (cap : Nat) (hcap : n.toNatClampNeg ≤ cap) (hd : decode code pc = .ok (.invokevirtual i, 3)) (hkc : cells + 1 ≤ R.cells) (hks : slots + cap ≤ R.slots)
    (k : ∀ h' b, b = h.size → Ext h h' → Arv Z h' b kA ty n vs dv → Exa Z h' b ad → own_G B n0 Q kc ks (cells + 1) (slots + cap) h' (pc + 3) Ls (.ref b :: st)) : own_G B n0 Q kc ks cells slots h pc Ls (.ref a :: st) := by
  obtain ⟨p, l, e, R, s, m, args, below, meth, c⟩ := B
  obtain ⟨rfl, rfl, hx, hZ, hown, hby, hml, hrt, hlk, hnm, hw⟩ := H
  intro T locs c1 s1 X F hc hs eT
  obtain ⟨T', h', X', e', E', A', Ex', s'⟩ := cloneH X hx hZ hown (hw _ _ q1) (hw _ _ q2) (hw _ _ q3) (hw _ _ q4) (hw _ _ q5) (hw _ _ q6) eT V.arh E (g := mkF m pc Ls (.ref a :: st)) rfl (hsz.trans hml.symm) rfl (hb hby hd) hf (W := W) (by show 2 * 0 + _ ≤ _; omega) hl hcap (Nat.le_trans (Nat.add_le_add_right hc 1) hkc) (Nat.le_trans (Nat.add_le_add_right hs cap) hks)
  exact own_go s' (k h' h.size rfl E' A' Ex' T' locs _ _ X' F (Nat.add_le_add_right hc 1) (Nat.add_le_add_right hs cap) e')
theorem own_checkcast (H : own_Ok B Z a0 l R y code N ret) {K : String} {i w : Nat} (q : tables_1[w]? = some (Jvm.Cond.classLink y.cls i K)) {a : Addr} (I : Ins Z h a K true) (hd : decode code pc = .ok (.checkcast i, 3)) (k : own_G B n0 Q kc ks cells slots h (pc + 3) Ls (.ref a :: st)) : own_G B n0 Q kc ks cells slots h pc Ls (.ref a :: st) := by
  obtain ⟨p, l, e, R, s, m, args, below, meth, c⟩ := B
  obtain ⟨rfl, rfl, hx, hZ, hown, hby, hml, hrt, hlk, hnm, hw⟩ := H
  intro T locs c1 s1 X F hc hs eT
  obtain ⟨T', X', e', s'⟩ := castY X hx hZ hown (hw _ _ q) eT I (g := mkF m pc Ls (.ref a :: st)) rfl rfl (hb hby hd)
  exact own_go s' (k T' locs c1 s1 X' F hc hs e')
theorem own_arraycopy (H : own_Ok B Z a0 l R y code N ret) {i w1 w2 w3 w4 : Nat} (q1 : tables_1[w1]? = some (Jvm.Cond.methodLink y.cls i Jvm.Stand.acN)) (q2 : tables_1[w2]? = some (Jvm.Cond.native Jvm.Stand.acN)) (q3 : tables_1[w3]? = some (Jvm.Cond.static Jvm.Stand.acN)) (q4 : tables_1[w4]? = some (Jvm.Cond.initialized "java/lang/System"))
    {a b : Addr} {kA kB : ClassId} {ty : FieldType} {n n' sp dp nn : Int32} {vs vd us : List Value} {dv dd : Value} (A : Arv Z h a kA ty n vs dv) (D : Arv Z h b kB ty n' vd dd) (hty : refKind ty = false) (h1 : ¬ sp < 0) (h2 : ¬ dp < 0) (h3 : ¬ nn < 0) (h4 : sp.toNatClampNeg + nn.toNatClampNeg ≤ n.toNatClampNeg) (h5 : dp.toNatClampNeg + nn.toNatClampNeg ≤ n'.toNatClampNeg)
    (hus : us = (List.range nn.toNatClampNeg).map fun i => vs.getD (sp.toNatClampNeg + i) dv) (hlv : dp.toNatClampNeg + nn.toNatClampNeg ≤ vd.length) (hb0 : n0 ≤ b) (hsz : Ls.size = N) (hf : 1 ≤ R.frames) (W : Nat) (hW : (st.map fun v => v.category).sum ≤ W) (hlo : W + (nativeFrameWords "java/lang/System" "arraycopy" 5 + 11) ≤ R.locals) (hd : decode code pc = .ok (.invokestatic i, 3))
    (k : ∀ h', Keep h h' [b] → Arv Z h' b kB ty n' (vd.take dp.toNatClampNeg ++ us ++ vd.drop (dp.toNatClampNeg + nn.toNatClampNeg)) dd → own_G B n0 Q kc ks cells slots h' (pc + 3) Ls st) : own_G B n0 Q kc ks cells slots h pc Ls (.int nn :: .int dp :: .ref b :: .int sp :: .ref a :: st) := by
  obtain ⟨p, l, e, R, s, m, args, below, meth, c⟩ := B
  obtain ⟨rfl, rfl, hx, hZ, hown, hby, hml, hrt, hlk, hnm, hw⟩ := H
  intro T locs c1 s1 X F hc hs eT
  obtain ⟨T', h', L', X', e', F', K', A', s'⟩ := cpA X hx hZ hown (hw _ _ q1) (hw _ _ q2) (hw _ _ q3) (hw _ _ q4) eT A D (Or.inl ⟨rfl, hty⟩) h1 h2 h3 h4 h5 hus hlv F hb0 (g := mkF m pc Ls (.int nn :: .int dp :: .ref b :: .int sp :: .ref a :: st)) rfl (hsz.trans hml.symm) rfl (hb hby hd) hf (W := W) (by show 2 * 0 + _ ≤ _; omega) hlo
  exact own_go s' (k h' K' A' T' L' c1 s1 X' F' hc hs e')
theorem own_aastore (H : own_Ok B Z a0 l R y code N ret) {a : Addr} {cl : Cell} {ty : FieldType} {j : Int32} {v : Value} (A : Arr Z h a cl ty) (hty : ty.isReference = true) (S : Sto Z h a v) (hin : ¬ (j < 0 ∨ cl.slots.size ≤ j.toNatClampNeg)) (ha : n0 ≤ a) (hd : decode code pc = .ok (.aastore, 1)) (k : ∀ h', Wr h h' a j.toNatClampNeg v → own_G B n0 Q kc ks cells slots h' (pc + 1) Ls st) : own_G B n0 Q kc ks cells slots h pc Ls (v :: .int j :: .ref a :: st) := by
  obtain ⟨p, l, e, R, s, m, args, below, meth, c⟩ := B
  obtain ⟨rfl, rfl, hx, hZ, hown, hby, hml, hrt, hlk, hnm, hw⟩ := H
  intro T locs c1 s1 X F hc hs eT
  obtain ⟨T', h', X', e', W', s'⟩ := stR X hx hZ eT A hin hty S (g := mkF m pc Ls (v :: .int j :: .ref a :: st)) rfl rfl (hb hby hd)
  exact own_go s' (k h' W' T' _ c1 s1 X' (Fr.snoc X' F ha) hc hs e')
theorem own_invokeprivate (H : own_Ok B Z a0 l R y code N ret) {i w1 w2 w3 w4 w5 w6 : Nat} {C : String} {yc : MethodName} {bytes : ByteArray} {maxL : Nat} {rc : Option FieldType} {rm : Room} {Qc : Option Value → Heap → Prop} {a : Addr} {argsL rest : List Value} (hM : own_C l Z yc bytes maxL rc rm (.ref a :: argsL).toArray h n0 Qc) (E : Exa Z h a C)
    (q1 : tables_1[w1]? = some (Jvm.Cond.methodLink y.cls i yc)) (q2 : tables_1[w2]? = some (Jvm.Cond.instanceMethod yc)) (q5 : tables_1[w5]? = some (Jvm.Cond.selects yc.cls yc yc)) (q6 : tables_1[w6]? = some (Jvm.Cond.privateMethod yc)) (qz : tables_1[w3]? = some (Jvm.Cond.initialized yc.cls)) (qc : tables_1[w4]? = some (Jvm.Cond.code yc bytes maxL rc)) {ps : List FieldType} {r : Option FieldType} (hpd : parseMethodDescriptor yc.desc = some ⟨ps, r⟩) (hln : argsL.length = ps.length) (W : Nat) (hne : yc.cls ≠ "java/lang/invoke/MethodHandle" ∧ yc.cls ≠ "java/lang/invoke/VarHandle")
    (hsz : Ls.size = N) (hfr : rm.frames + 1 ≤ R.frames) (hW : (rest.map fun v => v.category).sum ≤ W) (hlo : W + (maxL + 11) + rm.locals ≤ R.locals) (hkc : cells + rm.cells ≤ R.cells) (hks : slots + rm.slots ≤ R.slots) (hst : st = argsL.reverse ++ .ref a :: rest) (hd : decode code pc = .ok (.invokevirtual i, 3))
    (k : ∀ v h', Qc v h' → own_G B n0 Q kc ks (cells + rm.cells) (slots + rm.slots) h' (pc + 3) Ls (v.toList ++ rest)) : own_G B n0 Q kc ks cells slots h pc Ls st := by
  obtain ⟨p, l, e, R, s, m, args, below, meth, c⟩ := B
  obtain ⟨rfl, rfl, hx, hZ, hown, hby, hml, hrt, hlk, hnm, hw⟩ := H
  intro T locs c1 s1 X F hc hs eT
  subst hst
  obtain ⟨cq, ce, co⟩ := E.cell
  obtain ⟨v', _, ⟨T', L', k', n'⟩, -, X', ⟨Lc', hQ', l', y', z'⟩, s'⟩ := X.privateBack hx (y := yc) hown (mvT hZ (hw _ _ q1)) (mvT hZ (hw _ _ q2)) (mvT hZ (hw _ _ q5)) (Cond.privateMethod_at (mvP hZ (hw _ _ q6) (args := #[]))) (mvT hZ (hw _ _ qc)) hne (backOf (W := W) (bytes := bytes) (rm := rm) (Q := fun v hh L => Qc v hh ∧ Fr n0 L) (h := h) hM hZ (hw _ _ qc) (hw _ _ qz) hfr hlo) (g := mkF m pc Ls (argsL.reverse ++ .ref a :: rest)) rfl (hsz.trans hml.symm) (Steps.refl _) (a := a) (by rw [eT]; exact ce) co (argsL := argsL) (rest := rest) (lenOf hpd hln) rfl (by show 2 * 0 + _ ≤ _; omega) (hb hby hd) (fun _ _ => ⟨rfl, eT, Nat.le_trans (Nat.add_le_add_right hc _) hkc, Nat.le_trans (Nat.add_le_add_right hs _) hks⟩)
  dsimp only [Pt.U, Pt.locs, Pt.cells, Pt.slots] at X' l' y' z' s' hQ'
  subst l' y' z'
  exact own_go (fun t q => s'.trans q) (k v' _ hQ'.1 T' _ _ _ X' (F.app hQ'.2) (Nat.add_le_add_right hc _) (Nat.add_le_add_right hs _) rfl)
end Laws
end OwnKit
theorem d9_0 : decode method_2_code 0 = .ok (.lload_n 0, 1) := by decide +kernel
theorem d9_1 : decode method_2_code 1 = .ok (.bipush 8, 2) := by decide +kernel
theorem d9_3 : decode method_2_code 3 = .ok (.iload_n 2, 1) := by decide +kernel
theorem d9_4 : decode method_2_code 4 = .ok (.imul, 1) := by decide +kernel
theorem d9_5 : decode method_2_code 5 = .ok (.lushr, 1) := by decide +kernel
theorem d9_6 : decode method_2_code 6 = .ok (.l2i, 1) := by decide +kernel
theorem d9_7 : decode method_2_code 7 = .ok (.i2b, 1) := by decide +kernel
theorem d9_8 : decode method_2_code 8 = .ok (.ireturn, 1) := by decide +kernel
theorem own_pl9 : plainFor (⟨"com/example/shardline/shardline/http/BodyBytesToArrayPinLaw", "at", "(JI)B"⟩ : MethodName) = true := plainFor_of_name (by first | (simp [plainName, overriddenIn]; done) | decide +kernel)
theorem own_pd0 : parseMethodDescriptor "(JI)B" = some ⟨[.long, .int], some .byte⟩ := by decide +kernel
def FAt (p : Int64) (i : Int32) : Int32 := (((XT.ushrL p ((8 : Int32) * i)).toInt32).toInt8.toInt32)
set_option maxHeartbeats 4000000 in
theorem rmAt (l : Launch) (Z : State) (a0 : Array Value) (hw : ∀ (i : Nat) (d : Jvm.Cond), tables_1[i]? = some d → d.before a0 Z = true) (h0 : Heap) (n0 : Nat) (p : Int64) (i : Int32) :
    own_P l Z (⟨"com/example/shardline/shardline/http/BodyBytesToArrayPinLaw", "at", "(JI)B"⟩ : MethodName) method_2_code 3 (some .byte) (own_rm 0 0) #[(.long p), (.int i)] h0 n0 (.int (FAt p i)) := by
  refine own_met (Ls := #[.val (.long p), .second, .val (.int i)]) hw own_pl9 (fun m => by first | (simp [entryFrame, mkF, argsToLocals, Value.category]; done) | rfl) ?_
  intro B H
  refine own_lload_n H rfl d9_0 ?_
  refine own_bipush H (8 : Int32) (by decide) d9_1 ?_
  refine own_iload_n H rfl d9_3 ?_
  refine own_imul H rfl d9_4 ?_
  refine own_lushr H rfl d9_5 ?_
  refine own_l2i H rfl d9_6 ?_
  refine own_i2b H rfl d9_7 ?_
  exact own_ireturn H (by simp) (XT.narrow_b _) d9_8 (Nat.le_refl _) (Nat.le_refl _) ⟨by show some _ = some _; rw [FAt], rfl⟩
theorem own_nb (p : Int64) (i : Int32) : (Value.int (nar .byte (FAt p i))) = .int (FAt p i) := by
  have h : nar .byte (FAt p i) = FAt p i := by
    show (FAt p i).toInt8.toInt32 = _
    unfold FAt
    simp
  rw [h]
theorem own_nek (k n : Int32) (h : k.toInt < n.toInt) : ¬ k = n := by
  rw [← Int32.toInt_inj]
  omega
theorem d4_0 : decode jdk_29_method_66_code 0 = .ok (.lload_n 0, 1) := by decide +kernel
theorem d4_1 : decode jdk_29_method_66_code 1 = .ok (.lload_n 2, 1) := by decide +kernel
theorem d4_2 : decode jdk_29_method_66_code 2 = .ok (.lcmp, 1) := by decide +kernel
theorem d4_3 : decode jdk_29_method_66_code 3 = .ok (.ifCond .lt 7, 3) := by decide +kernel
theorem d4_6 : decode jdk_29_method_66_code 6 = .ok (.lload_n 0, 1) := by decide +kernel
theorem d4_7 : decode jdk_29_method_66_code 7 = .ok (.goto 4, 3) := by decide +kernel
theorem d4_10 : decode jdk_29_method_66_code 10 = .ok (.lload_n 2, 1) := by decide +kernel
theorem d4_11 : decode jdk_29_method_66_code 11 = .ok (.lreturn, 1) := by decide +kernel
theorem own_pl4 : plainFor (⟨"java/lang/Math", "max", "(JJ)J"⟩ : MethodName) = true := Jvm.Free.JP.mathPlain rfl (by decide +kernel)
theorem own_pd1 : parseMethodDescriptor "(JJ)J" = some ⟨[.long, .long], some .long⟩ := by decide +kernel
def FMax (p1 : Int64) (p2 : Int64) : Int64 := if p1 < p2 then p2 else p1
set_option maxHeartbeats 4000000 in
theorem rmMax (l : Launch) (Z : State) (a0 : Array Value) (hw : ∀ (i : Nat) (d : Jvm.Cond), tables_1[i]? = some d → d.before a0 Z = true) (h0 : Heap) (n0 : Nat) (p1 : Int64) (p2 : Int64) :
    own_P l Z (⟨"java/lang/Math", "max", "(JJ)J"⟩ : MethodName) jdk_29_method_66_code 4 (some .long) (own_rm 0 0) #[(.long p1), (.long p2)] h0 n0 (.long (FMax p1 p2)) := by
  refine own_met (Ls := #[.val (.long p1), .second, .val (.long p2), .second]) hw own_pl4 (fun m => by first | (simp [entryFrame, mkF, argsToLocals, Value.category]; done) | rfl) ?_
  intro B H
  refine own_lload_n H rfl d4_0 ?_
  refine own_lload_n H rfl d4_1 ?_
  by_cases c1 : p1 < p2
  ·
    refine own_lcmplt_t H (pc' := 10) d4_2 d4_3 (by decide) (by decide) c1 ?_
    refine own_lload_n H rfl d4_10 ?_
    exact own_lreturn H d4_11 (Nat.le_refl _) (Nat.le_refl _) ⟨by show some _ = some _; rw [FMax, if_pos c1], rfl⟩
  ·
    refine own_lcmplt_f H d4_2 d4_3 c1 ?_
    refine own_lload_n H rfl d4_6 ?_
    refine own_goto H (pc' := 11) d4_7 (by decide) (by decide) ?_
    exact own_lreturn H d4_11 (Nat.le_refl _) (Nat.le_refl _) ⟨by show some _ = some _; rw [FMax, if_neg c1], rfl⟩
theorem d5_0 : decode jdk_29_method_70_code 0 = .ok (.lload_n 0, 1) := by decide +kernel
theorem d5_1 : decode jdk_29_method_70_code 1 = .ok (.lload_n 2, 1) := by decide +kernel
theorem d5_2 : decode jdk_29_method_70_code 2 = .ok (.lcmp, 1) := by decide +kernel
theorem d5_3 : decode jdk_29_method_70_code 3 = .ok (.ifCond .gt 7, 3) := by decide +kernel
theorem d5_6 : decode jdk_29_method_70_code 6 = .ok (.lload_n 0, 1) := by decide +kernel
theorem d5_7 : decode jdk_29_method_70_code 7 = .ok (.goto 4, 3) := by decide +kernel
theorem d5_10 : decode jdk_29_method_70_code 10 = .ok (.lload_n 2, 1) := by decide +kernel
theorem d5_11 : decode jdk_29_method_70_code 11 = .ok (.lreturn, 1) := by decide +kernel
theorem own_pl5 : plainFor (⟨"java/lang/Math", "min", "(JJ)J"⟩ : MethodName) = true := Jvm.Free.JP.mathPlain rfl (by decide +kernel)
def FMin (p1 : Int64) (p2 : Int64) : Int64 := if p2 < p1 then p2 else p1
set_option maxHeartbeats 4000000 in
theorem rmMin (l : Launch) (Z : State) (a0 : Array Value) (hw : ∀ (i : Nat) (d : Jvm.Cond), tables_1[i]? = some d → d.before a0 Z = true) (h0 : Heap) (n0 : Nat) (p1 : Int64) (p2 : Int64) :
    own_P l Z (⟨"java/lang/Math", "min", "(JJ)J"⟩ : MethodName) jdk_29_method_70_code 4 (some .long) (own_rm 0 0) #[(.long p1), (.long p2)] h0 n0 (.long (FMin p1 p2)) := by
  refine own_met (Ls := #[.val (.long p1), .second, .val (.long p2), .second]) hw own_pl5 (fun m => by first | (simp [entryFrame, mkF, argsToLocals, Value.category]; done) | rfl) ?_
  intro B H
  refine own_lload_n H rfl d5_0 ?_
  refine own_lload_n H rfl d5_1 ?_
  by_cases c1 : p2 < p1
  ·
    refine own_lcmpgt_t H (pc' := 10) d5_2 d5_3 (by decide) (by decide) c1 ?_
    refine own_lload_n H rfl d5_10 ?_
    exact own_lreturn H d5_11 (Nat.le_refl _) (Nat.le_refl _) ⟨by show some _ = some _; rw [FMin, if_pos c1], rfl⟩
  ·
    refine own_lcmpgt_f H d5_2 d5_3 c1 ?_
    refine own_lload_n H rfl d5_6 ?_
    refine own_goto H (pc' := 11) d5_7 (by decide) (by decide) ?_
    exact own_lreturn H d5_11 (Nat.le_refl _) (Nat.le_refl _) ⟨by show some _ = some _; rw [FMin, if_neg c1], rfl⟩
theorem d7_0 : decode jdk_29_method_69_code 0 = .ok (.iload_n 0, 1) := by decide +kernel
theorem d7_1 : decode jdk_29_method_69_code 1 = .ok (.iload_n 1, 1) := by decide +kernel
theorem d7_2 : decode jdk_29_method_69_code 2 = .ok (.if_icmp .gt 7, 3) := by decide +kernel
theorem d7_5 : decode jdk_29_method_69_code 5 = .ok (.iload_n 0, 1) := by decide +kernel
theorem d7_6 : decode jdk_29_method_69_code 6 = .ok (.goto 4, 3) := by decide +kernel
theorem d7_9 : decode jdk_29_method_69_code 9 = .ok (.iload_n 1, 1) := by decide +kernel
theorem d7_10 : decode jdk_29_method_69_code 10 = .ok (.ireturn, 1) := by decide +kernel
theorem own_pl7 : plainFor (⟨"java/lang/Math", "min", "(II)I"⟩ : MethodName) = true := Jvm.Free.JP.mathPlain rfl (by decide +kernel)
theorem own_pd2 : parseMethodDescriptor "(II)I" = some ⟨[.int, .int], some .int⟩ := by decide +kernel
def FMinI (p1 : Int32) (p2 : Int32) : Int32 := if p2 < p1 then p2 else p1
set_option maxHeartbeats 4000000 in
theorem rmMinI (l : Launch) (Z : State) (a0 : Array Value) (hw : ∀ (i : Nat) (d : Jvm.Cond), tables_1[i]? = some d → d.before a0 Z = true) (h0 : Heap) (n0 : Nat) (p1 : Int32) (p2 : Int32) :
    own_P l Z (⟨"java/lang/Math", "min", "(II)I"⟩ : MethodName) jdk_29_method_69_code 2 (some .int) (own_rm 0 0) #[(.int p1), (.int p2)] h0 n0 (.int (FMinI p1 p2)) := by
  refine own_met (Ls := #[.val (.int p1), .val (.int p2)]) hw own_pl7 (fun m => by first | (simp [entryFrame, mkF, argsToLocals, Value.category]; done) | rfl) ?_
  intro B H
  refine own_iload_n H rfl d7_0 ?_
  refine own_iload_n H rfl d7_1 ?_
  by_cases c1 : p2 < p1
  ·
    refine own_icmpgt_t H (pc' := 9) d7_2 (by decide) (by decide) c1 ?_
    refine own_iload_n H rfl d7_9 ?_
    exact own_ireturn H (by simp) rfl d7_10 (Nat.le_refl _) (Nat.le_refl _) ⟨by show some _ = some _; rw [FMinI, if_pos c1], rfl⟩
  ·
    refine own_icmpgt_f H d7_2 c1 ?_
    refine own_iload_n H rfl d7_5 ?_
    refine own_goto H (pc' := 10) d7_6 (by decide) (by decide) ?_
    exact own_ireturn H (by simp) rfl d7_10 (Nat.le_refl _) (Nat.le_refl _) ⟨by show some _ = some _; rw [FMinI, if_neg c1], rfl⟩
theorem d1_0 : decode prog_18_method_1_code 0 = .ok (.aload_n 0, 1) := by decide +kernel
theorem d1_1 : decode prog_18_method_1_code 1 = .ok (.invokespecial 1, 3) := by decide +kernel
theorem d1_4 : decode prog_18_method_1_code 4 = .ok (.aload_n 0, 1) := by decide +kernel
theorem d1_5 : decode prog_18_method_1_code 5 = .ok (.iload_n 1, 1) := by decide +kernel
theorem d1_6 : decode prog_18_method_1_code 6 = .ok (.newarray .byte, 2) := by decide +kernel
theorem d1_8 : decode prog_18_method_1_code 8 = .ok (.putfield 7, 3) := by decide +kernel
theorem d1_11 : decode prog_18_method_1_code 11 = .ok (.aload_n 0, 1) := by decide +kernel
theorem d1_12 : decode prog_18_method_1_code 12 = .ok (.iload_n 2, 1) := by decide +kernel
theorem d1_13 : decode prog_18_method_1_code 13 = .ok (.putfield 13, 3) := by decide +kernel
theorem d1_16 : decode prog_18_method_1_code 16 = .ok (.return_, 1) := by decide +kernel
theorem own_pl1 : plainFor (⟨"com/example/shardline/shardline/http/BodyBytes", "<init>", "(II)V"⟩ : MethodName) = true := plainFor_of_name (by first | (simp [plainName, overriddenIn]; done) | decide +kernel)
theorem own_pd3 : parseMethodDescriptor "(II)V" = some ⟨[.int, .int], none⟩ := by decide +kernel
set_option maxHeartbeats 4000000 in
theorem rm1 (l : Launch) (Z : State) (a0 : Array Value) (hw : ∀ (i : Nat) (d : Jvm.Cond), tables_1[i]? = some d → d.before a0 Z = true) (h0 : Heap) (n0 : Nat) (a : Addr) (q1 : Int32) (q2 : Int32) (hZ0 : n0 ≤ h0.size) (hE : Exa Z h0 a "com/example/shardline/shardline/http/BodyBytes") (hF1 : Fld Z h0 a "com/example/shardline/shardline/http/BodyBytes" "bytes" "[B" .null) (hF2 : Fld Z h0 a "com/example/shardline/shardline/http/BodyBytes" "most" "I" (.int (0 : Int32))) (hF3 : Fld Z h0 a "com/example/shardline/shardline/http/BodyBytes" "length" "I" (.int (0 : Int32))) (hq1 : ¬ q1 < 0) (hq2 : q1.toNatClampNeg ≤ 3) (hA_a : n0 ≤ a) :
    own_C l Z (⟨"com/example/shardline/shardline/http/BodyBytes", "<init>", "(II)V"⟩ : MethodName) prog_18_method_1_code 3 none ({ frames := 1, cells := 1, slots := 3, locals := 12 } : Room) #[(.ref a), (.int q1), (.int q2)] h0 n0 (fun v h' => ∃ (a2 : Addr) (kA3 : ClassId), v = none ∧ Keep h0 h' [a] ∧ n0 ≤ a2 ∧ h0.size ≤ a2 ∧ a2 < h'.size ∧ Fld Z h' a "com/example/shardline/shardline/http/BodyBytes" "bytes" "[B" (.ref a2) ∧ Fld Z h' a "com/example/shardline/shardline/http/BodyBytes" "most" "I" (.int q2) ∧ Fld Z h' a "com/example/shardline/shardline/http/BodyBytes" "length" "I" (.int (0 : Int32)) ∧ Arv Z h' a2 kA3 .byte q1 [] (.int 0) ∧ Exa Z h' a2 "[B") := by
  refine own_met (Ls := #[.val (.ref a), .val (.int q1), .val (.int q2)]) hw own_pl1 (fun m => by first | (simp [entryFrame, mkF, argsToLocals, Value.category]; done) | rfl) ?_
  intro B H
  have hK : Keep h0 h0 [a] := Keep.refl _ _
  refine own_aload_n H rfl rfl d1_0 ?_
  refine own_initObject H (w1 := 6) (w2 := 7) (w3 := 8) rfl rfl rfl 0 rfl (by decide) (Nat.le_of_eq rfl) (by decide) d1_1 ?_
  refine own_aload_n H rfl rfl d1_4 ?_
  refine own_iload_n H rfl d1_5 ?_
  refine own_newarrayE H (w := 9) (n := q1) rfl "[B" (by decide) hq1 3 hq2 (by decide) d1_6 (by decide) (by decide) ?_
  intro h1 a2 kA3 ha4 E5 V6 X7
  have f8 : a ≠ a2 := Nat.ne_of_lt (by rw [ha4]; exact hE.lt)
  have f9 : n0 ≤ a2 := by rw [ha4]; exact hZ0
  have f10 : h0.size ≤ a2 := by rw [ha4]; exact hK.1
  have f11 : Exa Z h1 a "com/example/shardline/shardline/http/BodyBytes" := hE.ext E5
  have f12 : Fld Z h1 a "com/example/shardline/shardline/http/BodyBytes" "bytes" "[B" .null := hF1.ext E5
  have f13 : Fld Z h1 a "com/example/shardline/shardline/http/BodyBytes" "most" "I" (.int (0 : Int32)) := hF2.ext E5
  have f14 : Fld Z h1 a "com/example/shardline/shardline/http/BodyBytes" "length" "I" (.int (0 : Int32)) := hF3.ext E5
  have f15 : n0 ≤ h1.size := Nat.le_trans hZ0 E5.1
  have f16 : Keep h0 h1 [a] := hK.ext E5
  show own_G _ _ _ _ _ _ _ _ 8 #[.val (.ref a), .val (.int q1), .val (.int q2)] [(.ref a2), (.ref a)]
  refine own_putfield H (w := 10) (wi := 1) rfl f12 f11 hA_a (Or.inl (own_w H (i := 11) rfl)) rfl (ty := (.array .byte)) (by decide) rfl rfl d1_8 ?_
  intro h17 W18
  have f19 : Exa Z h17 a "com/example/shardline/shardline/http/BodyBytes" := f11.wr W18
  have f20 : Fld Z h17 a "com/example/shardline/shardline/http/BodyBytes" "bytes" "[B" (.ref a2) := f12.same W18
  have f21 : Fld Z h17 a "com/example/shardline/shardline/http/BodyBytes" "most" "I" (.int (0 : Int32)) := f13.other W18 (Or.inr (slot_ne (Or.inr (own_w H (i := 13) rfl)) (Or.inl (own_w H (i := 11) rfl)) (by decide) (t := .int) (t' := (.array .byte)) (by decide) (by decide)))
  have f22 : Fld Z h17 a "com/example/shardline/shardline/http/BodyBytes" "length" "I" (.int (0 : Int32)) := f14.other W18 (Or.inr (slot_ne (Or.inl (own_w H (i := 20) rfl)) (Or.inl (own_w H (i := 11) rfl)) (by decide) (t := .int) (t' := (.array .byte)) (by decide) (by decide)))
  have f23 : n0 ≤ h17.size := by rw [W18.size]; exact f15
  have f24 : Keep h0 h17 [a] := f16.wr W18 (Or.inl (by simp))
  have f25 : Arv Z h17 a2 kA3 .byte q1 [] (.int 0) := V6.other W18 f8.symm
  have f26 : Exa Z h17 a2 "[B" := X7.wr W18
  refine own_aload_n H rfl rfl d1_11 ?_
  refine own_iload_n H rfl d1_12 ?_
  refine own_putfield H (w := 12) (wi := 1) rfl f21 f19 hA_a (Or.inr ⟨own_w H (i := 13) rfl, rfl, rfl⟩) rfl (ty := .int) (by decide) rfl rfl d1_13 ?_
  intro h27 W28
  have f29 : Exa Z h27 a "com/example/shardline/shardline/http/BodyBytes" := f19.wr W28
  have f30 : Fld Z h27 a "com/example/shardline/shardline/http/BodyBytes" "bytes" "[B" (.ref a2) := f20.other W28 (Or.inr (slot_ne (Or.inl (own_w H (i := 11) rfl)) (Or.inr (own_w H (i := 13) rfl)) (by decide) (t := (.array .byte)) (t' := .int) (by decide) (by decide)))
  have f31 : Fld Z h27 a "com/example/shardline/shardline/http/BodyBytes" "most" "I" (.int q2) := f21.same W28
  have f32 : Fld Z h27 a "com/example/shardline/shardline/http/BodyBytes" "length" "I" (.int (0 : Int32)) := f22.other W28 (Or.inr (slot_ne (Or.inl (own_w H (i := 20) rfl)) (Or.inr (own_w H (i := 13) rfl)) (by decide) (t := .int) (t' := .int) (by decide) (by decide)))
  have f33 : n0 ≤ h27.size := by rw [W28.size]; exact f23
  have f34 : Keep h0 h27 [a] := f24.wr W28 (Or.inl (by simp))
  have f35 : Arv Z h27 a2 kA3 .byte q1 [] (.int 0) := f25.other W28 f8.symm
  have f36 : Exa Z h27 a2 "[B" := f26.wr W28
  exact own_return H d1_16 (by decide) (by decide) ⟨a2, kA3, rfl, f34, f9, f10, f36.lt, f30, f31, f32, f35, f36⟩
theorem own_zeros {vs : List Value} {dv : Value} (h : ∀ x ∈ vs, x = dv) : ∀ i, ([] : List Value).getD i dv = vs.getD i dv := fun i => by
  simp only [List.getD_eq_getElem?_getD]
  cases hq : vs[i]? with
  | none => simp
  | some x => simp [h x (List.mem_of_getElem? hq)]
theorem own_zc (d k N e : Nat) : ∀ x ∈ (List.replicate N (Value.int 0)).take d ++ List.replicate k (Value.int 0) ++ (List.replicate N (Value.int 0)).drop e, x = Value.int 0 := by
  intro x hx
  rcases List.mem_append.mp hx with hx | hx
  · rcases List.mem_append.mp hx with hx | hx
    · exact List.eq_of_mem_replicate (List.mem_of_mem_take hx)
    · exact List.eq_of_mem_replicate hx
  · exact List.eq_of_mem_replicate (List.mem_of_mem_drop hx)
theorem own_minz (i m : Int32) (hi : ¬ i < 0) (hm : ¬ m < 0) : ¬ FMinI i m < 0 ∧ (FMinI i m).toNatClampNeg ≤ i.toNatClampNeg ∧ (FMinI i m).toNatClampNeg ≤ m.toNatClampNeg := by
  have l0 : (0 : Int32).toInt = 0 := rfl
  have e1 : i.toNatClampNeg = i.toInt.toNat := rfl
  have e2 : m.toNatClampNeg = m.toInt.toNat := rfl
  have e3 : (FMinI i m).toNatClampNeg = (FMinI i m).toInt.toNat := rfl
  rw [e1, e2, e3]
  unfold FMinI
  simp only [Int32.lt_iff_toInt_lt, l0] at *
  split <;> omega
theorem d6_0 : decode jdk_65_method_121_code 0 = .ok (.iload_n 1, 1) := by decide +kernel
theorem d6_1 : decode jdk_65_method_121_code 1 = .ok (.aload_n 0, 1) := by decide +kernel
theorem d6_2 : decode jdk_65_method_121_code 2 = .ok (.arraylength, 1) := by decide +kernel
theorem d6_3 : decode jdk_65_method_121_code 3 = .ok (.if_icmp .ne 11, 3) := by decide +kernel
theorem d6_6 : decode jdk_65_method_121_code 6 = .ok (.aload_n 0, 1) := by decide +kernel
theorem d6_7 : decode jdk_65_method_121_code 7 = .ok (.invokevirtual 310, 3) := by decide +kernel
theorem d6_10 : decode jdk_65_method_121_code 10 = .ok (.checkcast 311, 3) := by decide +kernel
theorem d6_13 : decode jdk_65_method_121_code 13 = .ok (.areturn, 1) := by decide +kernel
theorem d6_14 : decode jdk_65_method_121_code 14 = .ok (.iload_n 1, 1) := by decide +kernel
theorem d6_15 : decode jdk_65_method_121_code 15 = .ok (.newarray .byte, 2) := by decide +kernel
theorem d6_17 : decode jdk_65_method_121_code 17 = .ok (.astore_n 2, 1) := by decide +kernel
theorem d6_18 : decode jdk_65_method_121_code 18 = .ok (.aload_n 0, 1) := by decide +kernel
theorem d6_19 : decode jdk_65_method_121_code 19 = .ok (.iconst 0, 1) := by decide +kernel
theorem d6_20 : decode jdk_65_method_121_code 20 = .ok (.aload_n 2, 1) := by decide +kernel
theorem d6_21 : decode jdk_65_method_121_code 21 = .ok (.iconst 0, 1) := by decide +kernel
theorem d6_22 : decode jdk_65_method_121_code 22 = .ok (.aload_n 0, 1) := by decide +kernel
theorem d6_23 : decode jdk_65_method_121_code 23 = .ok (.arraylength, 1) := by decide +kernel
theorem d6_24 : decode jdk_65_method_121_code 24 = .ok (.iload_n 1, 1) := by decide +kernel
theorem d6_25 : decode jdk_65_method_121_code 25 = .ok (.invokestatic 304, 3) := by decide +kernel
theorem d6_28 : decode jdk_65_method_121_code 28 = .ok (.invokestatic 150, 3) := by decide +kernel
theorem d6_31 : decode jdk_65_method_121_code 31 = .ok (.aload_n 2, 1) := by decide +kernel
theorem d6_32 : decode jdk_65_method_121_code 32 = .ok (.areturn, 1) := by decide +kernel
theorem own_pl6 : plainFor (⟨"java/util/Arrays", "copyOf", "([BI)[B"⟩ : MethodName) = true := plainFor_of_name (by first | (simp [plainName, overriddenIn]; done) | decide +kernel)
theorem own_pd4 : parseMethodDescriptor "([BI)[B" = some ⟨[(.array .byte), .int], some (.array .byte)⟩ := by decide +kernel
set_option maxHeartbeats 4000000 in
theorem rmCZ (l : Launch) (Z : State) (a0 : Array Value) (hw : ∀ (i : Nat) (d : Jvm.Cond), tables_1[i]? = some d → d.before a0 Z = true) (h0 : Heap) (n0 : Nat) (t0 : Addr) (m : Int32) (kA : ClassId) (i : Int32) (hZ0 : n0 ≤ h0.size) (hV : Arv Z h0 t0 kA .byte i [] (.int 0)) (hE : Exa Z h0 t0 "[B") (hm1 : ¬ m < 0) (hm2 : m.toNatClampNeg ≤ 6) :
    own_C l Z (⟨"java/util/Arrays", "copyOf", "([BI)[B"⟩ : MethodName) jdk_65_method_121_code 3 (some (.array .byte)) ({ frames := 1, cells := 1, slots := 6, locals := 31 } : Room) #[(.ref t0), (.int m)] h0 n0 (fun v h' => ∃ (t : Addr) (kB : ClassId), v = some (.ref t) ∧ Keep h0 h' [] ∧ n0 ≤ t ∧ h0.size ≤ t ∧ t < h'.size ∧ Arv Z h' t kB .byte m [] (.int 0) ∧ Exa Z h' t "[B") := by
  refine own_met (Ls := #[.val (.ref t0), .val (.int m), .unset]) hw own_pl6 (fun m => by first | (simp [entryFrame, mkF, argsToLocals, Value.category]; done) | rfl) ?_
  intro B H
  have hK : Keep h0 h0 [] := Keep.refl _ _
  have hmz := own_minz i m (by obtain ⟨_, _, _, _, q, _⟩ := hV; exact q) hm1
  refine own_iload_n H rfl d6_0 ?_
  refine own_aload_n H rfl rfl d6_1 ?_
  refine own_arraylengthV H hV d6_2 ?_
  by_cases c1 : m = i
  ·
    refine own_icmpne_f H d6_3 c1 ?_
    refine own_aload_n H rfl rfl d6_6 ?_
    refine own_clone H (ad := "[B") (w1 := 61) (w2 := 62) (w3 := 66) (w4 := 64) (w5 := 65) (w6 := 67) rfl rfl rfl rfl rfl rfl hV hE rfl (by decide) 0 (Nat.le_of_eq rfl) (by decide) 6 (by rw [← c1]; exact hm2) d6_7 (by decide) (by decide) ?_
    intro h2 a3 ha4 E5 V6 X7
    have f8 : t0 ≠ a3 := Nat.ne_of_lt (by rw [ha4]; exact hE.lt)
    have f9 : n0 ≤ a3 := by rw [ha4]; exact hZ0
    have f10 : h0.size ≤ a3 := by rw [ha4]; exact hK.1
    have f11 : Arv Z h2 t0 kA .byte i [] (.int 0) := hV.ext E5
    have f12 : Exa Z h2 t0 "[B" := hE.ext E5
    have f13 : n0 ≤ h2.size := Nat.le_trans hZ0 E5.1
    have f14 : Keep h0 h2 [] := hK.ext E5
    show own_G _ _ _ _ _ _ _ _ 10 #[.val (.ref t0), .val (.int m), .unset] [(.ref a3)]
    refine own_checkcast H (w := 68) rfl (Ins.self X7) d6_10 ?_
    show own_G _ _ _ _ _ _ _ _ 13 #[.val (.ref t0), .val (.int m), .unset] [(.ref a3)]
    exact own_areturn H rfl rfl rfl d6_13 (by decide) (by decide) ⟨a3, kA, rfl, f14, f9, f10, V6.lt, (c1.symm ▸ V6), X7⟩
  ·
    refine own_icmpne_t H (pc' := 14) d6_3 (by decide) (by decide) c1 ?_
    refine own_iload_n H rfl d6_14 ?_
    refine own_newarrayE H (w := 9) (n := m) rfl "[B" (by decide) hm1 6 hm2 (by decide) d6_15 (by decide) (by decide) ?_
    intro h15 a16 kA17 ha18 E19 V20 X21
    have f22 : t0 ≠ a16 := Nat.ne_of_lt (by rw [ha18]; exact hE.lt)
    have f23 : n0 ≤ a16 := by rw [ha18]; exact hZ0
    have f24 : h0.size ≤ a16 := by rw [ha18]; exact hK.1
    have f25 : Arv Z h15 t0 kA .byte i [] (.int 0) := hV.ext E19
    have f26 : Exa Z h15 t0 "[B" := hE.ext E19
    have f27 : n0 ≤ h15.size := Nat.le_trans hZ0 E19.1
    have f28 : Keep h0 h15 [] := hK.ext E19
    show own_G _ _ _ _ _ _ _ _ 17 #[.val (.ref t0), .val (.int m), .unset] [(.ref a16)]
    refine own_astore_n H rfl #[.val (.ref t0), .val (.int m), .val (.ref a16)] rfl d6_17 ?_
    refine own_aload_n H rfl rfl d6_18 ?_
    refine own_iconst H (0 : Int32) (by decide) d6_19 ?_
    refine own_aload_n H rfl rfl d6_20 ?_
    refine own_iconst H (0 : Int32) (by decide) d6_21 ?_
    refine own_aload_n H rfl rfl d6_22 ?_
    refine own_arraylengthV H f25 d6_23 ?_
    refine own_iload_n H rfl d6_24 ?_
    refine own_invokestatic H (argsL := [(.int i), (.int m)]) (rest := [(.int (0 : Int32)), (.ref a16), (.int (0 : Int32)), (.ref t0)]) (rmMinI l Z a0 (own_hw H) h15 n0 i m) (w1 := 33) (w2 := 34) (w3 := 24) (w4 := 35) rfl rfl rfl rfl own_pd2 rfl 4 (by decide) rfl (by decide) (Nat.le_of_eq rfl) (by decide) (by decide) (by decide) rfl d6_25 ?_
    rintro _ _ ⟨rfl, rfl⟩
    show own_G _ _ _ _ _ _ _ _ 28 #[.val (.ref t0), .val (.int m), .val (.ref a16)] [(.int (FMinI i m)), (.int (0 : Int32)), (.ref a16), (.int (0 : Int32)), (.ref t0)]
    have f29 : Arv Z h15 a16 kA17 .byte m (List.replicate 6 (.int 0)) (.int 0) := V20.pad (pad_rep [] (.int 0) 6)
    refine own_arraycopy H (w1 := 36) (w2 := 39) (w3 := 37) (w4 := 38) rfl rfl rfl rfl (us := (List.replicate (FMinI i m).toNatClampNeg (.int 0))) f25 f29 rfl (by decide) (by decide) hmz.1 (by have := hmz.2.1; simp; omega) (by have := hmz.2.2; simp; omega) (by simp [List.map_const']) (by have := hmz.2.2; simp; omega) f23 rfl (by decide) 0 (Nat.le_of_eq rfl) (by decide) d6_28 ?_
    intro h30 K31 V32
    have f33 : Arv Z h30 t0 kA .byte i [] (.int 0) := f25.keep K31 (ninS f22 nin0)
    have f34 : Exa Z h30 t0 "[B" := f26.keep K31
    have f35 : n0 ≤ h30.size := Nat.le_trans f27 K31.1
    have f36 : Keep h0 h30 [] := f28.trans K31 (allS (Or.inr f24) all0)
    have f37 : Exa Z h30 a16 "[B" := X21.keep K31
    have f38 : Arv Z h30 a16 kA17 .byte m [] (.int 0) := V32.pad (own_zeros (own_zc _ _ _ _))
    show own_G _ _ _ _ _ _ _ _ 31 #[.val (.ref t0), .val (.int m), .val (.ref a16)] []
    refine own_aload_n H rfl rfl d6_31 ?_
    exact own_areturn H rfl rfl rfl d6_32 (by decide) (by decide) ⟨a16, kA17, rfl, f36, f23, f24, f38.lt, f38, f37⟩
theorem own_bnd : True := trivial
def FNl (m e i : Int32) : Int32 := (FMin (m.toInt64) (FMax ((0 : Int64) + (e.toInt64)) ((2 : Int64) * (i.toInt64)))).toInt32
def own_Hb (m e i : Int32) : Prop := 0 ≤ i.toInt ∧ i.toInt ≤ 3 ∧ 0 ≤ m.toInt ∧ m.toInt ≤ 6 ∧ 0 ≤ e.toInt ∧ e.toInt ≤ 7
theorem own_nl (m e i : Int32) (hb : own_Hb m e i) : 0 ≤ (FNl m e i).toInt ∧ (FNl m e i).toInt ≤ 6 := by
  obtain ⟨h1, h2, h3, h4, h5, h6⟩ := hb
  have l0 : (0 : Int64).toInt = 0 := rfl
  have l2 : (2 : Int64).toInt = 2 := by decide
  have e1 : ((0 : Int64) + e.toInt64).toInt = e.toInt := by rw [XT.add64 (by rw [l0, Int32.toInt_toInt64]; constructor <;> omega), l0, Int32.toInt_toInt64]; omega
  have e2 : ((2 : Int64) * i.toInt64).toInt = 2 * i.toInt := by rw [XT.mul64 (by rw [l2, Int32.toInt_toInt64]; constructor <;> omega), l2, Int32.toInt_toInt64]
  have e3 := Int32.toInt_toInt64 m
  have k : 0 ≤ (FMin (m.toInt64) (FMax ((0 : Int64) + (e.toInt64)) ((2 : Int64) * (i.toInt64)))).toInt ∧ (FMin (m.toInt64) (FMax ((0 : Int64) + (e.toInt64)) ((2 : Int64) * (i.toInt64)))).toInt ≤ 6 := by
    unfold FMin FMax
    simp only [Int64.lt_iff_toInt_lt]
    repeat' split
    all_goals omega
  unfold FNl
  rw [XT.narrowInt ⟨by omega, by omega⟩]
  exact k
theorem own_nl1 (m e i : Int32) (hb : own_Hb m e i) : ¬ FNl m e i < 0 := by
  have h := own_nl m e i hb
  have l0 : (0 : Int32).toInt = 0 := rfl
  rw [Int32.lt_iff_toInt_lt]
  omega
theorem own_nl2 (m e i : Int32) (hb : own_Hb m e i) : (FNl m e i).toNatClampNeg ≤ 6 := by
  have h := own_nl m e i hb
  show (FNl m e i).toInt.toNat ≤ 6
  omega
theorem d3_0 : decode prog_18_method_2_code 0 = .ok (.aload_n 0, 1) := by decide +kernel
theorem d3_1 : decode prog_18_method_2_code 1 = .ok (.getfield 17, 3) := by decide +kernel
theorem d3_4 : decode prog_18_method_2_code 4 = .ok (.iload_n 1, 1) := by decide +kernel
theorem d3_5 : decode prog_18_method_2_code 5 = .ok (.iadd, 1) := by decide +kernel
theorem d3_6 : decode prog_18_method_2_code 6 = .ok (.aload_n 0, 1) := by decide +kernel
theorem d3_7 : decode prog_18_method_2_code 7 = .ok (.getfield 7, 3) := by decide +kernel
theorem d3_10 : decode prog_18_method_2_code 10 = .ok (.arraylength, 1) := by decide +kernel
theorem d3_11 : decode prog_18_method_2_code 11 = .ok (.if_icmp .le 44, 3) := by decide +kernel
theorem d3_14 : decode prog_18_method_2_code 14 = .ok (.aload_n 0, 1) := by decide +kernel
theorem d3_15 : decode prog_18_method_2_code 15 = .ok (.aload_n 0, 1) := by decide +kernel
theorem d3_16 : decode prog_18_method_2_code 16 = .ok (.getfield 7, 3) := by decide +kernel
theorem d3_19 : decode prog_18_method_2_code 19 = .ok (.aload_n 0, 1) := by decide +kernel
theorem d3_20 : decode prog_18_method_2_code 20 = .ok (.getfield 13, 3) := by decide +kernel
theorem d3_23 : decode prog_18_method_2_code 23 = .ok (.i2l, 1) := by decide +kernel
theorem d3_24 : decode prog_18_method_2_code 24 = .ok (.aload_n 0, 1) := by decide +kernel
theorem d3_25 : decode prog_18_method_2_code 25 = .ok (.getfield 17, 3) := by decide +kernel
theorem d3_28 : decode prog_18_method_2_code 28 = .ok (.i2l, 1) := by decide +kernel
theorem d3_29 : decode prog_18_method_2_code 29 = .ok (.iload_n 1, 1) := by decide +kernel
theorem d3_30 : decode prog_18_method_2_code 30 = .ok (.i2l, 1) := by decide +kernel
theorem d3_31 : decode prog_18_method_2_code 31 = .ok (.ladd, 1) := by decide +kernel
theorem d3_32 : decode prog_18_method_2_code 32 = .ok (.ldc2_w 20, 3) := by decide +kernel
theorem d3_35 : decode prog_18_method_2_code 35 = .ok (.aload_n 0, 1) := by decide +kernel
theorem d3_36 : decode prog_18_method_2_code 36 = .ok (.getfield 7, 3) := by decide +kernel
theorem d3_39 : decode prog_18_method_2_code 39 = .ok (.arraylength, 1) := by decide +kernel
theorem d3_40 : decode prog_18_method_2_code 40 = .ok (.i2l, 1) := by decide +kernel
theorem d3_41 : decode prog_18_method_2_code 41 = .ok (.lmul, 1) := by decide +kernel
theorem d3_42 : decode prog_18_method_2_code 42 = .ok (.invokestatic 22, 3) := by decide +kernel
theorem d3_45 : decode prog_18_method_2_code 45 = .ok (.invokestatic 28, 3) := by decide +kernel
theorem d3_48 : decode prog_18_method_2_code 48 = .ok (.l2i, 1) := by decide +kernel
theorem d3_49 : decode prog_18_method_2_code 49 = .ok (.invokestatic 31, 3) := by decide +kernel
theorem d3_52 : decode prog_18_method_2_code 52 = .ok (.putfield 7, 3) := by decide +kernel
theorem d3_55 : decode prog_18_method_2_code 55 = .ok (.aload_n 0, 1) := by decide +kernel
theorem d3_56 : decode prog_18_method_2_code 56 = .ok (.getfield 7, 3) := by decide +kernel
theorem d3_59 : decode prog_18_method_2_code 59 = .ok (.areturn, 1) := by decide +kernel
theorem own_pl3 : plainFor (⟨"com/example/shardline/shardline/http/BodyBytes", "room", "(I)[B"⟩ : MethodName) = true := plainFor_of_name (by first | (simp [plainName, overriddenIn]; done) | decide +kernel)
theorem own_pd5 : parseMethodDescriptor "(I)[B" = some ⟨[.int], some (.array .byte)⟩ := by decide +kernel
set_option maxHeartbeats 4000000 in
theorem rmRm (l : Launch) (Z : State) (a0 : Array Value) (hw : ∀ (i : Nat) (d : Jvm.Cond), tables_1[i]? = some d → d.before a0 Z = true) (h0 : Heap) (n0 : Nat) (a : Addr) (e : Int32) (t0 : Addr) (kA : ClassId) (i : Int32) (q2 : Int32) (hZ0 : n0 ≤ h0.size) (hE : Exa Z h0 a "com/example/shardline/shardline/http/BodyBytes") (hF1 : Fld Z h0 a "com/example/shardline/shardline/http/BodyBytes" "length" "I" (.int (0 : Int32))) (hF2 : Fld Z h0 a "com/example/shardline/shardline/http/BodyBytes" "bytes" "[B" (.ref t0)) (hF3 : Fld Z h0 a "com/example/shardline/shardline/http/BodyBytes" "most" "I" (.int q2)) (hV : Arv Z h0 t0 kA .byte i [] (.int 0)) (hE0 : Exa Z h0 t0 "[B") (hne : a ≠ t0) (hA0 : n0 ≤ t0) (hb : own_Hb q2 e i) (hA_a : n0 ≤ a) :
    own_C l Z (⟨"com/example/shardline/shardline/http/BodyBytes", "room", "(I)[B"⟩ : MethodName) prog_18_method_2_code 2 (some (.array .byte)) ({ frames := 2, cells := 1, slots := 6, locals := 60 } : Room) #[(.ref a), (.int e)] h0 n0 (fun v h' => ∃ (t : Addr) (kB : ClassId) (n : Int32), v = some (.ref t) ∧ Keep h0 h' [a] ∧ n0 ≤ t ∧ a ≠ t ∧ (0 ≤ n.toInt ∧ n.toInt ≤ 6) ∧ Arv Z h' t kB .byte n [] (.int 0) ∧ Exa Z h' t "[B" ∧ Fld Z h' a "com/example/shardline/shardline/http/BodyBytes" "bytes" "[B" (.ref t) ∧ Fld Z h' a "com/example/shardline/shardline/http/BodyBytes" "length" "I" (.int (0 : Int32)) ∧ (∀ z, z ≠ a → z < h0.size → z ≠ t ∨ z = t0)) := by
  refine own_met (Ls := #[.val (.ref a), .val (.int e)]) hw own_pl3 (fun m => by first | (simp [entryFrame, mkF, argsToLocals, Value.category]; done) | rfl) ?_
  intro B H
  have hK : Keep h0 h0 [a] := Keep.refl _ _
  refine own_aload_n H rfl rfl d3_0 ?_
  refine own_getfield H (w := 19) rfl hF1 d3_1 ?_
  refine own_iload_n H rfl d3_4 ?_
  refine own_iadd H rfl d3_5 ?_
  refine own_aload_n H rfl rfl d3_6 ?_
  refine own_getfield H (w := 10) rfl hF2 d3_7 ?_
  refine own_arraylengthV H hV d3_10 ?_
  by_cases c1 : i < ((0 : Int32) + e)
  ·
    refine own_icmple_f H d3_11 c1 ?_
    refine own_aload_n H rfl rfl d3_14 ?_
    refine own_aload_n H rfl rfl d3_15 ?_
    refine own_getfield H (w := 10) rfl hF2 d3_16 ?_
    refine own_aload_n H rfl rfl d3_19 ?_
    refine own_getfield H (w := 12) rfl hF3 d3_20 ?_
    refine own_i2l H rfl d3_23 ?_
    refine own_aload_n H rfl rfl d3_24 ?_
    refine own_getfield H (w := 19) rfl hF1 d3_25 ?_
    refine own_i2l (v := (0 : Int64)) H (by decide) d3_28 ?_
    refine own_iload_n H rfl d3_29 ?_
    refine own_i2l H rfl d3_30 ?_
    refine own_ladd H rfl d3_31 ?_
    refine own_ldc2J H (w := 21) rfl d3_32 ?_
    refine own_aload_n H rfl rfl d3_35 ?_
    refine own_getfield H (w := 10) rfl hF2 d3_36 ?_
    refine own_arraylengthV H hV d3_39 ?_
    refine own_i2l H rfl d3_40 ?_
    refine own_lmul H rfl d3_41 ?_
    refine own_invokestatic H (argsL := [(.long ((0 : Int64) + (e.toInt64))), (.long ((2 : Int64) * (i.toInt64)))]) (rest := [(.long (q2.toInt64)), (.ref t0), (.ref a)]) (rmMax l Z a0 (own_hw H) h0 n0 ((0 : Int64) + (e.toInt64)) ((2 : Int64) * (i.toInt64))) (w1 := 22) (w2 := 23) (w3 := 24) (w4 := 25) rfl rfl rfl rfl own_pd1 rfl 4 (by decide) rfl (by decide) (Nat.le_of_eq rfl) (by decide) (by decide) (by decide) rfl d3_42 ?_
    rintro _ _ ⟨rfl, rfl⟩
    show own_G _ _ _ _ _ _ _ _ 45 #[.val (.ref a), .val (.int e)] [(.long (FMax ((0 : Int64) + (e.toInt64)) ((2 : Int64) * (i.toInt64)))), (.long (q2.toInt64)), (.ref t0), (.ref a)]
    refine own_invokestatic H (argsL := [(.long (q2.toInt64)), (.long (FMax ((0 : Int64) + (e.toInt64)) ((2 : Int64) * (i.toInt64))))]) (rest := [(.ref t0), (.ref a)]) (rmMin l Z a0 (own_hw H) h0 n0 (q2.toInt64) (FMax ((0 : Int64) + (e.toInt64)) ((2 : Int64) * (i.toInt64)))) (w1 := 26) (w2 := 27) (w3 := 24) (w4 := 28) rfl rfl rfl rfl own_pd1 rfl 2 (by decide) rfl (by decide) (Nat.le_of_eq rfl) (by decide) (by decide) (by decide) rfl d3_45 ?_
    rintro _ _ ⟨rfl, rfl⟩
    show own_G _ _ _ _ _ _ _ _ 48 #[.val (.ref a), .val (.int e)] [(.long (FMin (q2.toInt64) (FMax ((0 : Int64) + (e.toInt64)) ((2 : Int64) * (i.toInt64))))), (.ref t0), (.ref a)]
    refine own_l2i H rfl d3_48 ?_
    show own_G _ _ _ _ _ _ _ _ 49 #[.val (.ref a), .val (.int e)] [(.int (FNl q2 e i)), (.ref t0), (.ref a)]
    refine own_invokestatic H (argsL := [(.ref t0), (.int (FNl q2 e i))]) (rest := [(.ref a)]) (rmCZ l Z a0 (own_hw H) h0 n0 t0 (FNl q2 e i) kA i hZ0 hV hE0 (own_nl1 q2 e i hb) (own_nl2 q2 e i hb)) (w1 := 29) (w2 := 30) (w3 := 31) (w4 := 32) rfl rfl rfl rfl own_pd4 rfl 1 (by decide) rfl (by decide) (Nat.le_of_eq rfl) (by decide) (by decide) (by decide) rfl d3_49 ?_
    rintro _ h2 ⟨a4, kB5, rfl, K3, f6, f7, f8, V9, X10⟩
    have f11 : a ≠ a4 := Nat.ne_of_lt (Nat.lt_of_lt_of_le hE.lt f7)
    have f12 : t0 ≠ a4 := Nat.ne_of_lt (Nat.lt_of_lt_of_le hE0.lt f7)
    have f13 : h0.size ≤ a4 := Nat.le_trans hK.1 f7
    have f14 : Exa Z h2 a "com/example/shardline/shardline/http/BodyBytes" := hE.keep K3
    have f15 : Fld Z h2 a "com/example/shardline/shardline/http/BodyBytes" "length" "I" (.int (0 : Int32)) := hF1.keep K3 nin0
    have f16 : Fld Z h2 a "com/example/shardline/shardline/http/BodyBytes" "bytes" "[B" (.ref t0) := hF2.keep K3 nin0
    have f17 : Fld Z h2 a "com/example/shardline/shardline/http/BodyBytes" "most" "I" (.int q2) := hF3.keep K3 nin0
    have f18 : Arv Z h2 t0 kA .byte i [] (.int 0) := hV.keep K3 nin0
    have f19 : Exa Z h2 t0 "[B" := hE0.keep K3
    have f20 : n0 ≤ h2.size := Nat.le_trans hZ0 K3.1
    have f21 : Keep h0 h2 [a] := hK.trans K3 all0
    show own_G _ _ _ _ _ _ _ _ 52 #[.val (.ref a), .val (.int e)] [(.ref a4), (.ref a)]
    refine own_putfield H (w := 10) (wi := 1) rfl f16 f14 hA_a (Or.inl (own_w H (i := 11) rfl)) rfl (ty := (.array .byte)) (by decide) rfl rfl d3_52 ?_
    intro h22 W23
    have f24 : Exa Z h22 a "com/example/shardline/shardline/http/BodyBytes" := f14.wr W23
    have f25 : Fld Z h22 a "com/example/shardline/shardline/http/BodyBytes" "length" "I" (.int (0 : Int32)) := f15.other W23 (Or.inr (slot_ne (Or.inl (own_w H (i := 20) rfl)) (Or.inl (own_w H (i := 11) rfl)) (by decide) (t := .int) (t' := (.array .byte)) (by decide) (by decide)))
    have f26 : Fld Z h22 a "com/example/shardline/shardline/http/BodyBytes" "bytes" "[B" (.ref a4) := f16.same W23
    have f27 : Fld Z h22 a "com/example/shardline/shardline/http/BodyBytes" "most" "I" (.int q2) := f17.other W23 (Or.inr (slot_ne (Or.inr (own_w H (i := 13) rfl)) (Or.inl (own_w H (i := 11) rfl)) (by decide) (t := .int) (t' := (.array .byte)) (by decide) (by decide)))
    have f28 : Arv Z h22 t0 kA .byte i [] (.int 0) := f18.other W23 hne.symm
    have f29 : Exa Z h22 t0 "[B" := f19.wr W23
    have f30 : n0 ≤ h22.size := by rw [W23.size]; exact f20
    have f31 : Keep h0 h22 [a] := f21.wr W23 (Or.inl (by simp))
    have f32 : Arv Z h22 a4 kB5 .byte (FNl q2 e i) [] (.int 0) := V9.other W23 f11.symm
    have f33 : Exa Z h22 a4 "[B" := X10.wr W23
    refine own_aload_n H rfl rfl d3_55 ?_
    refine own_getfield H (w := 10) rfl f26 d3_56 ?_
    exact own_areturn H rfl rfl rfl d3_59 (by decide) (by decide) ⟨a4, kB5, (FNl q2 e i), rfl, f31, f6, f11, (own_nl q2 e i hb), f32, f33, f26, f25, (fun z _ hz => Or.inl (Nat.ne_of_lt (Nat.lt_of_lt_of_le hz f13)))⟩
  ·
    refine own_icmple_t H (pc' := 55) d3_11 (by decide) (by decide) c1 ?_
    refine own_aload_n H rfl rfl d3_55 ?_
    refine own_getfield H (w := 10) rfl hF2 d3_56 ?_
    exact own_areturn H rfl rfl rfl d3_59 (by decide) (by decide) ⟨t0, kA, i, rfl, hK, hA0, hne, (by have := hb; unfold own_Hb at this; omega), hV, hE0, hF2, hF1, (fun z _ _ => (Decidable.em (z = t0)).symm)⟩
theorem own_kn {k n : Int32} (h0 : 0 ≤ k.toInt) (h : k.toInt < n.toInt) : (0 : Int32).toNatClampNeg + k.toNatClampNeg ≤ n.toNatClampNeg := by
  have e1 : k.toNatClampNeg = k.toInt.toNat := rfl
  have e2 : n.toNatClampNeg = n.toInt.toNat := rfl
  have e3 : (0 : Int32).toNatClampNeg = 0 := rfl
  omega
theorem own_jn (j k n : Int32) (hk : k.toInt ≤ n.toInt) (h : j.toInt < k.toInt) : j < n := by
  rw [Int32.lt_iff_toInt_lt]
  omega
theorem d8_0 : decode method_3_code 0 = .ok (.iload_n 1, 1) := by decide +kernel
theorem d8_1 : decode method_3_code 1 = .ok (.ifCond .le 11, 3) := by decide +kernel
theorem d8_4 : decode method_3_code 4 = .ok (.aload_n 0, 1) := by decide +kernel
theorem d8_5 : decode method_3_code 5 = .ok (.iconst 0, 1) := by decide +kernel
theorem d8_6 : decode method_3_code 6 = .ok (.lload_n 2, 1) := by decide +kernel
theorem d8_7 : decode method_3_code 7 = .ok (.iconst 0, 1) := by decide +kernel
theorem d8_8 : decode method_3_code 8 = .ok (.invokestatic 7, 3) := by decide +kernel
theorem d8_11 : decode method_3_code 11 = .ok (.bastore, 1) := by decide +kernel
theorem d8_12 : decode method_3_code 12 = .ok (.iload_n 1, 1) := by decide +kernel
theorem d8_13 : decode method_3_code 13 = .ok (.iconst 1, 1) := by decide +kernel
theorem d8_14 : decode method_3_code 14 = .ok (.if_icmp .le 11, 3) := by decide +kernel
theorem d8_17 : decode method_3_code 17 = .ok (.aload_n 0, 1) := by decide +kernel
theorem d8_18 : decode method_3_code 18 = .ok (.iconst 1, 1) := by decide +kernel
theorem d8_19 : decode method_3_code 19 = .ok (.lload_n 2, 1) := by decide +kernel
theorem d8_20 : decode method_3_code 20 = .ok (.iconst 1, 1) := by decide +kernel
theorem d8_21 : decode method_3_code 21 = .ok (.invokestatic 7, 3) := by decide +kernel
theorem d8_24 : decode method_3_code 24 = .ok (.bastore, 1) := by decide +kernel
theorem d8_25 : decode method_3_code 25 = .ok (.iload_n 1, 1) := by decide +kernel
theorem d8_26 : decode method_3_code 26 = .ok (.iconst 2, 1) := by decide +kernel
theorem d8_27 : decode method_3_code 27 = .ok (.if_icmp .le 11, 3) := by decide +kernel
theorem d8_30 : decode method_3_code 30 = .ok (.aload_n 0, 1) := by decide +kernel
theorem d8_31 : decode method_3_code 31 = .ok (.iconst 2, 1) := by decide +kernel
theorem d8_32 : decode method_3_code 32 = .ok (.lload_n 2, 1) := by decide +kernel
theorem d8_33 : decode method_3_code 33 = .ok (.iconst 2, 1) := by decide +kernel
theorem d8_34 : decode method_3_code 34 = .ok (.invokestatic 7, 3) := by decide +kernel
theorem d8_37 : decode method_3_code 37 = .ok (.bastore, 1) := by decide +kernel
theorem d8_38 : decode method_3_code 38 = .ok (.iload_n 1, 1) := by decide +kernel
theorem d8_39 : decode method_3_code 39 = .ok (.iconst 3, 1) := by decide +kernel
theorem d8_40 : decode method_3_code 40 = .ok (.if_icmp .le 11, 3) := by decide +kernel
theorem d8_43 : decode method_3_code 43 = .ok (.aload_n 0, 1) := by decide +kernel
theorem d8_44 : decode method_3_code 44 = .ok (.iconst 3, 1) := by decide +kernel
theorem d8_45 : decode method_3_code 45 = .ok (.lload_n 2, 1) := by decide +kernel
theorem d8_46 : decode method_3_code 46 = .ok (.iconst 3, 1) := by decide +kernel
theorem d8_47 : decode method_3_code 47 = .ok (.invokestatic 7, 3) := by decide +kernel
theorem d8_50 : decode method_3_code 50 = .ok (.bastore, 1) := by decide +kernel
theorem d8_51 : decode method_3_code 51 = .ok (.iload_n 1, 1) := by decide +kernel
theorem d8_52 : decode method_3_code 52 = .ok (.iconst 4, 1) := by decide +kernel
theorem d8_53 : decode method_3_code 53 = .ok (.if_icmp .le 11, 3) := by decide +kernel
theorem d8_56 : decode method_3_code 56 = .ok (.aload_n 0, 1) := by decide +kernel
theorem d8_57 : decode method_3_code 57 = .ok (.iconst 4, 1) := by decide +kernel
theorem d8_58 : decode method_3_code 58 = .ok (.lload_n 2, 1) := by decide +kernel
theorem d8_59 : decode method_3_code 59 = .ok (.iconst 4, 1) := by decide +kernel
theorem d8_60 : decode method_3_code 60 = .ok (.invokestatic 7, 3) := by decide +kernel
theorem d8_63 : decode method_3_code 63 = .ok (.bastore, 1) := by decide +kernel
theorem d8_64 : decode method_3_code 64 = .ok (.iload_n 1, 1) := by decide +kernel
theorem d8_65 : decode method_3_code 65 = .ok (.iconst 5, 1) := by decide +kernel
theorem d8_66 : decode method_3_code 66 = .ok (.if_icmp .le 11, 3) := by decide +kernel
theorem d8_69 : decode method_3_code 69 = .ok (.aload_n 0, 1) := by decide +kernel
theorem d8_70 : decode method_3_code 70 = .ok (.iconst 5, 1) := by decide +kernel
theorem d8_71 : decode method_3_code 71 = .ok (.lload_n 2, 1) := by decide +kernel
theorem d8_72 : decode method_3_code 72 = .ok (.iconst 5, 1) := by decide +kernel
theorem d8_73 : decode method_3_code 73 = .ok (.invokestatic 7, 3) := by decide +kernel
theorem d8_76 : decode method_3_code 76 = .ok (.bastore, 1) := by decide +kernel
theorem d8_77 : decode method_3_code 77 = .ok (.iload_n 1, 1) := by decide +kernel
theorem d8_78 : decode method_3_code 78 = .ok (.bipush 6, 2) := by decide +kernel
theorem d8_80 : decode method_3_code 80 = .ok (.if_icmp .le 13, 3) := by decide +kernel
theorem d8_83 : decode method_3_code 83 = .ok (.aload_n 0, 1) := by decide +kernel
theorem d8_84 : decode method_3_code 84 = .ok (.bipush 6, 2) := by decide +kernel
theorem d8_86 : decode method_3_code 86 = .ok (.lload_n 2, 1) := by decide +kernel
theorem d8_87 : decode method_3_code 87 = .ok (.bipush 6, 2) := by decide +kernel
theorem d8_89 : decode method_3_code 89 = .ok (.invokestatic 7, 3) := by decide +kernel
theorem d8_92 : decode method_3_code 92 = .ok (.bastore, 1) := by decide +kernel
theorem d8_93 : decode method_3_code 93 = .ok (.iload_n 1, 1) := by decide +kernel
theorem d8_94 : decode method_3_code 94 = .ok (.bipush 7, 2) := by decide +kernel
theorem d8_96 : decode method_3_code 96 = .ok (.if_icmp .le 13, 3) := by decide +kernel
theorem d8_99 : decode method_3_code 99 = .ok (.aload_n 0, 1) := by decide +kernel
theorem d8_100 : decode method_3_code 100 = .ok (.bipush 7, 2) := by decide +kernel
theorem d8_102 : decode method_3_code 102 = .ok (.lload_n 2, 1) := by decide +kernel
theorem d8_103 : decode method_3_code 103 = .ok (.bipush 7, 2) := by decide +kernel
theorem d8_105 : decode method_3_code 105 = .ok (.invokestatic 7, 3) := by decide +kernel
theorem d8_108 : decode method_3_code 108 = .ok (.bastore, 1) := by decide +kernel
theorem d8_109 : decode method_3_code 109 = .ok (.return_, 1) := by decide +kernel
theorem own_pl8 : plainFor (⟨"com/example/shardline/shardline/http/BodyBytesToArrayPinLaw", "put", "([BIJ)V"⟩ : MethodName) = true := plainFor_of_name (by first | (simp [plainName, overriddenIn]; done) | decide +kernel)
theorem own_pd6 : parseMethodDescriptor "([BIJ)V" = some ⟨[(.array .byte), .int, .long], none⟩ := by decide +kernel
set_option maxHeartbeats 4000000 in
theorem rmPut0 (l : Launch) (Z : State) (a0 : Array Value) (hw : ∀ (i : Nat) (d : Jvm.Cond), tables_1[i]? = some d → d.before a0 Z = true) (h0 : Heap) (n0 : Nat) (t : Addr) (p : Int64) (kA : ClassId) (n : Int32) (hZ0 : n0 ≤ h0.size) (hV : Arv Z h0 t kA .byte n [] (.int 0)) (hE : Exa Z h0 t "[B") (hkn : (0 : Int32).toInt ≤ n.toInt) (hA_t : n0 ≤ t) :
    own_C l Z (⟨"com/example/shardline/shardline/http/BodyBytesToArrayPinLaw", "put", "([BIJ)V"⟩ : MethodName) method_3_code 4 none ({ frames := 1, cells := 0, slots := 0, locals := 20 } : Room) #[(.ref t), (.int (0 : Int32)), (.long p)] h0 n0 (fun v h' => v = none ∧ Keep h0 h' [t] ∧ Arv Z h' t kA .byte n [] (.int 0)) := by
  refine own_met (Ls := #[.val (.ref t), .val (.int (0 : Int32)), .val (.long p), .second]) hw own_pl8 (fun m => by first | (simp [entryFrame, mkF, argsToLocals, Value.category]; done) | rfl) ?_
  intro B H
  have hK : Keep h0 h0 [t] := Keep.refl _ _
  have f1 : Arv Z h0 t kA .byte n [] (.int 0) := hV.pad (pad_rep [] (.int 0) 0)
  refine own_iload_n H rfl d8_0 ?_
  refine own_ifle_t H (pc' := 12) d8_1 (by decide) (by decide) (by decide) ?_
  refine own_iload_n H rfl d8_12 ?_
  refine own_iconst H (1 : Int32) (by decide) d8_13 ?_
  refine own_icmple_t H (pc' := 25) d8_14 (by decide) (by decide) (by decide) ?_
  refine own_iload_n H rfl d8_25 ?_
  refine own_iconst H (2 : Int32) (by decide) d8_26 ?_
  refine own_icmple_t H (pc' := 38) d8_27 (by decide) (by decide) (by decide) ?_
  refine own_iload_n H rfl d8_38 ?_
  refine own_iconst H (3 : Int32) (by decide) d8_39 ?_
  refine own_icmple_t H (pc' := 51) d8_40 (by decide) (by decide) (by decide) ?_
  refine own_iload_n H rfl d8_51 ?_
  refine own_iconst H (4 : Int32) (by decide) d8_52 ?_
  refine own_icmple_t H (pc' := 64) d8_53 (by decide) (by decide) (by decide) ?_
  refine own_iload_n H rfl d8_64 ?_
  refine own_iconst H (5 : Int32) (by decide) d8_65 ?_
  refine own_icmple_t H (pc' := 77) d8_66 (by decide) (by decide) (by decide) ?_
  refine own_iload_n H rfl d8_77 ?_
  refine own_bipush H (6 : Int32) (by decide) d8_78 ?_
  refine own_icmple_t H (pc' := 93) d8_80 (by decide) (by decide) (by decide) ?_
  refine own_iload_n H rfl d8_93 ?_
  refine own_bipush H (7 : Int32) (by decide) d8_94 ?_
  refine own_icmple_t H (pc' := 109) d8_96 (by decide) (by decide) (by decide) ?_
  exact own_return H d8_109 (by decide) (by decide) ⟨rfl, hK, f1⟩
theorem d12_0 : decode method_4_code 0 = .ok (.aload_n 0, 1) := by decide +kernel
theorem d12_1 : decode method_4_code 1 = .ok (.arraylength, 1) := by decide +kernel
theorem d12_2 : decode method_4_code 2 = .ok (.iload_n 1, 1) := by decide +kernel
theorem d12_3 : decode method_4_code 3 = .ok (.if_icmp .eq 5, 3) := by decide +kernel
theorem d12_6 : decode method_4_code 6 = .ok (.iconst 0, 1) := by decide +kernel
theorem d12_7 : decode method_4_code 7 = .ok (.ireturn, 1) := by decide +kernel
theorem d12_8 : decode method_4_code 8 = .ok (.iload_n 1, 1) := by decide +kernel
theorem d12_9 : decode method_4_code 9 = .ok (.ifCond .le 16, 3) := by decide +kernel
theorem d12_12 : decode method_4_code 12 = .ok (.aload_n 0, 1) := by decide +kernel
theorem d12_13 : decode method_4_code 13 = .ok (.iconst 0, 1) := by decide +kernel
theorem d12_14 : decode method_4_code 14 = .ok (.baload, 1) := by decide +kernel
theorem d12_15 : decode method_4_code 15 = .ok (.lload_n 2, 1) := by decide +kernel
theorem d12_16 : decode method_4_code 16 = .ok (.iconst 0, 1) := by decide +kernel
theorem d12_17 : decode method_4_code 17 = .ok (.invokestatic 7, 3) := by decide +kernel
theorem d12_20 : decode method_4_code 20 = .ok (.if_icmp .eq 5, 3) := by decide +kernel
theorem d12_23 : decode method_4_code 23 = .ok (.iconst 0, 1) := by decide +kernel
theorem d12_24 : decode method_4_code 24 = .ok (.ireturn, 1) := by decide +kernel
theorem d12_25 : decode method_4_code 25 = .ok (.iload_n 1, 1) := by decide +kernel
theorem d12_26 : decode method_4_code 26 = .ok (.iconst 1, 1) := by decide +kernel
theorem d12_27 : decode method_4_code 27 = .ok (.if_icmp .le 16, 3) := by decide +kernel
theorem d12_30 : decode method_4_code 30 = .ok (.aload_n 0, 1) := by decide +kernel
theorem d12_31 : decode method_4_code 31 = .ok (.iconst 1, 1) := by decide +kernel
theorem d12_32 : decode method_4_code 32 = .ok (.baload, 1) := by decide +kernel
theorem d12_33 : decode method_4_code 33 = .ok (.lload_n 2, 1) := by decide +kernel
theorem d12_34 : decode method_4_code 34 = .ok (.iconst 1, 1) := by decide +kernel
theorem d12_35 : decode method_4_code 35 = .ok (.invokestatic 7, 3) := by decide +kernel
theorem d12_38 : decode method_4_code 38 = .ok (.if_icmp .eq 5, 3) := by decide +kernel
theorem d12_41 : decode method_4_code 41 = .ok (.iconst 0, 1) := by decide +kernel
theorem d12_42 : decode method_4_code 42 = .ok (.ireturn, 1) := by decide +kernel
theorem d12_43 : decode method_4_code 43 = .ok (.iload_n 1, 1) := by decide +kernel
theorem d12_44 : decode method_4_code 44 = .ok (.iconst 2, 1) := by decide +kernel
theorem d12_45 : decode method_4_code 45 = .ok (.if_icmp .le 16, 3) := by decide +kernel
theorem d12_48 : decode method_4_code 48 = .ok (.aload_n 0, 1) := by decide +kernel
theorem d12_49 : decode method_4_code 49 = .ok (.iconst 2, 1) := by decide +kernel
theorem d12_50 : decode method_4_code 50 = .ok (.baload, 1) := by decide +kernel
theorem d12_51 : decode method_4_code 51 = .ok (.lload_n 2, 1) := by decide +kernel
theorem d12_52 : decode method_4_code 52 = .ok (.iconst 2, 1) := by decide +kernel
theorem d12_53 : decode method_4_code 53 = .ok (.invokestatic 7, 3) := by decide +kernel
theorem d12_56 : decode method_4_code 56 = .ok (.if_icmp .eq 5, 3) := by decide +kernel
theorem d12_59 : decode method_4_code 59 = .ok (.iconst 0, 1) := by decide +kernel
theorem d12_60 : decode method_4_code 60 = .ok (.ireturn, 1) := by decide +kernel
theorem d12_61 : decode method_4_code 61 = .ok (.iload_n 1, 1) := by decide +kernel
theorem d12_62 : decode method_4_code 62 = .ok (.iconst 3, 1) := by decide +kernel
theorem d12_63 : decode method_4_code 63 = .ok (.if_icmp .le 16, 3) := by decide +kernel
theorem d12_66 : decode method_4_code 66 = .ok (.aload_n 0, 1) := by decide +kernel
theorem d12_67 : decode method_4_code 67 = .ok (.iconst 3, 1) := by decide +kernel
theorem d12_68 : decode method_4_code 68 = .ok (.baload, 1) := by decide +kernel
theorem d12_69 : decode method_4_code 69 = .ok (.lload_n 2, 1) := by decide +kernel
theorem d12_70 : decode method_4_code 70 = .ok (.iconst 3, 1) := by decide +kernel
theorem d12_71 : decode method_4_code 71 = .ok (.invokestatic 7, 3) := by decide +kernel
theorem d12_74 : decode method_4_code 74 = .ok (.if_icmp .eq 5, 3) := by decide +kernel
theorem d12_77 : decode method_4_code 77 = .ok (.iconst 0, 1) := by decide +kernel
theorem d12_78 : decode method_4_code 78 = .ok (.ireturn, 1) := by decide +kernel
theorem d12_79 : decode method_4_code 79 = .ok (.iload_n 1, 1) := by decide +kernel
theorem d12_80 : decode method_4_code 80 = .ok (.iconst 4, 1) := by decide +kernel
theorem d12_81 : decode method_4_code 81 = .ok (.if_icmp .le 16, 3) := by decide +kernel
theorem d12_84 : decode method_4_code 84 = .ok (.aload_n 0, 1) := by decide +kernel
theorem d12_85 : decode method_4_code 85 = .ok (.iconst 4, 1) := by decide +kernel
theorem d12_86 : decode method_4_code 86 = .ok (.baload, 1) := by decide +kernel
theorem d12_87 : decode method_4_code 87 = .ok (.lload_n 2, 1) := by decide +kernel
theorem d12_88 : decode method_4_code 88 = .ok (.iconst 4, 1) := by decide +kernel
theorem d12_89 : decode method_4_code 89 = .ok (.invokestatic 7, 3) := by decide +kernel
theorem d12_92 : decode method_4_code 92 = .ok (.if_icmp .eq 5, 3) := by decide +kernel
theorem d12_95 : decode method_4_code 95 = .ok (.iconst 0, 1) := by decide +kernel
theorem d12_96 : decode method_4_code 96 = .ok (.ireturn, 1) := by decide +kernel
theorem d12_97 : decode method_4_code 97 = .ok (.iload_n 1, 1) := by decide +kernel
theorem d12_98 : decode method_4_code 98 = .ok (.iconst 5, 1) := by decide +kernel
theorem d12_99 : decode method_4_code 99 = .ok (.if_icmp .le 16, 3) := by decide +kernel
theorem d12_102 : decode method_4_code 102 = .ok (.aload_n 0, 1) := by decide +kernel
theorem d12_103 : decode method_4_code 103 = .ok (.iconst 5, 1) := by decide +kernel
theorem d12_104 : decode method_4_code 104 = .ok (.baload, 1) := by decide +kernel
theorem d12_105 : decode method_4_code 105 = .ok (.lload_n 2, 1) := by decide +kernel
theorem d12_106 : decode method_4_code 106 = .ok (.iconst 5, 1) := by decide +kernel
theorem d12_107 : decode method_4_code 107 = .ok (.invokestatic 7, 3) := by decide +kernel
theorem d12_110 : decode method_4_code 110 = .ok (.if_icmp .eq 5, 3) := by decide +kernel
theorem d12_113 : decode method_4_code 113 = .ok (.iconst 0, 1) := by decide +kernel
theorem d12_114 : decode method_4_code 114 = .ok (.ireturn, 1) := by decide +kernel
theorem d12_115 : decode method_4_code 115 = .ok (.iload_n 1, 1) := by decide +kernel
theorem d12_116 : decode method_4_code 116 = .ok (.bipush 6, 2) := by decide +kernel
theorem d12_118 : decode method_4_code 118 = .ok (.if_icmp .le 18, 3) := by decide +kernel
theorem d12_121 : decode method_4_code 121 = .ok (.aload_n 0, 1) := by decide +kernel
theorem d12_122 : decode method_4_code 122 = .ok (.bipush 6, 2) := by decide +kernel
theorem d12_124 : decode method_4_code 124 = .ok (.baload, 1) := by decide +kernel
theorem d12_125 : decode method_4_code 125 = .ok (.lload_n 2, 1) := by decide +kernel
theorem d12_126 : decode method_4_code 126 = .ok (.bipush 6, 2) := by decide +kernel
theorem d12_128 : decode method_4_code 128 = .ok (.invokestatic 7, 3) := by decide +kernel
theorem d12_131 : decode method_4_code 131 = .ok (.if_icmp .eq 5, 3) := by decide +kernel
theorem d12_134 : decode method_4_code 134 = .ok (.iconst 0, 1) := by decide +kernel
theorem d12_135 : decode method_4_code 135 = .ok (.ireturn, 1) := by decide +kernel
theorem d12_136 : decode method_4_code 136 = .ok (.iload_n 1, 1) := by decide +kernel
theorem d12_137 : decode method_4_code 137 = .ok (.bipush 7, 2) := by decide +kernel
theorem d12_139 : decode method_4_code 139 = .ok (.if_icmp .le 18, 3) := by decide +kernel
theorem d12_142 : decode method_4_code 142 = .ok (.aload_n 0, 1) := by decide +kernel
theorem d12_143 : decode method_4_code 143 = .ok (.bipush 7, 2) := by decide +kernel
theorem d12_145 : decode method_4_code 145 = .ok (.baload, 1) := by decide +kernel
theorem d12_146 : decode method_4_code 146 = .ok (.lload_n 2, 1) := by decide +kernel
theorem d12_147 : decode method_4_code 147 = .ok (.bipush 7, 2) := by decide +kernel
theorem d12_149 : decode method_4_code 149 = .ok (.invokestatic 7, 3) := by decide +kernel
theorem d12_152 : decode method_4_code 152 = .ok (.if_icmp .eq 5, 3) := by decide +kernel
theorem d12_155 : decode method_4_code 155 = .ok (.iconst 0, 1) := by decide +kernel
theorem d12_156 : decode method_4_code 156 = .ok (.ireturn, 1) := by decide +kernel
theorem d12_157 : decode method_4_code 157 = .ok (.iconst 1, 1) := by decide +kernel
theorem d12_158 : decode method_4_code 158 = .ok (.ireturn, 1) := by decide +kernel
theorem own_pl12 : plainFor (⟨"com/example/shardline/shardline/http/BodyBytesToArrayPinLaw", "same", "([BIJ)Z"⟩ : MethodName) = true := plainFor_of_name (by first | (simp [plainName, overriddenIn]; done) | decide +kernel)
theorem own_pd7 : parseMethodDescriptor "([BIJ)Z" = some ⟨[(.array .byte), .int, .long], some .boolean⟩ := by decide +kernel
set_option maxHeartbeats 4000000 in
theorem rmSm0 (l : Launch) (Z : State) (a0 : Array Value) (hw : ∀ (i : Nat) (d : Jvm.Cond), tables_1[i]? = some d → d.before a0 Z = true) (h0 : Heap) (n0 : Nat) (t : Addr) (p : Int64) (kA : ClassId) (hV : Arv Z h0 t kA .byte (0 : Int32) [] (.int 0)) :
    own_C l Z (⟨"com/example/shardline/shardline/http/BodyBytesToArrayPinLaw", "same", "([BIJ)Z"⟩ : MethodName) method_4_code 4 (some .boolean) ({ frames := 1, cells := 0, slots := 0, locals := 20 } : Room) #[(.ref t), (.int (0 : Int32)), (.long p)] h0 n0 (fun v h' => v = some (.int (1 : Int32)) ∧ h0 = h') := by
  refine own_met (Ls := #[.val (.ref t), .val (.int (0 : Int32)), .val (.long p), .second]) hw own_pl12 (fun m => by first | (simp [entryFrame, mkF, argsToLocals, Value.category]; done) | rfl) ?_
  intro B H
  refine own_aload_n H rfl rfl d12_0 ?_
  refine own_arraylengthV H hV d12_1 ?_
  refine own_iload_n H rfl d12_2 ?_
  refine own_icmpeq_t H (pc' := 8) d12_3 (by decide) (by decide) (by decide) ?_
  refine own_iload_n H rfl d12_8 ?_
  refine own_ifle_t H (pc' := 25) d12_9 (by decide) (by decide) (by decide) ?_
  refine own_iload_n H rfl d12_25 ?_
  refine own_iconst H (1 : Int32) (by decide) d12_26 ?_
  refine own_icmple_t H (pc' := 43) d12_27 (by decide) (by decide) (by decide) ?_
  refine own_iload_n H rfl d12_43 ?_
  refine own_iconst H (2 : Int32) (by decide) d12_44 ?_
  refine own_icmple_t H (pc' := 61) d12_45 (by decide) (by decide) (by decide) ?_
  refine own_iload_n H rfl d12_61 ?_
  refine own_iconst H (3 : Int32) (by decide) d12_62 ?_
  refine own_icmple_t H (pc' := 79) d12_63 (by decide) (by decide) (by decide) ?_
  refine own_iload_n H rfl d12_79 ?_
  refine own_iconst H (4 : Int32) (by decide) d12_80 ?_
  refine own_icmple_t H (pc' := 97) d12_81 (by decide) (by decide) (by decide) ?_
  refine own_iload_n H rfl d12_97 ?_
  refine own_iconst H (5 : Int32) (by decide) d12_98 ?_
  refine own_icmple_t H (pc' := 115) d12_99 (by decide) (by decide) (by decide) ?_
  refine own_iload_n H rfl d12_115 ?_
  refine own_bipush H (6 : Int32) (by decide) d12_116 ?_
  refine own_icmple_t H (pc' := 136) d12_118 (by decide) (by decide) (by decide) ?_
  refine own_iload_n H rfl d12_136 ?_
  refine own_bipush H (7 : Int32) (by decide) d12_137 ?_
  refine own_icmple_t H (pc' := 157) d12_139 (by decide) (by decide) (by decide) ?_
  refine own_iconst H (1 : Int32) (by decide) d12_157 ?_
  exact own_ireturn H (by simp) (by decide) d12_158 (by decide) (by decide) ⟨rfl, rfl⟩
theorem own_mink (n k : Int32) (h : k.toInt < n.toInt) : FMinI n k = k := by
  rw [FMinI, if_pos (by rw [Int32.lt_iff_toInt_lt]; exact h)]
set_option maxHeartbeats 4000000 in
theorem rmCK0 (l : Launch) (Z : State) (a0 : Array Value) (hw : ∀ (i : Nat) (d : Jvm.Cond), tables_1[i]? = some d → d.before a0 Z = true) (h0 : Heap) (n0 : Nat) (t0 : Addr) (kA : ClassId) (n : Int32) (hZ0 : n0 ≤ h0.size) (hV : Arv Z h0 t0 kA .byte n [] (.int 0)) (hkn : (0 : Int32).toInt < n.toInt) :
    own_C l Z (⟨"java/util/Arrays", "copyOf", "([BI)[B"⟩ : MethodName) jdk_65_method_121_code 3 (some (.array .byte)) ({ frames := 1, cells := 1, slots := 0, locals := 31 } : Room) #[(.ref t0), (.int (0 : Int32))] h0 n0 (fun v h' => ∃ (a2 : Addr) (kA3 : ClassId), v = some (.ref a2) ∧ Keep h0 h' [] ∧ n0 ≤ a2 ∧ h0.size ≤ a2 ∧ a2 < h'.size ∧ Arv Z h' a2 kA3 .byte (0 : Int32) [] (.int 0)) := by
  refine own_met (Ls := #[.val (.ref t0), .val (.int (0 : Int32)), .unset]) hw own_pl6 (fun m => by first | (simp [entryFrame, mkF, argsToLocals, Value.category]; done) | rfl) ?_
  intro B H
  have hK : Keep h0 h0 [] := Keep.refl _ _
  refine own_iload_n H rfl d6_0 ?_
  refine own_aload_n H rfl rfl d6_1 ?_
  refine own_arraylengthV H hV d6_2 ?_
  refine own_icmpne_t H (pc' := 14) d6_3 (by decide) (by decide) (own_nek _ _ hkn) ?_
  refine own_iload_n H rfl d6_14 ?_
  refine own_newarrayE H (w := 9) (n := (0 : Int32)) rfl "[B" (by decide) (by decide) 0 (by decide) (by decide) d6_15 (by decide) (by decide) ?_
  intro h1 a2 kA3 ha4 E5 V6 X7
  have f8 : t0 ≠ a2 := Nat.ne_of_lt (by rw [ha4]; exact hV.lt)
  have f9 : n0 ≤ a2 := by rw [ha4]; exact hZ0
  have f10 : h0.size ≤ a2 := by rw [ha4]; exact hK.1
  have f11 : Arv Z h1 t0 kA .byte n [] (.int 0) := hV.ext E5
  have f12 : n0 ≤ h1.size := Nat.le_trans hZ0 E5.1
  have f13 : Keep h0 h1 [] := hK.ext E5
  have f14 : Arv Z h1 a2 kA3 .byte (0 : Int32) [] (.int 0) := V6.pad (pad_rep [] (.int 0) 0)
  show own_G _ _ _ _ _ _ _ _ 17 #[.val (.ref t0), .val (.int (0 : Int32)), .unset] [(.ref a2)]
  refine own_astore_n H rfl #[.val (.ref t0), .val (.int (0 : Int32)), .val (.ref a2)] rfl d6_17 ?_
  refine own_aload_n H rfl rfl d6_18 ?_
  refine own_iconst H (0 : Int32) (by decide) d6_19 ?_
  refine own_aload_n H rfl rfl d6_20 ?_
  refine own_iconst H (0 : Int32) (by decide) d6_21 ?_
  refine own_aload_n H rfl rfl d6_22 ?_
  refine own_arraylengthV H f11 d6_23 ?_
  refine own_iload_n H rfl d6_24 ?_
  refine own_invokestatic H (argsL := [(.int n), (.int (0 : Int32))]) (rest := [(.int (0 : Int32)), (.ref a2), (.int (0 : Int32)), (.ref t0)]) (rmMinI l Z a0 (own_hw H) h1 n0 n (0 : Int32)) (w1 := 33) (w2 := 34) (w3 := 24) (w4 := 35) rfl rfl rfl rfl own_pd2 rfl 4 (by decide) rfl (by decide) (Nat.le_of_eq rfl) (by decide) (by decide) (by decide) rfl d6_25 ?_
  rintro _ _ ⟨rfl, rfl⟩
  show own_G _ _ _ _ _ _ _ _ 28 #[.val (.ref t0), .val (.int (0 : Int32)), .val (.ref a2)] [(.int (FMinI n (0 : Int32))), (.int (0 : Int32)), (.ref a2), (.int (0 : Int32)), (.ref t0)]
  rw [own_mink n (0 : Int32) hkn]
  show own_G _ _ _ _ _ _ _ _ 28 #[.val (.ref t0), .val (.int (0 : Int32)), .val (.ref a2)] [(.int (0 : Int32)), (.int (0 : Int32)), (.ref a2), (.int (0 : Int32)), (.ref t0)]
  refine own_arraycopy H (w1 := 36) (w2 := 39) (w3 := 37) (w4 := 38) rfl rfl rfl rfl (us := []) f11 f14 rfl (by decide) (by decide) (by decide) (own_kn (by decide) hkn) (by decide) rfl (Nat.le_of_ble_eq_true rfl) f9 rfl (by decide) 0 (Nat.le_of_eq rfl) (by decide) d6_28 ?_
  intro h15 K16 V17
  have f18 : Arv Z h15 t0 kA .byte n [] (.int 0) := f11.keep K16 (ninS f8 nin0)
  have f19 : n0 ≤ h15.size := Nat.le_trans f12 K16.1
  have f20 : Keep h0 h15 [] := f13.trans K16 (allS (Or.inr f10) all0)
  have f21 : Exa Z h15 a2 "[B" := X7.keep K16
  have f22 : Arv Z h15 a2 kA3 .byte (0 : Int32) [] (.int 0) := V17
  show own_G _ _ _ _ _ _ _ _ 31 #[.val (.ref t0), .val (.int (0 : Int32)), .val (.ref a2)] []
  refine own_aload_n H rfl rfl d6_31 ?_
  exact own_areturn H rfl rfl rfl d6_32 (by decide) (by decide) ⟨a2, kA3, rfl, f20, f9, f10, f21.lt, f22⟩
theorem d11_0 : decode prog_18_method_5_code 0 = .ok (.aload_n 0, 1) := by decide +kernel
theorem d11_1 : decode prog_18_method_5_code 1 = .ok (.getfield 17, 3) := by decide +kernel
theorem d11_4 : decode prog_18_method_5_code 4 = .ok (.aload_n 0, 1) := by decide +kernel
theorem d11_5 : decode prog_18_method_5_code 5 = .ok (.getfield 7, 3) := by decide +kernel
theorem d11_8 : decode prog_18_method_5_code 8 = .ok (.arraylength, 1) := by decide +kernel
theorem d11_9 : decode prog_18_method_5_code 9 = .ok (.if_icmp .ne 10, 3) := by decide +kernel
theorem d11_12 : decode prog_18_method_5_code 12 = .ok (.aload_n 0, 1) := by decide +kernel
theorem d11_13 : decode prog_18_method_5_code 13 = .ok (.getfield 7, 3) := by decide +kernel
theorem d11_16 : decode prog_18_method_5_code 16 = .ok (.goto 14, 3) := by decide +kernel
theorem d11_19 : decode prog_18_method_5_code 19 = .ok (.aload_n 0, 1) := by decide +kernel
theorem d11_20 : decode prog_18_method_5_code 20 = .ok (.getfield 7, 3) := by decide +kernel
theorem d11_23 : decode prog_18_method_5_code 23 = .ok (.aload_n 0, 1) := by decide +kernel
theorem d11_24 : decode prog_18_method_5_code 24 = .ok (.getfield 17, 3) := by decide +kernel
theorem d11_27 : decode prog_18_method_5_code 27 = .ok (.invokestatic 31, 3) := by decide +kernel
theorem d11_30 : decode prog_18_method_5_code 30 = .ok (.areturn, 1) := by decide +kernel
theorem own_pl11 : plainFor (⟨"com/example/shardline/shardline/http/BodyBytes", "toArray", "()[B"⟩ : MethodName) = true := plainFor_of_name (by first | (simp [plainName, overriddenIn]; done) | decide +kernel)
theorem own_pd8 : parseMethodDescriptor "()[B" = some ⟨[], some (.array .byte)⟩ := by decide +kernel
set_option maxHeartbeats 4000000 in
theorem rmTn0 (l : Launch) (Z : State) (a0 : Array Value) (hw : ∀ (i : Nat) (d : Jvm.Cond), tables_1[i]? = some d → d.before a0 Z = true) (h0 : Heap) (n0 : Nat) (a : Addr) (t0 : Addr) (kA : ClassId) (n : Int32) (hZ0 : n0 ≤ h0.size) (hE : Exa Z h0 a "com/example/shardline/shardline/http/BodyBytes") (hF1 : Fld Z h0 a "com/example/shardline/shardline/http/BodyBytes" "length" "I" (.int (0 : Int32))) (hF2 : Fld Z h0 a "com/example/shardline/shardline/http/BodyBytes" "bytes" "[B" (.ref t0)) (hV : Arv Z h0 t0 kA .byte n [] (.int 0)) (hkn : (0 : Int32).toInt < n.toInt) :
    own_C l Z (⟨"com/example/shardline/shardline/http/BodyBytes", "toArray", "()[B"⟩ : MethodName) prog_18_method_5_code 1 (some (.array .byte)) ({ frames := 2, cells := 1, slots := 0, locals := 50 } : Room) #[(.ref a)] h0 n0 (fun v h' => ∃ (a3 : Addr) (kA4 : ClassId), v = some (.ref a3) ∧ Keep h0 h' [] ∧ n0 ≤ a3 ∧ h0.size ≤ a3 ∧ a3 < h'.size ∧ Arv Z h' a3 kA4 .byte (0 : Int32) [] (.int 0)) := by
  refine own_met (Ls := #[.val (.ref a)]) hw own_pl11 (fun m => by first | (simp [entryFrame, mkF, argsToLocals, Value.category]; done) | rfl) ?_
  intro B H
  have hK : Keep h0 h0 [] := Keep.refl _ _
  refine own_aload_n H rfl rfl d11_0 ?_
  refine own_getfield H (w := 19) rfl hF1 d11_1 ?_
  refine own_aload_n H rfl rfl d11_4 ?_
  refine own_getfield H (w := 10) rfl hF2 d11_5 ?_
  refine own_arraylengthV H hV d11_8 ?_
  refine own_icmpne_t H (pc' := 19) d11_9 (by decide) (by decide) (own_nek _ _ hkn) ?_
  refine own_aload_n H rfl rfl d11_19 ?_
  refine own_getfield H (w := 10) rfl hF2 d11_20 ?_
  refine own_aload_n H rfl rfl d11_23 ?_
  refine own_getfield H (w := 19) rfl hF1 d11_24 ?_
  refine own_invokestatic H (argsL := [(.ref t0), (.int (0 : Int32))]) (rest := []) (rmCK0 l Z a0 (own_hw H) h0 n0 t0 kA n hZ0 hV hkn) (w1 := 29) (w2 := 30) (w3 := 31) (w4 := 32) rfl rfl rfl rfl own_pd4 rfl 0 (by decide) rfl (by decide) (Nat.le_of_eq rfl) (by decide) (by decide) (by decide) rfl d11_27 ?_
  rintro _ h1 ⟨a3, kA4, rfl, K2, f5, f6, f7, f8⟩
  have f9 : a ≠ a3 := Nat.ne_of_lt (Nat.lt_of_lt_of_le hE.lt f6)
  have f10 : t0 ≠ a3 := Nat.ne_of_lt (Nat.lt_of_lt_of_le hV.lt f6)
  have f11 : h0.size ≤ a3 := Nat.le_trans hK.1 f6
  have f12 : Exa Z h1 a "com/example/shardline/shardline/http/BodyBytes" := hE.keep K2
  have f13 : Fld Z h1 a "com/example/shardline/shardline/http/BodyBytes" "length" "I" (.int (0 : Int32)) := hF1.keep K2 nin0
  have f14 : Fld Z h1 a "com/example/shardline/shardline/http/BodyBytes" "bytes" "[B" (.ref t0) := hF2.keep K2 nin0
  have f15 : Arv Z h1 t0 kA .byte n [] (.int 0) := hV.keep K2 nin0
  have f16 : n0 ≤ h1.size := Nat.le_trans hZ0 K2.1
  have f17 : Keep h0 h1 [] := hK.trans K2 all0
  show own_G _ _ _ _ _ _ _ _ 30 #[.val (.ref a)] [(.ref a3)]
  exact own_areturn H rfl rfl rfl d11_30 (by decide) (by decide) ⟨a3, kA4, rfl, f17, f5, f11, f8.lt, f8⟩
set_option maxHeartbeats 4000000 in
theorem rmTe0 (l : Launch) (Z : State) (a0 : Array Value) (hw : ∀ (i : Nat) (d : Jvm.Cond), tables_1[i]? = some d → d.before a0 Z = true) (h0 : Heap) (n0 : Nat) (a : Addr) (t0 : Addr) (kA : ClassId) (hE : Exa Z h0 a "com/example/shardline/shardline/http/BodyBytes") (hF1 : Fld Z h0 a "com/example/shardline/shardline/http/BodyBytes" "length" "I" (.int (0 : Int32))) (hF2 : Fld Z h0 a "com/example/shardline/shardline/http/BodyBytes" "bytes" "[B" (.ref t0)) (hV : Arv Z h0 t0 kA .byte (0 : Int32) [] (.int 0)) :
    own_C l Z (⟨"com/example/shardline/shardline/http/BodyBytes", "toArray", "()[B"⟩ : MethodName) prog_18_method_5_code 1 (some (.array .byte)) ({ frames := 0, cells := 0, slots := 0, locals := 0 } : Room) #[(.ref a)] h0 n0 (fun v h' => v = some (.ref t0) ∧ h0 = h') := by
  refine own_met (Ls := #[.val (.ref a)]) hw own_pl11 (fun m => by first | (simp [entryFrame, mkF, argsToLocals, Value.category]; done) | rfl) ?_
  intro B H
  refine own_aload_n H rfl rfl d11_0 ?_
  refine own_getfield H (w := 19) rfl hF1 d11_1 ?_
  refine own_aload_n H rfl rfl d11_4 ?_
  refine own_getfield H (w := 10) rfl hF2 d11_5 ?_
  refine own_arraylengthV H hV d11_8 ?_
  refine own_icmpne_f H d11_9 (by decide) ?_
  refine own_aload_n H rfl rfl d11_12 ?_
  refine own_getfield H (w := 10) rfl hF2 d11_13 ?_
  refine own_goto H (pc' := 30) d11_16 (by decide) (by decide) ?_
  exact own_areturn H rfl rfl rfl d11_30 (by decide) (by decide) ⟨rfl, rfl⟩
theorem d10_0 : decode prog_18_method_4_code 0 = .ok (.aload_n 0, 1) := by decide +kernel
theorem d10_1 : decode prog_18_method_4_code 1 = .ok (.dup, 1) := by decide +kernel
theorem d10_2 : decode prog_18_method_4_code 2 = .ok (.getfield 17, 3) := by decide +kernel
theorem d10_5 : decode prog_18_method_4_code 5 = .ok (.iload_n 1, 1) := by decide +kernel
theorem d10_6 : decode prog_18_method_4_code 6 = .ok (.iadd, 1) := by decide +kernel
theorem d10_7 : decode prog_18_method_4_code 7 = .ok (.putfield 17, 3) := by decide +kernel
theorem d10_10 : decode prog_18_method_4_code 10 = .ok (.return_, 1) := by decide +kernel
theorem own_pl10 : plainFor (⟨"com/example/shardline/shardline/http/BodyBytes", "added", "(I)V"⟩ : MethodName) = true := plainFor_of_name (by first | (simp [plainName, overriddenIn]; done) | decide +kernel)
theorem own_pd9 : parseMethodDescriptor "(I)V" = some ⟨[.int], none⟩ := by decide +kernel
set_option maxHeartbeats 4000000 in
theorem rmAd0 (l : Launch) (Z : State) (a0 : Array Value) (hw : ∀ (i : Nat) (d : Jvm.Cond), tables_1[i]? = some d → d.before a0 Z = true) (h0 : Heap) (n0 : Nat) (a : Addr) (t0 : Addr) (hZ0 : n0 ≤ h0.size) (hE : Exa Z h0 a "com/example/shardline/shardline/http/BodyBytes") (hF1 : Fld Z h0 a "com/example/shardline/shardline/http/BodyBytes" "length" "I" (.int (0 : Int32))) (hF2 : Fld Z h0 a "com/example/shardline/shardline/http/BodyBytes" "bytes" "[B" (.ref t0)) (hA_a : n0 ≤ a) :
    own_C l Z (⟨"com/example/shardline/shardline/http/BodyBytes", "added", "(I)V"⟩ : MethodName) prog_18_method_4_code 2 none ({ frames := 0, cells := 0, slots := 0, locals := 0 } : Room) #[(.ref a), (.int (0 : Int32))] h0 n0 (fun v h' => v = none ∧ Keep h0 h' [a] ∧ Fld Z h' a "com/example/shardline/shardline/http/BodyBytes" "length" "I" (.int (0 : Int32)) ∧ Fld Z h' a "com/example/shardline/shardline/http/BodyBytes" "bytes" "[B" (.ref t0)) := by
  refine own_met (Ls := #[.val (.ref a), .val (.int (0 : Int32))]) hw own_pl10 (fun m => by first | (simp [entryFrame, mkF, argsToLocals, Value.category]; done) | rfl) ?_
  intro B H
  have hK : Keep h0 h0 [a] := Keep.refl _ _
  refine own_aload_n H rfl rfl d10_0 ?_
  refine own_dup H rfl d10_1 ?_
  refine own_getfield H (w := 19) rfl hF1 d10_2 ?_
  refine own_iload_n H rfl d10_5 ?_
  refine own_iadd (v := (0 : Int32)) H (by decide) d10_6 ?_
  refine own_putfield H (w := 19) (wi := 1) rfl hF1 hE hA_a (Or.inl (own_w H (i := 20) rfl)) rfl (ty := .int) (by decide) rfl rfl d10_7 ?_
  intro h1 W2
  have f3 : Exa Z h1 a "com/example/shardline/shardline/http/BodyBytes" := hE.wr W2
  have f4 : Fld Z h1 a "com/example/shardline/shardline/http/BodyBytes" "length" "I" (.int (0 : Int32)) := hF1.same W2
  have f5 : Fld Z h1 a "com/example/shardline/shardline/http/BodyBytes" "bytes" "[B" (.ref t0) := hF2.other W2 (Or.inr (slot_ne (Or.inl (own_w H (i := 11) rfl)) (Or.inl (own_w H (i := 20) rfl)) (by decide) (t := (.array .byte)) (t' := .int) (by decide) (by decide)))
  have f6 : n0 ≤ h1.size := by rw [W2.size]; exact hZ0
  have f7 : Keep h0 h1 [a] := hK.wr W2 (Or.inl (by simp))
  exact own_return H d10_10 (by decide) (by decide) ⟨rfl, f7, f4, f5⟩
set_option maxHeartbeats 4000000 in
theorem rmPut1 (l : Launch) (Z : State) (a0 : Array Value) (hw : ∀ (i : Nat) (d : Jvm.Cond), tables_1[i]? = some d → d.before a0 Z = true) (h0 : Heap) (n0 : Nat) (t : Addr) (p : Int64) (kA : ClassId) (n : Int32) (hZ0 : n0 ≤ h0.size) (hV : Arv Z h0 t kA .byte n [] (.int 0)) (hE : Exa Z h0 t "[B") (hkn : (1 : Int32).toInt ≤ n.toInt) (hA_t : n0 ≤ t) :
    own_C l Z (⟨"com/example/shardline/shardline/http/BodyBytesToArrayPinLaw", "put", "([BIJ)V"⟩ : MethodName) method_3_code 4 none ({ frames := 1, cells := 0, slots := 0, locals := 20 } : Room) #[(.ref t), (.int (1 : Int32)), (.long p)] h0 n0 (fun v h' => v = none ∧ Keep h0 h' [t] ∧ Arv Z h' t kA .byte n [(.int (FAt p (0 : Int32)))] (.int 0)) := by
  refine own_met (Ls := #[.val (.ref t), .val (.int (1 : Int32)), .val (.long p), .second]) hw own_pl8 (fun m => by first | (simp [entryFrame, mkF, argsToLocals, Value.category]; done) | rfl) ?_
  intro B H
  have hK : Keep h0 h0 [t] := Keep.refl _ _
  have f1 : Arv Z h0 t kA .byte n [(.int 0)] (.int 0) := hV.pad (pad_rep [] (.int 0) 1)
  refine own_iload_n H rfl d8_0 ?_
  refine own_ifle_f H d8_1 (by decide) ?_
  refine own_aload_n H rfl rfl d8_4 ?_
  refine own_iconst H (0 : Int32) (by decide) d8_5 ?_
  refine own_lload_n H rfl d8_6 ?_
  refine own_iconst H (0 : Int32) (by decide) d8_7 ?_
  refine own_invokestatic H (argsL := [(.long p), (.int (0 : Int32))]) (rest := [(.int (0 : Int32)), (.ref t)]) (rmAt l Z a0 (own_hw H) h0 n0 p (0 : Int32)) (w1 := 45) (w2 := 46) (w3 := 43) (w4 := 47) rfl rfl rfl rfl own_pd0 rfl 2 (by decide) rfl (by decide) (Nat.le_of_eq rfl) (by decide) (by decide) (by decide) rfl d8_8 ?_
  rintro _ _ ⟨rfl, rfl⟩
  show own_G _ _ _ _ _ _ _ _ 11 #[.val (.ref t), .val (.int (1 : Int32)), .val (.long p), .second] [(.int (FAt p (0 : Int32))), (.int (0 : Int32)), (.ref t)]
  refine own_bastoreV H f1 (by decide) (own_jn _ (1 : Int32) _ hkn (by decide)) 0 (by decide) (Nat.le_of_ble_eq_true rfl) hA_t (own_nb _ _) d8_11 ?_
  intro h2 W3 V4
  have f5 : Exa Z h2 t "[B" := hE.wr W3
  have f6 : n0 ≤ h2.size := by rw [W3.size]; exact hZ0
  have f7 : Keep h0 h2 [t] := hK.wr W3 (Or.inl (by simp))
  have f8 : Arv Z h2 t kA .byte n [(.int (FAt p (0 : Int32)))] (.int 0) := V4
  refine own_iload_n H rfl d8_12 ?_
  refine own_iconst H (1 : Int32) (by decide) d8_13 ?_
  refine own_icmple_t H (pc' := 25) d8_14 (by decide) (by decide) (by decide) ?_
  refine own_iload_n H rfl d8_25 ?_
  refine own_iconst H (2 : Int32) (by decide) d8_26 ?_
  refine own_icmple_t H (pc' := 38) d8_27 (by decide) (by decide) (by decide) ?_
  refine own_iload_n H rfl d8_38 ?_
  refine own_iconst H (3 : Int32) (by decide) d8_39 ?_
  refine own_icmple_t H (pc' := 51) d8_40 (by decide) (by decide) (by decide) ?_
  refine own_iload_n H rfl d8_51 ?_
  refine own_iconst H (4 : Int32) (by decide) d8_52 ?_
  refine own_icmple_t H (pc' := 64) d8_53 (by decide) (by decide) (by decide) ?_
  refine own_iload_n H rfl d8_64 ?_
  refine own_iconst H (5 : Int32) (by decide) d8_65 ?_
  refine own_icmple_t H (pc' := 77) d8_66 (by decide) (by decide) (by decide) ?_
  refine own_iload_n H rfl d8_77 ?_
  refine own_bipush H (6 : Int32) (by decide) d8_78 ?_
  refine own_icmple_t H (pc' := 93) d8_80 (by decide) (by decide) (by decide) ?_
  refine own_iload_n H rfl d8_93 ?_
  refine own_bipush H (7 : Int32) (by decide) d8_94 ?_
  refine own_icmple_t H (pc' := 109) d8_96 (by decide) (by decide) (by decide) ?_
  exact own_return H d8_109 (by decide) (by decide) ⟨rfl, f7, f8⟩
set_option maxHeartbeats 4000000 in
theorem rmSm1 (l : Launch) (Z : State) (a0 : Array Value) (hw : ∀ (i : Nat) (d : Jvm.Cond), tables_1[i]? = some d → d.before a0 Z = true) (h0 : Heap) (n0 : Nat) (t : Addr) (p : Int64) (kA : ClassId) (hV : Arv Z h0 t kA .byte (1 : Int32) [(.int (FAt p (0 : Int32)))] (.int 0)) :
    own_C l Z (⟨"com/example/shardline/shardline/http/BodyBytesToArrayPinLaw", "same", "([BIJ)Z"⟩ : MethodName) method_4_code 4 (some .boolean) ({ frames := 1, cells := 0, slots := 0, locals := 20 } : Room) #[(.ref t), (.int (1 : Int32)), (.long p)] h0 n0 (fun v h' => v = some (.int (1 : Int32)) ∧ h0 = h') := by
  refine own_met (Ls := #[.val (.ref t), .val (.int (1 : Int32)), .val (.long p), .second]) hw own_pl12 (fun m => by first | (simp [entryFrame, mkF, argsToLocals, Value.category]; done) | rfl) ?_
  intro B H
  refine own_aload_n H rfl rfl d12_0 ?_
  refine own_arraylengthV H hV d12_1 ?_
  refine own_iload_n H rfl d12_2 ?_
  refine own_icmpeq_t H (pc' := 8) d12_3 (by decide) (by decide) (by decide) ?_
  refine own_iload_n H rfl d12_8 ?_
  refine own_ifle_f H d12_9 (by decide) ?_
  refine own_aload_n H rfl rfl d12_12 ?_
  refine own_iconst H (0 : Int32) (by decide) d12_13 ?_
  refine own_baloadV H hV (by decide) (by decide) rfl d12_14 ?_
  refine own_lload_n H rfl d12_15 ?_
  refine own_iconst H (0 : Int32) (by decide) d12_16 ?_
  refine own_invokestatic H (argsL := [(.long p), (.int (0 : Int32))]) (rest := [(.int (FAt p (0 : Int32)))]) (rmAt l Z a0 (own_hw H) h0 n0 p (0 : Int32)) (w1 := 45) (w2 := 46) (w3 := 43) (w4 := 47) rfl rfl rfl rfl own_pd0 rfl 1 (by decide) rfl (by decide) (Nat.le_of_eq rfl) (by decide) (by decide) (by decide) rfl d12_17 ?_
  rintro _ _ ⟨rfl, rfl⟩
  show own_G _ _ _ _ _ _ _ _ 20 #[.val (.ref t), .val (.int (1 : Int32)), .val (.long p), .second] [(.int (FAt p (0 : Int32))), (.int (FAt p (0 : Int32)))]
  refine own_icmpeq_t H (pc' := 25) d12_20 (by decide) (by decide) rfl ?_
  refine own_iload_n H rfl d12_25 ?_
  refine own_iconst H (1 : Int32) (by decide) d12_26 ?_
  refine own_icmple_t H (pc' := 43) d12_27 (by decide) (by decide) (by decide) ?_
  refine own_iload_n H rfl d12_43 ?_
  refine own_iconst H (2 : Int32) (by decide) d12_44 ?_
  refine own_icmple_t H (pc' := 61) d12_45 (by decide) (by decide) (by decide) ?_
  refine own_iload_n H rfl d12_61 ?_
  refine own_iconst H (3 : Int32) (by decide) d12_62 ?_
  refine own_icmple_t H (pc' := 79) d12_63 (by decide) (by decide) (by decide) ?_
  refine own_iload_n H rfl d12_79 ?_
  refine own_iconst H (4 : Int32) (by decide) d12_80 ?_
  refine own_icmple_t H (pc' := 97) d12_81 (by decide) (by decide) (by decide) ?_
  refine own_iload_n H rfl d12_97 ?_
  refine own_iconst H (5 : Int32) (by decide) d12_98 ?_
  refine own_icmple_t H (pc' := 115) d12_99 (by decide) (by decide) (by decide) ?_
  refine own_iload_n H rfl d12_115 ?_
  refine own_bipush H (6 : Int32) (by decide) d12_116 ?_
  refine own_icmple_t H (pc' := 136) d12_118 (by decide) (by decide) (by decide) ?_
  refine own_iload_n H rfl d12_136 ?_
  refine own_bipush H (7 : Int32) (by decide) d12_137 ?_
  refine own_icmple_t H (pc' := 157) d12_139 (by decide) (by decide) (by decide) ?_
  refine own_iconst H (1 : Int32) (by decide) d12_157 ?_
  exact own_ireturn H (by simp) (by decide) d12_158 (by decide) (by decide) ⟨rfl, rfl⟩
set_option maxHeartbeats 4000000 in
theorem rmCK1 (l : Launch) (Z : State) (a0 : Array Value) (hw : ∀ (i : Nat) (d : Jvm.Cond), tables_1[i]? = some d → d.before a0 Z = true) (h0 : Heap) (n0 : Nat) (t0 : Addr) (kA : ClassId) (n : Int32) (p : Int64) (hZ0 : n0 ≤ h0.size) (hV : Arv Z h0 t0 kA .byte n [(.int (FAt p (0 : Int32)))] (.int 0)) (hkn : (1 : Int32).toInt < n.toInt) :
    own_C l Z (⟨"java/util/Arrays", "copyOf", "([BI)[B"⟩ : MethodName) jdk_65_method_121_code 3 (some (.array .byte)) ({ frames := 1, cells := 1, slots := 1, locals := 31 } : Room) #[(.ref t0), (.int (1 : Int32))] h0 n0 (fun v h' => ∃ (a2 : Addr) (kA3 : ClassId), v = some (.ref a2) ∧ Keep h0 h' [] ∧ n0 ≤ a2 ∧ h0.size ≤ a2 ∧ a2 < h'.size ∧ Arv Z h' a2 kA3 .byte (1 : Int32) [(.int (FAt p (0 : Int32)))] (.int 0)) := by
  refine own_met (Ls := #[.val (.ref t0), .val (.int (1 : Int32)), .unset]) hw own_pl6 (fun m => by first | (simp [entryFrame, mkF, argsToLocals, Value.category]; done) | rfl) ?_
  intro B H
  have hK : Keep h0 h0 [] := Keep.refl _ _
  refine own_iload_n H rfl d6_0 ?_
  refine own_aload_n H rfl rfl d6_1 ?_
  refine own_arraylengthV H hV d6_2 ?_
  refine own_icmpne_t H (pc' := 14) d6_3 (by decide) (by decide) (own_nek _ _ hkn) ?_
  refine own_iload_n H rfl d6_14 ?_
  refine own_newarrayE H (w := 9) (n := (1 : Int32)) rfl "[B" (by decide) (by decide) 1 (by decide) (by decide) d6_15 (by decide) (by decide) ?_
  intro h1 a2 kA3 ha4 E5 V6 X7
  have f8 : t0 ≠ a2 := Nat.ne_of_lt (by rw [ha4]; exact hV.lt)
  have f9 : n0 ≤ a2 := by rw [ha4]; exact hZ0
  have f10 : h0.size ≤ a2 := by rw [ha4]; exact hK.1
  have f11 : Arv Z h1 t0 kA .byte n [(.int (FAt p (0 : Int32)))] (.int 0) := hV.ext E5
  have f12 : n0 ≤ h1.size := Nat.le_trans hZ0 E5.1
  have f13 : Keep h0 h1 [] := hK.ext E5
  have f14 : Arv Z h1 a2 kA3 .byte (1 : Int32) [(.int 0)] (.int 0) := V6.pad (pad_rep [] (.int 0) 1)
  show own_G _ _ _ _ _ _ _ _ 17 #[.val (.ref t0), .val (.int (1 : Int32)), .unset] [(.ref a2)]
  refine own_astore_n H rfl #[.val (.ref t0), .val (.int (1 : Int32)), .val (.ref a2)] rfl d6_17 ?_
  refine own_aload_n H rfl rfl d6_18 ?_
  refine own_iconst H (0 : Int32) (by decide) d6_19 ?_
  refine own_aload_n H rfl rfl d6_20 ?_
  refine own_iconst H (0 : Int32) (by decide) d6_21 ?_
  refine own_aload_n H rfl rfl d6_22 ?_
  refine own_arraylengthV H f11 d6_23 ?_
  refine own_iload_n H rfl d6_24 ?_
  refine own_invokestatic H (argsL := [(.int n), (.int (1 : Int32))]) (rest := [(.int (0 : Int32)), (.ref a2), (.int (0 : Int32)), (.ref t0)]) (rmMinI l Z a0 (own_hw H) h1 n0 n (1 : Int32)) (w1 := 33) (w2 := 34) (w3 := 24) (w4 := 35) rfl rfl rfl rfl own_pd2 rfl 4 (by decide) rfl (by decide) (Nat.le_of_eq rfl) (by decide) (by decide) (by decide) rfl d6_25 ?_
  rintro _ _ ⟨rfl, rfl⟩
  show own_G _ _ _ _ _ _ _ _ 28 #[.val (.ref t0), .val (.int (1 : Int32)), .val (.ref a2)] [(.int (FMinI n (1 : Int32))), (.int (0 : Int32)), (.ref a2), (.int (0 : Int32)), (.ref t0)]
  rw [own_mink n (1 : Int32) hkn]
  show own_G _ _ _ _ _ _ _ _ 28 #[.val (.ref t0), .val (.int (1 : Int32)), .val (.ref a2)] [(.int (1 : Int32)), (.int (0 : Int32)), (.ref a2), (.int (0 : Int32)), (.ref t0)]
  refine own_arraycopy H (w1 := 36) (w2 := 39) (w3 := 37) (w4 := 38) rfl rfl rfl rfl (us := [(.int (FAt p (0 : Int32)))]) f11 f14 rfl (by decide) (by decide) (by decide) (own_kn (by decide) hkn) (by decide) rfl (Nat.le_of_ble_eq_true rfl) f9 rfl (by decide) 0 (Nat.le_of_eq rfl) (by decide) d6_28 ?_
  intro h15 K16 V17
  have f18 : Arv Z h15 t0 kA .byte n [(.int (FAt p (0 : Int32)))] (.int 0) := f11.keep K16 (ninS f8 nin0)
  have f19 : n0 ≤ h15.size := Nat.le_trans f12 K16.1
  have f20 : Keep h0 h15 [] := f13.trans K16 (allS (Or.inr f10) all0)
  have f21 : Exa Z h15 a2 "[B" := X7.keep K16
  have f22 : Arv Z h15 a2 kA3 .byte (1 : Int32) [(.int (FAt p (0 : Int32)))] (.int 0) := V17
  show own_G _ _ _ _ _ _ _ _ 31 #[.val (.ref t0), .val (.int (1 : Int32)), .val (.ref a2)] []
  refine own_aload_n H rfl rfl d6_31 ?_
  exact own_areturn H rfl rfl rfl d6_32 (by decide) (by decide) ⟨a2, kA3, rfl, f20, f9, f10, f21.lt, f22⟩
set_option maxHeartbeats 4000000 in
theorem rmTn1 (l : Launch) (Z : State) (a0 : Array Value) (hw : ∀ (i : Nat) (d : Jvm.Cond), tables_1[i]? = some d → d.before a0 Z = true) (h0 : Heap) (n0 : Nat) (a : Addr) (t0 : Addr) (kA : ClassId) (n : Int32) (p : Int64) (hZ0 : n0 ≤ h0.size) (hE : Exa Z h0 a "com/example/shardline/shardline/http/BodyBytes") (hF1 : Fld Z h0 a "com/example/shardline/shardline/http/BodyBytes" "length" "I" (.int (1 : Int32))) (hF2 : Fld Z h0 a "com/example/shardline/shardline/http/BodyBytes" "bytes" "[B" (.ref t0)) (hV : Arv Z h0 t0 kA .byte n [(.int (FAt p (0 : Int32)))] (.int 0)) (hkn : (1 : Int32).toInt < n.toInt) :
    own_C l Z (⟨"com/example/shardline/shardline/http/BodyBytes", "toArray", "()[B"⟩ : MethodName) prog_18_method_5_code 1 (some (.array .byte)) ({ frames := 2, cells := 1, slots := 1, locals := 50 } : Room) #[(.ref a)] h0 n0 (fun v h' => ∃ (a3 : Addr) (kA4 : ClassId), v = some (.ref a3) ∧ Keep h0 h' [] ∧ n0 ≤ a3 ∧ h0.size ≤ a3 ∧ a3 < h'.size ∧ Arv Z h' a3 kA4 .byte (1 : Int32) [(.int (FAt p (0 : Int32)))] (.int 0)) := by
  refine own_met (Ls := #[.val (.ref a)]) hw own_pl11 (fun m => by first | (simp [entryFrame, mkF, argsToLocals, Value.category]; done) | rfl) ?_
  intro B H
  have hK : Keep h0 h0 [] := Keep.refl _ _
  refine own_aload_n H rfl rfl d11_0 ?_
  refine own_getfield H (w := 19) rfl hF1 d11_1 ?_
  refine own_aload_n H rfl rfl d11_4 ?_
  refine own_getfield H (w := 10) rfl hF2 d11_5 ?_
  refine own_arraylengthV H hV d11_8 ?_
  refine own_icmpne_t H (pc' := 19) d11_9 (by decide) (by decide) (own_nek _ _ hkn) ?_
  refine own_aload_n H rfl rfl d11_19 ?_
  refine own_getfield H (w := 10) rfl hF2 d11_20 ?_
  refine own_aload_n H rfl rfl d11_23 ?_
  refine own_getfield H (w := 19) rfl hF1 d11_24 ?_
  refine own_invokestatic H (argsL := [(.ref t0), (.int (1 : Int32))]) (rest := []) (rmCK1 l Z a0 (own_hw H) h0 n0 t0 kA n p hZ0 hV hkn) (w1 := 29) (w2 := 30) (w3 := 31) (w4 := 32) rfl rfl rfl rfl own_pd4 rfl 0 (by decide) rfl (by decide) (Nat.le_of_eq rfl) (by decide) (by decide) (by decide) rfl d11_27 ?_
  rintro _ h1 ⟨a3, kA4, rfl, K2, f5, f6, f7, f8⟩
  have f9 : a ≠ a3 := Nat.ne_of_lt (Nat.lt_of_lt_of_le hE.lt f6)
  have f10 : t0 ≠ a3 := Nat.ne_of_lt (Nat.lt_of_lt_of_le hV.lt f6)
  have f11 : h0.size ≤ a3 := Nat.le_trans hK.1 f6
  have f12 : Exa Z h1 a "com/example/shardline/shardline/http/BodyBytes" := hE.keep K2
  have f13 : Fld Z h1 a "com/example/shardline/shardline/http/BodyBytes" "length" "I" (.int (1 : Int32)) := hF1.keep K2 nin0
  have f14 : Fld Z h1 a "com/example/shardline/shardline/http/BodyBytes" "bytes" "[B" (.ref t0) := hF2.keep K2 nin0
  have f15 : Arv Z h1 t0 kA .byte n [(.int (FAt p (0 : Int32)))] (.int 0) := hV.keep K2 nin0
  have f16 : n0 ≤ h1.size := Nat.le_trans hZ0 K2.1
  have f17 : Keep h0 h1 [] := hK.trans K2 all0
  show own_G _ _ _ _ _ _ _ _ 30 #[.val (.ref a)] [(.ref a3)]
  exact own_areturn H rfl rfl rfl d11_30 (by decide) (by decide) ⟨a3, kA4, rfl, f17, f5, f11, f8.lt, f8⟩
set_option maxHeartbeats 4000000 in
theorem rmTe1 (l : Launch) (Z : State) (a0 : Array Value) (hw : ∀ (i : Nat) (d : Jvm.Cond), tables_1[i]? = some d → d.before a0 Z = true) (h0 : Heap) (n0 : Nat) (a : Addr) (t0 : Addr) (kA : ClassId) (p : Int64) (hE : Exa Z h0 a "com/example/shardline/shardline/http/BodyBytes") (hF1 : Fld Z h0 a "com/example/shardline/shardline/http/BodyBytes" "length" "I" (.int (1 : Int32))) (hF2 : Fld Z h0 a "com/example/shardline/shardline/http/BodyBytes" "bytes" "[B" (.ref t0)) (hV : Arv Z h0 t0 kA .byte (1 : Int32) [(.int (FAt p (0 : Int32)))] (.int 0)) :
    own_C l Z (⟨"com/example/shardline/shardline/http/BodyBytes", "toArray", "()[B"⟩ : MethodName) prog_18_method_5_code 1 (some (.array .byte)) ({ frames := 0, cells := 0, slots := 0, locals := 0 } : Room) #[(.ref a)] h0 n0 (fun v h' => v = some (.ref t0) ∧ h0 = h') := by
  refine own_met (Ls := #[.val (.ref a)]) hw own_pl11 (fun m => by first | (simp [entryFrame, mkF, argsToLocals, Value.category]; done) | rfl) ?_
  intro B H
  refine own_aload_n H rfl rfl d11_0 ?_
  refine own_getfield H (w := 19) rfl hF1 d11_1 ?_
  refine own_aload_n H rfl rfl d11_4 ?_
  refine own_getfield H (w := 10) rfl hF2 d11_5 ?_
  refine own_arraylengthV H hV d11_8 ?_
  refine own_icmpne_f H d11_9 (by decide) ?_
  refine own_aload_n H rfl rfl d11_12 ?_
  refine own_getfield H (w := 10) rfl hF2 d11_13 ?_
  refine own_goto H (pc' := 30) d11_16 (by decide) (by decide) ?_
  exact own_areturn H rfl rfl rfl d11_30 (by decide) (by decide) ⟨rfl, rfl⟩
set_option maxHeartbeats 4000000 in
theorem rmAd1 (l : Launch) (Z : State) (a0 : Array Value) (hw : ∀ (i : Nat) (d : Jvm.Cond), tables_1[i]? = some d → d.before a0 Z = true) (h0 : Heap) (n0 : Nat) (a : Addr) (t0 : Addr) (hZ0 : n0 ≤ h0.size) (hE : Exa Z h0 a "com/example/shardline/shardline/http/BodyBytes") (hF1 : Fld Z h0 a "com/example/shardline/shardline/http/BodyBytes" "length" "I" (.int (0 : Int32))) (hF2 : Fld Z h0 a "com/example/shardline/shardline/http/BodyBytes" "bytes" "[B" (.ref t0)) (hA_a : n0 ≤ a) :
    own_C l Z (⟨"com/example/shardline/shardline/http/BodyBytes", "added", "(I)V"⟩ : MethodName) prog_18_method_4_code 2 none ({ frames := 0, cells := 0, slots := 0, locals := 0 } : Room) #[(.ref a), (.int (1 : Int32))] h0 n0 (fun v h' => v = none ∧ Keep h0 h' [a] ∧ Fld Z h' a "com/example/shardline/shardline/http/BodyBytes" "length" "I" (.int (1 : Int32)) ∧ Fld Z h' a "com/example/shardline/shardline/http/BodyBytes" "bytes" "[B" (.ref t0)) := by
  refine own_met (Ls := #[.val (.ref a), .val (.int (1 : Int32))]) hw own_pl10 (fun m => by first | (simp [entryFrame, mkF, argsToLocals, Value.category]; done) | rfl) ?_
  intro B H
  have hK : Keep h0 h0 [a] := Keep.refl _ _
  refine own_aload_n H rfl rfl d10_0 ?_
  refine own_dup H rfl d10_1 ?_
  refine own_getfield H (w := 19) rfl hF1 d10_2 ?_
  refine own_iload_n H rfl d10_5 ?_
  refine own_iadd (v := (1 : Int32)) H (by decide) d10_6 ?_
  refine own_putfield H (w := 19) (wi := 1) rfl hF1 hE hA_a (Or.inl (own_w H (i := 20) rfl)) rfl (ty := .int) (by decide) rfl rfl d10_7 ?_
  intro h1 W2
  have f3 : Exa Z h1 a "com/example/shardline/shardline/http/BodyBytes" := hE.wr W2
  have f4 : Fld Z h1 a "com/example/shardline/shardline/http/BodyBytes" "length" "I" (.int (1 : Int32)) := hF1.same W2
  have f5 : Fld Z h1 a "com/example/shardline/shardline/http/BodyBytes" "bytes" "[B" (.ref t0) := hF2.other W2 (Or.inr (slot_ne (Or.inl (own_w H (i := 11) rfl)) (Or.inl (own_w H (i := 20) rfl)) (by decide) (t := (.array .byte)) (t' := .int) (by decide) (by decide)))
  have f6 : n0 ≤ h1.size := by rw [W2.size]; exact hZ0
  have f7 : Keep h0 h1 [a] := hK.wr W2 (Or.inl (by simp))
  exact own_return H d10_10 (by decide) (by decide) ⟨rfl, f7, f4, f5⟩
set_option maxHeartbeats 4000000 in
theorem rmPut2 (l : Launch) (Z : State) (a0 : Array Value) (hw : ∀ (i : Nat) (d : Jvm.Cond), tables_1[i]? = some d → d.before a0 Z = true) (h0 : Heap) (n0 : Nat) (t : Addr) (p : Int64) (kA : ClassId) (n : Int32) (hZ0 : n0 ≤ h0.size) (hV : Arv Z h0 t kA .byte n [] (.int 0)) (hE : Exa Z h0 t "[B") (hkn : (2 : Int32).toInt ≤ n.toInt) (hA_t : n0 ≤ t) :
    own_C l Z (⟨"com/example/shardline/shardline/http/BodyBytesToArrayPinLaw", "put", "([BIJ)V"⟩ : MethodName) method_3_code 4 none ({ frames := 1, cells := 0, slots := 0, locals := 20 } : Room) #[(.ref t), (.int (2 : Int32)), (.long p)] h0 n0 (fun v h' => v = none ∧ Keep h0 h' [t] ∧ Arv Z h' t kA .byte n [(.int (FAt p (0 : Int32))), (.int (FAt p (1 : Int32)))] (.int 0)) := by
  refine own_met (Ls := #[.val (.ref t), .val (.int (2 : Int32)), .val (.long p), .second]) hw own_pl8 (fun m => by first | (simp [entryFrame, mkF, argsToLocals, Value.category]; done) | rfl) ?_
  intro B H
  have hK : Keep h0 h0 [t] := Keep.refl _ _
  have f1 : Arv Z h0 t kA .byte n [(.int 0), (.int 0)] (.int 0) := hV.pad (pad_rep [] (.int 0) 2)
  refine own_iload_n H rfl d8_0 ?_
  refine own_ifle_f H d8_1 (by decide) ?_
  refine own_aload_n H rfl rfl d8_4 ?_
  refine own_iconst H (0 : Int32) (by decide) d8_5 ?_
  refine own_lload_n H rfl d8_6 ?_
  refine own_iconst H (0 : Int32) (by decide) d8_7 ?_
  refine own_invokestatic H (argsL := [(.long p), (.int (0 : Int32))]) (rest := [(.int (0 : Int32)), (.ref t)]) (rmAt l Z a0 (own_hw H) h0 n0 p (0 : Int32)) (w1 := 45) (w2 := 46) (w3 := 43) (w4 := 47) rfl rfl rfl rfl own_pd0 rfl 2 (by decide) rfl (by decide) (Nat.le_of_eq rfl) (by decide) (by decide) (by decide) rfl d8_8 ?_
  rintro _ _ ⟨rfl, rfl⟩
  show own_G _ _ _ _ _ _ _ _ 11 #[.val (.ref t), .val (.int (2 : Int32)), .val (.long p), .second] [(.int (FAt p (0 : Int32))), (.int (0 : Int32)), (.ref t)]
  refine own_bastoreV H f1 (by decide) (own_jn _ (2 : Int32) _ hkn (by decide)) 0 (by decide) (Nat.le_of_ble_eq_true rfl) hA_t (own_nb _ _) d8_11 ?_
  intro h2 W3 V4
  have f5 : Exa Z h2 t "[B" := hE.wr W3
  have f6 : n0 ≤ h2.size := by rw [W3.size]; exact hZ0
  have f7 : Keep h0 h2 [t] := hK.wr W3 (Or.inl (by simp))
  have f8 : Arv Z h2 t kA .byte n [(.int (FAt p (0 : Int32))), (.int 0)] (.int 0) := V4
  refine own_iload_n H rfl d8_12 ?_
  refine own_iconst H (1 : Int32) (by decide) d8_13 ?_
  refine own_icmple_f H d8_14 (by decide) ?_
  refine own_aload_n H rfl rfl d8_17 ?_
  refine own_iconst H (1 : Int32) (by decide) d8_18 ?_
  refine own_lload_n H rfl d8_19 ?_
  refine own_iconst H (1 : Int32) (by decide) d8_20 ?_
  refine own_invokestatic H (argsL := [(.long p), (.int (1 : Int32))]) (rest := [(.int (1 : Int32)), (.ref t)]) (rmAt l Z a0 (own_hw H) h2 n0 p (1 : Int32)) (w1 := 45) (w2 := 46) (w3 := 43) (w4 := 47) rfl rfl rfl rfl own_pd0 rfl 2 (by decide) rfl (by decide) (Nat.le_of_eq rfl) (by decide) (by decide) (by decide) rfl d8_21 ?_
  rintro _ _ ⟨rfl, rfl⟩
  show own_G _ _ _ _ _ _ _ _ 24 #[.val (.ref t), .val (.int (2 : Int32)), .val (.long p), .second] [(.int (FAt p (1 : Int32))), (.int (1 : Int32)), (.ref t)]
  refine own_bastoreV H f8 (by decide) (own_jn _ (2 : Int32) _ hkn (by decide)) 1 (by decide) (Nat.le_of_ble_eq_true rfl) hA_t (own_nb _ _) d8_24 ?_
  intro h9 W10 V11
  have f12 : Exa Z h9 t "[B" := f5.wr W10
  have f13 : n0 ≤ h9.size := by rw [W10.size]; exact f6
  have f14 : Keep h0 h9 [t] := f7.wr W10 (Or.inl (by simp))
  have f15 : Arv Z h9 t kA .byte n [(.int (FAt p (0 : Int32))), (.int (FAt p (1 : Int32)))] (.int 0) := V11
  refine own_iload_n H rfl d8_25 ?_
  refine own_iconst H (2 : Int32) (by decide) d8_26 ?_
  refine own_icmple_t H (pc' := 38) d8_27 (by decide) (by decide) (by decide) ?_
  refine own_iload_n H rfl d8_38 ?_
  refine own_iconst H (3 : Int32) (by decide) d8_39 ?_
  refine own_icmple_t H (pc' := 51) d8_40 (by decide) (by decide) (by decide) ?_
  refine own_iload_n H rfl d8_51 ?_
  refine own_iconst H (4 : Int32) (by decide) d8_52 ?_
  refine own_icmple_t H (pc' := 64) d8_53 (by decide) (by decide) (by decide) ?_
  refine own_iload_n H rfl d8_64 ?_
  refine own_iconst H (5 : Int32) (by decide) d8_65 ?_
  refine own_icmple_t H (pc' := 77) d8_66 (by decide) (by decide) (by decide) ?_
  refine own_iload_n H rfl d8_77 ?_
  refine own_bipush H (6 : Int32) (by decide) d8_78 ?_
  refine own_icmple_t H (pc' := 93) d8_80 (by decide) (by decide) (by decide) ?_
  refine own_iload_n H rfl d8_93 ?_
  refine own_bipush H (7 : Int32) (by decide) d8_94 ?_
  refine own_icmple_t H (pc' := 109) d8_96 (by decide) (by decide) (by decide) ?_
  exact own_return H d8_109 (by decide) (by decide) ⟨rfl, f14, f15⟩
set_option maxHeartbeats 4000000 in
theorem rmSm2 (l : Launch) (Z : State) (a0 : Array Value) (hw : ∀ (i : Nat) (d : Jvm.Cond), tables_1[i]? = some d → d.before a0 Z = true) (h0 : Heap) (n0 : Nat) (t : Addr) (p : Int64) (kA : ClassId) (hV : Arv Z h0 t kA .byte (2 : Int32) [(.int (FAt p (0 : Int32))), (.int (FAt p (1 : Int32)))] (.int 0)) :
    own_C l Z (⟨"com/example/shardline/shardline/http/BodyBytesToArrayPinLaw", "same", "([BIJ)Z"⟩ : MethodName) method_4_code 4 (some .boolean) ({ frames := 1, cells := 0, slots := 0, locals := 20 } : Room) #[(.ref t), (.int (2 : Int32)), (.long p)] h0 n0 (fun v h' => v = some (.int (1 : Int32)) ∧ h0 = h') := by
  refine own_met (Ls := #[.val (.ref t), .val (.int (2 : Int32)), .val (.long p), .second]) hw own_pl12 (fun m => by first | (simp [entryFrame, mkF, argsToLocals, Value.category]; done) | rfl) ?_
  intro B H
  refine own_aload_n H rfl rfl d12_0 ?_
  refine own_arraylengthV H hV d12_1 ?_
  refine own_iload_n H rfl d12_2 ?_
  refine own_icmpeq_t H (pc' := 8) d12_3 (by decide) (by decide) (by decide) ?_
  refine own_iload_n H rfl d12_8 ?_
  refine own_ifle_f H d12_9 (by decide) ?_
  refine own_aload_n H rfl rfl d12_12 ?_
  refine own_iconst H (0 : Int32) (by decide) d12_13 ?_
  refine own_baloadV H hV (by decide) (by decide) rfl d12_14 ?_
  refine own_lload_n H rfl d12_15 ?_
  refine own_iconst H (0 : Int32) (by decide) d12_16 ?_
  refine own_invokestatic H (argsL := [(.long p), (.int (0 : Int32))]) (rest := [(.int (FAt p (0 : Int32)))]) (rmAt l Z a0 (own_hw H) h0 n0 p (0 : Int32)) (w1 := 45) (w2 := 46) (w3 := 43) (w4 := 47) rfl rfl rfl rfl own_pd0 rfl 1 (by decide) rfl (by decide) (Nat.le_of_eq rfl) (by decide) (by decide) (by decide) rfl d12_17 ?_
  rintro _ _ ⟨rfl, rfl⟩
  show own_G _ _ _ _ _ _ _ _ 20 #[.val (.ref t), .val (.int (2 : Int32)), .val (.long p), .second] [(.int (FAt p (0 : Int32))), (.int (FAt p (0 : Int32)))]
  refine own_icmpeq_t H (pc' := 25) d12_20 (by decide) (by decide) rfl ?_
  refine own_iload_n H rfl d12_25 ?_
  refine own_iconst H (1 : Int32) (by decide) d12_26 ?_
  refine own_icmple_f H d12_27 (by decide) ?_
  refine own_aload_n H rfl rfl d12_30 ?_
  refine own_iconst H (1 : Int32) (by decide) d12_31 ?_
  refine own_baloadV H hV (by decide) (by decide) rfl d12_32 ?_
  refine own_lload_n H rfl d12_33 ?_
  refine own_iconst H (1 : Int32) (by decide) d12_34 ?_
  refine own_invokestatic H (argsL := [(.long p), (.int (1 : Int32))]) (rest := [(.int (FAt p (1 : Int32)))]) (rmAt l Z a0 (own_hw H) h0 n0 p (1 : Int32)) (w1 := 45) (w2 := 46) (w3 := 43) (w4 := 47) rfl rfl rfl rfl own_pd0 rfl 1 (by decide) rfl (by decide) (Nat.le_of_eq rfl) (by decide) (by decide) (by decide) rfl d12_35 ?_
  rintro _ _ ⟨rfl, rfl⟩
  show own_G _ _ _ _ _ _ _ _ 38 #[.val (.ref t), .val (.int (2 : Int32)), .val (.long p), .second] [(.int (FAt p (1 : Int32))), (.int (FAt p (1 : Int32)))]
  refine own_icmpeq_t H (pc' := 43) d12_38 (by decide) (by decide) rfl ?_
  refine own_iload_n H rfl d12_43 ?_
  refine own_iconst H (2 : Int32) (by decide) d12_44 ?_
  refine own_icmple_t H (pc' := 61) d12_45 (by decide) (by decide) (by decide) ?_
  refine own_iload_n H rfl d12_61 ?_
  refine own_iconst H (3 : Int32) (by decide) d12_62 ?_
  refine own_icmple_t H (pc' := 79) d12_63 (by decide) (by decide) (by decide) ?_
  refine own_iload_n H rfl d12_79 ?_
  refine own_iconst H (4 : Int32) (by decide) d12_80 ?_
  refine own_icmple_t H (pc' := 97) d12_81 (by decide) (by decide) (by decide) ?_
  refine own_iload_n H rfl d12_97 ?_
  refine own_iconst H (5 : Int32) (by decide) d12_98 ?_
  refine own_icmple_t H (pc' := 115) d12_99 (by decide) (by decide) (by decide) ?_
  refine own_iload_n H rfl d12_115 ?_
  refine own_bipush H (6 : Int32) (by decide) d12_116 ?_
  refine own_icmple_t H (pc' := 136) d12_118 (by decide) (by decide) (by decide) ?_
  refine own_iload_n H rfl d12_136 ?_
  refine own_bipush H (7 : Int32) (by decide) d12_137 ?_
  refine own_icmple_t H (pc' := 157) d12_139 (by decide) (by decide) (by decide) ?_
  refine own_iconst H (1 : Int32) (by decide) d12_157 ?_
  exact own_ireturn H (by simp) (by decide) d12_158 (by decide) (by decide) ⟨rfl, rfl⟩
set_option maxHeartbeats 4000000 in
theorem rmCK2 (l : Launch) (Z : State) (a0 : Array Value) (hw : ∀ (i : Nat) (d : Jvm.Cond), tables_1[i]? = some d → d.before a0 Z = true) (h0 : Heap) (n0 : Nat) (t0 : Addr) (kA : ClassId) (n : Int32) (p : Int64) (hZ0 : n0 ≤ h0.size) (hV : Arv Z h0 t0 kA .byte n [(.int (FAt p (0 : Int32))), (.int (FAt p (1 : Int32)))] (.int 0)) (hkn : (2 : Int32).toInt < n.toInt) :
    own_C l Z (⟨"java/util/Arrays", "copyOf", "([BI)[B"⟩ : MethodName) jdk_65_method_121_code 3 (some (.array .byte)) ({ frames := 1, cells := 1, slots := 2, locals := 31 } : Room) #[(.ref t0), (.int (2 : Int32))] h0 n0 (fun v h' => ∃ (a2 : Addr) (kA3 : ClassId), v = some (.ref a2) ∧ Keep h0 h' [] ∧ n0 ≤ a2 ∧ h0.size ≤ a2 ∧ a2 < h'.size ∧ Arv Z h' a2 kA3 .byte (2 : Int32) [(.int (FAt p (0 : Int32))), (.int (FAt p (1 : Int32)))] (.int 0)) := by
  refine own_met (Ls := #[.val (.ref t0), .val (.int (2 : Int32)), .unset]) hw own_pl6 (fun m => by first | (simp [entryFrame, mkF, argsToLocals, Value.category]; done) | rfl) ?_
  intro B H
  have hK : Keep h0 h0 [] := Keep.refl _ _
  refine own_iload_n H rfl d6_0 ?_
  refine own_aload_n H rfl rfl d6_1 ?_
  refine own_arraylengthV H hV d6_2 ?_
  refine own_icmpne_t H (pc' := 14) d6_3 (by decide) (by decide) (own_nek _ _ hkn) ?_
  refine own_iload_n H rfl d6_14 ?_
  refine own_newarrayE H (w := 9) (n := (2 : Int32)) rfl "[B" (by decide) (by decide) 2 (by decide) (by decide) d6_15 (by decide) (by decide) ?_
  intro h1 a2 kA3 ha4 E5 V6 X7
  have f8 : t0 ≠ a2 := Nat.ne_of_lt (by rw [ha4]; exact hV.lt)
  have f9 : n0 ≤ a2 := by rw [ha4]; exact hZ0
  have f10 : h0.size ≤ a2 := by rw [ha4]; exact hK.1
  have f11 : Arv Z h1 t0 kA .byte n [(.int (FAt p (0 : Int32))), (.int (FAt p (1 : Int32)))] (.int 0) := hV.ext E5
  have f12 : n0 ≤ h1.size := Nat.le_trans hZ0 E5.1
  have f13 : Keep h0 h1 [] := hK.ext E5
  have f14 : Arv Z h1 a2 kA3 .byte (2 : Int32) [(.int 0), (.int 0)] (.int 0) := V6.pad (pad_rep [] (.int 0) 2)
  show own_G _ _ _ _ _ _ _ _ 17 #[.val (.ref t0), .val (.int (2 : Int32)), .unset] [(.ref a2)]
  refine own_astore_n H rfl #[.val (.ref t0), .val (.int (2 : Int32)), .val (.ref a2)] rfl d6_17 ?_
  refine own_aload_n H rfl rfl d6_18 ?_
  refine own_iconst H (0 : Int32) (by decide) d6_19 ?_
  refine own_aload_n H rfl rfl d6_20 ?_
  refine own_iconst H (0 : Int32) (by decide) d6_21 ?_
  refine own_aload_n H rfl rfl d6_22 ?_
  refine own_arraylengthV H f11 d6_23 ?_
  refine own_iload_n H rfl d6_24 ?_
  refine own_invokestatic H (argsL := [(.int n), (.int (2 : Int32))]) (rest := [(.int (0 : Int32)), (.ref a2), (.int (0 : Int32)), (.ref t0)]) (rmMinI l Z a0 (own_hw H) h1 n0 n (2 : Int32)) (w1 := 33) (w2 := 34) (w3 := 24) (w4 := 35) rfl rfl rfl rfl own_pd2 rfl 4 (by decide) rfl (by decide) (Nat.le_of_eq rfl) (by decide) (by decide) (by decide) rfl d6_25 ?_
  rintro _ _ ⟨rfl, rfl⟩
  show own_G _ _ _ _ _ _ _ _ 28 #[.val (.ref t0), .val (.int (2 : Int32)), .val (.ref a2)] [(.int (FMinI n (2 : Int32))), (.int (0 : Int32)), (.ref a2), (.int (0 : Int32)), (.ref t0)]
  rw [own_mink n (2 : Int32) hkn]
  show own_G _ _ _ _ _ _ _ _ 28 #[.val (.ref t0), .val (.int (2 : Int32)), .val (.ref a2)] [(.int (2 : Int32)), (.int (0 : Int32)), (.ref a2), (.int (0 : Int32)), (.ref t0)]
  refine own_arraycopy H (w1 := 36) (w2 := 39) (w3 := 37) (w4 := 38) rfl rfl rfl rfl (us := [(.int (FAt p (0 : Int32))), (.int (FAt p (1 : Int32)))]) f11 f14 rfl (by decide) (by decide) (by decide) (own_kn (by decide) hkn) (by decide) rfl (Nat.le_of_ble_eq_true rfl) f9 rfl (by decide) 0 (Nat.le_of_eq rfl) (by decide) d6_28 ?_
  intro h15 K16 V17
  have f18 : Arv Z h15 t0 kA .byte n [(.int (FAt p (0 : Int32))), (.int (FAt p (1 : Int32)))] (.int 0) := f11.keep K16 (ninS f8 nin0)
  have f19 : n0 ≤ h15.size := Nat.le_trans f12 K16.1
  have f20 : Keep h0 h15 [] := f13.trans K16 (allS (Or.inr f10) all0)
  have f21 : Exa Z h15 a2 "[B" := X7.keep K16
  have f22 : Arv Z h15 a2 kA3 .byte (2 : Int32) [(.int (FAt p (0 : Int32))), (.int (FAt p (1 : Int32)))] (.int 0) := V17
  show own_G _ _ _ _ _ _ _ _ 31 #[.val (.ref t0), .val (.int (2 : Int32)), .val (.ref a2)] []
  refine own_aload_n H rfl rfl d6_31 ?_
  exact own_areturn H rfl rfl rfl d6_32 (by decide) (by decide) ⟨a2, kA3, rfl, f20, f9, f10, f21.lt, f22⟩
set_option maxHeartbeats 4000000 in
theorem rmTn2 (l : Launch) (Z : State) (a0 : Array Value) (hw : ∀ (i : Nat) (d : Jvm.Cond), tables_1[i]? = some d → d.before a0 Z = true) (h0 : Heap) (n0 : Nat) (a : Addr) (t0 : Addr) (kA : ClassId) (n : Int32) (p : Int64) (hZ0 : n0 ≤ h0.size) (hE : Exa Z h0 a "com/example/shardline/shardline/http/BodyBytes") (hF1 : Fld Z h0 a "com/example/shardline/shardline/http/BodyBytes" "length" "I" (.int (2 : Int32))) (hF2 : Fld Z h0 a "com/example/shardline/shardline/http/BodyBytes" "bytes" "[B" (.ref t0)) (hV : Arv Z h0 t0 kA .byte n [(.int (FAt p (0 : Int32))), (.int (FAt p (1 : Int32)))] (.int 0)) (hkn : (2 : Int32).toInt < n.toInt) :
    own_C l Z (⟨"com/example/shardline/shardline/http/BodyBytes", "toArray", "()[B"⟩ : MethodName) prog_18_method_5_code 1 (some (.array .byte)) ({ frames := 2, cells := 1, slots := 2, locals := 50 } : Room) #[(.ref a)] h0 n0 (fun v h' => ∃ (a3 : Addr) (kA4 : ClassId), v = some (.ref a3) ∧ Keep h0 h' [] ∧ n0 ≤ a3 ∧ h0.size ≤ a3 ∧ a3 < h'.size ∧ Arv Z h' a3 kA4 .byte (2 : Int32) [(.int (FAt p (0 : Int32))), (.int (FAt p (1 : Int32)))] (.int 0)) := by
  refine own_met (Ls := #[.val (.ref a)]) hw own_pl11 (fun m => by first | (simp [entryFrame, mkF, argsToLocals, Value.category]; done) | rfl) ?_
  intro B H
  have hK : Keep h0 h0 [] := Keep.refl _ _
  refine own_aload_n H rfl rfl d11_0 ?_
  refine own_getfield H (w := 19) rfl hF1 d11_1 ?_
  refine own_aload_n H rfl rfl d11_4 ?_
  refine own_getfield H (w := 10) rfl hF2 d11_5 ?_
  refine own_arraylengthV H hV d11_8 ?_
  refine own_icmpne_t H (pc' := 19) d11_9 (by decide) (by decide) (own_nek _ _ hkn) ?_
  refine own_aload_n H rfl rfl d11_19 ?_
  refine own_getfield H (w := 10) rfl hF2 d11_20 ?_
  refine own_aload_n H rfl rfl d11_23 ?_
  refine own_getfield H (w := 19) rfl hF1 d11_24 ?_
  refine own_invokestatic H (argsL := [(.ref t0), (.int (2 : Int32))]) (rest := []) (rmCK2 l Z a0 (own_hw H) h0 n0 t0 kA n p hZ0 hV hkn) (w1 := 29) (w2 := 30) (w3 := 31) (w4 := 32) rfl rfl rfl rfl own_pd4 rfl 0 (by decide) rfl (by decide) (Nat.le_of_eq rfl) (by decide) (by decide) (by decide) rfl d11_27 ?_
  rintro _ h1 ⟨a3, kA4, rfl, K2, f5, f6, f7, f8⟩
  have f9 : a ≠ a3 := Nat.ne_of_lt (Nat.lt_of_lt_of_le hE.lt f6)
  have f10 : t0 ≠ a3 := Nat.ne_of_lt (Nat.lt_of_lt_of_le hV.lt f6)
  have f11 : h0.size ≤ a3 := Nat.le_trans hK.1 f6
  have f12 : Exa Z h1 a "com/example/shardline/shardline/http/BodyBytes" := hE.keep K2
  have f13 : Fld Z h1 a "com/example/shardline/shardline/http/BodyBytes" "length" "I" (.int (2 : Int32)) := hF1.keep K2 nin0
  have f14 : Fld Z h1 a "com/example/shardline/shardline/http/BodyBytes" "bytes" "[B" (.ref t0) := hF2.keep K2 nin0
  have f15 : Arv Z h1 t0 kA .byte n [(.int (FAt p (0 : Int32))), (.int (FAt p (1 : Int32)))] (.int 0) := hV.keep K2 nin0
  have f16 : n0 ≤ h1.size := Nat.le_trans hZ0 K2.1
  have f17 : Keep h0 h1 [] := hK.trans K2 all0
  show own_G _ _ _ _ _ _ _ _ 30 #[.val (.ref a)] [(.ref a3)]
  exact own_areturn H rfl rfl rfl d11_30 (by decide) (by decide) ⟨a3, kA4, rfl, f17, f5, f11, f8.lt, f8⟩
set_option maxHeartbeats 4000000 in
theorem rmTe2 (l : Launch) (Z : State) (a0 : Array Value) (hw : ∀ (i : Nat) (d : Jvm.Cond), tables_1[i]? = some d → d.before a0 Z = true) (h0 : Heap) (n0 : Nat) (a : Addr) (t0 : Addr) (kA : ClassId) (p : Int64) (hE : Exa Z h0 a "com/example/shardline/shardline/http/BodyBytes") (hF1 : Fld Z h0 a "com/example/shardline/shardline/http/BodyBytes" "length" "I" (.int (2 : Int32))) (hF2 : Fld Z h0 a "com/example/shardline/shardline/http/BodyBytes" "bytes" "[B" (.ref t0)) (hV : Arv Z h0 t0 kA .byte (2 : Int32) [(.int (FAt p (0 : Int32))), (.int (FAt p (1 : Int32)))] (.int 0)) :
    own_C l Z (⟨"com/example/shardline/shardline/http/BodyBytes", "toArray", "()[B"⟩ : MethodName) prog_18_method_5_code 1 (some (.array .byte)) ({ frames := 0, cells := 0, slots := 0, locals := 0 } : Room) #[(.ref a)] h0 n0 (fun v h' => v = some (.ref t0) ∧ h0 = h') := by
  refine own_met (Ls := #[.val (.ref a)]) hw own_pl11 (fun m => by first | (simp [entryFrame, mkF, argsToLocals, Value.category]; done) | rfl) ?_
  intro B H
  refine own_aload_n H rfl rfl d11_0 ?_
  refine own_getfield H (w := 19) rfl hF1 d11_1 ?_
  refine own_aload_n H rfl rfl d11_4 ?_
  refine own_getfield H (w := 10) rfl hF2 d11_5 ?_
  refine own_arraylengthV H hV d11_8 ?_
  refine own_icmpne_f H d11_9 (by decide) ?_
  refine own_aload_n H rfl rfl d11_12 ?_
  refine own_getfield H (w := 10) rfl hF2 d11_13 ?_
  refine own_goto H (pc' := 30) d11_16 (by decide) (by decide) ?_
  exact own_areturn H rfl rfl rfl d11_30 (by decide) (by decide) ⟨rfl, rfl⟩
set_option maxHeartbeats 4000000 in
theorem rmAd2 (l : Launch) (Z : State) (a0 : Array Value) (hw : ∀ (i : Nat) (d : Jvm.Cond), tables_1[i]? = some d → d.before a0 Z = true) (h0 : Heap) (n0 : Nat) (a : Addr) (t0 : Addr) (hZ0 : n0 ≤ h0.size) (hE : Exa Z h0 a "com/example/shardline/shardline/http/BodyBytes") (hF1 : Fld Z h0 a "com/example/shardline/shardline/http/BodyBytes" "length" "I" (.int (0 : Int32))) (hF2 : Fld Z h0 a "com/example/shardline/shardline/http/BodyBytes" "bytes" "[B" (.ref t0)) (hA_a : n0 ≤ a) :
    own_C l Z (⟨"com/example/shardline/shardline/http/BodyBytes", "added", "(I)V"⟩ : MethodName) prog_18_method_4_code 2 none ({ frames := 0, cells := 0, slots := 0, locals := 0 } : Room) #[(.ref a), (.int (2 : Int32))] h0 n0 (fun v h' => v = none ∧ Keep h0 h' [a] ∧ Fld Z h' a "com/example/shardline/shardline/http/BodyBytes" "length" "I" (.int (2 : Int32)) ∧ Fld Z h' a "com/example/shardline/shardline/http/BodyBytes" "bytes" "[B" (.ref t0)) := by
  refine own_met (Ls := #[.val (.ref a), .val (.int (2 : Int32))]) hw own_pl10 (fun m => by first | (simp [entryFrame, mkF, argsToLocals, Value.category]; done) | rfl) ?_
  intro B H
  have hK : Keep h0 h0 [a] := Keep.refl _ _
  refine own_aload_n H rfl rfl d10_0 ?_
  refine own_dup H rfl d10_1 ?_
  refine own_getfield H (w := 19) rfl hF1 d10_2 ?_
  refine own_iload_n H rfl d10_5 ?_
  refine own_iadd (v := (2 : Int32)) H (by decide) d10_6 ?_
  refine own_putfield H (w := 19) (wi := 1) rfl hF1 hE hA_a (Or.inl (own_w H (i := 20) rfl)) rfl (ty := .int) (by decide) rfl rfl d10_7 ?_
  intro h1 W2
  have f3 : Exa Z h1 a "com/example/shardline/shardline/http/BodyBytes" := hE.wr W2
  have f4 : Fld Z h1 a "com/example/shardline/shardline/http/BodyBytes" "length" "I" (.int (2 : Int32)) := hF1.same W2
  have f5 : Fld Z h1 a "com/example/shardline/shardline/http/BodyBytes" "bytes" "[B" (.ref t0) := hF2.other W2 (Or.inr (slot_ne (Or.inl (own_w H (i := 11) rfl)) (Or.inl (own_w H (i := 20) rfl)) (by decide) (t := (.array .byte)) (t' := .int) (by decide) (by decide)))
  have f6 : n0 ≤ h1.size := by rw [W2.size]; exact hZ0
  have f7 : Keep h0 h1 [a] := hK.wr W2 (Or.inl (by simp))
  exact own_return H d10_10 (by decide) (by decide) ⟨rfl, f7, f4, f5⟩
set_option maxHeartbeats 4000000 in
theorem rmPut3 (l : Launch) (Z : State) (a0 : Array Value) (hw : ∀ (i : Nat) (d : Jvm.Cond), tables_1[i]? = some d → d.before a0 Z = true) (h0 : Heap) (n0 : Nat) (t : Addr) (p : Int64) (kA : ClassId) (n : Int32) (hZ0 : n0 ≤ h0.size) (hV : Arv Z h0 t kA .byte n [] (.int 0)) (hE : Exa Z h0 t "[B") (hkn : (3 : Int32).toInt ≤ n.toInt) (hA_t : n0 ≤ t) :
    own_C l Z (⟨"com/example/shardline/shardline/http/BodyBytesToArrayPinLaw", "put", "([BIJ)V"⟩ : MethodName) method_3_code 4 none ({ frames := 1, cells := 0, slots := 0, locals := 20 } : Room) #[(.ref t), (.int (3 : Int32)), (.long p)] h0 n0 (fun v h' => v = none ∧ Keep h0 h' [t] ∧ Arv Z h' t kA .byte n [(.int (FAt p (0 : Int32))), (.int (FAt p (1 : Int32))), (.int (FAt p (2 : Int32)))] (.int 0)) := by
  refine own_met (Ls := #[.val (.ref t), .val (.int (3 : Int32)), .val (.long p), .second]) hw own_pl8 (fun m => by first | (simp [entryFrame, mkF, argsToLocals, Value.category]; done) | rfl) ?_
  intro B H
  have hK : Keep h0 h0 [t] := Keep.refl _ _
  have f1 : Arv Z h0 t kA .byte n [(.int 0), (.int 0), (.int 0)] (.int 0) := hV.pad (pad_rep [] (.int 0) 3)
  refine own_iload_n H rfl d8_0 ?_
  refine own_ifle_f H d8_1 (by decide) ?_
  refine own_aload_n H rfl rfl d8_4 ?_
  refine own_iconst H (0 : Int32) (by decide) d8_5 ?_
  refine own_lload_n H rfl d8_6 ?_
  refine own_iconst H (0 : Int32) (by decide) d8_7 ?_
  refine own_invokestatic H (argsL := [(.long p), (.int (0 : Int32))]) (rest := [(.int (0 : Int32)), (.ref t)]) (rmAt l Z a0 (own_hw H) h0 n0 p (0 : Int32)) (w1 := 45) (w2 := 46) (w3 := 43) (w4 := 47) rfl rfl rfl rfl own_pd0 rfl 2 (by decide) rfl (by decide) (Nat.le_of_eq rfl) (by decide) (by decide) (by decide) rfl d8_8 ?_
  rintro _ _ ⟨rfl, rfl⟩
  show own_G _ _ _ _ _ _ _ _ 11 #[.val (.ref t), .val (.int (3 : Int32)), .val (.long p), .second] [(.int (FAt p (0 : Int32))), (.int (0 : Int32)), (.ref t)]
  refine own_bastoreV H f1 (by decide) (own_jn _ (3 : Int32) _ hkn (by decide)) 0 (by decide) (Nat.le_of_ble_eq_true rfl) hA_t (own_nb _ _) d8_11 ?_
  intro h2 W3 V4
  have f5 : Exa Z h2 t "[B" := hE.wr W3
  have f6 : n0 ≤ h2.size := by rw [W3.size]; exact hZ0
  have f7 : Keep h0 h2 [t] := hK.wr W3 (Or.inl (by simp))
  have f8 : Arv Z h2 t kA .byte n [(.int (FAt p (0 : Int32))), (.int 0), (.int 0)] (.int 0) := V4
  refine own_iload_n H rfl d8_12 ?_
  refine own_iconst H (1 : Int32) (by decide) d8_13 ?_
  refine own_icmple_f H d8_14 (by decide) ?_
  refine own_aload_n H rfl rfl d8_17 ?_
  refine own_iconst H (1 : Int32) (by decide) d8_18 ?_
  refine own_lload_n H rfl d8_19 ?_
  refine own_iconst H (1 : Int32) (by decide) d8_20 ?_
  refine own_invokestatic H (argsL := [(.long p), (.int (1 : Int32))]) (rest := [(.int (1 : Int32)), (.ref t)]) (rmAt l Z a0 (own_hw H) h2 n0 p (1 : Int32)) (w1 := 45) (w2 := 46) (w3 := 43) (w4 := 47) rfl rfl rfl rfl own_pd0 rfl 2 (by decide) rfl (by decide) (Nat.le_of_eq rfl) (by decide) (by decide) (by decide) rfl d8_21 ?_
  rintro _ _ ⟨rfl, rfl⟩
  show own_G _ _ _ _ _ _ _ _ 24 #[.val (.ref t), .val (.int (3 : Int32)), .val (.long p), .second] [(.int (FAt p (1 : Int32))), (.int (1 : Int32)), (.ref t)]
  refine own_bastoreV H f8 (by decide) (own_jn _ (3 : Int32) _ hkn (by decide)) 1 (by decide) (Nat.le_of_ble_eq_true rfl) hA_t (own_nb _ _) d8_24 ?_
  intro h9 W10 V11
  have f12 : Exa Z h9 t "[B" := f5.wr W10
  have f13 : n0 ≤ h9.size := by rw [W10.size]; exact f6
  have f14 : Keep h0 h9 [t] := f7.wr W10 (Or.inl (by simp))
  have f15 : Arv Z h9 t kA .byte n [(.int (FAt p (0 : Int32))), (.int (FAt p (1 : Int32))), (.int 0)] (.int 0) := V11
  refine own_iload_n H rfl d8_25 ?_
  refine own_iconst H (2 : Int32) (by decide) d8_26 ?_
  refine own_icmple_f H d8_27 (by decide) ?_
  refine own_aload_n H rfl rfl d8_30 ?_
  refine own_iconst H (2 : Int32) (by decide) d8_31 ?_
  refine own_lload_n H rfl d8_32 ?_
  refine own_iconst H (2 : Int32) (by decide) d8_33 ?_
  refine own_invokestatic H (argsL := [(.long p), (.int (2 : Int32))]) (rest := [(.int (2 : Int32)), (.ref t)]) (rmAt l Z a0 (own_hw H) h9 n0 p (2 : Int32)) (w1 := 45) (w2 := 46) (w3 := 43) (w4 := 47) rfl rfl rfl rfl own_pd0 rfl 2 (by decide) rfl (by decide) (Nat.le_of_eq rfl) (by decide) (by decide) (by decide) rfl d8_34 ?_
  rintro _ _ ⟨rfl, rfl⟩
  show own_G _ _ _ _ _ _ _ _ 37 #[.val (.ref t), .val (.int (3 : Int32)), .val (.long p), .second] [(.int (FAt p (2 : Int32))), (.int (2 : Int32)), (.ref t)]
  refine own_bastoreV H f15 (by decide) (own_jn _ (3 : Int32) _ hkn (by decide)) 2 (by decide) (Nat.le_of_ble_eq_true rfl) hA_t (own_nb _ _) d8_37 ?_
  intro h16 W17 V18
  have f19 : Exa Z h16 t "[B" := f12.wr W17
  have f20 : n0 ≤ h16.size := by rw [W17.size]; exact f13
  have f21 : Keep h0 h16 [t] := f14.wr W17 (Or.inl (by simp))
  have f22 : Arv Z h16 t kA .byte n [(.int (FAt p (0 : Int32))), (.int (FAt p (1 : Int32))), (.int (FAt p (2 : Int32)))] (.int 0) := V18
  refine own_iload_n H rfl d8_38 ?_
  refine own_iconst H (3 : Int32) (by decide) d8_39 ?_
  refine own_icmple_t H (pc' := 51) d8_40 (by decide) (by decide) (by decide) ?_
  refine own_iload_n H rfl d8_51 ?_
  refine own_iconst H (4 : Int32) (by decide) d8_52 ?_
  refine own_icmple_t H (pc' := 64) d8_53 (by decide) (by decide) (by decide) ?_
  refine own_iload_n H rfl d8_64 ?_
  refine own_iconst H (5 : Int32) (by decide) d8_65 ?_
  refine own_icmple_t H (pc' := 77) d8_66 (by decide) (by decide) (by decide) ?_
  refine own_iload_n H rfl d8_77 ?_
  refine own_bipush H (6 : Int32) (by decide) d8_78 ?_
  refine own_icmple_t H (pc' := 93) d8_80 (by decide) (by decide) (by decide) ?_
  refine own_iload_n H rfl d8_93 ?_
  refine own_bipush H (7 : Int32) (by decide) d8_94 ?_
  refine own_icmple_t H (pc' := 109) d8_96 (by decide) (by decide) (by decide) ?_
  exact own_return H d8_109 (by decide) (by decide) ⟨rfl, f21, f22⟩
set_option maxHeartbeats 4000000 in
theorem rmSm3 (l : Launch) (Z : State) (a0 : Array Value) (hw : ∀ (i : Nat) (d : Jvm.Cond), tables_1[i]? = some d → d.before a0 Z = true) (h0 : Heap) (n0 : Nat) (t : Addr) (p : Int64) (kA : ClassId) (hV : Arv Z h0 t kA .byte (3 : Int32) [(.int (FAt p (0 : Int32))), (.int (FAt p (1 : Int32))), (.int (FAt p (2 : Int32)))] (.int 0)) :
    own_C l Z (⟨"com/example/shardline/shardline/http/BodyBytesToArrayPinLaw", "same", "([BIJ)Z"⟩ : MethodName) method_4_code 4 (some .boolean) ({ frames := 1, cells := 0, slots := 0, locals := 20 } : Room) #[(.ref t), (.int (3 : Int32)), (.long p)] h0 n0 (fun v h' => v = some (.int (1 : Int32)) ∧ h0 = h') := by
  refine own_met (Ls := #[.val (.ref t), .val (.int (3 : Int32)), .val (.long p), .second]) hw own_pl12 (fun m => by first | (simp [entryFrame, mkF, argsToLocals, Value.category]; done) | rfl) ?_
  intro B H
  refine own_aload_n H rfl rfl d12_0 ?_
  refine own_arraylengthV H hV d12_1 ?_
  refine own_iload_n H rfl d12_2 ?_
  refine own_icmpeq_t H (pc' := 8) d12_3 (by decide) (by decide) (by decide) ?_
  refine own_iload_n H rfl d12_8 ?_
  refine own_ifle_f H d12_9 (by decide) ?_
  refine own_aload_n H rfl rfl d12_12 ?_
  refine own_iconst H (0 : Int32) (by decide) d12_13 ?_
  refine own_baloadV H hV (by decide) (by decide) rfl d12_14 ?_
  refine own_lload_n H rfl d12_15 ?_
  refine own_iconst H (0 : Int32) (by decide) d12_16 ?_
  refine own_invokestatic H (argsL := [(.long p), (.int (0 : Int32))]) (rest := [(.int (FAt p (0 : Int32)))]) (rmAt l Z a0 (own_hw H) h0 n0 p (0 : Int32)) (w1 := 45) (w2 := 46) (w3 := 43) (w4 := 47) rfl rfl rfl rfl own_pd0 rfl 1 (by decide) rfl (by decide) (Nat.le_of_eq rfl) (by decide) (by decide) (by decide) rfl d12_17 ?_
  rintro _ _ ⟨rfl, rfl⟩
  show own_G _ _ _ _ _ _ _ _ 20 #[.val (.ref t), .val (.int (3 : Int32)), .val (.long p), .second] [(.int (FAt p (0 : Int32))), (.int (FAt p (0 : Int32)))]
  refine own_icmpeq_t H (pc' := 25) d12_20 (by decide) (by decide) rfl ?_
  refine own_iload_n H rfl d12_25 ?_
  refine own_iconst H (1 : Int32) (by decide) d12_26 ?_
  refine own_icmple_f H d12_27 (by decide) ?_
  refine own_aload_n H rfl rfl d12_30 ?_
  refine own_iconst H (1 : Int32) (by decide) d12_31 ?_
  refine own_baloadV H hV (by decide) (by decide) rfl d12_32 ?_
  refine own_lload_n H rfl d12_33 ?_
  refine own_iconst H (1 : Int32) (by decide) d12_34 ?_
  refine own_invokestatic H (argsL := [(.long p), (.int (1 : Int32))]) (rest := [(.int (FAt p (1 : Int32)))]) (rmAt l Z a0 (own_hw H) h0 n0 p (1 : Int32)) (w1 := 45) (w2 := 46) (w3 := 43) (w4 := 47) rfl rfl rfl rfl own_pd0 rfl 1 (by decide) rfl (by decide) (Nat.le_of_eq rfl) (by decide) (by decide) (by decide) rfl d12_35 ?_
  rintro _ _ ⟨rfl, rfl⟩
  show own_G _ _ _ _ _ _ _ _ 38 #[.val (.ref t), .val (.int (3 : Int32)), .val (.long p), .second] [(.int (FAt p (1 : Int32))), (.int (FAt p (1 : Int32)))]
  refine own_icmpeq_t H (pc' := 43) d12_38 (by decide) (by decide) rfl ?_
  refine own_iload_n H rfl d12_43 ?_
  refine own_iconst H (2 : Int32) (by decide) d12_44 ?_
  refine own_icmple_f H d12_45 (by decide) ?_
  refine own_aload_n H rfl rfl d12_48 ?_
  refine own_iconst H (2 : Int32) (by decide) d12_49 ?_
  refine own_baloadV H hV (by decide) (by decide) rfl d12_50 ?_
  refine own_lload_n H rfl d12_51 ?_
  refine own_iconst H (2 : Int32) (by decide) d12_52 ?_
  refine own_invokestatic H (argsL := [(.long p), (.int (2 : Int32))]) (rest := [(.int (FAt p (2 : Int32)))]) (rmAt l Z a0 (own_hw H) h0 n0 p (2 : Int32)) (w1 := 45) (w2 := 46) (w3 := 43) (w4 := 47) rfl rfl rfl rfl own_pd0 rfl 1 (by decide) rfl (by decide) (Nat.le_of_eq rfl) (by decide) (by decide) (by decide) rfl d12_53 ?_
  rintro _ _ ⟨rfl, rfl⟩
  show own_G _ _ _ _ _ _ _ _ 56 #[.val (.ref t), .val (.int (3 : Int32)), .val (.long p), .second] [(.int (FAt p (2 : Int32))), (.int (FAt p (2 : Int32)))]
  refine own_icmpeq_t H (pc' := 61) d12_56 (by decide) (by decide) rfl ?_
  refine own_iload_n H rfl d12_61 ?_
  refine own_iconst H (3 : Int32) (by decide) d12_62 ?_
  refine own_icmple_t H (pc' := 79) d12_63 (by decide) (by decide) (by decide) ?_
  refine own_iload_n H rfl d12_79 ?_
  refine own_iconst H (4 : Int32) (by decide) d12_80 ?_
  refine own_icmple_t H (pc' := 97) d12_81 (by decide) (by decide) (by decide) ?_
  refine own_iload_n H rfl d12_97 ?_
  refine own_iconst H (5 : Int32) (by decide) d12_98 ?_
  refine own_icmple_t H (pc' := 115) d12_99 (by decide) (by decide) (by decide) ?_
  refine own_iload_n H rfl d12_115 ?_
  refine own_bipush H (6 : Int32) (by decide) d12_116 ?_
  refine own_icmple_t H (pc' := 136) d12_118 (by decide) (by decide) (by decide) ?_
  refine own_iload_n H rfl d12_136 ?_
  refine own_bipush H (7 : Int32) (by decide) d12_137 ?_
  refine own_icmple_t H (pc' := 157) d12_139 (by decide) (by decide) (by decide) ?_
  refine own_iconst H (1 : Int32) (by decide) d12_157 ?_
  exact own_ireturn H (by simp) (by decide) d12_158 (by decide) (by decide) ⟨rfl, rfl⟩
set_option maxHeartbeats 4000000 in
theorem rmCK3 (l : Launch) (Z : State) (a0 : Array Value) (hw : ∀ (i : Nat) (d : Jvm.Cond), tables_1[i]? = some d → d.before a0 Z = true) (h0 : Heap) (n0 : Nat) (t0 : Addr) (kA : ClassId) (n : Int32) (p : Int64) (hZ0 : n0 ≤ h0.size) (hV : Arv Z h0 t0 kA .byte n [(.int (FAt p (0 : Int32))), (.int (FAt p (1 : Int32))), (.int (FAt p (2 : Int32)))] (.int 0)) (hkn : (3 : Int32).toInt < n.toInt) :
    own_C l Z (⟨"java/util/Arrays", "copyOf", "([BI)[B"⟩ : MethodName) jdk_65_method_121_code 3 (some (.array .byte)) ({ frames := 1, cells := 1, slots := 3, locals := 31 } : Room) #[(.ref t0), (.int (3 : Int32))] h0 n0 (fun v h' => ∃ (a2 : Addr) (kA3 : ClassId), v = some (.ref a2) ∧ Keep h0 h' [] ∧ n0 ≤ a2 ∧ h0.size ≤ a2 ∧ a2 < h'.size ∧ Arv Z h' a2 kA3 .byte (3 : Int32) [(.int (FAt p (0 : Int32))), (.int (FAt p (1 : Int32))), (.int (FAt p (2 : Int32)))] (.int 0)) := by
  refine own_met (Ls := #[.val (.ref t0), .val (.int (3 : Int32)), .unset]) hw own_pl6 (fun m => by first | (simp [entryFrame, mkF, argsToLocals, Value.category]; done) | rfl) ?_
  intro B H
  have hK : Keep h0 h0 [] := Keep.refl _ _
  refine own_iload_n H rfl d6_0 ?_
  refine own_aload_n H rfl rfl d6_1 ?_
  refine own_arraylengthV H hV d6_2 ?_
  refine own_icmpne_t H (pc' := 14) d6_3 (by decide) (by decide) (own_nek _ _ hkn) ?_
  refine own_iload_n H rfl d6_14 ?_
  refine own_newarrayE H (w := 9) (n := (3 : Int32)) rfl "[B" (by decide) (by decide) 3 (by decide) (by decide) d6_15 (by decide) (by decide) ?_
  intro h1 a2 kA3 ha4 E5 V6 X7
  have f8 : t0 ≠ a2 := Nat.ne_of_lt (by rw [ha4]; exact hV.lt)
  have f9 : n0 ≤ a2 := by rw [ha4]; exact hZ0
  have f10 : h0.size ≤ a2 := by rw [ha4]; exact hK.1
  have f11 : Arv Z h1 t0 kA .byte n [(.int (FAt p (0 : Int32))), (.int (FAt p (1 : Int32))), (.int (FAt p (2 : Int32)))] (.int 0) := hV.ext E5
  have f12 : n0 ≤ h1.size := Nat.le_trans hZ0 E5.1
  have f13 : Keep h0 h1 [] := hK.ext E5
  have f14 : Arv Z h1 a2 kA3 .byte (3 : Int32) [(.int 0), (.int 0), (.int 0)] (.int 0) := V6.pad (pad_rep [] (.int 0) 3)
  show own_G _ _ _ _ _ _ _ _ 17 #[.val (.ref t0), .val (.int (3 : Int32)), .unset] [(.ref a2)]
  refine own_astore_n H rfl #[.val (.ref t0), .val (.int (3 : Int32)), .val (.ref a2)] rfl d6_17 ?_
  refine own_aload_n H rfl rfl d6_18 ?_
  refine own_iconst H (0 : Int32) (by decide) d6_19 ?_
  refine own_aload_n H rfl rfl d6_20 ?_
  refine own_iconst H (0 : Int32) (by decide) d6_21 ?_
  refine own_aload_n H rfl rfl d6_22 ?_
  refine own_arraylengthV H f11 d6_23 ?_
  refine own_iload_n H rfl d6_24 ?_
  refine own_invokestatic H (argsL := [(.int n), (.int (3 : Int32))]) (rest := [(.int (0 : Int32)), (.ref a2), (.int (0 : Int32)), (.ref t0)]) (rmMinI l Z a0 (own_hw H) h1 n0 n (3 : Int32)) (w1 := 33) (w2 := 34) (w3 := 24) (w4 := 35) rfl rfl rfl rfl own_pd2 rfl 4 (by decide) rfl (by decide) (Nat.le_of_eq rfl) (by decide) (by decide) (by decide) rfl d6_25 ?_
  rintro _ _ ⟨rfl, rfl⟩
  show own_G _ _ _ _ _ _ _ _ 28 #[.val (.ref t0), .val (.int (3 : Int32)), .val (.ref a2)] [(.int (FMinI n (3 : Int32))), (.int (0 : Int32)), (.ref a2), (.int (0 : Int32)), (.ref t0)]
  rw [own_mink n (3 : Int32) hkn]
  show own_G _ _ _ _ _ _ _ _ 28 #[.val (.ref t0), .val (.int (3 : Int32)), .val (.ref a2)] [(.int (3 : Int32)), (.int (0 : Int32)), (.ref a2), (.int (0 : Int32)), (.ref t0)]
  refine own_arraycopy H (w1 := 36) (w2 := 39) (w3 := 37) (w4 := 38) rfl rfl rfl rfl (us := [(.int (FAt p (0 : Int32))), (.int (FAt p (1 : Int32))), (.int (FAt p (2 : Int32)))]) f11 f14 rfl (by decide) (by decide) (by decide) (own_kn (by decide) hkn) (by decide) rfl (Nat.le_of_ble_eq_true rfl) f9 rfl (by decide) 0 (Nat.le_of_eq rfl) (by decide) d6_28 ?_
  intro h15 K16 V17
  have f18 : Arv Z h15 t0 kA .byte n [(.int (FAt p (0 : Int32))), (.int (FAt p (1 : Int32))), (.int (FAt p (2 : Int32)))] (.int 0) := f11.keep K16 (ninS f8 nin0)
  have f19 : n0 ≤ h15.size := Nat.le_trans f12 K16.1
  have f20 : Keep h0 h15 [] := f13.trans K16 (allS (Or.inr f10) all0)
  have f21 : Exa Z h15 a2 "[B" := X7.keep K16
  have f22 : Arv Z h15 a2 kA3 .byte (3 : Int32) [(.int (FAt p (0 : Int32))), (.int (FAt p (1 : Int32))), (.int (FAt p (2 : Int32)))] (.int 0) := V17
  show own_G _ _ _ _ _ _ _ _ 31 #[.val (.ref t0), .val (.int (3 : Int32)), .val (.ref a2)] []
  refine own_aload_n H rfl rfl d6_31 ?_
  exact own_areturn H rfl rfl rfl d6_32 (by decide) (by decide) ⟨a2, kA3, rfl, f20, f9, f10, f21.lt, f22⟩
set_option maxHeartbeats 4000000 in
theorem rmTn3 (l : Launch) (Z : State) (a0 : Array Value) (hw : ∀ (i : Nat) (d : Jvm.Cond), tables_1[i]? = some d → d.before a0 Z = true) (h0 : Heap) (n0 : Nat) (a : Addr) (t0 : Addr) (kA : ClassId) (n : Int32) (p : Int64) (hZ0 : n0 ≤ h0.size) (hE : Exa Z h0 a "com/example/shardline/shardline/http/BodyBytes") (hF1 : Fld Z h0 a "com/example/shardline/shardline/http/BodyBytes" "length" "I" (.int (3 : Int32))) (hF2 : Fld Z h0 a "com/example/shardline/shardline/http/BodyBytes" "bytes" "[B" (.ref t0)) (hV : Arv Z h0 t0 kA .byte n [(.int (FAt p (0 : Int32))), (.int (FAt p (1 : Int32))), (.int (FAt p (2 : Int32)))] (.int 0)) (hkn : (3 : Int32).toInt < n.toInt) :
    own_C l Z (⟨"com/example/shardline/shardline/http/BodyBytes", "toArray", "()[B"⟩ : MethodName) prog_18_method_5_code 1 (some (.array .byte)) ({ frames := 2, cells := 1, slots := 3, locals := 50 } : Room) #[(.ref a)] h0 n0 (fun v h' => ∃ (a3 : Addr) (kA4 : ClassId), v = some (.ref a3) ∧ Keep h0 h' [] ∧ n0 ≤ a3 ∧ h0.size ≤ a3 ∧ a3 < h'.size ∧ Arv Z h' a3 kA4 .byte (3 : Int32) [(.int (FAt p (0 : Int32))), (.int (FAt p (1 : Int32))), (.int (FAt p (2 : Int32)))] (.int 0)) := by
  refine own_met (Ls := #[.val (.ref a)]) hw own_pl11 (fun m => by first | (simp [entryFrame, mkF, argsToLocals, Value.category]; done) | rfl) ?_
  intro B H
  have hK : Keep h0 h0 [] := Keep.refl _ _
  refine own_aload_n H rfl rfl d11_0 ?_
  refine own_getfield H (w := 19) rfl hF1 d11_1 ?_
  refine own_aload_n H rfl rfl d11_4 ?_
  refine own_getfield H (w := 10) rfl hF2 d11_5 ?_
  refine own_arraylengthV H hV d11_8 ?_
  refine own_icmpne_t H (pc' := 19) d11_9 (by decide) (by decide) (own_nek _ _ hkn) ?_
  refine own_aload_n H rfl rfl d11_19 ?_
  refine own_getfield H (w := 10) rfl hF2 d11_20 ?_
  refine own_aload_n H rfl rfl d11_23 ?_
  refine own_getfield H (w := 19) rfl hF1 d11_24 ?_
  refine own_invokestatic H (argsL := [(.ref t0), (.int (3 : Int32))]) (rest := []) (rmCK3 l Z a0 (own_hw H) h0 n0 t0 kA n p hZ0 hV hkn) (w1 := 29) (w2 := 30) (w3 := 31) (w4 := 32) rfl rfl rfl rfl own_pd4 rfl 0 (by decide) rfl (by decide) (Nat.le_of_eq rfl) (by decide) (by decide) (by decide) rfl d11_27 ?_
  rintro _ h1 ⟨a3, kA4, rfl, K2, f5, f6, f7, f8⟩
  have f9 : a ≠ a3 := Nat.ne_of_lt (Nat.lt_of_lt_of_le hE.lt f6)
  have f10 : t0 ≠ a3 := Nat.ne_of_lt (Nat.lt_of_lt_of_le hV.lt f6)
  have f11 : h0.size ≤ a3 := Nat.le_trans hK.1 f6
  have f12 : Exa Z h1 a "com/example/shardline/shardline/http/BodyBytes" := hE.keep K2
  have f13 : Fld Z h1 a "com/example/shardline/shardline/http/BodyBytes" "length" "I" (.int (3 : Int32)) := hF1.keep K2 nin0
  have f14 : Fld Z h1 a "com/example/shardline/shardline/http/BodyBytes" "bytes" "[B" (.ref t0) := hF2.keep K2 nin0
  have f15 : Arv Z h1 t0 kA .byte n [(.int (FAt p (0 : Int32))), (.int (FAt p (1 : Int32))), (.int (FAt p (2 : Int32)))] (.int 0) := hV.keep K2 nin0
  have f16 : n0 ≤ h1.size := Nat.le_trans hZ0 K2.1
  have f17 : Keep h0 h1 [] := hK.trans K2 all0
  show own_G _ _ _ _ _ _ _ _ 30 #[.val (.ref a)] [(.ref a3)]
  exact own_areturn H rfl rfl rfl d11_30 (by decide) (by decide) ⟨a3, kA4, rfl, f17, f5, f11, f8.lt, f8⟩
set_option maxHeartbeats 4000000 in
theorem rmTe3 (l : Launch) (Z : State) (a0 : Array Value) (hw : ∀ (i : Nat) (d : Jvm.Cond), tables_1[i]? = some d → d.before a0 Z = true) (h0 : Heap) (n0 : Nat) (a : Addr) (t0 : Addr) (kA : ClassId) (p : Int64) (hE : Exa Z h0 a "com/example/shardline/shardline/http/BodyBytes") (hF1 : Fld Z h0 a "com/example/shardline/shardline/http/BodyBytes" "length" "I" (.int (3 : Int32))) (hF2 : Fld Z h0 a "com/example/shardline/shardline/http/BodyBytes" "bytes" "[B" (.ref t0)) (hV : Arv Z h0 t0 kA .byte (3 : Int32) [(.int (FAt p (0 : Int32))), (.int (FAt p (1 : Int32))), (.int (FAt p (2 : Int32)))] (.int 0)) :
    own_C l Z (⟨"com/example/shardline/shardline/http/BodyBytes", "toArray", "()[B"⟩ : MethodName) prog_18_method_5_code 1 (some (.array .byte)) ({ frames := 0, cells := 0, slots := 0, locals := 0 } : Room) #[(.ref a)] h0 n0 (fun v h' => v = some (.ref t0) ∧ h0 = h') := by
  refine own_met (Ls := #[.val (.ref a)]) hw own_pl11 (fun m => by first | (simp [entryFrame, mkF, argsToLocals, Value.category]; done) | rfl) ?_
  intro B H
  refine own_aload_n H rfl rfl d11_0 ?_
  refine own_getfield H (w := 19) rfl hF1 d11_1 ?_
  refine own_aload_n H rfl rfl d11_4 ?_
  refine own_getfield H (w := 10) rfl hF2 d11_5 ?_
  refine own_arraylengthV H hV d11_8 ?_
  refine own_icmpne_f H d11_9 (by decide) ?_
  refine own_aload_n H rfl rfl d11_12 ?_
  refine own_getfield H (w := 10) rfl hF2 d11_13 ?_
  refine own_goto H (pc' := 30) d11_16 (by decide) (by decide) ?_
  exact own_areturn H rfl rfl rfl d11_30 (by decide) (by decide) ⟨rfl, rfl⟩
set_option maxHeartbeats 4000000 in
theorem rmAd3 (l : Launch) (Z : State) (a0 : Array Value) (hw : ∀ (i : Nat) (d : Jvm.Cond), tables_1[i]? = some d → d.before a0 Z = true) (h0 : Heap) (n0 : Nat) (a : Addr) (t0 : Addr) (hZ0 : n0 ≤ h0.size) (hE : Exa Z h0 a "com/example/shardline/shardline/http/BodyBytes") (hF1 : Fld Z h0 a "com/example/shardline/shardline/http/BodyBytes" "length" "I" (.int (0 : Int32))) (hF2 : Fld Z h0 a "com/example/shardline/shardline/http/BodyBytes" "bytes" "[B" (.ref t0)) (hA_a : n0 ≤ a) :
    own_C l Z (⟨"com/example/shardline/shardline/http/BodyBytes", "added", "(I)V"⟩ : MethodName) prog_18_method_4_code 2 none ({ frames := 0, cells := 0, slots := 0, locals := 0 } : Room) #[(.ref a), (.int (3 : Int32))] h0 n0 (fun v h' => v = none ∧ Keep h0 h' [a] ∧ Fld Z h' a "com/example/shardline/shardline/http/BodyBytes" "length" "I" (.int (3 : Int32)) ∧ Fld Z h' a "com/example/shardline/shardline/http/BodyBytes" "bytes" "[B" (.ref t0)) := by
  refine own_met (Ls := #[.val (.ref a), .val (.int (3 : Int32))]) hw own_pl10 (fun m => by first | (simp [entryFrame, mkF, argsToLocals, Value.category]; done) | rfl) ?_
  intro B H
  have hK : Keep h0 h0 [a] := Keep.refl _ _
  refine own_aload_n H rfl rfl d10_0 ?_
  refine own_dup H rfl d10_1 ?_
  refine own_getfield H (w := 19) rfl hF1 d10_2 ?_
  refine own_iload_n H rfl d10_5 ?_
  refine own_iadd (v := (3 : Int32)) H (by decide) d10_6 ?_
  refine own_putfield H (w := 19) (wi := 1) rfl hF1 hE hA_a (Or.inl (own_w H (i := 20) rfl)) rfl (ty := .int) (by decide) rfl rfl d10_7 ?_
  intro h1 W2
  have f3 : Exa Z h1 a "com/example/shardline/shardline/http/BodyBytes" := hE.wr W2
  have f4 : Fld Z h1 a "com/example/shardline/shardline/http/BodyBytes" "length" "I" (.int (3 : Int32)) := hF1.same W2
  have f5 : Fld Z h1 a "com/example/shardline/shardline/http/BodyBytes" "bytes" "[B" (.ref t0) := hF2.other W2 (Or.inr (slot_ne (Or.inl (own_w H (i := 11) rfl)) (Or.inl (own_w H (i := 20) rfl)) (by decide) (t := (.array .byte)) (t' := .int) (by decide) (by decide)))
  have f6 : n0 ≤ h1.size := by rw [W2.size]; exact hZ0
  have f7 : Keep h0 h1 [a] := hK.wr W2 (Or.inl (by simp))
  exact own_return H d10_10 (by decide) (by decide) ⟨rfl, f7, f4, f5⟩
set_option maxHeartbeats 4000000 in
theorem rmPut4 (l : Launch) (Z : State) (a0 : Array Value) (hw : ∀ (i : Nat) (d : Jvm.Cond), tables_1[i]? = some d → d.before a0 Z = true) (h0 : Heap) (n0 : Nat) (t : Addr) (p : Int64) (kA : ClassId) (n : Int32) (hZ0 : n0 ≤ h0.size) (hV : Arv Z h0 t kA .byte n [] (.int 0)) (hE : Exa Z h0 t "[B") (hkn : (4 : Int32).toInt ≤ n.toInt) (hA_t : n0 ≤ t) :
    own_C l Z (⟨"com/example/shardline/shardline/http/BodyBytesToArrayPinLaw", "put", "([BIJ)V"⟩ : MethodName) method_3_code 4 none ({ frames := 1, cells := 0, slots := 0, locals := 20 } : Room) #[(.ref t), (.int (4 : Int32)), (.long p)] h0 n0 (fun v h' => v = none ∧ Keep h0 h' [t] ∧ Arv Z h' t kA .byte n [(.int (FAt p (0 : Int32))), (.int (FAt p (1 : Int32))), (.int (FAt p (2 : Int32))), (.int (FAt p (3 : Int32)))] (.int 0)) := by
  refine own_met (Ls := #[.val (.ref t), .val (.int (4 : Int32)), .val (.long p), .second]) hw own_pl8 (fun m => by first | (simp [entryFrame, mkF, argsToLocals, Value.category]; done) | rfl) ?_
  intro B H
  have hK : Keep h0 h0 [t] := Keep.refl _ _
  have f1 : Arv Z h0 t kA .byte n [(.int 0), (.int 0), (.int 0), (.int 0)] (.int 0) := hV.pad (pad_rep [] (.int 0) 4)
  refine own_iload_n H rfl d8_0 ?_
  refine own_ifle_f H d8_1 (by decide) ?_
  refine own_aload_n H rfl rfl d8_4 ?_
  refine own_iconst H (0 : Int32) (by decide) d8_5 ?_
  refine own_lload_n H rfl d8_6 ?_
  refine own_iconst H (0 : Int32) (by decide) d8_7 ?_
  refine own_invokestatic H (argsL := [(.long p), (.int (0 : Int32))]) (rest := [(.int (0 : Int32)), (.ref t)]) (rmAt l Z a0 (own_hw H) h0 n0 p (0 : Int32)) (w1 := 45) (w2 := 46) (w3 := 43) (w4 := 47) rfl rfl rfl rfl own_pd0 rfl 2 (by decide) rfl (by decide) (Nat.le_of_eq rfl) (by decide) (by decide) (by decide) rfl d8_8 ?_
  rintro _ _ ⟨rfl, rfl⟩
  show own_G _ _ _ _ _ _ _ _ 11 #[.val (.ref t), .val (.int (4 : Int32)), .val (.long p), .second] [(.int (FAt p (0 : Int32))), (.int (0 : Int32)), (.ref t)]
  refine own_bastoreV H f1 (by decide) (own_jn _ (4 : Int32) _ hkn (by decide)) 0 (by decide) (Nat.le_of_ble_eq_true rfl) hA_t (own_nb _ _) d8_11 ?_
  intro h2 W3 V4
  have f5 : Exa Z h2 t "[B" := hE.wr W3
  have f6 : n0 ≤ h2.size := by rw [W3.size]; exact hZ0
  have f7 : Keep h0 h2 [t] := hK.wr W3 (Or.inl (by simp))
  have f8 : Arv Z h2 t kA .byte n [(.int (FAt p (0 : Int32))), (.int 0), (.int 0), (.int 0)] (.int 0) := V4
  refine own_iload_n H rfl d8_12 ?_
  refine own_iconst H (1 : Int32) (by decide) d8_13 ?_
  refine own_icmple_f H d8_14 (by decide) ?_
  refine own_aload_n H rfl rfl d8_17 ?_
  refine own_iconst H (1 : Int32) (by decide) d8_18 ?_
  refine own_lload_n H rfl d8_19 ?_
  refine own_iconst H (1 : Int32) (by decide) d8_20 ?_
  refine own_invokestatic H (argsL := [(.long p), (.int (1 : Int32))]) (rest := [(.int (1 : Int32)), (.ref t)]) (rmAt l Z a0 (own_hw H) h2 n0 p (1 : Int32)) (w1 := 45) (w2 := 46) (w3 := 43) (w4 := 47) rfl rfl rfl rfl own_pd0 rfl 2 (by decide) rfl (by decide) (Nat.le_of_eq rfl) (by decide) (by decide) (by decide) rfl d8_21 ?_
  rintro _ _ ⟨rfl, rfl⟩
  show own_G _ _ _ _ _ _ _ _ 24 #[.val (.ref t), .val (.int (4 : Int32)), .val (.long p), .second] [(.int (FAt p (1 : Int32))), (.int (1 : Int32)), (.ref t)]
  refine own_bastoreV H f8 (by decide) (own_jn _ (4 : Int32) _ hkn (by decide)) 1 (by decide) (Nat.le_of_ble_eq_true rfl) hA_t (own_nb _ _) d8_24 ?_
  intro h9 W10 V11
  have f12 : Exa Z h9 t "[B" := f5.wr W10
  have f13 : n0 ≤ h9.size := by rw [W10.size]; exact f6
  have f14 : Keep h0 h9 [t] := f7.wr W10 (Or.inl (by simp))
  have f15 : Arv Z h9 t kA .byte n [(.int (FAt p (0 : Int32))), (.int (FAt p (1 : Int32))), (.int 0), (.int 0)] (.int 0) := V11
  refine own_iload_n H rfl d8_25 ?_
  refine own_iconst H (2 : Int32) (by decide) d8_26 ?_
  refine own_icmple_f H d8_27 (by decide) ?_
  refine own_aload_n H rfl rfl d8_30 ?_
  refine own_iconst H (2 : Int32) (by decide) d8_31 ?_
  refine own_lload_n H rfl d8_32 ?_
  refine own_iconst H (2 : Int32) (by decide) d8_33 ?_
  refine own_invokestatic H (argsL := [(.long p), (.int (2 : Int32))]) (rest := [(.int (2 : Int32)), (.ref t)]) (rmAt l Z a0 (own_hw H) h9 n0 p (2 : Int32)) (w1 := 45) (w2 := 46) (w3 := 43) (w4 := 47) rfl rfl rfl rfl own_pd0 rfl 2 (by decide) rfl (by decide) (Nat.le_of_eq rfl) (by decide) (by decide) (by decide) rfl d8_34 ?_
  rintro _ _ ⟨rfl, rfl⟩
  show own_G _ _ _ _ _ _ _ _ 37 #[.val (.ref t), .val (.int (4 : Int32)), .val (.long p), .second] [(.int (FAt p (2 : Int32))), (.int (2 : Int32)), (.ref t)]
  refine own_bastoreV H f15 (by decide) (own_jn _ (4 : Int32) _ hkn (by decide)) 2 (by decide) (Nat.le_of_ble_eq_true rfl) hA_t (own_nb _ _) d8_37 ?_
  intro h16 W17 V18
  have f19 : Exa Z h16 t "[B" := f12.wr W17
  have f20 : n0 ≤ h16.size := by rw [W17.size]; exact f13
  have f21 : Keep h0 h16 [t] := f14.wr W17 (Or.inl (by simp))
  have f22 : Arv Z h16 t kA .byte n [(.int (FAt p (0 : Int32))), (.int (FAt p (1 : Int32))), (.int (FAt p (2 : Int32))), (.int 0)] (.int 0) := V18
  refine own_iload_n H rfl d8_38 ?_
  refine own_iconst H (3 : Int32) (by decide) d8_39 ?_
  refine own_icmple_f H d8_40 (by decide) ?_
  refine own_aload_n H rfl rfl d8_43 ?_
  refine own_iconst H (3 : Int32) (by decide) d8_44 ?_
  refine own_lload_n H rfl d8_45 ?_
  refine own_iconst H (3 : Int32) (by decide) d8_46 ?_
  refine own_invokestatic H (argsL := [(.long p), (.int (3 : Int32))]) (rest := [(.int (3 : Int32)), (.ref t)]) (rmAt l Z a0 (own_hw H) h16 n0 p (3 : Int32)) (w1 := 45) (w2 := 46) (w3 := 43) (w4 := 47) rfl rfl rfl rfl own_pd0 rfl 2 (by decide) rfl (by decide) (Nat.le_of_eq rfl) (by decide) (by decide) (by decide) rfl d8_47 ?_
  rintro _ _ ⟨rfl, rfl⟩
  show own_G _ _ _ _ _ _ _ _ 50 #[.val (.ref t), .val (.int (4 : Int32)), .val (.long p), .second] [(.int (FAt p (3 : Int32))), (.int (3 : Int32)), (.ref t)]
  refine own_bastoreV H f22 (by decide) (own_jn _ (4 : Int32) _ hkn (by decide)) 3 (by decide) (Nat.le_of_ble_eq_true rfl) hA_t (own_nb _ _) d8_50 ?_
  intro h23 W24 V25
  have f26 : Exa Z h23 t "[B" := f19.wr W24
  have f27 : n0 ≤ h23.size := by rw [W24.size]; exact f20
  have f28 : Keep h0 h23 [t] := f21.wr W24 (Or.inl (by simp))
  have f29 : Arv Z h23 t kA .byte n [(.int (FAt p (0 : Int32))), (.int (FAt p (1 : Int32))), (.int (FAt p (2 : Int32))), (.int (FAt p (3 : Int32)))] (.int 0) := V25
  refine own_iload_n H rfl d8_51 ?_
  refine own_iconst H (4 : Int32) (by decide) d8_52 ?_
  refine own_icmple_t H (pc' := 64) d8_53 (by decide) (by decide) (by decide) ?_
  refine own_iload_n H rfl d8_64 ?_
  refine own_iconst H (5 : Int32) (by decide) d8_65 ?_
  refine own_icmple_t H (pc' := 77) d8_66 (by decide) (by decide) (by decide) ?_
  refine own_iload_n H rfl d8_77 ?_
  refine own_bipush H (6 : Int32) (by decide) d8_78 ?_
  refine own_icmple_t H (pc' := 93) d8_80 (by decide) (by decide) (by decide) ?_
  refine own_iload_n H rfl d8_93 ?_
  refine own_bipush H (7 : Int32) (by decide) d8_94 ?_
  refine own_icmple_t H (pc' := 109) d8_96 (by decide) (by decide) (by decide) ?_
  exact own_return H d8_109 (by decide) (by decide) ⟨rfl, f28, f29⟩
set_option maxHeartbeats 4000000 in
theorem rmSm4 (l : Launch) (Z : State) (a0 : Array Value) (hw : ∀ (i : Nat) (d : Jvm.Cond), tables_1[i]? = some d → d.before a0 Z = true) (h0 : Heap) (n0 : Nat) (t : Addr) (p : Int64) (kA : ClassId) (hV : Arv Z h0 t kA .byte (4 : Int32) [(.int (FAt p (0 : Int32))), (.int (FAt p (1 : Int32))), (.int (FAt p (2 : Int32))), (.int (FAt p (3 : Int32)))] (.int 0)) :
    own_C l Z (⟨"com/example/shardline/shardline/http/BodyBytesToArrayPinLaw", "same", "([BIJ)Z"⟩ : MethodName) method_4_code 4 (some .boolean) ({ frames := 1, cells := 0, slots := 0, locals := 20 } : Room) #[(.ref t), (.int (4 : Int32)), (.long p)] h0 n0 (fun v h' => v = some (.int (1 : Int32)) ∧ h0 = h') := by
  refine own_met (Ls := #[.val (.ref t), .val (.int (4 : Int32)), .val (.long p), .second]) hw own_pl12 (fun m => by first | (simp [entryFrame, mkF, argsToLocals, Value.category]; done) | rfl) ?_
  intro B H
  refine own_aload_n H rfl rfl d12_0 ?_
  refine own_arraylengthV H hV d12_1 ?_
  refine own_iload_n H rfl d12_2 ?_
  refine own_icmpeq_t H (pc' := 8) d12_3 (by decide) (by decide) (by decide) ?_
  refine own_iload_n H rfl d12_8 ?_
  refine own_ifle_f H d12_9 (by decide) ?_
  refine own_aload_n H rfl rfl d12_12 ?_
  refine own_iconst H (0 : Int32) (by decide) d12_13 ?_
  refine own_baloadV H hV (by decide) (by decide) rfl d12_14 ?_
  refine own_lload_n H rfl d12_15 ?_
  refine own_iconst H (0 : Int32) (by decide) d12_16 ?_
  refine own_invokestatic H (argsL := [(.long p), (.int (0 : Int32))]) (rest := [(.int (FAt p (0 : Int32)))]) (rmAt l Z a0 (own_hw H) h0 n0 p (0 : Int32)) (w1 := 45) (w2 := 46) (w3 := 43) (w4 := 47) rfl rfl rfl rfl own_pd0 rfl 1 (by decide) rfl (by decide) (Nat.le_of_eq rfl) (by decide) (by decide) (by decide) rfl d12_17 ?_
  rintro _ _ ⟨rfl, rfl⟩
  show own_G _ _ _ _ _ _ _ _ 20 #[.val (.ref t), .val (.int (4 : Int32)), .val (.long p), .second] [(.int (FAt p (0 : Int32))), (.int (FAt p (0 : Int32)))]
  refine own_icmpeq_t H (pc' := 25) d12_20 (by decide) (by decide) rfl ?_
  refine own_iload_n H rfl d12_25 ?_
  refine own_iconst H (1 : Int32) (by decide) d12_26 ?_
  refine own_icmple_f H d12_27 (by decide) ?_
  refine own_aload_n H rfl rfl d12_30 ?_
  refine own_iconst H (1 : Int32) (by decide) d12_31 ?_
  refine own_baloadV H hV (by decide) (by decide) rfl d12_32 ?_
  refine own_lload_n H rfl d12_33 ?_
  refine own_iconst H (1 : Int32) (by decide) d12_34 ?_
  refine own_invokestatic H (argsL := [(.long p), (.int (1 : Int32))]) (rest := [(.int (FAt p (1 : Int32)))]) (rmAt l Z a0 (own_hw H) h0 n0 p (1 : Int32)) (w1 := 45) (w2 := 46) (w3 := 43) (w4 := 47) rfl rfl rfl rfl own_pd0 rfl 1 (by decide) rfl (by decide) (Nat.le_of_eq rfl) (by decide) (by decide) (by decide) rfl d12_35 ?_
  rintro _ _ ⟨rfl, rfl⟩
  show own_G _ _ _ _ _ _ _ _ 38 #[.val (.ref t), .val (.int (4 : Int32)), .val (.long p), .second] [(.int (FAt p (1 : Int32))), (.int (FAt p (1 : Int32)))]
  refine own_icmpeq_t H (pc' := 43) d12_38 (by decide) (by decide) rfl ?_
  refine own_iload_n H rfl d12_43 ?_
  refine own_iconst H (2 : Int32) (by decide) d12_44 ?_
  refine own_icmple_f H d12_45 (by decide) ?_
  refine own_aload_n H rfl rfl d12_48 ?_
  refine own_iconst H (2 : Int32) (by decide) d12_49 ?_
  refine own_baloadV H hV (by decide) (by decide) rfl d12_50 ?_
  refine own_lload_n H rfl d12_51 ?_
  refine own_iconst H (2 : Int32) (by decide) d12_52 ?_
  refine own_invokestatic H (argsL := [(.long p), (.int (2 : Int32))]) (rest := [(.int (FAt p (2 : Int32)))]) (rmAt l Z a0 (own_hw H) h0 n0 p (2 : Int32)) (w1 := 45) (w2 := 46) (w3 := 43) (w4 := 47) rfl rfl rfl rfl own_pd0 rfl 1 (by decide) rfl (by decide) (Nat.le_of_eq rfl) (by decide) (by decide) (by decide) rfl d12_53 ?_
  rintro _ _ ⟨rfl, rfl⟩
  show own_G _ _ _ _ _ _ _ _ 56 #[.val (.ref t), .val (.int (4 : Int32)), .val (.long p), .second] [(.int (FAt p (2 : Int32))), (.int (FAt p (2 : Int32)))]
  refine own_icmpeq_t H (pc' := 61) d12_56 (by decide) (by decide) rfl ?_
  refine own_iload_n H rfl d12_61 ?_
  refine own_iconst H (3 : Int32) (by decide) d12_62 ?_
  refine own_icmple_f H d12_63 (by decide) ?_
  refine own_aload_n H rfl rfl d12_66 ?_
  refine own_iconst H (3 : Int32) (by decide) d12_67 ?_
  refine own_baloadV H hV (by decide) (by decide) rfl d12_68 ?_
  refine own_lload_n H rfl d12_69 ?_
  refine own_iconst H (3 : Int32) (by decide) d12_70 ?_
  refine own_invokestatic H (argsL := [(.long p), (.int (3 : Int32))]) (rest := [(.int (FAt p (3 : Int32)))]) (rmAt l Z a0 (own_hw H) h0 n0 p (3 : Int32)) (w1 := 45) (w2 := 46) (w3 := 43) (w4 := 47) rfl rfl rfl rfl own_pd0 rfl 1 (by decide) rfl (by decide) (Nat.le_of_eq rfl) (by decide) (by decide) (by decide) rfl d12_71 ?_
  rintro _ _ ⟨rfl, rfl⟩
  show own_G _ _ _ _ _ _ _ _ 74 #[.val (.ref t), .val (.int (4 : Int32)), .val (.long p), .second] [(.int (FAt p (3 : Int32))), (.int (FAt p (3 : Int32)))]
  refine own_icmpeq_t H (pc' := 79) d12_74 (by decide) (by decide) rfl ?_
  refine own_iload_n H rfl d12_79 ?_
  refine own_iconst H (4 : Int32) (by decide) d12_80 ?_
  refine own_icmple_t H (pc' := 97) d12_81 (by decide) (by decide) (by decide) ?_
  refine own_iload_n H rfl d12_97 ?_
  refine own_iconst H (5 : Int32) (by decide) d12_98 ?_
  refine own_icmple_t H (pc' := 115) d12_99 (by decide) (by decide) (by decide) ?_
  refine own_iload_n H rfl d12_115 ?_
  refine own_bipush H (6 : Int32) (by decide) d12_116 ?_
  refine own_icmple_t H (pc' := 136) d12_118 (by decide) (by decide) (by decide) ?_
  refine own_iload_n H rfl d12_136 ?_
  refine own_bipush H (7 : Int32) (by decide) d12_137 ?_
  refine own_icmple_t H (pc' := 157) d12_139 (by decide) (by decide) (by decide) ?_
  refine own_iconst H (1 : Int32) (by decide) d12_157 ?_
  exact own_ireturn H (by simp) (by decide) d12_158 (by decide) (by decide) ⟨rfl, rfl⟩
set_option maxHeartbeats 4000000 in
theorem rmCK4 (l : Launch) (Z : State) (a0 : Array Value) (hw : ∀ (i : Nat) (d : Jvm.Cond), tables_1[i]? = some d → d.before a0 Z = true) (h0 : Heap) (n0 : Nat) (t0 : Addr) (kA : ClassId) (n : Int32) (p : Int64) (hZ0 : n0 ≤ h0.size) (hV : Arv Z h0 t0 kA .byte n [(.int (FAt p (0 : Int32))), (.int (FAt p (1 : Int32))), (.int (FAt p (2 : Int32))), (.int (FAt p (3 : Int32)))] (.int 0)) (hkn : (4 : Int32).toInt < n.toInt) :
    own_C l Z (⟨"java/util/Arrays", "copyOf", "([BI)[B"⟩ : MethodName) jdk_65_method_121_code 3 (some (.array .byte)) ({ frames := 1, cells := 1, slots := 4, locals := 31 } : Room) #[(.ref t0), (.int (4 : Int32))] h0 n0 (fun v h' => ∃ (a2 : Addr) (kA3 : ClassId), v = some (.ref a2) ∧ Keep h0 h' [] ∧ n0 ≤ a2 ∧ h0.size ≤ a2 ∧ a2 < h'.size ∧ Arv Z h' a2 kA3 .byte (4 : Int32) [(.int (FAt p (0 : Int32))), (.int (FAt p (1 : Int32))), (.int (FAt p (2 : Int32))), (.int (FAt p (3 : Int32)))] (.int 0)) := by
  refine own_met (Ls := #[.val (.ref t0), .val (.int (4 : Int32)), .unset]) hw own_pl6 (fun m => by first | (simp [entryFrame, mkF, argsToLocals, Value.category]; done) | rfl) ?_
  intro B H
  have hK : Keep h0 h0 [] := Keep.refl _ _
  refine own_iload_n H rfl d6_0 ?_
  refine own_aload_n H rfl rfl d6_1 ?_
  refine own_arraylengthV H hV d6_2 ?_
  refine own_icmpne_t H (pc' := 14) d6_3 (by decide) (by decide) (own_nek _ _ hkn) ?_
  refine own_iload_n H rfl d6_14 ?_
  refine own_newarrayE H (w := 9) (n := (4 : Int32)) rfl "[B" (by decide) (by decide) 4 (by decide) (by decide) d6_15 (by decide) (by decide) ?_
  intro h1 a2 kA3 ha4 E5 V6 X7
  have f8 : t0 ≠ a2 := Nat.ne_of_lt (by rw [ha4]; exact hV.lt)
  have f9 : n0 ≤ a2 := by rw [ha4]; exact hZ0
  have f10 : h0.size ≤ a2 := by rw [ha4]; exact hK.1
  have f11 : Arv Z h1 t0 kA .byte n [(.int (FAt p (0 : Int32))), (.int (FAt p (1 : Int32))), (.int (FAt p (2 : Int32))), (.int (FAt p (3 : Int32)))] (.int 0) := hV.ext E5
  have f12 : n0 ≤ h1.size := Nat.le_trans hZ0 E5.1
  have f13 : Keep h0 h1 [] := hK.ext E5
  have f14 : Arv Z h1 a2 kA3 .byte (4 : Int32) [(.int 0), (.int 0), (.int 0), (.int 0)] (.int 0) := V6.pad (pad_rep [] (.int 0) 4)
  show own_G _ _ _ _ _ _ _ _ 17 #[.val (.ref t0), .val (.int (4 : Int32)), .unset] [(.ref a2)]
  refine own_astore_n H rfl #[.val (.ref t0), .val (.int (4 : Int32)), .val (.ref a2)] rfl d6_17 ?_
  refine own_aload_n H rfl rfl d6_18 ?_
  refine own_iconst H (0 : Int32) (by decide) d6_19 ?_
  refine own_aload_n H rfl rfl d6_20 ?_
  refine own_iconst H (0 : Int32) (by decide) d6_21 ?_
  refine own_aload_n H rfl rfl d6_22 ?_
  refine own_arraylengthV H f11 d6_23 ?_
  refine own_iload_n H rfl d6_24 ?_
  refine own_invokestatic H (argsL := [(.int n), (.int (4 : Int32))]) (rest := [(.int (0 : Int32)), (.ref a2), (.int (0 : Int32)), (.ref t0)]) (rmMinI l Z a0 (own_hw H) h1 n0 n (4 : Int32)) (w1 := 33) (w2 := 34) (w3 := 24) (w4 := 35) rfl rfl rfl rfl own_pd2 rfl 4 (by decide) rfl (by decide) (Nat.le_of_eq rfl) (by decide) (by decide) (by decide) rfl d6_25 ?_
  rintro _ _ ⟨rfl, rfl⟩
  show own_G _ _ _ _ _ _ _ _ 28 #[.val (.ref t0), .val (.int (4 : Int32)), .val (.ref a2)] [(.int (FMinI n (4 : Int32))), (.int (0 : Int32)), (.ref a2), (.int (0 : Int32)), (.ref t0)]
  rw [own_mink n (4 : Int32) hkn]
  show own_G _ _ _ _ _ _ _ _ 28 #[.val (.ref t0), .val (.int (4 : Int32)), .val (.ref a2)] [(.int (4 : Int32)), (.int (0 : Int32)), (.ref a2), (.int (0 : Int32)), (.ref t0)]
  refine own_arraycopy H (w1 := 36) (w2 := 39) (w3 := 37) (w4 := 38) rfl rfl rfl rfl (us := [(.int (FAt p (0 : Int32))), (.int (FAt p (1 : Int32))), (.int (FAt p (2 : Int32))), (.int (FAt p (3 : Int32)))]) f11 f14 rfl (by decide) (by decide) (by decide) (own_kn (by decide) hkn) (by decide) rfl (Nat.le_of_ble_eq_true rfl) f9 rfl (by decide) 0 (Nat.le_of_eq rfl) (by decide) d6_28 ?_
  intro h15 K16 V17
  have f18 : Arv Z h15 t0 kA .byte n [(.int (FAt p (0 : Int32))), (.int (FAt p (1 : Int32))), (.int (FAt p (2 : Int32))), (.int (FAt p (3 : Int32)))] (.int 0) := f11.keep K16 (ninS f8 nin0)
  have f19 : n0 ≤ h15.size := Nat.le_trans f12 K16.1
  have f20 : Keep h0 h15 [] := f13.trans K16 (allS (Or.inr f10) all0)
  have f21 : Exa Z h15 a2 "[B" := X7.keep K16
  have f22 : Arv Z h15 a2 kA3 .byte (4 : Int32) [(.int (FAt p (0 : Int32))), (.int (FAt p (1 : Int32))), (.int (FAt p (2 : Int32))), (.int (FAt p (3 : Int32)))] (.int 0) := V17
  show own_G _ _ _ _ _ _ _ _ 31 #[.val (.ref t0), .val (.int (4 : Int32)), .val (.ref a2)] []
  refine own_aload_n H rfl rfl d6_31 ?_
  exact own_areturn H rfl rfl rfl d6_32 (by decide) (by decide) ⟨a2, kA3, rfl, f20, f9, f10, f21.lt, f22⟩
set_option maxHeartbeats 4000000 in
theorem rmTn4 (l : Launch) (Z : State) (a0 : Array Value) (hw : ∀ (i : Nat) (d : Jvm.Cond), tables_1[i]? = some d → d.before a0 Z = true) (h0 : Heap) (n0 : Nat) (a : Addr) (t0 : Addr) (kA : ClassId) (n : Int32) (p : Int64) (hZ0 : n0 ≤ h0.size) (hE : Exa Z h0 a "com/example/shardline/shardline/http/BodyBytes") (hF1 : Fld Z h0 a "com/example/shardline/shardline/http/BodyBytes" "length" "I" (.int (4 : Int32))) (hF2 : Fld Z h0 a "com/example/shardline/shardline/http/BodyBytes" "bytes" "[B" (.ref t0)) (hV : Arv Z h0 t0 kA .byte n [(.int (FAt p (0 : Int32))), (.int (FAt p (1 : Int32))), (.int (FAt p (2 : Int32))), (.int (FAt p (3 : Int32)))] (.int 0)) (hkn : (4 : Int32).toInt < n.toInt) :
    own_C l Z (⟨"com/example/shardline/shardline/http/BodyBytes", "toArray", "()[B"⟩ : MethodName) prog_18_method_5_code 1 (some (.array .byte)) ({ frames := 2, cells := 1, slots := 4, locals := 50 } : Room) #[(.ref a)] h0 n0 (fun v h' => ∃ (a3 : Addr) (kA4 : ClassId), v = some (.ref a3) ∧ Keep h0 h' [] ∧ n0 ≤ a3 ∧ h0.size ≤ a3 ∧ a3 < h'.size ∧ Arv Z h' a3 kA4 .byte (4 : Int32) [(.int (FAt p (0 : Int32))), (.int (FAt p (1 : Int32))), (.int (FAt p (2 : Int32))), (.int (FAt p (3 : Int32)))] (.int 0)) := by
  refine own_met (Ls := #[.val (.ref a)]) hw own_pl11 (fun m => by first | (simp [entryFrame, mkF, argsToLocals, Value.category]; done) | rfl) ?_
  intro B H
  have hK : Keep h0 h0 [] := Keep.refl _ _
  refine own_aload_n H rfl rfl d11_0 ?_
  refine own_getfield H (w := 19) rfl hF1 d11_1 ?_
  refine own_aload_n H rfl rfl d11_4 ?_
  refine own_getfield H (w := 10) rfl hF2 d11_5 ?_
  refine own_arraylengthV H hV d11_8 ?_
  refine own_icmpne_t H (pc' := 19) d11_9 (by decide) (by decide) (own_nek _ _ hkn) ?_
  refine own_aload_n H rfl rfl d11_19 ?_
  refine own_getfield H (w := 10) rfl hF2 d11_20 ?_
  refine own_aload_n H rfl rfl d11_23 ?_
  refine own_getfield H (w := 19) rfl hF1 d11_24 ?_
  refine own_invokestatic H (argsL := [(.ref t0), (.int (4 : Int32))]) (rest := []) (rmCK4 l Z a0 (own_hw H) h0 n0 t0 kA n p hZ0 hV hkn) (w1 := 29) (w2 := 30) (w3 := 31) (w4 := 32) rfl rfl rfl rfl own_pd4 rfl 0 (by decide) rfl (by decide) (Nat.le_of_eq rfl) (by decide) (by decide) (by decide) rfl d11_27 ?_
  rintro _ h1 ⟨a3, kA4, rfl, K2, f5, f6, f7, f8⟩
  have f9 : a ≠ a3 := Nat.ne_of_lt (Nat.lt_of_lt_of_le hE.lt f6)
  have f10 : t0 ≠ a3 := Nat.ne_of_lt (Nat.lt_of_lt_of_le hV.lt f6)
  have f11 : h0.size ≤ a3 := Nat.le_trans hK.1 f6
  have f12 : Exa Z h1 a "com/example/shardline/shardline/http/BodyBytes" := hE.keep K2
  have f13 : Fld Z h1 a "com/example/shardline/shardline/http/BodyBytes" "length" "I" (.int (4 : Int32)) := hF1.keep K2 nin0
  have f14 : Fld Z h1 a "com/example/shardline/shardline/http/BodyBytes" "bytes" "[B" (.ref t0) := hF2.keep K2 nin0
  have f15 : Arv Z h1 t0 kA .byte n [(.int (FAt p (0 : Int32))), (.int (FAt p (1 : Int32))), (.int (FAt p (2 : Int32))), (.int (FAt p (3 : Int32)))] (.int 0) := hV.keep K2 nin0
  have f16 : n0 ≤ h1.size := Nat.le_trans hZ0 K2.1
  have f17 : Keep h0 h1 [] := hK.trans K2 all0
  show own_G _ _ _ _ _ _ _ _ 30 #[.val (.ref a)] [(.ref a3)]
  exact own_areturn H rfl rfl rfl d11_30 (by decide) (by decide) ⟨a3, kA4, rfl, f17, f5, f11, f8.lt, f8⟩
set_option maxHeartbeats 4000000 in
theorem rmTe4 (l : Launch) (Z : State) (a0 : Array Value) (hw : ∀ (i : Nat) (d : Jvm.Cond), tables_1[i]? = some d → d.before a0 Z = true) (h0 : Heap) (n0 : Nat) (a : Addr) (t0 : Addr) (kA : ClassId) (p : Int64) (hE : Exa Z h0 a "com/example/shardline/shardline/http/BodyBytes") (hF1 : Fld Z h0 a "com/example/shardline/shardline/http/BodyBytes" "length" "I" (.int (4 : Int32))) (hF2 : Fld Z h0 a "com/example/shardline/shardline/http/BodyBytes" "bytes" "[B" (.ref t0)) (hV : Arv Z h0 t0 kA .byte (4 : Int32) [(.int (FAt p (0 : Int32))), (.int (FAt p (1 : Int32))), (.int (FAt p (2 : Int32))), (.int (FAt p (3 : Int32)))] (.int 0)) :
    own_C l Z (⟨"com/example/shardline/shardline/http/BodyBytes", "toArray", "()[B"⟩ : MethodName) prog_18_method_5_code 1 (some (.array .byte)) ({ frames := 0, cells := 0, slots := 0, locals := 0 } : Room) #[(.ref a)] h0 n0 (fun v h' => v = some (.ref t0) ∧ h0 = h') := by
  refine own_met (Ls := #[.val (.ref a)]) hw own_pl11 (fun m => by first | (simp [entryFrame, mkF, argsToLocals, Value.category]; done) | rfl) ?_
  intro B H
  refine own_aload_n H rfl rfl d11_0 ?_
  refine own_getfield H (w := 19) rfl hF1 d11_1 ?_
  refine own_aload_n H rfl rfl d11_4 ?_
  refine own_getfield H (w := 10) rfl hF2 d11_5 ?_
  refine own_arraylengthV H hV d11_8 ?_
  refine own_icmpne_f H d11_9 (by decide) ?_
  refine own_aload_n H rfl rfl d11_12 ?_
  refine own_getfield H (w := 10) rfl hF2 d11_13 ?_
  refine own_goto H (pc' := 30) d11_16 (by decide) (by decide) ?_
  exact own_areturn H rfl rfl rfl d11_30 (by decide) (by decide) ⟨rfl, rfl⟩
set_option maxHeartbeats 4000000 in
theorem rmAd4 (l : Launch) (Z : State) (a0 : Array Value) (hw : ∀ (i : Nat) (d : Jvm.Cond), tables_1[i]? = some d → d.before a0 Z = true) (h0 : Heap) (n0 : Nat) (a : Addr) (t0 : Addr) (hZ0 : n0 ≤ h0.size) (hE : Exa Z h0 a "com/example/shardline/shardline/http/BodyBytes") (hF1 : Fld Z h0 a "com/example/shardline/shardline/http/BodyBytes" "length" "I" (.int (0 : Int32))) (hF2 : Fld Z h0 a "com/example/shardline/shardline/http/BodyBytes" "bytes" "[B" (.ref t0)) (hA_a : n0 ≤ a) :
    own_C l Z (⟨"com/example/shardline/shardline/http/BodyBytes", "added", "(I)V"⟩ : MethodName) prog_18_method_4_code 2 none ({ frames := 0, cells := 0, slots := 0, locals := 0 } : Room) #[(.ref a), (.int (4 : Int32))] h0 n0 (fun v h' => v = none ∧ Keep h0 h' [a] ∧ Fld Z h' a "com/example/shardline/shardline/http/BodyBytes" "length" "I" (.int (4 : Int32)) ∧ Fld Z h' a "com/example/shardline/shardline/http/BodyBytes" "bytes" "[B" (.ref t0)) := by
  refine own_met (Ls := #[.val (.ref a), .val (.int (4 : Int32))]) hw own_pl10 (fun m => by first | (simp [entryFrame, mkF, argsToLocals, Value.category]; done) | rfl) ?_
  intro B H
  have hK : Keep h0 h0 [a] := Keep.refl _ _
  refine own_aload_n H rfl rfl d10_0 ?_
  refine own_dup H rfl d10_1 ?_
  refine own_getfield H (w := 19) rfl hF1 d10_2 ?_
  refine own_iload_n H rfl d10_5 ?_
  refine own_iadd (v := (4 : Int32)) H (by decide) d10_6 ?_
  refine own_putfield H (w := 19) (wi := 1) rfl hF1 hE hA_a (Or.inl (own_w H (i := 20) rfl)) rfl (ty := .int) (by decide) rfl rfl d10_7 ?_
  intro h1 W2
  have f3 : Exa Z h1 a "com/example/shardline/shardline/http/BodyBytes" := hE.wr W2
  have f4 : Fld Z h1 a "com/example/shardline/shardline/http/BodyBytes" "length" "I" (.int (4 : Int32)) := hF1.same W2
  have f5 : Fld Z h1 a "com/example/shardline/shardline/http/BodyBytes" "bytes" "[B" (.ref t0) := hF2.other W2 (Or.inr (slot_ne (Or.inl (own_w H (i := 11) rfl)) (Or.inl (own_w H (i := 20) rfl)) (by decide) (t := (.array .byte)) (t' := .int) (by decide) (by decide)))
  have f6 : n0 ≤ h1.size := by rw [W2.size]; exact hZ0
  have f7 : Keep h0 h1 [a] := hK.wr W2 (Or.inl (by simp))
  exact own_return H d10_10 (by decide) (by decide) ⟨rfl, f7, f4, f5⟩
set_option maxHeartbeats 4000000 in
theorem rmPut5 (l : Launch) (Z : State) (a0 : Array Value) (hw : ∀ (i : Nat) (d : Jvm.Cond), tables_1[i]? = some d → d.before a0 Z = true) (h0 : Heap) (n0 : Nat) (t : Addr) (p : Int64) (kA : ClassId) (n : Int32) (hZ0 : n0 ≤ h0.size) (hV : Arv Z h0 t kA .byte n [] (.int 0)) (hE : Exa Z h0 t "[B") (hkn : (5 : Int32).toInt ≤ n.toInt) (hA_t : n0 ≤ t) :
    own_C l Z (⟨"com/example/shardline/shardline/http/BodyBytesToArrayPinLaw", "put", "([BIJ)V"⟩ : MethodName) method_3_code 4 none ({ frames := 1, cells := 0, slots := 0, locals := 20 } : Room) #[(.ref t), (.int (5 : Int32)), (.long p)] h0 n0 (fun v h' => v = none ∧ Keep h0 h' [t] ∧ Arv Z h' t kA .byte n [(.int (FAt p (0 : Int32))), (.int (FAt p (1 : Int32))), (.int (FAt p (2 : Int32))), (.int (FAt p (3 : Int32))), (.int (FAt p (4 : Int32)))] (.int 0)) := by
  refine own_met (Ls := #[.val (.ref t), .val (.int (5 : Int32)), .val (.long p), .second]) hw own_pl8 (fun m => by first | (simp [entryFrame, mkF, argsToLocals, Value.category]; done) | rfl) ?_
  intro B H
  have hK : Keep h0 h0 [t] := Keep.refl _ _
  have f1 : Arv Z h0 t kA .byte n [(.int 0), (.int 0), (.int 0), (.int 0), (.int 0)] (.int 0) := hV.pad (pad_rep [] (.int 0) 5)
  refine own_iload_n H rfl d8_0 ?_
  refine own_ifle_f H d8_1 (by decide) ?_
  refine own_aload_n H rfl rfl d8_4 ?_
  refine own_iconst H (0 : Int32) (by decide) d8_5 ?_
  refine own_lload_n H rfl d8_6 ?_
  refine own_iconst H (0 : Int32) (by decide) d8_7 ?_
  refine own_invokestatic H (argsL := [(.long p), (.int (0 : Int32))]) (rest := [(.int (0 : Int32)), (.ref t)]) (rmAt l Z a0 (own_hw H) h0 n0 p (0 : Int32)) (w1 := 45) (w2 := 46) (w3 := 43) (w4 := 47) rfl rfl rfl rfl own_pd0 rfl 2 (by decide) rfl (by decide) (Nat.le_of_eq rfl) (by decide) (by decide) (by decide) rfl d8_8 ?_
  rintro _ _ ⟨rfl, rfl⟩
  show own_G _ _ _ _ _ _ _ _ 11 #[.val (.ref t), .val (.int (5 : Int32)), .val (.long p), .second] [(.int (FAt p (0 : Int32))), (.int (0 : Int32)), (.ref t)]
  refine own_bastoreV H f1 (by decide) (own_jn _ (5 : Int32) _ hkn (by decide)) 0 (by decide) (Nat.le_of_ble_eq_true rfl) hA_t (own_nb _ _) d8_11 ?_
  intro h2 W3 V4
  have f5 : Exa Z h2 t "[B" := hE.wr W3
  have f6 : n0 ≤ h2.size := by rw [W3.size]; exact hZ0
  have f7 : Keep h0 h2 [t] := hK.wr W3 (Or.inl (by simp))
  have f8 : Arv Z h2 t kA .byte n [(.int (FAt p (0 : Int32))), (.int 0), (.int 0), (.int 0), (.int 0)] (.int 0) := V4
  refine own_iload_n H rfl d8_12 ?_
  refine own_iconst H (1 : Int32) (by decide) d8_13 ?_
  refine own_icmple_f H d8_14 (by decide) ?_
  refine own_aload_n H rfl rfl d8_17 ?_
  refine own_iconst H (1 : Int32) (by decide) d8_18 ?_
  refine own_lload_n H rfl d8_19 ?_
  refine own_iconst H (1 : Int32) (by decide) d8_20 ?_
  refine own_invokestatic H (argsL := [(.long p), (.int (1 : Int32))]) (rest := [(.int (1 : Int32)), (.ref t)]) (rmAt l Z a0 (own_hw H) h2 n0 p (1 : Int32)) (w1 := 45) (w2 := 46) (w3 := 43) (w4 := 47) rfl rfl rfl rfl own_pd0 rfl 2 (by decide) rfl (by decide) (Nat.le_of_eq rfl) (by decide) (by decide) (by decide) rfl d8_21 ?_
  rintro _ _ ⟨rfl, rfl⟩
  show own_G _ _ _ _ _ _ _ _ 24 #[.val (.ref t), .val (.int (5 : Int32)), .val (.long p), .second] [(.int (FAt p (1 : Int32))), (.int (1 : Int32)), (.ref t)]
  refine own_bastoreV H f8 (by decide) (own_jn _ (5 : Int32) _ hkn (by decide)) 1 (by decide) (Nat.le_of_ble_eq_true rfl) hA_t (own_nb _ _) d8_24 ?_
  intro h9 W10 V11
  have f12 : Exa Z h9 t "[B" := f5.wr W10
  have f13 : n0 ≤ h9.size := by rw [W10.size]; exact f6
  have f14 : Keep h0 h9 [t] := f7.wr W10 (Or.inl (by simp))
  have f15 : Arv Z h9 t kA .byte n [(.int (FAt p (0 : Int32))), (.int (FAt p (1 : Int32))), (.int 0), (.int 0), (.int 0)] (.int 0) := V11
  refine own_iload_n H rfl d8_25 ?_
  refine own_iconst H (2 : Int32) (by decide) d8_26 ?_
  refine own_icmple_f H d8_27 (by decide) ?_
  refine own_aload_n H rfl rfl d8_30 ?_
  refine own_iconst H (2 : Int32) (by decide) d8_31 ?_
  refine own_lload_n H rfl d8_32 ?_
  refine own_iconst H (2 : Int32) (by decide) d8_33 ?_
  refine own_invokestatic H (argsL := [(.long p), (.int (2 : Int32))]) (rest := [(.int (2 : Int32)), (.ref t)]) (rmAt l Z a0 (own_hw H) h9 n0 p (2 : Int32)) (w1 := 45) (w2 := 46) (w3 := 43) (w4 := 47) rfl rfl rfl rfl own_pd0 rfl 2 (by decide) rfl (by decide) (Nat.le_of_eq rfl) (by decide) (by decide) (by decide) rfl d8_34 ?_
  rintro _ _ ⟨rfl, rfl⟩
  show own_G _ _ _ _ _ _ _ _ 37 #[.val (.ref t), .val (.int (5 : Int32)), .val (.long p), .second] [(.int (FAt p (2 : Int32))), (.int (2 : Int32)), (.ref t)]
  refine own_bastoreV H f15 (by decide) (own_jn _ (5 : Int32) _ hkn (by decide)) 2 (by decide) (Nat.le_of_ble_eq_true rfl) hA_t (own_nb _ _) d8_37 ?_
  intro h16 W17 V18
  have f19 : Exa Z h16 t "[B" := f12.wr W17
  have f20 : n0 ≤ h16.size := by rw [W17.size]; exact f13
  have f21 : Keep h0 h16 [t] := f14.wr W17 (Or.inl (by simp))
  have f22 : Arv Z h16 t kA .byte n [(.int (FAt p (0 : Int32))), (.int (FAt p (1 : Int32))), (.int (FAt p (2 : Int32))), (.int 0), (.int 0)] (.int 0) := V18
  refine own_iload_n H rfl d8_38 ?_
  refine own_iconst H (3 : Int32) (by decide) d8_39 ?_
  refine own_icmple_f H d8_40 (by decide) ?_
  refine own_aload_n H rfl rfl d8_43 ?_
  refine own_iconst H (3 : Int32) (by decide) d8_44 ?_
  refine own_lload_n H rfl d8_45 ?_
  refine own_iconst H (3 : Int32) (by decide) d8_46 ?_
  refine own_invokestatic H (argsL := [(.long p), (.int (3 : Int32))]) (rest := [(.int (3 : Int32)), (.ref t)]) (rmAt l Z a0 (own_hw H) h16 n0 p (3 : Int32)) (w1 := 45) (w2 := 46) (w3 := 43) (w4 := 47) rfl rfl rfl rfl own_pd0 rfl 2 (by decide) rfl (by decide) (Nat.le_of_eq rfl) (by decide) (by decide) (by decide) rfl d8_47 ?_
  rintro _ _ ⟨rfl, rfl⟩
  show own_G _ _ _ _ _ _ _ _ 50 #[.val (.ref t), .val (.int (5 : Int32)), .val (.long p), .second] [(.int (FAt p (3 : Int32))), (.int (3 : Int32)), (.ref t)]
  refine own_bastoreV H f22 (by decide) (own_jn _ (5 : Int32) _ hkn (by decide)) 3 (by decide) (Nat.le_of_ble_eq_true rfl) hA_t (own_nb _ _) d8_50 ?_
  intro h23 W24 V25
  have f26 : Exa Z h23 t "[B" := f19.wr W24
  have f27 : n0 ≤ h23.size := by rw [W24.size]; exact f20
  have f28 : Keep h0 h23 [t] := f21.wr W24 (Or.inl (by simp))
  have f29 : Arv Z h23 t kA .byte n [(.int (FAt p (0 : Int32))), (.int (FAt p (1 : Int32))), (.int (FAt p (2 : Int32))), (.int (FAt p (3 : Int32))), (.int 0)] (.int 0) := V25
  refine own_iload_n H rfl d8_51 ?_
  refine own_iconst H (4 : Int32) (by decide) d8_52 ?_
  refine own_icmple_f H d8_53 (by decide) ?_
  refine own_aload_n H rfl rfl d8_56 ?_
  refine own_iconst H (4 : Int32) (by decide) d8_57 ?_
  refine own_lload_n H rfl d8_58 ?_
  refine own_iconst H (4 : Int32) (by decide) d8_59 ?_
  refine own_invokestatic H (argsL := [(.long p), (.int (4 : Int32))]) (rest := [(.int (4 : Int32)), (.ref t)]) (rmAt l Z a0 (own_hw H) h23 n0 p (4 : Int32)) (w1 := 45) (w2 := 46) (w3 := 43) (w4 := 47) rfl rfl rfl rfl own_pd0 rfl 2 (by decide) rfl (by decide) (Nat.le_of_eq rfl) (by decide) (by decide) (by decide) rfl d8_60 ?_
  rintro _ _ ⟨rfl, rfl⟩
  show own_G _ _ _ _ _ _ _ _ 63 #[.val (.ref t), .val (.int (5 : Int32)), .val (.long p), .second] [(.int (FAt p (4 : Int32))), (.int (4 : Int32)), (.ref t)]
  refine own_bastoreV H f29 (by decide) (own_jn _ (5 : Int32) _ hkn (by decide)) 4 (by decide) (Nat.le_of_ble_eq_true rfl) hA_t (own_nb _ _) d8_63 ?_
  intro h30 W31 V32
  have f33 : Exa Z h30 t "[B" := f26.wr W31
  have f34 : n0 ≤ h30.size := by rw [W31.size]; exact f27
  have f35 : Keep h0 h30 [t] := f28.wr W31 (Or.inl (by simp))
  have f36 : Arv Z h30 t kA .byte n [(.int (FAt p (0 : Int32))), (.int (FAt p (1 : Int32))), (.int (FAt p (2 : Int32))), (.int (FAt p (3 : Int32))), (.int (FAt p (4 : Int32)))] (.int 0) := V32
  refine own_iload_n H rfl d8_64 ?_
  refine own_iconst H (5 : Int32) (by decide) d8_65 ?_
  refine own_icmple_t H (pc' := 77) d8_66 (by decide) (by decide) (by decide) ?_
  refine own_iload_n H rfl d8_77 ?_
  refine own_bipush H (6 : Int32) (by decide) d8_78 ?_
  refine own_icmple_t H (pc' := 93) d8_80 (by decide) (by decide) (by decide) ?_
  refine own_iload_n H rfl d8_93 ?_
  refine own_bipush H (7 : Int32) (by decide) d8_94 ?_
  refine own_icmple_t H (pc' := 109) d8_96 (by decide) (by decide) (by decide) ?_
  exact own_return H d8_109 (by decide) (by decide) ⟨rfl, f35, f36⟩
set_option maxHeartbeats 4000000 in
theorem rmSm5 (l : Launch) (Z : State) (a0 : Array Value) (hw : ∀ (i : Nat) (d : Jvm.Cond), tables_1[i]? = some d → d.before a0 Z = true) (h0 : Heap) (n0 : Nat) (t : Addr) (p : Int64) (kA : ClassId) (hV : Arv Z h0 t kA .byte (5 : Int32) [(.int (FAt p (0 : Int32))), (.int (FAt p (1 : Int32))), (.int (FAt p (2 : Int32))), (.int (FAt p (3 : Int32))), (.int (FAt p (4 : Int32)))] (.int 0)) :
    own_C l Z (⟨"com/example/shardline/shardline/http/BodyBytesToArrayPinLaw", "same", "([BIJ)Z"⟩ : MethodName) method_4_code 4 (some .boolean) ({ frames := 1, cells := 0, slots := 0, locals := 20 } : Room) #[(.ref t), (.int (5 : Int32)), (.long p)] h0 n0 (fun v h' => v = some (.int (1 : Int32)) ∧ h0 = h') := by
  refine own_met (Ls := #[.val (.ref t), .val (.int (5 : Int32)), .val (.long p), .second]) hw own_pl12 (fun m => by first | (simp [entryFrame, mkF, argsToLocals, Value.category]; done) | rfl) ?_
  intro B H
  refine own_aload_n H rfl rfl d12_0 ?_
  refine own_arraylengthV H hV d12_1 ?_
  refine own_iload_n H rfl d12_2 ?_
  refine own_icmpeq_t H (pc' := 8) d12_3 (by decide) (by decide) (by decide) ?_
  refine own_iload_n H rfl d12_8 ?_
  refine own_ifle_f H d12_9 (by decide) ?_
  refine own_aload_n H rfl rfl d12_12 ?_
  refine own_iconst H (0 : Int32) (by decide) d12_13 ?_
  refine own_baloadV H hV (by decide) (by decide) rfl d12_14 ?_
  refine own_lload_n H rfl d12_15 ?_
  refine own_iconst H (0 : Int32) (by decide) d12_16 ?_
  refine own_invokestatic H (argsL := [(.long p), (.int (0 : Int32))]) (rest := [(.int (FAt p (0 : Int32)))]) (rmAt l Z a0 (own_hw H) h0 n0 p (0 : Int32)) (w1 := 45) (w2 := 46) (w3 := 43) (w4 := 47) rfl rfl rfl rfl own_pd0 rfl 1 (by decide) rfl (by decide) (Nat.le_of_eq rfl) (by decide) (by decide) (by decide) rfl d12_17 ?_
  rintro _ _ ⟨rfl, rfl⟩
  show own_G _ _ _ _ _ _ _ _ 20 #[.val (.ref t), .val (.int (5 : Int32)), .val (.long p), .second] [(.int (FAt p (0 : Int32))), (.int (FAt p (0 : Int32)))]
  refine own_icmpeq_t H (pc' := 25) d12_20 (by decide) (by decide) rfl ?_
  refine own_iload_n H rfl d12_25 ?_
  refine own_iconst H (1 : Int32) (by decide) d12_26 ?_
  refine own_icmple_f H d12_27 (by decide) ?_
  refine own_aload_n H rfl rfl d12_30 ?_
  refine own_iconst H (1 : Int32) (by decide) d12_31 ?_
  refine own_baloadV H hV (by decide) (by decide) rfl d12_32 ?_
  refine own_lload_n H rfl d12_33 ?_
  refine own_iconst H (1 : Int32) (by decide) d12_34 ?_
  refine own_invokestatic H (argsL := [(.long p), (.int (1 : Int32))]) (rest := [(.int (FAt p (1 : Int32)))]) (rmAt l Z a0 (own_hw H) h0 n0 p (1 : Int32)) (w1 := 45) (w2 := 46) (w3 := 43) (w4 := 47) rfl rfl rfl rfl own_pd0 rfl 1 (by decide) rfl (by decide) (Nat.le_of_eq rfl) (by decide) (by decide) (by decide) rfl d12_35 ?_
  rintro _ _ ⟨rfl, rfl⟩
  show own_G _ _ _ _ _ _ _ _ 38 #[.val (.ref t), .val (.int (5 : Int32)), .val (.long p), .second] [(.int (FAt p (1 : Int32))), (.int (FAt p (1 : Int32)))]
  refine own_icmpeq_t H (pc' := 43) d12_38 (by decide) (by decide) rfl ?_
  refine own_iload_n H rfl d12_43 ?_
  refine own_iconst H (2 : Int32) (by decide) d12_44 ?_
  refine own_icmple_f H d12_45 (by decide) ?_
  refine own_aload_n H rfl rfl d12_48 ?_
  refine own_iconst H (2 : Int32) (by decide) d12_49 ?_
  refine own_baloadV H hV (by decide) (by decide) rfl d12_50 ?_
  refine own_lload_n H rfl d12_51 ?_
  refine own_iconst H (2 : Int32) (by decide) d12_52 ?_
  refine own_invokestatic H (argsL := [(.long p), (.int (2 : Int32))]) (rest := [(.int (FAt p (2 : Int32)))]) (rmAt l Z a0 (own_hw H) h0 n0 p (2 : Int32)) (w1 := 45) (w2 := 46) (w3 := 43) (w4 := 47) rfl rfl rfl rfl own_pd0 rfl 1 (by decide) rfl (by decide) (Nat.le_of_eq rfl) (by decide) (by decide) (by decide) rfl d12_53 ?_
  rintro _ _ ⟨rfl, rfl⟩
  show own_G _ _ _ _ _ _ _ _ 56 #[.val (.ref t), .val (.int (5 : Int32)), .val (.long p), .second] [(.int (FAt p (2 : Int32))), (.int (FAt p (2 : Int32)))]
  refine own_icmpeq_t H (pc' := 61) d12_56 (by decide) (by decide) rfl ?_
  refine own_iload_n H rfl d12_61 ?_
  refine own_iconst H (3 : Int32) (by decide) d12_62 ?_
  refine own_icmple_f H d12_63 (by decide) ?_
  refine own_aload_n H rfl rfl d12_66 ?_
  refine own_iconst H (3 : Int32) (by decide) d12_67 ?_
  refine own_baloadV H hV (by decide) (by decide) rfl d12_68 ?_
  refine own_lload_n H rfl d12_69 ?_
  refine own_iconst H (3 : Int32) (by decide) d12_70 ?_
  refine own_invokestatic H (argsL := [(.long p), (.int (3 : Int32))]) (rest := [(.int (FAt p (3 : Int32)))]) (rmAt l Z a0 (own_hw H) h0 n0 p (3 : Int32)) (w1 := 45) (w2 := 46) (w3 := 43) (w4 := 47) rfl rfl rfl rfl own_pd0 rfl 1 (by decide) rfl (by decide) (Nat.le_of_eq rfl) (by decide) (by decide) (by decide) rfl d12_71 ?_
  rintro _ _ ⟨rfl, rfl⟩
  show own_G _ _ _ _ _ _ _ _ 74 #[.val (.ref t), .val (.int (5 : Int32)), .val (.long p), .second] [(.int (FAt p (3 : Int32))), (.int (FAt p (3 : Int32)))]
  refine own_icmpeq_t H (pc' := 79) d12_74 (by decide) (by decide) rfl ?_
  refine own_iload_n H rfl d12_79 ?_
  refine own_iconst H (4 : Int32) (by decide) d12_80 ?_
  refine own_icmple_f H d12_81 (by decide) ?_
  refine own_aload_n H rfl rfl d12_84 ?_
  refine own_iconst H (4 : Int32) (by decide) d12_85 ?_
  refine own_baloadV H hV (by decide) (by decide) rfl d12_86 ?_
  refine own_lload_n H rfl d12_87 ?_
  refine own_iconst H (4 : Int32) (by decide) d12_88 ?_
  refine own_invokestatic H (argsL := [(.long p), (.int (4 : Int32))]) (rest := [(.int (FAt p (4 : Int32)))]) (rmAt l Z a0 (own_hw H) h0 n0 p (4 : Int32)) (w1 := 45) (w2 := 46) (w3 := 43) (w4 := 47) rfl rfl rfl rfl own_pd0 rfl 1 (by decide) rfl (by decide) (Nat.le_of_eq rfl) (by decide) (by decide) (by decide) rfl d12_89 ?_
  rintro _ _ ⟨rfl, rfl⟩
  show own_G _ _ _ _ _ _ _ _ 92 #[.val (.ref t), .val (.int (5 : Int32)), .val (.long p), .second] [(.int (FAt p (4 : Int32))), (.int (FAt p (4 : Int32)))]
  refine own_icmpeq_t H (pc' := 97) d12_92 (by decide) (by decide) rfl ?_
  refine own_iload_n H rfl d12_97 ?_
  refine own_iconst H (5 : Int32) (by decide) d12_98 ?_
  refine own_icmple_t H (pc' := 115) d12_99 (by decide) (by decide) (by decide) ?_
  refine own_iload_n H rfl d12_115 ?_
  refine own_bipush H (6 : Int32) (by decide) d12_116 ?_
  refine own_icmple_t H (pc' := 136) d12_118 (by decide) (by decide) (by decide) ?_
  refine own_iload_n H rfl d12_136 ?_
  refine own_bipush H (7 : Int32) (by decide) d12_137 ?_
  refine own_icmple_t H (pc' := 157) d12_139 (by decide) (by decide) (by decide) ?_
  refine own_iconst H (1 : Int32) (by decide) d12_157 ?_
  exact own_ireturn H (by simp) (by decide) d12_158 (by decide) (by decide) ⟨rfl, rfl⟩
set_option maxHeartbeats 4000000 in
theorem rmCK5 (l : Launch) (Z : State) (a0 : Array Value) (hw : ∀ (i : Nat) (d : Jvm.Cond), tables_1[i]? = some d → d.before a0 Z = true) (h0 : Heap) (n0 : Nat) (t0 : Addr) (kA : ClassId) (n : Int32) (p : Int64) (hZ0 : n0 ≤ h0.size) (hV : Arv Z h0 t0 kA .byte n [(.int (FAt p (0 : Int32))), (.int (FAt p (1 : Int32))), (.int (FAt p (2 : Int32))), (.int (FAt p (3 : Int32))), (.int (FAt p (4 : Int32)))] (.int 0)) (hkn : (5 : Int32).toInt < n.toInt) :
    own_C l Z (⟨"java/util/Arrays", "copyOf", "([BI)[B"⟩ : MethodName) jdk_65_method_121_code 3 (some (.array .byte)) ({ frames := 1, cells := 1, slots := 5, locals := 31 } : Room) #[(.ref t0), (.int (5 : Int32))] h0 n0 (fun v h' => ∃ (a2 : Addr) (kA3 : ClassId), v = some (.ref a2) ∧ Keep h0 h' [] ∧ n0 ≤ a2 ∧ h0.size ≤ a2 ∧ a2 < h'.size ∧ Arv Z h' a2 kA3 .byte (5 : Int32) [(.int (FAt p (0 : Int32))), (.int (FAt p (1 : Int32))), (.int (FAt p (2 : Int32))), (.int (FAt p (3 : Int32))), (.int (FAt p (4 : Int32)))] (.int 0)) := by
  refine own_met (Ls := #[.val (.ref t0), .val (.int (5 : Int32)), .unset]) hw own_pl6 (fun m => by first | (simp [entryFrame, mkF, argsToLocals, Value.category]; done) | rfl) ?_
  intro B H
  have hK : Keep h0 h0 [] := Keep.refl _ _
  refine own_iload_n H rfl d6_0 ?_
  refine own_aload_n H rfl rfl d6_1 ?_
  refine own_arraylengthV H hV d6_2 ?_
  refine own_icmpne_t H (pc' := 14) d6_3 (by decide) (by decide) (own_nek _ _ hkn) ?_
  refine own_iload_n H rfl d6_14 ?_
  refine own_newarrayE H (w := 9) (n := (5 : Int32)) rfl "[B" (by decide) (by decide) 5 (by decide) (by decide) d6_15 (by decide) (by decide) ?_
  intro h1 a2 kA3 ha4 E5 V6 X7
  have f8 : t0 ≠ a2 := Nat.ne_of_lt (by rw [ha4]; exact hV.lt)
  have f9 : n0 ≤ a2 := by rw [ha4]; exact hZ0
  have f10 : h0.size ≤ a2 := by rw [ha4]; exact hK.1
  have f11 : Arv Z h1 t0 kA .byte n [(.int (FAt p (0 : Int32))), (.int (FAt p (1 : Int32))), (.int (FAt p (2 : Int32))), (.int (FAt p (3 : Int32))), (.int (FAt p (4 : Int32)))] (.int 0) := hV.ext E5
  have f12 : n0 ≤ h1.size := Nat.le_trans hZ0 E5.1
  have f13 : Keep h0 h1 [] := hK.ext E5
  have f14 : Arv Z h1 a2 kA3 .byte (5 : Int32) [(.int 0), (.int 0), (.int 0), (.int 0), (.int 0)] (.int 0) := V6.pad (pad_rep [] (.int 0) 5)
  show own_G _ _ _ _ _ _ _ _ 17 #[.val (.ref t0), .val (.int (5 : Int32)), .unset] [(.ref a2)]
  refine own_astore_n H rfl #[.val (.ref t0), .val (.int (5 : Int32)), .val (.ref a2)] rfl d6_17 ?_
  refine own_aload_n H rfl rfl d6_18 ?_
  refine own_iconst H (0 : Int32) (by decide) d6_19 ?_
  refine own_aload_n H rfl rfl d6_20 ?_
  refine own_iconst H (0 : Int32) (by decide) d6_21 ?_
  refine own_aload_n H rfl rfl d6_22 ?_
  refine own_arraylengthV H f11 d6_23 ?_
  refine own_iload_n H rfl d6_24 ?_
  refine own_invokestatic H (argsL := [(.int n), (.int (5 : Int32))]) (rest := [(.int (0 : Int32)), (.ref a2), (.int (0 : Int32)), (.ref t0)]) (rmMinI l Z a0 (own_hw H) h1 n0 n (5 : Int32)) (w1 := 33) (w2 := 34) (w3 := 24) (w4 := 35) rfl rfl rfl rfl own_pd2 rfl 4 (by decide) rfl (by decide) (Nat.le_of_eq rfl) (by decide) (by decide) (by decide) rfl d6_25 ?_
  rintro _ _ ⟨rfl, rfl⟩
  show own_G _ _ _ _ _ _ _ _ 28 #[.val (.ref t0), .val (.int (5 : Int32)), .val (.ref a2)] [(.int (FMinI n (5 : Int32))), (.int (0 : Int32)), (.ref a2), (.int (0 : Int32)), (.ref t0)]
  rw [own_mink n (5 : Int32) hkn]
  show own_G _ _ _ _ _ _ _ _ 28 #[.val (.ref t0), .val (.int (5 : Int32)), .val (.ref a2)] [(.int (5 : Int32)), (.int (0 : Int32)), (.ref a2), (.int (0 : Int32)), (.ref t0)]
  refine own_arraycopy H (w1 := 36) (w2 := 39) (w3 := 37) (w4 := 38) rfl rfl rfl rfl (us := [(.int (FAt p (0 : Int32))), (.int (FAt p (1 : Int32))), (.int (FAt p (2 : Int32))), (.int (FAt p (3 : Int32))), (.int (FAt p (4 : Int32)))]) f11 f14 rfl (by decide) (by decide) (by decide) (own_kn (by decide) hkn) (by decide) rfl (Nat.le_of_ble_eq_true rfl) f9 rfl (by decide) 0 (Nat.le_of_eq rfl) (by decide) d6_28 ?_
  intro h15 K16 V17
  have f18 : Arv Z h15 t0 kA .byte n [(.int (FAt p (0 : Int32))), (.int (FAt p (1 : Int32))), (.int (FAt p (2 : Int32))), (.int (FAt p (3 : Int32))), (.int (FAt p (4 : Int32)))] (.int 0) := f11.keep K16 (ninS f8 nin0)
  have f19 : n0 ≤ h15.size := Nat.le_trans f12 K16.1
  have f20 : Keep h0 h15 [] := f13.trans K16 (allS (Or.inr f10) all0)
  have f21 : Exa Z h15 a2 "[B" := X7.keep K16
  have f22 : Arv Z h15 a2 kA3 .byte (5 : Int32) [(.int (FAt p (0 : Int32))), (.int (FAt p (1 : Int32))), (.int (FAt p (2 : Int32))), (.int (FAt p (3 : Int32))), (.int (FAt p (4 : Int32)))] (.int 0) := V17
  show own_G _ _ _ _ _ _ _ _ 31 #[.val (.ref t0), .val (.int (5 : Int32)), .val (.ref a2)] []
  refine own_aload_n H rfl rfl d6_31 ?_
  exact own_areturn H rfl rfl rfl d6_32 (by decide) (by decide) ⟨a2, kA3, rfl, f20, f9, f10, f21.lt, f22⟩
set_option maxHeartbeats 4000000 in
theorem rmTn5 (l : Launch) (Z : State) (a0 : Array Value) (hw : ∀ (i : Nat) (d : Jvm.Cond), tables_1[i]? = some d → d.before a0 Z = true) (h0 : Heap) (n0 : Nat) (a : Addr) (t0 : Addr) (kA : ClassId) (n : Int32) (p : Int64) (hZ0 : n0 ≤ h0.size) (hE : Exa Z h0 a "com/example/shardline/shardline/http/BodyBytes") (hF1 : Fld Z h0 a "com/example/shardline/shardline/http/BodyBytes" "length" "I" (.int (5 : Int32))) (hF2 : Fld Z h0 a "com/example/shardline/shardline/http/BodyBytes" "bytes" "[B" (.ref t0)) (hV : Arv Z h0 t0 kA .byte n [(.int (FAt p (0 : Int32))), (.int (FAt p (1 : Int32))), (.int (FAt p (2 : Int32))), (.int (FAt p (3 : Int32))), (.int (FAt p (4 : Int32)))] (.int 0)) (hkn : (5 : Int32).toInt < n.toInt) :
    own_C l Z (⟨"com/example/shardline/shardline/http/BodyBytes", "toArray", "()[B"⟩ : MethodName) prog_18_method_5_code 1 (some (.array .byte)) ({ frames := 2, cells := 1, slots := 5, locals := 50 } : Room) #[(.ref a)] h0 n0 (fun v h' => ∃ (a3 : Addr) (kA4 : ClassId), v = some (.ref a3) ∧ Keep h0 h' [] ∧ n0 ≤ a3 ∧ h0.size ≤ a3 ∧ a3 < h'.size ∧ Arv Z h' a3 kA4 .byte (5 : Int32) [(.int (FAt p (0 : Int32))), (.int (FAt p (1 : Int32))), (.int (FAt p (2 : Int32))), (.int (FAt p (3 : Int32))), (.int (FAt p (4 : Int32)))] (.int 0)) := by
  refine own_met (Ls := #[.val (.ref a)]) hw own_pl11 (fun m => by first | (simp [entryFrame, mkF, argsToLocals, Value.category]; done) | rfl) ?_
  intro B H
  have hK : Keep h0 h0 [] := Keep.refl _ _
  refine own_aload_n H rfl rfl d11_0 ?_
  refine own_getfield H (w := 19) rfl hF1 d11_1 ?_
  refine own_aload_n H rfl rfl d11_4 ?_
  refine own_getfield H (w := 10) rfl hF2 d11_5 ?_
  refine own_arraylengthV H hV d11_8 ?_
  refine own_icmpne_t H (pc' := 19) d11_9 (by decide) (by decide) (own_nek _ _ hkn) ?_
  refine own_aload_n H rfl rfl d11_19 ?_
  refine own_getfield H (w := 10) rfl hF2 d11_20 ?_
  refine own_aload_n H rfl rfl d11_23 ?_
  refine own_getfield H (w := 19) rfl hF1 d11_24 ?_
  refine own_invokestatic H (argsL := [(.ref t0), (.int (5 : Int32))]) (rest := []) (rmCK5 l Z a0 (own_hw H) h0 n0 t0 kA n p hZ0 hV hkn) (w1 := 29) (w2 := 30) (w3 := 31) (w4 := 32) rfl rfl rfl rfl own_pd4 rfl 0 (by decide) rfl (by decide) (Nat.le_of_eq rfl) (by decide) (by decide) (by decide) rfl d11_27 ?_
  rintro _ h1 ⟨a3, kA4, rfl, K2, f5, f6, f7, f8⟩
  have f9 : a ≠ a3 := Nat.ne_of_lt (Nat.lt_of_lt_of_le hE.lt f6)
  have f10 : t0 ≠ a3 := Nat.ne_of_lt (Nat.lt_of_lt_of_le hV.lt f6)
  have f11 : h0.size ≤ a3 := Nat.le_trans hK.1 f6
  have f12 : Exa Z h1 a "com/example/shardline/shardline/http/BodyBytes" := hE.keep K2
  have f13 : Fld Z h1 a "com/example/shardline/shardline/http/BodyBytes" "length" "I" (.int (5 : Int32)) := hF1.keep K2 nin0
  have f14 : Fld Z h1 a "com/example/shardline/shardline/http/BodyBytes" "bytes" "[B" (.ref t0) := hF2.keep K2 nin0
  have f15 : Arv Z h1 t0 kA .byte n [(.int (FAt p (0 : Int32))), (.int (FAt p (1 : Int32))), (.int (FAt p (2 : Int32))), (.int (FAt p (3 : Int32))), (.int (FAt p (4 : Int32)))] (.int 0) := hV.keep K2 nin0
  have f16 : n0 ≤ h1.size := Nat.le_trans hZ0 K2.1
  have f17 : Keep h0 h1 [] := hK.trans K2 all0
  show own_G _ _ _ _ _ _ _ _ 30 #[.val (.ref a)] [(.ref a3)]
  exact own_areturn H rfl rfl rfl d11_30 (by decide) (by decide) ⟨a3, kA4, rfl, f17, f5, f11, f8.lt, f8⟩
set_option maxHeartbeats 4000000 in
theorem rmTe5 (l : Launch) (Z : State) (a0 : Array Value) (hw : ∀ (i : Nat) (d : Jvm.Cond), tables_1[i]? = some d → d.before a0 Z = true) (h0 : Heap) (n0 : Nat) (a : Addr) (t0 : Addr) (kA : ClassId) (p : Int64) (hE : Exa Z h0 a "com/example/shardline/shardline/http/BodyBytes") (hF1 : Fld Z h0 a "com/example/shardline/shardline/http/BodyBytes" "length" "I" (.int (5 : Int32))) (hF2 : Fld Z h0 a "com/example/shardline/shardline/http/BodyBytes" "bytes" "[B" (.ref t0)) (hV : Arv Z h0 t0 kA .byte (5 : Int32) [(.int (FAt p (0 : Int32))), (.int (FAt p (1 : Int32))), (.int (FAt p (2 : Int32))), (.int (FAt p (3 : Int32))), (.int (FAt p (4 : Int32)))] (.int 0)) :
    own_C l Z (⟨"com/example/shardline/shardline/http/BodyBytes", "toArray", "()[B"⟩ : MethodName) prog_18_method_5_code 1 (some (.array .byte)) ({ frames := 0, cells := 0, slots := 0, locals := 0 } : Room) #[(.ref a)] h0 n0 (fun v h' => v = some (.ref t0) ∧ h0 = h') := by
  refine own_met (Ls := #[.val (.ref a)]) hw own_pl11 (fun m => by first | (simp [entryFrame, mkF, argsToLocals, Value.category]; done) | rfl) ?_
  intro B H
  refine own_aload_n H rfl rfl d11_0 ?_
  refine own_getfield H (w := 19) rfl hF1 d11_1 ?_
  refine own_aload_n H rfl rfl d11_4 ?_
  refine own_getfield H (w := 10) rfl hF2 d11_5 ?_
  refine own_arraylengthV H hV d11_8 ?_
  refine own_icmpne_f H d11_9 (by decide) ?_
  refine own_aload_n H rfl rfl d11_12 ?_
  refine own_getfield H (w := 10) rfl hF2 d11_13 ?_
  refine own_goto H (pc' := 30) d11_16 (by decide) (by decide) ?_
  exact own_areturn H rfl rfl rfl d11_30 (by decide) (by decide) ⟨rfl, rfl⟩
set_option maxHeartbeats 4000000 in
theorem rmAd5 (l : Launch) (Z : State) (a0 : Array Value) (hw : ∀ (i : Nat) (d : Jvm.Cond), tables_1[i]? = some d → d.before a0 Z = true) (h0 : Heap) (n0 : Nat) (a : Addr) (t0 : Addr) (hZ0 : n0 ≤ h0.size) (hE : Exa Z h0 a "com/example/shardline/shardline/http/BodyBytes") (hF1 : Fld Z h0 a "com/example/shardline/shardline/http/BodyBytes" "length" "I" (.int (0 : Int32))) (hF2 : Fld Z h0 a "com/example/shardline/shardline/http/BodyBytes" "bytes" "[B" (.ref t0)) (hA_a : n0 ≤ a) :
    own_C l Z (⟨"com/example/shardline/shardline/http/BodyBytes", "added", "(I)V"⟩ : MethodName) prog_18_method_4_code 2 none ({ frames := 0, cells := 0, slots := 0, locals := 0 } : Room) #[(.ref a), (.int (5 : Int32))] h0 n0 (fun v h' => v = none ∧ Keep h0 h' [a] ∧ Fld Z h' a "com/example/shardline/shardline/http/BodyBytes" "length" "I" (.int (5 : Int32)) ∧ Fld Z h' a "com/example/shardline/shardline/http/BodyBytes" "bytes" "[B" (.ref t0)) := by
  refine own_met (Ls := #[.val (.ref a), .val (.int (5 : Int32))]) hw own_pl10 (fun m => by first | (simp [entryFrame, mkF, argsToLocals, Value.category]; done) | rfl) ?_
  intro B H
  have hK : Keep h0 h0 [a] := Keep.refl _ _
  refine own_aload_n H rfl rfl d10_0 ?_
  refine own_dup H rfl d10_1 ?_
  refine own_getfield H (w := 19) rfl hF1 d10_2 ?_
  refine own_iload_n H rfl d10_5 ?_
  refine own_iadd (v := (5 : Int32)) H (by decide) d10_6 ?_
  refine own_putfield H (w := 19) (wi := 1) rfl hF1 hE hA_a (Or.inl (own_w H (i := 20) rfl)) rfl (ty := .int) (by decide) rfl rfl d10_7 ?_
  intro h1 W2
  have f3 : Exa Z h1 a "com/example/shardline/shardline/http/BodyBytes" := hE.wr W2
  have f4 : Fld Z h1 a "com/example/shardline/shardline/http/BodyBytes" "length" "I" (.int (5 : Int32)) := hF1.same W2
  have f5 : Fld Z h1 a "com/example/shardline/shardline/http/BodyBytes" "bytes" "[B" (.ref t0) := hF2.other W2 (Or.inr (slot_ne (Or.inl (own_w H (i := 11) rfl)) (Or.inl (own_w H (i := 20) rfl)) (by decide) (t := (.array .byte)) (t' := .int) (by decide) (by decide)))
  have f6 : n0 ≤ h1.size := by rw [W2.size]; exact hZ0
  have f7 : Keep h0 h1 [a] := hK.wr W2 (Or.inl (by simp))
  exact own_return H d10_10 (by decide) (by decide) ⟨rfl, f7, f4, f5⟩
set_option maxHeartbeats 4000000 in
theorem rmPut6 (l : Launch) (Z : State) (a0 : Array Value) (hw : ∀ (i : Nat) (d : Jvm.Cond), tables_1[i]? = some d → d.before a0 Z = true) (h0 : Heap) (n0 : Nat) (t : Addr) (p : Int64) (kA : ClassId) (n : Int32) (hZ0 : n0 ≤ h0.size) (hV : Arv Z h0 t kA .byte n [] (.int 0)) (hE : Exa Z h0 t "[B") (hkn : (6 : Int32).toInt ≤ n.toInt) (hA_t : n0 ≤ t) :
    own_C l Z (⟨"com/example/shardline/shardline/http/BodyBytesToArrayPinLaw", "put", "([BIJ)V"⟩ : MethodName) method_3_code 4 none ({ frames := 1, cells := 0, slots := 0, locals := 20 } : Room) #[(.ref t), (.int (6 : Int32)), (.long p)] h0 n0 (fun v h' => v = none ∧ Keep h0 h' [t] ∧ Arv Z h' t kA .byte n [(.int (FAt p (0 : Int32))), (.int (FAt p (1 : Int32))), (.int (FAt p (2 : Int32))), (.int (FAt p (3 : Int32))), (.int (FAt p (4 : Int32))), (.int (FAt p (5 : Int32)))] (.int 0)) := by
  refine own_met (Ls := #[.val (.ref t), .val (.int (6 : Int32)), .val (.long p), .second]) hw own_pl8 (fun m => by first | (simp [entryFrame, mkF, argsToLocals, Value.category]; done) | rfl) ?_
  intro B H
  have hK : Keep h0 h0 [t] := Keep.refl _ _
  have f1 : Arv Z h0 t kA .byte n [(.int 0), (.int 0), (.int 0), (.int 0), (.int 0), (.int 0)] (.int 0) := hV.pad (pad_rep [] (.int 0) 6)
  refine own_iload_n H rfl d8_0 ?_
  refine own_ifle_f H d8_1 (by decide) ?_
  refine own_aload_n H rfl rfl d8_4 ?_
  refine own_iconst H (0 : Int32) (by decide) d8_5 ?_
  refine own_lload_n H rfl d8_6 ?_
  refine own_iconst H (0 : Int32) (by decide) d8_7 ?_
  refine own_invokestatic H (argsL := [(.long p), (.int (0 : Int32))]) (rest := [(.int (0 : Int32)), (.ref t)]) (rmAt l Z a0 (own_hw H) h0 n0 p (0 : Int32)) (w1 := 45) (w2 := 46) (w3 := 43) (w4 := 47) rfl rfl rfl rfl own_pd0 rfl 2 (by decide) rfl (by decide) (Nat.le_of_eq rfl) (by decide) (by decide) (by decide) rfl d8_8 ?_
  rintro _ _ ⟨rfl, rfl⟩
  show own_G _ _ _ _ _ _ _ _ 11 #[.val (.ref t), .val (.int (6 : Int32)), .val (.long p), .second] [(.int (FAt p (0 : Int32))), (.int (0 : Int32)), (.ref t)]
  refine own_bastoreV H f1 (by decide) (own_jn _ (6 : Int32) _ hkn (by decide)) 0 (by decide) (Nat.le_of_ble_eq_true rfl) hA_t (own_nb _ _) d8_11 ?_
  intro h2 W3 V4
  have f5 : Exa Z h2 t "[B" := hE.wr W3
  have f6 : n0 ≤ h2.size := by rw [W3.size]; exact hZ0
  have f7 : Keep h0 h2 [t] := hK.wr W3 (Or.inl (by simp))
  have f8 : Arv Z h2 t kA .byte n [(.int (FAt p (0 : Int32))), (.int 0), (.int 0), (.int 0), (.int 0), (.int 0)] (.int 0) := V4
  refine own_iload_n H rfl d8_12 ?_
  refine own_iconst H (1 : Int32) (by decide) d8_13 ?_
  refine own_icmple_f H d8_14 (by decide) ?_
  refine own_aload_n H rfl rfl d8_17 ?_
  refine own_iconst H (1 : Int32) (by decide) d8_18 ?_
  refine own_lload_n H rfl d8_19 ?_
  refine own_iconst H (1 : Int32) (by decide) d8_20 ?_
  refine own_invokestatic H (argsL := [(.long p), (.int (1 : Int32))]) (rest := [(.int (1 : Int32)), (.ref t)]) (rmAt l Z a0 (own_hw H) h2 n0 p (1 : Int32)) (w1 := 45) (w2 := 46) (w3 := 43) (w4 := 47) rfl rfl rfl rfl own_pd0 rfl 2 (by decide) rfl (by decide) (Nat.le_of_eq rfl) (by decide) (by decide) (by decide) rfl d8_21 ?_
  rintro _ _ ⟨rfl, rfl⟩
  show own_G _ _ _ _ _ _ _ _ 24 #[.val (.ref t), .val (.int (6 : Int32)), .val (.long p), .second] [(.int (FAt p (1 : Int32))), (.int (1 : Int32)), (.ref t)]
  refine own_bastoreV H f8 (by decide) (own_jn _ (6 : Int32) _ hkn (by decide)) 1 (by decide) (Nat.le_of_ble_eq_true rfl) hA_t (own_nb _ _) d8_24 ?_
  intro h9 W10 V11
  have f12 : Exa Z h9 t "[B" := f5.wr W10
  have f13 : n0 ≤ h9.size := by rw [W10.size]; exact f6
  have f14 : Keep h0 h9 [t] := f7.wr W10 (Or.inl (by simp))
  have f15 : Arv Z h9 t kA .byte n [(.int (FAt p (0 : Int32))), (.int (FAt p (1 : Int32))), (.int 0), (.int 0), (.int 0), (.int 0)] (.int 0) := V11
  refine own_iload_n H rfl d8_25 ?_
  refine own_iconst H (2 : Int32) (by decide) d8_26 ?_
  refine own_icmple_f H d8_27 (by decide) ?_
  refine own_aload_n H rfl rfl d8_30 ?_
  refine own_iconst H (2 : Int32) (by decide) d8_31 ?_
  refine own_lload_n H rfl d8_32 ?_
  refine own_iconst H (2 : Int32) (by decide) d8_33 ?_
  refine own_invokestatic H (argsL := [(.long p), (.int (2 : Int32))]) (rest := [(.int (2 : Int32)), (.ref t)]) (rmAt l Z a0 (own_hw H) h9 n0 p (2 : Int32)) (w1 := 45) (w2 := 46) (w3 := 43) (w4 := 47) rfl rfl rfl rfl own_pd0 rfl 2 (by decide) rfl (by decide) (Nat.le_of_eq rfl) (by decide) (by decide) (by decide) rfl d8_34 ?_
  rintro _ _ ⟨rfl, rfl⟩
  show own_G _ _ _ _ _ _ _ _ 37 #[.val (.ref t), .val (.int (6 : Int32)), .val (.long p), .second] [(.int (FAt p (2 : Int32))), (.int (2 : Int32)), (.ref t)]
  refine own_bastoreV H f15 (by decide) (own_jn _ (6 : Int32) _ hkn (by decide)) 2 (by decide) (Nat.le_of_ble_eq_true rfl) hA_t (own_nb _ _) d8_37 ?_
  intro h16 W17 V18
  have f19 : Exa Z h16 t "[B" := f12.wr W17
  have f20 : n0 ≤ h16.size := by rw [W17.size]; exact f13
  have f21 : Keep h0 h16 [t] := f14.wr W17 (Or.inl (by simp))
  have f22 : Arv Z h16 t kA .byte n [(.int (FAt p (0 : Int32))), (.int (FAt p (1 : Int32))), (.int (FAt p (2 : Int32))), (.int 0), (.int 0), (.int 0)] (.int 0) := V18
  refine own_iload_n H rfl d8_38 ?_
  refine own_iconst H (3 : Int32) (by decide) d8_39 ?_
  refine own_icmple_f H d8_40 (by decide) ?_
  refine own_aload_n H rfl rfl d8_43 ?_
  refine own_iconst H (3 : Int32) (by decide) d8_44 ?_
  refine own_lload_n H rfl d8_45 ?_
  refine own_iconst H (3 : Int32) (by decide) d8_46 ?_
  refine own_invokestatic H (argsL := [(.long p), (.int (3 : Int32))]) (rest := [(.int (3 : Int32)), (.ref t)]) (rmAt l Z a0 (own_hw H) h16 n0 p (3 : Int32)) (w1 := 45) (w2 := 46) (w3 := 43) (w4 := 47) rfl rfl rfl rfl own_pd0 rfl 2 (by decide) rfl (by decide) (Nat.le_of_eq rfl) (by decide) (by decide) (by decide) rfl d8_47 ?_
  rintro _ _ ⟨rfl, rfl⟩
  show own_G _ _ _ _ _ _ _ _ 50 #[.val (.ref t), .val (.int (6 : Int32)), .val (.long p), .second] [(.int (FAt p (3 : Int32))), (.int (3 : Int32)), (.ref t)]
  refine own_bastoreV H f22 (by decide) (own_jn _ (6 : Int32) _ hkn (by decide)) 3 (by decide) (Nat.le_of_ble_eq_true rfl) hA_t (own_nb _ _) d8_50 ?_
  intro h23 W24 V25
  have f26 : Exa Z h23 t "[B" := f19.wr W24
  have f27 : n0 ≤ h23.size := by rw [W24.size]; exact f20
  have f28 : Keep h0 h23 [t] := f21.wr W24 (Or.inl (by simp))
  have f29 : Arv Z h23 t kA .byte n [(.int (FAt p (0 : Int32))), (.int (FAt p (1 : Int32))), (.int (FAt p (2 : Int32))), (.int (FAt p (3 : Int32))), (.int 0), (.int 0)] (.int 0) := V25
  refine own_iload_n H rfl d8_51 ?_
  refine own_iconst H (4 : Int32) (by decide) d8_52 ?_
  refine own_icmple_f H d8_53 (by decide) ?_
  refine own_aload_n H rfl rfl d8_56 ?_
  refine own_iconst H (4 : Int32) (by decide) d8_57 ?_
  refine own_lload_n H rfl d8_58 ?_
  refine own_iconst H (4 : Int32) (by decide) d8_59 ?_
  refine own_invokestatic H (argsL := [(.long p), (.int (4 : Int32))]) (rest := [(.int (4 : Int32)), (.ref t)]) (rmAt l Z a0 (own_hw H) h23 n0 p (4 : Int32)) (w1 := 45) (w2 := 46) (w3 := 43) (w4 := 47) rfl rfl rfl rfl own_pd0 rfl 2 (by decide) rfl (by decide) (Nat.le_of_eq rfl) (by decide) (by decide) (by decide) rfl d8_60 ?_
  rintro _ _ ⟨rfl, rfl⟩
  show own_G _ _ _ _ _ _ _ _ 63 #[.val (.ref t), .val (.int (6 : Int32)), .val (.long p), .second] [(.int (FAt p (4 : Int32))), (.int (4 : Int32)), (.ref t)]
  refine own_bastoreV H f29 (by decide) (own_jn _ (6 : Int32) _ hkn (by decide)) 4 (by decide) (Nat.le_of_ble_eq_true rfl) hA_t (own_nb _ _) d8_63 ?_
  intro h30 W31 V32
  have f33 : Exa Z h30 t "[B" := f26.wr W31
  have f34 : n0 ≤ h30.size := by rw [W31.size]; exact f27
  have f35 : Keep h0 h30 [t] := f28.wr W31 (Or.inl (by simp))
  have f36 : Arv Z h30 t kA .byte n [(.int (FAt p (0 : Int32))), (.int (FAt p (1 : Int32))), (.int (FAt p (2 : Int32))), (.int (FAt p (3 : Int32))), (.int (FAt p (4 : Int32))), (.int 0)] (.int 0) := V32
  refine own_iload_n H rfl d8_64 ?_
  refine own_iconst H (5 : Int32) (by decide) d8_65 ?_
  refine own_icmple_f H d8_66 (by decide) ?_
  refine own_aload_n H rfl rfl d8_69 ?_
  refine own_iconst H (5 : Int32) (by decide) d8_70 ?_
  refine own_lload_n H rfl d8_71 ?_
  refine own_iconst H (5 : Int32) (by decide) d8_72 ?_
  refine own_invokestatic H (argsL := [(.long p), (.int (5 : Int32))]) (rest := [(.int (5 : Int32)), (.ref t)]) (rmAt l Z a0 (own_hw H) h30 n0 p (5 : Int32)) (w1 := 45) (w2 := 46) (w3 := 43) (w4 := 47) rfl rfl rfl rfl own_pd0 rfl 2 (by decide) rfl (by decide) (Nat.le_of_eq rfl) (by decide) (by decide) (by decide) rfl d8_73 ?_
  rintro _ _ ⟨rfl, rfl⟩
  show own_G _ _ _ _ _ _ _ _ 76 #[.val (.ref t), .val (.int (6 : Int32)), .val (.long p), .second] [(.int (FAt p (5 : Int32))), (.int (5 : Int32)), (.ref t)]
  refine own_bastoreV H f36 (by decide) (own_jn _ (6 : Int32) _ hkn (by decide)) 5 (by decide) (Nat.le_of_ble_eq_true rfl) hA_t (own_nb _ _) d8_76 ?_
  intro h37 W38 V39
  have f40 : Exa Z h37 t "[B" := f33.wr W38
  have f41 : n0 ≤ h37.size := by rw [W38.size]; exact f34
  have f42 : Keep h0 h37 [t] := f35.wr W38 (Or.inl (by simp))
  have f43 : Arv Z h37 t kA .byte n [(.int (FAt p (0 : Int32))), (.int (FAt p (1 : Int32))), (.int (FAt p (2 : Int32))), (.int (FAt p (3 : Int32))), (.int (FAt p (4 : Int32))), (.int (FAt p (5 : Int32)))] (.int 0) := V39
  refine own_iload_n H rfl d8_77 ?_
  refine own_bipush H (6 : Int32) (by decide) d8_78 ?_
  refine own_icmple_t H (pc' := 93) d8_80 (by decide) (by decide) (by decide) ?_
  refine own_iload_n H rfl d8_93 ?_
  refine own_bipush H (7 : Int32) (by decide) d8_94 ?_
  refine own_icmple_t H (pc' := 109) d8_96 (by decide) (by decide) (by decide) ?_
  exact own_return H d8_109 (by decide) (by decide) ⟨rfl, f42, f43⟩
set_option maxHeartbeats 4000000 in
theorem rmSm6 (l : Launch) (Z : State) (a0 : Array Value) (hw : ∀ (i : Nat) (d : Jvm.Cond), tables_1[i]? = some d → d.before a0 Z = true) (h0 : Heap) (n0 : Nat) (t : Addr) (p : Int64) (kA : ClassId) (hV : Arv Z h0 t kA .byte (6 : Int32) [(.int (FAt p (0 : Int32))), (.int (FAt p (1 : Int32))), (.int (FAt p (2 : Int32))), (.int (FAt p (3 : Int32))), (.int (FAt p (4 : Int32))), (.int (FAt p (5 : Int32)))] (.int 0)) :
    own_C l Z (⟨"com/example/shardline/shardline/http/BodyBytesToArrayPinLaw", "same", "([BIJ)Z"⟩ : MethodName) method_4_code 4 (some .boolean) ({ frames := 1, cells := 0, slots := 0, locals := 20 } : Room) #[(.ref t), (.int (6 : Int32)), (.long p)] h0 n0 (fun v h' => v = some (.int (1 : Int32)) ∧ h0 = h') := by
  refine own_met (Ls := #[.val (.ref t), .val (.int (6 : Int32)), .val (.long p), .second]) hw own_pl12 (fun m => by first | (simp [entryFrame, mkF, argsToLocals, Value.category]; done) | rfl) ?_
  intro B H
  refine own_aload_n H rfl rfl d12_0 ?_
  refine own_arraylengthV H hV d12_1 ?_
  refine own_iload_n H rfl d12_2 ?_
  refine own_icmpeq_t H (pc' := 8) d12_3 (by decide) (by decide) (by decide) ?_
  refine own_iload_n H rfl d12_8 ?_
  refine own_ifle_f H d12_9 (by decide) ?_
  refine own_aload_n H rfl rfl d12_12 ?_
  refine own_iconst H (0 : Int32) (by decide) d12_13 ?_
  refine own_baloadV H hV (by decide) (by decide) rfl d12_14 ?_
  refine own_lload_n H rfl d12_15 ?_
  refine own_iconst H (0 : Int32) (by decide) d12_16 ?_
  refine own_invokestatic H (argsL := [(.long p), (.int (0 : Int32))]) (rest := [(.int (FAt p (0 : Int32)))]) (rmAt l Z a0 (own_hw H) h0 n0 p (0 : Int32)) (w1 := 45) (w2 := 46) (w3 := 43) (w4 := 47) rfl rfl rfl rfl own_pd0 rfl 1 (by decide) rfl (by decide) (Nat.le_of_eq rfl) (by decide) (by decide) (by decide) rfl d12_17 ?_
  rintro _ _ ⟨rfl, rfl⟩
  show own_G _ _ _ _ _ _ _ _ 20 #[.val (.ref t), .val (.int (6 : Int32)), .val (.long p), .second] [(.int (FAt p (0 : Int32))), (.int (FAt p (0 : Int32)))]
  refine own_icmpeq_t H (pc' := 25) d12_20 (by decide) (by decide) rfl ?_
  refine own_iload_n H rfl d12_25 ?_
  refine own_iconst H (1 : Int32) (by decide) d12_26 ?_
  refine own_icmple_f H d12_27 (by decide) ?_
  refine own_aload_n H rfl rfl d12_30 ?_
  refine own_iconst H (1 : Int32) (by decide) d12_31 ?_
  refine own_baloadV H hV (by decide) (by decide) rfl d12_32 ?_
  refine own_lload_n H rfl d12_33 ?_
  refine own_iconst H (1 : Int32) (by decide) d12_34 ?_
  refine own_invokestatic H (argsL := [(.long p), (.int (1 : Int32))]) (rest := [(.int (FAt p (1 : Int32)))]) (rmAt l Z a0 (own_hw H) h0 n0 p (1 : Int32)) (w1 := 45) (w2 := 46) (w3 := 43) (w4 := 47) rfl rfl rfl rfl own_pd0 rfl 1 (by decide) rfl (by decide) (Nat.le_of_eq rfl) (by decide) (by decide) (by decide) rfl d12_35 ?_
  rintro _ _ ⟨rfl, rfl⟩
  show own_G _ _ _ _ _ _ _ _ 38 #[.val (.ref t), .val (.int (6 : Int32)), .val (.long p), .second] [(.int (FAt p (1 : Int32))), (.int (FAt p (1 : Int32)))]
  refine own_icmpeq_t H (pc' := 43) d12_38 (by decide) (by decide) rfl ?_
  refine own_iload_n H rfl d12_43 ?_
  refine own_iconst H (2 : Int32) (by decide) d12_44 ?_
  refine own_icmple_f H d12_45 (by decide) ?_
  refine own_aload_n H rfl rfl d12_48 ?_
  refine own_iconst H (2 : Int32) (by decide) d12_49 ?_
  refine own_baloadV H hV (by decide) (by decide) rfl d12_50 ?_
  refine own_lload_n H rfl d12_51 ?_
  refine own_iconst H (2 : Int32) (by decide) d12_52 ?_
  refine own_invokestatic H (argsL := [(.long p), (.int (2 : Int32))]) (rest := [(.int (FAt p (2 : Int32)))]) (rmAt l Z a0 (own_hw H) h0 n0 p (2 : Int32)) (w1 := 45) (w2 := 46) (w3 := 43) (w4 := 47) rfl rfl rfl rfl own_pd0 rfl 1 (by decide) rfl (by decide) (Nat.le_of_eq rfl) (by decide) (by decide) (by decide) rfl d12_53 ?_
  rintro _ _ ⟨rfl, rfl⟩
  show own_G _ _ _ _ _ _ _ _ 56 #[.val (.ref t), .val (.int (6 : Int32)), .val (.long p), .second] [(.int (FAt p (2 : Int32))), (.int (FAt p (2 : Int32)))]
  refine own_icmpeq_t H (pc' := 61) d12_56 (by decide) (by decide) rfl ?_
  refine own_iload_n H rfl d12_61 ?_
  refine own_iconst H (3 : Int32) (by decide) d12_62 ?_
  refine own_icmple_f H d12_63 (by decide) ?_
  refine own_aload_n H rfl rfl d12_66 ?_
  refine own_iconst H (3 : Int32) (by decide) d12_67 ?_
  refine own_baloadV H hV (by decide) (by decide) rfl d12_68 ?_
  refine own_lload_n H rfl d12_69 ?_
  refine own_iconst H (3 : Int32) (by decide) d12_70 ?_
  refine own_invokestatic H (argsL := [(.long p), (.int (3 : Int32))]) (rest := [(.int (FAt p (3 : Int32)))]) (rmAt l Z a0 (own_hw H) h0 n0 p (3 : Int32)) (w1 := 45) (w2 := 46) (w3 := 43) (w4 := 47) rfl rfl rfl rfl own_pd0 rfl 1 (by decide) rfl (by decide) (Nat.le_of_eq rfl) (by decide) (by decide) (by decide) rfl d12_71 ?_
  rintro _ _ ⟨rfl, rfl⟩
  show own_G _ _ _ _ _ _ _ _ 74 #[.val (.ref t), .val (.int (6 : Int32)), .val (.long p), .second] [(.int (FAt p (3 : Int32))), (.int (FAt p (3 : Int32)))]
  refine own_icmpeq_t H (pc' := 79) d12_74 (by decide) (by decide) rfl ?_
  refine own_iload_n H rfl d12_79 ?_
  refine own_iconst H (4 : Int32) (by decide) d12_80 ?_
  refine own_icmple_f H d12_81 (by decide) ?_
  refine own_aload_n H rfl rfl d12_84 ?_
  refine own_iconst H (4 : Int32) (by decide) d12_85 ?_
  refine own_baloadV H hV (by decide) (by decide) rfl d12_86 ?_
  refine own_lload_n H rfl d12_87 ?_
  refine own_iconst H (4 : Int32) (by decide) d12_88 ?_
  refine own_invokestatic H (argsL := [(.long p), (.int (4 : Int32))]) (rest := [(.int (FAt p (4 : Int32)))]) (rmAt l Z a0 (own_hw H) h0 n0 p (4 : Int32)) (w1 := 45) (w2 := 46) (w3 := 43) (w4 := 47) rfl rfl rfl rfl own_pd0 rfl 1 (by decide) rfl (by decide) (Nat.le_of_eq rfl) (by decide) (by decide) (by decide) rfl d12_89 ?_
  rintro _ _ ⟨rfl, rfl⟩
  show own_G _ _ _ _ _ _ _ _ 92 #[.val (.ref t), .val (.int (6 : Int32)), .val (.long p), .second] [(.int (FAt p (4 : Int32))), (.int (FAt p (4 : Int32)))]
  refine own_icmpeq_t H (pc' := 97) d12_92 (by decide) (by decide) rfl ?_
  refine own_iload_n H rfl d12_97 ?_
  refine own_iconst H (5 : Int32) (by decide) d12_98 ?_
  refine own_icmple_f H d12_99 (by decide) ?_
  refine own_aload_n H rfl rfl d12_102 ?_
  refine own_iconst H (5 : Int32) (by decide) d12_103 ?_
  refine own_baloadV H hV (by decide) (by decide) rfl d12_104 ?_
  refine own_lload_n H rfl d12_105 ?_
  refine own_iconst H (5 : Int32) (by decide) d12_106 ?_
  refine own_invokestatic H (argsL := [(.long p), (.int (5 : Int32))]) (rest := [(.int (FAt p (5 : Int32)))]) (rmAt l Z a0 (own_hw H) h0 n0 p (5 : Int32)) (w1 := 45) (w2 := 46) (w3 := 43) (w4 := 47) rfl rfl rfl rfl own_pd0 rfl 1 (by decide) rfl (by decide) (Nat.le_of_eq rfl) (by decide) (by decide) (by decide) rfl d12_107 ?_
  rintro _ _ ⟨rfl, rfl⟩
  show own_G _ _ _ _ _ _ _ _ 110 #[.val (.ref t), .val (.int (6 : Int32)), .val (.long p), .second] [(.int (FAt p (5 : Int32))), (.int (FAt p (5 : Int32)))]
  refine own_icmpeq_t H (pc' := 115) d12_110 (by decide) (by decide) rfl ?_
  refine own_iload_n H rfl d12_115 ?_
  refine own_bipush H (6 : Int32) (by decide) d12_116 ?_
  refine own_icmple_t H (pc' := 136) d12_118 (by decide) (by decide) (by decide) ?_
  refine own_iload_n H rfl d12_136 ?_
  refine own_bipush H (7 : Int32) (by decide) d12_137 ?_
  refine own_icmple_t H (pc' := 157) d12_139 (by decide) (by decide) (by decide) ?_
  refine own_iconst H (1 : Int32) (by decide) d12_157 ?_
  exact own_ireturn H (by simp) (by decide) d12_158 (by decide) (by decide) ⟨rfl, rfl⟩
set_option maxHeartbeats 4000000 in
theorem rmCK6 (l : Launch) (Z : State) (a0 : Array Value) (hw : ∀ (i : Nat) (d : Jvm.Cond), tables_1[i]? = some d → d.before a0 Z = true) (h0 : Heap) (n0 : Nat) (t0 : Addr) (kA : ClassId) (n : Int32) (p : Int64) (hZ0 : n0 ≤ h0.size) (hV : Arv Z h0 t0 kA .byte n [(.int (FAt p (0 : Int32))), (.int (FAt p (1 : Int32))), (.int (FAt p (2 : Int32))), (.int (FAt p (3 : Int32))), (.int (FAt p (4 : Int32))), (.int (FAt p (5 : Int32)))] (.int 0)) (hkn : (6 : Int32).toInt < n.toInt) :
    own_C l Z (⟨"java/util/Arrays", "copyOf", "([BI)[B"⟩ : MethodName) jdk_65_method_121_code 3 (some (.array .byte)) ({ frames := 1, cells := 1, slots := 6, locals := 31 } : Room) #[(.ref t0), (.int (6 : Int32))] h0 n0 (fun v h' => ∃ (a2 : Addr) (kA3 : ClassId), v = some (.ref a2) ∧ Keep h0 h' [] ∧ n0 ≤ a2 ∧ h0.size ≤ a2 ∧ a2 < h'.size ∧ Arv Z h' a2 kA3 .byte (6 : Int32) [(.int (FAt p (0 : Int32))), (.int (FAt p (1 : Int32))), (.int (FAt p (2 : Int32))), (.int (FAt p (3 : Int32))), (.int (FAt p (4 : Int32))), (.int (FAt p (5 : Int32)))] (.int 0)) := by
  refine own_met (Ls := #[.val (.ref t0), .val (.int (6 : Int32)), .unset]) hw own_pl6 (fun m => by first | (simp [entryFrame, mkF, argsToLocals, Value.category]; done) | rfl) ?_
  intro B H
  have hK : Keep h0 h0 [] := Keep.refl _ _
  refine own_iload_n H rfl d6_0 ?_
  refine own_aload_n H rfl rfl d6_1 ?_
  refine own_arraylengthV H hV d6_2 ?_
  refine own_icmpne_t H (pc' := 14) d6_3 (by decide) (by decide) (own_nek _ _ hkn) ?_
  refine own_iload_n H rfl d6_14 ?_
  refine own_newarrayE H (w := 9) (n := (6 : Int32)) rfl "[B" (by decide) (by decide) 6 (by decide) (by decide) d6_15 (by decide) (by decide) ?_
  intro h1 a2 kA3 ha4 E5 V6 X7
  have f8 : t0 ≠ a2 := Nat.ne_of_lt (by rw [ha4]; exact hV.lt)
  have f9 : n0 ≤ a2 := by rw [ha4]; exact hZ0
  have f10 : h0.size ≤ a2 := by rw [ha4]; exact hK.1
  have f11 : Arv Z h1 t0 kA .byte n [(.int (FAt p (0 : Int32))), (.int (FAt p (1 : Int32))), (.int (FAt p (2 : Int32))), (.int (FAt p (3 : Int32))), (.int (FAt p (4 : Int32))), (.int (FAt p (5 : Int32)))] (.int 0) := hV.ext E5
  have f12 : n0 ≤ h1.size := Nat.le_trans hZ0 E5.1
  have f13 : Keep h0 h1 [] := hK.ext E5
  have f14 : Arv Z h1 a2 kA3 .byte (6 : Int32) [(.int 0), (.int 0), (.int 0), (.int 0), (.int 0), (.int 0)] (.int 0) := V6.pad (pad_rep [] (.int 0) 6)
  show own_G _ _ _ _ _ _ _ _ 17 #[.val (.ref t0), .val (.int (6 : Int32)), .unset] [(.ref a2)]
  refine own_astore_n H rfl #[.val (.ref t0), .val (.int (6 : Int32)), .val (.ref a2)] rfl d6_17 ?_
  refine own_aload_n H rfl rfl d6_18 ?_
  refine own_iconst H (0 : Int32) (by decide) d6_19 ?_
  refine own_aload_n H rfl rfl d6_20 ?_
  refine own_iconst H (0 : Int32) (by decide) d6_21 ?_
  refine own_aload_n H rfl rfl d6_22 ?_
  refine own_arraylengthV H f11 d6_23 ?_
  refine own_iload_n H rfl d6_24 ?_
  refine own_invokestatic H (argsL := [(.int n), (.int (6 : Int32))]) (rest := [(.int (0 : Int32)), (.ref a2), (.int (0 : Int32)), (.ref t0)]) (rmMinI l Z a0 (own_hw H) h1 n0 n (6 : Int32)) (w1 := 33) (w2 := 34) (w3 := 24) (w4 := 35) rfl rfl rfl rfl own_pd2 rfl 4 (by decide) rfl (by decide) (Nat.le_of_eq rfl) (by decide) (by decide) (by decide) rfl d6_25 ?_
  rintro _ _ ⟨rfl, rfl⟩
  show own_G _ _ _ _ _ _ _ _ 28 #[.val (.ref t0), .val (.int (6 : Int32)), .val (.ref a2)] [(.int (FMinI n (6 : Int32))), (.int (0 : Int32)), (.ref a2), (.int (0 : Int32)), (.ref t0)]
  rw [own_mink n (6 : Int32) hkn]
  show own_G _ _ _ _ _ _ _ _ 28 #[.val (.ref t0), .val (.int (6 : Int32)), .val (.ref a2)] [(.int (6 : Int32)), (.int (0 : Int32)), (.ref a2), (.int (0 : Int32)), (.ref t0)]
  refine own_arraycopy H (w1 := 36) (w2 := 39) (w3 := 37) (w4 := 38) rfl rfl rfl rfl (us := [(.int (FAt p (0 : Int32))), (.int (FAt p (1 : Int32))), (.int (FAt p (2 : Int32))), (.int (FAt p (3 : Int32))), (.int (FAt p (4 : Int32))), (.int (FAt p (5 : Int32)))]) f11 f14 rfl (by decide) (by decide) (by decide) (own_kn (by decide) hkn) (by decide) rfl (Nat.le_of_ble_eq_true rfl) f9 rfl (by decide) 0 (Nat.le_of_eq rfl) (by decide) d6_28 ?_
  intro h15 K16 V17
  have f18 : Arv Z h15 t0 kA .byte n [(.int (FAt p (0 : Int32))), (.int (FAt p (1 : Int32))), (.int (FAt p (2 : Int32))), (.int (FAt p (3 : Int32))), (.int (FAt p (4 : Int32))), (.int (FAt p (5 : Int32)))] (.int 0) := f11.keep K16 (ninS f8 nin0)
  have f19 : n0 ≤ h15.size := Nat.le_trans f12 K16.1
  have f20 : Keep h0 h15 [] := f13.trans K16 (allS (Or.inr f10) all0)
  have f21 : Exa Z h15 a2 "[B" := X7.keep K16
  have f22 : Arv Z h15 a2 kA3 .byte (6 : Int32) [(.int (FAt p (0 : Int32))), (.int (FAt p (1 : Int32))), (.int (FAt p (2 : Int32))), (.int (FAt p (3 : Int32))), (.int (FAt p (4 : Int32))), (.int (FAt p (5 : Int32)))] (.int 0) := V17
  show own_G _ _ _ _ _ _ _ _ 31 #[.val (.ref t0), .val (.int (6 : Int32)), .val (.ref a2)] []
  refine own_aload_n H rfl rfl d6_31 ?_
  exact own_areturn H rfl rfl rfl d6_32 (by decide) (by decide) ⟨a2, kA3, rfl, f20, f9, f10, f21.lt, f22⟩
set_option maxHeartbeats 4000000 in
theorem rmTn6 (l : Launch) (Z : State) (a0 : Array Value) (hw : ∀ (i : Nat) (d : Jvm.Cond), tables_1[i]? = some d → d.before a0 Z = true) (h0 : Heap) (n0 : Nat) (a : Addr) (t0 : Addr) (kA : ClassId) (n : Int32) (p : Int64) (hZ0 : n0 ≤ h0.size) (hE : Exa Z h0 a "com/example/shardline/shardline/http/BodyBytes") (hF1 : Fld Z h0 a "com/example/shardline/shardline/http/BodyBytes" "length" "I" (.int (6 : Int32))) (hF2 : Fld Z h0 a "com/example/shardline/shardline/http/BodyBytes" "bytes" "[B" (.ref t0)) (hV : Arv Z h0 t0 kA .byte n [(.int (FAt p (0 : Int32))), (.int (FAt p (1 : Int32))), (.int (FAt p (2 : Int32))), (.int (FAt p (3 : Int32))), (.int (FAt p (4 : Int32))), (.int (FAt p (5 : Int32)))] (.int 0)) (hkn : (6 : Int32).toInt < n.toInt) :
    own_C l Z (⟨"com/example/shardline/shardline/http/BodyBytes", "toArray", "()[B"⟩ : MethodName) prog_18_method_5_code 1 (some (.array .byte)) ({ frames := 2, cells := 1, slots := 6, locals := 50 } : Room) #[(.ref a)] h0 n0 (fun v h' => ∃ (a3 : Addr) (kA4 : ClassId), v = some (.ref a3) ∧ Keep h0 h' [] ∧ n0 ≤ a3 ∧ h0.size ≤ a3 ∧ a3 < h'.size ∧ Arv Z h' a3 kA4 .byte (6 : Int32) [(.int (FAt p (0 : Int32))), (.int (FAt p (1 : Int32))), (.int (FAt p (2 : Int32))), (.int (FAt p (3 : Int32))), (.int (FAt p (4 : Int32))), (.int (FAt p (5 : Int32)))] (.int 0)) := by
  refine own_met (Ls := #[.val (.ref a)]) hw own_pl11 (fun m => by first | (simp [entryFrame, mkF, argsToLocals, Value.category]; done) | rfl) ?_
  intro B H
  have hK : Keep h0 h0 [] := Keep.refl _ _
  refine own_aload_n H rfl rfl d11_0 ?_
  refine own_getfield H (w := 19) rfl hF1 d11_1 ?_
  refine own_aload_n H rfl rfl d11_4 ?_
  refine own_getfield H (w := 10) rfl hF2 d11_5 ?_
  refine own_arraylengthV H hV d11_8 ?_
  refine own_icmpne_t H (pc' := 19) d11_9 (by decide) (by decide) (own_nek _ _ hkn) ?_
  refine own_aload_n H rfl rfl d11_19 ?_
  refine own_getfield H (w := 10) rfl hF2 d11_20 ?_
  refine own_aload_n H rfl rfl d11_23 ?_
  refine own_getfield H (w := 19) rfl hF1 d11_24 ?_
  refine own_invokestatic H (argsL := [(.ref t0), (.int (6 : Int32))]) (rest := []) (rmCK6 l Z a0 (own_hw H) h0 n0 t0 kA n p hZ0 hV hkn) (w1 := 29) (w2 := 30) (w3 := 31) (w4 := 32) rfl rfl rfl rfl own_pd4 rfl 0 (by decide) rfl (by decide) (Nat.le_of_eq rfl) (by decide) (by decide) (by decide) rfl d11_27 ?_
  rintro _ h1 ⟨a3, kA4, rfl, K2, f5, f6, f7, f8⟩
  have f9 : a ≠ a3 := Nat.ne_of_lt (Nat.lt_of_lt_of_le hE.lt f6)
  have f10 : t0 ≠ a3 := Nat.ne_of_lt (Nat.lt_of_lt_of_le hV.lt f6)
  have f11 : h0.size ≤ a3 := Nat.le_trans hK.1 f6
  have f12 : Exa Z h1 a "com/example/shardline/shardline/http/BodyBytes" := hE.keep K2
  have f13 : Fld Z h1 a "com/example/shardline/shardline/http/BodyBytes" "length" "I" (.int (6 : Int32)) := hF1.keep K2 nin0
  have f14 : Fld Z h1 a "com/example/shardline/shardline/http/BodyBytes" "bytes" "[B" (.ref t0) := hF2.keep K2 nin0
  have f15 : Arv Z h1 t0 kA .byte n [(.int (FAt p (0 : Int32))), (.int (FAt p (1 : Int32))), (.int (FAt p (2 : Int32))), (.int (FAt p (3 : Int32))), (.int (FAt p (4 : Int32))), (.int (FAt p (5 : Int32)))] (.int 0) := hV.keep K2 nin0
  have f16 : n0 ≤ h1.size := Nat.le_trans hZ0 K2.1
  have f17 : Keep h0 h1 [] := hK.trans K2 all0
  show own_G _ _ _ _ _ _ _ _ 30 #[.val (.ref a)] [(.ref a3)]
  exact own_areturn H rfl rfl rfl d11_30 (by decide) (by decide) ⟨a3, kA4, rfl, f17, f5, f11, f8.lt, f8⟩
set_option maxHeartbeats 4000000 in
theorem rmTe6 (l : Launch) (Z : State) (a0 : Array Value) (hw : ∀ (i : Nat) (d : Jvm.Cond), tables_1[i]? = some d → d.before a0 Z = true) (h0 : Heap) (n0 : Nat) (a : Addr) (t0 : Addr) (kA : ClassId) (p : Int64) (hE : Exa Z h0 a "com/example/shardline/shardline/http/BodyBytes") (hF1 : Fld Z h0 a "com/example/shardline/shardline/http/BodyBytes" "length" "I" (.int (6 : Int32))) (hF2 : Fld Z h0 a "com/example/shardline/shardline/http/BodyBytes" "bytes" "[B" (.ref t0)) (hV : Arv Z h0 t0 kA .byte (6 : Int32) [(.int (FAt p (0 : Int32))), (.int (FAt p (1 : Int32))), (.int (FAt p (2 : Int32))), (.int (FAt p (3 : Int32))), (.int (FAt p (4 : Int32))), (.int (FAt p (5 : Int32)))] (.int 0)) :
    own_C l Z (⟨"com/example/shardline/shardline/http/BodyBytes", "toArray", "()[B"⟩ : MethodName) prog_18_method_5_code 1 (some (.array .byte)) ({ frames := 0, cells := 0, slots := 0, locals := 0 } : Room) #[(.ref a)] h0 n0 (fun v h' => v = some (.ref t0) ∧ h0 = h') := by
  refine own_met (Ls := #[.val (.ref a)]) hw own_pl11 (fun m => by first | (simp [entryFrame, mkF, argsToLocals, Value.category]; done) | rfl) ?_
  intro B H
  refine own_aload_n H rfl rfl d11_0 ?_
  refine own_getfield H (w := 19) rfl hF1 d11_1 ?_
  refine own_aload_n H rfl rfl d11_4 ?_
  refine own_getfield H (w := 10) rfl hF2 d11_5 ?_
  refine own_arraylengthV H hV d11_8 ?_
  refine own_icmpne_f H d11_9 (by decide) ?_
  refine own_aload_n H rfl rfl d11_12 ?_
  refine own_getfield H (w := 10) rfl hF2 d11_13 ?_
  refine own_goto H (pc' := 30) d11_16 (by decide) (by decide) ?_
  exact own_areturn H rfl rfl rfl d11_30 (by decide) (by decide) ⟨rfl, rfl⟩
set_option maxHeartbeats 4000000 in
theorem rmAd6 (l : Launch) (Z : State) (a0 : Array Value) (hw : ∀ (i : Nat) (d : Jvm.Cond), tables_1[i]? = some d → d.before a0 Z = true) (h0 : Heap) (n0 : Nat) (a : Addr) (t0 : Addr) (hZ0 : n0 ≤ h0.size) (hE : Exa Z h0 a "com/example/shardline/shardline/http/BodyBytes") (hF1 : Fld Z h0 a "com/example/shardline/shardline/http/BodyBytes" "length" "I" (.int (0 : Int32))) (hF2 : Fld Z h0 a "com/example/shardline/shardline/http/BodyBytes" "bytes" "[B" (.ref t0)) (hA_a : n0 ≤ a) :
    own_C l Z (⟨"com/example/shardline/shardline/http/BodyBytes", "added", "(I)V"⟩ : MethodName) prog_18_method_4_code 2 none ({ frames := 0, cells := 0, slots := 0, locals := 0 } : Room) #[(.ref a), (.int (6 : Int32))] h0 n0 (fun v h' => v = none ∧ Keep h0 h' [a] ∧ Fld Z h' a "com/example/shardline/shardline/http/BodyBytes" "length" "I" (.int (6 : Int32)) ∧ Fld Z h' a "com/example/shardline/shardline/http/BodyBytes" "bytes" "[B" (.ref t0)) := by
  refine own_met (Ls := #[.val (.ref a), .val (.int (6 : Int32))]) hw own_pl10 (fun m => by first | (simp [entryFrame, mkF, argsToLocals, Value.category]; done) | rfl) ?_
  intro B H
  have hK : Keep h0 h0 [a] := Keep.refl _ _
  refine own_aload_n H rfl rfl d10_0 ?_
  refine own_dup H rfl d10_1 ?_
  refine own_getfield H (w := 19) rfl hF1 d10_2 ?_
  refine own_iload_n H rfl d10_5 ?_
  refine own_iadd (v := (6 : Int32)) H (by decide) d10_6 ?_
  refine own_putfield H (w := 19) (wi := 1) rfl hF1 hE hA_a (Or.inl (own_w H (i := 20) rfl)) rfl (ty := .int) (by decide) rfl rfl d10_7 ?_
  intro h1 W2
  have f3 : Exa Z h1 a "com/example/shardline/shardline/http/BodyBytes" := hE.wr W2
  have f4 : Fld Z h1 a "com/example/shardline/shardline/http/BodyBytes" "length" "I" (.int (6 : Int32)) := hF1.same W2
  have f5 : Fld Z h1 a "com/example/shardline/shardline/http/BodyBytes" "bytes" "[B" (.ref t0) := hF2.other W2 (Or.inr (slot_ne (Or.inl (own_w H (i := 11) rfl)) (Or.inl (own_w H (i := 20) rfl)) (by decide) (t := (.array .byte)) (t' := .int) (by decide) (by decide)))
  have f6 : n0 ≤ h1.size := by rw [W2.size]; exact hZ0
  have f7 : Keep h0 h1 [a] := hK.wr W2 (Or.inl (by simp))
  exact own_return H d10_10 (by decide) (by decide) ⟨rfl, f7, f4, f5⟩
theorem own_and31 (p : Int32) : 0 ≤ (p &&& (2147483647 : Int32)).toInt := by
  have h : (p &&& (2147483647 : Int32)).toBitVec.toNat = p.toBitVec.toNat % 2147483648 := by
    have : (p &&& (2147483647 : Int32)).toBitVec.toNat = p.toBitVec.toNat &&& 2147483647 := by
      rw [Int32.toBitVec_and, BitVec.toNat_and]; rfl
    rw [this]
    exact Nat.and_two_pow_sub_one_eq_mod _ 31
  show 0 ≤ (p &&& (2147483647 : Int32)).toBitVec.toInt
  rw [BitVec.toInt_eq_toNat_cond, if_pos (by omega)]
  omega
theorem own_mod (p q : Int32) (hq : 0 < q.toInt) (hq2 : q.toInt < 1000) : 0 ≤ ((p &&& (2147483647 : Int32)) % q).toInt ∧ ((p &&& (2147483647 : Int32)) % q).toInt < q.toInt := by
  have h := own_and31 p
  rw [Int32.toInt_mod, Int.tmod_eq_emod_of_nonneg h]
  exact ⟨Int.emod_nonneg _ (by omega), Int.emod_lt_of_pos _ hq⟩

theorem own_am (p m : Int32) (K : Nat) (hK : K < 31) (hm : m.toBitVec.toNat = 2 ^ K - 1) : 0 ≤ (p &&& m).toInt ∧ (p &&& m).toInt ≤ 2 ^ K - 1 := by
  have h : (p &&& m).toBitVec.toNat = p.toBitVec.toNat % 2 ^ K := by
    rw [Int32.toBitVec_and, BitVec.toNat_and, hm]
    exact Nat.and_two_pow_sub_one_eq_mod _ K
  have h2 : p.toBitVec.toNat % 2 ^ K < 2 ^ K := Nat.mod_lt _ (Nat.two_pow_pos K)
  have h3 : 2 ^ K ≤ 2 ^ 30 := Nat.pow_le_pow_right (by decide) (by omega)
  have e : (p &&& m).toInt = (p &&& m).toBitVec.toNat := by
    show (p &&& m).toBitVec.toInt = _
    rw [BitVec.toInt_eq_toNat_cond, if_pos (by omega)]
  rw [e, h]
  have c : ((2 ^ K : Nat) : Int) = 2 ^ K := by simp
  omega
theorem own_a3 (p : Int32) : 0 ≤ (p &&& (3 : Int32)).toInt ∧ (p &&& (3 : Int32)).toInt ≤ 3 := own_am p 3 2 (by decide) (by decide)
theorem own_a7 (p : Int32) : 0 ≤ (p &&& (7 : Int32)).toInt ∧ (p &&& (7 : Int32)).toInt ≤ 7 := own_am p 7 3 (by decide) (by decide)
theorem own_h1 (p : Int32) : ¬ (p &&& (3 : Int32)) < 0 := by
  have h := own_a3 p
  have l0 : (0 : Int32).toInt = 0 := rfl
  rw [Int32.lt_iff_toInt_lt]
  omega
theorem own_h2 (p : Int32) : (p &&& (3 : Int32)).toNatClampNeg ≤ 3 := by
  have h := own_a3 p
  show (p &&& (3 : Int32)).toInt.toNat ≤ 3
  omega
theorem own_hb (p1 p2 p3 : Int32) : own_Hb ((p1 &&& (3 : Int32)) + (p2 &&& (3 : Int32))) (p3 &&& (7 : Int32)) (p1 &&& (3 : Int32)) := by
  have h1 := own_a3 p1
  have h2 := own_a3 p2
  have h3 := own_a7 p3
  have e : ((p1 &&& (3 : Int32)) + (p2 &&& (3 : Int32))).toInt = (p1 &&& (3 : Int32)).toInt + (p2 &&& (3 : Int32)).toInt := XT.add32 ⟨by omega, by omega⟩
  unfold own_Hb
  rw [e]
  omega
theorem own_n1 (n : Int32) (h : 0 ≤ n.toInt ∧ n.toInt ≤ 6) : (n + (1 : Int32)).toInt = n.toInt + 1 := by
  have l1 : (1 : Int32).toInt = 1 := by decide
  rw [XT.add32 ⟨by rw [l1]; omega, by rw [l1]; omega⟩, l1]
theorem own_n2 (n : Int32) (h : 0 ≤ n.toInt ∧ n.toInt ≤ 6) : n + (1 : Int32) ≠ 0 := by
  have e := own_n1 n h
  intro q
  rw [q] at e
  have l0 : (0 : Int32).toInt = 0 := rfl
  omega
theorem own_n3 (n : Int32) (h : 0 ≤ n.toInt ∧ n.toInt ≤ 6) : ¬ (8 : Int32) < n := by
  have l8 : (8 : Int32).toInt = 8 := by decide
  rw [Int32.lt_iff_toInt_lt]
  omega
theorem own_k (p n : Int32) (h : 0 ≤ n.toInt ∧ n.toInt ≤ 6) : 0 ≤ ((p &&& (2147483647 : Int32)) % (n + (1 : Int32))).toInt ∧ ((p &&& (2147483647 : Int32)) % (n + (1 : Int32))).toInt ≤ n.toInt := by
  have e := own_n1 n h
  have q := own_mod p (n + (1 : Int32)) (by omega) (by omega)
  omega
theorem own_k6 (p4 n : Int32) (h : 0 ≤ n.toInt ∧ n.toInt ≤ 6) (c0 : ¬ ((p4 &&& (2147483647 : Int32)) % (n + (1 : Int32))) = (0 : Int32)) (c1 : ¬ ((p4 &&& (2147483647 : Int32)) % (n + (1 : Int32))) = (1 : Int32)) (c2 : ¬ ((p4 &&& (2147483647 : Int32)) % (n + (1 : Int32))) = (2 : Int32)) (c3 : ¬ ((p4 &&& (2147483647 : Int32)) % (n + (1 : Int32))) = (3 : Int32)) (c4 : ¬ ((p4 &&& (2147483647 : Int32)) % (n + (1 : Int32))) = (4 : Int32)) (c5 : ¬ ((p4 &&& (2147483647 : Int32)) % (n + (1 : Int32))) = (5 : Int32)) : ((p4 &&& (2147483647 : Int32)) % (n + (1 : Int32))) = (6 : Int32) := by
  have q := own_k p4 n h
  simp only [← Int32.toInt_inj] at *
  have e0 : (0 : Int32).toInt = 0 := by decide
  have e1 : (1 : Int32).toInt = 1 := by decide
  have e2 : (2 : Int32).toInt = 2 := by decide
  have e3 : (3 : Int32).toInt = 3 := by decide
  have e4 : (4 : Int32).toInt = 4 := by decide
  have e5 : (5 : Int32).toInt = 5 := by decide
  have e6 : (6 : Int32).toInt = 6 := by decide
  omega
theorem own_pl0 : plainFor x = true := plainFor_of_name (by first | (simp [plainName, overriddenIn]; done) | decide +kernel)
set_option maxHeartbeats 40000000 in
theorem rm0 (l : Launch) (Z : State) (a0 : Array Value) (hw : ∀ (i : Nat) (d : Jvm.Cond), tables_1[i]? = some d → d.before a0 Z = true) (ws : List Jvm.Cond) (h0 : Heap) (n0 : Nat) (p1 p2 p3 p4 : Int32) (p5 : Int64) (hZ0 : n0 ≤ h0.size) :
    own_Met l Z ws x code maxLocals ret room_1 #[(.int p1), (.int p2), (.int p3), (.int p4), (.long p5)] h0 n0 16 128 (fun v h' => v = some (.int 1)) := by
  refine own_met (Ls := #[.val (.int p1), .val (.int p2), .val (.int p3), .val (.int p4), .val (.long p5), .second, .unset, .unset, .unset, .unset, .unset, .unset, .unset, .unset]) hw own_pl0 (fun m => by first | (simp [entryFrame, mkF, argsToLocals, Value.category, maxLocals]; done) | rfl) ?_
  intro B H
  refine own_iload_n H rfl at_0 ?_
  refine own_iconst H (3 : Int32) (by decide) at_1 ?_
  refine own_iand H rfl at_2 ?_
  refine own_istore H #[.val (.int p1), .val (.int p2), .val (.int p3), .val (.int p4), .val (.long p5), .second, .val (.int (p1 &&& (3 : Int32))), .unset, .unset, .unset, .unset, .unset, .unset, .unset] rfl at_3 ?_
  refine own_iload H rfl at_5 ?_
  refine own_iload_n H rfl at_7 ?_
  refine own_iconst H (3 : Int32) (by decide) at_8 ?_
  refine own_iand H rfl at_9 ?_
  refine own_iadd H rfl at_10 ?_
  refine own_istore H #[.val (.int p1), .val (.int p2), .val (.int p3), .val (.int p4), .val (.long p5), .second, .val (.int (p1 &&& (3 : Int32))), .val (.int ((p1 &&& (3 : Int32)) + (p2 &&& (3 : Int32)))), .unset, .unset, .unset, .unset, .unset, .unset] rfl at_11 ?_
  refine own_iload_n H rfl at_13 ?_
  refine own_bipush H (7 : Int32) (by decide) at_14 ?_
  refine own_iand H rfl at_16 ?_
  refine own_istore H #[.val (.int p1), .val (.int p2), .val (.int p3), .val (.int p4), .val (.long p5), .second, .val (.int (p1 &&& (3 : Int32))), .val (.int ((p1 &&& (3 : Int32)) + (p2 &&& (3 : Int32)))), .val (.int (p3 &&& (7 : Int32))), .unset, .unset, .unset, .unset, .unset] rfl at_17 ?_
  refine own_new H (w := 0) (wi := 1) (wz := 2) rfl rfl rfl at_19 (by decide) (by decide) ?_
  intro h1 a2 ha3 E4 X5 D6
  have f7 : n0 ≤ a2 := by rw [ha3]; exact hZ0
  have f8 : n0 ≤ h1.size := Nat.le_trans hZ0 E4.1
  have f9 : Fld Z h1 a2 "com/example/shardline/shardline/http/BodyBytes" "bytes" "[B" .null := D6 (Or.inl (own_w H (i := 11) rfl)) (ty := (.array .byte)) (by decide)
  have f10 : Fld Z h1 a2 "com/example/shardline/shardline/http/BodyBytes" "most" "I" (.int (0 : Int32)) := D6 (Or.inr (own_w H (i := 13) rfl)) (ty := .int) (by decide)
  have f11 : Fld Z h1 a2 "com/example/shardline/shardline/http/BodyBytes" "length" "I" (.int (0 : Int32)) := D6 (Or.inl (own_w H (i := 20) rfl)) (ty := .int) (by decide)
  show own_G _ _ _ _ _ _ _ _ 22 #[.val (.int p1), .val (.int p2), .val (.int p3), .val (.int p4), .val (.long p5), .second, .val (.int (p1 &&& (3 : Int32))), .val (.int ((p1 &&& (3 : Int32)) + (p2 &&& (3 : Int32)))), .val (.int (p3 &&& (7 : Int32))), .unset, .unset, .unset, .unset, .unset] [(.ref a2)]
  refine own_dup H rfl at_22 ?_
  refine own_iload H rfl at_23 ?_
  refine own_iload H rfl at_25 ?_
  refine own_invokespecial H (a := a2) (argsL := [(.int (p1 &&& (3 : Int32))), (.int ((p1 &&& (3 : Int32)) + (p2 &&& (3 : Int32))))]) (rest := [(.ref a2)]) (rm1 l Z a0 (own_hw H) h1 n0 a2 (p1 &&& (3 : Int32)) ((p1 &&& (3 : Int32)) + (p2 &&& (3 : Int32))) f8 X5 f9 f10 f11 (own_h1 p1) (own_h2 p1) f7) rfl (w1 := 3) (w2 := 4) (w3 := 2) (w4 := 5) rfl rfl rfl rfl own_pd3 rfl 1 (by decide) rfl (by decide) (Nat.le_of_eq rfl) (by decide) (by decide) (by decide) rfl at_27 ?_
  rintro _ h12 ⟨a14, kA15, rfl, K13, f16, f17, f18, f19, f20, f21, f22, f23⟩
  have f24 : a2 ≠ a14 := Nat.ne_of_lt (Nat.lt_of_lt_of_le X5.lt f17)
  have f25 : n0 ≤ h12.size := Nat.le_trans f8 K13.1
  have f26 : Exa Z h12 a2 "com/example/shardline/shardline/http/BodyBytes" := X5.keep K13
  show own_G _ _ _ _ _ _ _ _ 30 #[.val (.int p1), .val (.int p2), .val (.int p3), .val (.int p4), .val (.long p5), .second, .val (.int (p1 &&& (3 : Int32))), .val (.int ((p1 &&& (3 : Int32)) + (p2 &&& (3 : Int32)))), .val (.int (p3 &&& (7 : Int32))), .unset, .unset, .unset, .unset, .unset] [(.ref a2)]
  refine own_astore H rfl #[.val (.int p1), .val (.int p2), .val (.int p3), .val (.int p4), .val (.long p5), .second, .val (.int (p1 &&& (3 : Int32))), .val (.int ((p1 &&& (3 : Int32)) + (p2 &&& (3 : Int32)))), .val (.int (p3 &&& (7 : Int32))), .val (.ref a2), .unset, .unset, .unset, .unset] rfl at_30 ?_
  refine own_aload H rfl rfl at_32 ?_
  refine own_iload H rfl at_34 ?_
  refine own_invokevirtual H (a := a2) (argsL := [(.int (p3 &&& (7 : Int32)))]) (rest := []) (rmRm l Z a0 (own_hw H) h12 n0 a2 (p3 &&& (7 : Int32)) a14 kA15 (p1 &&& (3 : Int32)) ((p1 &&& (3 : Int32)) + (p2 &&& (3 : Int32))) f25 f26 f21 f19 f20 f22 f23 f24 f16 (own_hb p1 p2 p3) f7) f26 (w1 := 14) (w0 := 15) (w5 := 17) (w2 := 16) (w3 := 2) (w4 := 18) rfl rfl rfl rfl rfl rfl own_pd5 rfl 0 (by decide) rfl (by decide) (Nat.le_of_eq rfl) (by decide) (by decide) (by decide) rfl at_36 ?_
  rintro _ h27 ⟨a28, kB29, n30, rfl, K31, f32, f33, f34, V35, X36, f37, f38, f39⟩
  have f40 : n0 ≤ h27.size := Nat.le_trans f25 K31.1
  have f41 : Exa Z h27 a2 "com/example/shardline/shardline/http/BodyBytes" := f26.keep K31
  show own_G _ _ _ _ _ _ _ _ 39 #[.val (.int p1), .val (.int p2), .val (.int p3), .val (.int p4), .val (.long p5), .second, .val (.int (p1 &&& (3 : Int32))), .val (.int ((p1 &&& (3 : Int32)) + (p2 &&& (3 : Int32)))), .val (.int (p3 &&& (7 : Int32))), .val (.ref a2), .unset, .unset, .unset, .unset] [(.ref a28)]
  refine own_astore H rfl #[.val (.int p1), .val (.int p2), .val (.int p3), .val (.int p4), .val (.long p5), .second, .val (.int (p1 &&& (3 : Int32))), .val (.int ((p1 &&& (3 : Int32)) + (p2 &&& (3 : Int32)))), .val (.int (p3 &&& (7 : Int32))), .val (.ref a2), .val (.ref a28), .unset, .unset, .unset] rfl at_39 ?_
  refine own_aload H rfl rfl at_41 ?_
  refine own_arraylengthV H V35 at_43 ?_
  refine own_istore H #[.val (.int p1), .val (.int p2), .val (.int p3), .val (.int p4), .val (.long p5), .second, .val (.int (p1 &&& (3 : Int32))), .val (.int ((p1 &&& (3 : Int32)) + (p2 &&& (3 : Int32)))), .val (.int (p3 &&& (7 : Int32))), .val (.ref a2), .val (.ref a28), .val (.int n30), .unset, .unset] rfl at_44 ?_
  refine own_iload H rfl at_46 ?_
  refine own_bipush H (8 : Int32) (by decide) at_48 ?_
  refine own_icmple_t H (pc' := 55) at_50 (by decide) (by decide) (own_n3 _ f34) ?_
  refine own_iload_n H rfl at_55 ?_
  refine own_ldcI H (w := 40) rfl at_56 ?_
  refine own_iand H rfl at_58 ?_
  refine own_iload H rfl at_59 ?_
  refine own_iconst H (1 : Int32) (by decide) at_61 ?_
  refine own_iadd H rfl at_62 ?_
  refine own_irem H rfl at_63 (own_n2 _ f34) ?_
  refine own_istore H #[.val (.int p1), .val (.int p2), .val (.int p3), .val (.int p4), .val (.long p5), .second, .val (.int (p1 &&& (3 : Int32))), .val (.int ((p1 &&& (3 : Int32)) + (p2 &&& (3 : Int32)))), .val (.int (p3 &&& (7 : Int32))), .val (.ref a2), .val (.ref a28), .val (.int n30), .val (.int ((p4 &&& (2147483647 : Int32)) % (n30 + (1 : Int32)))), .unset] rfl at_64 ?_
  by_cases c42 : ((p4 &&& (2147483647 : Int32)) % (n30 + (1 : Int32))) = (0 : Int32)
  ·
    rw [c42]
    show own_G _ _ _ _ _ _ _ _ 66 #[.val (.int p1), .val (.int p2), .val (.int p3), .val (.int p4), .val (.long p5), .second, .val (.int (p1 &&& (3 : Int32))), .val (.int ((p1 &&& (3 : Int32)) + (p2 &&& (3 : Int32)))), .val (.int (p3 &&& (7 : Int32))), .val (.ref a2), .val (.ref a28), .val (.int n30), .val (.int (0 : Int32)), .unset] []
    refine own_aload H rfl rfl at_66 ?_
    refine own_iload H rfl at_68 ?_
    refine own_lload H rfl at_70 ?_
    have hkq := own_k p4 n30 f34
    rw [c42] at hkq
    refine own_invokestatic H (argsL := [(.ref a28), (.int (0 : Int32)), (.long p5)]) (rest := []) (rmPut0 l Z a0 (own_hw H) h27 n0 a28 p5 kB29 n30 f40 V35 X36 hkq.2 f32) (w1 := 41) (w2 := 42) (w3 := 43) (w4 := 44) rfl rfl rfl rfl own_pd6 rfl 0 (by decide) rfl (by decide) (Nat.le_of_eq rfl) (by decide) (by decide) (by decide) rfl at_72 ?_
    rintro _ h43 ⟨rfl, K44, f45⟩
    have f46 : n0 ≤ h43.size := Nat.le_trans f40 K44.1
    have f47 : Exa Z h43 a2 "com/example/shardline/shardline/http/BodyBytes" := f41.keep K44
    have f48 : Exa Z h43 a28 "[B" := X36.keep K44
    have f49 : Fld Z h43 a2 "com/example/shardline/shardline/http/BodyBytes" "bytes" "[B" (.ref a28) := f37.keep K44 (ninS f33 nin0)
    have f50 : Fld Z h43 a2 "com/example/shardline/shardline/http/BodyBytes" "length" "I" (.int (0 : Int32)) := f38.keep K44 (ninS f33 nin0)
    show own_G _ _ _ _ _ _ _ _ 75 #[.val (.int p1), .val (.int p2), .val (.int p3), .val (.int p4), .val (.long p5), .second, .val (.int (p1 &&& (3 : Int32))), .val (.int ((p1 &&& (3 : Int32)) + (p2 &&& (3 : Int32)))), .val (.int (p3 &&& (7 : Int32))), .val (.ref a2), .val (.ref a28), .val (.int n30), .val (.int (0 : Int32)), .unset] []
    refine own_aload H rfl rfl at_75 ?_
    refine own_iload H rfl at_77 ?_
    refine own_invokevirtual H (a := a2) (argsL := [(.int (0 : Int32))]) (rest := []) (rmAd0 l Z a0 (own_hw H) h43 n0 a2 a28 f46 f47 f50 f49 f7) f47 (w1 := 48) (w0 := 49) (w5 := 51) (w2 := 50) (w3 := 2) (w4 := 52) rfl rfl rfl rfl rfl rfl own_pd9 rfl 0 (by decide) rfl (by decide) (Nat.le_of_eq rfl) (by decide) (by decide) (by decide) rfl at_79 ?_
    rintro _ h51 ⟨rfl, K52, f53, f54⟩
    have f55 : n0 ≤ h51.size := Nat.le_trans f46 K52.1
    have f56 : Exa Z h51 a2 "com/example/shardline/shardline/http/BodyBytes" := f47.keep K52
    have f57 : Exa Z h51 a28 "[B" := f48.keep K52
    have f58 : Arv Z h51 a28 kB29 .byte n30 [] (.int 0) := f45.keep K52 (ninS f33.symm nin0)
    show own_G _ _ _ _ _ _ _ _ 82 #[.val (.int p1), .val (.int p2), .val (.int p3), .val (.int p4), .val (.long p5), .second, .val (.int (p1 &&& (3 : Int32))), .val (.int ((p1 &&& (3 : Int32)) + (p2 &&& (3 : Int32)))), .val (.int (p3 &&& (7 : Int32))), .val (.ref a2), .val (.ref a28), .val (.int n30), .val (.int (0 : Int32)), .unset] []
    refine own_aload H rfl rfl at_82 ?_
    by_cases c59 : (0 : Int32).toInt < n30.toInt
    ·
      refine own_invokevirtual H (a := a2) (argsL := []) (rest := []) (rmTn0 l Z a0 (own_hw H) h51 n0 a2 a28 kB29 n30 f55 f56 f53 f54 f58 c59) f56 (w1 := 53) (w0 := 54) (w5 := 56) (w2 := 55) (w3 := 2) (w4 := 57) rfl rfl rfl rfl rfl rfl own_pd8 rfl 0 (by decide) rfl (by decide) (Nat.le_of_eq rfl) (by decide) (by decide) (by decide) rfl at_84 ?_
      rintro _ h60 ⟨a62, kA63, rfl, K61, f64, f65, f66, f67⟩
      have f68 : a2 ≠ a62 := Nat.ne_of_lt (Nat.lt_of_lt_of_le f56.lt f65)
      have f69 : a28 ≠ a62 := Nat.ne_of_lt (Nat.lt_of_lt_of_le f57.lt f65)
      have f70 : n0 ≤ h60.size := Nat.le_trans f55 K61.1
      have f71 : Exa Z h60 a2 "com/example/shardline/shardline/http/BodyBytes" := f56.keep K61
      have f72 : Exa Z h60 a28 "[B" := f57.keep K61
      have f73 : Arv Z h60 a28 kB29 .byte n30 [] (.int 0) := f58.keep K61 nin0
      have f74 : Fld Z h60 a2 "com/example/shardline/shardline/http/BodyBytes" "length" "I" (.int (0 : Int32)) := f53.keep K61 nin0
      have f75 : Fld Z h60 a2 "com/example/shardline/shardline/http/BodyBytes" "bytes" "[B" (.ref a28) := f54.keep K61 nin0
      show own_G _ _ _ _ _ _ _ _ 87 #[.val (.int p1), .val (.int p2), .val (.int p3), .val (.int p4), .val (.long p5), .second, .val (.int (p1 &&& (3 : Int32))), .val (.int ((p1 &&& (3 : Int32)) + (p2 &&& (3 : Int32)))), .val (.int (p3 &&& (7 : Int32))), .val (.ref a2), .val (.ref a28), .val (.int n30), .val (.int (0 : Int32)), .unset] [(.ref a62)]
      refine own_astore H rfl #[.val (.int p1), .val (.int p2), .val (.int p3), .val (.int p4), .val (.long p5), .second, .val (.int (p1 &&& (3 : Int32))), .val (.int ((p1 &&& (3 : Int32)) + (p2 &&& (3 : Int32)))), .val (.int (p3 &&& (7 : Int32))), .val (.ref a2), .val (.ref a28), .val (.int n30), .val (.int (0 : Int32)), .val (.ref a62)] rfl at_87 ?_
      refine own_aload H rfl rfl at_89 ?_
      refine own_iload H rfl at_91 ?_
      refine own_lload H rfl at_93 ?_
      refine own_invokestatic H (argsL := [(.ref a62), (.int (0 : Int32)), (.long p5)]) (rest := []) (rmSm0 l Z a0 (own_hw H) h60 n0 a62 p5 kA63 f67) (w1 := 58) (w2 := 59) (w3 := 43) (w4 := 60) rfl rfl rfl rfl own_pd7 rfl 0 (by decide) rfl (by decide) (Nat.le_of_eq rfl) (by decide) (by decide) (by decide) rfl at_95 ?_
      rintro _ _ ⟨rfl, rfl⟩
      show own_G _ _ _ _ _ _ _ _ 98 #[.val (.int p1), .val (.int p2), .val (.int p3), .val (.int p4), .val (.long p5), .second, .val (.int (p1 &&& (3 : Int32))), .val (.int ((p1 &&& (3 : Int32)) + (p2 &&& (3 : Int32)))), .val (.int (p3 &&& (7 : Int32))), .val (.ref a2), .val (.ref a28), .val (.int n30), .val (.int (0 : Int32)), .val (.ref a62)] [(.int (1 : Int32))]
      exact own_ireturn H (by simp) (by decide) at_98 (by decide) (by decide) rfl
    ·
      have hnk : n30 = (0 : Int32) := by
        rw [← Int32.toInt_inj]
        have := hkq.2
        omega
      have f76 : Arv Z h51 a28 kB29 .byte (0 : Int32) [] (.int 0) := hnk ▸ f58
      refine own_invokevirtual H (a := a2) (argsL := []) (rest := []) (rmTe0 l Z a0 (own_hw H) h51 n0 a2 a28 kB29 f56 f53 f54 f76) f56 (w1 := 53) (w0 := 54) (w5 := 56) (w2 := 55) (w3 := 2) (w4 := 57) rfl rfl rfl rfl rfl rfl own_pd8 rfl 0 (by decide) rfl (by decide) (Nat.le_of_eq rfl) (by decide) (by decide) (by decide) rfl at_84 ?_
      rintro _ _ ⟨rfl, rfl⟩
      show own_G _ _ _ _ _ _ _ _ 87 #[.val (.int p1), .val (.int p2), .val (.int p3), .val (.int p4), .val (.long p5), .second, .val (.int (p1 &&& (3 : Int32))), .val (.int ((p1 &&& (3 : Int32)) + (p2 &&& (3 : Int32)))), .val (.int (p3 &&& (7 : Int32))), .val (.ref a2), .val (.ref a28), .val (.int n30), .val (.int (0 : Int32)), .unset] [(.ref a28)]
      refine own_astore H rfl #[.val (.int p1), .val (.int p2), .val (.int p3), .val (.int p4), .val (.long p5), .second, .val (.int (p1 &&& (3 : Int32))), .val (.int ((p1 &&& (3 : Int32)) + (p2 &&& (3 : Int32)))), .val (.int (p3 &&& (7 : Int32))), .val (.ref a2), .val (.ref a28), .val (.int n30), .val (.int (0 : Int32)), .val (.ref a28)] rfl at_87 ?_
      refine own_aload H rfl rfl at_89 ?_
      refine own_iload H rfl at_91 ?_
      refine own_lload H rfl at_93 ?_
      refine own_invokestatic H (argsL := [(.ref a28), (.int (0 : Int32)), (.long p5)]) (rest := []) (rmSm0 l Z a0 (own_hw H) h51 n0 a28 p5 kB29 f76) (w1 := 58) (w2 := 59) (w3 := 43) (w4 := 60) rfl rfl rfl rfl own_pd7 rfl 0 (by decide) rfl (by decide) (Nat.le_of_eq rfl) (by decide) (by decide) (by decide) rfl at_95 ?_
      rintro _ _ ⟨rfl, rfl⟩
      show own_G _ _ _ _ _ _ _ _ 98 #[.val (.int p1), .val (.int p2), .val (.int p3), .val (.int p4), .val (.long p5), .second, .val (.int (p1 &&& (3 : Int32))), .val (.int ((p1 &&& (3 : Int32)) + (p2 &&& (3 : Int32)))), .val (.int (p3 &&& (7 : Int32))), .val (.ref a2), .val (.ref a28), .val (.int n30), .val (.int (0 : Int32)), .val (.ref a28)] [(.int (1 : Int32))]
      exact own_ireturn H (by simp) (by decide) at_98 (by decide) (by decide) rfl
  ·
    by_cases c77 : ((p4 &&& (2147483647 : Int32)) % (n30 + (1 : Int32))) = (1 : Int32)
    ·
      rw [c77]
      show own_G _ _ _ _ _ _ _ _ 66 #[.val (.int p1), .val (.int p2), .val (.int p3), .val (.int p4), .val (.long p5), .second, .val (.int (p1 &&& (3 : Int32))), .val (.int ((p1 &&& (3 : Int32)) + (p2 &&& (3 : Int32)))), .val (.int (p3 &&& (7 : Int32))), .val (.ref a2), .val (.ref a28), .val (.int n30), .val (.int (1 : Int32)), .unset] []
      refine own_aload H rfl rfl at_66 ?_
      refine own_iload H rfl at_68 ?_
      refine own_lload H rfl at_70 ?_
      have hkq := own_k p4 n30 f34
      rw [c77] at hkq
      refine own_invokestatic H (argsL := [(.ref a28), (.int (1 : Int32)), (.long p5)]) (rest := []) (rmPut1 l Z a0 (own_hw H) h27 n0 a28 p5 kB29 n30 f40 V35 X36 hkq.2 f32) (w1 := 41) (w2 := 42) (w3 := 43) (w4 := 44) rfl rfl rfl rfl own_pd6 rfl 0 (by decide) rfl (by decide) (Nat.le_of_eq rfl) (by decide) (by decide) (by decide) rfl at_72 ?_
      rintro _ h78 ⟨rfl, K79, f80⟩
      have f81 : n0 ≤ h78.size := Nat.le_trans f40 K79.1
      have f82 : Exa Z h78 a2 "com/example/shardline/shardline/http/BodyBytes" := f41.keep K79
      have f83 : Exa Z h78 a28 "[B" := X36.keep K79
      have f84 : Fld Z h78 a2 "com/example/shardline/shardline/http/BodyBytes" "bytes" "[B" (.ref a28) := f37.keep K79 (ninS f33 nin0)
      have f85 : Fld Z h78 a2 "com/example/shardline/shardline/http/BodyBytes" "length" "I" (.int (0 : Int32)) := f38.keep K79 (ninS f33 nin0)
      show own_G _ _ _ _ _ _ _ _ 75 #[.val (.int p1), .val (.int p2), .val (.int p3), .val (.int p4), .val (.long p5), .second, .val (.int (p1 &&& (3 : Int32))), .val (.int ((p1 &&& (3 : Int32)) + (p2 &&& (3 : Int32)))), .val (.int (p3 &&& (7 : Int32))), .val (.ref a2), .val (.ref a28), .val (.int n30), .val (.int (1 : Int32)), .unset] []
      refine own_aload H rfl rfl at_75 ?_
      refine own_iload H rfl at_77 ?_
      refine own_invokevirtual H (a := a2) (argsL := [(.int (1 : Int32))]) (rest := []) (rmAd1 l Z a0 (own_hw H) h78 n0 a2 a28 f81 f82 f85 f84 f7) f82 (w1 := 48) (w0 := 49) (w5 := 51) (w2 := 50) (w3 := 2) (w4 := 52) rfl rfl rfl rfl rfl rfl own_pd9 rfl 0 (by decide) rfl (by decide) (Nat.le_of_eq rfl) (by decide) (by decide) (by decide) rfl at_79 ?_
      rintro _ h86 ⟨rfl, K87, f88, f89⟩
      have f90 : n0 ≤ h86.size := Nat.le_trans f81 K87.1
      have f91 : Exa Z h86 a2 "com/example/shardline/shardline/http/BodyBytes" := f82.keep K87
      have f92 : Exa Z h86 a28 "[B" := f83.keep K87
      have f93 : Arv Z h86 a28 kB29 .byte n30 [(.int (FAt p5 (0 : Int32)))] (.int 0) := f80.keep K87 (ninS f33.symm nin0)
      show own_G _ _ _ _ _ _ _ _ 82 #[.val (.int p1), .val (.int p2), .val (.int p3), .val (.int p4), .val (.long p5), .second, .val (.int (p1 &&& (3 : Int32))), .val (.int ((p1 &&& (3 : Int32)) + (p2 &&& (3 : Int32)))), .val (.int (p3 &&& (7 : Int32))), .val (.ref a2), .val (.ref a28), .val (.int n30), .val (.int (1 : Int32)), .unset] []
      refine own_aload H rfl rfl at_82 ?_
      by_cases c94 : (1 : Int32).toInt < n30.toInt
      ·
        refine own_invokevirtual H (a := a2) (argsL := []) (rest := []) (rmTn1 l Z a0 (own_hw H) h86 n0 a2 a28 kB29 n30 p5 f90 f91 f88 f89 f93 c94) f91 (w1 := 53) (w0 := 54) (w5 := 56) (w2 := 55) (w3 := 2) (w4 := 57) rfl rfl rfl rfl rfl rfl own_pd8 rfl 0 (by decide) rfl (by decide) (Nat.le_of_eq rfl) (by decide) (by decide) (by decide) rfl at_84 ?_
        rintro _ h95 ⟨a97, kA98, rfl, K96, f99, f100, f101, f102⟩
        have f103 : a2 ≠ a97 := Nat.ne_of_lt (Nat.lt_of_lt_of_le f91.lt f100)
        have f104 : a28 ≠ a97 := Nat.ne_of_lt (Nat.lt_of_lt_of_le f92.lt f100)
        have f105 : n0 ≤ h95.size := Nat.le_trans f90 K96.1
        have f106 : Exa Z h95 a2 "com/example/shardline/shardline/http/BodyBytes" := f91.keep K96
        have f107 : Exa Z h95 a28 "[B" := f92.keep K96
        have f108 : Arv Z h95 a28 kB29 .byte n30 [(.int (FAt p5 (0 : Int32)))] (.int 0) := f93.keep K96 nin0
        have f109 : Fld Z h95 a2 "com/example/shardline/shardline/http/BodyBytes" "length" "I" (.int (1 : Int32)) := f88.keep K96 nin0
        have f110 : Fld Z h95 a2 "com/example/shardline/shardline/http/BodyBytes" "bytes" "[B" (.ref a28) := f89.keep K96 nin0
        show own_G _ _ _ _ _ _ _ _ 87 #[.val (.int p1), .val (.int p2), .val (.int p3), .val (.int p4), .val (.long p5), .second, .val (.int (p1 &&& (3 : Int32))), .val (.int ((p1 &&& (3 : Int32)) + (p2 &&& (3 : Int32)))), .val (.int (p3 &&& (7 : Int32))), .val (.ref a2), .val (.ref a28), .val (.int n30), .val (.int (1 : Int32)), .unset] [(.ref a97)]
        refine own_astore H rfl #[.val (.int p1), .val (.int p2), .val (.int p3), .val (.int p4), .val (.long p5), .second, .val (.int (p1 &&& (3 : Int32))), .val (.int ((p1 &&& (3 : Int32)) + (p2 &&& (3 : Int32)))), .val (.int (p3 &&& (7 : Int32))), .val (.ref a2), .val (.ref a28), .val (.int n30), .val (.int (1 : Int32)), .val (.ref a97)] rfl at_87 ?_
        refine own_aload H rfl rfl at_89 ?_
        refine own_iload H rfl at_91 ?_
        refine own_lload H rfl at_93 ?_
        refine own_invokestatic H (argsL := [(.ref a97), (.int (1 : Int32)), (.long p5)]) (rest := []) (rmSm1 l Z a0 (own_hw H) h95 n0 a97 p5 kA98 f102) (w1 := 58) (w2 := 59) (w3 := 43) (w4 := 60) rfl rfl rfl rfl own_pd7 rfl 0 (by decide) rfl (by decide) (Nat.le_of_eq rfl) (by decide) (by decide) (by decide) rfl at_95 ?_
        rintro _ _ ⟨rfl, rfl⟩
        show own_G _ _ _ _ _ _ _ _ 98 #[.val (.int p1), .val (.int p2), .val (.int p3), .val (.int p4), .val (.long p5), .second, .val (.int (p1 &&& (3 : Int32))), .val (.int ((p1 &&& (3 : Int32)) + (p2 &&& (3 : Int32)))), .val (.int (p3 &&& (7 : Int32))), .val (.ref a2), .val (.ref a28), .val (.int n30), .val (.int (1 : Int32)), .val (.ref a97)] [(.int (1 : Int32))]
        exact own_ireturn H (by simp) (by decide) at_98 (by decide) (by decide) rfl
      ·
        have hnk : n30 = (1 : Int32) := by
          rw [← Int32.toInt_inj]
          have := hkq.2
          omega
        have f111 : Arv Z h86 a28 kB29 .byte (1 : Int32) [(.int (FAt p5 (0 : Int32)))] (.int 0) := hnk ▸ f93
        refine own_invokevirtual H (a := a2) (argsL := []) (rest := []) (rmTe1 l Z a0 (own_hw H) h86 n0 a2 a28 kB29 p5 f91 f88 f89 f111) f91 (w1 := 53) (w0 := 54) (w5 := 56) (w2 := 55) (w3 := 2) (w4 := 57) rfl rfl rfl rfl rfl rfl own_pd8 rfl 0 (by decide) rfl (by decide) (Nat.le_of_eq rfl) (by decide) (by decide) (by decide) rfl at_84 ?_
        rintro _ _ ⟨rfl, rfl⟩
        show own_G _ _ _ _ _ _ _ _ 87 #[.val (.int p1), .val (.int p2), .val (.int p3), .val (.int p4), .val (.long p5), .second, .val (.int (p1 &&& (3 : Int32))), .val (.int ((p1 &&& (3 : Int32)) + (p2 &&& (3 : Int32)))), .val (.int (p3 &&& (7 : Int32))), .val (.ref a2), .val (.ref a28), .val (.int n30), .val (.int (1 : Int32)), .unset] [(.ref a28)]
        refine own_astore H rfl #[.val (.int p1), .val (.int p2), .val (.int p3), .val (.int p4), .val (.long p5), .second, .val (.int (p1 &&& (3 : Int32))), .val (.int ((p1 &&& (3 : Int32)) + (p2 &&& (3 : Int32)))), .val (.int (p3 &&& (7 : Int32))), .val (.ref a2), .val (.ref a28), .val (.int n30), .val (.int (1 : Int32)), .val (.ref a28)] rfl at_87 ?_
        refine own_aload H rfl rfl at_89 ?_
        refine own_iload H rfl at_91 ?_
        refine own_lload H rfl at_93 ?_
        refine own_invokestatic H (argsL := [(.ref a28), (.int (1 : Int32)), (.long p5)]) (rest := []) (rmSm1 l Z a0 (own_hw H) h86 n0 a28 p5 kB29 f111) (w1 := 58) (w2 := 59) (w3 := 43) (w4 := 60) rfl rfl rfl rfl own_pd7 rfl 0 (by decide) rfl (by decide) (Nat.le_of_eq rfl) (by decide) (by decide) (by decide) rfl at_95 ?_
        rintro _ _ ⟨rfl, rfl⟩
        show own_G _ _ _ _ _ _ _ _ 98 #[.val (.int p1), .val (.int p2), .val (.int p3), .val (.int p4), .val (.long p5), .second, .val (.int (p1 &&& (3 : Int32))), .val (.int ((p1 &&& (3 : Int32)) + (p2 &&& (3 : Int32)))), .val (.int (p3 &&& (7 : Int32))), .val (.ref a2), .val (.ref a28), .val (.int n30), .val (.int (1 : Int32)), .val (.ref a28)] [(.int (1 : Int32))]
        exact own_ireturn H (by simp) (by decide) at_98 (by decide) (by decide) rfl
    ·
      by_cases c112 : ((p4 &&& (2147483647 : Int32)) % (n30 + (1 : Int32))) = (2 : Int32)
      ·
        rw [c112]
        show own_G _ _ _ _ _ _ _ _ 66 #[.val (.int p1), .val (.int p2), .val (.int p3), .val (.int p4), .val (.long p5), .second, .val (.int (p1 &&& (3 : Int32))), .val (.int ((p1 &&& (3 : Int32)) + (p2 &&& (3 : Int32)))), .val (.int (p3 &&& (7 : Int32))), .val (.ref a2), .val (.ref a28), .val (.int n30), .val (.int (2 : Int32)), .unset] []
        refine own_aload H rfl rfl at_66 ?_
        refine own_iload H rfl at_68 ?_
        refine own_lload H rfl at_70 ?_
        have hkq := own_k p4 n30 f34
        rw [c112] at hkq
        refine own_invokestatic H (argsL := [(.ref a28), (.int (2 : Int32)), (.long p5)]) (rest := []) (rmPut2 l Z a0 (own_hw H) h27 n0 a28 p5 kB29 n30 f40 V35 X36 hkq.2 f32) (w1 := 41) (w2 := 42) (w3 := 43) (w4 := 44) rfl rfl rfl rfl own_pd6 rfl 0 (by decide) rfl (by decide) (Nat.le_of_eq rfl) (by decide) (by decide) (by decide) rfl at_72 ?_
        rintro _ h113 ⟨rfl, K114, f115⟩
        have f116 : n0 ≤ h113.size := Nat.le_trans f40 K114.1
        have f117 : Exa Z h113 a2 "com/example/shardline/shardline/http/BodyBytes" := f41.keep K114
        have f118 : Exa Z h113 a28 "[B" := X36.keep K114
        have f119 : Fld Z h113 a2 "com/example/shardline/shardline/http/BodyBytes" "bytes" "[B" (.ref a28) := f37.keep K114 (ninS f33 nin0)
        have f120 : Fld Z h113 a2 "com/example/shardline/shardline/http/BodyBytes" "length" "I" (.int (0 : Int32)) := f38.keep K114 (ninS f33 nin0)
        show own_G _ _ _ _ _ _ _ _ 75 #[.val (.int p1), .val (.int p2), .val (.int p3), .val (.int p4), .val (.long p5), .second, .val (.int (p1 &&& (3 : Int32))), .val (.int ((p1 &&& (3 : Int32)) + (p2 &&& (3 : Int32)))), .val (.int (p3 &&& (7 : Int32))), .val (.ref a2), .val (.ref a28), .val (.int n30), .val (.int (2 : Int32)), .unset] []
        refine own_aload H rfl rfl at_75 ?_
        refine own_iload H rfl at_77 ?_
        refine own_invokevirtual H (a := a2) (argsL := [(.int (2 : Int32))]) (rest := []) (rmAd2 l Z a0 (own_hw H) h113 n0 a2 a28 f116 f117 f120 f119 f7) f117 (w1 := 48) (w0 := 49) (w5 := 51) (w2 := 50) (w3 := 2) (w4 := 52) rfl rfl rfl rfl rfl rfl own_pd9 rfl 0 (by decide) rfl (by decide) (Nat.le_of_eq rfl) (by decide) (by decide) (by decide) rfl at_79 ?_
        rintro _ h121 ⟨rfl, K122, f123, f124⟩
        have f125 : n0 ≤ h121.size := Nat.le_trans f116 K122.1
        have f126 : Exa Z h121 a2 "com/example/shardline/shardline/http/BodyBytes" := f117.keep K122
        have f127 : Exa Z h121 a28 "[B" := f118.keep K122
        have f128 : Arv Z h121 a28 kB29 .byte n30 [(.int (FAt p5 (0 : Int32))), (.int (FAt p5 (1 : Int32)))] (.int 0) := f115.keep K122 (ninS f33.symm nin0)
        show own_G _ _ _ _ _ _ _ _ 82 #[.val (.int p1), .val (.int p2), .val (.int p3), .val (.int p4), .val (.long p5), .second, .val (.int (p1 &&& (3 : Int32))), .val (.int ((p1 &&& (3 : Int32)) + (p2 &&& (3 : Int32)))), .val (.int (p3 &&& (7 : Int32))), .val (.ref a2), .val (.ref a28), .val (.int n30), .val (.int (2 : Int32)), .unset] []
        refine own_aload H rfl rfl at_82 ?_
        by_cases c129 : (2 : Int32).toInt < n30.toInt
        ·
          refine own_invokevirtual H (a := a2) (argsL := []) (rest := []) (rmTn2 l Z a0 (own_hw H) h121 n0 a2 a28 kB29 n30 p5 f125 f126 f123 f124 f128 c129) f126 (w1 := 53) (w0 := 54) (w5 := 56) (w2 := 55) (w3 := 2) (w4 := 57) rfl rfl rfl rfl rfl rfl own_pd8 rfl 0 (by decide) rfl (by decide) (Nat.le_of_eq rfl) (by decide) (by decide) (by decide) rfl at_84 ?_
          rintro _ h130 ⟨a132, kA133, rfl, K131, f134, f135, f136, f137⟩
          have f138 : a2 ≠ a132 := Nat.ne_of_lt (Nat.lt_of_lt_of_le f126.lt f135)
          have f139 : a28 ≠ a132 := Nat.ne_of_lt (Nat.lt_of_lt_of_le f127.lt f135)
          have f140 : n0 ≤ h130.size := Nat.le_trans f125 K131.1
          have f141 : Exa Z h130 a2 "com/example/shardline/shardline/http/BodyBytes" := f126.keep K131
          have f142 : Exa Z h130 a28 "[B" := f127.keep K131
          have f143 : Arv Z h130 a28 kB29 .byte n30 [(.int (FAt p5 (0 : Int32))), (.int (FAt p5 (1 : Int32)))] (.int 0) := f128.keep K131 nin0
          have f144 : Fld Z h130 a2 "com/example/shardline/shardline/http/BodyBytes" "length" "I" (.int (2 : Int32)) := f123.keep K131 nin0
          have f145 : Fld Z h130 a2 "com/example/shardline/shardline/http/BodyBytes" "bytes" "[B" (.ref a28) := f124.keep K131 nin0
          show own_G _ _ _ _ _ _ _ _ 87 #[.val (.int p1), .val (.int p2), .val (.int p3), .val (.int p4), .val (.long p5), .second, .val (.int (p1 &&& (3 : Int32))), .val (.int ((p1 &&& (3 : Int32)) + (p2 &&& (3 : Int32)))), .val (.int (p3 &&& (7 : Int32))), .val (.ref a2), .val (.ref a28), .val (.int n30), .val (.int (2 : Int32)), .unset] [(.ref a132)]
          refine own_astore H rfl #[.val (.int p1), .val (.int p2), .val (.int p3), .val (.int p4), .val (.long p5), .second, .val (.int (p1 &&& (3 : Int32))), .val (.int ((p1 &&& (3 : Int32)) + (p2 &&& (3 : Int32)))), .val (.int (p3 &&& (7 : Int32))), .val (.ref a2), .val (.ref a28), .val (.int n30), .val (.int (2 : Int32)), .val (.ref a132)] rfl at_87 ?_
          refine own_aload H rfl rfl at_89 ?_
          refine own_iload H rfl at_91 ?_
          refine own_lload H rfl at_93 ?_
          refine own_invokestatic H (argsL := [(.ref a132), (.int (2 : Int32)), (.long p5)]) (rest := []) (rmSm2 l Z a0 (own_hw H) h130 n0 a132 p5 kA133 f137) (w1 := 58) (w2 := 59) (w3 := 43) (w4 := 60) rfl rfl rfl rfl own_pd7 rfl 0 (by decide) rfl (by decide) (Nat.le_of_eq rfl) (by decide) (by decide) (by decide) rfl at_95 ?_
          rintro _ _ ⟨rfl, rfl⟩
          show own_G _ _ _ _ _ _ _ _ 98 #[.val (.int p1), .val (.int p2), .val (.int p3), .val (.int p4), .val (.long p5), .second, .val (.int (p1 &&& (3 : Int32))), .val (.int ((p1 &&& (3 : Int32)) + (p2 &&& (3 : Int32)))), .val (.int (p3 &&& (7 : Int32))), .val (.ref a2), .val (.ref a28), .val (.int n30), .val (.int (2 : Int32)), .val (.ref a132)] [(.int (1 : Int32))]
          exact own_ireturn H (by simp) (by decide) at_98 (by decide) (by decide) rfl
        ·
          have hnk : n30 = (2 : Int32) := by
            rw [← Int32.toInt_inj]
            have := hkq.2
            omega
          have f146 : Arv Z h121 a28 kB29 .byte (2 : Int32) [(.int (FAt p5 (0 : Int32))), (.int (FAt p5 (1 : Int32)))] (.int 0) := hnk ▸ f128
          refine own_invokevirtual H (a := a2) (argsL := []) (rest := []) (rmTe2 l Z a0 (own_hw H) h121 n0 a2 a28 kB29 p5 f126 f123 f124 f146) f126 (w1 := 53) (w0 := 54) (w5 := 56) (w2 := 55) (w3 := 2) (w4 := 57) rfl rfl rfl rfl rfl rfl own_pd8 rfl 0 (by decide) rfl (by decide) (Nat.le_of_eq rfl) (by decide) (by decide) (by decide) rfl at_84 ?_
          rintro _ _ ⟨rfl, rfl⟩
          show own_G _ _ _ _ _ _ _ _ 87 #[.val (.int p1), .val (.int p2), .val (.int p3), .val (.int p4), .val (.long p5), .second, .val (.int (p1 &&& (3 : Int32))), .val (.int ((p1 &&& (3 : Int32)) + (p2 &&& (3 : Int32)))), .val (.int (p3 &&& (7 : Int32))), .val (.ref a2), .val (.ref a28), .val (.int n30), .val (.int (2 : Int32)), .unset] [(.ref a28)]
          refine own_astore H rfl #[.val (.int p1), .val (.int p2), .val (.int p3), .val (.int p4), .val (.long p5), .second, .val (.int (p1 &&& (3 : Int32))), .val (.int ((p1 &&& (3 : Int32)) + (p2 &&& (3 : Int32)))), .val (.int (p3 &&& (7 : Int32))), .val (.ref a2), .val (.ref a28), .val (.int n30), .val (.int (2 : Int32)), .val (.ref a28)] rfl at_87 ?_
          refine own_aload H rfl rfl at_89 ?_
          refine own_iload H rfl at_91 ?_
          refine own_lload H rfl at_93 ?_
          refine own_invokestatic H (argsL := [(.ref a28), (.int (2 : Int32)), (.long p5)]) (rest := []) (rmSm2 l Z a0 (own_hw H) h121 n0 a28 p5 kB29 f146) (w1 := 58) (w2 := 59) (w3 := 43) (w4 := 60) rfl rfl rfl rfl own_pd7 rfl 0 (by decide) rfl (by decide) (Nat.le_of_eq rfl) (by decide) (by decide) (by decide) rfl at_95 ?_
          rintro _ _ ⟨rfl, rfl⟩
          show own_G _ _ _ _ _ _ _ _ 98 #[.val (.int p1), .val (.int p2), .val (.int p3), .val (.int p4), .val (.long p5), .second, .val (.int (p1 &&& (3 : Int32))), .val (.int ((p1 &&& (3 : Int32)) + (p2 &&& (3 : Int32)))), .val (.int (p3 &&& (7 : Int32))), .val (.ref a2), .val (.ref a28), .val (.int n30), .val (.int (2 : Int32)), .val (.ref a28)] [(.int (1 : Int32))]
          exact own_ireturn H (by simp) (by decide) at_98 (by decide) (by decide) rfl
      ·
        by_cases c147 : ((p4 &&& (2147483647 : Int32)) % (n30 + (1 : Int32))) = (3 : Int32)
        ·
          rw [c147]
          show own_G _ _ _ _ _ _ _ _ 66 #[.val (.int p1), .val (.int p2), .val (.int p3), .val (.int p4), .val (.long p5), .second, .val (.int (p1 &&& (3 : Int32))), .val (.int ((p1 &&& (3 : Int32)) + (p2 &&& (3 : Int32)))), .val (.int (p3 &&& (7 : Int32))), .val (.ref a2), .val (.ref a28), .val (.int n30), .val (.int (3 : Int32)), .unset] []
          refine own_aload H rfl rfl at_66 ?_
          refine own_iload H rfl at_68 ?_
          refine own_lload H rfl at_70 ?_
          have hkq := own_k p4 n30 f34
          rw [c147] at hkq
          refine own_invokestatic H (argsL := [(.ref a28), (.int (3 : Int32)), (.long p5)]) (rest := []) (rmPut3 l Z a0 (own_hw H) h27 n0 a28 p5 kB29 n30 f40 V35 X36 hkq.2 f32) (w1 := 41) (w2 := 42) (w3 := 43) (w4 := 44) rfl rfl rfl rfl own_pd6 rfl 0 (by decide) rfl (by decide) (Nat.le_of_eq rfl) (by decide) (by decide) (by decide) rfl at_72 ?_
          rintro _ h148 ⟨rfl, K149, f150⟩
          have f151 : n0 ≤ h148.size := Nat.le_trans f40 K149.1
          have f152 : Exa Z h148 a2 "com/example/shardline/shardline/http/BodyBytes" := f41.keep K149
          have f153 : Exa Z h148 a28 "[B" := X36.keep K149
          have f154 : Fld Z h148 a2 "com/example/shardline/shardline/http/BodyBytes" "bytes" "[B" (.ref a28) := f37.keep K149 (ninS f33 nin0)
          have f155 : Fld Z h148 a2 "com/example/shardline/shardline/http/BodyBytes" "length" "I" (.int (0 : Int32)) := f38.keep K149 (ninS f33 nin0)
          show own_G _ _ _ _ _ _ _ _ 75 #[.val (.int p1), .val (.int p2), .val (.int p3), .val (.int p4), .val (.long p5), .second, .val (.int (p1 &&& (3 : Int32))), .val (.int ((p1 &&& (3 : Int32)) + (p2 &&& (3 : Int32)))), .val (.int (p3 &&& (7 : Int32))), .val (.ref a2), .val (.ref a28), .val (.int n30), .val (.int (3 : Int32)), .unset] []
          refine own_aload H rfl rfl at_75 ?_
          refine own_iload H rfl at_77 ?_
          refine own_invokevirtual H (a := a2) (argsL := [(.int (3 : Int32))]) (rest := []) (rmAd3 l Z a0 (own_hw H) h148 n0 a2 a28 f151 f152 f155 f154 f7) f152 (w1 := 48) (w0 := 49) (w5 := 51) (w2 := 50) (w3 := 2) (w4 := 52) rfl rfl rfl rfl rfl rfl own_pd9 rfl 0 (by decide) rfl (by decide) (Nat.le_of_eq rfl) (by decide) (by decide) (by decide) rfl at_79 ?_
          rintro _ h156 ⟨rfl, K157, f158, f159⟩
          have f160 : n0 ≤ h156.size := Nat.le_trans f151 K157.1
          have f161 : Exa Z h156 a2 "com/example/shardline/shardline/http/BodyBytes" := f152.keep K157
          have f162 : Exa Z h156 a28 "[B" := f153.keep K157
          have f163 : Arv Z h156 a28 kB29 .byte n30 [(.int (FAt p5 (0 : Int32))), (.int (FAt p5 (1 : Int32))), (.int (FAt p5 (2 : Int32)))] (.int 0) := f150.keep K157 (ninS f33.symm nin0)
          show own_G _ _ _ _ _ _ _ _ 82 #[.val (.int p1), .val (.int p2), .val (.int p3), .val (.int p4), .val (.long p5), .second, .val (.int (p1 &&& (3 : Int32))), .val (.int ((p1 &&& (3 : Int32)) + (p2 &&& (3 : Int32)))), .val (.int (p3 &&& (7 : Int32))), .val (.ref a2), .val (.ref a28), .val (.int n30), .val (.int (3 : Int32)), .unset] []
          refine own_aload H rfl rfl at_82 ?_
          by_cases c164 : (3 : Int32).toInt < n30.toInt
          ·
            refine own_invokevirtual H (a := a2) (argsL := []) (rest := []) (rmTn3 l Z a0 (own_hw H) h156 n0 a2 a28 kB29 n30 p5 f160 f161 f158 f159 f163 c164) f161 (w1 := 53) (w0 := 54) (w5 := 56) (w2 := 55) (w3 := 2) (w4 := 57) rfl rfl rfl rfl rfl rfl own_pd8 rfl 0 (by decide) rfl (by decide) (Nat.le_of_eq rfl) (by decide) (by decide) (by decide) rfl at_84 ?_
            rintro _ h165 ⟨a167, kA168, rfl, K166, f169, f170, f171, f172⟩
            have f173 : a2 ≠ a167 := Nat.ne_of_lt (Nat.lt_of_lt_of_le f161.lt f170)
            have f174 : a28 ≠ a167 := Nat.ne_of_lt (Nat.lt_of_lt_of_le f162.lt f170)
            have f175 : n0 ≤ h165.size := Nat.le_trans f160 K166.1
            have f176 : Exa Z h165 a2 "com/example/shardline/shardline/http/BodyBytes" := f161.keep K166
            have f177 : Exa Z h165 a28 "[B" := f162.keep K166
            have f178 : Arv Z h165 a28 kB29 .byte n30 [(.int (FAt p5 (0 : Int32))), (.int (FAt p5 (1 : Int32))), (.int (FAt p5 (2 : Int32)))] (.int 0) := f163.keep K166 nin0
            have f179 : Fld Z h165 a2 "com/example/shardline/shardline/http/BodyBytes" "length" "I" (.int (3 : Int32)) := f158.keep K166 nin0
            have f180 : Fld Z h165 a2 "com/example/shardline/shardline/http/BodyBytes" "bytes" "[B" (.ref a28) := f159.keep K166 nin0
            show own_G _ _ _ _ _ _ _ _ 87 #[.val (.int p1), .val (.int p2), .val (.int p3), .val (.int p4), .val (.long p5), .second, .val (.int (p1 &&& (3 : Int32))), .val (.int ((p1 &&& (3 : Int32)) + (p2 &&& (3 : Int32)))), .val (.int (p3 &&& (7 : Int32))), .val (.ref a2), .val (.ref a28), .val (.int n30), .val (.int (3 : Int32)), .unset] [(.ref a167)]
            refine own_astore H rfl #[.val (.int p1), .val (.int p2), .val (.int p3), .val (.int p4), .val (.long p5), .second, .val (.int (p1 &&& (3 : Int32))), .val (.int ((p1 &&& (3 : Int32)) + (p2 &&& (3 : Int32)))), .val (.int (p3 &&& (7 : Int32))), .val (.ref a2), .val (.ref a28), .val (.int n30), .val (.int (3 : Int32)), .val (.ref a167)] rfl at_87 ?_
            refine own_aload H rfl rfl at_89 ?_
            refine own_iload H rfl at_91 ?_
            refine own_lload H rfl at_93 ?_
            refine own_invokestatic H (argsL := [(.ref a167), (.int (3 : Int32)), (.long p5)]) (rest := []) (rmSm3 l Z a0 (own_hw H) h165 n0 a167 p5 kA168 f172) (w1 := 58) (w2 := 59) (w3 := 43) (w4 := 60) rfl rfl rfl rfl own_pd7 rfl 0 (by decide) rfl (by decide) (Nat.le_of_eq rfl) (by decide) (by decide) (by decide) rfl at_95 ?_
            rintro _ _ ⟨rfl, rfl⟩
            show own_G _ _ _ _ _ _ _ _ 98 #[.val (.int p1), .val (.int p2), .val (.int p3), .val (.int p4), .val (.long p5), .second, .val (.int (p1 &&& (3 : Int32))), .val (.int ((p1 &&& (3 : Int32)) + (p2 &&& (3 : Int32)))), .val (.int (p3 &&& (7 : Int32))), .val (.ref a2), .val (.ref a28), .val (.int n30), .val (.int (3 : Int32)), .val (.ref a167)] [(.int (1 : Int32))]
            exact own_ireturn H (by simp) (by decide) at_98 (by decide) (by decide) rfl
          ·
            have hnk : n30 = (3 : Int32) := by
              rw [← Int32.toInt_inj]
              have := hkq.2
              omega
            have f181 : Arv Z h156 a28 kB29 .byte (3 : Int32) [(.int (FAt p5 (0 : Int32))), (.int (FAt p5 (1 : Int32))), (.int (FAt p5 (2 : Int32)))] (.int 0) := hnk ▸ f163
            refine own_invokevirtual H (a := a2) (argsL := []) (rest := []) (rmTe3 l Z a0 (own_hw H) h156 n0 a2 a28 kB29 p5 f161 f158 f159 f181) f161 (w1 := 53) (w0 := 54) (w5 := 56) (w2 := 55) (w3 := 2) (w4 := 57) rfl rfl rfl rfl rfl rfl own_pd8 rfl 0 (by decide) rfl (by decide) (Nat.le_of_eq rfl) (by decide) (by decide) (by decide) rfl at_84 ?_
            rintro _ _ ⟨rfl, rfl⟩
            show own_G _ _ _ _ _ _ _ _ 87 #[.val (.int p1), .val (.int p2), .val (.int p3), .val (.int p4), .val (.long p5), .second, .val (.int (p1 &&& (3 : Int32))), .val (.int ((p1 &&& (3 : Int32)) + (p2 &&& (3 : Int32)))), .val (.int (p3 &&& (7 : Int32))), .val (.ref a2), .val (.ref a28), .val (.int n30), .val (.int (3 : Int32)), .unset] [(.ref a28)]
            refine own_astore H rfl #[.val (.int p1), .val (.int p2), .val (.int p3), .val (.int p4), .val (.long p5), .second, .val (.int (p1 &&& (3 : Int32))), .val (.int ((p1 &&& (3 : Int32)) + (p2 &&& (3 : Int32)))), .val (.int (p3 &&& (7 : Int32))), .val (.ref a2), .val (.ref a28), .val (.int n30), .val (.int (3 : Int32)), .val (.ref a28)] rfl at_87 ?_
            refine own_aload H rfl rfl at_89 ?_
            refine own_iload H rfl at_91 ?_
            refine own_lload H rfl at_93 ?_
            refine own_invokestatic H (argsL := [(.ref a28), (.int (3 : Int32)), (.long p5)]) (rest := []) (rmSm3 l Z a0 (own_hw H) h156 n0 a28 p5 kB29 f181) (w1 := 58) (w2 := 59) (w3 := 43) (w4 := 60) rfl rfl rfl rfl own_pd7 rfl 0 (by decide) rfl (by decide) (Nat.le_of_eq rfl) (by decide) (by decide) (by decide) rfl at_95 ?_
            rintro _ _ ⟨rfl, rfl⟩
            show own_G _ _ _ _ _ _ _ _ 98 #[.val (.int p1), .val (.int p2), .val (.int p3), .val (.int p4), .val (.long p5), .second, .val (.int (p1 &&& (3 : Int32))), .val (.int ((p1 &&& (3 : Int32)) + (p2 &&& (3 : Int32)))), .val (.int (p3 &&& (7 : Int32))), .val (.ref a2), .val (.ref a28), .val (.int n30), .val (.int (3 : Int32)), .val (.ref a28)] [(.int (1 : Int32))]
            exact own_ireturn H (by simp) (by decide) at_98 (by decide) (by decide) rfl
        ·
          by_cases c182 : ((p4 &&& (2147483647 : Int32)) % (n30 + (1 : Int32))) = (4 : Int32)
          ·
            rw [c182]
            show own_G _ _ _ _ _ _ _ _ 66 #[.val (.int p1), .val (.int p2), .val (.int p3), .val (.int p4), .val (.long p5), .second, .val (.int (p1 &&& (3 : Int32))), .val (.int ((p1 &&& (3 : Int32)) + (p2 &&& (3 : Int32)))), .val (.int (p3 &&& (7 : Int32))), .val (.ref a2), .val (.ref a28), .val (.int n30), .val (.int (4 : Int32)), .unset] []
            refine own_aload H rfl rfl at_66 ?_
            refine own_iload H rfl at_68 ?_
            refine own_lload H rfl at_70 ?_
            have hkq := own_k p4 n30 f34
            rw [c182] at hkq
            refine own_invokestatic H (argsL := [(.ref a28), (.int (4 : Int32)), (.long p5)]) (rest := []) (rmPut4 l Z a0 (own_hw H) h27 n0 a28 p5 kB29 n30 f40 V35 X36 hkq.2 f32) (w1 := 41) (w2 := 42) (w3 := 43) (w4 := 44) rfl rfl rfl rfl own_pd6 rfl 0 (by decide) rfl (by decide) (Nat.le_of_eq rfl) (by decide) (by decide) (by decide) rfl at_72 ?_
            rintro _ h183 ⟨rfl, K184, f185⟩
            have f186 : n0 ≤ h183.size := Nat.le_trans f40 K184.1
            have f187 : Exa Z h183 a2 "com/example/shardline/shardline/http/BodyBytes" := f41.keep K184
            have f188 : Exa Z h183 a28 "[B" := X36.keep K184
            have f189 : Fld Z h183 a2 "com/example/shardline/shardline/http/BodyBytes" "bytes" "[B" (.ref a28) := f37.keep K184 (ninS f33 nin0)
            have f190 : Fld Z h183 a2 "com/example/shardline/shardline/http/BodyBytes" "length" "I" (.int (0 : Int32)) := f38.keep K184 (ninS f33 nin0)
            show own_G _ _ _ _ _ _ _ _ 75 #[.val (.int p1), .val (.int p2), .val (.int p3), .val (.int p4), .val (.long p5), .second, .val (.int (p1 &&& (3 : Int32))), .val (.int ((p1 &&& (3 : Int32)) + (p2 &&& (3 : Int32)))), .val (.int (p3 &&& (7 : Int32))), .val (.ref a2), .val (.ref a28), .val (.int n30), .val (.int (4 : Int32)), .unset] []
            refine own_aload H rfl rfl at_75 ?_
            refine own_iload H rfl at_77 ?_
            refine own_invokevirtual H (a := a2) (argsL := [(.int (4 : Int32))]) (rest := []) (rmAd4 l Z a0 (own_hw H) h183 n0 a2 a28 f186 f187 f190 f189 f7) f187 (w1 := 48) (w0 := 49) (w5 := 51) (w2 := 50) (w3 := 2) (w4 := 52) rfl rfl rfl rfl rfl rfl own_pd9 rfl 0 (by decide) rfl (by decide) (Nat.le_of_eq rfl) (by decide) (by decide) (by decide) rfl at_79 ?_
            rintro _ h191 ⟨rfl, K192, f193, f194⟩
            have f195 : n0 ≤ h191.size := Nat.le_trans f186 K192.1
            have f196 : Exa Z h191 a2 "com/example/shardline/shardline/http/BodyBytes" := f187.keep K192
            have f197 : Exa Z h191 a28 "[B" := f188.keep K192
            have f198 : Arv Z h191 a28 kB29 .byte n30 [(.int (FAt p5 (0 : Int32))), (.int (FAt p5 (1 : Int32))), (.int (FAt p5 (2 : Int32))), (.int (FAt p5 (3 : Int32)))] (.int 0) := f185.keep K192 (ninS f33.symm nin0)
            show own_G _ _ _ _ _ _ _ _ 82 #[.val (.int p1), .val (.int p2), .val (.int p3), .val (.int p4), .val (.long p5), .second, .val (.int (p1 &&& (3 : Int32))), .val (.int ((p1 &&& (3 : Int32)) + (p2 &&& (3 : Int32)))), .val (.int (p3 &&& (7 : Int32))), .val (.ref a2), .val (.ref a28), .val (.int n30), .val (.int (4 : Int32)), .unset] []
            refine own_aload H rfl rfl at_82 ?_
            by_cases c199 : (4 : Int32).toInt < n30.toInt
            ·
              refine own_invokevirtual H (a := a2) (argsL := []) (rest := []) (rmTn4 l Z a0 (own_hw H) h191 n0 a2 a28 kB29 n30 p5 f195 f196 f193 f194 f198 c199) f196 (w1 := 53) (w0 := 54) (w5 := 56) (w2 := 55) (w3 := 2) (w4 := 57) rfl rfl rfl rfl rfl rfl own_pd8 rfl 0 (by decide) rfl (by decide) (Nat.le_of_eq rfl) (by decide) (by decide) (by decide) rfl at_84 ?_
              rintro _ h200 ⟨a202, kA203, rfl, K201, f204, f205, f206, f207⟩
              have f208 : a2 ≠ a202 := Nat.ne_of_lt (Nat.lt_of_lt_of_le f196.lt f205)
              have f209 : a28 ≠ a202 := Nat.ne_of_lt (Nat.lt_of_lt_of_le f197.lt f205)
              have f210 : n0 ≤ h200.size := Nat.le_trans f195 K201.1
              have f211 : Exa Z h200 a2 "com/example/shardline/shardline/http/BodyBytes" := f196.keep K201
              have f212 : Exa Z h200 a28 "[B" := f197.keep K201
              have f213 : Arv Z h200 a28 kB29 .byte n30 [(.int (FAt p5 (0 : Int32))), (.int (FAt p5 (1 : Int32))), (.int (FAt p5 (2 : Int32))), (.int (FAt p5 (3 : Int32)))] (.int 0) := f198.keep K201 nin0
              have f214 : Fld Z h200 a2 "com/example/shardline/shardline/http/BodyBytes" "length" "I" (.int (4 : Int32)) := f193.keep K201 nin0
              have f215 : Fld Z h200 a2 "com/example/shardline/shardline/http/BodyBytes" "bytes" "[B" (.ref a28) := f194.keep K201 nin0
              show own_G _ _ _ _ _ _ _ _ 87 #[.val (.int p1), .val (.int p2), .val (.int p3), .val (.int p4), .val (.long p5), .second, .val (.int (p1 &&& (3 : Int32))), .val (.int ((p1 &&& (3 : Int32)) + (p2 &&& (3 : Int32)))), .val (.int (p3 &&& (7 : Int32))), .val (.ref a2), .val (.ref a28), .val (.int n30), .val (.int (4 : Int32)), .unset] [(.ref a202)]
              refine own_astore H rfl #[.val (.int p1), .val (.int p2), .val (.int p3), .val (.int p4), .val (.long p5), .second, .val (.int (p1 &&& (3 : Int32))), .val (.int ((p1 &&& (3 : Int32)) + (p2 &&& (3 : Int32)))), .val (.int (p3 &&& (7 : Int32))), .val (.ref a2), .val (.ref a28), .val (.int n30), .val (.int (4 : Int32)), .val (.ref a202)] rfl at_87 ?_
              refine own_aload H rfl rfl at_89 ?_
              refine own_iload H rfl at_91 ?_
              refine own_lload H rfl at_93 ?_
              refine own_invokestatic H (argsL := [(.ref a202), (.int (4 : Int32)), (.long p5)]) (rest := []) (rmSm4 l Z a0 (own_hw H) h200 n0 a202 p5 kA203 f207) (w1 := 58) (w2 := 59) (w3 := 43) (w4 := 60) rfl rfl rfl rfl own_pd7 rfl 0 (by decide) rfl (by decide) (Nat.le_of_eq rfl) (by decide) (by decide) (by decide) rfl at_95 ?_
              rintro _ _ ⟨rfl, rfl⟩
              show own_G _ _ _ _ _ _ _ _ 98 #[.val (.int p1), .val (.int p2), .val (.int p3), .val (.int p4), .val (.long p5), .second, .val (.int (p1 &&& (3 : Int32))), .val (.int ((p1 &&& (3 : Int32)) + (p2 &&& (3 : Int32)))), .val (.int (p3 &&& (7 : Int32))), .val (.ref a2), .val (.ref a28), .val (.int n30), .val (.int (4 : Int32)), .val (.ref a202)] [(.int (1 : Int32))]
              exact own_ireturn H (by simp) (by decide) at_98 (by decide) (by decide) rfl
            ·
              have hnk : n30 = (4 : Int32) := by
                rw [← Int32.toInt_inj]
                have := hkq.2
                omega
              have f216 : Arv Z h191 a28 kB29 .byte (4 : Int32) [(.int (FAt p5 (0 : Int32))), (.int (FAt p5 (1 : Int32))), (.int (FAt p5 (2 : Int32))), (.int (FAt p5 (3 : Int32)))] (.int 0) := hnk ▸ f198
              refine own_invokevirtual H (a := a2) (argsL := []) (rest := []) (rmTe4 l Z a0 (own_hw H) h191 n0 a2 a28 kB29 p5 f196 f193 f194 f216) f196 (w1 := 53) (w0 := 54) (w5 := 56) (w2 := 55) (w3 := 2) (w4 := 57) rfl rfl rfl rfl rfl rfl own_pd8 rfl 0 (by decide) rfl (by decide) (Nat.le_of_eq rfl) (by decide) (by decide) (by decide) rfl at_84 ?_
              rintro _ _ ⟨rfl, rfl⟩
              show own_G _ _ _ _ _ _ _ _ 87 #[.val (.int p1), .val (.int p2), .val (.int p3), .val (.int p4), .val (.long p5), .second, .val (.int (p1 &&& (3 : Int32))), .val (.int ((p1 &&& (3 : Int32)) + (p2 &&& (3 : Int32)))), .val (.int (p3 &&& (7 : Int32))), .val (.ref a2), .val (.ref a28), .val (.int n30), .val (.int (4 : Int32)), .unset] [(.ref a28)]
              refine own_astore H rfl #[.val (.int p1), .val (.int p2), .val (.int p3), .val (.int p4), .val (.long p5), .second, .val (.int (p1 &&& (3 : Int32))), .val (.int ((p1 &&& (3 : Int32)) + (p2 &&& (3 : Int32)))), .val (.int (p3 &&& (7 : Int32))), .val (.ref a2), .val (.ref a28), .val (.int n30), .val (.int (4 : Int32)), .val (.ref a28)] rfl at_87 ?_
              refine own_aload H rfl rfl at_89 ?_
              refine own_iload H rfl at_91 ?_
              refine own_lload H rfl at_93 ?_
              refine own_invokestatic H (argsL := [(.ref a28), (.int (4 : Int32)), (.long p5)]) (rest := []) (rmSm4 l Z a0 (own_hw H) h191 n0 a28 p5 kB29 f216) (w1 := 58) (w2 := 59) (w3 := 43) (w4 := 60) rfl rfl rfl rfl own_pd7 rfl 0 (by decide) rfl (by decide) (Nat.le_of_eq rfl) (by decide) (by decide) (by decide) rfl at_95 ?_
              rintro _ _ ⟨rfl, rfl⟩
              show own_G _ _ _ _ _ _ _ _ 98 #[.val (.int p1), .val (.int p2), .val (.int p3), .val (.int p4), .val (.long p5), .second, .val (.int (p1 &&& (3 : Int32))), .val (.int ((p1 &&& (3 : Int32)) + (p2 &&& (3 : Int32)))), .val (.int (p3 &&& (7 : Int32))), .val (.ref a2), .val (.ref a28), .val (.int n30), .val (.int (4 : Int32)), .val (.ref a28)] [(.int (1 : Int32))]
              exact own_ireturn H (by simp) (by decide) at_98 (by decide) (by decide) rfl
          ·
            by_cases c217 : ((p4 &&& (2147483647 : Int32)) % (n30 + (1 : Int32))) = (5 : Int32)
            ·
              rw [c217]
              show own_G _ _ _ _ _ _ _ _ 66 #[.val (.int p1), .val (.int p2), .val (.int p3), .val (.int p4), .val (.long p5), .second, .val (.int (p1 &&& (3 : Int32))), .val (.int ((p1 &&& (3 : Int32)) + (p2 &&& (3 : Int32)))), .val (.int (p3 &&& (7 : Int32))), .val (.ref a2), .val (.ref a28), .val (.int n30), .val (.int (5 : Int32)), .unset] []
              refine own_aload H rfl rfl at_66 ?_
              refine own_iload H rfl at_68 ?_
              refine own_lload H rfl at_70 ?_
              have hkq := own_k p4 n30 f34
              rw [c217] at hkq
              refine own_invokestatic H (argsL := [(.ref a28), (.int (5 : Int32)), (.long p5)]) (rest := []) (rmPut5 l Z a0 (own_hw H) h27 n0 a28 p5 kB29 n30 f40 V35 X36 hkq.2 f32) (w1 := 41) (w2 := 42) (w3 := 43) (w4 := 44) rfl rfl rfl rfl own_pd6 rfl 0 (by decide) rfl (by decide) (Nat.le_of_eq rfl) (by decide) (by decide) (by decide) rfl at_72 ?_
              rintro _ h218 ⟨rfl, K219, f220⟩
              have f221 : n0 ≤ h218.size := Nat.le_trans f40 K219.1
              have f222 : Exa Z h218 a2 "com/example/shardline/shardline/http/BodyBytes" := f41.keep K219
              have f223 : Exa Z h218 a28 "[B" := X36.keep K219
              have f224 : Fld Z h218 a2 "com/example/shardline/shardline/http/BodyBytes" "bytes" "[B" (.ref a28) := f37.keep K219 (ninS f33 nin0)
              have f225 : Fld Z h218 a2 "com/example/shardline/shardline/http/BodyBytes" "length" "I" (.int (0 : Int32)) := f38.keep K219 (ninS f33 nin0)
              show own_G _ _ _ _ _ _ _ _ 75 #[.val (.int p1), .val (.int p2), .val (.int p3), .val (.int p4), .val (.long p5), .second, .val (.int (p1 &&& (3 : Int32))), .val (.int ((p1 &&& (3 : Int32)) + (p2 &&& (3 : Int32)))), .val (.int (p3 &&& (7 : Int32))), .val (.ref a2), .val (.ref a28), .val (.int n30), .val (.int (5 : Int32)), .unset] []
              refine own_aload H rfl rfl at_75 ?_
              refine own_iload H rfl at_77 ?_
              refine own_invokevirtual H (a := a2) (argsL := [(.int (5 : Int32))]) (rest := []) (rmAd5 l Z a0 (own_hw H) h218 n0 a2 a28 f221 f222 f225 f224 f7) f222 (w1 := 48) (w0 := 49) (w5 := 51) (w2 := 50) (w3 := 2) (w4 := 52) rfl rfl rfl rfl rfl rfl own_pd9 rfl 0 (by decide) rfl (by decide) (Nat.le_of_eq rfl) (by decide) (by decide) (by decide) rfl at_79 ?_
              rintro _ h226 ⟨rfl, K227, f228, f229⟩
              have f230 : n0 ≤ h226.size := Nat.le_trans f221 K227.1
              have f231 : Exa Z h226 a2 "com/example/shardline/shardline/http/BodyBytes" := f222.keep K227
              have f232 : Exa Z h226 a28 "[B" := f223.keep K227
              have f233 : Arv Z h226 a28 kB29 .byte n30 [(.int (FAt p5 (0 : Int32))), (.int (FAt p5 (1 : Int32))), (.int (FAt p5 (2 : Int32))), (.int (FAt p5 (3 : Int32))), (.int (FAt p5 (4 : Int32)))] (.int 0) := f220.keep K227 (ninS f33.symm nin0)
              show own_G _ _ _ _ _ _ _ _ 82 #[.val (.int p1), .val (.int p2), .val (.int p3), .val (.int p4), .val (.long p5), .second, .val (.int (p1 &&& (3 : Int32))), .val (.int ((p1 &&& (3 : Int32)) + (p2 &&& (3 : Int32)))), .val (.int (p3 &&& (7 : Int32))), .val (.ref a2), .val (.ref a28), .val (.int n30), .val (.int (5 : Int32)), .unset] []
              refine own_aload H rfl rfl at_82 ?_
              by_cases c234 : (5 : Int32).toInt < n30.toInt
              ·
                refine own_invokevirtual H (a := a2) (argsL := []) (rest := []) (rmTn5 l Z a0 (own_hw H) h226 n0 a2 a28 kB29 n30 p5 f230 f231 f228 f229 f233 c234) f231 (w1 := 53) (w0 := 54) (w5 := 56) (w2 := 55) (w3 := 2) (w4 := 57) rfl rfl rfl rfl rfl rfl own_pd8 rfl 0 (by decide) rfl (by decide) (Nat.le_of_eq rfl) (by decide) (by decide) (by decide) rfl at_84 ?_
                rintro _ h235 ⟨a237, kA238, rfl, K236, f239, f240, f241, f242⟩
                have f243 : a2 ≠ a237 := Nat.ne_of_lt (Nat.lt_of_lt_of_le f231.lt f240)
                have f244 : a28 ≠ a237 := Nat.ne_of_lt (Nat.lt_of_lt_of_le f232.lt f240)
                have f245 : n0 ≤ h235.size := Nat.le_trans f230 K236.1
                have f246 : Exa Z h235 a2 "com/example/shardline/shardline/http/BodyBytes" := f231.keep K236
                have f247 : Exa Z h235 a28 "[B" := f232.keep K236
                have f248 : Arv Z h235 a28 kB29 .byte n30 [(.int (FAt p5 (0 : Int32))), (.int (FAt p5 (1 : Int32))), (.int (FAt p5 (2 : Int32))), (.int (FAt p5 (3 : Int32))), (.int (FAt p5 (4 : Int32)))] (.int 0) := f233.keep K236 nin0
                have f249 : Fld Z h235 a2 "com/example/shardline/shardline/http/BodyBytes" "length" "I" (.int (5 : Int32)) := f228.keep K236 nin0
                have f250 : Fld Z h235 a2 "com/example/shardline/shardline/http/BodyBytes" "bytes" "[B" (.ref a28) := f229.keep K236 nin0
                show own_G _ _ _ _ _ _ _ _ 87 #[.val (.int p1), .val (.int p2), .val (.int p3), .val (.int p4), .val (.long p5), .second, .val (.int (p1 &&& (3 : Int32))), .val (.int ((p1 &&& (3 : Int32)) + (p2 &&& (3 : Int32)))), .val (.int (p3 &&& (7 : Int32))), .val (.ref a2), .val (.ref a28), .val (.int n30), .val (.int (5 : Int32)), .unset] [(.ref a237)]
                refine own_astore H rfl #[.val (.int p1), .val (.int p2), .val (.int p3), .val (.int p4), .val (.long p5), .second, .val (.int (p1 &&& (3 : Int32))), .val (.int ((p1 &&& (3 : Int32)) + (p2 &&& (3 : Int32)))), .val (.int (p3 &&& (7 : Int32))), .val (.ref a2), .val (.ref a28), .val (.int n30), .val (.int (5 : Int32)), .val (.ref a237)] rfl at_87 ?_
                refine own_aload H rfl rfl at_89 ?_
                refine own_iload H rfl at_91 ?_
                refine own_lload H rfl at_93 ?_
                refine own_invokestatic H (argsL := [(.ref a237), (.int (5 : Int32)), (.long p5)]) (rest := []) (rmSm5 l Z a0 (own_hw H) h235 n0 a237 p5 kA238 f242) (w1 := 58) (w2 := 59) (w3 := 43) (w4 := 60) rfl rfl rfl rfl own_pd7 rfl 0 (by decide) rfl (by decide) (Nat.le_of_eq rfl) (by decide) (by decide) (by decide) rfl at_95 ?_
                rintro _ _ ⟨rfl, rfl⟩
                show own_G _ _ _ _ _ _ _ _ 98 #[.val (.int p1), .val (.int p2), .val (.int p3), .val (.int p4), .val (.long p5), .second, .val (.int (p1 &&& (3 : Int32))), .val (.int ((p1 &&& (3 : Int32)) + (p2 &&& (3 : Int32)))), .val (.int (p3 &&& (7 : Int32))), .val (.ref a2), .val (.ref a28), .val (.int n30), .val (.int (5 : Int32)), .val (.ref a237)] [(.int (1 : Int32))]
                exact own_ireturn H (by simp) (by decide) at_98 (by decide) (by decide) rfl
              ·
                have hnk : n30 = (5 : Int32) := by
                  rw [← Int32.toInt_inj]
                  have := hkq.2
                  omega
                have f251 : Arv Z h226 a28 kB29 .byte (5 : Int32) [(.int (FAt p5 (0 : Int32))), (.int (FAt p5 (1 : Int32))), (.int (FAt p5 (2 : Int32))), (.int (FAt p5 (3 : Int32))), (.int (FAt p5 (4 : Int32)))] (.int 0) := hnk ▸ f233
                refine own_invokevirtual H (a := a2) (argsL := []) (rest := []) (rmTe5 l Z a0 (own_hw H) h226 n0 a2 a28 kB29 p5 f231 f228 f229 f251) f231 (w1 := 53) (w0 := 54) (w5 := 56) (w2 := 55) (w3 := 2) (w4 := 57) rfl rfl rfl rfl rfl rfl own_pd8 rfl 0 (by decide) rfl (by decide) (Nat.le_of_eq rfl) (by decide) (by decide) (by decide) rfl at_84 ?_
                rintro _ _ ⟨rfl, rfl⟩
                show own_G _ _ _ _ _ _ _ _ 87 #[.val (.int p1), .val (.int p2), .val (.int p3), .val (.int p4), .val (.long p5), .second, .val (.int (p1 &&& (3 : Int32))), .val (.int ((p1 &&& (3 : Int32)) + (p2 &&& (3 : Int32)))), .val (.int (p3 &&& (7 : Int32))), .val (.ref a2), .val (.ref a28), .val (.int n30), .val (.int (5 : Int32)), .unset] [(.ref a28)]
                refine own_astore H rfl #[.val (.int p1), .val (.int p2), .val (.int p3), .val (.int p4), .val (.long p5), .second, .val (.int (p1 &&& (3 : Int32))), .val (.int ((p1 &&& (3 : Int32)) + (p2 &&& (3 : Int32)))), .val (.int (p3 &&& (7 : Int32))), .val (.ref a2), .val (.ref a28), .val (.int n30), .val (.int (5 : Int32)), .val (.ref a28)] rfl at_87 ?_
                refine own_aload H rfl rfl at_89 ?_
                refine own_iload H rfl at_91 ?_
                refine own_lload H rfl at_93 ?_
                refine own_invokestatic H (argsL := [(.ref a28), (.int (5 : Int32)), (.long p5)]) (rest := []) (rmSm5 l Z a0 (own_hw H) h226 n0 a28 p5 kB29 f251) (w1 := 58) (w2 := 59) (w3 := 43) (w4 := 60) rfl rfl rfl rfl own_pd7 rfl 0 (by decide) rfl (by decide) (Nat.le_of_eq rfl) (by decide) (by decide) (by decide) rfl at_95 ?_
                rintro _ _ ⟨rfl, rfl⟩
                show own_G _ _ _ _ _ _ _ _ 98 #[.val (.int p1), .val (.int p2), .val (.int p3), .val (.int p4), .val (.long p5), .second, .val (.int (p1 &&& (3 : Int32))), .val (.int ((p1 &&& (3 : Int32)) + (p2 &&& (3 : Int32)))), .val (.int (p3 &&& (7 : Int32))), .val (.ref a2), .val (.ref a28), .val (.int n30), .val (.int (5 : Int32)), .val (.ref a28)] [(.int (1 : Int32))]
                exact own_ireturn H (by simp) (by decide) at_98 (by decide) (by decide) rfl
            ·
              have c252 : ((p4 &&& (2147483647 : Int32)) % (n30 + (1 : Int32))) = (6 : Int32) := own_k6 p4 n30 f34 c42 c77 c112 c147 c182 c217
              rw [c252]
              show own_G _ _ _ _ _ _ _ _ 66 #[.val (.int p1), .val (.int p2), .val (.int p3), .val (.int p4), .val (.long p5), .second, .val (.int (p1 &&& (3 : Int32))), .val (.int ((p1 &&& (3 : Int32)) + (p2 &&& (3 : Int32)))), .val (.int (p3 &&& (7 : Int32))), .val (.ref a2), .val (.ref a28), .val (.int n30), .val (.int (6 : Int32)), .unset] []
              refine own_aload H rfl rfl at_66 ?_
              refine own_iload H rfl at_68 ?_
              refine own_lload H rfl at_70 ?_
              have hkq := own_k p4 n30 f34
              rw [c252] at hkq
              refine own_invokestatic H (argsL := [(.ref a28), (.int (6 : Int32)), (.long p5)]) (rest := []) (rmPut6 l Z a0 (own_hw H) h27 n0 a28 p5 kB29 n30 f40 V35 X36 hkq.2 f32) (w1 := 41) (w2 := 42) (w3 := 43) (w4 := 44) rfl rfl rfl rfl own_pd6 rfl 0 (by decide) rfl (by decide) (Nat.le_of_eq rfl) (by decide) (by decide) (by decide) rfl at_72 ?_
              rintro _ h253 ⟨rfl, K254, f255⟩
              have f256 : n0 ≤ h253.size := Nat.le_trans f40 K254.1
              have f257 : Exa Z h253 a2 "com/example/shardline/shardline/http/BodyBytes" := f41.keep K254
              have f258 : Exa Z h253 a28 "[B" := X36.keep K254
              have f259 : Fld Z h253 a2 "com/example/shardline/shardline/http/BodyBytes" "bytes" "[B" (.ref a28) := f37.keep K254 (ninS f33 nin0)
              have f260 : Fld Z h253 a2 "com/example/shardline/shardline/http/BodyBytes" "length" "I" (.int (0 : Int32)) := f38.keep K254 (ninS f33 nin0)
              show own_G _ _ _ _ _ _ _ _ 75 #[.val (.int p1), .val (.int p2), .val (.int p3), .val (.int p4), .val (.long p5), .second, .val (.int (p1 &&& (3 : Int32))), .val (.int ((p1 &&& (3 : Int32)) + (p2 &&& (3 : Int32)))), .val (.int (p3 &&& (7 : Int32))), .val (.ref a2), .val (.ref a28), .val (.int n30), .val (.int (6 : Int32)), .unset] []
              refine own_aload H rfl rfl at_75 ?_
              refine own_iload H rfl at_77 ?_
              refine own_invokevirtual H (a := a2) (argsL := [(.int (6 : Int32))]) (rest := []) (rmAd6 l Z a0 (own_hw H) h253 n0 a2 a28 f256 f257 f260 f259 f7) f257 (w1 := 48) (w0 := 49) (w5 := 51) (w2 := 50) (w3 := 2) (w4 := 52) rfl rfl rfl rfl rfl rfl own_pd9 rfl 0 (by decide) rfl (by decide) (Nat.le_of_eq rfl) (by decide) (by decide) (by decide) rfl at_79 ?_
              rintro _ h261 ⟨rfl, K262, f263, f264⟩
              have f265 : n0 ≤ h261.size := Nat.le_trans f256 K262.1
              have f266 : Exa Z h261 a2 "com/example/shardline/shardline/http/BodyBytes" := f257.keep K262
              have f267 : Exa Z h261 a28 "[B" := f258.keep K262
              have f268 : Arv Z h261 a28 kB29 .byte n30 [(.int (FAt p5 (0 : Int32))), (.int (FAt p5 (1 : Int32))), (.int (FAt p5 (2 : Int32))), (.int (FAt p5 (3 : Int32))), (.int (FAt p5 (4 : Int32))), (.int (FAt p5 (5 : Int32)))] (.int 0) := f255.keep K262 (ninS f33.symm nin0)
              show own_G _ _ _ _ _ _ _ _ 82 #[.val (.int p1), .val (.int p2), .val (.int p3), .val (.int p4), .val (.long p5), .second, .val (.int (p1 &&& (3 : Int32))), .val (.int ((p1 &&& (3 : Int32)) + (p2 &&& (3 : Int32)))), .val (.int (p3 &&& (7 : Int32))), .val (.ref a2), .val (.ref a28), .val (.int n30), .val (.int (6 : Int32)), .unset] []
              refine own_aload H rfl rfl at_82 ?_
              by_cases c269 : (6 : Int32).toInt < n30.toInt
              ·
                refine own_invokevirtual H (a := a2) (argsL := []) (rest := []) (rmTn6 l Z a0 (own_hw H) h261 n0 a2 a28 kB29 n30 p5 f265 f266 f263 f264 f268 c269) f266 (w1 := 53) (w0 := 54) (w5 := 56) (w2 := 55) (w3 := 2) (w4 := 57) rfl rfl rfl rfl rfl rfl own_pd8 rfl 0 (by decide) rfl (by decide) (Nat.le_of_eq rfl) (by decide) (by decide) (by decide) rfl at_84 ?_
                rintro _ h270 ⟨a272, kA273, rfl, K271, f274, f275, f276, f277⟩
                have f278 : a2 ≠ a272 := Nat.ne_of_lt (Nat.lt_of_lt_of_le f266.lt f275)
                have f279 : a28 ≠ a272 := Nat.ne_of_lt (Nat.lt_of_lt_of_le f267.lt f275)
                have f280 : n0 ≤ h270.size := Nat.le_trans f265 K271.1
                have f281 : Exa Z h270 a2 "com/example/shardline/shardline/http/BodyBytes" := f266.keep K271
                have f282 : Exa Z h270 a28 "[B" := f267.keep K271
                have f283 : Arv Z h270 a28 kB29 .byte n30 [(.int (FAt p5 (0 : Int32))), (.int (FAt p5 (1 : Int32))), (.int (FAt p5 (2 : Int32))), (.int (FAt p5 (3 : Int32))), (.int (FAt p5 (4 : Int32))), (.int (FAt p5 (5 : Int32)))] (.int 0) := f268.keep K271 nin0
                have f284 : Fld Z h270 a2 "com/example/shardline/shardline/http/BodyBytes" "length" "I" (.int (6 : Int32)) := f263.keep K271 nin0
                have f285 : Fld Z h270 a2 "com/example/shardline/shardline/http/BodyBytes" "bytes" "[B" (.ref a28) := f264.keep K271 nin0
                show own_G _ _ _ _ _ _ _ _ 87 #[.val (.int p1), .val (.int p2), .val (.int p3), .val (.int p4), .val (.long p5), .second, .val (.int (p1 &&& (3 : Int32))), .val (.int ((p1 &&& (3 : Int32)) + (p2 &&& (3 : Int32)))), .val (.int (p3 &&& (7 : Int32))), .val (.ref a2), .val (.ref a28), .val (.int n30), .val (.int (6 : Int32)), .unset] [(.ref a272)]
                refine own_astore H rfl #[.val (.int p1), .val (.int p2), .val (.int p3), .val (.int p4), .val (.long p5), .second, .val (.int (p1 &&& (3 : Int32))), .val (.int ((p1 &&& (3 : Int32)) + (p2 &&& (3 : Int32)))), .val (.int (p3 &&& (7 : Int32))), .val (.ref a2), .val (.ref a28), .val (.int n30), .val (.int (6 : Int32)), .val (.ref a272)] rfl at_87 ?_
                refine own_aload H rfl rfl at_89 ?_
                refine own_iload H rfl at_91 ?_
                refine own_lload H rfl at_93 ?_
                refine own_invokestatic H (argsL := [(.ref a272), (.int (6 : Int32)), (.long p5)]) (rest := []) (rmSm6 l Z a0 (own_hw H) h270 n0 a272 p5 kA273 f277) (w1 := 58) (w2 := 59) (w3 := 43) (w4 := 60) rfl rfl rfl rfl own_pd7 rfl 0 (by decide) rfl (by decide) (Nat.le_of_eq rfl) (by decide) (by decide) (by decide) rfl at_95 ?_
                rintro _ _ ⟨rfl, rfl⟩
                show own_G _ _ _ _ _ _ _ _ 98 #[.val (.int p1), .val (.int p2), .val (.int p3), .val (.int p4), .val (.long p5), .second, .val (.int (p1 &&& (3 : Int32))), .val (.int ((p1 &&& (3 : Int32)) + (p2 &&& (3 : Int32)))), .val (.int (p3 &&& (7 : Int32))), .val (.ref a2), .val (.ref a28), .val (.int n30), .val (.int (6 : Int32)), .val (.ref a272)] [(.int (1 : Int32))]
                exact own_ireturn H (by simp) (by decide) at_98 (by decide) (by decide) rfl
              ·
                have hnk : n30 = (6 : Int32) := by
                  rw [← Int32.toInt_inj]
                  have := hkq.2
                  omega
                have f286 : Arv Z h261 a28 kB29 .byte (6 : Int32) [(.int (FAt p5 (0 : Int32))), (.int (FAt p5 (1 : Int32))), (.int (FAt p5 (2 : Int32))), (.int (FAt p5 (3 : Int32))), (.int (FAt p5 (4 : Int32))), (.int (FAt p5 (5 : Int32)))] (.int 0) := hnk ▸ f268
                refine own_invokevirtual H (a := a2) (argsL := []) (rest := []) (rmTe6 l Z a0 (own_hw H) h261 n0 a2 a28 kB29 p5 f266 f263 f264 f286) f266 (w1 := 53) (w0 := 54) (w5 := 56) (w2 := 55) (w3 := 2) (w4 := 57) rfl rfl rfl rfl rfl rfl own_pd8 rfl 0 (by decide) rfl (by decide) (Nat.le_of_eq rfl) (by decide) (by decide) (by decide) rfl at_84 ?_
                rintro _ _ ⟨rfl, rfl⟩
                show own_G _ _ _ _ _ _ _ _ 87 #[.val (.int p1), .val (.int p2), .val (.int p3), .val (.int p4), .val (.long p5), .second, .val (.int (p1 &&& (3 : Int32))), .val (.int ((p1 &&& (3 : Int32)) + (p2 &&& (3 : Int32)))), .val (.int (p3 &&& (7 : Int32))), .val (.ref a2), .val (.ref a28), .val (.int n30), .val (.int (6 : Int32)), .unset] [(.ref a28)]
                refine own_astore H rfl #[.val (.int p1), .val (.int p2), .val (.int p3), .val (.int p4), .val (.long p5), .second, .val (.int (p1 &&& (3 : Int32))), .val (.int ((p1 &&& (3 : Int32)) + (p2 &&& (3 : Int32)))), .val (.int (p3 &&& (7 : Int32))), .val (.ref a2), .val (.ref a28), .val (.int n30), .val (.int (6 : Int32)), .val (.ref a28)] rfl at_87 ?_
                refine own_aload H rfl rfl at_89 ?_
                refine own_iload H rfl at_91 ?_
                refine own_lload H rfl at_93 ?_
                refine own_invokestatic H (argsL := [(.ref a28), (.int (6 : Int32)), (.long p5)]) (rest := []) (rmSm6 l Z a0 (own_hw H) h261 n0 a28 p5 kB29 f286) (w1 := 58) (w2 := 59) (w3 := 43) (w4 := 60) rfl rfl rfl rfl own_pd7 rfl 0 (by decide) rfl (by decide) (Nat.le_of_eq rfl) (by decide) (by decide) (by decide) rfl at_95 ?_
                rintro _ _ ⟨rfl, rfl⟩
                show own_G _ _ _ _ _ _ _ _ 98 #[.val (.int p1), .val (.int p2), .val (.int p3), .val (.int p4), .val (.long p5), .second, .val (.int (p1 &&& (3 : Int32))), .val (.int ((p1 &&& (3 : Int32)) + (p2 &&& (3 : Int32)))), .val (.int (p3 &&& (7 : Int32))), .val (.ref a2), .val (.ref a28), .val (.int n30), .val (.int (6 : Int32)), .val (.ref a28)] [(.int (1 : Int32))]
                exact own_ireturn H (by simp) (by decide) at_98 (by decide) (by decide) rfl
set_option maxHeartbeats 40000000 in
theorem comes_1 {Post : Tables → Env → Array Value → State → Outcome → State → Prop} (hpost : ∀ tb e args s v u, (limb_1_1.after args s (.returned v) u = true ∧ limb_1_2.after args s (.returned v) u = true ∧ True) → FrameEnd s (.returned v) u (Jvm.fieldLocs frame_1_writes args s ++ Jvm.arrayLocs frame_1_arrays args s ++ Jvm.staticLocs frame_1_statics s) 16 128 → Post tb e args s (.returned v) u) :
    ArmFor flags0 classFile x code maxLocals ret World_1 tables_1 room_1 Calls_1 rest_1 Pre_1 Post := by
  intro l hfl _ _ p e ha hc hk s m args below hf hA hF happ hP
  obtain ⟨hcalls, hrest, hpre⟩ := hP
  obtain ⟨-, -, -, hnamed, -, -, -, hat⟩ := (Spec.applies_iff hf).mp happ
  obtain ⟨hg, hn⟩ := and_e (Cond.before_iff.mp (show (Jvm.Cond.and given_1 narrow_1).before args s = true from hpre))
  obtain ⟨h1, g0⟩ := and_e hg
  obtain ⟨w0, w1, w2, w3, w4, rfl⟩ : ∃ w0 w1 w2 w3 w4 : Value, args = #[w0, w1, w2, w3, w4] := by
    have hs : args.size = 5 := by simpa [Cond.value, given_1] using h1
    obtain ⟨L⟩ := args
    match L, hs with
    | [w0, w1, w2, w3, w4], _ => exact ⟨w0, w1, w2, w3, w4, rfl⟩
  have hw := fun d (hd : d ∈ tables_1) => atoms_spec (ws := Jvm.Cond.code x code maxLocals ret :: tables_1) hat d (List.mem_cons_of_mem _ hd)
  have hw' : ∀ (i : Nat) (d : Jvm.Cond), tables_1[i]? = some d → d.before _ s = true := fun i d q => hw d (List.mem_of_getElem? q)
  obtain ⟨u0, g1⟩ := and_e g0
  obtain ⟨i0, e0⟩ := is_v u0
  obtain rfl : w0 = (.int i0) := Option.some.inj e0
  obtain ⟨u1, g2⟩ := and_e g1
  obtain ⟨i1, e1⟩ := is_v u1
  obtain rfl : w1 = (.int i1) := Option.some.inj e1
  obtain ⟨u2, g3⟩ := and_e g2
  obtain ⟨i2, e2⟩ := is_v u2
  obtain rfl : w2 = (.int i2) := Option.some.inj e2
  obtain ⟨u3, g4⟩ := and_e g3
  obtain ⟨i3, e3⟩ := is_v u3
  obtain rfl : w3 = (.int i3) := Option.some.inj e3
  obtain ⟨i4, e4⟩ := isL_v g4
  obtain rfl : w4 = (.long i4) := Option.some.inj e4
  obtain ⟨n, o, h1, h2, h3, _, L, rfl, ⟨rfl, N⟩, hq⟩ := rm0 l s _ hw' tables_1 s.heap s.heap.size i0 i1 i2 i3 i4 (Nat.le_refl _) p e ha hc hk s m _ below hf ((Spec.applies_iff_loose hf).mp happ).1 ⟨rfl, State.Warmed39.refl s, rfl⟩ trivial
  refine ⟨n, _, h1, h2, h3, hpost _ _ _ _ _ _ ⟨Cond.after_iff.mpr rfl, Cond.after_iff.mpr (eq_i res_at (Term.int_eval (1)) (rfl)), trivial⟩ ⟨hq.1, hq.2.1, (hq.2.2.sift fun y hy => Or.inr (N y hy)).mono (by decide) (by decide)⟩⟩
theorem main_1_1 : Claimed_1_1 := comes_1 fun _ _ _ _ _ _ h hF => ⟨h.1, hF⟩
theorem main_1_2 : Claimed_1_2 := comes_1 fun _ _ _ _ _ _ h hF => ⟨h.2.1, hF⟩
end Jvm.Pilot.@@N@@
namespace Jvm.Pilot.@@N@@
open Jvm Jvm.ClassFile Sem Op Lib Jvm.Free Jvm.Stand Jvm.Pilot.@@N@@.Jvm.D
/-! MADE BY PROGRAM (witnessworld.py) out of the Statement's table words and the real class files: 12 classes; the members and pool entries that the words name. The judged class is class 1, her method 4. -/
namespace start1
open Jvm.ClassFile
def u (s : String) : CpInfo := .utf8 (stringToUtf16 s)
/-- a pool by its gaps: so many unusable entries, then the entry; so many at the end -/
def gap : Nat → List CpInfo → List CpInfo
  | 0, r => r
  | n + 1, r => .unusable :: gap n r
def poolList (es : List (Nat × CpInfo)) (last : Nat) : List CpInfo := es.foldr (fun e r => gap e.1 (e.2 :: r)) (gap last [])
def pool (es : List (Nat × CpInfo)) (last : Nat) : Array CpInfo := ⟨poolList es last⟩
def fileOf (pool : Array CpInfo) (this : Nat) (attrs : Array Attribute := #[]) (ms : Array MethodInfo := #[]) (fl : Nat := 33) (sup : Nat := 0) (ifs : Array Nat := #[]) (fds : Array FieldInfo := #[]) : ClassFile where
  minorVersion := 0
  majorVersion := 65
  constantPool := pool
  accessFlags := fl
  thisClass := this
  superClass := sup
  interfaces := ifs
  fields := fds
  methods := ms
  attributes := attrs
def plain (name : String) (sup : Option ClassId) : Class where
  name := name
  kind := .ordinary
  loader := none
  accessFlags := 33
  super := sup
  interfaces := #[]
  cf := none
  fields := #[]
  methods := #[]
  instanceTypes := #[]
  staticTypes := #[]
  resolved := #[]
  callSites := []
  init := .initialized
  statics := none
  mirror := none

def pool0 : Array CpInfo := pool [(5, u "<init>"), (0, u "()V"), (1, .class_ 10), (1, u "java/lang/Object"), (85, u "clone"), (0, u "()Ljava/lang/Object;")] 26

def k0c0 : Code := { maxStack := 0, maxLocals := 1, code := object_method_1_code, exceptionTable := #[], attributes := #[] }
def k0m0 : Method := { name := "<init>", desc := "()V", sig := { parameters := [], returnType := none }, accessFlags := 1, code := some k0c0 }
def k0m1 : Method := { name := "clone", desc := "()Ljava/lang/Object;", sig := { parameters := [], returnType := some (.object "java/lang/Object") }, accessFlags := 260, code := none }
/-- java/lang/Object -/
def k0 : Class := { plain "java/lang/Object" none with
  accessFlags := 33
  interfaces := #[]
  cf := some (fileOf pool0 8 #[] #[{ accessFlags := 1, nameIndex := 5, descriptorIndex := 6, attributes := #[] }, { accessFlags := 260, nameIndex := 96, descriptorIndex := 97, attributes := #[] }] 33 0 #[] #[])
  fields := #[]
  methods := #[k0m0, k0m1]
  instanceTypes := #[]
  staticTypes := #[]
  resolved := Array.replicate 124 none
  statics := none }

def pool1 : Array CpInfo := pool [(2, .class_ 4), (1, u "java/lang/Object"), (0, u "<init>"), (0, u "()V"), (0, .methodref 8 9), (0, .class_ 10), (0, .nameAndType 11 12), (0, u "com/example/shardline/shardline/http/BodyBytesToArrayPinLaw"), (0, u "at"), (0, u "(JI)B"), (0, .class_ 14), (0, u "com/example/shardline/shardline/http/BodyBytes"), (0, .methodref 13 16), (0, .nameAndType 5 17), (0, u "(II)V"), (0, .methodref 13 19), (0, .nameAndType 20 21), (0, u "room"), (0, u "(I)[B"), (0, .integer 2147483647), (0, .methodref 8 24), (0, .nameAndType 25 26), (0, u "put"), (0, u "([BIJ)V"), (0, .methodref 13 28), (0, .nameAndType 29 30), (0, u "added"), (0, u "(I)V"), (0, .methodref 13 32), (0, .nameAndType 33 34), (0, u "toArray"), (0, u "()[B"), (0, .methodref 8 36), (0, .nameAndType 37 38), (0, u "same"), (0, u "([BIJ)Z"), (3, u "law"), (0, u "(IIIIJ)Z")] 4

def k1m0 : Method := { name := "<init>", desc := "()V", sig := { parameters := [], returnType := none }, accessFlags := 1, code := none }
def k1c1 : Code := { maxStack := 4, maxLocals := 3, code := method_2_code, exceptionTable := #[], attributes := #[] }
def k1m1 : Method := { name := "at", desc := "(JI)B", sig := { parameters := [.long, .int], returnType := some .byte }, accessFlags := 10, code := some k1c1 }
def k1c2 : Code := { maxStack := 5, maxLocals := 4, code := method_3_code, exceptionTable := #[], attributes := #[] }
def k1m2 : Method := { name := "put", desc := "([BIJ)V", sig := { parameters := [(.array .byte), .int, .long], returnType := none }, accessFlags := 10, code := some k1c2 }
def k1c3 : Code := { maxStack := 4, maxLocals := 4, code := method_4_code, exceptionTable := #[], attributes := #[] }
def k1m3 : Method := { name := "same", desc := "([BIJ)Z", sig := { parameters := [(.array .byte), .int, .long], returnType := some .boolean }, accessFlags := 10, code := some k1c3 }
def k1c4 : Code := { maxStack := 4, maxLocals := 14, code := code, exceptionTable := #[], attributes := #[] }
def k1m4 : Method := { name := "law", desc := "(IIIIJ)Z", sig := { parameters := [.int, .int, .int, .int, .long], returnType := some .boolean }, accessFlags := 9, code := some k1c4 }
/-- com/example/shardline/shardline/http/BodyBytesToArrayPinLaw -/
def k1 : Class := { plain "com/example/shardline/shardline/http/BodyBytesToArrayPinLaw" (some 0) with
  accessFlags := 49
  interfaces := #[]
  cf := some (fileOf pool1 8 #[] #[{ accessFlags := 1, nameIndex := 5, descriptorIndex := 6, attributes := #[] }, { accessFlags := 10, nameIndex := 11, descriptorIndex := 12, attributes := #[] }, { accessFlags := 10, nameIndex := 25, descriptorIndex := 26, attributes := #[] }, { accessFlags := 10, nameIndex := 37, descriptorIndex := 38, attributes := #[] }, { accessFlags := 9, nameIndex := 42, descriptorIndex := 43, attributes := #[] }] 49 2 #[] #[])
  fields := #[]
  methods := #[k1m0, k1m1, k1m2, k1m3, k1m4]
  instanceTypes := #[]
  staticTypes := #[]
  resolved := Array.replicate 48 none
  statics := none }

def pool2 : Array CpInfo := pool [(1, .methodref 2 3), (0, .class_ 4), (0, .nameAndType 5 6), (0, u "java/lang/Object"), (0, u "<init>"), (0, u "()V"), (0, .fieldref 8 9), (0, .class_ 10), (0, .nameAndType 11 12), (0, u "com/example/shardline/shardline/http/BodyBytes"), (0, u "bytes"), (0, u "[B"), (0, .fieldref 8 14), (0, .nameAndType 15 16), (0, u "most"), (0, u "I"), (0, .fieldref 8 18), (0, .nameAndType 19 16), (0, u "length"), (0, .long 2), (1, .methodref 23 24), (0, .class_ 25), (0, .nameAndType 26 27), (0, u "java/lang/Math"), (0, u "max"), (0, u "(JJ)J"), (0, .methodref 23 29), (0, .nameAndType 30 27), (0, u "min"), (0, .methodref 32 33), (0, .class_ 34), (0, .nameAndType 35 36), (0, u "java/util/Arrays"), (0, u "copyOf"), (0, u "([BI)[B"), (0, u "(II)V"), (2, u "room"), (0, u "(I)[B"), (2, u "added"), (0, u "(I)V"), (0, u "toArray"), (0, u "()[B")] 3

def k2c0 : Code := { maxStack := 2, maxLocals := 3, code := prog_18_method_1_code, exceptionTable := #[], attributes := #[] }
def k2m0 : Method := { name := "<init>", desc := "(II)V", sig := { parameters := [.int, .int], returnType := none }, accessFlags := 0, code := some k2c0 }
def k2c1 : Code := { maxStack := 10, maxLocals := 2, code := prog_18_method_2_code, exceptionTable := #[], attributes := #[] }
def k2m1 : Method := { name := "room", desc := "(I)[B", sig := { parameters := [.int], returnType := some (.array .byte) }, accessFlags := 0, code := some k2c1 }
def k2c2 : Code := { maxStack := 3, maxLocals := 2, code := prog_18_method_4_code, exceptionTable := #[], attributes := #[] }
def k2m2 : Method := { name := "added", desc := "(I)V", sig := { parameters := [.int], returnType := none }, accessFlags := 0, code := some k2c2 }
def k2c3 : Code := { maxStack := 2, maxLocals := 1, code := prog_18_method_5_code, exceptionTable := #[], attributes := #[] }
def k2m3 : Method := { name := "toArray", desc := "()[B", sig := { parameters := [], returnType := some (.array .byte) }, accessFlags := 0, code := some k2c3 }
/-- com/example/shardline/shardline/http/BodyBytes -/
def k2 : Class := { plain "com/example/shardline/shardline/http/BodyBytes" (some 0) with
  accessFlags := 48
  interfaces := #[]
  cf := some (fileOf pool2 8 #[] #[{ accessFlags := 0, nameIndex := 5, descriptorIndex := 37, attributes := #[] }, { accessFlags := 0, nameIndex := 40, descriptorIndex := 41, attributes := #[] }, { accessFlags := 0, nameIndex := 44, descriptorIndex := 45, attributes := #[] }, { accessFlags := 0, nameIndex := 46, descriptorIndex := 47, attributes := #[] }] 48 2 #[] #[{ accessFlags := 18, nameIndex := 15, descriptorIndex := 16, attributes := #[] }, { accessFlags := 2, nameIndex := 11, descriptorIndex := 12, attributes := #[] }, { accessFlags := 2, nameIndex := 19, descriptorIndex := 16, attributes := #[] }])
  fields := #[{ name := "most", type := .int, accessFlags := 18, slot := 0, constantValue := 0 }, { name := "bytes", type := (.array .byte), accessFlags := 2, slot := 1, constantValue := 0 }, { name := "length", type := .int, accessFlags := 2, slot := 2, constantValue := 0 }]
  methods := #[k2m0, k2m1, k2m2, k2m3]
  instanceTypes := #[.int, (.array .byte), .int]
  staticTypes := #[]
  resolved := Array.replicate 51 none
  statics := none }

def pool3 : Array CpInfo := pool [(1, .class_ 2), (0, u "java/lang/Math"), (1, .class_ 6), (1, u "java/lang/Object"), (0, u "<init>"), (0, u "()V"), (89, .class_ 100), (1, u "java/lang/Math$RandomNumberGeneratorHolder"), (20, u "(JJ)J"), (50, u "negativeZeroFloatBits"), (0, u "J"), (2, u "negativeZeroDoubleBits"), (21, u "max"), (2, u "min"), (43, u "$assertionsDisabled"), (0, u "Z"), (88, u "(II)I"), (2, u "twoToTheDoubleScaleDown"), (0, u "D"), (4, u "twoToTheDoubleScaleUp"), (9, u "E"), (3, u "PI"), (2, u "TAU"), (2, u "DEGREES_TO_RADIANS"), (0, u "RADIANS_TO_DEGREES")] 94

def k3m0 : Method := { name := "<init>", desc := "()V", sig := { parameters := [], returnType := none }, accessFlags := 2, code := none }
def k3c1 : Code := { maxStack := 4, maxLocals := 4, code := jdk_29_method_66_code, exceptionTable := #[], attributes := #[] }
def k3m1 : Method := { name := "max", desc := "(JJ)J", sig := { parameters := [.long, .long], returnType := some .long }, accessFlags := 9, code := some k3c1 }
def k3c2 : Code := { maxStack := 2, maxLocals := 2, code := jdk_29_method_69_code, exceptionTable := #[], attributes := #[] }
def k3m2 : Method := { name := "min", desc := "(II)I", sig := { parameters := [.int, .int], returnType := some .int }, accessFlags := 9, code := some k3c2 }
def k3c3 : Code := { maxStack := 4, maxLocals := 4, code := jdk_29_method_70_code, exceptionTable := #[], attributes := #[] }
def k3m3 : Method := { name := "min", desc := "(JJ)J", sig := { parameters := [.long, .long], returnType := some .long }, accessFlags := 9, code := some k3c3 }
/-- java/lang/Math -/
def k3 : Class := { plain "java/lang/Math" (some 0) with
  accessFlags := 49
  interfaces := #[]
  cf := some (fileOf pool3 1 #[.nestMembers #[98]] #[{ accessFlags := 2, nameIndex := 7, descriptorIndex := 8, attributes := #[] }, { accessFlags := 9, nameIndex := 198, descriptorIndex := 121, attributes := #[] }, { accessFlags := 9, nameIndex := 201, descriptorIndex := 335, attributes := #[] }, { accessFlags := 9, nameIndex := 201, descriptorIndex := 121, attributes := #[] }] 49 4 #[] #[{ accessFlags := 25, nameIndex := 354, descriptorIndex := 339, attributes := #[] }, { accessFlags := 25, nameIndex := 358, descriptorIndex := 339, attributes := #[] }, { accessFlags := 25, nameIndex := 361, descriptorIndex := 339, attributes := #[] }, { accessFlags := 26, nameIndex := 364, descriptorIndex := 339, attributes := #[] }, { accessFlags := 26, nameIndex := 365, descriptorIndex := 339, attributes := #[] }, { accessFlags := 26, nameIndex := 172, descriptorIndex := 173, attributes := #[] }, { accessFlags := 26, nameIndex := 176, descriptorIndex := 173, attributes := #[] }, { accessFlags := 8, nameIndex := 344, descriptorIndex := 339, attributes := #[] }, { accessFlags := 8, nameIndex := 338, descriptorIndex := 339, attributes := #[] }, { accessFlags := 4120, nameIndex := 245, descriptorIndex := 246, attributes := #[] }])
  fields := #[{ name := "E", type := .double, accessFlags := 25, slot := 0, constantValue := 0 }, { name := "PI", type := .double, accessFlags := 25, slot := 1, constantValue := 0 }, { name := "TAU", type := .double, accessFlags := 25, slot := 2, constantValue := 0 }, { name := "DEGREES_TO_RADIANS", type := .double, accessFlags := 26, slot := 3, constantValue := 0 }, { name := "RADIANS_TO_DEGREES", type := .double, accessFlags := 26, slot := 4, constantValue := 0 }, { name := "negativeZeroFloatBits", type := .long, accessFlags := 26, slot := 5, constantValue := 0 }, { name := "negativeZeroDoubleBits", type := .long, accessFlags := 26, slot := 6, constantValue := 0 }, { name := "twoToTheDoubleScaleUp", type := .double, accessFlags := 8, slot := 7, constantValue := 0 }, { name := "twoToTheDoubleScaleDown", type := .double, accessFlags := 8, slot := 8, constantValue := 0 }, { name := "$assertionsDisabled", type := .boolean, accessFlags := 4120, slot := 9, constantValue := 0 }]
  methods := #[k3m0, k3m1, k3m2, k3m3]
  instanceTypes := #[]
  staticTypes := #[.double, .double, .double, .double, .double, .long, .long, .double, .double, .boolean]
  resolved := Array.replicate 460 none
  statics := none }

def pool4 : Array CpInfo := pool [(2, .class_ 4), (1, u "java/lang/Object"), (0, u "<init>"), (0, u "()V"), (7, .class_ 16), (1, u "java/util/Arrays"), (57, .class_ 76), (1, u "java/util/Arrays$NaturalOrder"), (32, u "()Ljava/lang/Object;"), (3, .class_ 115), (1, u "java/util/Arrays$LegacyMergeSort"), (1, u "Z"), (10, .nameAndType 129 109), (0, u "clone"), (20, .methodref 151 152), (0, .class_ 153), (0, .nameAndType 154 155), (0, u "java/lang/System"), (0, u "arraycopy"), (0, u "(Ljava/lang/Object;ILjava/lang/Object;II)V"), (146, u "copyOf"), (1, .methodref 305 306), (0, .class_ 307), (0, .nameAndType 308 309), (0, u "java/lang/Math"), (0, u "min"), (0, u "(II)I"), (0, .methodref 311 128), (0, .class_ 312), (0, u "[B"), (62, .class_ 376), (0, u "java/util/Arrays$ArrayList"), (68, u "$assertionsDisabled"), (269, u "MIN_ARRAY_SORT_GRAN"), (0, u "I"), (2, u "INSERTIONSORT_THRESHOLD"), (149, u "([BI)[B"), (105, .class_ 976), (0, u "java/util/Arrays$ArrayItr")] 52

def k4m0 : Method := { name := "<init>", desc := "()V", sig := { parameters := [], returnType := none }, accessFlags := 2, code := none }
def k4c1 : Code := { maxStack := 6, maxLocals := 3, code := jdk_65_method_121_code, exceptionTable := #[], attributes := #[] }
def k4m1 : Method := { name := "copyOf", desc := "([BI)[B", sig := { parameters := [(.array .byte), .int], returnType := some (.array .byte) }, accessFlags := 9, code := some k4c1 }
/-- java/util/Arrays -/
def k4 : Class := { plain "java/util/Arrays" (some 0) with
  accessFlags := 49
  interfaces := #[]
  cf := some (fileOf pool4 14 #[.nestMembers #[975, 375, 113, 74]] #[{ accessFlags := 2, nameIndex := 5, descriptorIndex := 6, attributes := #[] }, { accessFlags := 9, nameIndex := 302, descriptorIndex := 869, attributes := #[] }] 49 2 #[] #[{ accessFlags := 26, nameIndex := 715, descriptorIndex := 716, attributes := #[] }, { accessFlags := 26, nameIndex := 719, descriptorIndex := 716, attributes := #[] }, { accessFlags := 4120, nameIndex := 445, descriptorIndex := 117, attributes := #[] }])
  fields := #[{ name := "MIN_ARRAY_SORT_GRAN", type := .int, accessFlags := 26, slot := 0, constantValue := 0 }, { name := "INSERTIONSORT_THRESHOLD", type := .int, accessFlags := 26, slot := 1, constantValue := 0 }, { name := "$assertionsDisabled", type := .boolean, accessFlags := 4120, slot := 2, constantValue := 0 }]
  methods := #[k4m0, k4m1]
  instanceTypes := #[]
  staticTypes := #[.int, .int, .boolean]
  resolved := Array.replicate 1029 none
  statics := none }

def pool5 : Array CpInfo := pool [(2, .class_ 4), (1, u "java/lang/Object"), (0, u "<init>"), (0, u "()V"), (1, .class_ 10), (1, u "java/lang/System"), (0, u "allowSecurityManager"), (0, u "I"), (16, u "cons"), (0, u "Ljava/io/Console;"), (77, .class_ 110), (1, u "java/lang/System$CallersHolder"), (43, u "initialErrStream"), (0, u "Ljava/io/PrintStream;"), (19, u "security"), (0, u "Ljava/lang/SecurityManager;"), (31, .class_ 209), (0, u "java/lang/System$1"), (7, u "props"), (0, u "Ljava/util/Properties;"), (2, u "lineSeparator"), (0, u "Ljava/lang/String;"), (96, .class_ 321), (1, u "java/lang/System$LoggerFinder"), (5, .class_ 328), (0, u "java/lang/System$Logger"), (67, u "err"), (2, u "out"), (91, u "notSupportedJnuEncoding"), (15, u "in"), (17, u "initialIn"), (0, u "Ljava/io/InputStream;"), (35, u "bootLayer"), (0, u "Ljava/lang/ModuleLayer;"), (99, .class_ 664), (0, u "java/lang/System$2"), (9, u "NEVER"), (2, u "MAYBE"), (49, u "arraycopy"), (0, u "(Ljava/lang/Object;ILjava/lang/Object;II)V"), (72, .class_ 802), (0, u "java/lang/System$Logger$Level")] 31

def k5m0 : Method := { name := "<init>", desc := "()V", sig := { parameters := [], returnType := none }, accessFlags := 2, code := none }
def k5m1 : Method := { name := "arraycopy", desc := "(Ljava/lang/Object;ILjava/lang/Object;II)V", sig := { parameters := [(.object "java/lang/Object"), .int, (.object "java/lang/Object"), .int, .int], returnType := none }, accessFlags := 265, code := none }
/-- java/lang/System -/
def k5 : Class := { plain "java/lang/System" (some 0) with
  accessFlags := 49
  interfaces := #[]
  cf := some (fileOf pool5 8 #[.nestMembers #[319, 327, 801, 108, 663, 208]] #[{ accessFlags := 2, nameIndex := 5, descriptorIndex := 6, attributes := #[] }, { accessFlags := 265, nameIndex := 727, descriptorIndex := 728, attributes := #[] }] 49 2 #[] #[{ accessFlags := 25, nameIndex := 507, descriptorIndex := 526, attributes := #[] }, { accessFlags := 25, nameIndex := 399, descriptorIndex := 155, attributes := #[] }, { accessFlags := 25, nameIndex := 396, descriptorIndex := 155, attributes := #[] }, { accessFlags := 10, nameIndex := 525, descriptorIndex := 526, attributes := #[] }, { accessFlags := 26, nameIndex := 674, descriptorIndex := 12, attributes := #[] }, { accessFlags := 26, nameIndex := 677, descriptorIndex := 12, attributes := #[] }, { accessFlags := 10, nameIndex := 11, descriptorIndex := 12, attributes := #[] }, { accessFlags := 74, nameIndex := 175, descriptorIndex := 176, attributes := #[] }, { accessFlags := 10, nameIndex := 491, descriptorIndex := 222, attributes := #[] }, { accessFlags := 74, nameIndex := 29, descriptorIndex := 30, attributes := #[] }, { accessFlags := 74, nameIndex := 154, descriptorIndex := 155, attributes := #[] }, { accessFlags := 10, nameIndex := 217, descriptorIndex := 218, attributes := #[] }, { accessFlags := 10, nameIndex := 221, descriptorIndex := 222, attributes := #[] }, { accessFlags := 8, nameIndex := 562, descriptorIndex := 563, attributes := #[] }])
  fields := #[{ name := "in", type := (.object "java/io/InputStream"), accessFlags := 25, slot := 0, constantValue := 0 }, { name := "out", type := (.object "java/io/PrintStream"), accessFlags := 25, slot := 1, constantValue := 0 }, { name := "err", type := (.object "java/io/PrintStream"), accessFlags := 25, slot := 2, constantValue := 0 }, { name := "initialIn", type := (.object "java/io/InputStream"), accessFlags := 10, slot := 3, constantValue := 0 }, { name := "NEVER", type := .int, accessFlags := 26, slot := 4, constantValue := 0 }, { name := "MAYBE", type := .int, accessFlags := 26, slot := 5, constantValue := 0 }, { name := "allowSecurityManager", type := .int, accessFlags := 10, slot := 6, constantValue := 0 }, { name := "security", type := (.object "java/lang/SecurityManager"), accessFlags := 74, slot := 7, constantValue := 0 }, { name := "notSupportedJnuEncoding", type := (.object "java/lang/String"), accessFlags := 10, slot := 8, constantValue := 0 }, { name := "cons", type := (.object "java/io/Console"), accessFlags := 74, slot := 9, constantValue := 0 }, { name := "initialErrStream", type := (.object "java/io/PrintStream"), accessFlags := 74, slot := 10, constantValue := 0 }, { name := "props", type := (.object "java/util/Properties"), accessFlags := 10, slot := 11, constantValue := 0 }, { name := "lineSeparator", type := (.object "java/lang/String"), accessFlags := 10, slot := 12, constantValue := 0 }, { name := "bootLayer", type := (.object "java/lang/ModuleLayer"), accessFlags := 8, slot := 13, constantValue := 0 }]
  methods := #[k5m0, k5m1]
  instanceTypes := #[]
  staticTypes := #[(.object "java/io/InputStream"), (.object "java/io/PrintStream"), (.object "java/io/PrintStream"), (.object "java/io/InputStream"), .int, .int, .int, (.object "java/lang/SecurityManager"), (.object "java/lang/String"), (.object "java/io/Console"), (.object "java/io/PrintStream"), (.object "java/util/Properties"), (.object "java/lang/String"), (.object "java/lang/ModuleLayer")]
  resolved := Array.replicate 834 none
  statics := none }

def pool6 : Array CpInfo := pool [(1, .class_ 2), (0, u "java/lang/Cloneable"), (0, .class_ 4), (0, u "java/lang/Object")] 2

/-- java/lang/Cloneable -/
def k6 : Class := { plain "java/lang/Cloneable" (some 0) with
  accessFlags := 1537
  interfaces := #[]
  cf := some (fileOf pool6 1 #[] #[] 1537 3 #[] #[])
  fields := #[]
  methods := #[]
  instanceTypes := #[]
  staticTypes := #[]
  resolved := Array.replicate 7 none
  statics := none }

def pool7 : Array CpInfo := pool [(1, u "java/io/Serializable"), (0, .class_ 1), (0, u "java/lang/Object"), (0, .class_ 3)] 3

/-- java/io/Serializable -/
def k7 : Class := { plain "java/io/Serializable" (some 0) with
  accessFlags := 1537
  interfaces := #[]
  cf := some (fileOf pool7 2 #[] #[] 1537 4 #[] #[])
  fields := #[]
  methods := #[]
  instanceTypes := #[]
  staticTypes := #[]
  resolved := Array.replicate 8 none
  statics := none }

/-- the primitive byte -/
def k8 : Class := { plain "byte" none with kind := .primitive 'B', accessFlags := 0x411 }
/-- [B -/
def k9 : Class := { plain "[B" (some 0) with kind := .array 8 .byte, interfaces := #[6, 7], accessFlags := 1041 }

/-- the primitive int -/
def k10 : Class := { plain "int" none with kind := .primitive 'I', accessFlags := 0x411 }
/-- [I -/
def k11 : Class := { plain "[I" (some 0) with kind := .array 10 .int, interfaces := #[6, 7], accessFlags := 1041 }

def heap : Heap := #[]
def classes : Array Class := #[k0, k1, k2, k3, k4, k5, k6, k7, k8, k9, k10, k11]
def interned : List (Array UInt16 × Addr) := []
def slotsUsed : Nat := 0
def theMethod : MethodId := ⟨1, 4⟩
def args0 : Array Value := #[.int 5, .int 9, .int 7, .int 3, .long 77]
def aboutOver (below : List Frame) : State where
  vm := { classes := classes, interned := interned.toArray }
  heap := heap
  slotsUsed := slotsUsed
  threads := #[{ frames := .invoking theMethod args0 :: below }]
def below0 : List Frame := [.native { method := ⟨0, 0⟩, args := #[] }]
def about1 : State := aboutOver below0
def p0 : Program := .bare "" "" ""
def e0 : Env := launch0.env 0 0 0
theorem w_frames : about1.frames = Frame.invoking theMethod args0 :: below0 := rfl
set_option maxRecDepth 65536 in
theorem w_args : argsFit about1.vm theMethod args0 = true := by decide +kernel
set_option maxRecDepth 65536 in
theorem w_heap : heapFits about1 = true := by decide +kernel
set_option maxRecDepth 65536 in
theorem w_runnable : about1.curStatus? = some .runnable := by decide +kernel
set_option maxRecDepth 65536 in
theorem w_alone : about1.alone = true := by decide +kernel
set_option maxRecDepth 65536 in
theorem w_named : about1.methodNamed? x = some theMethod := by decide +kernel
set_option maxRecDepth 65536 in
theorem w_hears : about1.hears theMethod below0 = true := by decide +kernel
set_option maxRecDepth 65536 in
theorem w_ripe : about1.ripe theMethod args0 below0 = true := by decide +kernel
theorem w_running : about1.status = .running := rfl
set_option maxRecDepth 65536 in
theorem w_room : about1.hasRoom e0.platform room_1 = true :=
  launch0.hasRoom_least _ room_1 (by decide +kernel) (by decide +kernel) (by decide +kernel) (by decide +kernel) (by decide +kernel) (by decide +kernel)
theorem allAtoms_all (ts : List Jvm.Cond) (a : Array Jvm.Value) (st : Jvm.State) : (allAtoms ts).before a st = ts.all (fun c => c.before a st) := by
  induction ts with
  | nil => rfl
  | cons c t ih =>
    show (Jvm.Cond.and c (allAtoms t)).before a st = _
    rw [Jvm.Cond.before_and, ih, List.all_cons]
def words1 : List Jvm.Cond := Jvm.Cond.code x code maxLocals ret :: tables_1
/-- a 'code' word, met by the world's own term for the bytes: nothing is compared byte by byte -/
theorem code_word {y : MethodName} {bytes : ByteArray} {mx : Nat} {rt : Option FieldType} {a : Array Value} {s : State} {m : MethodId} {meth : Method} {c : Code} (h1 : s.methodNamed? y = some m) (h2 : s.vm.method? m = some meth) (h3 : meth.code = some c) (h4 : c.code = bytes)
    (h5 : (c.maxLocals == mx && c.exceptionTable.isEmpty && decide (c.maxStack ≤ mostOperands) && decide (meth.sig.returnType = rt) && !meth.locks && decide (parseMethodDescriptor y.desc = some meth.sig)) = true) : (Jvm.Cond.code y bytes mx rt).before a s = true := by
  simp only [Bool.and_eq_true, beq_iff_eq, Bool.not_eq_true', decide_eq_true_eq] at h5
  obtain ⟨⟨⟨⟨⟨g1, g2⟩, g3⟩, g4⟩, g5⟩, g6⟩ := h5
  simp [Cond.before, Cond.holds, Cond.value, h1, h2, h3, h4, g1, g2, g3, g4, g5, g6]
def isCode : Jvm.Cond → Bool
  | .code _ _ _ _ => true
  | _ => false
theorem all_split {L : List Jvm.Cond} {P : Jvm.Cond → Bool} (h1 : L.all (fun c => isCode c || P c) = true) (h2 : ∀ c ∈ L.filter isCode, P c = true) : L.all P = true := by
  refine List.all_eq_true.mpr fun c hc => ?_
  have h := List.all_eq_true.mp h1 c hc
  rcases Bool.eq_false_or_eq_true (isCode c) with hi | hi
  · exact h2 c (List.mem_filter.mpr ⟨hc, hi⟩)
  · simpa [hi] using h
set_option maxRecDepth 65536 in
theorem w_c0 : (Jvm.Cond.code x code maxLocals ret).before args0 about1 = true := code_word (m := ⟨1, 4⟩) (meth := k1m4) (c := k1c4) (by decide +kernel) rfl rfl rfl (by decide +kernel)
set_option maxRecDepth 65536 in
theorem w_c1 : (Jvm.Cond.code ({ cls := "com/example/shardline/shardline/http/BodyBytes", name := "<init>", desc := "(II)V" } : Jvm.MethodName) prog_18_method_1_code (3 : Nat) (Option.none : Option Jvm.ClassFile.FieldType)).before args0 about1 = true := code_word (m := ⟨2, 0⟩) (meth := k2m0) (c := k2c0) (by decide +kernel) rfl rfl rfl (by decide +kernel)
set_option maxRecDepth 65536 in
theorem w_c2 : (Jvm.Cond.code ({ cls := "java/lang/Object", name := "<init>", desc := "()V" } : Jvm.MethodName) object_method_1_code (1 : Nat) (Option.none : Option Jvm.ClassFile.FieldType)).before args0 about1 = true := code_word (m := ⟨0, 0⟩) (meth := k0m0) (c := k0c0) (by decide +kernel) rfl rfl rfl (by decide +kernel)
set_option maxRecDepth 65536 in
theorem w_c3 : (Jvm.Cond.code ({ cls := "com/example/shardline/shardline/http/BodyBytes", name := "room", desc := "(I)[B" } : Jvm.MethodName) prog_18_method_2_code (2 : Nat) (Option.some (Jvm.ClassFile.FieldType.array Jvm.ClassFile.FieldType.byte))).before args0 about1 = true := code_word (m := ⟨2, 1⟩) (meth := k2m1) (c := k2c1) (by decide +kernel) rfl rfl rfl (by decide +kernel)
set_option maxRecDepth 65536 in
theorem w_c4 : (Jvm.Cond.code ({ cls := "java/lang/Math", name := "max", desc := "(JJ)J" } : Jvm.MethodName) jdk_29_method_66_code (4 : Nat) (Option.some Jvm.ClassFile.FieldType.long)).before args0 about1 = true := code_word (m := ⟨3, 1⟩) (meth := k3m1) (c := k3c1) (by decide +kernel) rfl rfl rfl (by decide +kernel)
set_option maxRecDepth 65536 in
theorem w_c5 : (Jvm.Cond.code ({ cls := "java/lang/Math", name := "min", desc := "(JJ)J" } : Jvm.MethodName) jdk_29_method_70_code (4 : Nat) (Option.some Jvm.ClassFile.FieldType.long)).before args0 about1 = true := code_word (m := ⟨3, 3⟩) (meth := k3m3) (c := k3c3) (by decide +kernel) rfl rfl rfl (by decide +kernel)
set_option maxRecDepth 65536 in
theorem w_c6 : (Jvm.Cond.code ({ cls := "java/util/Arrays", name := "copyOf", desc := "([BI)[B" } : Jvm.MethodName) jdk_65_method_121_code (3 : Nat) (Option.some (Jvm.ClassFile.FieldType.array Jvm.ClassFile.FieldType.byte))).before args0 about1 = true := code_word (m := ⟨4, 1⟩) (meth := k4m1) (c := k4c1) (by decide +kernel) rfl rfl rfl (by decide +kernel)
set_option maxRecDepth 65536 in
theorem w_c7 : (Jvm.Cond.code ({ cls := "java/lang/Math", name := "min", desc := "(II)I" } : Jvm.MethodName) jdk_29_method_69_code (2 : Nat) (Option.some Jvm.ClassFile.FieldType.int)).before args0 about1 = true := code_word (m := ⟨3, 2⟩) (meth := k3m2) (c := k3c2) (by decide +kernel) rfl rfl rfl (by decide +kernel)
set_option maxRecDepth 65536 in
theorem w_c8 : (Jvm.Cond.code ({ cls := "com/example/shardline/shardline/http/BodyBytesToArrayPinLaw", name := "put", desc := "([BIJ)V" } : Jvm.MethodName) method_3_code (4 : Nat) (Option.none : Option Jvm.ClassFile.FieldType)).before args0 about1 = true := code_word (m := ⟨1, 2⟩) (meth := k1m2) (c := k1c2) (by decide +kernel) rfl rfl rfl (by decide +kernel)
set_option maxRecDepth 65536 in
theorem w_c9 : (Jvm.Cond.code ({ cls := "com/example/shardline/shardline/http/BodyBytesToArrayPinLaw", name := "at", desc := "(JI)B" } : Jvm.MethodName) method_2_code (3 : Nat) (Option.some Jvm.ClassFile.FieldType.byte)).before args0 about1 = true := code_word (m := ⟨1, 1⟩) (meth := k1m1) (c := k1c1) (by decide +kernel) rfl rfl rfl (by decide +kernel)
set_option maxRecDepth 65536 in
theorem w_c10 : (Jvm.Cond.code ({ cls := "com/example/shardline/shardline/http/BodyBytes", name := "added", desc := "(I)V" } : Jvm.MethodName) prog_18_method_4_code (2 : Nat) (Option.none : Option Jvm.ClassFile.FieldType)).before args0 about1 = true := code_word (m := ⟨2, 2⟩) (meth := k2m2) (c := k2c2) (by decide +kernel) rfl rfl rfl (by decide +kernel)
set_option maxRecDepth 65536 in
theorem w_c11 : (Jvm.Cond.code ({ cls := "com/example/shardline/shardline/http/BodyBytes", name := "toArray", desc := "()[B" } : Jvm.MethodName) prog_18_method_5_code (1 : Nat) (Option.some (Jvm.ClassFile.FieldType.array Jvm.ClassFile.FieldType.byte))).before args0 about1 = true := code_word (m := ⟨2, 3⟩) (meth := k2m3) (c := k2c3) (by decide +kernel) rfl rfl rfl (by decide +kernel)
set_option maxRecDepth 65536 in
theorem w_c12 : (Jvm.Cond.code ({ cls := "com/example/shardline/shardline/http/BodyBytesToArrayPinLaw", name := "same", desc := "([BIJ)Z" } : Jvm.MethodName) method_4_code (4 : Nat) (Option.some Jvm.ClassFile.FieldType.boolean)).before args0 about1 = true := code_word (m := ⟨1, 3⟩) (meth := k1m3) (c := k1c3) (by decide +kernel) rfl rfl rfl (by decide +kernel)
def codes1 : List Jvm.Cond := [Jvm.Cond.code x code maxLocals ret, Jvm.Cond.code ({ cls := "com/example/shardline/shardline/http/BodyBytes", name := "<init>", desc := "(II)V" } : Jvm.MethodName) prog_18_method_1_code (3 : Nat) (Option.none : Option Jvm.ClassFile.FieldType), Jvm.Cond.code ({ cls := "java/lang/Object", name := "<init>", desc := "()V" } : Jvm.MethodName) object_method_1_code (1 : Nat) (Option.none : Option Jvm.ClassFile.FieldType), Jvm.Cond.code ({ cls := "com/example/shardline/shardline/http/BodyBytes", name := "room", desc := "(I)[B" } : Jvm.MethodName) prog_18_method_2_code (2 : Nat) (Option.some (Jvm.ClassFile.FieldType.array Jvm.ClassFile.FieldType.byte)), Jvm.Cond.code ({ cls := "java/lang/Math", name := "max", desc := "(JJ)J" } : Jvm.MethodName) jdk_29_method_66_code (4 : Nat) (Option.some Jvm.ClassFile.FieldType.long), Jvm.Cond.code ({ cls := "java/lang/Math", name := "min", desc := "(JJ)J" } : Jvm.MethodName) jdk_29_method_70_code (4 : Nat) (Option.some Jvm.ClassFile.FieldType.long), Jvm.Cond.code ({ cls := "java/util/Arrays", name := "copyOf", desc := "([BI)[B" } : Jvm.MethodName) jdk_65_method_121_code (3 : Nat) (Option.some (Jvm.ClassFile.FieldType.array Jvm.ClassFile.FieldType.byte)), Jvm.Cond.code ({ cls := "java/lang/Math", name := "min", desc := "(II)I" } : Jvm.MethodName) jdk_29_method_69_code (2 : Nat) (Option.some Jvm.ClassFile.FieldType.int), Jvm.Cond.code ({ cls := "com/example/shardline/shardline/http/BodyBytesToArrayPinLaw", name := "put", desc := "([BIJ)V" } : Jvm.MethodName) method_3_code (4 : Nat) (Option.none : Option Jvm.ClassFile.FieldType), Jvm.Cond.code ({ cls := "com/example/shardline/shardline/http/BodyBytesToArrayPinLaw", name := "at", desc := "(JI)B" } : Jvm.MethodName) method_2_code (3 : Nat) (Option.some Jvm.ClassFile.FieldType.byte), Jvm.Cond.code ({ cls := "com/example/shardline/shardline/http/BodyBytes", name := "added", desc := "(I)V" } : Jvm.MethodName) prog_18_method_4_code (2 : Nat) (Option.none : Option Jvm.ClassFile.FieldType), Jvm.Cond.code ({ cls := "com/example/shardline/shardline/http/BodyBytes", name := "toArray", desc := "()[B" } : Jvm.MethodName) prog_18_method_5_code (1 : Nat) (Option.some (Jvm.ClassFile.FieldType.array Jvm.ClassFile.FieldType.byte)), Jvm.Cond.code ({ cls := "com/example/shardline/shardline/http/BodyBytesToArrayPinLaw", name := "same", desc := "([BIJ)Z" } : Jvm.MethodName) method_4_code (4 : Nat) (Option.some Jvm.ClassFile.FieldType.boolean)]
set_option maxRecDepth 65536 in
theorem codes_eq : words1.filter isCode = codes1 := rfl
theorem w_codes : ∀ c ∈ words1.filter isCode, c.before args0 about1 = true := by
  rw [codes_eq]
  intro c hc
  simp only [codes1, List.mem_cons, List.not_mem_nil, or_false] at hc
  rcases hc with rfl | rfl | rfl | rfl | rfl | rfl | rfl | rfl | rfl | rfl | rfl | rfl | rfl
  · exact w_c0
  · exact w_c1
  · exact w_c2
  · exact w_c3
  · exact w_c4
  · exact w_c5
  · exact w_c6
  · exact w_c7
  · exact w_c8
  · exact w_c9
  · exact w_c10
  · exact w_c11
  · exact w_c12
set_option maxRecDepth 65536 in
theorem w_t1 : (words1.take 24).all (fun c => isCode c || c.before args0 about1) = true := by decide +kernel
set_option maxRecDepth 65536 in
theorem w_t2 : ((words1.drop 24).take 24).all (fun c => isCode c || c.before args0 about1) = true := by decide +kernel
set_option maxRecDepth 65536 in
theorem w_t3 : ((words1.drop 24).drop 24).all (fun c => isCode c || c.before args0 about1) = true := by decide +kernel
theorem w_tables : (allAtoms (Jvm.Cond.code x code maxLocals ret :: tables_1)).before args0 about1 = true := by
  rw [allAtoms_all]
  show words1.all (fun c => c.before args0 about1) = true
  refine all_split ?_ w_codes
  rw [← List.take_append_drop 24 words1, List.all_append, w_t1, ← List.take_append_drop 24 (words1.drop 24), List.all_append, w_t2, w_t3]
  rfl
set_option maxRecDepth 65536 in
theorem w_case : (Jvm.Cond.and given_1 narrow_1).before args0 about1 = true := by decide +kernel
theorem w_applies : (headSpec (Jvm.Cond.code x code maxLocals ret :: tables_1) room_1).applies x e0.platform about1 = true :=
  (Spec.applies_iff w_frames).mpr ⟨w_running, w_runnable, w_alone, w_named, w_hears, w_ripe, w_room, w_tables⟩
theorem atStart : AtStart classFile x code maxLocals ret World_1 tables_1 room_1 Calls_1 rest_1 Pre_1 launch0 p0 e0 about1 theMethod args0 below0 :=
  ⟨lists_1, trivial, launch0.admits_env _ _ _, launch0.least_env, fairChoices_fair.cas, fairChoices_fair.clock, w_frames, w_args, w_heap, w_applies, trivial, trivial, w_case⟩
end start1
theorem witness_1 : WitnessClaimed_1 := ⟨start1.p0, start1.e0, start1.about1, start1.theMethod, start1.args0, start1.below0, start1.atStart⟩
end Jvm.Pilot.@@N@@
