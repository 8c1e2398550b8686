import JvmDerived
import JvmDerived.Pilot.@@N@@Statement
import JvmDerived.Pilot.@@N@@Code
set_option linter.unusedVariables false
set_option linter.unusedSimpArgs false
set_option maxRecDepth 65536
namespace Jvm.Pilot.@@N@@
open Jvm Jvm.ClassFile Sem Op Lib Jvm.Free Jvm.Stand Jvm.LawKit Jvm.RoadKit Bundle Jvm.Pilot.@@N@@.Jvm.D

section OwnKit
/-- a walk's fixed things: program, launch, environment, room, first state, method, arguments, frames below, the method, its code -/
abbrev own_B : Type := Program × Launch × Env × Room × State × MethodId × Array Value × List Frame × Method × Code
def own_Ok (B : own_B) (Z : State) (a0 : Array Value) (l0 : Launch) (R0 : Room) (y : MethodName) (code : ByteArray) (N : Nat) (ret : Option FieldType) : Prop :=
  match B with
  | (p, l, e, R, s, m, args, below, meth, c) => l = l0 ∧ R = R0 ∧ p.tables.exec = Jvm.exec ∧ Z.Warmed39 s.vm ∧ s.vm.findClass y.cls = some m.cls ∧ c.code = code ∧ c.maxLocals = N ∧ meth.sig.returnType = ret ∧ meth.locks = false ∧ meth.name = y.name ∧ (∀ (i : Nat) (d : Jvm.Cond), tables_1[i]? = some d → d.before a0 Z = true)
/-- the rest of the walk ends well -/
def own_Fin (p : Program) (e : Env) (below : List Frame) (s : State) (n0 : Nat) (Q : Option Value → Heap → Prop) (kc ks : Nat) (A : State) : Prop :=
  ∃ s₂ o, Steps p.tables e below A s₂ ∧ s₂.status = .running ∧ Ended s₂ below o ∧ ∃ v L, o = .returned v ∧ (Q v s₂.heap ∧ Fr n0 L) ∧ FrameEnd s o s₂ L kc ks
theorem own_go {p : Program} {e : Env} {below : List Frame} {s : State} {n0 : Nat} {Q : Option Value → Heap → Prop} {kc ks : Nat} {A A' : State} (st : ∀ t, Steps p.tables e below A' t → Steps p.tables e below A t) (k : own_Fin p e below s n0 Q kc ks A') : own_Fin p e below s n0 Q kc ks A := by
  obtain ⟨s2, o, h1, r⟩ := k
  exact ⟨s2, o, st _ h1, r⟩
/-- from this point (heap h, at most so many cells and slots made, pc, locals, stack) the walk ends in Q -/
def own_G (B : own_B) (n0 : Nat) (Q : Option Value → Heap → Prop) (kc ks cells slots : Nat) (h : Heap) (pc : Nat) (Ls : Array Slot) (st : List Value) : Prop :=
  match B with
  | (p, l, e, R, s, m, args, below, meth, c) => ∀ (T : State) (locs : List Loc) (c1 s1 : Nat), Stand p l e R s m args below meth c T locs c1 s1 → Fr n0 locs → c1 ≤ cells → s1 ≤ slots → T.heap = h → own_Fin p e below s n0 Q kc ks (T.setTop (mkF m pc Ls st))
/-- a method's contract -/
def own_Met (l : Launch) (Z : State) (ws : List Jvm.Cond) (y : MethodName) (bytes : ByteArray) (maxL : Nat) (ret : Option FieldType) (rm : Room) (as : Array Value) (h : Heap) (n0 kc ks : Nat) (Q : Option Value → Heap → Prop) : Prop :=
  MetFree l y (head1 (Jvm.Cond.code y bytes maxL ret :: ws) rm) (fun a U => a = as ∧ Z.Warmed39 U.vm ∧ U.heap = h) (fun _ _ _ _ _ => True) (fun _ U o U' => ∃ v L, o = .returned v ∧ (Q v U'.heap ∧ Fr n0 L) ∧ FrameEnd U o U' L kc ks)
/-- a callee's contract -/
abbrev own_C (l : Launch) (Z : State) (y : MethodName) (bytes : ByteArray) (maxL : Nat) (ret : Option FieldType) (rm : Room) (as : Array Value) (h : Heap) (n0 : Nat) (Q : Option Value → Heap → Prop) : Prop := own_Met l Z [] y bytes maxL ret rm as h n0 rm.cells rm.slots Q
/-- a callee that returns w and leaves the heap -/
abbrev own_P (l : Launch) (Z : State) (y : MethodName) (bytes : ByteArray) (maxL : Nat) (ret : Option FieldType) (rm : Room) (as : Array Value) (h : Heap) (n0 : Nat) (w : Value) : Prop := own_C l Z y bytes maxL ret rm as h n0 (fun v h' => v = some w ∧ h = h')
abbrev own_rm (f lo : Nat) : Room := { frames := f, cells := 0, slots := 0, locals := lo }
theorem own_met {l : Launch} {Z : State} {a0 : Array Value} {ws : List Jvm.Cond} {y : MethodName} {bytes : ByteArray} {maxL : Nat} {ret : Option FieldType} {rm : Room} {as : Array Value} {h : Heap} {n0 kc ks : Nat} {Q : Option Value → Heap → Prop} {Ls : Array Slot}
    (hw : ∀ (i : Nat) (d : Jvm.Cond), tables_1[i]? = some d → d.before a0 Z = true) (hpl : plainFor y = true) (hef : ∀ m, entryFrame m as maxL = mkF m 0 Ls [])
    (body : ∀ B : own_B, own_Ok B Z a0 l rm y bytes maxL ret → own_G B n0 Q kc ks 0 0 h 0 Ls []) : own_Met l Z ws y bytes maxL ret rm as h n0 kc ks Q := by
  refine MetFree.of_bodySF hpl hisR ?_
  intro p e s m args below meth c s₁ Bd hml0 hP hK
  obtain ⟨rfl, hZ, hh⟩ := hP
  have X0 := Stand.of_body Bd
  have e0 : s₁.heap = h := by rw [← hh, Bd.state]; rfl
  have q := body (p, l, e, rm, s, m, args, below, meth, c) ⟨rfl, rfl, Bd.exec, hZ, findClass_of_methodNamed Bd.named, Bd.bytes, hml0, Bd.returns, Bd.notSynchronized, (name_of_methodNamed Bd.named Bd.method).1, hw⟩ s₁ [] 0 0 X0 (Fr.nil n0) (Nat.le_refl _) (Nat.le_refl _) e0
  rw [hef m]
  exact q
section Laws
variable {B : own_B} {Z : State} {a0 : Array Value} {l : Launch} {R : Room} {y : MethodName} {code : ByteArray} {N : Nat} {ret : Option FieldType} {n0 : Nat} {Q : Option Value → Heap → Prop} {kc ks cells slots : Nat} {h : Heap} {pc pc' : Nat} {Ls Ls' : Array Slot} {st : List Value}
theorem own_mono {cells' slots' : Nat} (hc : cells ≤ cells') (hs : slots ≤ slots') (k : own_G B n0 Q kc ks cells' slots' h pc Ls st) : own_G B n0 Q kc ks cells slots h pc Ls st := by
  obtain ⟨p, l, e, R, s, m, args, below, meth, c⟩ := B
  intro T locs c1 s1 X F q1 q2 eT
  exact k T locs c1 s1 X F (Nat.le_trans q1 hc) (Nat.le_trans q2 hs) eT
theorem own_cut (pc' : Nat) (Ls' : Array Slot) (st' : List Value) (f : own_G B n0 Q kc ks cells slots h pc' Ls' st' → own_G B n0 Q kc ks cells slots h pc Ls st) (k : own_G B n0 Q kc ks cells slots h pc' Ls' st') : own_G B n0 Q kc ks cells slots h pc Ls st := f k
theorem own_cast {Ls' : Array Slot} {st' : List Value} (hL : Ls = Ls') (hS : st = st') (k : own_G B n0 Q kc ks cells slots h pc Ls' st') : own_G B n0 Q kc ks cells slots h pc Ls st := by
  subst hL hS
  exact k
theorem own_w (H : own_Ok B Z a0 l R y code N ret) {i : Nat} {d : Jvm.Cond} (q : tables_1[i]? = some d) : d.before a0 Z = true := by
  obtain ⟨p, l, e, R, s, m, args, below, meth, c⟩ := B
  exact H.2.2.2.2.2.2.2.2.2.2 i d q
theorem own_hw (H : own_Ok B Z a0 l R y code N ret) : ∀ (i : Nat) (d : Jvm.Cond), tables_1[i]? = some d → d.before a0 Z = true := by
  obtain ⟨p, l, e, R, s, m, args, below, meth, c⟩ := B
  exact H.2.2.2.2.2.2.2.2.2.2
theorem own_iadd (H : own_Ok B Z a0 l R y code N ret) {x z v : Int32} (hv : x + z = v) (hd : decode code pc = .ok (.iadd, 1)) (k : own_G B n0 Q kc ks cells slots h (pc + 1) Ls (.int v :: st)) : own_G B n0 Q kc ks cells slots h pc Ls (.int z :: .int x :: st) := by
  subst hv
  obtain ⟨p, l, e, R, s, m, args, below, meth, c⟩ := B
  obtain ⟨rfl, rfl, hx, hZ, hown, hby, hml, hrt, hlk, hnm, hw⟩ := H
  intro T locs c1 s1 X F hc hs eT
  exact own_go (fun t q => XS.iadd X.here hx rfl (hb hby hd) rfl q) (k T locs c1 s1 X F hc hs eT)
theorem own_isub (H : own_Ok B Z a0 l R y code N ret) {x z v : Int32} (hv : x - z = v) (hd : decode code pc = .ok (.isub, 1)) (k : own_G B n0 Q kc ks cells slots h (pc + 1) Ls (.int v :: st)) : own_G B n0 Q kc ks cells slots h pc Ls (.int z :: .int x :: st) := by
  subst hv
  obtain ⟨p, l, e, R, s, m, args, below, meth, c⟩ := B
  obtain ⟨rfl, rfl, hx, hZ, hown, hby, hml, hrt, hlk, hnm, hw⟩ := H
  intro T locs c1 s1 X F hc hs eT
  exact own_go (fun t q => XS.isub X.here hx rfl (hb hby hd) rfl q) (k T locs c1 s1 X F hc hs eT)
theorem own_imul (H : own_Ok B Z a0 l R y code N ret) {x z v : Int32} (hv : x * z = v) (hd : decode code pc = .ok (.imul, 1)) (k : own_G B n0 Q kc ks cells slots h (pc + 1) Ls (.int v :: st)) : own_G B n0 Q kc ks cells slots h pc Ls (.int z :: .int x :: st) := by
  subst hv
  obtain ⟨p, l, e, R, s, m, args, below, meth, c⟩ := B
  obtain ⟨rfl, rfl, hx, hZ, hown, hby, hml, hrt, hlk, hnm, hw⟩ := H
  intro T locs c1 s1 X F hc hs eT
  exact own_go (fun t q => XS.imul X.here hx rfl (hb hby hd) rfl q) (k T locs c1 s1 X F hc hs eT)
theorem own_iand (H : own_Ok B Z a0 l R y code N ret) {x z v : Int32} (hv : x &&& z = v) (hd : decode code pc = .ok (.iand, 1)) (k : own_G B n0 Q kc ks cells slots h (pc + 1) Ls (.int v :: st)) : own_G B n0 Q kc ks cells slots h pc Ls (.int z :: .int x :: st) := by
  subst hv
  obtain ⟨p, l, e, R, s, m, args, below, meth, c⟩ := B
  obtain ⟨rfl, rfl, hx, hZ, hown, hby, hml, hrt, hlk, hnm, hw⟩ := H
  intro T locs c1 s1 X F hc hs eT
  exact own_go (fun t q => XS.iand X.here hx rfl (hb hby hd) rfl q) (k T locs c1 s1 X F hc hs eT)
theorem own_ior (H : own_Ok B Z a0 l R y code N ret) {x z v : Int32} (hv : x ||| z = v) (hd : decode code pc = .ok (.ior, 1)) (k : own_G B n0 Q kc ks cells slots h (pc + 1) Ls (.int v :: st)) : own_G B n0 Q kc ks cells slots h pc Ls (.int z :: .int x :: st) := by
  subst hv
  obtain ⟨p, l, e, R, s, m, args, below, meth, c⟩ := B
  obtain ⟨rfl, rfl, hx, hZ, hown, hby, hml, hrt, hlk, hnm, hw⟩ := H
  intro T locs c1 s1 X F hc hs eT
  exact own_go (fun t q => XT.ior X.here hx rfl (hb hby hd) rfl q) (k T locs c1 s1 X F hc hs eT)
theorem own_ixor (H : own_Ok B Z a0 l R y code N ret) {x z v : Int32} (hv : x ^^^ z = v) (hd : decode code pc = .ok (.ixor, 1)) (k : own_G B n0 Q kc ks cells slots h (pc + 1) Ls (.int v :: st)) : own_G B n0 Q kc ks cells slots h pc Ls (.int z :: .int x :: st) := by
  subst hv
  obtain ⟨p, l, e, R, s, m, args, below, meth, c⟩ := B
  obtain ⟨rfl, rfl, hx, hZ, hown, hby, hml, hrt, hlk, hnm, hw⟩ := H
  intro T locs c1 s1 X F hc hs eT
  exact own_go (fun t q => XT.ixor X.here hx rfl (hb hby hd) rfl q) (k T locs c1 s1 X F hc hs eT)
theorem own_ishl (H : own_Ok B Z a0 l R y code N ret) {x z v : Int32} (hv : x <<< (z &&& 31) = v) (hd : decode code pc = .ok (.ishl, 1)) (k : own_G B n0 Q kc ks cells slots h (pc + 1) Ls (.int v :: st)) : own_G B n0 Q kc ks cells slots h pc Ls (.int z :: .int x :: st) := by
  subst hv
  obtain ⟨p, l, e, R, s, m, args, below, meth, c⟩ := B
  obtain ⟨rfl, rfl, hx, hZ, hown, hby, hml, hrt, hlk, hnm, hw⟩ := H
  intro T locs c1 s1 X F hc hs eT
  exact own_go (fun t q => XT.ishl X.here hx rfl (hb hby hd) rfl q) (k T locs c1 s1 X F hc hs eT)
theorem own_ishr (H : own_Ok B Z a0 l R y code N ret) {x z v : Int32} (hv : x >>> (z &&& 31) = v) (hd : decode code pc = .ok (.ishr, 1)) (k : own_G B n0 Q kc ks cells slots h (pc + 1) Ls (.int v :: st)) : own_G B n0 Q kc ks cells slots h pc Ls (.int z :: .int x :: st) := by
  subst hv
  obtain ⟨p, l, e, R, s, m, args, below, meth, c⟩ := B
  obtain ⟨rfl, rfl, hx, hZ, hown, hby, hml, hrt, hlk, hnm, hw⟩ := H
  intro T locs c1 s1 X F hc hs eT
  exact own_go (fun t q => XT.ishr X.here hx rfl (hb hby hd) rfl q) (k T locs c1 s1 X F hc hs eT)
theorem own_iushr (H : own_Ok B Z a0 l R y code N ret) {x z v : Int32} (hv : XT.ushr x z = v) (hd : decode code pc = .ok (.iushr, 1)) (k : own_G B n0 Q kc ks cells slots h (pc + 1) Ls (.int v :: st)) : own_G B n0 Q kc ks cells slots h pc Ls (.int z :: .int x :: st) := by
  subst hv
  obtain ⟨p, l, e, R, s, m, args, below, meth, c⟩ := B
  obtain ⟨rfl, rfl, hx, hZ, hown, hby, hml, hrt, hlk, hnm, hw⟩ := H
  intro T locs c1 s1 X F hc hs eT
  exact own_go (fun t q => XT.iushr X.here hx rfl (hb hby hd) rfl q) (k T locs c1 s1 X F hc hs eT)
theorem own_ladd (H : own_Ok B Z a0 l R y code N ret) {x z v : Int64} (hv : x + z = v) (hd : decode code pc = .ok (.ladd, 1)) (k : own_G B n0 Q kc ks cells slots h (pc + 1) Ls (.long v :: st)) : own_G B n0 Q kc ks cells slots h pc Ls (.long z :: .long x :: st) := by
  subst hv
  obtain ⟨p, l, e, R, s, m, args, below, meth, c⟩ := B
  obtain ⟨rfl, rfl, hx, hZ, hown, hby, hml, hrt, hlk, hnm, hw⟩ := H
  intro T locs c1 s1 X F hc hs eT
  exact own_go (fun t q => XT.ladd X.here hx rfl (hb hby hd) rfl q) (k T locs c1 s1 X F hc hs eT)
theorem own_lsub (H : own_Ok B Z a0 l R y code N ret) {x z v : Int64} (hv : x - z = v) (hd : decode code pc = .ok (.lsub, 1)) (k : own_G B n0 Q kc ks cells slots h (pc + 1) Ls (.long v :: st)) : own_G B n0 Q kc ks cells slots h pc Ls (.long z :: .long x :: st) := by
  subst hv
  obtain ⟨p, l, e, R, s, m, args, below, meth, c⟩ := B
  obtain ⟨rfl, rfl, hx, hZ, hown, hby, hml, hrt, hlk, hnm, hw⟩ := H
  intro T locs c1 s1 X F hc hs eT
  exact own_go (fun t q => XT.lsub X.here hx rfl (hb hby hd) rfl q) (k T locs c1 s1 X F hc hs eT)
theorem own_lmul (H : own_Ok B Z a0 l R y code N ret) {x z v : Int64} (hv : x * z = v) (hd : decode code pc = .ok (.lmul, 1)) (k : own_G B n0 Q kc ks cells slots h (pc + 1) Ls (.long v :: st)) : own_G B n0 Q kc ks cells slots h pc Ls (.long z :: .long x :: st) := by
  subst hv
  obtain ⟨p, l, e, R, s, m, args, below, meth, c⟩ := B
  obtain ⟨rfl, rfl, hx, hZ, hown, hby, hml, hrt, hlk, hnm, hw⟩ := H
  intro T locs c1 s1 X F hc hs eT
  exact own_go (fun t q => XT.lmul X.here hx rfl (hb hby hd) rfl q) (k T locs c1 s1 X F hc hs eT)
theorem own_land (H : own_Ok B Z a0 l R y code N ret) {x z v : Int64} (hv : x &&& z = v) (hd : decode code pc = .ok (.land, 1)) (k : own_G B n0 Q kc ks cells slots h (pc + 1) Ls (.long v :: st)) : own_G B n0 Q kc ks cells slots h pc Ls (.long z :: .long x :: st) := by
  subst hv
  obtain ⟨p, l, e, R, s, m, args, below, meth, c⟩ := B
  obtain ⟨rfl, rfl, hx, hZ, hown, hby, hml, hrt, hlk, hnm, hw⟩ := H
  intro T locs c1 s1 X F hc hs eT
  exact own_go (fun t q => XT.land X.here hx rfl (hb hby hd) rfl q) (k T locs c1 s1 X F hc hs eT)
theorem own_lor (H : own_Ok B Z a0 l R y code N ret) {x z v : Int64} (hv : x ||| z = v) (hd : decode code pc = .ok (.lor, 1)) (k : own_G B n0 Q kc ks cells slots h (pc + 1) Ls (.long v :: st)) : own_G B n0 Q kc ks cells slots h pc Ls (.long z :: .long x :: st) := by
  subst hv
  obtain ⟨p, l, e, R, s, m, args, below, meth, c⟩ := B
  obtain ⟨rfl, rfl, hx, hZ, hown, hby, hml, hrt, hlk, hnm, hw⟩ := H
  intro T locs c1 s1 X F hc hs eT
  exact own_go (fun t q => XT.lor X.here hx rfl (hb hby hd) rfl q) (k T locs c1 s1 X F hc hs eT)
theorem own_lxor (H : own_Ok B Z a0 l R y code N ret) {x z v : Int64} (hv : x ^^^ z = v) (hd : decode code pc = .ok (.lxor, 1)) (k : own_G B n0 Q kc ks cells slots h (pc + 1) Ls (.long v :: st)) : own_G B n0 Q kc ks cells slots h pc Ls (.long z :: .long x :: st) := by
  subst hv
  obtain ⟨p, l, e, R, s, m, args, below, meth, c⟩ := B
  obtain ⟨rfl, rfl, hx, hZ, hown, hby, hml, hrt, hlk, hnm, hw⟩ := H
  intro T locs c1 s1 X F hc hs eT
  exact own_go (fun t q => XT.lxor X.here hx rfl (hb hby hd) rfl q) (k T locs c1 s1 X F hc hs eT)
theorem own_idiv (H : own_Ok B Z a0 l R y code N ret) {x z v : Int32} (hv : x / z = v) (hd : decode code pc = .ok (.idiv, 1)) (hz : z ≠ 0) (k : own_G B n0 Q kc ks cells slots h (pc + 1) Ls (.int v :: st)) : own_G B n0 Q kc ks cells slots h pc Ls (.int z :: .int x :: st) := by
  subst hv
  obtain ⟨p, l, e, R, s, m, args, below, meth, c⟩ := B
  obtain ⟨rfl, rfl, hx, hZ, hown, hby, hml, hrt, hlk, hnm, hw⟩ := H
  intro T locs c1 s1 X F hc hs eT
  exact own_go (fun t q => XS.idiv X.here hx rfl (hb hby hd) rfl hz q) (k T locs c1 s1 X F hc hs eT)
theorem own_irem (H : own_Ok B Z a0 l R y code N ret) {x z v : Int32} (hv : x % z = v) (hd : decode code pc = .ok (.irem, 1)) (hz : z ≠ 0) (k : own_G B n0 Q kc ks cells slots h (pc + 1) Ls (.int v :: st)) : own_G B n0 Q kc ks cells slots h pc Ls (.int z :: .int x :: st) := by
  subst hv
  obtain ⟨p, l, e, R, s, m, args, below, meth, c⟩ := B
  obtain ⟨rfl, rfl, hx, hZ, hown, hby, hml, hrt, hlk, hnm, hw⟩ := H
  intro T locs c1 s1 X F hc hs eT
  exact own_go (fun t q => iremM X hx rfl (hb hby hd) rfl hz q) (k T locs c1 s1 X F hc hs eT)
theorem own_ldiv (H : own_Ok B Z a0 l R y code N ret) {x z v : Int64} (hv : x / z = v) (hd : decode code pc = .ok (.ldiv, 1)) (hz : z ≠ 0) (k : own_G B n0 Q kc ks cells slots h (pc + 1) Ls (.long v :: st)) : own_G B n0 Q kc ks cells slots h pc Ls (.long z :: .long x :: st) := by
  subst hv
  obtain ⟨p, l, e, R, s, m, args, below, meth, c⟩ := B
  obtain ⟨rfl, rfl, hx, hZ, hown, hby, hml, hrt, hlk, hnm, hw⟩ := H
  intro T locs c1 s1 X F hc hs eT
  exact own_go (fun t q => XT.ldiv X.here hx rfl (hb hby hd) rfl hz q) (k T locs c1 s1 X F hc hs eT)
theorem own_lrem (H : own_Ok B Z a0 l R y code N ret) {x z v : Int64} (hv : x - x / z * z = v) (hd : decode code pc = .ok (.lrem, 1)) (hz : z ≠ 0) (k : own_G B n0 Q kc ks cells slots h (pc + 1) Ls (.long v :: st)) : own_G B n0 Q kc ks cells slots h pc Ls (.long z :: .long x :: st) := by
  subst hv
  obtain ⟨p, l, e, R, s, m, args, below, meth, c⟩ := B
  obtain ⟨rfl, rfl, hx, hZ, hown, hby, hml, hrt, hlk, hnm, hw⟩ := H
  intro T locs c1 s1 X F hc hs eT
  exact own_go (fun t q => XT.lrem X.here hx rfl (hb hby hd) rfl hz q) (k T locs c1 s1 X F hc hs eT)
theorem own_lshl (H : own_Ok B Z a0 l R y code N ret) {x v : Int64} {z : Int32} (hv : x <<< (z.toInt64 &&& 63) = v) (hd : decode code pc = .ok (.lshl, 1)) (k : own_G B n0 Q kc ks cells slots h (pc + 1) Ls (.long v :: st)) : own_G B n0 Q kc ks cells slots h pc Ls (.int z :: .long x :: st) := by
  subst hv
  obtain ⟨p, l, e, R, s, m, args, below, meth, c⟩ := B
  obtain ⟨rfl, rfl, hx, hZ, hown, hby, hml, hrt, hlk, hnm, hw⟩ := H
  intro T locs c1 s1 X F hc hs eT
  exact own_go (fun t q => XT.lshl X.here hx rfl (hb hby hd) rfl q) (k T locs c1 s1 X F hc hs eT)
theorem own_lshr (H : own_Ok B Z a0 l R y code N ret) {x v : Int64} {z : Int32} (hv : x >>> (z.toInt64 &&& 63) = v) (hd : decode code pc = .ok (.lshr, 1)) (k : own_G B n0 Q kc ks cells slots h (pc + 1) Ls (.long v :: st)) : own_G B n0 Q kc ks cells slots h pc Ls (.int z :: .long x :: st) := by
  subst hv
  obtain ⟨p, l, e, R, s, m, args, below, meth, c⟩ := B
  obtain ⟨rfl, rfl, hx, hZ, hown, hby, hml, hrt, hlk, hnm, hw⟩ := H
  intro T locs c1 s1 X F hc hs eT
  exact own_go (fun t q => XT.lshr X.here hx rfl (hb hby hd) rfl q) (k T locs c1 s1 X F hc hs eT)
theorem own_lushr (H : own_Ok B Z a0 l R y code N ret) {x v : Int64} {z : Int32} (hv : XT.ushrL x z = v) (hd : decode code pc = .ok (.lushr, 1)) (k : own_G B n0 Q kc ks cells slots h (pc + 1) Ls (.long v :: st)) : own_G B n0 Q kc ks cells slots h pc Ls (.int z :: .long x :: st) := by
  subst hv
  obtain ⟨p, l, e, R, s, m, args, below, meth, c⟩ := B
  obtain ⟨rfl, rfl, hx, hZ, hown, hby, hml, hrt, hlk, hnm, hw⟩ := H
  intro T locs c1 s1 X F hc hs eT
  exact own_go (fun t q => XT.lushr X.here hx rfl (hb hby hd) rfl q) (k T locs c1 s1 X F hc hs eT)
theorem own_ineg (H : own_Ok B Z a0 l R y code N ret) {x : Int32} {v : Int32} (hv : -x = v) (hd : decode code pc = .ok (.ineg, 1)) (k : own_G B n0 Q kc ks cells slots h (pc + 1) Ls (.int v :: st)) : own_G B n0 Q kc ks cells slots h pc Ls (.int x :: st) := by
  subst hv
  obtain ⟨p, l, e, R, s, m, args, below, meth, c⟩ := B
  obtain ⟨rfl, rfl, hx, hZ, hown, hby, hml, hrt, hlk, hnm, hw⟩ := H
  intro T locs c1 s1 X F hc hs eT
  exact own_go (fun t q => XS.ineg X.here hx rfl (hb hby hd) rfl q) (k T locs c1 s1 X F hc hs eT)
theorem own_lneg (H : own_Ok B Z a0 l R y code N ret) {x : Int64} {v : Int64} (hv : -x = v) (hd : decode code pc = .ok (.lneg, 1)) (k : own_G B n0 Q kc ks cells slots h (pc + 1) Ls (.long v :: st)) : own_G B n0 Q kc ks cells slots h pc Ls (.long x :: st) := by
  subst hv
  obtain ⟨p, l, e, R, s, m, args, below, meth, c⟩ := B
  obtain ⟨rfl, rfl, hx, hZ, hown, hby, hml, hrt, hlk, hnm, hw⟩ := H
  intro T locs c1 s1 X F hc hs eT
  exact own_go (fun t q => XT.lneg X.here hx rfl (hb hby hd) rfl q) (k T locs c1 s1 X F hc hs eT)
theorem own_i2l (H : own_Ok B Z a0 l R y code N ret) {x : Int32} {v : Int64} (hv : x.toInt64 = v) (hd : decode code pc = .ok (.i2l, 1)) (k : own_G B n0 Q kc ks cells slots h (pc + 1) Ls (.long v :: st)) : own_G B n0 Q kc ks cells slots h pc Ls (.int x :: st) := by
  subst hv
  obtain ⟨p, l, e, R, s, m, args, below, meth, c⟩ := B
  obtain ⟨rfl, rfl, hx, hZ, hown, hby, hml, hrt, hlk, hnm, hw⟩ := H
  intro T locs c1 s1 X F hc hs eT
  exact own_go (fun t q => XT.i2l X.here hx rfl (hb hby hd) rfl q) (k T locs c1 s1 X F hc hs eT)
theorem own_l2i (H : own_Ok B Z a0 l R y code N ret) {x : Int64} {v : Int32} (hv : x.toInt32 = v) (hd : decode code pc = .ok (.l2i, 1)) (k : own_G B n0 Q kc ks cells slots h (pc + 1) Ls (.int v :: st)) : own_G B n0 Q kc ks cells slots h pc Ls (.long x :: st) := by
  subst hv
  obtain ⟨p, l, e, R, s, m, args, below, meth, c⟩ := B
  obtain ⟨rfl, rfl, hx, hZ, hown, hby, hml, hrt, hlk, hnm, hw⟩ := H
  intro T locs c1 s1 X F hc hs eT
  exact own_go (fun t q => XT.l2i X.here hx rfl (hb hby hd) rfl q) (k T locs c1 s1 X F hc hs eT)
theorem own_i2b (H : own_Ok B Z a0 l R y code N ret) {x : Int32} {v : Int32} (hv : x.toInt8.toInt32 = v) (hd : decode code pc = .ok (.i2b, 1)) (k : own_G B n0 Q kc ks cells slots h (pc + 1) Ls (.int v :: st)) : own_G B n0 Q kc ks cells slots h pc Ls (.int x :: st) := by
  subst hv
  obtain ⟨p, l, e, R, s, m, args, below, meth, c⟩ := B
  obtain ⟨rfl, rfl, hx, hZ, hown, hby, hml, hrt, hlk, hnm, hw⟩ := H
  intro T locs c1 s1 X F hc hs eT
  exact own_go (fun t q => XT.i2b X.here hx rfl (hb hby hd) rfl q) (k T locs c1 s1 X F hc hs eT)
theorem own_i2c (H : own_Ok B Z a0 l R y code N ret) {x : Int32} {v : Int32} (hv : x.toUInt32.toUInt16.toUInt32.toInt32 = v) (hd : decode code pc = .ok (.i2c, 1)) (k : own_G B n0 Q kc ks cells slots h (pc + 1) Ls (.int v :: st)) : own_G B n0 Q kc ks cells slots h pc Ls (.int x :: st) := by
  subst hv
  obtain ⟨p, l, e, R, s, m, args, below, meth, c⟩ := B
  obtain ⟨rfl, rfl, hx, hZ, hown, hby, hml, hrt, hlk, hnm, hw⟩ := H
  intro T locs c1 s1 X F hc hs eT
  exact own_go (fun t q => XT.i2c X.here hx rfl (hb hby hd) rfl q) (k T locs c1 s1 X F hc hs eT)
theorem own_i2s (H : own_Ok B Z a0 l R y code N ret) {x : Int32} {v : Int32} (hv : x.toInt16.toInt32 = v) (hd : decode code pc = .ok (.i2s, 1)) (k : own_G B n0 Q kc ks cells slots h (pc + 1) Ls (.int v :: st)) : own_G B n0 Q kc ks cells slots h pc Ls (.int x :: st) := by
  subst hv
  obtain ⟨p, l, e, R, s, m, args, below, meth, c⟩ := B
  obtain ⟨rfl, rfl, hx, hZ, hown, hby, hml, hrt, hlk, hnm, hw⟩ := H
  intro T locs c1 s1 X F hc hs eT
  exact own_go (fun t q => XT.i2s X.here hx rfl (hb hby hd) rfl q) (k T locs c1 s1 X F hc hs eT)
theorem own_iconst (H : own_Ok B Z a0 l R y code N ret) {i : Int} (v : Int32) (hv : Int32.ofInt i = v) (hd : decode code pc = .ok (.iconst i, 1)) (k : own_G B n0 Q kc ks cells slots h (pc + 1) Ls (.int v :: st)) : own_G B n0 Q kc ks cells slots h pc Ls st := by
  obtain ⟨p, l, e, R, s, m, args, below, meth, c⟩ := B
  obtain ⟨rfl, rfl, hx, hZ, hown, hby, hml, hrt, hlk, hnm, hw⟩ := H
  intro T locs c1 s1 X F hc hs eT
  exact own_go (fun t q => XT.iconstV X.here hx rfl v (hb hby hd) hv q) (k T locs c1 s1 X F hc hs eT)
theorem own_bipush (H : own_Ok B Z a0 l R y code N ret) {i : Int} (v : Int32) (hv : (Int8.ofInt i).toInt32 = v) (hd : decode code pc = .ok (.bipush i, 2)) (k : own_G B n0 Q kc ks cells slots h (pc + 2) Ls (.int v :: st)) : own_G B n0 Q kc ks cells slots h pc Ls st := by
  obtain ⟨p, l, e, R, s, m, args, below, meth, c⟩ := B
  obtain ⟨rfl, rfl, hx, hZ, hown, hby, hml, hrt, hlk, hnm, hw⟩ := H
  intro T locs c1 s1 X F hc hs eT
  exact own_go (fun t q => XT.bipushV X.here hx rfl v (hb hby hd) hv q) (k T locs c1 s1 X F hc hs eT)
theorem own_sipush (H : own_Ok B Z a0 l R y code N ret) {i : Int} (v : Int32) (hv : (Int16.ofInt i).toInt32 = v) (hd : decode code pc = .ok (.sipush i, 3)) (k : own_G B n0 Q kc ks cells slots h (pc + 3) Ls (.int v :: st)) : own_G B n0 Q kc ks cells slots h pc Ls st := by
  obtain ⟨p, l, e, R, s, m, args, below, meth, c⟩ := B
  obtain ⟨rfl, rfl, hx, hZ, hown, hby, hml, hrt, hlk, hnm, hw⟩ := H
  intro T locs c1 s1 X F hc hs eT
  exact own_go (fun t q => XT.sipushV X.here hx rfl v (hb hby hd) hv q) (k T locs c1 s1 X F hc hs eT)
theorem own_lconst (H : own_Ok B Z a0 l R y code N ret) {i : Fin 2} (v : Int64) (hv : Int64.ofNat i = v) (hd : decode code pc = .ok (.lconst i, 1)) (k : own_G B n0 Q kc ks cells slots h (pc + 1) Ls (.long v :: st)) : own_G B n0 Q kc ks cells slots h pc Ls st := by
  obtain ⟨p, l, e, R, s, m, args, below, meth, c⟩ := B
  obtain ⟨rfl, rfl, hx, hZ, hown, hby, hml, hrt, hlk, hnm, hw⟩ := H
  intro T locs c1 s1 X F hc hs eT
  exact own_go (fun t q => XT.lconstV X.here hx rfl v (hb hby hd) hv q) (k T locs c1 s1 X F hc hs eT)
theorem own_aconst_null (H : own_Ok B Z a0 l R y code N ret)  (hd : decode code pc = .ok (.aconst_null, 1)) (k : own_G B n0 Q kc ks cells slots h (pc + 1) Ls (.null :: st)) : own_G B n0 Q kc ks cells slots h pc Ls st := by
  obtain ⟨p, l, e, R, s, m, args, below, meth, c⟩ := B
  obtain ⟨rfl, rfl, hx, hZ, hown, hby, hml, hrt, hlk, hnm, hw⟩ := H
  intro T locs c1 s1 X F hc hs eT
  exact own_go (fun t q => XS.aconstNull X.here hx rfl (hb hby hd)  q) (k T locs c1 s1 X F hc hs eT)
theorem own_dup (H : own_Ok B Z a0 l R y code N ret) {x : Value} (hq : x.category = 1) (hd : decode code pc = .ok (.dup, 1)) (k : own_G B n0 Q kc ks cells slots h (pc + 1) Ls (x :: x :: st)) : own_G B n0 Q kc ks cells slots h pc Ls (x :: st) := by
  obtain ⟨p, l, e, R, s, m, args, below, meth, c⟩ := B
  obtain ⟨rfl, rfl, hx, hZ, hown, hby, hml, hrt, hlk, hnm, hw⟩ := H
  intro T locs c1 s1 X F hc hs eT
  exact own_go (fun t q => XS.dup X.here hx rfl (hb hby hd) rfl hq q) (k T locs c1 s1 X F hc hs eT)
theorem own_dup2 (H : own_Ok B Z a0 l R y code N ret) {x z : Value} (hq : x.category = 1) (hq' : z.category = 1) (hd : decode code pc = .ok (.dup2, 1)) (k : own_G B n0 Q kc ks cells slots h (pc + 1) Ls (x :: z :: x :: z :: st)) : own_G B n0 Q kc ks cells slots h pc Ls (x :: z :: st) := by
  obtain ⟨p, l, e, R, s, m, args, below, meth, c⟩ := B
  obtain ⟨rfl, rfl, hx, hZ, hown, hby, hml, hrt, hlk, hnm, hw⟩ := H
  intro T locs c1 s1 X F hc hs eT
  exact own_go (fun t q => XT.dup2 X.here hx rfl (hb hby hd) rfl hq hq' q) (k T locs c1 s1 X F hc hs eT)
theorem own_dup2L (H : own_Ok B Z a0 l R y code N ret) {x : Int64} (hd : decode code pc = .ok (.dup2, 1)) (k : own_G B n0 Q kc ks cells slots h (pc + 1) Ls (.long x :: .long x :: st)) : own_G B n0 Q kc ks cells slots h pc Ls (.long x :: st) := by
  obtain ⟨p, l, e, R, s, m, args, below, meth, c⟩ := B
  obtain ⟨rfl, rfl, hx, hZ, hown, hby, hml, hrt, hlk, hnm, hw⟩ := H
  intro T locs c1 s1 X F hc hs eT
  exact own_go (fun t q => XT.dup2L X.here hx rfl (hb hby hd) rfl q) (k T locs c1 s1 X F hc hs eT)
theorem own_dup_x1 (H : own_Ok B Z a0 l R y code N ret) {x z : Value} (hq : x.category = 1) (hq' : z.category = 1) (hd : decode code pc = .ok (.dup_x1, 1)) (k : own_G B n0 Q kc ks cells slots h (pc + 1) Ls (x :: z :: x :: st)) : own_G B n0 Q kc ks cells slots h pc Ls (x :: z :: st) := by
  obtain ⟨p, l, e, R, s, m, args, below, meth, c⟩ := B
  obtain ⟨rfl, rfl, hx, hZ, hown, hby, hml, hrt, hlk, hnm, hw⟩ := H
  intro T locs c1 s1 X F hc hs eT
  exact own_go (fun t q => XT.dupX1 X.here hx rfl (hb hby hd) rfl hq hq' q) (k T locs c1 s1 X F hc hs eT)
theorem own_pop (H : own_Ok B Z a0 l R y code N ret) {x : Value} (hq : x.category = 1) (hd : decode code pc = .ok (.pop, 1)) (k : own_G B n0 Q kc ks cells slots h (pc + 1) Ls st) : own_G B n0 Q kc ks cells slots h pc Ls (x :: st) := by
  obtain ⟨p, l, e, R, s, m, args, below, meth, c⟩ := B
  obtain ⟨rfl, rfl, hx, hZ, hown, hby, hml, hrt, hlk, hnm, hw⟩ := H
  intro T locs c1 s1 X F hc hs eT
  exact own_go (fun t q => XT.pop X.here hx rfl (hb hby hd) rfl hq q) (k T locs c1 s1 X F hc hs eT)
theorem own_iload_n (H : own_Ok B Z a0 l R y code N ret) {i : Fin 4} {v : Int32} (hl : Ls[i.val]? = some (.val (.int v))) (hd : decode code pc = .ok (.iload_n i, 1)) (k : own_G B n0 Q kc ks cells slots h (pc + 1) Ls (.int v :: st)) : own_G B n0 Q kc ks cells slots h pc Ls st := by
  obtain ⟨p, l, e, R, s, m, args, below, meth, c⟩ := B
  obtain ⟨rfl, rfl, hx, hZ, hown, hby, hml, hrt, hlk, hnm, hw⟩ := H
  intro T locs c1 s1 X F hc hs eT
  exact own_go (fun t q => XS.iloadN X.here hx rfl (hb hby hd) hl q) (k T locs c1 s1 X F hc hs eT)
theorem own_iload (H : own_Ok B Z a0 l R y code N ret) {i : Nat} {v : Int32} (hl : Ls[i]? = some (.val (.int v))) (hd : decode code pc = .ok (.iload i, 2)) (k : own_G B n0 Q kc ks cells slots h (pc + 2) Ls (.int v :: st)) : own_G B n0 Q kc ks cells slots h pc Ls st := by
  obtain ⟨p, l, e, R, s, m, args, below, meth, c⟩ := B
  obtain ⟨rfl, rfl, hx, hZ, hown, hby, hml, hrt, hlk, hnm, hw⟩ := H
  intro T locs c1 s1 X F hc hs eT
  exact own_go (fun t q => XS.iload X.here hx rfl (hb hby hd) hl q) (k T locs c1 s1 X F hc hs eT)
theorem own_lload_n (H : own_Ok B Z a0 l R y code N ret) {i : Fin 4} {v : Int64} (hl : Ls[i.val]? = some (.val (.long v))) (hd : decode code pc = .ok (.lload_n i, 1)) (k : own_G B n0 Q kc ks cells slots h (pc + 1) Ls (.long v :: st)) : own_G B n0 Q kc ks cells slots h pc Ls st := by
  obtain ⟨p, l, e, R, s, m, args, below, meth, c⟩ := B
  obtain ⟨rfl, rfl, hx, hZ, hown, hby, hml, hrt, hlk, hnm, hw⟩ := H
  intro T locs c1 s1 X F hc hs eT
  exact own_go (fun t q => XT.lloadN X.here hx rfl (hb hby hd) hl q) (k T locs c1 s1 X F hc hs eT)
theorem own_lload (H : own_Ok B Z a0 l R y code N ret) {i : Nat} {v : Int64} (hl : Ls[i]? = some (.val (.long v))) (hd : decode code pc = .ok (.lload i, 2)) (k : own_G B n0 Q kc ks cells slots h (pc + 2) Ls (.long v :: st)) : own_G B n0 Q kc ks cells slots h pc Ls st := by
  obtain ⟨p, l, e, R, s, m, args, below, meth, c⟩ := B
  obtain ⟨rfl, rfl, hx, hZ, hown, hby, hml, hrt, hlk, hnm, hw⟩ := H
  intro T locs c1 s1 X F hc hs eT
  exact own_go (fun t q => XT.lload X.here hx rfl (hb hby hd) hl q) (k T locs c1 s1 X F hc hs eT)
theorem own_aload_n (H : own_Ok B Z a0 l R y code N ret) {i : Fin 4} {v : Value} (hl : Ls[i.val]? = some (.val v)) (hv : v.isRef = true) (hd : decode code pc = .ok (.aload_n i, 1)) (k : own_G B n0 Q kc ks cells slots h (pc + 1) Ls (v :: st)) : own_G B n0 Q kc ks cells slots h pc Ls st := by
  obtain ⟨p, l, e, R, s, m, args, below, meth, c⟩ := B
  obtain ⟨rfl, rfl, hx, hZ, hown, hby, hml, hrt, hlk, hnm, hw⟩ := H
  intro T locs c1 s1 X F hc hs eT
  exact own_go (fun t q => XS.aloadN X.here hx rfl (hb hby hd) hl hv q) (k T locs c1 s1 X F hc hs eT)
theorem own_aload (H : own_Ok B Z a0 l R y code N ret) {i : Nat} {v : Value} (hl : Ls[i]? = some (.val v)) (hv : v.isRef = true) (hd : decode code pc = .ok (.aload i, 2)) (k : own_G B n0 Q kc ks cells slots h (pc + 2) Ls (v :: st)) : own_G B n0 Q kc ks cells slots h pc Ls st := by
  obtain ⟨p, l, e, R, s, m, args, below, meth, c⟩ := B
  obtain ⟨rfl, rfl, hx, hZ, hown, hby, hml, hrt, hlk, hnm, hw⟩ := H
  intro T locs c1 s1 X F hc hs eT
  exact own_go (fun t q => XS.aload X.here hx rfl (hb hby hd) hl hv q) (k T locs c1 s1 X F hc hs eT)
theorem own_istore_n (H : own_Ok B Z a0 l R y code N ret) {i : Fin 4} {x : Int32} (Ls' : Array Slot) (hl : storeLocals Ls i.val (.int x) = some Ls') (hd : decode code pc = .ok (.istore_n i, 1)) (k : own_G B n0 Q kc ks cells slots h (pc + 1) Ls' st) : own_G B n0 Q kc ks cells slots h pc Ls (.int x :: st) := by
  obtain ⟨p, l, e, R, s, m, args, below, meth, c⟩ := B
  obtain ⟨rfl, rfl, hx, hZ, hown, hby, hml, hrt, hlk, hnm, hw⟩ := H
  intro T locs c1 s1 X F hc hs eT
  exact own_go (fun t q => XS.istoreN X.here hx rfl (hb hby hd) rfl hl q) (k T locs c1 s1 X F hc hs eT)
theorem own_istore (H : own_Ok B Z a0 l R y code N ret) {i : Nat} {x : Int32} (Ls' : Array Slot) (hl : storeLocals Ls i (.int x) = some Ls') (hd : decode code pc = .ok (.istore i, 2)) (k : own_G B n0 Q kc ks cells slots h (pc + 2) Ls' st) : own_G B n0 Q kc ks cells slots h pc Ls (.int x :: st) := by
  obtain ⟨p, l, e, R, s, m, args, below, meth, c⟩ := B
  obtain ⟨rfl, rfl, hx, hZ, hown, hby, hml, hrt, hlk, hnm, hw⟩ := H
  intro T locs c1 s1 X F hc hs eT
  exact own_go (fun t q => XS.istore X.here hx rfl (hb hby hd) rfl hl q) (k T locs c1 s1 X F hc hs eT)
theorem own_lstore_n (H : own_Ok B Z a0 l R y code N ret) {i : Fin 4} {x : Int64} (Ls' : Array Slot) (hl : storeLocals Ls i.val (.long x) = some Ls') (hd : decode code pc = .ok (.lstore_n i, 1)) (k : own_G B n0 Q kc ks cells slots h (pc + 1) Ls' st) : own_G B n0 Q kc ks cells slots h pc Ls (.long x :: st) := by
  obtain ⟨p, l, e, R, s, m, args, below, meth, c⟩ := B
  obtain ⟨rfl, rfl, hx, hZ, hown, hby, hml, hrt, hlk, hnm, hw⟩ := H
  intro T locs c1 s1 X F hc hs eT
  exact own_go (fun t q => XT.lstoreN X.here hx rfl (hb hby hd) rfl hl q) (k T locs c1 s1 X F hc hs eT)
theorem own_lstore (H : own_Ok B Z a0 l R y code N ret) {i : Nat} {x : Int64} (Ls' : Array Slot) (hl : storeLocals Ls i (.long x) = some Ls') (hd : decode code pc = .ok (.lstore i, 2)) (k : own_G B n0 Q kc ks cells slots h (pc + 2) Ls' st) : own_G B n0 Q kc ks cells slots h pc Ls (.long x :: st) := by
  obtain ⟨p, l, e, R, s, m, args, below, meth, c⟩ := B
  obtain ⟨rfl, rfl, hx, hZ, hown, hby, hml, hrt, hlk, hnm, hw⟩ := H
  intro T locs c1 s1 X F hc hs eT
  exact own_go (fun t q => XT.lstore X.here hx rfl (hb hby hd) rfl hl q) (k T locs c1 s1 X F hc hs eT)
theorem own_astore_n (H : own_Ok B Z a0 l R y code N ret) {i : Fin 4} {x : Value} (hv : x.isRef = true) (Ls' : Array Slot) (hl : storeLocals Ls i.val x = some Ls') (hd : decode code pc = .ok (.astore_n i, 1)) (k : own_G B n0 Q kc ks cells slots h (pc + 1) Ls' st) : own_G B n0 Q kc ks cells slots h pc Ls (x :: st) := by
  obtain ⟨p, l, e, R, s, m, args, below, meth, c⟩ := B
  obtain ⟨rfl, rfl, hx, hZ, hown, hby, hml, hrt, hlk, hnm, hw⟩ := H
  intro T locs c1 s1 X F hc hs eT
  exact own_go (fun t q => XS.astoreN X.here hx rfl (hb hby hd) rfl hv hl q) (k T locs c1 s1 X F hc hs eT)
theorem own_astore (H : own_Ok B Z a0 l R y code N ret) {i : Nat} {x : Value} (hv : x.isRef = true) (Ls' : Array Slot) (hl : storeLocals Ls i x = some Ls') (hd : decode code pc = .ok (.astore i, 2)) (k : own_G B n0 Q kc ks cells slots h (pc + 2) Ls' st) : own_G B n0 Q kc ks cells slots h pc Ls (x :: st) := by
  obtain ⟨p, l, e, R, s, m, args, below, meth, c⟩ := B
  obtain ⟨rfl, rfl, hx, hZ, hown, hby, hml, hrt, hlk, hnm, hw⟩ := H
  intro T locs c1 s1 X F hc hs eT
  exact own_go (fun t q => XS.astore X.here hx rfl (hb hby hd) rfl hv hl q) (k T locs c1 s1 X F hc hs eT)
theorem own_iinc (H : own_Ok B Z a0 l R y code N ret) {i : Nat} {cst : Int} {x u : Int32} (v : Int32) (hv : Int32.ofInt cst = v) (hl : Ls[i]? = some (.val (.int x))) (hu : x + v = u) (Ls' : Array Slot) (hl' : storeLocals Ls i (.int u) = some Ls') (hd : decode code pc = .ok (.iinc i cst, 3)) (k : own_G B n0 Q kc ks cells slots h (pc + 3) Ls' st) : own_G B n0 Q kc ks cells slots h pc Ls st := by
  subst hu
  obtain ⟨p, l, e, R, s, m, args, below, meth, c⟩ := B
  obtain ⟨rfl, rfl, hx, hZ, hown, hby, hml, hrt, hlk, hnm, hw⟩ := H
  intro T locs c1 s1 X F hc hs eT
  exact own_go (fun t q => XT.iincV X.here hx rfl v (hb hby hd) hv hl hl' q) (k T locs c1 s1 X F hc hs eT)
theorem own_goto (H : own_Ok B Z a0 l R y code N ret) {o : Int} (hd : decode code pc = .ok (.goto o, 3)) (ho : 0 ≤ (pc : Int) + o) (hp : ((pc : Int) + o).toNat = pc') (k : own_G B n0 Q kc ks cells slots h pc' Ls st) : own_G B n0 Q kc ks cells slots h pc Ls st := by
  obtain ⟨p, l, e, R, s, m, args, below, meth, c⟩ := B
  obtain ⟨rfl, rfl, hx, hZ, hown, hby, hml, hrt, hlk, hnm, hw⟩ := H
  intro T locs c1 s1 X F hc hs eT
  exact own_go (fun t q => XS.goto X.here hx rfl rfl (hb hby hd) ho hp q) (k T locs c1 s1 X F hc hs eT)
theorem own_ifeq_t (H : own_Ok B Z a0 l R y code N ret) {x : Int32} {o : Int} (hd : decode code pc = .ok (.ifCond .eq o, 3)) (ho : 0 ≤ (pc : Int) + o) (hp : ((pc : Int) + o).toNat = pc') (hq : x = 0) (k : own_G B n0 Q kc ks cells slots h pc' Ls st) : own_G B n0 Q kc ks cells slots h pc Ls (.int x :: st) := by
  obtain ⟨p, l, e, R, s, m, args, below, meth, c⟩ := B
  obtain ⟨rfl, rfl, hx, hZ, hown, hby, hml, hrt, hlk, hnm, hw⟩ := H
  intro T locs c1 s1 X F hc hs eT
  exact own_go (fun t q => XS.ifYes X.here hx rfl rfl (hb hby hd) rfl (XT.i0_eq_t hq) ho hp q) (k T locs c1 s1 X F hc hs eT)
theorem own_ifeq_f (H : own_Ok B Z a0 l R y code N ret) {x : Int32} {o : Int} (hd : decode code pc = .ok (.ifCond .eq o, 3)) (hq : ¬ x = 0) (k : own_G B n0 Q kc ks cells slots h (pc + 3) Ls st) : own_G B n0 Q kc ks cells slots h pc Ls (.int x :: st) := by
  obtain ⟨p, l, e, R, s, m, args, below, meth, c⟩ := B
  obtain ⟨rfl, rfl, hx, hZ, hown, hby, hml, hrt, hlk, hnm, hw⟩ := H
  intro T locs c1 s1 X F hc hs eT
  exact own_go (fun t q => XS.ifNo X.here hx rfl (hb hby hd) rfl (XT.i0_eq_f hq) q) (k T locs c1 s1 X F hc hs eT)
theorem own_icmpeq_t (H : own_Ok B Z a0 l R y code N ret) {x z : Int32} {o : Int} (hd : decode code pc = .ok (.if_icmp .eq o, 3)) (ho : 0 ≤ (pc : Int) + o) (hp : ((pc : Int) + o).toNat = pc') (hq : x = z) (k : own_G B n0 Q kc ks cells slots h pc' Ls st) : own_G B n0 Q kc ks cells slots h pc Ls (.int z :: .int x :: st) := by
  obtain ⟨p, l, e, R, s, m, args, below, meth, c⟩ := B
  obtain ⟨rfl, rfl, hx, hZ, hown, hby, hml, hrt, hlk, hnm, hw⟩ := H
  intro T locs c1 s1 X F hc hs eT
  exact own_go (fun t q => XS.icmpYes X.here hx rfl rfl (hb hby hd) rfl (XT.ii_eq_t hq) ho hp q) (k T locs c1 s1 X F hc hs eT)
theorem own_icmpeq_f (H : own_Ok B Z a0 l R y code N ret) {x z : Int32} {o : Int} (hd : decode code pc = .ok (.if_icmp .eq o, 3)) (hq : ¬ x = z) (k : own_G B n0 Q kc ks cells slots h (pc + 3) Ls st) : own_G B n0 Q kc ks cells slots h pc Ls (.int z :: .int x :: st) := by
  obtain ⟨p, l, e, R, s, m, args, below, meth, c⟩ := B
  obtain ⟨rfl, rfl, hx, hZ, hown, hby, hml, hrt, hlk, hnm, hw⟩ := H
  intro T locs c1 s1 X F hc hs eT
  exact own_go (fun t q => XS.icmpNo X.here hx rfl (hb hby hd) rfl (XT.ii_eq_f hq) q) (k T locs c1 s1 X F hc hs eT)
theorem own_lcmpeq_t (H : own_Ok B Z a0 l R y code N ret) {x z : Int64} {o : Int} (hd0 : decode code pc = .ok (.lcmp, 1)) (hd : decode code (pc + 1) = .ok (.ifCond .eq o, 3)) (ho : 0 ≤ ((pc + 1 : Nat) : Int) + o) (hp : (((pc + 1 : Nat) : Int) + o).toNat = pc') (hq : x = z) (k : own_G B n0 Q kc ks cells slots h pc' Ls st) : own_G B n0 Q kc ks cells slots h pc Ls (.long z :: .long x :: st) := by
  obtain ⟨p, l, e, R, s, m, args, below, meth, c⟩ := B
  obtain ⟨rfl, rfl, hx, hZ, hown, hby, hml, hrt, hlk, hnm, hw⟩ := H
  intro T locs c1 s1 X F hc hs eT
  exact own_go (fun t q => XT.lcmp X.here hx rfl (hb hby hd0) rfl (XS.ifYes X.here hx rfl rfl (hb hby hd) rfl (XT.ll_eq_t hq) ho hp q)) (k T locs c1 s1 X F hc hs eT)
theorem own_lcmpeq_f (H : own_Ok B Z a0 l R y code N ret) {x z : Int64} {o : Int} (hd0 : decode code pc = .ok (.lcmp, 1)) (hd : decode code (pc + 1) = .ok (.ifCond .eq o, 3)) (hq : ¬ x = z) (k : own_G B n0 Q kc ks cells slots h (pc + 4) Ls st) : own_G B n0 Q kc ks cells slots h pc Ls (.long z :: .long x :: st) := by
  obtain ⟨p, l, e, R, s, m, args, below, meth, c⟩ := B
  obtain ⟨rfl, rfl, hx, hZ, hown, hby, hml, hrt, hlk, hnm, hw⟩ := H
  intro T locs c1 s1 X F hc hs eT
  exact own_go (fun t q => XT.lcmp X.here hx rfl (hb hby hd0) rfl (XS.ifNo X.here hx rfl (hb hby hd) rfl (XT.ll_eq_f hq) q)) (k T locs c1 s1 X F hc hs eT)
theorem own_ifne_t (H : own_Ok B Z a0 l R y code N ret) {x : Int32} {o : Int} (hd : decode code pc = .ok (.ifCond .ne o, 3)) (ho : 0 ≤ (pc : Int) + o) (hp : ((pc : Int) + o).toNat = pc') (hq : ¬ x = 0) (k : own_G B n0 Q kc ks cells slots h pc' Ls st) : own_G B n0 Q kc ks cells slots h pc Ls (.int x :: st) := by
  obtain ⟨p, l, e, R, s, m, args, below, meth, c⟩ := B
  obtain ⟨rfl, rfl, hx, hZ, hown, hby, hml, hrt, hlk, hnm, hw⟩ := H
  intro T locs c1 s1 X F hc hs eT
  exact own_go (fun t q => XS.ifYes X.here hx rfl rfl (hb hby hd) rfl (XT.i0_ne_t hq) ho hp q) (k T locs c1 s1 X F hc hs eT)
theorem own_ifne_f (H : own_Ok B Z a0 l R y code N ret) {x : Int32} {o : Int} (hd : decode code pc = .ok (.ifCond .ne o, 3)) (hq : x = 0) (k : own_G B n0 Q kc ks cells slots h (pc + 3) Ls st) : own_G B n0 Q kc ks cells slots h pc Ls (.int x :: st) := by
  obtain ⟨p, l, e, R, s, m, args, below, meth, c⟩ := B
  obtain ⟨rfl, rfl, hx, hZ, hown, hby, hml, hrt, hlk, hnm, hw⟩ := H
  intro T locs c1 s1 X F hc hs eT
  exact own_go (fun t q => XS.ifNo X.here hx rfl (hb hby hd) rfl (XT.i0_ne_f hq) q) (k T locs c1 s1 X F hc hs eT)
theorem own_icmpne_t (H : own_Ok B Z a0 l R y code N ret) {x z : Int32} {o : Int} (hd : decode code pc = .ok (.if_icmp .ne o, 3)) (ho : 0 ≤ (pc : Int) + o) (hp : ((pc : Int) + o).toNat = pc') (hq : ¬ x = z) (k : own_G B n0 Q kc ks cells slots h pc' Ls st) : own_G B n0 Q kc ks cells slots h pc Ls (.int z :: .int x :: st) := by
  obtain ⟨p, l, e, R, s, m, args, below, meth, c⟩ := B
  obtain ⟨rfl, rfl, hx, hZ, hown, hby, hml, hrt, hlk, hnm, hw⟩ := H
  intro T locs c1 s1 X F hc hs eT
  exact own_go (fun t q => XS.icmpYes X.here hx rfl rfl (hb hby hd) rfl (XT.ii_ne_t hq) ho hp q) (k T locs c1 s1 X F hc hs eT)
theorem own_icmpne_f (H : own_Ok B Z a0 l R y code N ret) {x z : Int32} {o : Int} (hd : decode code pc = .ok (.if_icmp .ne o, 3)) (hq : x = z) (k : own_G B n0 Q kc ks cells slots h (pc + 3) Ls st) : own_G B n0 Q kc ks cells slots h pc Ls (.int z :: .int x :: st) := by
  obtain ⟨p, l, e, R, s, m, args, below, meth, c⟩ := B
  obtain ⟨rfl, rfl, hx, hZ, hown, hby, hml, hrt, hlk, hnm, hw⟩ := H
  intro T locs c1 s1 X F hc hs eT
  exact own_go (fun t q => XS.icmpNo X.here hx rfl (hb hby hd) rfl (XT.ii_ne_f hq) q) (k T locs c1 s1 X F hc hs eT)
theorem own_lcmpne_t (H : own_Ok B Z a0 l R y code N ret) {x z : Int64} {o : Int} (hd0 : decode code pc = .ok (.lcmp, 1)) (hd : decode code (pc + 1) = .ok (.ifCond .ne o, 3)) (ho : 0 ≤ ((pc + 1 : Nat) : Int) + o) (hp : (((pc + 1 : Nat) : Int) + o).toNat = pc') (hq : ¬ x = z) (k : own_G B n0 Q kc ks cells slots h pc' Ls st) : own_G B n0 Q kc ks cells slots h pc Ls (.long z :: .long x :: st) := by
  obtain ⟨p, l, e, R, s, m, args, below, meth, c⟩ := B
  obtain ⟨rfl, rfl, hx, hZ, hown, hby, hml, hrt, hlk, hnm, hw⟩ := H
  intro T locs c1 s1 X F hc hs eT
  exact own_go (fun t q => XT.lcmp X.here hx rfl (hb hby hd0) rfl (XS.ifYes X.here hx rfl rfl (hb hby hd) rfl (XT.ll_ne_t hq) ho hp q)) (k T locs c1 s1 X F hc hs eT)
theorem own_lcmpne_f (H : own_Ok B Z a0 l R y code N ret) {x z : Int64} {o : Int} (hd0 : decode code pc = .ok (.lcmp, 1)) (hd : decode code (pc + 1) = .ok (.ifCond .ne o, 3)) (hq : x = z) (k : own_G B n0 Q kc ks cells slots h (pc + 4) Ls st) : own_G B n0 Q kc ks cells slots h pc Ls (.long z :: .long x :: st) := by
  obtain ⟨p, l, e, R, s, m, args, below, meth, c⟩ := B
  obtain ⟨rfl, rfl, hx, hZ, hown, hby, hml, hrt, hlk, hnm, hw⟩ := H
  intro T locs c1 s1 X F hc hs eT
  exact own_go (fun t q => XT.lcmp X.here hx rfl (hb hby hd0) rfl (XS.ifNo X.here hx rfl (hb hby hd) rfl (XT.ll_ne_f hq) q)) (k T locs c1 s1 X F hc hs eT)
theorem own_iflt_t (H : own_Ok B Z a0 l R y code N ret) {x : Int32} {o : Int} (hd : decode code pc = .ok (.ifCond .lt o, 3)) (ho : 0 ≤ (pc : Int) + o) (hp : ((pc : Int) + o).toNat = pc') (hq : x < 0) (k : own_G B n0 Q kc ks cells slots h pc' Ls st) : own_G B n0 Q kc ks cells slots h pc Ls (.int x :: st) := by
  obtain ⟨p, l, e, R, s, m, args, below, meth, c⟩ := B
  obtain ⟨rfl, rfl, hx, hZ, hown, hby, hml, hrt, hlk, hnm, hw⟩ := H
  intro T locs c1 s1 X F hc hs eT
  exact own_go (fun t q => XS.ifYes X.here hx rfl rfl (hb hby hd) rfl (XT.i0_lt_t hq) ho hp q) (k T locs c1 s1 X F hc hs eT)
theorem own_iflt_f (H : own_Ok B Z a0 l R y code N ret) {x : Int32} {o : Int} (hd : decode code pc = .ok (.ifCond .lt o, 3)) (hq : ¬ x < 0) (k : own_G B n0 Q kc ks cells slots h (pc + 3) Ls st) : own_G B n0 Q kc ks cells slots h pc Ls (.int x :: st) := by
  obtain ⟨p, l, e, R, s, m, args, below, meth, c⟩ := B
  obtain ⟨rfl, rfl, hx, hZ, hown, hby, hml, hrt, hlk, hnm, hw⟩ := H
  intro T locs c1 s1 X F hc hs eT
  exact own_go (fun t q => XS.ifNo X.here hx rfl (hb hby hd) rfl (XT.i0_lt_f hq) q) (k T locs c1 s1 X F hc hs eT)
theorem own_icmplt_t (H : own_Ok B Z a0 l R y code N ret) {x z : Int32} {o : Int} (hd : decode code pc = .ok (.if_icmp .lt o, 3)) (ho : 0 ≤ (pc : Int) + o) (hp : ((pc : Int) + o).toNat = pc') (hq : x < z) (k : own_G B n0 Q kc ks cells slots h pc' Ls st) : own_G B n0 Q kc ks cells slots h pc Ls (.int z :: .int x :: st) := by
  obtain ⟨p, l, e, R, s, m, args, below, meth, c⟩ := B
  obtain ⟨rfl, rfl, hx, hZ, hown, hby, hml, hrt, hlk, hnm, hw⟩ := H
  intro T locs c1 s1 X F hc hs eT
  exact own_go (fun t q => XS.icmpYes X.here hx rfl rfl (hb hby hd) rfl (XT.ii_lt_t hq) ho hp q) (k T locs c1 s1 X F hc hs eT)
theorem own_icmplt_f (H : own_Ok B Z a0 l R y code N ret) {x z : Int32} {o : Int} (hd : decode code pc = .ok (.if_icmp .lt o, 3)) (hq : ¬ x < z) (k : own_G B n0 Q kc ks cells slots h (pc + 3) Ls st) : own_G B n0 Q kc ks cells slots h pc Ls (.int z :: .int x :: st) := by
  obtain ⟨p, l, e, R, s, m, args, below, meth, c⟩ := B
  obtain ⟨rfl, rfl, hx, hZ, hown, hby, hml, hrt, hlk, hnm, hw⟩ := H
  intro T locs c1 s1 X F hc hs eT
  exact own_go (fun t q => XS.icmpNo X.here hx rfl (hb hby hd) rfl (XT.ii_lt_f hq) q) (k T locs c1 s1 X F hc hs eT)
theorem own_lcmplt_t (H : own_Ok B Z a0 l R y code N ret) {x z : Int64} {o : Int} (hd0 : decode code pc = .ok (.lcmp, 1)) (hd : decode code (pc + 1) = .ok (.ifCond .lt o, 3)) (ho : 0 ≤ ((pc + 1 : Nat) : Int) + o) (hp : (((pc + 1 : Nat) : Int) + o).toNat = pc') (hq : x < z) (k : own_G B n0 Q kc ks cells slots h pc' Ls st) : own_G B n0 Q kc ks cells slots h pc Ls (.long z :: .long x :: st) := by
  obtain ⟨p, l, e, R, s, m, args, below, meth, c⟩ := B
  obtain ⟨rfl, rfl, hx, hZ, hown, hby, hml, hrt, hlk, hnm, hw⟩ := H
  intro T locs c1 s1 X F hc hs eT
  exact own_go (fun t q => XT.lcmp X.here hx rfl (hb hby hd0) rfl (XS.ifYes X.here hx rfl rfl (hb hby hd) rfl (XT.ll_lt_t hq) ho hp q)) (k T locs c1 s1 X F hc hs eT)
theorem own_lcmplt_f (H : own_Ok B Z a0 l R y code N ret) {x z : Int64} {o : Int} (hd0 : decode code pc = .ok (.lcmp, 1)) (hd : decode code (pc + 1) = .ok (.ifCond .lt o, 3)) (hq : ¬ x < z) (k : own_G B n0 Q kc ks cells slots h (pc + 4) Ls st) : own_G B n0 Q kc ks cells slots h pc Ls (.long z :: .long x :: st) := by
  obtain ⟨p, l, e, R, s, m, args, below, meth, c⟩ := B
  obtain ⟨rfl, rfl, hx, hZ, hown, hby, hml, hrt, hlk, hnm, hw⟩ := H
  intro T locs c1 s1 X F hc hs eT
  exact own_go (fun t q => XT.lcmp X.here hx rfl (hb hby hd0) rfl (XS.ifNo X.here hx rfl (hb hby hd) rfl (XT.ll_lt_f hq) q)) (k T locs c1 s1 X F hc hs eT)
theorem own_ifge_t (H : own_Ok B Z a0 l R y code N ret) {x : Int32} {o : Int} (hd : decode code pc = .ok (.ifCond .ge o, 3)) (ho : 0 ≤ (pc : Int) + o) (hp : ((pc : Int) + o).toNat = pc') (hq : ¬ x < 0) (k : own_G B n0 Q kc ks cells slots h pc' Ls st) : own_G B n0 Q kc ks cells slots h pc Ls (.int x :: st) := by
  obtain ⟨p, l, e, R, s, m, args, below, meth, c⟩ := B
  obtain ⟨rfl, rfl, hx, hZ, hown, hby, hml, hrt, hlk, hnm, hw⟩ := H
  intro T locs c1 s1 X F hc hs eT
  exact own_go (fun t q => XS.ifYes X.here hx rfl rfl (hb hby hd) rfl (XT.i0_ge_t hq) ho hp q) (k T locs c1 s1 X F hc hs eT)
theorem own_ifge_f (H : own_Ok B Z a0 l R y code N ret) {x : Int32} {o : Int} (hd : decode code pc = .ok (.ifCond .ge o, 3)) (hq : x < 0) (k : own_G B n0 Q kc ks cells slots h (pc + 3) Ls st) : own_G B n0 Q kc ks cells slots h pc Ls (.int x :: st) := by
  obtain ⟨p, l, e, R, s, m, args, below, meth, c⟩ := B
  obtain ⟨rfl, rfl, hx, hZ, hown, hby, hml, hrt, hlk, hnm, hw⟩ := H
  intro T locs c1 s1 X F hc hs eT
  exact own_go (fun t q => XS.ifNo X.here hx rfl (hb hby hd) rfl (XT.i0_ge_f hq) q) (k T locs c1 s1 X F hc hs eT)
theorem own_icmpge_t (H : own_Ok B Z a0 l R y code N ret) {x z : Int32} {o : Int} (hd : decode code pc = .ok (.if_icmp .ge o, 3)) (ho : 0 ≤ (pc : Int) + o) (hp : ((pc : Int) + o).toNat = pc') (hq : ¬ x < z) (k : own_G B n0 Q kc ks cells slots h pc' Ls st) : own_G B n0 Q kc ks cells slots h pc Ls (.int z :: .int x :: st) := by
  obtain ⟨p, l, e, R, s, m, args, below, meth, c⟩ := B
  obtain ⟨rfl, rfl, hx, hZ, hown, hby, hml, hrt, hlk, hnm, hw⟩ := H
  intro T locs c1 s1 X F hc hs eT
  exact own_go (fun t q => XS.icmpYes X.here hx rfl rfl (hb hby hd) rfl (XT.ii_ge_t hq) ho hp q) (k T locs c1 s1 X F hc hs eT)
theorem own_icmpge_f (H : own_Ok B Z a0 l R y code N ret) {x z : Int32} {o : Int} (hd : decode code pc = .ok (.if_icmp .ge o, 3)) (hq : x < z) (k : own_G B n0 Q kc ks cells slots h (pc + 3) Ls st) : own_G B n0 Q kc ks cells slots h pc Ls (.int z :: .int x :: st) := by
  obtain ⟨p, l, e, R, s, m, args, below, meth, c⟩ := B
  obtain ⟨rfl, rfl, hx, hZ, hown, hby, hml, hrt, hlk, hnm, hw⟩ := H
  intro T locs c1 s1 X F hc hs eT
  exact own_go (fun t q => XS.icmpNo X.here hx rfl (hb hby hd) rfl (XT.ii_ge_f hq) q) (k T locs c1 s1 X F hc hs eT)
theorem own_lcmpge_t (H : own_Ok B Z a0 l R y code N ret) {x z : Int64} {o : Int} (hd0 : decode code pc = .ok (.lcmp, 1)) (hd : decode code (pc + 1) = .ok (.ifCond .ge o, 3)) (ho : 0 ≤ ((pc + 1 : Nat) : Int) + o) (hp : (((pc + 1 : Nat) : Int) + o).toNat = pc') (hq : ¬ x < z) (k : own_G B n0 Q kc ks cells slots h pc' Ls st) : own_G B n0 Q kc ks cells slots h pc Ls (.long z :: .long x :: st) := by
  obtain ⟨p, l, e, R, s, m, args, below, meth, c⟩ := B
  obtain ⟨rfl, rfl, hx, hZ, hown, hby, hml, hrt, hlk, hnm, hw⟩ := H
  intro T locs c1 s1 X F hc hs eT
  exact own_go (fun t q => XT.lcmp X.here hx rfl (hb hby hd0) rfl (XS.ifYes X.here hx rfl rfl (hb hby hd) rfl (XT.ll_ge_t hq) ho hp q)) (k T locs c1 s1 X F hc hs eT)
theorem own_lcmpge_f (H : own_Ok B Z a0 l R y code N ret) {x z : Int64} {o : Int} (hd0 : decode code pc = .ok (.lcmp, 1)) (hd : decode code (pc + 1) = .ok (.ifCond .ge o, 3)) (hq : x < z) (k : own_G B n0 Q kc ks cells slots h (pc + 4) Ls st) : own_G B n0 Q kc ks cells slots h pc Ls (.long z :: .long x :: st) := by
  obtain ⟨p, l, e, R, s, m, args, below, meth, c⟩ := B
  obtain ⟨rfl, rfl, hx, hZ, hown, hby, hml, hrt, hlk, hnm, hw⟩ := H
  intro T locs c1 s1 X F hc hs eT
  exact own_go (fun t q => XT.lcmp X.here hx rfl (hb hby hd0) rfl (XS.ifNo X.here hx rfl (hb hby hd) rfl (XT.ll_ge_f hq) q)) (k T locs c1 s1 X F hc hs eT)
theorem own_ifgt_t (H : own_Ok B Z a0 l R y code N ret) {x : Int32} {o : Int} (hd : decode code pc = .ok (.ifCond .gt o, 3)) (ho : 0 ≤ (pc : Int) + o) (hp : ((pc : Int) + o).toNat = pc') (hq : 0 < x) (k : own_G B n0 Q kc ks cells slots h pc' Ls st) : own_G B n0 Q kc ks cells slots h pc Ls (.int x :: st) := by
  obtain ⟨p, l, e, R, s, m, args, below, meth, c⟩ := B
  obtain ⟨rfl, rfl, hx, hZ, hown, hby, hml, hrt, hlk, hnm, hw⟩ := H
  intro T locs c1 s1 X F hc hs eT
  exact own_go (fun t q => XS.ifYes X.here hx rfl rfl (hb hby hd) rfl (XT.i0_gt_t hq) ho hp q) (k T locs c1 s1 X F hc hs eT)
theorem own_ifgt_f (H : own_Ok B Z a0 l R y code N ret) {x : Int32} {o : Int} (hd : decode code pc = .ok (.ifCond .gt o, 3)) (hq : ¬ 0 < x) (k : own_G B n0 Q kc ks cells slots h (pc + 3) Ls st) : own_G B n0 Q kc ks cells slots h pc Ls (.int x :: st) := by
  obtain ⟨p, l, e, R, s, m, args, below, meth, c⟩ := B
  obtain ⟨rfl, rfl, hx, hZ, hown, hby, hml, hrt, hlk, hnm, hw⟩ := H
  intro T locs c1 s1 X F hc hs eT
  exact own_go (fun t q => XS.ifNo X.here hx rfl (hb hby hd) rfl (XT.i0_gt_f hq) q) (k T locs c1 s1 X F hc hs eT)
theorem own_icmpgt_t (H : own_Ok B Z a0 l R y code N ret) {x z : Int32} {o : Int} (hd : decode code pc = .ok (.if_icmp .gt o, 3)) (ho : 0 ≤ (pc : Int) + o) (hp : ((pc : Int) + o).toNat = pc') (hq : z < x) (k : own_G B n0 Q kc ks cells slots h pc' Ls st) : own_G B n0 Q kc ks cells slots h pc Ls (.int z :: .int x :: st) := by
  obtain ⟨p, l, e, R, s, m, args, below, meth, c⟩ := B
  obtain ⟨rfl, rfl, hx, hZ, hown, hby, hml, hrt, hlk, hnm, hw⟩ := H
  intro T locs c1 s1 X F hc hs eT
  exact own_go (fun t q => XS.icmpYes X.here hx rfl rfl (hb hby hd) rfl (XT.ii_gt_t hq) ho hp q) (k T locs c1 s1 X F hc hs eT)
theorem own_icmpgt_f (H : own_Ok B Z a0 l R y code N ret) {x z : Int32} {o : Int} (hd : decode code pc = .ok (.if_icmp .gt o, 3)) (hq : ¬ z < x) (k : own_G B n0 Q kc ks cells slots h (pc + 3) Ls st) : own_G B n0 Q kc ks cells slots h pc Ls (.int z :: .int x :: st) := by
  obtain ⟨p, l, e, R, s, m, args, below, meth, c⟩ := B
  obtain ⟨rfl, rfl, hx, hZ, hown, hby, hml, hrt, hlk, hnm, hw⟩ := H
  intro T locs c1 s1 X F hc hs eT
  exact own_go (fun t q => XS.icmpNo X.here hx rfl (hb hby hd) rfl (XT.ii_gt_f hq) q) (k T locs c1 s1 X F hc hs eT)
theorem own_lcmpgt_t (H : own_Ok B Z a0 l R y code N ret) {x z : Int64} {o : Int} (hd0 : decode code pc = .ok (.lcmp, 1)) (hd : decode code (pc + 1) = .ok (.ifCond .gt o, 3)) (ho : 0 ≤ ((pc + 1 : Nat) : Int) + o) (hp : (((pc + 1 : Nat) : Int) + o).toNat = pc') (hq : z < x) (k : own_G B n0 Q kc ks cells slots h pc' Ls st) : own_G B n0 Q kc ks cells slots h pc Ls (.long z :: .long x :: st) := by
  obtain ⟨p, l, e, R, s, m, args, below, meth, c⟩ := B
  obtain ⟨rfl, rfl, hx, hZ, hown, hby, hml, hrt, hlk, hnm, hw⟩ := H
  intro T locs c1 s1 X F hc hs eT
  exact own_go (fun t q => XT.lcmp X.here hx rfl (hb hby hd0) rfl (XS.ifYes X.here hx rfl rfl (hb hby hd) rfl (XT.ll_gt_t hq) ho hp q)) (k T locs c1 s1 X F hc hs eT)
theorem own_lcmpgt_f (H : own_Ok B Z a0 l R y code N ret) {x z : Int64} {o : Int} (hd0 : decode code pc = .ok (.lcmp, 1)) (hd : decode code (pc + 1) = .ok (.ifCond .gt o, 3)) (hq : ¬ z < x) (k : own_G B n0 Q kc ks cells slots h (pc + 4) Ls st) : own_G B n0 Q kc ks cells slots h pc Ls (.long z :: .long x :: st) := by
  obtain ⟨p, l, e, R, s, m, args, below, meth, c⟩ := B
  obtain ⟨rfl, rfl, hx, hZ, hown, hby, hml, hrt, hlk, hnm, hw⟩ := H
  intro T locs c1 s1 X F hc hs eT
  exact own_go (fun t q => XT.lcmp X.here hx rfl (hb hby hd0) rfl (XS.ifNo X.here hx rfl (hb hby hd) rfl (XT.ll_gt_f hq) q)) (k T locs c1 s1 X F hc hs eT)
theorem own_ifle_t (H : own_Ok B Z a0 l R y code N ret) {x : Int32} {o : Int} (hd : decode code pc = .ok (.ifCond .le o, 3)) (ho : 0 ≤ (pc : Int) + o) (hp : ((pc : Int) + o).toNat = pc') (hq : ¬ 0 < x) (k : own_G B n0 Q kc ks cells slots h pc' Ls st) : own_G B n0 Q kc ks cells slots h pc Ls (.int x :: st) := by
  obtain ⟨p, l, e, R, s, m, args, below, meth, c⟩ := B
  obtain ⟨rfl, rfl, hx, hZ, hown, hby, hml, hrt, hlk, hnm, hw⟩ := H
  intro T locs c1 s1 X F hc hs eT
  exact own_go (fun t q => XS.ifYes X.here hx rfl rfl (hb hby hd) rfl (XT.i0_le_t hq) ho hp q) (k T locs c1 s1 X F hc hs eT)
theorem own_ifle_f (H : own_Ok B Z a0 l R y code N ret) {x : Int32} {o : Int} (hd : decode code pc = .ok (.ifCond .le o, 3)) (hq : 0 < x) (k : own_G B n0 Q kc ks cells slots h (pc + 3) Ls st) : own_G B n0 Q kc ks cells slots h pc Ls (.int x :: st) := by
  obtain ⟨p, l, e, R, s, m, args, below, meth, c⟩ := B
  obtain ⟨rfl, rfl, hx, hZ, hown, hby, hml, hrt, hlk, hnm, hw⟩ := H
  intro T locs c1 s1 X F hc hs eT
  exact own_go (fun t q => XS.ifNo X.here hx rfl (hb hby hd) rfl (XT.i0_le_f hq) q) (k T locs c1 s1 X F hc hs eT)
theorem own_icmple_t (H : own_Ok B Z a0 l R y code N ret) {x z : Int32} {o : Int} (hd : decode code pc = .ok (.if_icmp .le o, 3)) (ho : 0 ≤ (pc : Int) + o) (hp : ((pc : Int) + o).toNat = pc') (hq : ¬ z < x) (k : own_G B n0 Q kc ks cells slots h pc' Ls st) : own_G B n0 Q kc ks cells slots h pc Ls (.int z :: .int x :: st) := by
  obtain ⟨p, l, e, R, s, m, args, below, meth, c⟩ := B
  obtain ⟨rfl, rfl, hx, hZ, hown, hby, hml, hrt, hlk, hnm, hw⟩ := H
  intro T locs c1 s1 X F hc hs eT
  exact own_go (fun t q => XS.icmpYes X.here hx rfl rfl (hb hby hd) rfl (XT.ii_le_t hq) ho hp q) (k T locs c1 s1 X F hc hs eT)
theorem own_icmple_f (H : own_Ok B Z a0 l R y code N ret) {x z : Int32} {o : Int} (hd : decode code pc = .ok (.if_icmp .le o, 3)) (hq : z < x) (k : own_G B n0 Q kc ks cells slots h (pc + 3) Ls st) : own_G B n0 Q kc ks cells slots h pc Ls (.int z :: .int x :: st) := by
  obtain ⟨p, l, e, R, s, m, args, below, meth, c⟩ := B
  obtain ⟨rfl, rfl, hx, hZ, hown, hby, hml, hrt, hlk, hnm, hw⟩ := H
  intro T locs c1 s1 X F hc hs eT
  exact own_go (fun t q => XS.icmpNo X.here hx rfl (hb hby hd) rfl (XT.ii_le_f hq) q) (k T locs c1 s1 X F hc hs eT)
theorem own_lcmple_t (H : own_Ok B Z a0 l R y code N ret) {x z : Int64} {o : Int} (hd0 : decode code pc = .ok (.lcmp, 1)) (hd : decode code (pc + 1) = .ok (.ifCond .le o, 3)) (ho : 0 ≤ ((pc + 1 : Nat) : Int) + o) (hp : (((pc + 1 : Nat) : Int) + o).toNat = pc') (hq : ¬ z < x) (k : own_G B n0 Q kc ks cells slots h pc' Ls st) : own_G B n0 Q kc ks cells slots h pc Ls (.long z :: .long x :: st) := by
  obtain ⟨p, l, e, R, s, m, args, below, meth, c⟩ := B
  obtain ⟨rfl, rfl, hx, hZ, hown, hby, hml, hrt, hlk, hnm, hw⟩ := H
  intro T locs c1 s1 X F hc hs eT
  exact own_go (fun t q => XT.lcmp X.here hx rfl (hb hby hd0) rfl (XS.ifYes X.here hx rfl rfl (hb hby hd) rfl (XT.ll_le_t hq) ho hp q)) (k T locs c1 s1 X F hc hs eT)
theorem own_lcmple_f (H : own_Ok B Z a0 l R y code N ret) {x z : Int64} {o : Int} (hd0 : decode code pc = .ok (.lcmp, 1)) (hd : decode code (pc + 1) = .ok (.ifCond .le o, 3)) (hq : z < x) (k : own_G B n0 Q kc ks cells slots h (pc + 4) Ls st) : own_G B n0 Q kc ks cells slots h pc Ls (.long z :: .long x :: st) := by
  obtain ⟨p, l, e, R, s, m, args, below, meth, c⟩ := B
  obtain ⟨rfl, rfl, hx, hZ, hown, hby, hml, hrt, hlk, hnm, hw⟩ := H
  intro T locs c1 s1 X F hc hs eT
  exact own_go (fun t q => XT.lcmp X.here hx rfl (hb hby hd0) rfl (XS.ifNo X.here hx rfl (hb hby hd) rfl (XT.ll_le_f hq) q)) (k T locs c1 s1 X F hc hs eT)
theorem own_acmpeq_t (H : own_Ok B Z a0 l R y code N ret) {x z : Value} {o : Int} (hd : decode code pc = .ok (.if_acmp .eq o, 3)) (ho : 0 ≤ (pc : Int) + o) (hp : ((pc : Int) + o).toNat = pc') (h1 : x.isRef = true) (h2 : z.isRef = true) (hq : x = z) (k : own_G B n0 Q kc ks cells slots h pc' Ls st) : own_G B n0 Q kc ks cells slots h pc Ls (z :: x :: st) := by
  obtain ⟨p, l, e, R, s, m, args, below, meth, c⟩ := B
  obtain ⟨rfl, rfl, hx, hZ, hown, hby, hml, hrt, hlk, hnm, hw⟩ := H
  intro T locs c1 s1 X F hc hs eT
  exact own_go (fun t q => XT.acmpYes X.here hx rfl rfl (hb hby hd) rfl h1 h2 (XT.aa_eq_t hq) ho hp q) (k T locs c1 s1 X F hc hs eT)
theorem own_acmpeq_f (H : own_Ok B Z a0 l R y code N ret) {x z : Value} {o : Int} (hd : decode code pc = .ok (.if_acmp .eq o, 3)) (h1 : x.isRef = true) (h2 : z.isRef = true) (hq : ¬ x = z) (k : own_G B n0 Q kc ks cells slots h (pc + 3) Ls st) : own_G B n0 Q kc ks cells slots h pc Ls (z :: x :: st) := by
  obtain ⟨p, l, e, R, s, m, args, below, meth, c⟩ := B
  obtain ⟨rfl, rfl, hx, hZ, hown, hby, hml, hrt, hlk, hnm, hw⟩ := H
  intro T locs c1 s1 X F hc hs eT
  exact own_go (fun t q => XT.acmpNo X.here hx rfl (hb hby hd) rfl h1 h2 (XT.aa_eq_f hq) q) (k T locs c1 s1 X F hc hs eT)
theorem own_acmpne_t (H : own_Ok B Z a0 l R y code N ret) {x z : Value} {o : Int} (hd : decode code pc = .ok (.if_acmp .ne o, 3)) (ho : 0 ≤ (pc : Int) + o) (hp : ((pc : Int) + o).toNat = pc') (h1 : x.isRef = true) (h2 : z.isRef = true) (hq : ¬ x = z) (k : own_G B n0 Q kc ks cells slots h pc' Ls st) : own_G B n0 Q kc ks cells slots h pc Ls (z :: x :: st) := by
  obtain ⟨p, l, e, R, s, m, args, below, meth, c⟩ := B
  obtain ⟨rfl, rfl, hx, hZ, hown, hby, hml, hrt, hlk, hnm, hw⟩ := H
  intro T locs c1 s1 X F hc hs eT
  exact own_go (fun t q => XT.acmpYes X.here hx rfl rfl (hb hby hd) rfl h1 h2 (XT.aa_ne_t hq) ho hp q) (k T locs c1 s1 X F hc hs eT)
theorem own_acmpne_f (H : own_Ok B Z a0 l R y code N ret) {x z : Value} {o : Int} (hd : decode code pc = .ok (.if_acmp .ne o, 3)) (h1 : x.isRef = true) (h2 : z.isRef = true) (hq : x = z) (k : own_G B n0 Q kc ks cells slots h (pc + 3) Ls st) : own_G B n0 Q kc ks cells slots h pc Ls (z :: x :: st) := by
  obtain ⟨p, l, e, R, s, m, args, below, meth, c⟩ := B
  obtain ⟨rfl, rfl, hx, hZ, hown, hby, hml, hrt, hlk, hnm, hw⟩ := H
  intro T locs c1 s1 X F hc hs eT
  exact own_go (fun t q => XT.acmpNo X.here hx rfl (hb hby hd) rfl h1 h2 (XT.aa_ne_f hq) q) (k T locs c1 s1 X F hc hs eT)
theorem own_ifnull_t (H : own_Ok B Z a0 l R y code N ret) {x : Value} {o : Int} (hd : decode code pc = .ok (.ifnull o, 3)) (ho : 0 ≤ (pc : Int) + o) (hp : ((pc : Int) + o).toNat = pc') (h1 : x.isRef = true) (hq : x = .null) (k : own_G B n0 Q kc ks cells slots h pc' Ls st) : own_G B n0 Q kc ks cells slots h pc Ls (x :: st) := by
  obtain ⟨p, l, e, R, s, m, args, below, meth, c⟩ := B
  obtain ⟨rfl, rfl, hx, hZ, hown, hby, hml, hrt, hlk, hnm, hw⟩ := H
  intro T locs c1 s1 X F hc hs eT
  exact own_go (fun t q => XT.nullYes X.here hx rfl rfl (hb hby hd) rfl hq ho hp q) (k T locs c1 s1 X F hc hs eT)
theorem own_ifnull_f (H : own_Ok B Z a0 l R y code N ret) {x : Value} {o : Int} (hd : decode code pc = .ok (.ifnull o, 3)) (h1 : x.isRef = true) (hq : ¬ x = .null) (k : own_G B n0 Q kc ks cells slots h (pc + 3) Ls st) : own_G B n0 Q kc ks cells slots h pc Ls (x :: st) := by
  obtain ⟨p, l, e, R, s, m, args, below, meth, c⟩ := B
  obtain ⟨rfl, rfl, hx, hZ, hown, hby, hml, hrt, hlk, hnm, hw⟩ := H
  intro T locs c1 s1 X F hc hs eT
  exact own_go (fun t q => XT.nullNo X.here hx rfl (hb hby hd) rfl h1 hq q) (k T locs c1 s1 X F hc hs eT)
theorem own_ifnonnull_t (H : own_Ok B Z a0 l R y code N ret) {x : Value} {o : Int} (hd : decode code pc = .ok (.ifnonnull o, 3)) (ho : 0 ≤ (pc : Int) + o) (hp : ((pc : Int) + o).toNat = pc') (h1 : x.isRef = true) (hq : ¬ x = .null) (k : own_G B n0 Q kc ks cells slots h pc' Ls st) : own_G B n0 Q kc ks cells slots h pc Ls (x :: st) := by
  obtain ⟨p, l, e, R, s, m, args, below, meth, c⟩ := B
  obtain ⟨rfl, rfl, hx, hZ, hown, hby, hml, hrt, hlk, hnm, hw⟩ := H
  intro T locs c1 s1 X F hc hs eT
  exact own_go (fun t q => XT.nonnullYes X.here hx rfl rfl (hb hby hd) rfl h1 hq ho hp q) (k T locs c1 s1 X F hc hs eT)
theorem own_ifnonnull_f (H : own_Ok B Z a0 l R y code N ret) {x : Value} {o : Int} (hd : decode code pc = .ok (.ifnonnull o, 3)) (h1 : x.isRef = true) (hq : x = .null) (k : own_G B n0 Q kc ks cells slots h (pc + 3) Ls st) : own_G B n0 Q kc ks cells slots h pc Ls (x :: st) := by
  obtain ⟨p, l, e, R, s, m, args, below, meth, c⟩ := B
  obtain ⟨rfl, rfl, hx, hZ, hown, hby, hml, hrt, hlk, hnm, hw⟩ := H
  intro T locs c1 s1 X F hc hs eT
  exact own_go (fun t q => XT.nonnullNo X.here hx rfl (hb hby hd) rfl hq q) (k T locs c1 s1 X F hc hs eT)
theorem own_ldcI (H : own_Ok B Z a0 l R y code N ret) {i w : Nat} {v : Int32} (q : tables_1[w]? = some (Jvm.Cond.constant y.cls i v)) (hd : decode code pc = .ok (.ldc i, 2)) (k : own_G B n0 Q kc ks cells slots h (pc + 2) Ls (.int v :: st)) : own_G B n0 Q kc ks cells slots h pc Ls st := by
  obtain ⟨p, l, e, R, s, m, args, below, meth, c⟩ := B
  obtain ⟨rfl, rfl, hx, hZ, hown, hby, hml, hrt, hlk, hnm, hw⟩ := H
  intro T locs c1 s1 X F hc hs eT
  exact own_go (fun t r => X.ldcInt hx hown (mvT hZ (hw _ _ q)) (g := mkF m pc Ls st) rfl (hb hby hd) _ r) (k T locs c1 s1 X F hc hs eT)
theorem own_ldcwI (H : own_Ok B Z a0 l R y code N ret) {i w : Nat} {v : Int32} (q : tables_1[w]? = some (Jvm.Cond.constant y.cls i v)) (hd : decode code pc = .ok (.ldc_w i, 3)) (k : own_G B n0 Q kc ks cells slots h (pc + 3) Ls (.int v :: st)) : own_G B n0 Q kc ks cells slots h pc Ls st := by
  obtain ⟨p, l, e, R, s, m, args, below, meth, c⟩ := B
  obtain ⟨rfl, rfl, hx, hZ, hown, hby, hml, hrt, hlk, hnm, hw⟩ := H
  intro T locs c1 s1 X F hc hs eT
  exact own_go (fun t r => X.ldcwInt hx hown (mvT hZ (hw _ _ q)) (g := mkF m pc Ls st) rfl (hb hby hd) _ r) (k T locs c1 s1 X F hc hs eT)
theorem own_ldc2J (H : own_Ok B Z a0 l R y code N ret) {i w : Nat} {v : Int64} (q : tables_1[w]? = some (Jvm.Cond.constantLong y.cls i v)) (hd : decode code pc = .ok (.ldc2_w i, 3)) (k : own_G B n0 Q kc ks cells slots h (pc + 3) Ls (.long v :: st)) : own_G B n0 Q kc ks cells slots h pc Ls st := by
  obtain ⟨p, l, e, R, s, m, args, below, meth, c⟩ := B
  obtain ⟨rfl, rfl, hx, hZ, hown, hby, hml, hrt, hlk, hnm, hw⟩ := H
  intro T locs c1 s1 X F hc hs eT
  exact own_go (fun t r => X.ldc2Long hx hown (mvT hZ (hw _ _ q)) (g := mkF m pc Ls st) rfl (hb hby hd) _ r) (k T locs c1 s1 X F hc hs eT)
theorem own_ireturn {t : FieldType} (H : own_Ok B Z a0 l R y code N (some t)) {z : Int32} (ht : t = .int ∨ t = .boolean ∨ t = .byte ∨ t = .char ∨ t = .short) (hn : narrow t (.int z) = .int z) (hd : decode code pc = .ok (.ireturn, 1)) (hkc : cells ≤ kc) (hks : slots ≤ ks) (hQ : Q (some (.int z)) h) : own_G B n0 Q kc ks cells slots h pc Ls (.int z :: st) := by
  obtain ⟨p, l, e, R, s, m, args, below, meth, c⟩ := B
  obtain ⟨rfl, rfl, hx, hZ, hown, hby, hml, hrt, hlk, hnm, hw⟩ := H
  intro T locs c1 s1 X F hc hs eT
  obtain ⟨fs, hr, hrun, hended, hW, hsame⟩ := X.leave (v := some (.int z)) (fun h => by rw [hrt] at h; cases h) hlk
  exact ⟨_, _, retOut X hx hrt hn (Or.inl ⟨rfl, ht, _, rfl⟩) (hb hby hd) hr, hrun, hended, _, _, rfl, ⟨by show Q _ T.heap; rw [eT]; exact hQ, F⟩, ⟨_, rfl⟩, hW, hsame.mono (Nat.le_trans hc hkc) (Nat.le_trans hs hks)⟩
theorem own_lreturn (H : own_Ok B Z a0 l R y code N (some .long)) {z : Int64} (hd : decode code pc = .ok (.lreturn, 1)) (hkc : cells ≤ kc) (hks : slots ≤ ks) (hQ : Q (some (.long z)) h) : own_G B n0 Q kc ks cells slots h pc Ls (.long z :: st) := by
  obtain ⟨p, l, e, R, s, m, args, below, meth, c⟩ := B
  obtain ⟨rfl, rfl, hx, hZ, hown, hby, hml, hrt, hlk, hnm, hw⟩ := H
  intro T locs c1 s1 X F hc hs eT
  obtain ⟨fs, hr, hrun, hended, hW, hsame⟩ := X.leave (v := some (.long z)) (fun h => by rw [hrt] at h; cases h) hlk
  exact ⟨_, _, retOut X hx hrt rfl (Or.inr (Or.inl ⟨rfl, rfl, _, rfl⟩)) (hb hby hd) hr, hrun, hended, _, _, rfl, ⟨by show Q _ T.heap; rw [eT]; exact hQ, F⟩, ⟨_, rfl⟩, hW, hsame.mono (Nat.le_trans hc hkc) (Nat.le_trans hs hks)⟩
theorem own_areturn {t : FieldType} (H : own_Ok B Z a0 l R y code N (some t)) (ht : t.isReference = true) {z : Value} (hz : z.isRef = true) (hn : narrow t z = z) (hd : decode code pc = .ok (.areturn, 1)) (hkc : cells ≤ kc) (hks : slots ≤ ks) (hQ : Q (some z) h) : own_G B n0 Q kc ks cells slots h pc Ls (z :: st) := by
  obtain ⟨p, l, e, R, s, m, args, below, meth, c⟩ := B
  obtain ⟨rfl, rfl, hx, hZ, hown, hby, hml, hrt, hlk, hnm, hw⟩ := H
  intro T locs c1 s1 X F hc hs eT
  obtain ⟨fs, hr, hrun, hended, hW, hsame⟩ := X.leave (v := some z) (fun h => by rw [hrt] at h; cases h) hlk
  exact ⟨_, _, retOut X hx hrt hn (Or.inr (Or.inr (Or.inr (Or.inr ⟨rfl, ht, hz⟩)))) (hb hby hd) hr, hrun, hended, _, _, rfl, ⟨by show Q _ T.heap; rw [eT]; exact hQ, F⟩, ⟨_, rfl⟩, hW, hsame.mono (Nat.le_trans hc hkc) (Nat.le_trans hs hks)⟩
theorem own_return (H : own_Ok B Z a0 l R y code N none) (hd : decode code pc = .ok (.return_, 1)) (hkc : cells ≤ kc) (hks : slots ≤ ks) (hQ : Q none h) : own_G B n0 Q kc ks cells slots h pc Ls [] := by
  obtain ⟨p, l, e, R, s, m, args, below, meth, c⟩ := B
  obtain ⟨rfl, rfl, hx, hZ, hown, hby, hml, hrt, hlk, hnm, hw⟩ := H
  intro T locs c1 s1 X F hc hs eT
  obtain ⟨fs, hr, hrun, hended, hW, hsame⟩ := X.leave (v := none) (fun h => rfl) hlk
  exact ⟨_, _, X.returnOut hx hrt (hb hby hd) hr, hrun, hended, _, _, rfl, ⟨by show Q _ T.heap; rw [eT]; exact hQ, F⟩, ⟨_, rfl⟩, hW, hsame.mono (Nat.le_trans hc hkc) (Nat.le_trans hs hks)⟩
theorem own_getfield (H : own_Ok B Z a0 l R y code N ret) {O n d : String} {i w : Nat} (q : tables_1[w]? = some (Jvm.Cond.fieldLink y.cls i O n d)) {a : Addr} {v : Value} (Fd : Fld Z h a O n d v) (hd : decode code pc = .ok (.getfield i, 3)) (k : own_G B n0 Q kc ks cells slots h (pc + 3) Ls (v :: st)) : own_G B n0 Q kc ks cells slots h pc Ls (.ref a :: st) := by
  obtain ⟨p, l, e, R, s, m, args, below, meth, c⟩ := B
  obtain ⟨rfl, rfl, hx, hZ, hown, hby, hml, hrt, hlk, hnm, hw⟩ := H
  intro T locs c1 s1 X F hc hs eT
  obtain ⟨T', X', e', s'⟩ := getF X hx hZ hown (host := "") (Or.inl (hw _ _ q)) Via.refl eT Fd (g := mkF m pc Ls (.ref a :: st)) rfl rfl (hb hby hd)
  exact own_go s' (k T' locs c1 s1 X' F hc hs e')
theorem own_getstatic (H : own_Ok B Z a0 l R y code N ret) {O n d : String} {i w : Nat} (q : tables_1[w]? = some (Jvm.Cond.fieldLink y.cls i O n d)) {v : Value} (Fd : Sta Z h O n d v) (hd : decode code pc = .ok (.getstatic i, 3)) (k : own_G B n0 Q kc ks cells slots h (pc + 3) Ls (v :: st)) : own_G B n0 Q kc ks cells slots h pc Ls st := by
  obtain ⟨p, l, e, R, s, m, args, below, meth, c⟩ := B
  obtain ⟨rfl, rfl, hx, hZ, hown, hby, hml, hrt, hlk, hnm, hw⟩ := H
  intro T locs c1 s1 X F hc hs eT
  obtain ⟨T', X', e', s'⟩ := getS X hx hZ hown (host := "") (hw _ _ q) Via.refl eT Fd (g := mkF m pc Ls st) rfl (hb hby hd)
  exact own_go s' (k T' locs c1 s1 X' F hc hs e')
theorem own_putfield (H : own_Ok B Z a0 l R y code N ret) {O n d C : String} {i w wi kk : Nat} {ty : FieldType} (q : tables_1[w]? = some (Jvm.Cond.fieldLink y.cls i O n d)) {a : Addr} {v old : Value} (Fd : Fld Z h a O n d old) (E : Exa Z h a C) (ha : n0 ≤ a)
    (Lw : (Jvm.Cond.lays C O n d).before a0 Z = true ∨ ((Jvm.Cond.laysFinal C O n d).before a0 Z = true ∧ y.cls = O ∧ y.name = "<init>")) (qi : tables_1[wi]? = some (Jvm.Cond.instantiable C kk)) (hty : parseFieldDescriptor d = some ty) (hn : narrow ty v = v) (hf : fits ty v = true)
    (hd : decode code pc = .ok (.putfield i, 3)) (k : ∀ h', Wr h h' a (Jvm.RoadKit.slotOf Z O n d) v → own_G B n0 Q kc ks cells slots h' (pc + 3) Ls st) : own_G B n0 Q kc ks cells slots h pc Ls (v :: .ref a :: st) := by
  obtain ⟨p, l, e, R, s, m, args, below, meth, c⟩ := B
  obtain ⟨rfl, rfl, hx, hZ, hown, hby, hml, hrt, hlk, hnm, hw⟩ := H
  intro T locs c1 s1 X F hc hs eT
  obtain ⟨T', h', X', e', W', s'⟩ := putF X hx hZ hown (host := "") (Or.inl (hw _ _ q)) Via.refl eT Fd E (Lw.imp id fun z => ⟨z.1, z.2.1, hnm.trans z.2.2⟩) (hw _ _ qi) hty hn hf (g := mkF m pc Ls (v :: .ref a :: st)) rfl rfl (hb hby hd)
  exact own_go s' (k h' W' T' _ c1 s1 X' (Fr.snoc X' F ha) hc hs e')
theorem own_new (H : own_Ok B Z a0 l R y code N ret) {C : String} {i n w wi wz : Nat} (q : tables_1[w]? = some (Jvm.Cond.classLink y.cls i C)) (qi : tables_1[wi]? = some (Jvm.Cond.instantiable C n)) (qz : tables_1[wz]? = some (Jvm.Cond.initialized C)) (hd : decode code pc = .ok (.new i, 3)) (hkc : cells + 1 ≤ R.cells) (hks : slots + n ≤ R.slots)
    (k : ∀ h' a, a = h.size → Ext h h' → Exa Z h' a C → (∀ {O nm d : String} {ty : FieldType}, Laid Z a0 C O nm d → parseFieldDescriptor d = some ty → Fld Z h' a O nm d (defaultValue ty)) → own_G B n0 Q kc ks (cells + 1) (slots + n) h' (pc + 3) Ls (.ref a :: st)) : own_G B n0 Q kc ks cells slots h pc Ls st := by
  obtain ⟨p, l, e, R, s, m, args, below, meth, c⟩ := B
  obtain ⟨rfl, rfl, hx, hZ, hown, hby, hml, hrt, hlk, hnm, hw⟩ := H
  intro T locs c1 s1 X F hc hs eT
  obtain ⟨T', h', X', e', E', A', D', -, s'⟩ := newO X hx hZ hown (hw _ _ q) (hw _ _ qi) (hw _ _ qz) eT (g := mkF m pc Ls st) rfl (hb hby hd) (Nat.le_trans (Nat.add_le_add_right hc 1) hkc) (Nat.le_trans (Nat.add_le_add_right hs n) hks)
  exact own_go s' (k h' h.size rfl E' A' D' T' locs _ _ X' F (Nat.add_le_add_right hc 1) (Nat.add_le_add_right hs n) e')
theorem own_newarray (H : own_Ok B Z a0 l R y code N ret) {aty : ArrayType} {w : Nat} (q : tables_1[w]? = some (Jvm.Cond.arrayClass (newarray.typeOf aty))) {n : Int32} (hn : ¬ n < 0) (cap : Nat) (hcap : n.toNatClampNeg ≤ cap) (hcb : cap * 8 ≤ 536870912) (hd : decode code pc = .ok (.newarray aty, 2)) (hkc : cells + 1 ≤ R.cells) (hks : slots + cap ≤ R.slots)
    (k : ∀ h' a kA, a = h.size → Ext h h' → Arv Z h' a kA (newarray.typeOf aty) n [] (defaultValue (newarray.typeOf aty)) → own_G B n0 Q kc ks (cells + 1) (slots + cap) h' (pc + 2) Ls (.ref a :: st)) : own_G B n0 Q kc ks cells slots h pc Ls (.int n :: st) := by
  obtain ⟨p, l, e, R, s, m, args, below, meth, c⟩ := B
  obtain ⟨rfl, rfl, hx, hZ, hown, hby, hml, hrt, hlk, hnm, hw⟩ := H
  intro T locs c1 s1 X F hc hs eT
  obtain ⟨T', h', kA, X', e', E', A', s'⟩ := newP X hx hZ (hw _ _ q) eT (g := mkF m pc Ls (.int n :: st)) rfl (hb hby hd) rfl hn hcap hcb (Nat.le_trans (Nat.add_le_add_right hc 1) hkc) (Nat.le_trans (Nat.add_le_add_right hs cap) hks)
  exact own_go s' (k h' h.size kA rfl E' (Arv.new A' hn) T' locs _ _ X' F (Nat.add_le_add_right hc 1) (Nat.add_le_add_right hs cap) e')
theorem own_anewarray (H : own_Ok B Z a0 l R y code N ret) {C : String} {i w w2 : Nat} (q : tables_1[w]? = some (Jvm.Cond.classLink y.cls i C)) (q2 : tables_1[w2]? = some (Jvm.Cond.arrayOver (.object C))) {n : Int32} (hn : ¬ n < 0) (cap : Nat) (hcap : n.toNatClampNeg ≤ cap) (hcb : cap * 8 ≤ 536870912) (hd : decode code pc = .ok (.anewarray i, 3)) (hkc : cells + 1 ≤ R.cells) (hks : slots + cap ≤ R.slots)
    (k : ∀ h' a kA, a = h.size → Ext h h' → Arv Z h' a kA (.object C) n [] .null → Ovr Z kA C → own_G B n0 Q kc ks (cells + 1) (slots + cap) h' (pc + 3) Ls (.ref a :: st)) : own_G B n0 Q kc ks cells slots h pc Ls (.int n :: st) := by
  obtain ⟨p, l, e, R, s, m, args, below, meth, c⟩ := B
  obtain ⟨rfl, rfl, hx, hZ, hown, hby, hml, hrt, hlk, hnm, hw⟩ := H
  intro T locs c1 s1 X F hc hs eT
  obtain ⟨T', h', kA, X', e', E', A', O', s'⟩ := newR X hx hZ hown (hw _ _ q) (hw _ _ q2) eT (g := mkF m pc Ls (.int n :: st)) rfl (hb hby hd) rfl hn hcap hcb (Nat.le_trans (Nat.add_le_add_right hc 1) hkc) (Nat.le_trans (Nat.add_le_add_right hs cap) hks)
  exact own_go s' (k h' h.size kA rfl E' (Arv.new A' hn) O' T' locs _ _ X' F (Nat.add_le_add_right hc 1) (Nat.add_le_add_right hs cap) e')
theorem own_iaload (H : own_Ok B Z a0 l R y code N ret) {a : Addr} {cl : Cell} {j : Int32} {v : Value} (A : Arr Z h a cl .int) (hin : ¬ (j < 0 ∨ cl.slots.size ≤ j.toNatClampNeg)) (hv : cl.slots[j.toNatClampNeg]? = some v) (hd : decode code pc = .ok (.iaload, 1)) (k : own_G B n0 Q kc ks cells slots h (pc + 1) Ls (v :: st)) : own_G B n0 Q kc ks cells slots h pc Ls (.int j :: .ref a :: st) := by
  obtain ⟨p, l, e, R, s, m, args, below, meth, c⟩ := B
  obtain ⟨rfl, rfl, hx, hZ, hown, hby, hml, hrt, hlk, hnm, hw⟩ := H
  intro T locs c1 s1 X F hc hs eT
  exact own_go (fun t r => X.iaload hx (j := j) (v := v) (by rw [eT]; exact A.1) (State.isArrayOf_alike hZ.alike A.2.1) A.2.2 hin hv (g := mkF m pc Ls (.int j :: .ref a :: st)) rfl rfl (hb hby hd) _ r) (k T locs c1 s1 X F hc hs eT)
theorem own_laload (H : own_Ok B Z a0 l R y code N ret) {a : Addr} {cl : Cell} {j : Int32} {v : Value} (A : Arr Z h a cl .long) (hin : ¬ (j < 0 ∨ cl.slots.size ≤ j.toNatClampNeg)) (hv : cl.slots[j.toNatClampNeg]? = some v) (hd : decode code pc = .ok (.laload, 1)) (k : own_G B n0 Q kc ks cells slots h (pc + 1) Ls (v :: st)) : own_G B n0 Q kc ks cells slots h pc Ls (.int j :: .ref a :: st) := by
  obtain ⟨p, l, e, R, s, m, args, below, meth, c⟩ := B
  obtain ⟨rfl, rfl, hx, hZ, hown, hby, hml, hrt, hlk, hnm, hw⟩ := H
  intro T locs c1 s1 X F hc hs eT
  exact own_go (fun t r => X.laload hx (j := j) (v := v) (by rw [eT]; exact A.1) (State.isArrayOf_alike hZ.alike A.2.1) A.2.2 hin hv (g := mkF m pc Ls (.int j :: .ref a :: st)) rfl rfl (hb hby hd) _ r) (k T locs c1 s1 X F hc hs eT)
theorem own_caload (H : own_Ok B Z a0 l R y code N ret) {a : Addr} {cl : Cell} {j : Int32} {v : Value} (A : Arr Z h a cl .char) (hin : ¬ (j < 0 ∨ cl.slots.size ≤ j.toNatClampNeg)) (hv : cl.slots[j.toNatClampNeg]? = some v) (hd : decode code pc = .ok (.caload, 1)) (k : own_G B n0 Q kc ks cells slots h (pc + 1) Ls (v :: st)) : own_G B n0 Q kc ks cells slots h pc Ls (.int j :: .ref a :: st) := by
  obtain ⟨p, l, e, R, s, m, args, below, meth, c⟩ := B
  obtain ⟨rfl, rfl, hx, hZ, hown, hby, hml, hrt, hlk, hnm, hw⟩ := H
  intro T locs c1 s1 X F hc hs eT
  exact own_go (fun t r => X.caload hx (j := j) (v := v) (by rw [eT]; exact A.1) (State.isArrayOf_alike hZ.alike A.2.1) A.2.2 hin hv (g := mkF m pc Ls (.int j :: .ref a :: st)) rfl rfl (hb hby hd) _ r) (k T locs c1 s1 X F hc hs eT)
theorem own_baload (H : own_Ok B Z a0 l R y code N ret) {a : Addr} {cl : Cell} {j : Int32} {v : Value} (A : Arr Z h a cl .byte) (hin : ¬ (j < 0 ∨ cl.slots.size ≤ j.toNatClampNeg)) (hv : cl.slots[j.toNatClampNeg]? = some v) (hd : decode code pc = .ok (.baload, 1)) (k : own_G B n0 Q kc ks cells slots h (pc + 1) Ls (v :: st)) : own_G B n0 Q kc ks cells slots h pc Ls (.int j :: .ref a :: st) := by
  obtain ⟨p, l, e, R, s, m, args, below, meth, c⟩ := B
  obtain ⟨rfl, rfl, hx, hZ, hown, hby, hml, hrt, hlk, hnm, hw⟩ := H
  intro T locs c1 s1 X F hc hs eT
  exact own_go (fun t r => X.baloadBytes hx (j := j) (v := v) (by rw [eT]; exact A.1) (State.isArrayOf_alike hZ.alike A.2.1) A.2.2 hin hv (g := mkF m pc Ls (.int j :: .ref a :: st)) rfl rfl (hb hby hd) _ r) (k T locs c1 s1 X F hc hs eT)
theorem own_aaload (H : own_Ok B Z a0 l R y code N ret) {a : Addr} {cl : Cell} {ty : FieldType} {j : Int32} {v : Value} (A : Arr Z h a cl ty) (hty : ty.isReference = true) (hin : ¬ (j < 0 ∨ cl.slots.size ≤ j.toNatClampNeg)) (hv : cl.slots[j.toNatClampNeg]? = some v) (hd : decode code pc = .ok (.aaload, 1)) (k : own_G B n0 Q kc ks cells slots h (pc + 1) Ls (v :: st)) : own_G B n0 Q kc ks cells slots h pc Ls (.int j :: .ref a :: st) := by
  obtain ⟨p, l, e, R, s, m, args, below, meth, c⟩ := B
  obtain ⟨rfl, rfl, hx, hZ, hown, hby, hml, hrt, hlk, hnm, hw⟩ := H
  intro T locs c1 s1 X F hc hs eT
  exact own_go (fun t r => X.aaload hx (j := j) (v := v) (by rw [eT]; exact A.1) (State.isArrayOf_alike hZ.alike A.2.1) hty A.2.2 hin hv (g := mkF m pc Ls (.int j :: .ref a :: st)) rfl rfl (hb hby hd) _ r) (k T locs c1 s1 X F hc hs eT)
theorem own_arraylength (H : own_Ok B Z a0 l R y code N ret) {a : Addr} {cl : Cell} {ty : FieldType} {z : Int32} (A : Arr Z h a cl ty) (S : cl.slots.size = z.toNatClampNeg) (hz : ¬ z < 0) (hd : decode code pc = .ok (.arraylength, 1)) (k : own_G B n0 Q kc ks cells slots h (pc + 1) Ls (.int z :: st)) : own_G B n0 Q kc ks cells slots h pc Ls (.ref a :: st) := by
  obtain ⟨p, l, e, R, s, m, args, below, meth, c⟩ := B
  obtain ⟨rfl, rfl, hx, hZ, hown, hby, hml, hrt, hlk, hnm, hw⟩ := H
  intro T locs c1 s1 X F hc hs eT
  refine own_go (fun t r => X.arraylength hx (by rw [eT]; exact A.1) (State.isArrayOf_alike hZ.alike A.2.1) (g := mkF m pc Ls (.ref a :: st)) rfl rfl (hb hby hd) _ r) ?_
  rw [len_of S hz]
  exact k T locs c1 s1 X F hc hs eT
theorem own_iastore (H : own_Ok B Z a0 l R y code N ret) {a : Addr} {cl : Cell} {j : Int32} {x : Int32} (A : Arr Z h a cl .int) (hin : ¬ (j < 0 ∨ cl.slots.size ≤ j.toNatClampNeg)) (ha : n0 ≤ a) (hd : decode code pc = .ok (.iastore, 1)) (k : ∀ h', Wr h h' a j.toNatClampNeg (.int x) → own_G B n0 Q kc ks cells slots h' (pc + 1) Ls st) : own_G B n0 Q kc ks cells slots h pc Ls (.int x :: .int j :: .ref a :: st) := by
  obtain ⟨p, l, e, R, s, m, args, below, meth, c⟩ := B
  obtain ⟨rfl, rfl, hx, hZ, hown, hby, hml, hrt, hlk, hnm, hw⟩ := H
  intro T locs c1 s1 X F hc hs eT
  obtain ⟨T', h', X', e', W', s'⟩ := stI X hx hZ eT A hin (g := mkF m pc Ls (.int x :: .int j :: .ref a :: st)) rfl rfl (hb hby hd)
  exact own_go s' (k h' W' T' _ c1 s1 X' (Fr.snoc X' F ha) hc hs e')
theorem own_lastore (H : own_Ok B Z a0 l R y code N ret) {a : Addr} {cl : Cell} {j : Int32} {x : Int64} (A : Arr Z h a cl .long) (hin : ¬ (j < 0 ∨ cl.slots.size ≤ j.toNatClampNeg)) (ha : n0 ≤ a) (hd : decode code pc = .ok (.lastore, 1)) (k : ∀ h', Wr h h' a j.toNatClampNeg (.long x) → own_G B n0 Q kc ks cells slots h' (pc + 1) Ls st) : own_G B n0 Q kc ks cells slots h pc Ls (.long x :: .int j :: .ref a :: st) := by
  obtain ⟨p, l, e, R, s, m, args, below, meth, c⟩ := B
  obtain ⟨rfl, rfl, hx, hZ, hown, hby, hml, hrt, hlk, hnm, hw⟩ := H
  intro T locs c1 s1 X F hc hs eT
  obtain ⟨T', h', X', e', W', s'⟩ := stJ X hx hZ eT A hin (g := mkF m pc Ls (.long x :: .int j :: .ref a :: st)) rfl rfl (hb hby hd)
  exact own_go s' (k h' W' T' _ c1 s1 X' (Fr.snoc X' F ha) hc hs e')
theorem own_bastore (H : own_Ok B Z a0 l R y code N ret) {a : Addr} {cl : Cell} {j : Int32} {x : Int32} (A : Arr Z h a cl .byte) (hin : ¬ (j < 0 ∨ cl.slots.size ≤ j.toNatClampNeg)) (ha : n0 ≤ a) (hd : decode code pc = .ok (.bastore, 1)) (k : ∀ h', Wr h h' a j.toNatClampNeg (.int (nar .byte x)) → own_G B n0 Q kc ks cells slots h' (pc + 1) Ls st) : own_G B n0 Q kc ks cells slots h pc Ls (.int x :: .int j :: .ref a :: st) := by
  obtain ⟨p, l, e, R, s, m, args, below, meth, c⟩ := B
  obtain ⟨rfl, rfl, hx, hZ, hown, hby, hml, hrt, hlk, hnm, hw⟩ := H
  intro T locs c1 s1 X F hc hs eT
  obtain ⟨T', h', X', e', W', s'⟩ := stB X hx hZ eT A hin (g := mkF m pc Ls (.int x :: .int j :: .ref a :: st)) rfl rfl (hb hby hd)
  exact own_go s' (k h' W' T' _ c1 s1 X' (Fr.snoc X' F ha) hc hs e')
theorem own_castore (H : own_Ok B Z a0 l R y code N ret) {a : Addr} {cl : Cell} {j : Int32} {x : Int32} (A : Arr Z h a cl .char) (hin : ¬ (j < 0 ∨ cl.slots.size ≤ j.toNatClampNeg)) (ha : n0 ≤ a) (hd : decode code pc = .ok (.castore, 1)) (k : ∀ h', Wr h h' a j.toNatClampNeg (.int (nar .char x)) → own_G B n0 Q kc ks cells slots h' (pc + 1) Ls st) : own_G B n0 Q kc ks cells slots h pc Ls (.int x :: .int j :: .ref a :: st) := by
  obtain ⟨p, l, e, R, s, m, args, below, meth, c⟩ := B
  obtain ⟨rfl, rfl, hx, hZ, hown, hby, hml, hrt, hlk, hnm, hw⟩ := H
  intro T locs c1 s1 X F hc hs eT
  obtain ⟨T', h', X', e', W', s'⟩ := stC X hx hZ eT A hin (g := mkF m pc Ls (.int x :: .int j :: .ref a :: st)) rfl rfl (hb hby hd)
  exact own_go s' (k h' W' T' _ c1 s1 X' (Fr.snoc X' F ha) hc hs e')
theorem own_ialoadV (H : own_Ok B Z a0 l R y code N ret) {a : Addr} {kA : ClassId} {n j : Int32} {vs : List Value} {dv v : Value} (V : Arv Z h a kA .int n vs dv) (h1 : ¬ j < 0) (h2 : j < n) (hv : vs.getD j.toNatClampNeg dv = v) (hd : decode code pc = .ok (.iaload, 1)) (k : own_G B n0 Q kc ks cells slots h (pc + 1) Ls (v :: st)) : own_G B n0 Q kc ks cells slots h pc Ls (.int j :: .ref a :: st) := by
  obtain ⟨cl, A, -, S, M, Hs, -⟩ := V
  exact own_iaload H A (inb_of S ⟨h1, h2⟩) (Hs.at (inb_of S ⟨h1, h2⟩) hv) hd k
theorem own_laloadV (H : own_Ok B Z a0 l R y code N ret) {a : Addr} {kA : ClassId} {n j : Int32} {vs : List Value} {dv v : Value} (V : Arv Z h a kA .long n vs dv) (h1 : ¬ j < 0) (h2 : j < n) (hv : vs.getD j.toNatClampNeg dv = v) (hd : decode code pc = .ok (.laload, 1)) (k : own_G B n0 Q kc ks cells slots h (pc + 1) Ls (v :: st)) : own_G B n0 Q kc ks cells slots h pc Ls (.int j :: .ref a :: st) := by
  obtain ⟨cl, A, -, S, M, Hs, -⟩ := V
  exact own_laload H A (inb_of S ⟨h1, h2⟩) (Hs.at (inb_of S ⟨h1, h2⟩) hv) hd k
theorem own_caloadV (H : own_Ok B Z a0 l R y code N ret) {a : Addr} {kA : ClassId} {n j : Int32} {vs : List Value} {dv v : Value} (V : Arv Z h a kA .char n vs dv) (h1 : ¬ j < 0) (h2 : j < n) (hv : vs.getD j.toNatClampNeg dv = v) (hd : decode code pc = .ok (.caload, 1)) (k : own_G B n0 Q kc ks cells slots h (pc + 1) Ls (v :: st)) : own_G B n0 Q kc ks cells slots h pc Ls (.int j :: .ref a :: st) := by
  obtain ⟨cl, A, -, S, M, Hs, -⟩ := V
  exact own_caload H A (inb_of S ⟨h1, h2⟩) (Hs.at (inb_of S ⟨h1, h2⟩) hv) hd k
theorem own_baloadV (H : own_Ok B Z a0 l R y code N ret) {a : Addr} {kA : ClassId} {n j : Int32} {vs : List Value} {dv v : Value} (V : Arv Z h a kA .byte n vs dv) (h1 : ¬ j < 0) (h2 : j < n) (hv : vs.getD j.toNatClampNeg dv = v) (hd : decode code pc = .ok (.baload, 1)) (k : own_G B n0 Q kc ks cells slots h (pc + 1) Ls (v :: st)) : own_G B n0 Q kc ks cells slots h pc Ls (.int j :: .ref a :: st) := by
  obtain ⟨cl, A, -, S, M, Hs, -⟩ := V
  exact own_baload H A (inb_of S ⟨h1, h2⟩) (Hs.at (inb_of S ⟨h1, h2⟩) hv) hd k
theorem own_aaloadV (H : own_Ok B Z a0 l R y code N ret) {a : Addr} {kA : ClassId} {ty : FieldType} {n j : Int32} {vs : List Value} {dv v : Value} (V : Arv Z h a kA ty n vs dv) (hty : ty.isReference = true) (h1 : ¬ j < 0) (h2 : j < n) (hv : vs.getD j.toNatClampNeg dv = v) (hd : decode code pc = .ok (.aaload, 1)) (k : own_G B n0 Q kc ks cells slots h (pc + 1) Ls (v :: st)) : own_G B n0 Q kc ks cells slots h pc Ls (.int j :: .ref a :: st) := by
  obtain ⟨cl, A, -, S, M, Hs, -⟩ := V
  exact own_aaload H A hty (inb_of S ⟨h1, h2⟩) (Hs.at (inb_of S ⟨h1, h2⟩) hv) hd k
theorem own_arraylengthV (H : own_Ok B Z a0 l R y code N ret) {a : Addr} {kA : ClassId} {ty : FieldType} {n : Int32} {vs : List Value} {dv : Value} (V : Arv Z h a kA ty n vs dv) (hd : decode code pc = .ok (.arraylength, 1)) (k : own_G B n0 Q kc ks cells slots h (pc + 1) Ls (.int n :: st)) : own_G B n0 Q kc ks cells slots h pc Ls (.ref a :: st) := by
  obtain ⟨cl, A, -, S, M, -, -⟩ := V
  exact own_arraylength H A S M hd k
theorem own_iastoreV (H : own_Ok B Z a0 l R y code N ret) {a : Addr} {kA : ClassId} {n j : Int32} {vs : List Value} {dv u : Value} {x : Int32} (V : Arv Z h a kA .int n vs dv) (h1 : ¬ j < 0) (h2 : j < n) (i : Nat) (hj : j.toNatClampNeg = i) (hi : i < vs.length) (ha : n0 ≤ a) (hu : (.int x) = u) (hd : decode code pc = .ok (.iastore, 1)) (k : ∀ h', Wr h h' a j.toNatClampNeg u → Arv Z h' a kA .int n (vs.set i u) dv → own_G B n0 Q kc ks cells slots h' (pc + 1) Ls st) : own_G B n0 Q kc ks cells slots h pc Ls (.int x :: .int j :: .ref a :: st) := by
  subst hu
  obtain ⟨cl, A, q1, S, M, Hs, Fs⟩ := V
  exact own_iastore H A (inb_of S ⟨h1, h2⟩) ha hd fun h' W => k h' W (Arv.set A q1 S M Hs Fs rfl W i hj hi)
theorem own_lastoreV (H : own_Ok B Z a0 l R y code N ret) {a : Addr} {kA : ClassId} {n j : Int32} {vs : List Value} {dv u : Value} {x : Int64} (V : Arv Z h a kA .long n vs dv) (h1 : ¬ j < 0) (h2 : j < n) (i : Nat) (hj : j.toNatClampNeg = i) (hi : i < vs.length) (ha : n0 ≤ a) (hu : (.long x) = u) (hd : decode code pc = .ok (.lastore, 1)) (k : ∀ h', Wr h h' a j.toNatClampNeg u → Arv Z h' a kA .long n (vs.set i u) dv → own_G B n0 Q kc ks cells slots h' (pc + 1) Ls st) : own_G B n0 Q kc ks cells slots h pc Ls (.long x :: .int j :: .ref a :: st) := by
  subst hu
  obtain ⟨cl, A, q1, S, M, Hs, Fs⟩ := V
  exact own_lastore H A (inb_of S ⟨h1, h2⟩) ha hd fun h' W => k h' W (Arv.set A q1 S M Hs Fs rfl W i hj hi)
theorem own_bastoreV (H : own_Ok B Z a0 l R y code N ret) {a : Addr} {kA : ClassId} {n j : Int32} {vs : List Value} {dv u : Value} {x : Int32} (V : Arv Z h a kA .byte n vs dv) (h1 : ¬ j < 0) (h2 : j < n) (i : Nat) (hj : j.toNatClampNeg = i) (hi : i < vs.length) (ha : n0 ≤ a) (hu : (.int (nar .byte x)) = u) (hd : decode code pc = .ok (.bastore, 1)) (k : ∀ h', Wr h h' a j.toNatClampNeg u → Arv Z h' a kA .byte n (vs.set i u) dv → own_G B n0 Q kc ks cells slots h' (pc + 1) Ls st) : own_G B n0 Q kc ks cells slots h pc Ls (.int x :: .int j :: .ref a :: st) := by
  subst hu
  obtain ⟨cl, A, q1, S, M, Hs, Fs⟩ := V
  exact own_bastore H A (inb_of S ⟨h1, h2⟩) ha hd fun h' W => k h' W (Arv.set A q1 S M Hs Fs (fits_nar_byte x) W i hj hi)
theorem own_castoreV (H : own_Ok B Z a0 l R y code N ret) {a : Addr} {kA : ClassId} {n j : Int32} {vs : List Value} {dv u : Value} {x : Int32} (V : Arv Z h a kA .char n vs dv) (h1 : ¬ j < 0) (h2 : j < n) (i : Nat) (hj : j.toNatClampNeg = i) (hi : i < vs.length) (ha : n0 ≤ a) (hu : (.int (nar .char x)) = u) (hd : decode code pc = .ok (.castore, 1)) (k : ∀ h', Wr h h' a j.toNatClampNeg u → Arv Z h' a kA .char n (vs.set i u) dv → own_G B n0 Q kc ks cells slots h' (pc + 1) Ls st) : own_G B n0 Q kc ks cells slots h pc Ls (.int x :: .int j :: .ref a :: st) := by
  subst hu
  obtain ⟨cl, A, q1, S, M, Hs, Fs⟩ := V
  exact own_castore H A (inb_of S ⟨h1, h2⟩) ha hd fun h' W => k h' W (Arv.set A q1 S M Hs Fs (fits_nar_char x) W i hj hi)
theorem own_initObject (H : own_Ok B Z a0 l R y code N ret) {i w1 w2 w3 : Nat} (q1 : tables_1[w1]? = some (Jvm.Cond.methodLink y.cls i Lib.objectInit)) (q2 : tables_1[w2]? = some (Jvm.Cond.instanceMethod Lib.objectInit)) (q3 : tables_1[w3]? = some (Jvm.Cond.code Lib.objectInit ⟨#[0xb1]⟩ 1 none)) {a : Addr} (W : Nat) (hsz : Ls.size = N) (hf : 1 ≤ R.frames) (hW : (st.map fun v => v.category).sum ≤ W) (hl : W + 12 ≤ R.locals)
    (hd : decode code pc = .ok (.invokespecial i, 3)) (k : own_G B n0 Q kc ks cells slots h (pc + 3) Ls st) : own_G B n0 Q kc ks cells slots h pc Ls (.ref a :: st) := by
  obtain ⟨p, l, e, R, s, m, args, below, meth, c⟩ := B
  obtain ⟨rfl, rfl, hx, hZ, hown, hby, hml, hrt, hlk, hnm, hw⟩ := H
  intro T locs c1 s1 X F hc hs eT
  obtain ⟨T', X', e', s'⟩ := initO X hx hZ hown (hw _ _ q1) (hw _ _ q2) (hw _ _ q3) eT (g := mkF m pc Ls (.ref a :: st)) rfl (hsz.trans hml.symm) rfl (hb hby hd) hf (W := W) (by show 2 * 0 + _ ≤ _; omega) hl
  exact own_go s' (k T' locs c1 s1 X' F hc hs e')
theorem own_invokestatic (H : own_Ok B Z a0 l R y code N ret) {i w1 w2 w3 w4 : Nat} {yc : MethodName} {bytes : ByteArray} {maxL : Nat} {rc : Option FieldType} {rm : Room} {Qc : Option Value → Heap → Prop} {argsL rest : List Value} (hM : own_C l Z yc bytes maxL rc rm argsL.toArray h n0 Qc)
    (q1 : tables_1[w1]? = some (Jvm.Cond.methodLink y.cls i yc)) (q2 : tables_1[w2]? = some (Jvm.Cond.static yc)) (qz : tables_1[w3]? = some (Jvm.Cond.initialized yc.cls)) (qc : tables_1[w4]? = some (Jvm.Cond.code yc bytes maxL rc)) {ps : List FieldType} {r : Option FieldType} (hpd : parseMethodDescriptor yc.desc = some ⟨ps, r⟩) (hln : argsL.length = ps.length) (W : Nat) (hne : yc.cls ≠ "java/lang/invoke/MethodHandle" ∧ yc.cls ≠ "java/lang/invoke/VarHandle")
    (hsz : Ls.size = N) (hfr : rm.frames + 1 ≤ R.frames) (hW : (rest.map fun v => v.category).sum ≤ W) (hlo : W + (maxL + 11) + rm.locals ≤ R.locals) (hkc : cells + rm.cells ≤ R.cells) (hks : slots + rm.slots ≤ R.slots) (hst : st = argsL.reverse ++ rest) (hd : decode code pc = .ok (.invokestatic i, 3))
    (k : ∀ v h', Qc v h' → own_G B n0 Q kc ks (cells + rm.cells) (slots + rm.slots) h' (pc + 3) Ls (v.toList ++ rest)) : own_G B n0 Q kc ks cells slots h pc Ls st := by
  obtain ⟨p, l, e, R, s, m, args, below, meth, c⟩ := B
  obtain ⟨rfl, rfl, hx, hZ, hown, hby, hml, hrt, hlk, hnm, hw⟩ := H
  intro T locs c1 s1 X F hc hs eT
  subst hst
  obtain ⟨v', _, ⟨T', L', k', n'⟩, -, X', ⟨Lc', hQ', l', y', z'⟩, s'⟩ := Jvm.LawKit.callS X hx (y := yc) hown (mvT hZ (hw _ _ q1)) (mvT hZ (hw _ _ q2)) (mvT hZ (hw _ _ qz)) (mvT hZ (hw _ _ qc)) hne (backOf (W := W) (bytes := bytes) (rm := rm) (Q := fun v hh L => Qc v hh ∧ Fr n0 L) (h := h) hM hZ (hw _ _ qc) (hw _ _ qz) hfr hlo) (g := mkF m pc Ls (argsL.reverse ++ rest)) rfl (hsz.trans hml.symm) (argsL := argsL) (rest := rest) (lenOf hpd hln) rfl (by show 2 * 0 + _ ≤ _; omega) (hb hby hd) (fun _ _ => ⟨rfl, eT, Nat.le_trans (Nat.add_le_add_right hc _) hkc, Nat.le_trans (Nat.add_le_add_right hs _) hks⟩)
  dsimp only [Pt.U, Pt.locs, Pt.cells, Pt.slots] at X' l' y' z' s' hQ'
  subst l' y' z'
  exact own_go s' (k v' _ hQ'.1 T' _ _ _ X' (F.app hQ'.2) (Nat.add_le_add_right hc _) (Nat.add_le_add_right hs _) rfl)
theorem own_invokespecial (H : own_Ok B Z a0 l R y code N ret) {i w1 w2 w3 w4 : Nat} {yc : MethodName} {bytes : ByteArray} {maxL : Nat} {rm : Room} {Qc : Option Value → Heap → Prop} {a : Addr} {argsL rest : List Value} (hM : own_C l Z yc bytes maxL none rm (.ref a :: argsL).toArray h n0 Qc) (hin : yc.name = "<init>")
    (q1 : tables_1[w1]? = some (Jvm.Cond.methodLink y.cls i yc)) (q2 : tables_1[w2]? = some (Jvm.Cond.instanceMethod yc)) (qz : tables_1[w3]? = some (Jvm.Cond.initialized yc.cls)) (qc : tables_1[w4]? = some (Jvm.Cond.code yc bytes maxL none)) {ps : List FieldType} {r : Option FieldType} (hpd : parseMethodDescriptor yc.desc = some ⟨ps, r⟩) (hln : argsL.length = ps.length) (W : Nat) (hne : yc.cls ≠ "java/lang/invoke/MethodHandle" ∧ yc.cls ≠ "java/lang/invoke/VarHandle")
    (hsz : Ls.size = N) (hfr : rm.frames + 1 ≤ R.frames) (hW : (rest.map fun v => v.category).sum ≤ W) (hlo : W + (maxL + 11) + rm.locals ≤ R.locals) (hkc : cells + rm.cells ≤ R.cells) (hks : slots + rm.slots ≤ R.slots) (hst : st = argsL.reverse ++ .ref a :: rest) (hd : decode code pc = .ok (.invokespecial i, 3))
    (k : ∀ v h', Qc v h' → own_G B n0 Q kc ks (cells + rm.cells) (slots + rm.slots) h' (pc + 3) Ls (v.toList ++ rest)) : own_G B n0 Q kc ks cells slots h pc Ls st := by
  obtain ⟨p, l, e, R, s, m, args, below, meth, c⟩ := B
  obtain ⟨rfl, rfl, hx, hZ, hown, hby, hml, hrt, hlk, hnm, hw⟩ := H
  intro T locs c1 s1 X F hc hs eT
  subst hst
  obtain ⟨v', _, ⟨T', L', k', n'⟩, -, X', ⟨Lc', hQ', l', y', z'⟩, s'⟩ := X.specialBack hx (y := yc) hin hown (mvT hZ (hw _ _ q1)) (mvT hZ (hw _ _ q2)) (mvT hZ (hw _ _ qc)) hne (backOf (W := W) (bytes := bytes) (rm := rm) (Q := fun v hh L => Qc v hh ∧ Fr n0 L) (h := h) hM hZ (hw _ _ qc) (hw _ _ qz) hfr hlo) (g := mkF m pc Ls (argsL.reverse ++ .ref a :: rest)) rfl (hsz.trans hml.symm) (Steps.refl _) (a := a) (argsL := argsL) (rest := rest) (lenOf hpd hln) rfl (by show 2 * 0 + _ ≤ _; omega) (hb hby hd) (fun _ _ => ⟨rfl, eT, Nat.le_trans (Nat.add_le_add_right hc _) hkc, Nat.le_trans (Nat.add_le_add_right hs _) hks⟩)
  dsimp only [Pt.U, Pt.locs, Pt.cells, Pt.slots] at X' l' y' z' s' hQ'
  subst l' y' z'
  exact own_go (fun t q => s'.trans q) (k v' _ hQ'.1 T' _ _ _ X' (F.app hQ'.2) (Nat.add_le_add_right hc _) (Nat.add_le_add_right hs _) rfl)
theorem own_invokevirtual (H : own_Ok B Z a0 l R y code N ret) {i w0 w1 w2 w3 w4 w5 : Nat} {C : String} {yc : MethodName} {bytes : ByteArray} {maxL : Nat} {rc : Option FieldType} {rm : Room} {Qc : Option Value → Heap → Prop} {a : Addr} {argsL rest : List Value} (hM : own_C l Z yc bytes maxL rc rm (.ref a :: argsL).toArray h n0 Qc) (E : Exa Z h a C)
    (q1 : tables_1[w1]? = some (Jvm.Cond.methodLink y.cls i yc)) (q0 : tables_1[w0]? = some (Jvm.Cond.declares yc)) (q5 : tables_1[w5]? = some (Jvm.Cond.selects C yc yc)) (q2 : tables_1[w2]? = some (Jvm.Cond.instanceMethod yc)) (qz : tables_1[w3]? = some (Jvm.Cond.initialized yc.cls)) (qc : tables_1[w4]? = some (Jvm.Cond.code yc bytes maxL rc)) {ps : List FieldType} {r : Option FieldType} (hpd : parseMethodDescriptor yc.desc = some ⟨ps, r⟩) (hln : argsL.length = ps.length) (W : Nat) (hne : yc.cls ≠ "java/lang/invoke/MethodHandle" ∧ yc.cls ≠ "java/lang/invoke/VarHandle")
    (hsz : Ls.size = N) (hfr : rm.frames + 1 ≤ R.frames) (hW : (rest.map fun v => v.category).sum ≤ W) (hlo : W + (maxL + 11) + rm.locals ≤ R.locals) (hkc : cells + rm.cells ≤ R.cells) (hks : slots + rm.slots ≤ R.slots) (hst : st = argsL.reverse ++ .ref a :: rest) (hd : decode code pc = .ok (.invokevirtual i, 3))
    (k : ∀ v h', Qc v h' → own_G B n0 Q kc ks (cells + rm.cells) (slots + rm.slots) h' (pc + 3) Ls (v.toList ++ rest)) : own_G B n0 Q kc ks cells slots h pc Ls st := by
  obtain ⟨p, l, e, R, s, m, args, below, meth, c⟩ := B
  obtain ⟨rfl, rfl, hx, hZ, hown, hby, hml, hrt, hlk, hnm, hw⟩ := H
  intro T locs c1 s1 X F hc hs eT
  subst hst
  obtain ⟨cq, kq, qa, -, qb⟩ := isOf hZ eT E
  obtain ⟨v', _, ⟨T', L', k', n'⟩, -, X', ⟨Lc', hQ', l', y', z'⟩, s'⟩ := X.virtualBack hx (y := yc) (z := yc) hown (mvT hZ (hw _ _ q1)) (mvT hZ (hw _ _ q0)) (notFace_of_selects (args := #[]) (mvT hZ (hw _ _ q5))) (mvT hZ (hw _ _ q5)) (mvT hZ (hw _ _ q2)) hne (backOf (W := W) (bytes := bytes) (rm := rm) (Q := fun v hh L => Qc v hh ∧ Fr n0 L) (h := h) hM hZ (hw _ _ qc) (hw _ _ qz) hfr hlo) qa qb (g := mkF m pc Ls (argsL.reverse ++ .ref a :: rest)) rfl (hsz.trans hml.symm) (Steps.refl _) (argsL := argsL) (rest := rest) (lenOf hpd hln) rfl (by show 2 * 0 + _ ≤ _; omega) (hb hby hd) (fun _ _ => ⟨rfl, eT, Nat.le_trans (Nat.add_le_add_right hc _) hkc, Nat.le_trans (Nat.add_le_add_right hs _) hks⟩)
  dsimp only [Pt.U, Pt.locs, Pt.cells, Pt.slots] at X' l' y' z' s' hQ'
  subst l' y' z'
  exact own_go (fun t q => s'.trans q) (k v' _ hQ'.1 T' _ _ _ X' (F.app hQ'.2) (Nat.add_le_add_right hc _) (Nat.add_le_add_right hs _) rfl)
end Laws
end OwnKit
theorem d4_0 : decode jdk_33_method_47_code 0 = .ok (.iload_n 0, 1) := by decide +kernel
theorem d4_1 : decode jdk_33_method_47_code 1 = .ok (.ifCond .gt 14, 3) := by decide +kernel
theorem d4_4 : decode jdk_33_method_47_code 4 = .ok (.iload_n 0, 1) := by decide +kernel
theorem d4_5 : decode jdk_33_method_47_code 5 = .ok (.ifCond .ne 8, 3) := by decide +kernel
theorem d4_8 : decode jdk_33_method_47_code 8 = .ok (.bipush 32, 2) := by decide +kernel
theorem d4_10 : decode jdk_33_method_47_code 10 = .ok (.goto 4, 3) := by decide +kernel
theorem d4_13 : decode jdk_33_method_47_code 13 = .ok (.iconst 0, 1) := by decide +kernel
theorem d4_14 : decode jdk_33_method_47_code 14 = .ok (.ireturn, 1) := by decide +kernel
theorem d4_15 : decode jdk_33_method_47_code 15 = .ok (.bipush 31, 2) := by decide +kernel
theorem d4_17 : decode jdk_33_method_47_code 17 = .ok (.istore_n 1, 1) := by decide +kernel
theorem d4_18 : decode jdk_33_method_47_code 18 = .ok (.iload_n 0, 1) := by decide +kernel
theorem d4_19 : decode jdk_33_method_47_code 19 = .ok (.ldc_w 264, 3) := by decide +kernel
theorem d4_22 : decode jdk_33_method_47_code 22 = .ok (.if_icmp .lt 11, 3) := by decide +kernel
theorem d4_25 : decode jdk_33_method_47_code 25 = .ok (.iinc 1 (-16), 3) := by decide +kernel
theorem d4_28 : decode jdk_33_method_47_code 28 = .ok (.iload_n 0, 1) := by decide +kernel
theorem d4_29 : decode jdk_33_method_47_code 29 = .ok (.bipush 16, 2) := by decide +kernel
theorem d4_31 : decode jdk_33_method_47_code 31 = .ok (.iushr, 1) := by decide +kernel
theorem d4_32 : decode jdk_33_method_47_code 32 = .ok (.istore_n 0, 1) := by decide +kernel
theorem d4_33 : decode jdk_33_method_47_code 33 = .ok (.iload_n 0, 1) := by decide +kernel
theorem d4_34 : decode jdk_33_method_47_code 34 = .ok (.sipush 256, 3) := by decide +kernel
theorem d4_37 : decode jdk_33_method_47_code 37 = .ok (.if_icmp .lt 11, 3) := by decide +kernel
theorem d4_40 : decode jdk_33_method_47_code 40 = .ok (.iinc 1 (-8), 3) := by decide +kernel
theorem d4_43 : decode jdk_33_method_47_code 43 = .ok (.iload_n 0, 1) := by decide +kernel
theorem d4_44 : decode jdk_33_method_47_code 44 = .ok (.bipush 8, 2) := by decide +kernel
theorem d4_46 : decode jdk_33_method_47_code 46 = .ok (.iushr, 1) := by decide +kernel
theorem d4_47 : decode jdk_33_method_47_code 47 = .ok (.istore_n 0, 1) := by decide +kernel
theorem d4_48 : decode jdk_33_method_47_code 48 = .ok (.iload_n 0, 1) := by decide +kernel
theorem d4_49 : decode jdk_33_method_47_code 49 = .ok (.bipush 16, 2) := by decide +kernel
theorem d4_51 : decode jdk_33_method_47_code 51 = .ok (.if_icmp .lt 10, 3) := by decide +kernel
theorem d4_54 : decode jdk_33_method_47_code 54 = .ok (.iinc 1 (-4), 3) := by decide +kernel
theorem d4_57 : decode jdk_33_method_47_code 57 = .ok (.iload_n 0, 1) := by decide +kernel
theorem d4_58 : decode jdk_33_method_47_code 58 = .ok (.iconst 4, 1) := by decide +kernel
theorem d4_59 : decode jdk_33_method_47_code 59 = .ok (.iushr, 1) := by decide +kernel
theorem d4_60 : decode jdk_33_method_47_code 60 = .ok (.istore_n 0, 1) := by decide +kernel
theorem d4_61 : decode jdk_33_method_47_code 61 = .ok (.iload_n 0, 1) := by decide +kernel
theorem d4_62 : decode jdk_33_method_47_code 62 = .ok (.iconst 4, 1) := by decide +kernel
theorem d4_63 : decode jdk_33_method_47_code 63 = .ok (.if_icmp .lt 10, 3) := by decide +kernel
theorem d4_66 : decode jdk_33_method_47_code 66 = .ok (.iinc 1 (-2), 3) := by decide +kernel
theorem d4_69 : decode jdk_33_method_47_code 69 = .ok (.iload_n 0, 1) := by decide +kernel
theorem d4_70 : decode jdk_33_method_47_code 70 = .ok (.iconst 2, 1) := by decide +kernel
theorem d4_71 : decode jdk_33_method_47_code 71 = .ok (.iushr, 1) := by decide +kernel
theorem d4_72 : decode jdk_33_method_47_code 72 = .ok (.istore_n 0, 1) := by decide +kernel
theorem d4_73 : decode jdk_33_method_47_code 73 = .ok (.iload_n 1, 1) := by decide +kernel
theorem d4_74 : decode jdk_33_method_47_code 74 = .ok (.iload_n 0, 1) := by decide +kernel
theorem d4_75 : decode jdk_33_method_47_code 75 = .ok (.iconst 1, 1) := by decide +kernel
theorem d4_76 : decode jdk_33_method_47_code 76 = .ok (.iushr, 1) := by decide +kernel
theorem d4_77 : decode jdk_33_method_47_code 77 = .ok (.isub, 1) := by decide +kernel
theorem d4_78 : decode jdk_33_method_47_code 78 = .ok (.ireturn, 1) := by decide +kernel
theorem own_pl4 : plainFor (⟨"java/lang/Integer", "numberOfLeadingZeros", "(I)I"⟩ : MethodName) = true := plainFor_of_name (by first | (simp [plainName, overriddenIn]; done) | decide +kernel)
theorem own_pd0 : parseMethodDescriptor "(I)I" = some ⟨[.int], some .int⟩ := by decide +kernel
def FNlz (p1 : Int32) : Int32 := if 0 < p1 then if p1 < (65536 : Int32) then if p1 < (256 : Int32) then if p1 < (16 : Int32) then if p1 < (4 : Int32) then ((31 : Int32) - (XT.ushr p1 (1 : Int32))) else ((29 : Int32) - (XT.ushr (XT.ushr p1 (2 : Int32)) (1 : Int32))) else if (XT.ushr p1 (4 : Int32)) < (4 : Int32) then ((27 : Int32) - (XT.ushr (XT.ushr p1 (4 : Int32)) (1 : Int32))) else ((25 : Int32) - (XT.ushr (XT.ushr (XT.ushr p1 (4 : Int32)) (2 : Int32)) (1 : Int32))) else if (XT.ushr p1 (8 : Int32)) < (16 : Int32) then if (XT.ushr p1 (8 : Int32)) < (4 : Int32) then ((23 : Int32) - (XT.ushr (XT.ushr p1 (8 : Int32)) (1 : Int32))) else ((21 : Int32) - (XT.ushr (XT.ushr (XT.ushr p1 (8 : Int32)) (2 : Int32)) (1 : Int32))) else if (XT.ushr (XT.ushr p1 (8 : Int32)) (4 : Int32)) < (4 : Int32) then ((19 : Int32) - (XT.ushr (XT.ushr (XT.ushr p1 (8 : Int32)) (4 : Int32)) (1 : Int32))) else ((17 : Int32) - (XT.ushr (XT.ushr (XT.ushr (XT.ushr p1 (8 : Int32)) (4 : Int32)) (2 : Int32)) (1 : Int32))) else if (XT.ushr p1 (16 : Int32)) < (256 : Int32) then if (XT.ushr p1 (16 : Int32)) < (16 : Int32) then if (XT.ushr p1 (16 : Int32)) < (4 : Int32) then ((15 : Int32) - (XT.ushr (XT.ushr p1 (16 : Int32)) (1 : Int32))) else ((13 : Int32) - (XT.ushr (XT.ushr (XT.ushr p1 (16 : Int32)) (2 : Int32)) (1 : Int32))) else if (XT.ushr (XT.ushr p1 (16 : Int32)) (4 : Int32)) < (4 : Int32) then ((11 : Int32) - (XT.ushr (XT.ushr (XT.ushr p1 (16 : Int32)) (4 : Int32)) (1 : Int32))) else ((9 : Int32) - (XT.ushr (XT.ushr (XT.ushr (XT.ushr p1 (16 : Int32)) (4 : Int32)) (2 : Int32)) (1 : Int32))) else if (XT.ushr (XT.ushr p1 (16 : Int32)) (8 : Int32)) < (16 : Int32) then if (XT.ushr (XT.ushr p1 (16 : Int32)) (8 : Int32)) < (4 : Int32) then ((7 : Int32) - (XT.ushr (XT.ushr (XT.ushr p1 (16 : Int32)) (8 : Int32)) (1 : Int32))) else ((5 : Int32) - (XT.ushr (XT.ushr (XT.ushr (XT.ushr p1 (16 : Int32)) (8 : Int32)) (2 : Int32)) (1 : Int32))) else if (XT.ushr (XT.ushr (XT.ushr p1 (16 : Int32)) (8 : Int32)) (4 : Int32)) < (4 : Int32) then ((3 : Int32) - (XT.ushr (XT.ushr (XT.ushr (XT.ushr p1 (16 : Int32)) (8 : Int32)) (4 : Int32)) (1 : Int32))) else ((1 : Int32) - (XT.ushr (XT.ushr (XT.ushr (XT.ushr (XT.ushr p1 (16 : Int32)) (8 : Int32)) (4 : Int32)) (2 : Int32)) (1 : Int32))) else if p1 = 0 then (32 : Int32) else (0 : Int32)
set_option maxHeartbeats 4000000 in
theorem rmNlz (l : Launch) (Z : State) (a0 : Array Value) (hw : ∀ (i : Nat) (d : Jvm.Cond), tables_1[i]? = some d → d.before a0 Z = true) (h0 : Heap) (n0 : Nat) (p1 : Int32) :
    own_P l Z (⟨"java/lang/Integer", "numberOfLeadingZeros", "(I)I"⟩ : MethodName) jdk_33_method_47_code 2 (some .int) (own_rm 0 0) #[(.int p1)] h0 n0 (.int (FNlz p1)) := by
  refine own_met (Ls := #[.val (.int p1), .unset]) hw own_pl4 (fun m => by first | (simp [entryFrame, mkF, argsToLocals, Value.category]; done) | rfl) ?_
  intro B H
  refine own_iload_n H rfl d4_0 ?_
  by_cases c1 : 0 < p1
  ·
    refine own_ifgt_t H (pc' := 15) d4_1 (by decide) (by decide) c1 ?_
    refine own_bipush H (31 : Int32) (by decide) d4_15 ?_
    refine own_istore_n H #[.val (.int p1), .val (.int (31 : Int32))] rfl d4_17 ?_
    refine own_iload_n H rfl d4_18 ?_
    refine own_ldcwI H (w := 44) rfl d4_19 ?_
    by_cases c2 : p1 < (65536 : Int32)
    ·
      refine own_icmplt_t H (pc' := 33) d4_22 (by decide) (by decide) c2 ?_
      refine own_iload_n H rfl d4_33 ?_
      refine own_sipush H (256 : Int32) (by decide) d4_34 ?_
      by_cases c3 : p1 < (256 : Int32)
      ·
        refine own_icmplt_t H (pc' := 48) d4_37 (by decide) (by decide) c3 ?_
        refine own_iload_n H rfl d4_48 ?_
        refine own_bipush H (16 : Int32) (by decide) d4_49 ?_
        by_cases c4 : p1 < (16 : Int32)
        ·
          refine own_icmplt_t H (pc' := 61) d4_51 (by decide) (by decide) c4 ?_
          refine own_iload_n H rfl d4_61 ?_
          refine own_iconst H (4 : Int32) (by decide) d4_62 ?_
          by_cases c5 : p1 < (4 : Int32)
          ·
            refine own_icmplt_t H (pc' := 73) d4_63 (by decide) (by decide) c5 ?_
            refine own_iload_n H rfl d4_73 ?_
            refine own_iload_n H rfl d4_74 ?_
            refine own_iconst H (1 : Int32) (by decide) d4_75 ?_
            refine own_iushr H rfl d4_76 ?_
            refine own_isub H rfl d4_77 ?_
            exact own_ireturn H (by simp) rfl d4_78 (Nat.le_refl _) (Nat.le_refl _) ⟨by show some _ = some _; rw [FNlz, if_pos c1, if_pos c2, if_pos c3, if_pos c4, if_pos c5], rfl⟩
          ·
            refine own_icmplt_f H d4_63 c5 ?_
            refine own_iinc H (-2 : Int32) (by decide) rfl (by decide) #[.val (.int p1), .val (.int (29 : Int32))] rfl d4_66 ?_
            refine own_iload_n H rfl d4_69 ?_
            refine own_iconst H (2 : Int32) (by decide) d4_70 ?_
            refine own_iushr H rfl d4_71 ?_
            refine own_istore_n H #[.val (.int (XT.ushr p1 (2 : Int32))), .val (.int (29 : Int32))] rfl d4_72 ?_
            refine own_iload_n H rfl d4_73 ?_
            refine own_iload_n H rfl d4_74 ?_
            refine own_iconst H (1 : Int32) (by decide) d4_75 ?_
            refine own_iushr H rfl d4_76 ?_
            refine own_isub H rfl d4_77 ?_
            exact own_ireturn H (by simp) rfl d4_78 (Nat.le_refl _) (Nat.le_refl _) ⟨by show some _ = some _; rw [FNlz, if_pos c1, if_pos c2, if_pos c3, if_pos c4, if_neg c5], rfl⟩
        ·
          refine own_icmplt_f H d4_51 c4 ?_
          refine own_iinc H (-4 : Int32) (by decide) rfl (by decide) #[.val (.int p1), .val (.int (27 : Int32))] rfl d4_54 ?_
          refine own_iload_n H rfl d4_57 ?_
          refine own_iconst H (4 : Int32) (by decide) d4_58 ?_
          refine own_iushr H rfl d4_59 ?_
          refine own_istore_n H #[.val (.int (XT.ushr p1 (4 : Int32))), .val (.int (27 : Int32))] rfl d4_60 ?_
          refine own_iload_n H rfl d4_61 ?_
          refine own_iconst H (4 : Int32) (by decide) d4_62 ?_
          by_cases c6 : (XT.ushr p1 (4 : Int32)) < (4 : Int32)
          ·
            refine own_icmplt_t H (pc' := 73) d4_63 (by decide) (by decide) c6 ?_
            refine own_iload_n H rfl d4_73 ?_
            refine own_iload_n H rfl d4_74 ?_
            refine own_iconst H (1 : Int32) (by decide) d4_75 ?_
            refine own_iushr H rfl d4_76 ?_
            refine own_isub H rfl d4_77 ?_
            exact own_ireturn H (by simp) rfl d4_78 (Nat.le_refl _) (Nat.le_refl _) ⟨by show some _ = some _; rw [FNlz, if_pos c1, if_pos c2, if_pos c3, if_neg c4, if_pos c6], rfl⟩
          ·
            refine own_icmplt_f H d4_63 c6 ?_
            refine own_iinc H (-2 : Int32) (by decide) rfl (by decide) #[.val (.int (XT.ushr p1 (4 : Int32))), .val (.int (25 : Int32))] rfl d4_66 ?_
            refine own_iload_n H rfl d4_69 ?_
            refine own_iconst H (2 : Int32) (by decide) d4_70 ?_
            refine own_iushr H rfl d4_71 ?_
            refine own_istore_n H #[.val (.int (XT.ushr (XT.ushr p1 (4 : Int32)) (2 : Int32))), .val (.int (25 : Int32))] rfl d4_72 ?_
            refine own_iload_n H rfl d4_73 ?_
            refine own_iload_n H rfl d4_74 ?_
            refine own_iconst H (1 : Int32) (by decide) d4_75 ?_
            refine own_iushr H rfl d4_76 ?_
            refine own_isub H rfl d4_77 ?_
            exact own_ireturn H (by simp) rfl d4_78 (Nat.le_refl _) (Nat.le_refl _) ⟨by show some _ = some _; rw [FNlz, if_pos c1, if_pos c2, if_pos c3, if_neg c4, if_neg c6], rfl⟩
      ·
        refine own_icmplt_f H d4_37 c3 ?_
        refine own_iinc H (-8 : Int32) (by decide) rfl (by decide) #[.val (.int p1), .val (.int (23 : Int32))] rfl d4_40 ?_
        refine own_iload_n H rfl d4_43 ?_
        refine own_bipush H (8 : Int32) (by decide) d4_44 ?_
        refine own_iushr H rfl d4_46 ?_
        refine own_istore_n H #[.val (.int (XT.ushr p1 (8 : Int32))), .val (.int (23 : Int32))] rfl d4_47 ?_
        refine own_iload_n H rfl d4_48 ?_
        refine own_bipush H (16 : Int32) (by decide) d4_49 ?_
        by_cases c7 : (XT.ushr p1 (8 : Int32)) < (16 : Int32)
        ·
          refine own_icmplt_t H (pc' := 61) d4_51 (by decide) (by decide) c7 ?_
          refine own_iload_n H rfl d4_61 ?_
          refine own_iconst H (4 : Int32) (by decide) d4_62 ?_
          by_cases c8 : (XT.ushr p1 (8 : Int32)) < (4 : Int32)
          ·
            refine own_icmplt_t H (pc' := 73) d4_63 (by decide) (by decide) c8 ?_
            refine own_iload_n H rfl d4_73 ?_
            refine own_iload_n H rfl d4_74 ?_
            refine own_iconst H (1 : Int32) (by decide) d4_75 ?_
            refine own_iushr H rfl d4_76 ?_
            refine own_isub H rfl d4_77 ?_
            exact own_ireturn H (by simp) rfl d4_78 (Nat.le_refl _) (Nat.le_refl _) ⟨by show some _ = some _; rw [FNlz, if_pos c1, if_pos c2, if_neg c3, if_pos c7, if_pos c8], rfl⟩
          ·
            refine own_icmplt_f H d4_63 c8 ?_
            refine own_iinc H (-2 : Int32) (by decide) rfl (by decide) #[.val (.int (XT.ushr p1 (8 : Int32))), .val (.int (21 : Int32))] rfl d4_66 ?_
            refine own_iload_n H rfl d4_69 ?_
            refine own_iconst H (2 : Int32) (by decide) d4_70 ?_
            refine own_iushr H rfl d4_71 ?_
            refine own_istore_n H #[.val (.int (XT.ushr (XT.ushr p1 (8 : Int32)) (2 : Int32))), .val (.int (21 : Int32))] rfl d4_72 ?_
            refine own_iload_n H rfl d4_73 ?_
            refine own_iload_n H rfl d4_74 ?_
            refine own_iconst H (1 : Int32) (by decide) d4_75 ?_
            refine own_iushr H rfl d4_76 ?_
            refine own_isub H rfl d4_77 ?_
            exact own_ireturn H (by simp) rfl d4_78 (Nat.le_refl _) (Nat.le_refl _) ⟨by show some _ = some _; rw [FNlz, if_pos c1, if_pos c2, if_neg c3, if_pos c7, if_neg c8], rfl⟩
        ·
          refine own_icmplt_f H d4_51 c7 ?_
          refine own_iinc H (-4 : Int32) (by decide) rfl (by decide) #[.val (.int (XT.ushr p1 (8 : Int32))), .val (.int (19 : Int32))] rfl d4_54 ?_
          refine own_iload_n H rfl d4_57 ?_
          refine own_iconst H (4 : Int32) (by decide) d4_58 ?_
          refine own_iushr H rfl d4_59 ?_
          refine own_istore_n H #[.val (.int (XT.ushr (XT.ushr p1 (8 : Int32)) (4 : Int32))), .val (.int (19 : Int32))] rfl d4_60 ?_
          refine own_iload_n H rfl d4_61 ?_
          refine own_iconst H (4 : Int32) (by decide) d4_62 ?_
          by_cases c9 : (XT.ushr (XT.ushr p1 (8 : Int32)) (4 : Int32)) < (4 : Int32)
          ·
            refine own_icmplt_t H (pc' := 73) d4_63 (by decide) (by decide) c9 ?_
            refine own_iload_n H rfl d4_73 ?_
            refine own_iload_n H rfl d4_74 ?_
            refine own_iconst H (1 : Int32) (by decide) d4_75 ?_
            refine own_iushr H rfl d4_76 ?_
            refine own_isub H rfl d4_77 ?_
            exact own_ireturn H (by simp) rfl d4_78 (Nat.le_refl _) (Nat.le_refl _) ⟨by show some _ = some _; rw [FNlz, if_pos c1, if_pos c2, if_neg c3, if_neg c7, if_pos c9], rfl⟩
          ·
            refine own_icmplt_f H d4_63 c9 ?_
            refine own_iinc H (-2 : Int32) (by decide) rfl (by decide) #[.val (.int (XT.ushr (XT.ushr p1 (8 : Int32)) (4 : Int32))), .val (.int (17 : Int32))] rfl d4_66 ?_
            refine own_iload_n H rfl d4_69 ?_
            refine own_iconst H (2 : Int32) (by decide) d4_70 ?_
            refine own_iushr H rfl d4_71 ?_
            refine own_istore_n H #[.val (.int (XT.ushr (XT.ushr (XT.ushr p1 (8 : Int32)) (4 : Int32)) (2 : Int32))), .val (.int (17 : Int32))] rfl d4_72 ?_
            refine own_iload_n H rfl d4_73 ?_
            refine own_iload_n H rfl d4_74 ?_
            refine own_iconst H (1 : Int32) (by decide) d4_75 ?_
            refine own_iushr H rfl d4_76 ?_
            refine own_isub H rfl d4_77 ?_
            exact own_ireturn H (by simp) rfl d4_78 (Nat.le_refl _) (Nat.le_refl _) ⟨by show some _ = some _; rw [FNlz, if_pos c1, if_pos c2, if_neg c3, if_neg c7, if_neg c9], rfl⟩
    ·
      refine own_icmplt_f H d4_22 c2 ?_
      refine own_iinc H (-16 : Int32) (by decide) rfl (by decide) #[.val (.int p1), .val (.int (15 : Int32))] rfl d4_25 ?_
      refine own_iload_n H rfl d4_28 ?_
      refine own_bipush H (16 : Int32) (by decide) d4_29 ?_
      refine own_iushr H rfl d4_31 ?_
      refine own_istore_n H #[.val (.int (XT.ushr p1 (16 : Int32))), .val (.int (15 : Int32))] rfl d4_32 ?_
      refine own_iload_n H rfl d4_33 ?_
      refine own_sipush H (256 : Int32) (by decide) d4_34 ?_
      by_cases c10 : (XT.ushr p1 (16 : Int32)) < (256 : Int32)
      ·
        refine own_icmplt_t H (pc' := 48) d4_37 (by decide) (by decide) c10 ?_
        refine own_iload_n H rfl d4_48 ?_
        refine own_bipush H (16 : Int32) (by decide) d4_49 ?_
        by_cases c11 : (XT.ushr p1 (16 : Int32)) < (16 : Int32)
        ·
          refine own_icmplt_t H (pc' := 61) d4_51 (by decide) (by decide) c11 ?_
          refine own_iload_n H rfl d4_61 ?_
          refine own_iconst H (4 : Int32) (by decide) d4_62 ?_
          by_cases c12 : (XT.ushr p1 (16 : Int32)) < (4 : Int32)
          ·
            refine own_icmplt_t H (pc' := 73) d4_63 (by decide) (by decide) c12 ?_
            refine own_iload_n H rfl d4_73 ?_
            refine own_iload_n H rfl d4_74 ?_
            refine own_iconst H (1 : Int32) (by decide) d4_75 ?_
            refine own_iushr H rfl d4_76 ?_
            refine own_isub H rfl d4_77 ?_
            exact own_ireturn H (by simp) rfl d4_78 (Nat.le_refl _) (Nat.le_refl _) ⟨by show some _ = some _; rw [FNlz, if_pos c1, if_neg c2, if_pos c10, if_pos c11, if_pos c12], rfl⟩
          ·
            refine own_icmplt_f H d4_63 c12 ?_
            refine own_iinc H (-2 : Int32) (by decide) rfl (by decide) #[.val (.int (XT.ushr p1 (16 : Int32))), .val (.int (13 : Int32))] rfl d4_66 ?_
            refine own_iload_n H rfl d4_69 ?_
            refine own_iconst H (2 : Int32) (by decide) d4_70 ?_
            refine own_iushr H rfl d4_71 ?_
            refine own_istore_n H #[.val (.int (XT.ushr (XT.ushr p1 (16 : Int32)) (2 : Int32))), .val (.int (13 : Int32))] rfl d4_72 ?_
            refine own_iload_n H rfl d4_73 ?_
            refine own_iload_n H rfl d4_74 ?_
            refine own_iconst H (1 : Int32) (by decide) d4_75 ?_
            refine own_iushr H rfl d4_76 ?_
            refine own_isub H rfl d4_77 ?_
            exact own_ireturn H (by simp) rfl d4_78 (Nat.le_refl _) (Nat.le_refl _) ⟨by show some _ = some _; rw [FNlz, if_pos c1, if_neg c2, if_pos c10, if_pos c11, if_neg c12], rfl⟩
        ·
          refine own_icmplt_f H d4_51 c11 ?_
          refine own_iinc H (-4 : Int32) (by decide) rfl (by decide) #[.val (.int (XT.ushr p1 (16 : Int32))), .val (.int (11 : Int32))] rfl d4_54 ?_
          refine own_iload_n H rfl d4_57 ?_
          refine own_iconst H (4 : Int32) (by decide) d4_58 ?_
          refine own_iushr H rfl d4_59 ?_
          refine own_istore_n H #[.val (.int (XT.ushr (XT.ushr p1 (16 : Int32)) (4 : Int32))), .val (.int (11 : Int32))] rfl d4_60 ?_
          refine own_iload_n H rfl d4_61 ?_
          refine own_iconst H (4 : Int32) (by decide) d4_62 ?_
          by_cases c13 : (XT.ushr (XT.ushr p1 (16 : Int32)) (4 : Int32)) < (4 : Int32)
          ·
            refine own_icmplt_t H (pc' := 73) d4_63 (by decide) (by decide) c13 ?_
            refine own_iload_n H rfl d4_73 ?_
            refine own_iload_n H rfl d4_74 ?_
            refine own_iconst H (1 : Int32) (by decide) d4_75 ?_
            refine own_iushr H rfl d4_76 ?_
            refine own_isub H rfl d4_77 ?_
            exact own_ireturn H (by simp) rfl d4_78 (Nat.le_refl _) (Nat.le_refl _) ⟨by show some _ = some _; rw [FNlz, if_pos c1, if_neg c2, if_pos c10, if_neg c11, if_pos c13], rfl⟩
          ·
            refine own_icmplt_f H d4_63 c13 ?_
            refine own_iinc H (-2 : Int32) (by decide) rfl (by decide) #[.val (.int (XT.ushr (XT.ushr p1 (16 : Int32)) (4 : Int32))), .val (.int (9 : Int32))] rfl d4_66 ?_
            refine own_iload_n H rfl d4_69 ?_
            refine own_iconst H (2 : Int32) (by decide) d4_70 ?_
            refine own_iushr H rfl d4_71 ?_
            refine own_istore_n H #[.val (.int (XT.ushr (XT.ushr (XT.ushr p1 (16 : Int32)) (4 : Int32)) (2 : Int32))), .val (.int (9 : Int32))] rfl d4_72 ?_
            refine own_iload_n H rfl d4_73 ?_
            refine own_iload_n H rfl d4_74 ?_
            refine own_iconst H (1 : Int32) (by decide) d4_75 ?_
            refine own_iushr H rfl d4_76 ?_
            refine own_isub H rfl d4_77 ?_
            exact own_ireturn H (by simp) rfl d4_78 (Nat.le_refl _) (Nat.le_refl _) ⟨by show some _ = some _; rw [FNlz, if_pos c1, if_neg c2, if_pos c10, if_neg c11, if_neg c13], rfl⟩
      ·
        refine own_icmplt_f H d4_37 c10 ?_
        refine own_iinc H (-8 : Int32) (by decide) rfl (by decide) #[.val (.int (XT.ushr p1 (16 : Int32))), .val (.int (7 : Int32))] rfl d4_40 ?_
        refine own_iload_n H rfl d4_43 ?_
        refine own_bipush H (8 : Int32) (by decide) d4_44 ?_
        refine own_iushr H rfl d4_46 ?_
        refine own_istore_n H #[.val (.int (XT.ushr (XT.ushr p1 (16 : Int32)) (8 : Int32))), .val (.int (7 : Int32))] rfl d4_47 ?_
        refine own_iload_n H rfl d4_48 ?_
        refine own_bipush H (16 : Int32) (by decide) d4_49 ?_
        by_cases c14 : (XT.ushr (XT.ushr p1 (16 : Int32)) (8 : Int32)) < (16 : Int32)
        ·
          refine own_icmplt_t H (pc' := 61) d4_51 (by decide) (by decide) c14 ?_
          refine own_iload_n H rfl d4_61 ?_
          refine own_iconst H (4 : Int32) (by decide) d4_62 ?_
          by_cases c15 : (XT.ushr (XT.ushr p1 (16 : Int32)) (8 : Int32)) < (4 : Int32)
          ·
            refine own_icmplt_t H (pc' := 73) d4_63 (by decide) (by decide) c15 ?_
            refine own_iload_n H rfl d4_73 ?_
            refine own_iload_n H rfl d4_74 ?_
            refine own_iconst H (1 : Int32) (by decide) d4_75 ?_
            refine own_iushr H rfl d4_76 ?_
            refine own_isub H rfl d4_77 ?_
            exact own_ireturn H (by simp) rfl d4_78 (Nat.le_refl _) (Nat.le_refl _) ⟨by show some _ = some _; rw [FNlz, if_pos c1, if_neg c2, if_neg c10, if_pos c14, if_pos c15], rfl⟩
          ·
            refine own_icmplt_f H d4_63 c15 ?_
            refine own_iinc H (-2 : Int32) (by decide) rfl (by decide) #[.val (.int (XT.ushr (XT.ushr p1 (16 : Int32)) (8 : Int32))), .val (.int (5 : Int32))] rfl d4_66 ?_
            refine own_iload_n H rfl d4_69 ?_
            refine own_iconst H (2 : Int32) (by decide) d4_70 ?_
            refine own_iushr H rfl d4_71 ?_
            refine own_istore_n H #[.val (.int (XT.ushr (XT.ushr (XT.ushr p1 (16 : Int32)) (8 : Int32)) (2 : Int32))), .val (.int (5 : Int32))] rfl d4_72 ?_
            refine own_iload_n H rfl d4_73 ?_
            refine own_iload_n H rfl d4_74 ?_
            refine own_iconst H (1 : Int32) (by decide) d4_75 ?_
            refine own_iushr H rfl d4_76 ?_
            refine own_isub H rfl d4_77 ?_
            exact own_ireturn H (by simp) rfl d4_78 (Nat.le_refl _) (Nat.le_refl _) ⟨by show some _ = some _; rw [FNlz, if_pos c1, if_neg c2, if_neg c10, if_pos c14, if_neg c15], rfl⟩
        ·
          refine own_icmplt_f H d4_51 c14 ?_
          refine own_iinc H (-4 : Int32) (by decide) rfl (by decide) #[.val (.int (XT.ushr (XT.ushr p1 (16 : Int32)) (8 : Int32))), .val (.int (3 : Int32))] rfl d4_54 ?_
          refine own_iload_n H rfl d4_57 ?_
          refine own_iconst H (4 : Int32) (by decide) d4_58 ?_
          refine own_iushr H rfl d4_59 ?_
          refine own_istore_n H #[.val (.int (XT.ushr (XT.ushr (XT.ushr p1 (16 : Int32)) (8 : Int32)) (4 : Int32))), .val (.int (3 : Int32))] rfl d4_60 ?_
          refine own_iload_n H rfl d4_61 ?_
          refine own_iconst H (4 : Int32) (by decide) d4_62 ?_
          by_cases c16 : (XT.ushr (XT.ushr (XT.ushr p1 (16 : Int32)) (8 : Int32)) (4 : Int32)) < (4 : Int32)
          ·
            refine own_icmplt_t H (pc' := 73) d4_63 (by decide) (by decide) c16 ?_
            refine own_iload_n H rfl d4_73 ?_
            refine own_iload_n H rfl d4_74 ?_
            refine own_iconst H (1 : Int32) (by decide) d4_75 ?_
            refine own_iushr H rfl d4_76 ?_
            refine own_isub H rfl d4_77 ?_
            exact own_ireturn H (by simp) rfl d4_78 (Nat.le_refl _) (Nat.le_refl _) ⟨by show some _ = some _; rw [FNlz, if_pos c1, if_neg c2, if_neg c10, if_neg c14, if_pos c16], rfl⟩
          ·
            refine own_icmplt_f H d4_63 c16 ?_
            refine own_iinc H (-2 : Int32) (by decide) rfl (by decide) #[.val (.int (XT.ushr (XT.ushr (XT.ushr p1 (16 : Int32)) (8 : Int32)) (4 : Int32))), .val (.int (1 : Int32))] rfl d4_66 ?_
            refine own_iload_n H rfl d4_69 ?_
            refine own_iconst H (2 : Int32) (by decide) d4_70 ?_
            refine own_iushr H rfl d4_71 ?_
            refine own_istore_n H #[.val (.int (XT.ushr (XT.ushr (XT.ushr (XT.ushr p1 (16 : Int32)) (8 : Int32)) (4 : Int32)) (2 : Int32))), .val (.int (1 : Int32))] rfl d4_72 ?_
            refine own_iload_n H rfl d4_73 ?_
            refine own_iload_n H rfl d4_74 ?_
            refine own_iconst H (1 : Int32) (by decide) d4_75 ?_
            refine own_iushr H rfl d4_76 ?_
            refine own_isub H rfl d4_77 ?_
            exact own_ireturn H (by simp) rfl d4_78 (Nat.le_refl _) (Nat.le_refl _) ⟨by show some _ = some _; rw [FNlz, if_pos c1, if_neg c2, if_neg c10, if_neg c14, if_neg c16], rfl⟩
  ·
    refine own_ifgt_f H d4_1 c1 ?_
    refine own_iload_n H rfl d4_4 ?_
    by_cases c17 : p1 = 0
    ·
      refine own_ifne_f H d4_5 c17 ?_
      refine own_bipush H (32 : Int32) (by decide) d4_8 ?_
      refine own_goto H (pc' := 14) d4_10 (by decide) (by decide) ?_
      exact own_ireturn H (by simp) rfl d4_14 (Nat.le_refl _) (Nat.le_refl _) ⟨by show some _ = some _; rw [FNlz, if_neg c1, if_pos c17], rfl⟩
    ·
      refine own_ifne_t H (pc' := 13) d4_5 (by decide) (by decide) c17 ?_
      refine own_iconst H (0 : Int32) (by decide) d4_13 ?_
      exact own_ireturn H (by simp) rfl d4_14 (Nat.le_refl _) (Nat.le_refl _) ⟨by show some _ = some _; rw [FNlz, if_neg c1, if_neg c17], rfl⟩
theorem d3_0 : decode jdk_35_method_48_code 0 = .ok (.lload_n 0, 1) := by decide +kernel
theorem d3_1 : decode jdk_35_method_48_code 1 = .ok (.bipush 32, 2) := by decide +kernel
theorem d3_3 : decode jdk_35_method_48_code 3 = .ok (.lushr, 1) := by decide +kernel
theorem d3_4 : decode jdk_35_method_48_code 4 = .ok (.l2i, 1) := by decide +kernel
theorem d3_5 : decode jdk_35_method_48_code 5 = .ok (.istore_n 2, 1) := by decide +kernel
theorem d3_6 : decode jdk_35_method_48_code 6 = .ok (.iload_n 2, 1) := by decide +kernel
theorem d3_7 : decode jdk_35_method_48_code 7 = .ok (.ifCond .ne 14, 3) := by decide +kernel
theorem d3_10 : decode jdk_35_method_48_code 10 = .ok (.bipush 32, 2) := by decide +kernel
theorem d3_12 : decode jdk_35_method_48_code 12 = .ok (.lload_n 0, 1) := by decide +kernel
theorem d3_13 : decode jdk_35_method_48_code 13 = .ok (.l2i, 1) := by decide +kernel
theorem d3_14 : decode jdk_35_method_48_code 14 = .ok (.invokestatic 308, 3) := by decide +kernel
theorem d3_17 : decode jdk_35_method_48_code 17 = .ok (.iadd, 1) := by decide +kernel
theorem d3_18 : decode jdk_35_method_48_code 18 = .ok (.goto 7, 3) := by decide +kernel
theorem d3_21 : decode jdk_35_method_48_code 21 = .ok (.iload_n 2, 1) := by decide +kernel
theorem d3_22 : decode jdk_35_method_48_code 22 = .ok (.invokestatic 308, 3) := by decide +kernel
theorem d3_25 : decode jdk_35_method_48_code 25 = .ok (.ireturn, 1) := by decide +kernel
theorem own_pl3 : plainFor (⟨"java/lang/Long", "numberOfLeadingZeros", "(J)I"⟩ : MethodName) = true := plainFor_of_name (by first | (simp [plainName, overriddenIn]; done) | decide +kernel)
theorem own_pd1 : parseMethodDescriptor "(J)I" = some ⟨[.long], some .int⟩ := by decide +kernel
def FNlzL (p1 : Int64) : Int32 := if ((XT.ushrL p1 (32 : Int32)).toInt32) = 0 then ((32 : Int32) + (FNlz (p1.toInt32))) else (FNlz ((XT.ushrL p1 (32 : Int32)).toInt32))
set_option maxHeartbeats 4000000 in
theorem rmNlzL (l : Launch) (Z : State) (a0 : Array Value) (hw : ∀ (i : Nat) (d : Jvm.Cond), tables_1[i]? = some d → d.before a0 Z = true) (h0 : Heap) (n0 : Nat) (p1 : Int64) :
    own_P l Z (⟨"java/lang/Long", "numberOfLeadingZeros", "(J)I"⟩ : MethodName) jdk_35_method_48_code 3 (some .int) (own_rm 1 14) #[(.long p1)] h0 n0 (.int (FNlzL p1)) := by
  refine own_met (Ls := #[.val (.long p1), .second, .unset]) hw own_pl3 (fun m => by first | (simp [entryFrame, mkF, argsToLocals, Value.category]; done) | rfl) ?_
  intro B H
  refine own_lload_n H rfl d3_0 ?_
  refine own_bipush H (32 : Int32) (by decide) d3_1 ?_
  refine own_lushr H rfl d3_3 ?_
  refine own_l2i H rfl d3_4 ?_
  refine own_istore_n H #[.val (.long p1), .second, .val (.int ((XT.ushrL p1 (32 : Int32)).toInt32))] rfl d3_5 ?_
  refine own_iload_n H rfl d3_6 ?_
  by_cases c1 : ((XT.ushrL p1 (32 : Int32)).toInt32) = 0
  ·
    refine own_ifne_f H d3_7 c1 ?_
    refine own_bipush H (32 : Int32) (by decide) d3_10 ?_
    refine own_lload_n H rfl d3_12 ?_
    refine own_l2i H rfl d3_13 ?_
    refine own_invokestatic H (argsL := [(.int (p1.toInt32))]) (rest := [(.int (32 : Int32))]) (rmNlz l Z a0 (own_hw H) h0 n0 (p1.toInt32)) (w1 := 18) (w2 := 19) (w3 := 20) (w4 := 21) rfl rfl rfl rfl own_pd0 rfl 1 (by decide) rfl (by decide) (Nat.le_of_eq rfl) (by decide) (by decide) (by decide) rfl d3_14 ?_
    rintro _ _ ⟨rfl, rfl⟩
    show own_G _ _ _ _ _ _ _ _ 17 #[.val (.long p1), .second, .val (.int ((XT.ushrL p1 (32 : Int32)).toInt32))] [(.int (FNlz (p1.toInt32))), (.int (32 : Int32))]
    refine own_iadd H rfl d3_17 ?_
    refine own_goto H (pc' := 25) d3_18 (by decide) (by decide) ?_
    exact own_ireturn H (by simp) rfl d3_25 (Nat.le_refl _) (Nat.le_refl _) ⟨by show some _ = some _; rw [FNlzL, if_pos c1], rfl⟩
  ·
    refine own_ifne_t H (pc' := 21) d3_7 (by decide) (by decide) c1 ?_
    refine own_iload_n H rfl d3_21 ?_
    refine own_invokestatic H (argsL := [(.int ((XT.ushrL p1 (32 : Int32)).toInt32))]) (rest := []) (rmNlz l Z a0 (own_hw H) h0 n0 ((XT.ushrL p1 (32 : Int32)).toInt32)) (w1 := 18) (w2 := 19) (w3 := 20) (w4 := 21) rfl rfl rfl rfl own_pd0 rfl 0 (by decide) rfl (by decide) (Nat.le_of_eq rfl) (by decide) (by decide) (by decide) rfl d3_22 ?_
    rintro _ _ ⟨rfl, rfl⟩
    show own_G _ _ _ _ _ _ _ _ 25 #[.val (.long p1), .second, .val (.int ((XT.ushrL p1 (32 : Int32)).toInt32))] [(.int (FNlz ((XT.ushrL p1 (32 : Int32)).toInt32)))]
    exact own_ireturn H (by simp) rfl d3_25 (Nat.le_refl _) (Nat.le_refl _) ⟨by show some _ = some _; rw [FNlzL, if_neg c1], rfl⟩
theorem d5_0 : decode jdk_29_method_65_code 0 = .ok (.iload_n 0, 1) := by decide +kernel
theorem d5_1 : decode jdk_29_method_65_code 1 = .ok (.iload_n 1, 1) := by decide +kernel
theorem d5_2 : decode jdk_29_method_65_code 2 = .ok (.if_icmp .lt 7, 3) := by decide +kernel
theorem d5_5 : decode jdk_29_method_65_code 5 = .ok (.iload_n 0, 1) := by decide +kernel
theorem d5_6 : decode jdk_29_method_65_code 6 = .ok (.goto 4, 3) := by decide +kernel
theorem d5_9 : decode jdk_29_method_65_code 9 = .ok (.iload_n 1, 1) := by decide +kernel
theorem d5_10 : decode jdk_29_method_65_code 10 = .ok (.ireturn, 1) := by decide +kernel
theorem own_pl5 : plainFor (⟨"java/lang/Math", "max", "(II)I"⟩ : MethodName) = true := Jvm.Free.JP.mathPlain rfl (by decide +kernel)
theorem own_pd2 : parseMethodDescriptor "(II)I" = some ⟨[.int, .int], some .int⟩ := by decide +kernel
def FMaxI (p1 : Int32) (p2 : Int32) : Int32 := if p1 < p2 then p2 else p1
set_option maxHeartbeats 4000000 in
theorem rmMaxI (l : Launch) (Z : State) (a0 : Array Value) (hw : ∀ (i : Nat) (d : Jvm.Cond), tables_1[i]? = some d → d.before a0 Z = true) (h0 : Heap) (n0 : Nat) (p1 : Int32) (p2 : Int32) :
    own_P l Z (⟨"java/lang/Math", "max", "(II)I"⟩ : MethodName) jdk_29_method_65_code 2 (some .int) (own_rm 0 0) #[(.int p1), (.int p2)] h0 n0 (.int (FMaxI p1 p2)) := by
  refine own_met (Ls := #[.val (.int p1), .val (.int p2)]) hw own_pl5 (fun m => by first | (simp [entryFrame, mkF, argsToLocals, Value.category]; done) | rfl) ?_
  intro B H
  refine own_iload_n H rfl d5_0 ?_
  refine own_iload_n H rfl d5_1 ?_
  by_cases c1 : p1 < p2
  ·
    refine own_icmplt_t H (pc' := 9) d5_2 (by decide) (by decide) c1 ?_
    refine own_iload_n H rfl d5_9 ?_
    exact own_ireturn H (by simp) rfl d5_10 (Nat.le_refl _) (Nat.le_refl _) ⟨by show some _ = some _; rw [FMaxI, if_pos c1], rfl⟩
  ·
    refine own_icmplt_f H d5_2 c1 ?_
    refine own_iload_n H rfl d5_5 ?_
    refine own_goto H (pc' := 10) d5_6 (by decide) (by decide) ?_
    exact own_ireturn H (by simp) rfl d5_10 (Nat.le_refl _) (Nat.le_refl _) ⟨by show some _ = some _; rw [FMaxI, if_neg c1], rfl⟩
def FLev (q1 : Int64) : Int32 := FMaxI (1 : Int32) ((((64 : Int32) - (FNlzL (q1 - (1 : Int64)))) + (6 : Int32) - (1 : Int32)) / (6 : Int32))
theorem own_ushr (x : Int32) (k : Int32) (s : Nat) (hs : s < 32) (hk : (k &&& 31).toUInt32.toNat = s) (hx : 0 ≤ x.toInt) (h1 : 0 < s) : (XT.ushr x k).toInt = x.toInt / 2 ^ s := by
  have h : (XT.ushr x k).toBitVec.toNat = x.toBitVec.toNat / 2 ^ s := by
    have h : (XT.ushr x k).toBitVec.toNat = (x.toUInt32 >>> (k &&& 31).toUInt32).toNat := rfl
    rw [h, UInt32.toNat_shiftRight, hk, Nat.mod_eq_of_lt hs, Nat.shiftRight_eq_div_pow]
    rfl
  have hxx : x.toInt = x.toBitVec.toNat := by
    have : x.toInt = x.toBitVec.toInt := rfl
    rw [this, BitVec.toInt_eq_toNat_cond] at hx ⊢
    have := x.toBitVec.isLt
    split at hx <;> split <;> omega
  have hl : x.toBitVec.toNat / 2 ^ s ≤ x.toBitVec.toNat := Nat.div_le_self _ _
  have hb : x.toBitVec.toNat < 2 ^ 31 := by have := x.toInt_lt; omega
  show (XT.ushr x k).toBitVec.toInt = _
  rw [BitVec.toInt_eq_toNat_cond, if_pos (by omega), h, hxx]
  simp
theorem own_u1 (x : Int32) (hx : 0 ≤ x.toInt) : (XT.ushr x (1 : Int32)).toInt = x.toInt / 2 := own_ushr x 1 1 (by decide) (by decide) hx (by decide)
theorem own_u2 (x : Int32) (hx : 0 ≤ x.toInt) : (XT.ushr x (2 : Int32)).toInt = x.toInt / 4 := own_ushr x 2 2 (by decide) (by decide) hx (by decide)
theorem own_u4 (x : Int32) (hx : 0 ≤ x.toInt) : (XT.ushr x (4 : Int32)).toInt = x.toInt / 16 := own_ushr x 4 4 (by decide) (by decide) hx (by decide)
theorem own_u8 (x : Int32) (hx : 0 ≤ x.toInt) : (XT.ushr x (8 : Int32)).toInt = x.toInt / 256 := own_ushr x 8 8 (by decide) (by decide) hx (by decide)
theorem own_u16 (x : Int32) (hx : 0 ≤ x.toInt) : (XT.ushr x (16 : Int32)).toInt = x.toInt / 65536 := own_ushr x 16 16 (by decide) (by decide) hx (by decide)
theorem own_leaf (c : Int32) (hn : 1 ≤ c.toInt) (hn2 : c.toInt ≤ 31) (y : Int32) (h0 : 0 ≤ y.toInt) (h4 : y.toInt < 4) : 0 ≤ (c - XT.ushr y (1 : Int32)).toInt ∧ (c - XT.ushr y (1 : Int32)).toInt ≤ 32 := by
  have e := own_u1 y h0
  rw [XT.sub32 ⟨by rw [e]; omega, by rw [e]; omega⟩, e]
  omega
theorem own_nlz (a : Int32) : 0 ≤ (FNlz a).toInt ∧ (FNlz a).toInt ≤ 32 := by
  have l0 : (0 : Int32).toInt = 0 := rfl
  have l4 : (4 : Int32).toInt = 4 := by decide
  have l16 : (16 : Int32).toInt = 16 := by decide
  have l256 : (256 : Int32).toInt = 256 := by decide
  have l65 : (65536 : Int32).toInt = 65536 := by decide
  have r := a.toInt_lt
  unfold FNlz
  simp only [Int32.lt_iff_toInt_lt, l0, l4, l16, l256, l65]
  by_cases c : 0 < a.toInt
  · rw [if_pos c]
    have h0 : 0 ≤ a.toInt := by omega
    have e16 := own_u16 a h0
    have e8 := own_u8 a h0
    have e4 := own_u4 a h0
    have e2 := own_u2 a h0
    have f8 := own_u8 (XT.ushr a 16) (by rw [e16]; omega)
    have f4 := own_u4 (XT.ushr a 16) (by rw [e16]; omega)
    have f2 := own_u2 (XT.ushr a 16) (by rw [e16]; omega)
    have g4 := own_u4 (XT.ushr a 8) (by rw [e8]; omega)
    have g2 := own_u2 (XT.ushr a 8) (by rw [e8]; omega)
    have i2 := own_u2 (XT.ushr a 4) (by rw [e4]; omega)
    have k4 := own_u4 (XT.ushr (XT.ushr a 16) 8) (by rw [f8, e16]; omega)
    have k2 := own_u2 (XT.ushr (XT.ushr a 16) 8) (by rw [f8, e16]; omega)
    have m2 := own_u2 (XT.ushr (XT.ushr a 16) 4) (by rw [f4, e16]; omega)
    have n2 := own_u2 (XT.ushr (XT.ushr a 8) 4) (by rw [g4, e8]; omega)
    have o2 := own_u2 (XT.ushr (XT.ushr (XT.ushr a 16) 8) 4) (by rw [k4, f8, e16]; omega)
    repeat' split
    all_goals exact own_leaf _ (by decide) (by decide) _ (by omega) (by omega)
  · rw [if_neg c]
    split <;> decide
theorem own_nlzL (a : Int64) : 0 ≤ (FNlzL a).toInt ∧ (FNlzL a).toInt ≤ 64 := by
  unfold FNlzL
  split
  · have h := own_nlz a.toInt32
    have l : (32 : Int32).toInt = 32 := by decide
    rw [XT.add32 ⟨by rw [l]; omega, by rw [l]; omega⟩, l]
    omega
  · have h := own_nlz (XT.ushrL a 32).toInt32
    omega
theorem own_lev (q : Int64) : 1 ≤ (FLev q).toInt ∧ (FLev q).toInt ≤ 11 := by
  have h := own_nlzL (q - (1 : Int64))
  have l64 : (64 : Int32).toInt = 64 := by decide
  have l6 : (6 : Int32).toInt = 6 := by decide
  have l1 : (1 : Int32).toInt = 1 := by decide
  unfold FLev FMaxI
  generalize FNlzL (q - (1 : Int64)) = z at *
  have e1 : ((64 : Int32) - z).toInt = 64 - z.toInt := by rw [XT.sub32 ⟨by rw [l64]; omega, by rw [l64]; omega⟩, l64]
  have e2 : ((64 : Int32) - z + (6 : Int32)).toInt = 64 - z.toInt + 6 := by rw [XT.add32 ⟨by rw [e1, l6]; omega, by rw [e1, l6]; omega⟩, e1, l6]
  have e3 : ((64 : Int32) - z + (6 : Int32) - (1 : Int32)).toInt = 64 - z.toInt + 6 - 1 := by rw [XT.sub32 ⟨by rw [e2, l1]; omega, by rw [e2, l1]; omega⟩, e2, l1]
  have e4 : (((64 : Int32) - z + (6 : Int32) - (1 : Int32)) / (6 : Int32)).toInt = (64 - z.toInt + 6 - 1) / 6 := by rw [Int32.toInt_div_of_ne_right _ _ (by decide), e3, l6, Int.tdiv_eq_ediv_of_nonneg (by omega)]
  split
  · rename_i c
    rw [Int32.lt_iff_toInt_lt, e4, l1] at c
    rw [e4]; omega
  · rw [l1]; omega
theorem own_lev1 (q : Int64) : ¬ FLev q < 0 := by
  have h := own_lev q
  have l0 : (0 : Int32).toInt = 0 := rfl
  rw [Int32.lt_iff_toInt_lt]
  omega
theorem own_lev2 (q : Int64) : (FLev q).toNatClampNeg ≤ 11 := by
  have h := own_lev q
  show (FLev q).toInt.toNat ≤ 11
  omega
theorem own_lev34 (q : Int64) : (FLev q * (64 : Int32)).toInt = (FLev q).toInt * 64 := by
  have h := own_lev q
  have l64 : (64 : Int32).toInt = 64 := by decide
  rw [XT.mul32 ⟨by rw [l64]; omega, by rw [l64]; omega⟩, l64]
theorem own_lev3 (q : Int64) : ¬ FLev q * (64 : Int32) < 0 := by
  have h := own_lev q
  have l0 : (0 : Int32).toInt = 0 := rfl
  rw [Int32.lt_iff_toInt_lt, own_lev34]
  omega
theorem own_lev4 (q : Int64) : (FLev q * (64 : Int32)).toNatClampNeg ≤ 704 := by
  have h := own_lev q
  show (FLev q * (64 : Int32)).toInt.toNat ≤ 704
  rw [own_lev34]
  omega

theorem d1_0 : decode prog_11_method_1_code 0 = .ok (.aload_n 0, 1) := by decide +kernel
theorem d1_1 : decode prog_11_method_1_code 1 = .ok (.invokespecial 3, 3) := by decide +kernel
theorem d1_4 : decode prog_11_method_1_code 4 = .ok (.aload_n 0, 1) := by decide +kernel
theorem d1_5 : decode prog_11_method_1_code 5 = .ok (.lload_n 1, 1) := by decide +kernel
theorem d1_6 : decode prog_11_method_1_code 6 = .ok (.putfield 9, 3) := by decide +kernel
theorem d1_9 : decode prog_11_method_1_code 9 = .ok (.bipush 64, 2) := by decide +kernel
theorem d1_11 : decode prog_11_method_1_code 11 = .ok (.lload_n 1, 1) := by decide +kernel
theorem d1_12 : decode prog_11_method_1_code 12 = .ok (.lconst 1, 1) := by decide +kernel
theorem d1_13 : decode prog_11_method_1_code 13 = .ok (.lsub, 1) := by decide +kernel
theorem d1_14 : decode prog_11_method_1_code 14 = .ok (.invokestatic 15, 3) := by decide +kernel
theorem d1_17 : decode prog_11_method_1_code 17 = .ok (.isub, 1) := by decide +kernel
theorem d1_18 : decode prog_11_method_1_code 18 = .ok (.istore 5, 2) := by decide +kernel
theorem d1_20 : decode prog_11_method_1_code 20 = .ok (.aload_n 0, 1) := by decide +kernel
theorem d1_21 : decode prog_11_method_1_code 21 = .ok (.iconst 1, 1) := by decide +kernel
theorem d1_22 : decode prog_11_method_1_code 22 = .ok (.iload 5, 2) := by decide +kernel
theorem d1_24 : decode prog_11_method_1_code 24 = .ok (.bipush 6, 2) := by decide +kernel
theorem d1_26 : decode prog_11_method_1_code 26 = .ok (.iadd, 1) := by decide +kernel
theorem d1_27 : decode prog_11_method_1_code 27 = .ok (.iconst 1, 1) := by decide +kernel
theorem d1_28 : decode prog_11_method_1_code 28 = .ok (.isub, 1) := by decide +kernel
theorem d1_29 : decode prog_11_method_1_code 29 = .ok (.bipush 6, 2) := by decide +kernel
theorem d1_31 : decode prog_11_method_1_code 31 = .ok (.idiv, 1) := by decide +kernel
theorem d1_32 : decode prog_11_method_1_code 32 = .ok (.invokestatic 19, 3) := by decide +kernel
theorem d1_35 : decode prog_11_method_1_code 35 = .ok (.putfield 25, 3) := by decide +kernel
theorem d1_38 : decode prog_11_method_1_code 38 = .ok (.aload_n 0, 1) := by decide +kernel
theorem d1_39 : decode prog_11_method_1_code 39 = .ok (.aload_n 0, 1) := by decide +kernel
theorem d1_40 : decode prog_11_method_1_code 40 = .ok (.getfield 25, 3) := by decide +kernel
theorem d1_43 : decode prog_11_method_1_code 43 = .ok (.bipush 64, 2) := by decide +kernel
theorem d1_45 : decode prog_11_method_1_code 45 = .ok (.imul, 1) := by decide +kernel
theorem d1_46 : decode prog_11_method_1_code 46 = .ok (.anewarray 29, 3) := by decide +kernel
theorem d1_49 : decode prog_11_method_1_code 49 = .ok (.putfield 31, 3) := by decide +kernel
theorem d1_52 : decode prog_11_method_1_code 52 = .ok (.aload_n 0, 1) := by decide +kernel
theorem d1_53 : decode prog_11_method_1_code 53 = .ok (.aload_n 0, 1) := by decide +kernel
theorem d1_54 : decode prog_11_method_1_code 54 = .ok (.getfield 25, 3) := by decide +kernel
theorem d1_57 : decode prog_11_method_1_code 57 = .ok (.bipush 64, 2) := by decide +kernel
theorem d1_59 : decode prog_11_method_1_code 59 = .ok (.imul, 1) := by decide +kernel
theorem d1_60 : decode prog_11_method_1_code 60 = .ok (.anewarray 29, 3) := by decide +kernel
theorem d1_63 : decode prog_11_method_1_code 63 = .ok (.putfield 35, 3) := by decide +kernel
theorem d1_66 : decode prog_11_method_1_code 66 = .ok (.aload_n 0, 1) := by decide +kernel
theorem d1_67 : decode prog_11_method_1_code 67 = .ok (.aload_n 0, 1) := by decide +kernel
theorem d1_68 : decode prog_11_method_1_code 68 = .ok (.getfield 25, 3) := by decide +kernel
theorem d1_71 : decode prog_11_method_1_code 71 = .ok (.newarray .long, 2) := by decide +kernel
theorem d1_73 : decode prog_11_method_1_code 73 = .ok (.putfield 38, 3) := by decide +kernel
theorem d1_76 : decode prog_11_method_1_code 76 = .ok (.aload_n 0, 1) := by decide +kernel
theorem d1_77 : decode prog_11_method_1_code 77 = .ok (.lload_n 3, 1) := by decide +kernel
theorem d1_78 : decode prog_11_method_1_code 78 = .ok (.putfield 42, 3) := by decide +kernel
theorem d1_81 : decode prog_11_method_1_code 81 = .ok (.return_, 1) := by decide +kernel
theorem own_pl1 : plainFor (⟨"com/example/ring_to_run/ringtorun/TickQueue", "<init>", "(JJ)V"⟩ : MethodName) = true := plainFor_of_name (by first | (simp [plainName, overriddenIn]; done) | decide +kernel)
theorem own_pd3 : parseMethodDescriptor "(JJ)V" = some ⟨[.long, .long], none⟩ := by decide +kernel
set_option maxHeartbeats 4000000 in
theorem rm1 (l : Launch) (Z : State) (a0 : Array Value) (hw : ∀ (i : Nat) (d : Jvm.Cond), tables_1[i]? = some d → d.before a0 Z = true) (h0 : Heap) (n0 : Nat) (a : Addr) (q1 : Int64) (q2 : Int64) (hZ0 : n0 ≤ h0.size) (hE : Exa Z h0 a "com/example/ring_to_run/ringtorun/TickQueue") (hF0 : Fld Z h0 a "com/example/ring_to_run/ringtorun/TickQueue" "tickMillis" "J" (.long (0 : Int64))) (hF1 : Fld Z h0 a "com/example/ring_to_run/ringtorun/TickQueue" "levels" "I" (.int (0 : Int32))) (hF2 : Fld Z h0 a "com/example/ring_to_run/ringtorun/TickQueue" "heads" "[Lcom/example/ring_to_run/ringtorun/Task;" .null) (hF3 : Fld Z h0 a "com/example/ring_to_run/ringtorun/TickQueue" "tails" "[Lcom/example/ring_to_run/ringtorun/Task;" .null) (hF4 : Fld Z h0 a "com/example/ring_to_run/ringtorun/TickQueue" "occupied" "[J" .null) (hF5 : Fld Z h0 a "com/example/ring_to_run/ringtorun/TickQueue" "start" "J" (.long (0 : Int64))) (hA_a : n0 ≤ a) :
    own_C l Z (⟨"com/example/ring_to_run/ringtorun/TickQueue", "<init>", "(JJ)V"⟩ : MethodName) prog_11_method_1_code 6 none ({ frames := 2, cells := 3, slots := 1419, locals := 60 } : Room) #[(.ref a), (.long q1), (.long q2)] h0 n0 (fun v h' => v = none ∧ Keep h0 h' [a] ∧ Fld Z h' a "com/example/ring_to_run/ringtorun/TickQueue" "tickMillis" "J" (.long q1) ∧ Fld Z h' a "com/example/ring_to_run/ringtorun/TickQueue" "start" "J" (.long q2)) := by
  refine own_met (Ls := #[.val (.ref a), .val (.long q1), .second, .val (.long q2), .second, .unset]) hw own_pl1 (fun m => by first | (simp [entryFrame, mkF, argsToLocals, Value.category]; done) | rfl) ?_
  intro B H
  have hK : Keep h0 h0 [a] := Keep.refl _ _
  refine own_aload_n H rfl rfl d1_0 ?_
  refine own_initObject H (w1 := 9) (w2 := 10) (w3 := 11) rfl rfl rfl 0 rfl (by decide) (Nat.le_of_eq rfl) (by decide) d1_1 ?_
  refine own_aload_n H rfl rfl d1_4 ?_
  refine own_lload_n H rfl d1_5 ?_
  refine own_putfield H (w := 12) (wi := 4) rfl hF0 hE hA_a (Or.inr ⟨own_w H (i := 13) rfl, rfl, rfl⟩) rfl (ty := .long) (by decide) rfl rfl d1_6 ?_
  intro h1 W2
  have f3 : Exa Z h1 a "com/example/ring_to_run/ringtorun/TickQueue" := hE.wr W2
  have f4 : Fld Z h1 a "com/example/ring_to_run/ringtorun/TickQueue" "tickMillis" "J" (.long q1) := hF0.same W2
  have f5 : Fld Z h1 a "com/example/ring_to_run/ringtorun/TickQueue" "levels" "I" (.int (0 : Int32)) := hF1.other W2 (Or.inr (slot_ne (Or.inr (own_w H (i := 27) rfl)) (Or.inr (own_w H (i := 13) rfl)) (by decide) (t := .int) (t' := .long) (by decide) (by decide)))
  have f6 : Fld Z h1 a "com/example/ring_to_run/ringtorun/TickQueue" "heads" "[Lcom/example/ring_to_run/ringtorun/Task;" .null := hF2.other W2 (Or.inr (slot_ne (Or.inr (own_w H (i := 31) rfl)) (Or.inr (own_w H (i := 13) rfl)) (by decide) (t := (.array (.object "com/example/ring_to_run/ringtorun/Task"))) (t' := .long) (by decide) (by decide)))
  have f7 : Fld Z h1 a "com/example/ring_to_run/ringtorun/TickQueue" "tails" "[Lcom/example/ring_to_run/ringtorun/Task;" .null := hF3.other W2 (Or.inr (slot_ne (Or.inr (own_w H (i := 33) rfl)) (Or.inr (own_w H (i := 13) rfl)) (by decide) (t := (.array (.object "com/example/ring_to_run/ringtorun/Task"))) (t' := .long) (by decide) (by decide)))
  have f8 : Fld Z h1 a "com/example/ring_to_run/ringtorun/TickQueue" "occupied" "[J" .null := hF4.other W2 (Or.inr (slot_ne (Or.inr (own_w H (i := 36) rfl)) (Or.inr (own_w H (i := 13) rfl)) (by decide) (t := (.array .long)) (t' := .long) (by decide) (by decide)))
  have f9 : Fld Z h1 a "com/example/ring_to_run/ringtorun/TickQueue" "start" "J" (.long (0 : Int64)) := hF5.other W2 (Or.inr (slot_ne (Or.inl (own_w H (i := 38) rfl)) (Or.inr (own_w H (i := 13) rfl)) (by decide) (t := .long) (t' := .long) (by decide) (by decide)))
  have f10 : n0 ≤ h1.size := by rw [W2.size]; exact hZ0
  have f11 : Keep h0 h1 [a] := hK.wr W2 (Or.inl (by simp))
  refine own_bipush H (64 : Int32) (by decide) d1_9 ?_
  refine own_lload_n H rfl d1_11 ?_
  refine own_lconst H (1 : Int64) (by decide) d1_12 ?_
  refine own_lsub H rfl d1_13 ?_
  refine own_invokestatic H (argsL := [(.long (q1 - (1 : Int64)))]) (rest := [(.int (64 : Int32))]) (rmNlzL l Z a0 (own_hw H) h1 n0 (q1 - (1 : Int64))) (w1 := 14) (w2 := 15) (w3 := 16) (w4 := 17) rfl rfl rfl rfl own_pd1 rfl 1 (by decide) rfl (by decide) (Nat.le_of_eq rfl) (by decide) (by decide) (by decide) rfl d1_14 ?_
  rintro _ _ ⟨rfl, rfl⟩
  show own_G _ _ _ _ _ _ _ _ 17 #[.val (.ref a), .val (.long q1), .second, .val (.long q2), .second, .unset] [(.int (FNlzL (q1 - (1 : Int64)))), (.int (64 : Int32))]
  refine own_isub H rfl d1_17 ?_
  refine own_istore H #[.val (.ref a), .val (.long q1), .second, .val (.long q2), .second, .val (.int ((64 : Int32) - (FNlzL (q1 - (1 : Int64)))))] rfl d1_18 ?_
  refine own_aload_n H rfl rfl d1_20 ?_
  refine own_iconst H (1 : Int32) (by decide) d1_21 ?_
  refine own_iload H rfl d1_22 ?_
  refine own_bipush H (6 : Int32) (by decide) d1_24 ?_
  refine own_iadd H rfl d1_26 ?_
  refine own_iconst H (1 : Int32) (by decide) d1_27 ?_
  refine own_isub H rfl d1_28 ?_
  refine own_bipush H (6 : Int32) (by decide) d1_29 ?_
  refine own_idiv H rfl d1_31 (by decide) ?_
  refine own_invokestatic H (argsL := [(.int (1 : Int32)), (.int (((((64 : Int32) - (FNlzL (q1 - (1 : Int64)))) + (6 : Int32)) - (1 : Int32)) / (6 : Int32)))]) (rest := [(.ref a)]) (rmMaxI l Z a0 (own_hw H) h1 n0 (1 : Int32) (((((64 : Int32) - (FNlzL (q1 - (1 : Int64)))) + (6 : Int32)) - (1 : Int32)) / (6 : Int32))) (w1 := 22) (w2 := 23) (w3 := 24) (w4 := 25) rfl rfl rfl rfl own_pd2 rfl 1 (by decide) rfl (by decide) (Nat.le_of_eq rfl) (by decide) (by decide) (by decide) rfl d1_32 ?_
  rintro _ _ ⟨rfl, rfl⟩
  show own_G _ _ _ _ _ _ _ _ 35 #[.val (.ref a), .val (.long q1), .second, .val (.long q2), .second, .val (.int ((64 : Int32) - (FNlzL (q1 - (1 : Int64)))))] [(.int (FMaxI (1 : Int32) (((((64 : Int32) - (FNlzL (q1 - (1 : Int64)))) + (6 : Int32)) - (1 : Int32)) / (6 : Int32)))), (.ref a)]
  show own_G _ _ _ _ _ _ _ _ 35 #[.val (.ref a), .val (.long q1), .second, .val (.long q2), .second, .val (.int ((64 : Int32) - (FNlzL (q1 - (1 : Int64)))))] [(.int (FLev q1)), (.ref a)]
  refine own_putfield H (w := 26) (wi := 4) rfl f5 f3 hA_a (Or.inr ⟨own_w H (i := 27) rfl, rfl, rfl⟩) rfl (ty := .int) (by decide) rfl rfl d1_35 ?_
  intro h12 W13
  have f14 : Exa Z h12 a "com/example/ring_to_run/ringtorun/TickQueue" := f3.wr W13
  have f15 : Fld Z h12 a "com/example/ring_to_run/ringtorun/TickQueue" "tickMillis" "J" (.long q1) := f4.other W13 (Or.inr (slot_ne (Or.inr (own_w H (i := 13) rfl)) (Or.inr (own_w H (i := 27) rfl)) (by decide) (t := .long) (t' := .int) (by decide) (by decide)))
  have f16 : Fld Z h12 a "com/example/ring_to_run/ringtorun/TickQueue" "levels" "I" (.int (FLev q1)) := f5.same W13
  have f17 : Fld Z h12 a "com/example/ring_to_run/ringtorun/TickQueue" "heads" "[Lcom/example/ring_to_run/ringtorun/Task;" .null := f6.other W13 (Or.inr (slot_ne (Or.inr (own_w H (i := 31) rfl)) (Or.inr (own_w H (i := 27) rfl)) (by decide) (t := (.array (.object "com/example/ring_to_run/ringtorun/Task"))) (t' := .int) (by decide) (by decide)))
  have f18 : Fld Z h12 a "com/example/ring_to_run/ringtorun/TickQueue" "tails" "[Lcom/example/ring_to_run/ringtorun/Task;" .null := f7.other W13 (Or.inr (slot_ne (Or.inr (own_w H (i := 33) rfl)) (Or.inr (own_w H (i := 27) rfl)) (by decide) (t := (.array (.object "com/example/ring_to_run/ringtorun/Task"))) (t' := .int) (by decide) (by decide)))
  have f19 : Fld Z h12 a "com/example/ring_to_run/ringtorun/TickQueue" "occupied" "[J" .null := f8.other W13 (Or.inr (slot_ne (Or.inr (own_w H (i := 36) rfl)) (Or.inr (own_w H (i := 27) rfl)) (by decide) (t := (.array .long)) (t' := .int) (by decide) (by decide)))
  have f20 : Fld Z h12 a "com/example/ring_to_run/ringtorun/TickQueue" "start" "J" (.long (0 : Int64)) := f9.other W13 (Or.inr (slot_ne (Or.inl (own_w H (i := 38) rfl)) (Or.inr (own_w H (i := 27) rfl)) (by decide) (t := .long) (t' := .int) (by decide) (by decide)))
  have f21 : n0 ≤ h12.size := by rw [W13.size]; exact f10
  have f22 : Keep h0 h12 [a] := f11.wr W13 (Or.inl (by simp))
  refine own_aload_n H rfl rfl d1_38 ?_
  refine own_aload_n H rfl rfl d1_39 ?_
  refine own_getfield H (w := 26) rfl f16 d1_40 ?_
  refine own_bipush H (64 : Int32) (by decide) d1_43 ?_
  refine own_imul H rfl d1_45 ?_
  refine own_anewarray H (w := 28) (w2 := 29) (n := ((FLev q1) * (64 : Int32))) rfl rfl (own_lev3 q1) 704 (own_lev4 q1) (by decide) d1_46 (by decide) (by decide) ?_
  intro h23 a24 kA25 ha26 E27 V28 O29
  have f30 : a ≠ a24 := Nat.ne_of_lt (by rw [ha26]; exact f14.lt)
  have f31 : n0 ≤ a24 := by rw [ha26]; exact f21
  have f32 : h0.size ≤ a24 := by rw [ha26]; exact f22.1
  have f33 : Exa Z h23 a "com/example/ring_to_run/ringtorun/TickQueue" := f14.ext E27
  have f34 : Fld Z h23 a "com/example/ring_to_run/ringtorun/TickQueue" "tickMillis" "J" (.long q1) := f15.ext E27
  have f35 : Fld Z h23 a "com/example/ring_to_run/ringtorun/TickQueue" "levels" "I" (.int (FLev q1)) := f16.ext E27
  have f36 : Fld Z h23 a "com/example/ring_to_run/ringtorun/TickQueue" "heads" "[Lcom/example/ring_to_run/ringtorun/Task;" .null := f17.ext E27
  have f37 : Fld Z h23 a "com/example/ring_to_run/ringtorun/TickQueue" "tails" "[Lcom/example/ring_to_run/ringtorun/Task;" .null := f18.ext E27
  have f38 : Fld Z h23 a "com/example/ring_to_run/ringtorun/TickQueue" "occupied" "[J" .null := f19.ext E27
  have f39 : Fld Z h23 a "com/example/ring_to_run/ringtorun/TickQueue" "start" "J" (.long (0 : Int64)) := f20.ext E27
  have f40 : n0 ≤ h23.size := Nat.le_trans f21 E27.1
  have f41 : Keep h0 h23 [a] := f22.ext E27
  show own_G _ _ _ _ _ _ _ _ 49 #[.val (.ref a), .val (.long q1), .second, .val (.long q2), .second, .val (.int ((64 : Int32) - (FNlzL (q1 - (1 : Int64)))))] [(.ref a24), (.ref a)]
  refine own_putfield H (w := 30) (wi := 4) rfl f36 f33 hA_a (Or.inr ⟨own_w H (i := 31) rfl, rfl, rfl⟩) rfl (ty := (.array (.object "com/example/ring_to_run/ringtorun/Task"))) (by decide) rfl rfl d1_49 ?_
  intro h42 W43
  have f44 : Exa Z h42 a "com/example/ring_to_run/ringtorun/TickQueue" := f33.wr W43
  have f45 : Fld Z h42 a "com/example/ring_to_run/ringtorun/TickQueue" "tickMillis" "J" (.long q1) := f34.other W43 (Or.inr (slot_ne (Or.inr (own_w H (i := 13) rfl)) (Or.inr (own_w H (i := 31) rfl)) (by decide) (t := .long) (t' := (.array (.object "com/example/ring_to_run/ringtorun/Task"))) (by decide) (by decide)))
  have f46 : Fld Z h42 a "com/example/ring_to_run/ringtorun/TickQueue" "levels" "I" (.int (FLev q1)) := f35.other W43 (Or.inr (slot_ne (Or.inr (own_w H (i := 27) rfl)) (Or.inr (own_w H (i := 31) rfl)) (by decide) (t := .int) (t' := (.array (.object "com/example/ring_to_run/ringtorun/Task"))) (by decide) (by decide)))
  have f47 : Fld Z h42 a "com/example/ring_to_run/ringtorun/TickQueue" "heads" "[Lcom/example/ring_to_run/ringtorun/Task;" (.ref a24) := f36.same W43
  have f48 : Fld Z h42 a "com/example/ring_to_run/ringtorun/TickQueue" "tails" "[Lcom/example/ring_to_run/ringtorun/Task;" .null := f37.other W43 (Or.inr (slot_ne (Or.inr (own_w H (i := 33) rfl)) (Or.inr (own_w H (i := 31) rfl)) (by decide) (t := (.array (.object "com/example/ring_to_run/ringtorun/Task"))) (t' := (.array (.object "com/example/ring_to_run/ringtorun/Task"))) (by decide) (by decide)))
  have f49 : Fld Z h42 a "com/example/ring_to_run/ringtorun/TickQueue" "occupied" "[J" .null := f38.other W43 (Or.inr (slot_ne (Or.inr (own_w H (i := 36) rfl)) (Or.inr (own_w H (i := 31) rfl)) (by decide) (t := (.array .long)) (t' := (.array (.object "com/example/ring_to_run/ringtorun/Task"))) (by decide) (by decide)))
  have f50 : Fld Z h42 a "com/example/ring_to_run/ringtorun/TickQueue" "start" "J" (.long (0 : Int64)) := f39.other W43 (Or.inr (slot_ne (Or.inl (own_w H (i := 38) rfl)) (Or.inr (own_w H (i := 31) rfl)) (by decide) (t := .long) (t' := (.array (.object "com/example/ring_to_run/ringtorun/Task"))) (by decide) (by decide)))
  have f51 : n0 ≤ h42.size := by rw [W43.size]; exact f40
  have f52 : Keep h0 h42 [a] := f41.wr W43 (Or.inl (by simp))
  have f53 : Arv Z h42 a24 kA25 (.object "com/example/ring_to_run/ringtorun/Task") ((FLev q1) * (64 : Int32)) [] .null := V28.other W43 f30.symm
  refine own_aload_n H rfl rfl d1_52 ?_
  refine own_aload_n H rfl rfl d1_53 ?_
  refine own_getfield H (w := 26) rfl f46 d1_54 ?_
  refine own_bipush H (64 : Int32) (by decide) d1_57 ?_
  refine own_imul H rfl d1_59 ?_
  refine own_anewarray H (w := 28) (w2 := 29) (n := ((FLev q1) * (64 : Int32))) rfl rfl (own_lev3 q1) 704 (own_lev4 q1) (by decide) d1_60 (by decide) (by decide) ?_
  intro h54 a55 kA56 ha57 E58 V59 O60
  have f61 : a ≠ a55 := Nat.ne_of_lt (by rw [ha57]; exact f44.lt)
  have f62 : a24 ≠ a55 := Nat.ne_of_lt (by rw [ha57]; exact f53.lt)
  have f63 : n0 ≤ a55 := by rw [ha57]; exact f51
  have f64 : h0.size ≤ a55 := by rw [ha57]; exact f52.1
  have f65 : Exa Z h54 a "com/example/ring_to_run/ringtorun/TickQueue" := f44.ext E58
  have f66 : Fld Z h54 a "com/example/ring_to_run/ringtorun/TickQueue" "tickMillis" "J" (.long q1) := f45.ext E58
  have f67 : Fld Z h54 a "com/example/ring_to_run/ringtorun/TickQueue" "levels" "I" (.int (FLev q1)) := f46.ext E58
  have f68 : Fld Z h54 a "com/example/ring_to_run/ringtorun/TickQueue" "heads" "[Lcom/example/ring_to_run/ringtorun/Task;" (.ref a24) := f47.ext E58
  have f69 : Fld Z h54 a "com/example/ring_to_run/ringtorun/TickQueue" "tails" "[Lcom/example/ring_to_run/ringtorun/Task;" .null := f48.ext E58
  have f70 : Fld Z h54 a "com/example/ring_to_run/ringtorun/TickQueue" "occupied" "[J" .null := f49.ext E58
  have f71 : Fld Z h54 a "com/example/ring_to_run/ringtorun/TickQueue" "start" "J" (.long (0 : Int64)) := f50.ext E58
  have f72 : n0 ≤ h54.size := Nat.le_trans f51 E58.1
  have f73 : Keep h0 h54 [a] := f52.ext E58
  have f74 : Arv Z h54 a24 kA25 (.object "com/example/ring_to_run/ringtorun/Task") ((FLev q1) * (64 : Int32)) [] .null := f53.ext E58
  show own_G _ _ _ _ _ _ _ _ 63 #[.val (.ref a), .val (.long q1), .second, .val (.long q2), .second, .val (.int ((64 : Int32) - (FNlzL (q1 - (1 : Int64)))))] [(.ref a55), (.ref a)]
  refine own_putfield H (w := 32) (wi := 4) rfl f69 f65 hA_a (Or.inr ⟨own_w H (i := 33) rfl, rfl, rfl⟩) rfl (ty := (.array (.object "com/example/ring_to_run/ringtorun/Task"))) (by decide) rfl rfl d1_63 ?_
  intro h75 W76
  have f77 : Exa Z h75 a "com/example/ring_to_run/ringtorun/TickQueue" := f65.wr W76
  have f78 : Fld Z h75 a "com/example/ring_to_run/ringtorun/TickQueue" "tickMillis" "J" (.long q1) := f66.other W76 (Or.inr (slot_ne (Or.inr (own_w H (i := 13) rfl)) (Or.inr (own_w H (i := 33) rfl)) (by decide) (t := .long) (t' := (.array (.object "com/example/ring_to_run/ringtorun/Task"))) (by decide) (by decide)))
  have f79 : Fld Z h75 a "com/example/ring_to_run/ringtorun/TickQueue" "levels" "I" (.int (FLev q1)) := f67.other W76 (Or.inr (slot_ne (Or.inr (own_w H (i := 27) rfl)) (Or.inr (own_w H (i := 33) rfl)) (by decide) (t := .int) (t' := (.array (.object "com/example/ring_to_run/ringtorun/Task"))) (by decide) (by decide)))
  have f80 : Fld Z h75 a "com/example/ring_to_run/ringtorun/TickQueue" "heads" "[Lcom/example/ring_to_run/ringtorun/Task;" (.ref a24) := f68.other W76 (Or.inr (slot_ne (Or.inr (own_w H (i := 31) rfl)) (Or.inr (own_w H (i := 33) rfl)) (by decide) (t := (.array (.object "com/example/ring_to_run/ringtorun/Task"))) (t' := (.array (.object "com/example/ring_to_run/ringtorun/Task"))) (by decide) (by decide)))
  have f81 : Fld Z h75 a "com/example/ring_to_run/ringtorun/TickQueue" "tails" "[Lcom/example/ring_to_run/ringtorun/Task;" (.ref a55) := f69.same W76
  have f82 : Fld Z h75 a "com/example/ring_to_run/ringtorun/TickQueue" "occupied" "[J" .null := f70.other W76 (Or.inr (slot_ne (Or.inr (own_w H (i := 36) rfl)) (Or.inr (own_w H (i := 33) rfl)) (by decide) (t := (.array .long)) (t' := (.array (.object "com/example/ring_to_run/ringtorun/Task"))) (by decide) (by decide)))
  have f83 : Fld Z h75 a "com/example/ring_to_run/ringtorun/TickQueue" "start" "J" (.long (0 : Int64)) := f71.other W76 (Or.inr (slot_ne (Or.inl (own_w H (i := 38) rfl)) (Or.inr (own_w H (i := 33) rfl)) (by decide) (t := .long) (t' := (.array (.object "com/example/ring_to_run/ringtorun/Task"))) (by decide) (by decide)))
  have f84 : n0 ≤ h75.size := by rw [W76.size]; exact f72
  have f85 : Keep h0 h75 [a] := f73.wr W76 (Or.inl (by simp))
  have f86 : Arv Z h75 a24 kA25 (.object "com/example/ring_to_run/ringtorun/Task") ((FLev q1) * (64 : Int32)) [] .null := f74.other W76 f30.symm
  have f87 : Arv Z h75 a55 kA56 (.object "com/example/ring_to_run/ringtorun/Task") ((FLev q1) * (64 : Int32)) [] .null := V59.other W76 f61.symm
  refine own_aload_n H rfl rfl d1_66 ?_
  refine own_aload_n H rfl rfl d1_67 ?_
  refine own_getfield H (w := 26) rfl f79 d1_68 ?_
  refine own_newarray H (w := 34) (n := (FLev q1)) rfl (own_lev1 q1) 11 (own_lev2 q1) (by decide) d1_71 (by decide) (by decide) ?_
  intro h88 a89 kA90 ha91 E92 V93
  have f94 : a ≠ a89 := Nat.ne_of_lt (by rw [ha91]; exact f77.lt)
  have f95 : a24 ≠ a89 := Nat.ne_of_lt (by rw [ha91]; exact f86.lt)
  have f96 : a55 ≠ a89 := Nat.ne_of_lt (by rw [ha91]; exact f87.lt)
  have f97 : n0 ≤ a89 := by rw [ha91]; exact f84
  have f98 : h0.size ≤ a89 := by rw [ha91]; exact f85.1
  have f99 : Exa Z h88 a "com/example/ring_to_run/ringtorun/TickQueue" := f77.ext E92
  have f100 : Fld Z h88 a "com/example/ring_to_run/ringtorun/TickQueue" "tickMillis" "J" (.long q1) := f78.ext E92
  have f101 : Fld Z h88 a "com/example/ring_to_run/ringtorun/TickQueue" "levels" "I" (.int (FLev q1)) := f79.ext E92
  have f102 : Fld Z h88 a "com/example/ring_to_run/ringtorun/TickQueue" "heads" "[Lcom/example/ring_to_run/ringtorun/Task;" (.ref a24) := f80.ext E92
  have f103 : Fld Z h88 a "com/example/ring_to_run/ringtorun/TickQueue" "tails" "[Lcom/example/ring_to_run/ringtorun/Task;" (.ref a55) := f81.ext E92
  have f104 : Fld Z h88 a "com/example/ring_to_run/ringtorun/TickQueue" "occupied" "[J" .null := f82.ext E92
  have f105 : Fld Z h88 a "com/example/ring_to_run/ringtorun/TickQueue" "start" "J" (.long (0 : Int64)) := f83.ext E92
  have f106 : n0 ≤ h88.size := Nat.le_trans f84 E92.1
  have f107 : Keep h0 h88 [a] := f85.ext E92
  have f108 : Arv Z h88 a24 kA25 (.object "com/example/ring_to_run/ringtorun/Task") ((FLev q1) * (64 : Int32)) [] .null := f86.ext E92
  have f109 : Arv Z h88 a55 kA56 (.object "com/example/ring_to_run/ringtorun/Task") ((FLev q1) * (64 : Int32)) [] .null := f87.ext E92
  show own_G _ _ _ _ _ _ _ _ 73 #[.val (.ref a), .val (.long q1), .second, .val (.long q2), .second, .val (.int ((64 : Int32) - (FNlzL (q1 - (1 : Int64)))))] [(.ref a89), (.ref a)]
  refine own_putfield H (w := 35) (wi := 4) rfl f104 f99 hA_a (Or.inr ⟨own_w H (i := 36) rfl, rfl, rfl⟩) rfl (ty := (.array .long)) (by decide) rfl rfl d1_73 ?_
  intro h110 W111
  have f112 : Exa Z h110 a "com/example/ring_to_run/ringtorun/TickQueue" := f99.wr W111
  have f113 : Fld Z h110 a "com/example/ring_to_run/ringtorun/TickQueue" "tickMillis" "J" (.long q1) := f100.other W111 (Or.inr (slot_ne (Or.inr (own_w H (i := 13) rfl)) (Or.inr (own_w H (i := 36) rfl)) (by decide) (t := .long) (t' := (.array .long)) (by decide) (by decide)))
  have f114 : Fld Z h110 a "com/example/ring_to_run/ringtorun/TickQueue" "levels" "I" (.int (FLev q1)) := f101.other W111 (Or.inr (slot_ne (Or.inr (own_w H (i := 27) rfl)) (Or.inr (own_w H (i := 36) rfl)) (by decide) (t := .int) (t' := (.array .long)) (by decide) (by decide)))
  have f115 : Fld Z h110 a "com/example/ring_to_run/ringtorun/TickQueue" "heads" "[Lcom/example/ring_to_run/ringtorun/Task;" (.ref a24) := f102.other W111 (Or.inr (slot_ne (Or.inr (own_w H (i := 31) rfl)) (Or.inr (own_w H (i := 36) rfl)) (by decide) (t := (.array (.object "com/example/ring_to_run/ringtorun/Task"))) (t' := (.array .long)) (by decide) (by decide)))
  have f116 : Fld Z h110 a "com/example/ring_to_run/ringtorun/TickQueue" "tails" "[Lcom/example/ring_to_run/ringtorun/Task;" (.ref a55) := f103.other W111 (Or.inr (slot_ne (Or.inr (own_w H (i := 33) rfl)) (Or.inr (own_w H (i := 36) rfl)) (by decide) (t := (.array (.object "com/example/ring_to_run/ringtorun/Task"))) (t' := (.array .long)) (by decide) (by decide)))
  have f117 : Fld Z h110 a "com/example/ring_to_run/ringtorun/TickQueue" "occupied" "[J" (.ref a89) := f104.same W111
  have f118 : Fld Z h110 a "com/example/ring_to_run/ringtorun/TickQueue" "start" "J" (.long (0 : Int64)) := f105.other W111 (Or.inr (slot_ne (Or.inl (own_w H (i := 38) rfl)) (Or.inr (own_w H (i := 36) rfl)) (by decide) (t := .long) (t' := (.array .long)) (by decide) (by decide)))
  have f119 : n0 ≤ h110.size := by rw [W111.size]; exact f106
  have f120 : Keep h0 h110 [a] := f107.wr W111 (Or.inl (by simp))
  have f121 : Arv Z h110 a24 kA25 (.object "com/example/ring_to_run/ringtorun/Task") ((FLev q1) * (64 : Int32)) [] .null := f108.other W111 f30.symm
  have f122 : Arv Z h110 a55 kA56 (.object "com/example/ring_to_run/ringtorun/Task") ((FLev q1) * (64 : Int32)) [] .null := f109.other W111 f61.symm
  have f123 : Arv Z h110 a89 kA90 .long (FLev q1) [] (.long 0) := V93.other W111 f94.symm
  refine own_aload_n H rfl rfl d1_76 ?_
  refine own_lload_n H rfl d1_77 ?_
  refine own_putfield H (w := 37) (wi := 4) rfl f118 f112 hA_a (Or.inl (own_w H (i := 38) rfl)) rfl (ty := .long) (by decide) rfl rfl d1_78 ?_
  intro h124 W125
  have f126 : Exa Z h124 a "com/example/ring_to_run/ringtorun/TickQueue" := f112.wr W125
  have f127 : Fld Z h124 a "com/example/ring_to_run/ringtorun/TickQueue" "tickMillis" "J" (.long q1) := f113.other W125 (Or.inr (slot_ne (Or.inr (own_w H (i := 13) rfl)) (Or.inl (own_w H (i := 38) rfl)) (by decide) (t := .long) (t' := .long) (by decide) (by decide)))
  have f128 : Fld Z h124 a "com/example/ring_to_run/ringtorun/TickQueue" "levels" "I" (.int (FLev q1)) := f114.other W125 (Or.inr (slot_ne (Or.inr (own_w H (i := 27) rfl)) (Or.inl (own_w H (i := 38) rfl)) (by decide) (t := .int) (t' := .long) (by decide) (by decide)))
  have f129 : Fld Z h124 a "com/example/ring_to_run/ringtorun/TickQueue" "heads" "[Lcom/example/ring_to_run/ringtorun/Task;" (.ref a24) := f115.other W125 (Or.inr (slot_ne (Or.inr (own_w H (i := 31) rfl)) (Or.inl (own_w H (i := 38) rfl)) (by decide) (t := (.array (.object "com/example/ring_to_run/ringtorun/Task"))) (t' := .long) (by decide) (by decide)))
  have f130 : Fld Z h124 a "com/example/ring_to_run/ringtorun/TickQueue" "tails" "[Lcom/example/ring_to_run/ringtorun/Task;" (.ref a55) := f116.other W125 (Or.inr (slot_ne (Or.inr (own_w H (i := 33) rfl)) (Or.inl (own_w H (i := 38) rfl)) (by decide) (t := (.array (.object "com/example/ring_to_run/ringtorun/Task"))) (t' := .long) (by decide) (by decide)))
  have f131 : Fld Z h124 a "com/example/ring_to_run/ringtorun/TickQueue" "occupied" "[J" (.ref a89) := f117.other W125 (Or.inr (slot_ne (Or.inr (own_w H (i := 36) rfl)) (Or.inl (own_w H (i := 38) rfl)) (by decide) (t := (.array .long)) (t' := .long) (by decide) (by decide)))
  have f132 : Fld Z h124 a "com/example/ring_to_run/ringtorun/TickQueue" "start" "J" (.long q2) := f118.same W125
  have f133 : n0 ≤ h124.size := by rw [W125.size]; exact f119
  have f134 : Keep h0 h124 [a] := f120.wr W125 (Or.inl (by simp))
  have f135 : Arv Z h124 a24 kA25 (.object "com/example/ring_to_run/ringtorun/Task") ((FLev q1) * (64 : Int32)) [] .null := f121.other W125 f30.symm
  have f136 : Arv Z h124 a55 kA56 (.object "com/example/ring_to_run/ringtorun/Task") ((FLev q1) * (64 : Int32)) [] .null := f122.other W125 f61.symm
  have f137 : Arv Z h124 a89 kA90 .long (FLev q1) [] (.long 0) := f123.other W125 f94.symm
  exact own_return H d1_81 (by decide) (by decide) ⟨rfl, f134, f127, f132⟩
theorem d6_0 : decode prog_11_method_4_code 0 = .ok (.lload_n 1, 1) := by decide +kernel
theorem d6_1 : decode prog_11_method_4_code 1 = .ok (.aload_n 0, 1) := by decide +kernel
theorem d6_2 : decode prog_11_method_4_code 2 = .ok (.getfield 42, 3) := by decide +kernel
theorem d6_5 : decode prog_11_method_4_code 5 = .ok (.lcmp, 1) := by decide +kernel
theorem d6_6 : decode prog_11_method_4_code 6 = .ok (.ifCond .lt 21, 3) := by decide +kernel
theorem d6_9 : decode prog_11_method_4_code 9 = .ok (.lload_n 1, 1) := by decide +kernel
theorem d6_10 : decode prog_11_method_4_code 10 = .ok (.aload_n 0, 1) := by decide +kernel
theorem d6_11 : decode prog_11_method_4_code 11 = .ok (.getfield 42, 3) := by decide +kernel
theorem d6_14 : decode prog_11_method_4_code 14 = .ok (.lsub, 1) := by decide +kernel
theorem d6_15 : decode prog_11_method_4_code 15 = .ok (.aload_n 0, 1) := by decide +kernel
theorem d6_16 : decode prog_11_method_4_code 16 = .ok (.getfield 9, 3) := by decide +kernel
theorem d6_19 : decode prog_11_method_4_code 19 = .ok (.lcmp, 1) := by decide +kernel
theorem d6_20 : decode prog_11_method_4_code 20 = .ok (.ifCond .ge 7, 3) := by decide +kernel
theorem d6_23 : decode prog_11_method_4_code 23 = .ok (.iconst 1, 1) := by decide +kernel
theorem d6_24 : decode prog_11_method_4_code 24 = .ok (.goto 4, 3) := by decide +kernel
theorem d6_27 : decode prog_11_method_4_code 27 = .ok (.iconst 0, 1) := by decide +kernel
theorem d6_28 : decode prog_11_method_4_code 28 = .ok (.ireturn, 1) := by decide +kernel
theorem own_pl6 : plainFor (⟨"com/example/ring_to_run/ringtorun/TickQueue", "holds", "(J)Z"⟩ : MethodName) = true := plainFor_of_name (by first | (simp [plainName, overriddenIn]; done) | decide +kernel)
theorem own_pd4 : parseMethodDescriptor "(J)Z" = some ⟨[.long], some .boolean⟩ := by decide +kernel
def FH (t : Int64) (u1 : Int64) (u2 : Int64) : Int32 := if t < u1 then (0 : Int32) else if (t - u1) < u2 then (1 : Int32) else (0 : Int32)
set_option maxHeartbeats 4000000 in
theorem rmH (l : Launch) (Z : State) (a0 : Array Value) (hw : ∀ (i : Nat) (d : Jvm.Cond), tables_1[i]? = some d → d.before a0 Z = true) (h0 : Heap) (n0 : Nat) (a : Addr) (t : Int64) (u1 : Int64) (u2 : Int64) (hR0 : Fld Z h0 a "com/example/ring_to_run/ringtorun/TickQueue" "start" "J" (.long u1)) (hR1 : Fld Z h0 a "com/example/ring_to_run/ringtorun/TickQueue" "tickMillis" "J" (.long u2)) :
    own_P l Z (⟨"com/example/ring_to_run/ringtorun/TickQueue", "holds", "(J)Z"⟩ : MethodName) prog_11_method_4_code 3 (some .boolean) ({ frames := 0, cells := 0, slots := 0, locals := 0 } : Room) #[(.ref a), (.long t)] h0 n0 (.int (FH t u1 u2)) := by
  refine own_met (Ls := #[.val (.ref a), .val (.long t), .second]) hw own_pl6 (fun m => by first | (simp [entryFrame, mkF, argsToLocals, Value.category]; done) | rfl) ?_
  intro B H
  refine own_lload_n H rfl d6_0 ?_
  refine own_aload_n H rfl rfl d6_1 ?_
  refine own_getfield H (w := 37) rfl hR0 d6_2 ?_
  by_cases c1 : t < u1
  ·
    refine own_lcmplt_t H (pc' := 27) d6_5 d6_6 (by decide) (by decide) c1 ?_
    refine own_iconst H (0 : Int32) (by decide) d6_27 ?_
    exact own_ireturn H (by simp) (by decide) d6_28 (by decide) (by decide) ⟨by show some _ = some _; rw [FH, if_pos c1], rfl⟩
  ·
    refine own_lcmplt_f H d6_5 d6_6 c1 ?_
    refine own_lload_n H rfl d6_9 ?_
    refine own_aload_n H rfl rfl d6_10 ?_
    refine own_getfield H (w := 37) rfl hR0 d6_11 ?_
    refine own_lsub H rfl d6_14 ?_
    refine own_aload_n H rfl rfl d6_15 ?_
    refine own_getfield H (w := 12) rfl hR1 d6_16 ?_
    by_cases c2 : (t - u1) < u2
    ·
      refine own_lcmpge_f H d6_19 d6_20 c2 ?_
      refine own_iconst H (1 : Int32) (by decide) d6_23 ?_
      refine own_goto H (pc' := 28) d6_24 (by decide) (by decide) ?_
      exact own_ireturn H (by simp) (by decide) d6_28 (by decide) (by decide) ⟨by show some _ = some _; rw [FH, if_neg c1, if_pos c2], rfl⟩
    ·
      refine own_lcmpge_t H (pc' := 27) d6_19 d6_20 (by decide) (by decide) c2 ?_
      refine own_iconst H (0 : Int32) (by decide) d6_27 ?_
      exact own_ireturn H (by simp) (by decide) d6_28 (by decide) (by decide) ⟨by show some _ = some _; rw [FH, if_neg c1, if_neg c2], rfl⟩
theorem own_pl0 : plainFor x = true := plainFor_of_name (by first | (simp [plainName, overriddenIn]; done) | decide +kernel)
def Fst (p1 : Int64) (p2 : Int64) (p3 : Int64) (p4 : Int32) : Int64 := (if (p4 &&& (4 : Int32)) = 0 then (p1 &&& (9223372036854775807 : Int64)) else ((9223372036854775807 : Int64) - (p1 &&& (15 : Int64))))
def Ftk (p1 : Int64) (p2 : Int64) (p3 : Int64) (p4 : Int32) : Int64 := (if (if (p4 &&& (8 : Int32)) = 0 then (p2 &&& (9223372036854775807 : Int64)) else ((p2 &&& (9223372036854775807 : Int64)) &&& (15 : Int64))) = (0 : Int64) then (1 : Int64) else (if (p4 &&& (8 : Int32)) = 0 then (p2 &&& (9223372036854775807 : Int64)) else ((p2 &&& (9223372036854775807 : Int64)) &&& (15 : Int64))))
def Fdue (p1 : Int64) (p2 : Int64) (p3 : Int64) (p4 : Int32) : Int64 := (if (p4 &&& (3 : Int32)) = 0 then p3 else (if (p4 &&& (3 : Int32)) = (1 : Int32) then ((Fst p1 p2 p3 p4) + ((p3 &&& (7 : Int64)) - (4 : Int64))) else (if (p4 &&& (3 : Int32)) = (2 : Int32) then (((Fst p1 p2 p3 p4) + (Ftk p1 p2 p3 p4)) + ((p3 &&& (7 : Int64)) - (4 : Int64))) else ((9223372036854775807 : Int64) - (p3 &&& (7 : Int64))))))
def F0 (p1 : Int64) (p2 : Int64) (p3 : Int64) (p4 : Int32) : Int32 := if (FH (Fdue p1 p2 p3 p4) (Fst p1 p2 p3 p4) (Ftk p1 p2 p3 p4)) = (if (Fdue p1 p2 p3 p4) < (Fst p1 p2 p3 p4) then (0 : Int32) else (if (if ((9223372036854775807 : Int64) - ((Ftk p1 p2 p3 p4) - (1 : Int64))) < (Fst p1 p2 p3 p4) then (1 : Int32) else (0 : Int32)) = 0 then (if ((Fst p1 p2 p3 p4) + ((Ftk p1 p2 p3 p4) - (1 : Int64))) < (Fdue p1 p2 p3 p4) then (0 : Int32) else (1 : Int32)) else (1 : Int32))) then (1 : Int32) else (0 : Int32)
set_option maxHeartbeats 40000000 in
theorem rm0 (l : Launch) (Z : State) (a0 : Array Value) (hw : ∀ (i : Nat) (d : Jvm.Cond), tables_1[i]? = some d → d.before a0 Z = true) (ws : List Jvm.Cond) (h0 : Heap) (n0 : Nat) (p1 : Int64) (p2 : Int64) (p3 : Int64) (p4 : Int32) (hZ0 : n0 ≤ h0.size) :
    own_Met l Z ws x code maxLocals ret room_1 #[(.long p1), (.long p2), (.long p3), (.int p4)] h0 n0 16 2944 (fun v h' => v = some (.int (F0 p1 p2 p3 p4))) := by
  refine own_met (Ls := #[.val (.long p1), .second, .val (.long p2), .second, .val (.long p3), .second, .val (.int p4), .unset, .unset, .unset, .unset, .unset, .unset, .unset, .unset, .unset, .unset, .unset, .unset, .unset]) hw own_pl0 (fun m => by first | (simp [entryFrame, mkF, argsToLocals, Value.category, maxLocals]; done) | rfl) ?_
  intro B H

  refine own_lload_n H rfl at_0 ?_
  refine own_ldc2J H (w := 0) rfl at_1 ?_
  refine own_land H rfl at_4 ?_
  refine own_lstore H #[.val (.long p1), .second, .val (.long p2), .second, .val (.long p3), .second, .val (.int p4), .val (.long (p1 &&& (9223372036854775807 : Int64))), .second, .unset, .unset, .unset, .unset, .unset, .unset, .unset, .unset, .unset, .unset, .unset] rfl at_5 ?_
  refine own_iload H rfl at_7 ?_
  refine own_iconst H (4 : Int32) (by decide) at_9 ?_
  refine own_iand H rfl at_10 ?_
  refine own_cut 25 #[.val (.long p1), .second, .val (.long p2), .second, .val (.long p3), .second, .val (.int p4), .val (.long (if (p4 &&& (4 : Int32)) = 0 then (p1 &&& (9223372036854775807 : Int64)) else ((9223372036854775807 : Int64) - (p1 &&& (15 : Int64))))), .second, .unset, .unset, .unset, .unset, .unset, .unset, .unset, .unset, .unset, .unset, .unset] [] (fun k2 => ?_) ?_
  ·
    by_cases c1 : (p4 &&& (4 : Int32)) = 0
    ·
      refine own_ifeq_t H (pc' := 25) at_11 (by decide) (by decide) c1 ?_
      exact own_cast (by simp only [if_pos c1]) (by simp only [if_pos c1]) k2
    ·
      refine own_ifeq_f H at_11 c1 ?_
      refine own_ldc2J H (w := 0) rfl at_14 ?_
      refine own_lload_n H rfl at_17 ?_
      refine own_ldc2J H (w := 45) rfl at_18 ?_
      refine own_land H rfl at_21 ?_
      refine own_lsub H rfl at_22 ?_
      refine own_lstore H #[.val (.long p1), .second, .val (.long p2), .second, .val (.long p3), .second, .val (.int p4), .val (.long ((9223372036854775807 : Int64) - (p1 &&& (15 : Int64)))), .second, .unset, .unset, .unset, .unset, .unset, .unset, .unset, .unset, .unset, .unset, .unset] rfl at_23 ?_
      exact own_cast (by simp only [if_neg c1]) (by simp only [if_neg c1]) k2
  show own_G _ _ _ _ _ _ _ _ 25 #[.val (.long p1), .second, .val (.long p2), .second, .val (.long p3), .second, .val (.int p4), .val (.long (Fst p1 p2 p3 p4)), .second, .unset, .unset, .unset, .unset, .unset, .unset, .unset, .unset, .unset, .unset, .unset] []
  refine own_lload_n H rfl at_25 ?_
  refine own_ldc2J H (w := 0) rfl at_26 ?_
  refine own_land H rfl at_29 ?_
  refine own_lstore H #[.val (.long p1), .second, .val (.long p2), .second, .val (.long p3), .second, .val (.int p4), .val (.long (Fst p1 p2 p3 p4)), .second, .val (.long (p2 &&& (9223372036854775807 : Int64))), .second, .unset, .unset, .unset, .unset, .unset, .unset, .unset, .unset, .unset] rfl at_30 ?_
  refine own_iload H rfl at_32 ?_
  refine own_bipush H (8 : Int32) (by decide) at_34 ?_
  refine own_iand H rfl at_36 ?_
  refine own_cut 48 #[.val (.long p1), .second, .val (.long p2), .second, .val (.long p3), .second, .val (.int p4), .val (.long (Fst p1 p2 p3 p4)), .second, .val (.long (if (p4 &&& (8 : Int32)) = 0 then (p2 &&& (9223372036854775807 : Int64)) else ((p2 &&& (9223372036854775807 : Int64)) &&& (15 : Int64)))), .second, .unset, .unset, .unset, .unset, .unset, .unset, .unset, .unset, .unset] [] (fun k4 => ?_) ?_
  ·
    by_cases c3 : (p4 &&& (8 : Int32)) = 0
    ·
      refine own_ifeq_t H (pc' := 48) at_37 (by decide) (by decide) c3 ?_
      exact own_cast (by simp only [if_pos c3]) (by simp only [if_pos c3]) k4
    ·
      refine own_ifeq_f H at_37 c3 ?_
      refine own_lload H rfl at_40 ?_
      refine own_ldc2J H (w := 45) rfl at_42 ?_
      refine own_land H rfl at_45 ?_
      refine own_lstore H #[.val (.long p1), .second, .val (.long p2), .second, .val (.long p3), .second, .val (.int p4), .val (.long (Fst p1 p2 p3 p4)), .second, .val (.long ((p2 &&& (9223372036854775807 : Int64)) &&& (15 : Int64))), .second, .unset, .unset, .unset, .unset, .unset, .unset, .unset, .unset, .unset] rfl at_46 ?_
      exact own_cast (by simp only [if_neg c3]) (by simp only [if_neg c3]) k4
  refine own_lload H rfl at_48 ?_
  refine own_lconst H (0 : Int64) (by decide) at_50 ?_
  refine own_cut 58 #[.val (.long p1), .second, .val (.long p2), .second, .val (.long p3), .second, .val (.int p4), .val (.long (Fst p1 p2 p3 p4)), .second, .val (.long (if (if (p4 &&& (8 : Int32)) = 0 then (p2 &&& (9223372036854775807 : Int64)) else ((p2 &&& (9223372036854775807 : Int64)) &&& (15 : Int64))) = (0 : Int64) then (1 : Int64) else (if (p4 &&& (8 : Int32)) = 0 then (p2 &&& (9223372036854775807 : Int64)) else ((p2 &&& (9223372036854775807 : Int64)) &&& (15 : Int64))))), .second, .unset, .unset, .unset, .unset, .unset, .unset, .unset, .unset, .unset] [] (fun k6 => ?_) ?_
  ·
    by_cases c5 : (if (p4 &&& (8 : Int32)) = 0 then (p2 &&& (9223372036854775807 : Int64)) else ((p2 &&& (9223372036854775807 : Int64)) &&& (15 : Int64))) = (0 : Int64)
    ·
      refine own_lcmpne_f H at_51 at_52 c5 ?_
      refine own_lconst H (1 : Int64) (by decide) at_55 ?_
      refine own_lstore H #[.val (.long p1), .second, .val (.long p2), .second, .val (.long p3), .second, .val (.int p4), .val (.long (Fst p1 p2 p3 p4)), .second, .val (.long (1 : Int64)), .second, .unset, .unset, .unset, .unset, .unset, .unset, .unset, .unset, .unset] rfl at_56 ?_
      exact own_cast (by simp only [if_pos c5]) (by simp only [if_pos c5]) k6
    ·
      refine own_lcmpne_t H (pc' := 58) at_51 at_52 (by decide) (by decide) c5 ?_
      exact own_cast (by simp only [if_neg c5]) (by simp only [if_neg c5]) k6
  show own_G _ _ _ _ _ _ _ _ 58 #[.val (.long p1), .second, .val (.long p2), .second, .val (.long p3), .second, .val (.int p4), .val (.long (Fst p1 p2 p3 p4)), .second, .val (.long (Ftk p1 p2 p3 p4)), .second, .unset, .unset, .unset, .unset, .unset, .unset, .unset, .unset, .unset] []
  refine own_lload H rfl at_58 ?_
  refine own_ldc2J H (w := 1) rfl at_60 ?_
  refine own_land H rfl at_63 ?_
  refine own_ldc2J H (w := 2) rfl at_64 ?_
  refine own_lsub H rfl at_67 ?_
  refine own_lstore H #[.val (.long p1), .second, .val (.long p2), .second, .val (.long p3), .second, .val (.int p4), .val (.long (Fst p1 p2 p3 p4)), .second, .val (.long (Ftk p1 p2 p3 p4)), .second, .val (.long ((p3 &&& (7 : Int64)) - (4 : Int64))), .second, .unset, .unset, .unset, .unset, .unset, .unset, .unset] rfl at_68 ?_
  refine own_iload H rfl at_70 ?_
  refine own_iconst H (3 : Int32) (by decide) at_72 ?_
  refine own_iand H rfl at_73 ?_
  refine own_istore H #[.val (.long p1), .second, .val (.long p2), .second, .val (.long p3), .second, .val (.int p4), .val (.long (Fst p1 p2 p3 p4)), .second, .val (.long (Ftk p1 p2 p3 p4)), .second, .val (.long ((p3 &&& (7 : Int64)) - (4 : Int64))), .second, .val (.int (p4 &&& (3 : Int32))), .unset, .unset, .unset, .unset, .unset, .unset] rfl at_74 ?_
  refine own_iload H rfl at_76 ?_
  refine own_cut 135 #[.val (.long p1), .second, .val (.long p2), .second, .val (.long p3), .second, .val (.int p4), .val (.long (Fst p1 p2 p3 p4)), .second, .val (.long (Ftk p1 p2 p3 p4)), .second, .val (.long ((p3 &&& (7 : Int64)) - (4 : Int64))), .second, .val (.int (p4 &&& (3 : Int32))), .val (.long (if (p4 &&& (3 : Int32)) = 0 then p3 else (if (p4 &&& (3 : Int32)) = (1 : Int32) then ((Fst p1 p2 p3 p4) + ((p3 &&& (7 : Int64)) - (4 : Int64))) else (if (p4 &&& (3 : Int32)) = (2 : Int32) then (((Fst p1 p2 p3 p4) + (Ftk p1 p2 p3 p4)) + ((p3 &&& (7 : Int64)) - (4 : Int64))) else ((9223372036854775807 : Int64) - (p3 &&& (7 : Int64))))))), .second, .unset, .unset, .unset, .unset] [] (fun k12 => ?_) ?_
  ·
    by_cases c7 : (p4 &&& (3 : Int32)) = 0
    ·
      refine own_ifne_f H at_78 c7 ?_
      refine own_lload H rfl at_81 ?_
      refine own_lstore H #[.val (.long p1), .second, .val (.long p2), .second, .val (.long p3), .second, .val (.int p4), .val (.long (Fst p1 p2 p3 p4)), .second, .val (.long (Ftk p1 p2 p3 p4)), .second, .val (.long ((p3 &&& (7 : Int64)) - (4 : Int64))), .second, .val (.int (p4 &&& (3 : Int32))), .val (.long p3), .second, .unset, .unset, .unset, .unset] rfl at_83 ?_
      refine own_goto H (pc' := 135) at_85 (by decide) (by decide) ?_
      exact own_cast (by simp only [if_pos c7]) (by simp only [if_pos c7]) k12
    ·
      refine own_ifne_t H (pc' := 88) at_78 (by decide) (by decide) c7 ?_
      refine own_iload H rfl at_88 ?_
      refine own_iconst H (1 : Int32) (by decide) at_90 ?_
      refine own_cut 135 #[.val (.long p1), .second, .val (.long p2), .second, .val (.long p3), .second, .val (.int p4), .val (.long (Fst p1 p2 p3 p4)), .second, .val (.long (Ftk p1 p2 p3 p4)), .second, .val (.long ((p3 &&& (7 : Int64)) - (4 : Int64))), .second, .val (.int (p4 &&& (3 : Int32))), .val (.long (if (p4 &&& (3 : Int32)) = (1 : Int32) then ((Fst p1 p2 p3 p4) + ((p3 &&& (7 : Int64)) - (4 : Int64))) else (if (p4 &&& (3 : Int32)) = (2 : Int32) then (((Fst p1 p2 p3 p4) + (Ftk p1 p2 p3 p4)) + ((p3 &&& (7 : Int64)) - (4 : Int64))) else ((9223372036854775807 : Int64) - (p3 &&& (7 : Int64)))))), .second, .unset, .unset, .unset, .unset] [] (fun k11 => ?_) ?_
      ·
        by_cases c8 : (p4 &&& (3 : Int32)) = (1 : Int32)
        ·
          refine own_icmpne_f H at_91 c8 ?_
          refine own_lload H rfl at_94 ?_
          refine own_lload H rfl at_96 ?_
          refine own_ladd H rfl at_98 ?_
          refine own_lstore H #[.val (.long p1), .second, .val (.long p2), .second, .val (.long p3), .second, .val (.int p4), .val (.long (Fst p1 p2 p3 p4)), .second, .val (.long (Ftk p1 p2 p3 p4)), .second, .val (.long ((p3 &&& (7 : Int64)) - (4 : Int64))), .second, .val (.int (p4 &&& (3 : Int32))), .val (.long ((Fst p1 p2 p3 p4) + ((p3 &&& (7 : Int64)) - (4 : Int64)))), .second, .unset, .unset, .unset, .unset] rfl at_99 ?_
          refine own_goto H (pc' := 135) at_101 (by decide) (by decide) ?_
          exact own_cast (by simp only [if_pos c8]) (by simp only [if_pos c8]) k11
        ·
          refine own_icmpne_t H (pc' := 104) at_91 (by decide) (by decide) c8 ?_
          refine own_iload H rfl at_104 ?_
          refine own_iconst H (2 : Int32) (by decide) at_106 ?_
          refine own_cut 135 #[.val (.long p1), .second, .val (.long p2), .second, .val (.long p3), .second, .val (.int p4), .val (.long (Fst p1 p2 p3 p4)), .second, .val (.long (Ftk p1 p2 p3 p4)), .second, .val (.long ((p3 &&& (7 : Int64)) - (4 : Int64))), .second, .val (.int (p4 &&& (3 : Int32))), .val (.long (if (p4 &&& (3 : Int32)) = (2 : Int32) then (((Fst p1 p2 p3 p4) + (Ftk p1 p2 p3 p4)) + ((p3 &&& (7 : Int64)) - (4 : Int64))) else ((9223372036854775807 : Int64) - (p3 &&& (7 : Int64))))), .second, .unset, .unset, .unset, .unset] [] (fun k10 => ?_) ?_
          ·
            by_cases c9 : (p4 &&& (3 : Int32)) = (2 : Int32)
            ·
              refine own_icmpne_f H at_107 c9 ?_
              refine own_lload H rfl at_110 ?_
              refine own_lload H rfl at_112 ?_
              refine own_ladd H rfl at_114 ?_
              refine own_lload H rfl at_115 ?_
              refine own_ladd H rfl at_117 ?_
              refine own_lstore H #[.val (.long p1), .second, .val (.long p2), .second, .val (.long p3), .second, .val (.int p4), .val (.long (Fst p1 p2 p3 p4)), .second, .val (.long (Ftk p1 p2 p3 p4)), .second, .val (.long ((p3 &&& (7 : Int64)) - (4 : Int64))), .second, .val (.int (p4 &&& (3 : Int32))), .val (.long (((Fst p1 p2 p3 p4) + (Ftk p1 p2 p3 p4)) + ((p3 &&& (7 : Int64)) - (4 : Int64)))), .second, .unset, .unset, .unset, .unset] rfl at_118 ?_
              refine own_goto H (pc' := 135) at_120 (by decide) (by decide) ?_
              exact own_cast (by simp only [if_pos c9]) (by simp only [if_pos c9]) k10
            ·
              refine own_icmpne_t H (pc' := 123) at_107 (by decide) (by decide) c9 ?_
              refine own_ldc2J H (w := 0) rfl at_123 ?_
              refine own_lload H rfl at_126 ?_
              refine own_ldc2J H (w := 1) rfl at_128 ?_
              refine own_land H rfl at_131 ?_
              refine own_lsub H rfl at_132 ?_
              refine own_lstore H #[.val (.long p1), .second, .val (.long p2), .second, .val (.long p3), .second, .val (.int p4), .val (.long (Fst p1 p2 p3 p4)), .second, .val (.long (Ftk p1 p2 p3 p4)), .second, .val (.long ((p3 &&& (7 : Int64)) - (4 : Int64))), .second, .val (.int (p4 &&& (3 : Int32))), .val (.long ((9223372036854775807 : Int64) - (p3 &&& (7 : Int64)))), .second, .unset, .unset, .unset, .unset] rfl at_133 ?_
              exact own_cast (by simp only [if_neg c9]) (by simp only [if_neg c9]) k10
          exact own_cast (by simp only [if_neg c8]) (by simp only [if_neg c8]) k11
      exact own_cast (by simp only [if_neg c7]) (by simp only [if_neg c7]) k12
  show own_G _ _ _ _ _ _ _ _ 135 #[.val (.long p1), .second, .val (.long p2), .second, .val (.long p3), .second, .val (.int p4), .val (.long (Fst p1 p2 p3 p4)), .second, .val (.long (Ftk p1 p2 p3 p4)), .second, .val (.long ((p3 &&& (7 : Int64)) - (4 : Int64))), .second, .val (.int (p4 &&& (3 : Int32))), .val (.long (Fdue p1 p2 p3 p4)), .second, .unset, .unset, .unset, .unset] []
  refine own_new H (w := 3) (wi := 4) (wz := 5) rfl rfl rfl at_135 (by decide) (by decide) ?_
  intro h13 a14 ha15 E16 X17 D18
  have f19 : n0 ≤ a14 := by rw [ha15]; exact hZ0
  have f20 : n0 ≤ h13.size := Nat.le_trans hZ0 E16.1
  have f21 : Fld Z h13 a14 "com/example/ring_to_run/ringtorun/TickQueue" "tickMillis" "J" (.long (0 : Int64)) := D18 (Or.inr (own_w H (i := 13) rfl)) (ty := .long) (by decide)
  have f22 : Fld Z h13 a14 "com/example/ring_to_run/ringtorun/TickQueue" "levels" "I" (.int (0 : Int32)) := D18 (Or.inr (own_w H (i := 27) rfl)) (ty := .int) (by decide)
  have f23 : Fld Z h13 a14 "com/example/ring_to_run/ringtorun/TickQueue" "heads" "[Lcom/example/ring_to_run/ringtorun/Task;" .null := D18 (Or.inr (own_w H (i := 31) rfl)) (ty := (.array (.object "com/example/ring_to_run/ringtorun/Task"))) (by decide)
  have f24 : Fld Z h13 a14 "com/example/ring_to_run/ringtorun/TickQueue" "tails" "[Lcom/example/ring_to_run/ringtorun/Task;" .null := D18 (Or.inr (own_w H (i := 33) rfl)) (ty := (.array (.object "com/example/ring_to_run/ringtorun/Task"))) (by decide)
  have f25 : Fld Z h13 a14 "com/example/ring_to_run/ringtorun/TickQueue" "occupied" "[J" .null := D18 (Or.inr (own_w H (i := 36) rfl)) (ty := (.array .long)) (by decide)
  have f26 : Fld Z h13 a14 "com/example/ring_to_run/ringtorun/TickQueue" "start" "J" (.long (0 : Int64)) := D18 (Or.inl (own_w H (i := 38) rfl)) (ty := .long) (by decide)
  show own_G _ _ _ _ _ _ _ _ 138 #[.val (.long p1), .second, .val (.long p2), .second, .val (.long p3), .second, .val (.int p4), .val (.long (Fst p1 p2 p3 p4)), .second, .val (.long (Ftk p1 p2 p3 p4)), .second, .val (.long ((p3 &&& (7 : Int64)) - (4 : Int64))), .second, .val (.int (p4 &&& (3 : Int32))), .val (.long (Fdue p1 p2 p3 p4)), .second, .unset, .unset, .unset, .unset] [(.ref a14)]
  refine own_dup H rfl at_138 ?_
  refine own_lload H rfl at_139 ?_
  refine own_lload H rfl at_141 ?_
  refine own_invokespecial H (a := a14) (argsL := [(.long (Ftk p1 p2 p3 p4)), (.long (Fst p1 p2 p3 p4))]) (rest := [(.ref a14)]) (rm1 l Z a0 (own_hw H) h13 n0 a14 (Ftk p1 p2 p3 p4) (Fst p1 p2 p3 p4) f20 X17 f21 f22 f23 f24 f25 f26 f19) rfl (w1 := 6) (w2 := 7) (w3 := 5) (w4 := 8) rfl rfl rfl rfl own_pd3 rfl 1 (by decide) rfl (by decide) (Nat.le_of_eq rfl) (by decide) (by decide) (by decide) rfl at_143 ?_
  rintro _ h27 ⟨rfl, K28, f29, f30⟩
  have f31 : n0 ≤ h27.size := Nat.le_trans f20 K28.1
  have f32 : Exa Z h27 a14 "com/example/ring_to_run/ringtorun/TickQueue" := X17.keep K28
  show own_G _ _ _ _ _ _ _ _ 146 #[.val (.long p1), .second, .val (.long p2), .second, .val (.long p3), .second, .val (.int p4), .val (.long (Fst p1 p2 p3 p4)), .second, .val (.long (Ftk p1 p2 p3 p4)), .second, .val (.long ((p3 &&& (7 : Int64)) - (4 : Int64))), .second, .val (.int (p4 &&& (3 : Int32))), .val (.long (Fdue p1 p2 p3 p4)), .second, .unset, .unset, .unset, .unset] [(.ref a14)]
  refine own_astore H rfl #[.val (.long p1), .second, .val (.long p2), .second, .val (.long p3), .second, .val (.int p4), .val (.long (Fst p1 p2 p3 p4)), .second, .val (.long (Ftk p1 p2 p3 p4)), .second, .val (.long ((p3 &&& (7 : Int64)) - (4 : Int64))), .second, .val (.int (p4 &&& (3 : Int32))), .val (.long (Fdue p1 p2 p3 p4)), .second, .val (.ref a14), .unset, .unset, .unset] rfl at_146 ?_
  refine own_aload H rfl rfl at_148 ?_
  refine own_lload H rfl at_150 ?_
  refine own_invokevirtual H (a := a14) (argsL := [(.long (Fdue p1 p2 p3 p4))]) (rest := []) (rmH l Z a0 (own_hw H) h27 n0 a14 (Fdue p1 p2 p3 p4) (Fst p1 p2 p3 p4) (Ftk p1 p2 p3 p4) f30 f29) f32 (w1 := 39) (w0 := 40) (w5 := 42) (w2 := 41) (w3 := 5) (w4 := 43) rfl rfl rfl rfl rfl rfl own_pd4 rfl 0 (by decide) rfl (by decide) (Nat.le_of_eq rfl) (by decide) (by decide) (by decide) rfl at_152 ?_
  rintro _ _ ⟨rfl, rfl⟩
  show own_G _ _ _ _ _ _ _ _ 155 #[.val (.long p1), .second, .val (.long p2), .second, .val (.long p3), .second, .val (.int p4), .val (.long (Fst p1 p2 p3 p4)), .second, .val (.long (Ftk p1 p2 p3 p4)), .second, .val (.long ((p3 &&& (7 : Int64)) - (4 : Int64))), .second, .val (.int (p4 &&& (3 : Int32))), .val (.long (Fdue p1 p2 p3 p4)), .second, .val (.ref a14), .unset, .unset, .unset] [(.int (FH (Fdue p1 p2 p3 p4) (Fst p1 p2 p3 p4) (Ftk p1 p2 p3 p4)))]
  refine own_istore H #[.val (.long p1), .second, .val (.long p2), .second, .val (.long p3), .second, .val (.int p4), .val (.long (Fst p1 p2 p3 p4)), .second, .val (.long (Ftk p1 p2 p3 p4)), .second, .val (.long ((p3 &&& (7 : Int64)) - (4 : Int64))), .second, .val (.int (p4 &&& (3 : Int32))), .val (.long (Fdue p1 p2 p3 p4)), .second, .val (.ref a14), .val (.int (FH (Fdue p1 p2 p3 p4) (Fst p1 p2 p3 p4) (Ftk p1 p2 p3 p4))), .unset, .unset] rfl at_155 ?_
  refine own_lload H rfl at_157 ?_
  refine own_ldc2J H (w := 0) rfl at_159 ?_
  refine own_lload H rfl at_162 ?_
  refine own_lconst H (1 : Int64) (by decide) at_164 ?_
  refine own_lsub H rfl at_165 ?_
  refine own_lsub H rfl at_166 ?_
  refine own_cut 176 #[.val (.long p1), .second, .val (.long p2), .second, .val (.long p3), .second, .val (.int p4), .val (.long (Fst p1 p2 p3 p4)), .second, .val (.long (Ftk p1 p2 p3 p4)), .second, .val (.long ((p3 &&& (7 : Int64)) - (4 : Int64))), .second, .val (.int (p4 &&& (3 : Int32))), .val (.long (Fdue p1 p2 p3 p4)), .second, .val (.ref a14), .val (.int (FH (Fdue p1 p2 p3 p4) (Fst p1 p2 p3 p4) (Ftk p1 p2 p3 p4))), .unset, .unset] [(.int (if ((9223372036854775807 : Int64) - ((Ftk p1 p2 p3 p4) - (1 : Int64))) < (Fst p1 p2 p3 p4) then (1 : Int32) else (0 : Int32)))] (fun k34 => ?_) ?_
  ·
    by_cases c33 : ((9223372036854775807 : Int64) - ((Ftk p1 p2 p3 p4) - (1 : Int64))) < (Fst p1 p2 p3 p4)
    ·
      refine own_lcmple_f H at_167 at_168 c33 ?_
      refine own_iconst H (1 : Int32) (by decide) at_171 ?_
      refine own_goto H (pc' := 176) at_172 (by decide) (by decide) ?_
      exact own_cast (by simp only [if_pos c33]) (by simp only [if_pos c33]) k34
    ·
      refine own_lcmple_t H (pc' := 175) at_167 at_168 (by decide) (by decide) c33 ?_
      refine own_iconst H (0 : Int32) (by decide) at_175 ?_
      exact own_cast (by simp only [if_neg c33]) (by simp only [if_neg c33]) k34
  refine own_istore H #[.val (.long p1), .second, .val (.long p2), .second, .val (.long p3), .second, .val (.int p4), .val (.long (Fst p1 p2 p3 p4)), .second, .val (.long (Ftk p1 p2 p3 p4)), .second, .val (.long ((p3 &&& (7 : Int64)) - (4 : Int64))), .second, .val (.int (p4 &&& (3 : Int32))), .val (.long (Fdue p1 p2 p3 p4)), .second, .val (.ref a14), .val (.int (FH (Fdue p1 p2 p3 p4) (Fst p1 p2 p3 p4) (Ftk p1 p2 p3 p4))), .val (.int (if ((9223372036854775807 : Int64) - ((Ftk p1 p2 p3 p4) - (1 : Int64))) < (Fst p1 p2 p3 p4) then (1 : Int32) else (0 : Int32))), .unset] rfl at_176 ?_
  refine own_lload H rfl at_178 ?_
  refine own_lload H rfl at_180 ?_
  refine own_cut 209 #[.val (.long p1), .second, .val (.long p2), .second, .val (.long p3), .second, .val (.int p4), .val (.long (Fst p1 p2 p3 p4)), .second, .val (.long (Ftk p1 p2 p3 p4)), .second, .val (.long ((p3 &&& (7 : Int64)) - (4 : Int64))), .second, .val (.int (p4 &&& (3 : Int32))), .val (.long (Fdue p1 p2 p3 p4)), .second, .val (.ref a14), .val (.int (FH (Fdue p1 p2 p3 p4) (Fst p1 p2 p3 p4) (Ftk p1 p2 p3 p4))), .val (.int (if ((9223372036854775807 : Int64) - ((Ftk p1 p2 p3 p4) - (1 : Int64))) < (Fst p1 p2 p3 p4) then (1 : Int32) else (0 : Int32))), .unset] [(.int (if (Fdue p1 p2 p3 p4) < (Fst p1 p2 p3 p4) then (0 : Int32) else (if (if ((9223372036854775807 : Int64) - ((Ftk p1 p2 p3 p4) - (1 : Int64))) < (Fst p1 p2 p3 p4) then (1 : Int32) else (0 : Int32)) = 0 then (if ((Fst p1 p2 p3 p4) + ((Ftk p1 p2 p3 p4) - (1 : Int64))) < (Fdue p1 p2 p3 p4) then (0 : Int32) else (1 : Int32)) else (1 : Int32))))] (fun k40 => ?_) ?_
  ·
    by_cases c35 : (Fdue p1 p2 p3 p4) < (Fst p1 p2 p3 p4)
    ·
      refine own_lcmplt_t H (pc' := 208) at_182 at_183 (by decide) (by decide) c35 ?_
      refine own_iconst H (0 : Int32) (by decide) at_208 ?_
      exact own_cast (by simp only [if_pos c35]) (by simp only [if_pos c35]) k40
    ·
      refine own_lcmplt_f H at_182 at_183 c35 ?_
      refine own_iload H rfl at_186 ?_
      refine own_cut 209 #[.val (.long p1), .second, .val (.long p2), .second, .val (.long p3), .second, .val (.int p4), .val (.long (Fst p1 p2 p3 p4)), .second, .val (.long (Ftk p1 p2 p3 p4)), .second, .val (.long ((p3 &&& (7 : Int64)) - (4 : Int64))), .second, .val (.int (p4 &&& (3 : Int32))), .val (.long (Fdue p1 p2 p3 p4)), .second, .val (.ref a14), .val (.int (FH (Fdue p1 p2 p3 p4) (Fst p1 p2 p3 p4) (Ftk p1 p2 p3 p4))), .val (.int (if ((9223372036854775807 : Int64) - ((Ftk p1 p2 p3 p4) - (1 : Int64))) < (Fst p1 p2 p3 p4) then (1 : Int32) else (0 : Int32))), .unset] [(.int (if (if ((9223372036854775807 : Int64) - ((Ftk p1 p2 p3 p4) - (1 : Int64))) < (Fst p1 p2 p3 p4) then (1 : Int32) else (0 : Int32)) = 0 then (if ((Fst p1 p2 p3 p4) + ((Ftk p1 p2 p3 p4) - (1 : Int64))) < (Fdue p1 p2 p3 p4) then (0 : Int32) else (1 : Int32)) else (1 : Int32)))] (fun k39 => ?_) ?_
      ·
        by_cases c36 : (if ((9223372036854775807 : Int64) - ((Ftk p1 p2 p3 p4) - (1 : Int64))) < (Fst p1 p2 p3 p4) then (1 : Int32) else (0 : Int32)) = 0
        ·
          refine own_ifne_f H at_188 c36 ?_
          refine own_lload H rfl at_191 ?_
          refine own_lload H rfl at_193 ?_
          refine own_lload H rfl at_195 ?_
          refine own_lconst H (1 : Int64) (by decide) at_197 ?_
          refine own_lsub H rfl at_198 ?_
          refine own_ladd H rfl at_199 ?_
          refine own_cut 209 #[.val (.long p1), .second, .val (.long p2), .second, .val (.long p3), .second, .val (.int p4), .val (.long (Fst p1 p2 p3 p4)), .second, .val (.long (Ftk p1 p2 p3 p4)), .second, .val (.long ((p3 &&& (7 : Int64)) - (4 : Int64))), .second, .val (.int (p4 &&& (3 : Int32))), .val (.long (Fdue p1 p2 p3 p4)), .second, .val (.ref a14), .val (.int (FH (Fdue p1 p2 p3 p4) (Fst p1 p2 p3 p4) (Ftk p1 p2 p3 p4))), .val (.int (if ((9223372036854775807 : Int64) - ((Ftk p1 p2 p3 p4) - (1 : Int64))) < (Fst p1 p2 p3 p4) then (1 : Int32) else (0 : Int32))), .unset] [(.int (if ((Fst p1 p2 p3 p4) + ((Ftk p1 p2 p3 p4) - (1 : Int64))) < (Fdue p1 p2 p3 p4) then (0 : Int32) else (1 : Int32)))] (fun k38 => ?_) ?_
          ·
            by_cases c37 : ((Fst p1 p2 p3 p4) + ((Ftk p1 p2 p3 p4) - (1 : Int64))) < (Fdue p1 p2 p3 p4)
            ·
              refine own_lcmpgt_t H (pc' := 208) at_200 at_201 (by decide) (by decide) c37 ?_
              refine own_iconst H (0 : Int32) (by decide) at_208 ?_
              exact own_cast (by simp only [if_pos c37]) (by simp only [if_pos c37]) k38
            ·
              refine own_lcmpgt_f H at_200 at_201 c37 ?_
              refine own_iconst H (1 : Int32) (by decide) at_204 ?_
              refine own_goto H (pc' := 209) at_205 (by decide) (by decide) ?_
              exact own_cast (by simp only [if_neg c37]) (by simp only [if_neg c37]) k38
          exact own_cast (by simp only [if_pos c36]) (by simp only [if_pos c36]) k39
        ·
          refine own_ifne_t H (pc' := 204) at_188 (by decide) (by decide) c36 ?_
          refine own_iconst H (1 : Int32) (by decide) at_204 ?_
          refine own_goto H (pc' := 209) at_205 (by decide) (by decide) ?_
          exact own_cast (by simp only [if_neg c36]) (by simp only [if_neg c36]) k39
      exact own_cast (by simp only [if_neg c35]) (by simp only [if_neg c35]) k40
  refine own_istore H #[.val (.long p1), .second, .val (.long p2), .second, .val (.long p3), .second, .val (.int p4), .val (.long (Fst p1 p2 p3 p4)), .second, .val (.long (Ftk p1 p2 p3 p4)), .second, .val (.long ((p3 &&& (7 : Int64)) - (4 : Int64))), .second, .val (.int (p4 &&& (3 : Int32))), .val (.long (Fdue p1 p2 p3 p4)), .second, .val (.ref a14), .val (.int (FH (Fdue p1 p2 p3 p4) (Fst p1 p2 p3 p4) (Ftk p1 p2 p3 p4))), .val (.int (if ((9223372036854775807 : Int64) - ((Ftk p1 p2 p3 p4) - (1 : Int64))) < (Fst p1 p2 p3 p4) then (1 : Int32) else (0 : Int32))), .val (.int (if (Fdue p1 p2 p3 p4) < (Fst p1 p2 p3 p4) then (0 : Int32) else (if (if ((9223372036854775807 : Int64) - ((Ftk p1 p2 p3 p4) - (1 : Int64))) < (Fst p1 p2 p3 p4) then (1 : Int32) else (0 : Int32)) = 0 then (if ((Fst p1 p2 p3 p4) + ((Ftk p1 p2 p3 p4) - (1 : Int64))) < (Fdue p1 p2 p3 p4) then (0 : Int32) else (1 : Int32)) else (1 : Int32))))] rfl at_209 ?_
  refine own_iload H rfl at_211 ?_
  refine own_iload H rfl at_213 ?_
  by_cases c41 : (FH (Fdue p1 p2 p3 p4) (Fst p1 p2 p3 p4) (Ftk p1 p2 p3 p4)) = (if (Fdue p1 p2 p3 p4) < (Fst p1 p2 p3 p4) then (0 : Int32) else (if (if ((9223372036854775807 : Int64) - ((Ftk p1 p2 p3 p4) - (1 : Int64))) < (Fst p1 p2 p3 p4) then (1 : Int32) else (0 : Int32)) = 0 then (if ((Fst p1 p2 p3 p4) + ((Ftk p1 p2 p3 p4) - (1 : Int64))) < (Fdue p1 p2 p3 p4) then (0 : Int32) else (1 : Int32)) else (1 : Int32)))
  ·
    refine own_icmpne_f H at_215 c41 ?_
    refine own_iconst H (1 : Int32) (by decide) at_218 ?_
    refine own_goto H (pc' := 223) at_219 (by decide) (by decide) ?_
    exact own_ireturn H (by simp) (by decide) at_223 (by decide) (by decide) (by show some _ = some _; rw [F0, if_pos c41])
  ·
    refine own_icmpne_t H (pc' := 222) at_215 (by decide) (by decide) c41 ?_
    refine own_iconst H (0 : Int32) (by decide) at_222 ?_
    exact own_ireturn H (by simp) (by decide) at_223 (by decide) (by decide) (by show some _ = some _; rw [F0, if_neg c41])
theorem own_max (x : Int64) : 0 ≤ (x &&& (9223372036854775807 : Int64)).toInt := by
  have h : (x &&& (9223372036854775807 : Int64)).toBitVec.toNat = x.toBitVec.toNat % 9223372036854775808 := by
    have : (x &&& (9223372036854775807 : Int64)).toBitVec.toNat = x.toBitVec.toNat &&& 9223372036854775807 := by
      rw [Int64.toBitVec_and, BitVec.toNat_and]; rfl
    rw [this]
    exact Nat.and_two_pow_sub_one_eq_mod _ 63
  show 0 ≤ (x &&& (9223372036854775807 : Int64)).toBitVec.toInt
  rw [BitVec.toInt_eq_toNat_cond, if_pos (by omega)]
  omega
theorem own_a15 (x : Int64) : 0 ≤ (x &&& (15 : Int64)).toInt ∧ (x &&& (15 : Int64)).toInt ≤ 15 := by
  have h : (x &&& (15 : Int64)).toBitVec.toNat = x.toBitVec.toNat % 16 := by
    have : (x &&& (15 : Int64)).toBitVec.toNat = x.toBitVec.toNat &&& 15 := by
      rw [Int64.toBitVec_and, BitVec.toNat_and]; rfl
    rw [this]
    exact Nat.and_two_pow_sub_one_eq_mod _ 4
  have e : (x &&& (15 : Int64)).toInt = (x &&& (15 : Int64)).toBitVec.toNat := by
    show (x &&& (15 : Int64)).toBitVec.toInt = _
    rw [BitVec.toInt_eq_toNat_cond, if_pos (by omega)]
  rw [e, h]
  omega
theorem own_core (s t d : Int64) (hs : 0 ≤ s.toInt) (ht : 1 ≤ t.toInt) : (if (FH d s t) = (if d < s then (0 : Int32) else (if (if ((9223372036854775807 : Int64) - (t - (1 : Int64))) < s then (1 : Int32) else (0 : Int32)) = 0 then (if (s + (t - (1 : Int64))) < d then (0 : Int32) else (1 : Int32)) else (1 : Int32))) then (1 : Int32) else (0 : Int32)) = 1 := by
  have l1 : (1 : Int64).toInt = 1 := by decide
  have lm : (9223372036854775807 : Int64).toInt = 9223372036854775807 := by decide
  have r1 := s.toInt_lt
  have r2 := t.toInt_lt
  have r3 := d.toInt_lt
  have e1 : (t - (1 : Int64)).toInt = t.toInt - 1 := by rw [XT.sub64 ⟨by rw [l1]; omega, by rw [l1]; omega⟩, l1]
  have e2 : ((9223372036854775807 : Int64) - (t - (1 : Int64))).toInt = 9223372036854775807 - (t.toInt - 1) := by rw [XT.sub64 ⟨by rw [e1, lm]; omega, by rw [e1, lm]; omega⟩, e1, lm]
  unfold FH
  simp only [Int64.lt_iff_toInt_lt, e2]
  by_cases c1 : d.toInt < s.toInt
  · simp only [if_pos c1, if_true]
  · have e3 : (d - s).toInt = d.toInt - s.toInt := XT.sub64 ⟨by omega, by omega⟩
    rw [e3]
    by_cases c2 : 9223372036854775807 - (t.toInt - 1) < s.toInt
    · have c3 : d.toInt - s.toInt < t.toInt := by omega
      have z : ¬ (1 : Int32) = 0 := by decide
      simp only [if_neg c1, if_pos c2, if_pos c3, if_neg z, if_true]
    · have e4 : (s + (t - (1 : Int64))).toInt = s.toInt + (t.toInt - 1) := by rw [XT.add64 ⟨by rw [e1]; omega, by rw [e1]; omega⟩, e1]
      rw [e4]
      by_cases c3 : d.toInt - s.toInt < t.toInt
      · have c4 : ¬ s.toInt + (t.toInt - 1) < d.toInt := by omega
        simp only [if_neg c1, if_neg c2, if_pos c3, if_neg c4, if_true]
      · have c4 : s.toInt + (t.toInt - 1) < d.toInt := by omega
        simp only [if_neg c1, if_neg c2, if_neg c3, if_pos c4, if_true]
theorem own_law (p1 p2 p3 : Int64) (p4 : Int32) : F0 p1 p2 p3 p4 = 1 := by
  have hs : 0 ≤ (Fst p1 p2 p3 p4).toInt := by
    unfold Fst
    split
    · exact own_max p1
    · have h := own_a15 p1
      have lm : (9223372036854775807 : Int64).toInt = 9223372036854775807 := by decide
      rw [XT.sub64 ⟨by rw [lm]; omega, by rw [lm]; omega⟩, lm]
      omega
  have ht : 1 ≤ (Ftk p1 p2 p3 p4).toInt := by
    unfold Ftk
    have l0 : (0 : Int64).toInt = 0 := rfl
    have l1 : (1 : Int64).toInt = 1 := by decide
    have k : 0 ≤ (if (p4 &&& (8 : Int32)) = 0 then (p2 &&& (9223372036854775807 : Int64)) else ((p2 &&& (9223372036854775807 : Int64)) &&& (15 : Int64))).toInt := by
      split
      · exact own_max p2
      · exact (own_a15 _).1
    generalize (if (p4 &&& (8 : Int32)) = 0 then (p2 &&& (9223372036854775807 : Int64)) else ((p2 &&& (9223372036854775807 : Int64)) &&& (15 : Int64))) = z at *
    by_cases c : z = (0 : Int64)
    · rw [if_pos c, l1]; omega
    · rw [if_neg c]
      rw [← Int64.toInt_inj, l0] at c
      omega
  exact own_core _ _ _ hs ht

set_option maxHeartbeats 40000000 in
theorem comes_1 {Post : Tables → Env → Array Value → State → Outcome → State → Prop} (hpost : ∀ tb e args s v u, (limb_1_1.after args s (.returned v) u = true ∧ limb_1_2.after args s (.returned v) u = true ∧ True) → FrameEnd s (.returned v) u (Jvm.fieldLocs frame_1_writes args s ++ Jvm.arrayLocs frame_1_arrays args s ++ Jvm.staticLocs frame_1_statics s) 16 2944 → Post tb e args s (.returned v) u) :
    ArmFor flags0 classFile x code maxLocals ret World_1 tables_1 room_1 Calls_1 rest_1 Pre_1 Post := by
  intro l hfl _ _ p e ha hc hk s m args below hf hA hF happ hP
  obtain ⟨hcalls, hrest, hpre⟩ := hP
  obtain ⟨-, -, -, hnamed, -, -, -, hat⟩ := (Spec.applies_iff hf).mp happ
  obtain ⟨hg, hn⟩ := and_e (Cond.before_iff.mp (show (Jvm.Cond.and given_1 narrow_1).before args s = true from hpre))
  obtain ⟨h1, g0⟩ := and_e hg
  obtain ⟨w0, w1, w2, w3, rfl⟩ : ∃ w0 w1 w2 w3 : Value, args = #[w0, w1, w2, w3] := by
    have hs : args.size = 4 := by simpa [Cond.value, given_1] using h1
    obtain ⟨L⟩ := args
    match L, hs with
    | [w0, w1, w2, w3], _ => exact ⟨w0, w1, w2, w3, rfl⟩
  have hw := fun d (hd : d ∈ tables_1) => atoms_spec (ws := Jvm.Cond.code x code maxLocals ret :: tables_1) hat d (List.mem_cons_of_mem _ hd)
  have hw' : ∀ (i : Nat) (d : Jvm.Cond), tables_1[i]? = some d → d.before _ s = true := fun i d q => hw d (List.mem_of_getElem? q)
  obtain ⟨u0, g1⟩ := and_e g0
  obtain ⟨i0, e0⟩ := isL_v u0
  obtain rfl : w0 = (.long i0) := Option.some.inj e0
  obtain ⟨u1, g2⟩ := and_e g1
  obtain ⟨i1, e1⟩ := isL_v u1
  obtain rfl : w1 = (.long i1) := Option.some.inj e1
  obtain ⟨u2, g3⟩ := and_e g2
  obtain ⟨i2, e2⟩ := isL_v u2
  obtain rfl : w2 = (.long i2) := Option.some.inj e2
  obtain ⟨i3, e3⟩ := is_v g3
  obtain rfl : w3 = (.int i3) := Option.some.inj e3
  obtain ⟨n, o, h1, h2, h3, _, L, rfl, ⟨rfl, N⟩, hq⟩ := rm0 l s _ hw' tables_1 s.heap s.heap.size i0 i1 i2 i3 (Nat.le_refl _) p e ha hc hk s m _ below hf ((Spec.applies_iff_loose hf).mp happ).1 ⟨rfl, State.Warmed39.refl s, rfl⟩ trivial
  refine ⟨n, _, h1, h2, h3, hpost _ _ _ _ _ _ ⟨Cond.after_iff.mpr rfl, Cond.after_iff.mpr (eq_i res_at (Term.int_eval (1)) (by rw [own_law])), trivial⟩ ⟨hq.1, hq.2.1, (hq.2.2.sift fun y hy => Or.inr (N y hy)).mono (by decide) (by decide)⟩⟩
theorem main_1_1 : Claimed_1_1 := comes_1 fun _ _ _ _ _ _ h hF => ⟨h.1, hF⟩
theorem main_1_2 : Claimed_1_2 := comes_1 fun _ _ _ _ _ _ h hF => ⟨h.2.1, hF⟩
end Jvm.Pilot.@@N@@
namespace Jvm.Pilot.@@N@@
open Jvm Jvm.ClassFile Sem Op Lib Jvm.Free Jvm.Stand Jvm.Pilot.@@N@@.Jvm.D
/-! MADE BY PROGRAM (witnessworld.py) out of the Statement's table words and the real class files: 20 classes; the members and pool entries that the words name. The judged class is class 1, her method 1. -/
namespace start1
open Jvm.ClassFile
def u (s : String) : CpInfo := .utf8 (stringToUtf16 s)
/-- a pool by its gaps: so many unusable entries, then the entry; so many at the end -/
def gap : Nat → List CpInfo → List CpInfo
  | 0, r => r
  | n + 1, r => .unusable :: gap n r
def poolList (es : List (Nat × CpInfo)) (last : Nat) : List CpInfo := es.foldr (fun e r => gap e.1 (e.2 :: r)) (gap last [])
def pool (es : List (Nat × CpInfo)) (last : Nat) : Array CpInfo := ⟨poolList es last⟩
def fileOf (pool : Array CpInfo) (this : Nat) (attrs : Array Attribute := #[]) (ms : Array MethodInfo := #[]) (fl : Nat := 33) (sup : Nat := 0) (ifs : Array Nat := #[]) (fds : Array FieldInfo := #[]) : ClassFile where
  minorVersion := 0
  majorVersion := 65
  constantPool := pool
  accessFlags := fl
  thisClass := this
  superClass := sup
  interfaces := ifs
  fields := fds
  methods := ms
  attributes := attrs
def plain (name : String) (sup : Option ClassId) : Class where
  name := name
  kind := .ordinary
  loader := none
  accessFlags := 33
  super := sup
  interfaces := #[]
  cf := none
  fields := #[]
  methods := #[]
  instanceTypes := #[]
  staticTypes := #[]
  resolved := #[]
  callSites := []
  init := .initialized
  statics := none
  mirror := none

def pool0 : Array CpInfo := pool [(5, u "<init>"), (0, u "()V"), (1, .class_ 10), (1, u "java/lang/Object")] 113

def k0c0 : Code := { maxStack := 0, maxLocals := 1, code := object_method_1_code, exceptionTable := #[], attributes := #[] }
def k0m0 : Method := { name := "<init>", desc := "()V", sig := { parameters := [], returnType := none }, accessFlags := 1, code := some k0c0 }
/-- java/lang/Object -/
def k0 : Class := { plain "java/lang/Object" none with
  accessFlags := 33
  interfaces := #[]
  cf := some (fileOf pool0 8 #[] #[{ accessFlags := 1, nameIndex := 5, descriptorIndex := 6, attributes := #[] }] 33 0 #[] #[])
  fields := #[]
  methods := #[k0m0]
  instanceTypes := #[]
  staticTypes := #[]
  resolved := Array.replicate 124 none
  statics := none }

def pool1 : Array CpInfo := pool [(2, .class_ 4), (1, u "java/lang/Object"), (0, u "<init>"), (0, u "()V"), (2, .long 9223372036854775807), (1, .long 15), (1, .long 7), (1, .long 4), (1, .class_ 18), (0, u "com/example/ring_to_run/ringtorun/TickQueue"), (0, .methodref 17 20), (0, .nameAndType 5 21), (0, u "(JJ)V"), (0, .methodref 17 23), (0, .nameAndType 24 25), (0, u "holds"), (0, u "(J)Z"), (0, .class_ 27), (0, u "com/example/ring_to_run/ringtorun/TickQueueHoldsPinLaw"), (2, u "law"), (0, u "(JJJI)Z")] 3

def k1m0 : Method := { name := "<init>", desc := "()V", sig := { parameters := [], returnType := none }, accessFlags := 1, code := none }
def k1c1 : Code := { maxStack := 8, maxLocals := 20, code := code, exceptionTable := #[], attributes := #[] }
def k1m1 : Method := { name := "law", desc := "(JJJI)Z", sig := { parameters := [.long, .long, .long, .int], returnType := some .boolean }, accessFlags := 9, code := some k1c1 }
/-- com/example/ring_to_run/ringtorun/TickQueueHoldsPinLaw -/
def k1 : Class := { plain "com/example/ring_to_run/ringtorun/TickQueueHoldsPinLaw" (some 0) with
  accessFlags := 49
  interfaces := #[]
  cf := some (fileOf pool1 26 #[] #[{ accessFlags := 1, nameIndex := 5, descriptorIndex := 6, attributes := #[] }, { accessFlags := 9, nameIndex := 30, descriptorIndex := 31, attributes := #[] }] 49 2 #[] #[])
  fields := #[]
  methods := #[k1m0, k1m1]
  instanceTypes := #[]
  staticTypes := #[]
  resolved := Array.replicate 35 none
  statics := none }

def pool2 : Array CpInfo := pool [(1, .class_ 2), (0, u "com/example/ring_to_run/ringtorun/TickQueue"), (0, .methodref 4 5), (0, .class_ 6), (0, .nameAndType 7 8), (0, u "java/lang/Object"), (0, u "<init>"), (0, u "()V"), (0, .fieldref 1 10), (0, .nameAndType 11 12), (0, u "tickMillis"), (0, u "J"), (0, .class_ 14), (0, u "java/lang/Long"), (0, .methodref 13 16), (0, .nameAndType 17 18), (0, u "numberOfLeadingZeros"), (0, u "(J)I"), (0, .methodref 20 21), (0, .class_ 22), (0, .nameAndType 23 24), (0, u "java/lang/Math"), (0, u "max"), (0, u "(II)I"), (0, .fieldref 1 26), (0, .nameAndType 27 28), (0, u "levels"), (0, u "I"), (0, .class_ 30), (0, u "com/example/ring_to_run/ringtorun/Task"), (0, .fieldref 1 32), (0, .nameAndType 33 34), (0, u "heads"), (0, u "[Lcom/example/ring_to_run/ringtorun/Task;"), (0, .fieldref 1 36), (0, .nameAndType 37 34), (0, u "tails"), (0, .fieldref 1 39), (0, .nameAndType 40 41), (0, u "occupied"), (0, u "[J"), (0, .fieldref 1 43), (0, .nameAndType 44 12), (0, u "start"), (2, u "cursor"), (55, u "BITS"), (2, u "WIDTH"), (1, u "INDEX_MASK"), (1, u "(JJ)V"), (5, u "holds"), (0, u "(J)Z")] 9

def k2c0 : Code := { maxStack := 5, maxLocals := 6, code := prog_11_method_1_code, exceptionTable := #[], attributes := #[] }
def k2m0 : Method := { name := "<init>", desc := "(JJ)V", sig := { parameters := [.long, .long], returnType := none }, accessFlags := 0, code := some k2c0 }
def k2c1 : Code := { maxStack := 4, maxLocals := 3, code := prog_11_method_4_code, exceptionTable := #[], attributes := #[] }
def k2m1 : Method := { name := "holds", desc := "(J)Z", sig := { parameters := [.long], returnType := some .boolean }, accessFlags := 0, code := some k2c1 }
/-- com/example/ring_to_run/ringtorun/TickQueue -/
def k2 : Class := { plain "com/example/ring_to_run/ringtorun/TickQueue" (some 0) with
  accessFlags := 48
  interfaces := #[]
  cf := some (fileOf pool2 1 #[] #[{ accessFlags := 0, nameIndex := 7, descriptorIndex := 110, attributes := #[] }, { accessFlags := 0, nameIndex := 116, descriptorIndex := 117, attributes := #[] }] 48 4 #[] #[{ accessFlags := 26, nameIndex := 103, descriptorIndex := 28, attributes := #[] }, { accessFlags := 26, nameIndex := 106, descriptorIndex := 28, attributes := #[] }, { accessFlags := 26, nameIndex := 108, descriptorIndex := 28, attributes := #[] }, { accessFlags := 18, nameIndex := 11, descriptorIndex := 12, attributes := #[] }, { accessFlags := 18, nameIndex := 27, descriptorIndex := 28, attributes := #[] }, { accessFlags := 18, nameIndex := 33, descriptorIndex := 34, attributes := #[] }, { accessFlags := 18, nameIndex := 37, descriptorIndex := 34, attributes := #[] }, { accessFlags := 18, nameIndex := 40, descriptorIndex := 41, attributes := #[] }, { accessFlags := 2, nameIndex := 44, descriptorIndex := 12, attributes := #[] }, { accessFlags := 2, nameIndex := 47, descriptorIndex := 12, attributes := #[] }])
  fields := #[{ name := "BITS", type := .int, accessFlags := 26, slot := 0, constantValue := 0 }, { name := "WIDTH", type := .int, accessFlags := 26, slot := 1, constantValue := 0 }, { name := "INDEX_MASK", type := .int, accessFlags := 26, slot := 2, constantValue := 0 }, { name := "tickMillis", type := .long, accessFlags := 18, slot := 0, constantValue := 0 }, { name := "levels", type := .int, accessFlags := 18, slot := 1, constantValue := 0 }, { name := "heads", type := (.array (.object "com/example/ring_to_run/ringtorun/Task")), accessFlags := 18, slot := 2, constantValue := 0 }, { name := "tails", type := (.array (.object "com/example/ring_to_run/ringtorun/Task")), accessFlags := 18, slot := 3, constantValue := 0 }, { name := "occupied", type := (.array .long), accessFlags := 18, slot := 4, constantValue := 0 }, { name := "start", type := .long, accessFlags := 2, slot := 5, constantValue := 0 }, { name := "cursor", type := .long, accessFlags := 2, slot := 6, constantValue := 0 }]
  methods := #[k2m0, k2m1]
  instanceTypes := #[.long, .int, (.array (.object "com/example/ring_to_run/ringtorun/Task")), (.array (.object "com/example/ring_to_run/ringtorun/Task")), (.array .long), .long, .long]
  staticTypes := #[.int, .int, .int]
  resolved := Array.replicate 127 none
  statics := none }

def pool3 : Array CpInfo := pool [(1, .class_ 2), (0, u "java/io/Serializable"), (0, .class_ 4), (0, u "java/lang/Object")] 2

/-- java/io/Serializable -/
def k3 : Class := { plain "java/io/Serializable" (some 0) with
  accessFlags := 1537
  interfaces := #[]
  cf := some (fileOf pool3 1 #[] #[] 1537 3 #[] #[])
  fields := #[]
  methods := #[]
  instanceTypes := #[]
  staticTypes := #[]
  resolved := Array.replicate 7 none
  statics := none }

def pool4 : Array CpInfo := pool [(2, .class_ 4), (1, u "java/lang/Object"), (0, u "<init>"), (0, u "()V"), (1, .class_ 10), (1, u "java/lang/Number"), (2, .class_ 14), (0, u "java/io/Serializable"), (0, u "serialVersionUID"), (0, u "J")] 20

def k4m0 : Method := { name := "<init>", desc := "()V", sig := { parameters := [], returnType := none }, accessFlags := 1, code := none }
/-- java/lang/Number -/
def k4 : Class := { plain "java/lang/Number" (some 0) with
  accessFlags := 1057
  interfaces := #[3]
  cf := some (fileOf pool4 8 #[] #[{ accessFlags := 1, nameIndex := 5, descriptorIndex := 6, attributes := #[] }] 1057 2 #[13] #[{ accessFlags := 26, nameIndex := 15, descriptorIndex := 16, attributes := #[] }])
  fields := #[{ name := "serialVersionUID", type := .long, accessFlags := 26, slot := 0, constantValue := 0 }]
  methods := #[k4m0]
  instanceTypes := #[]
  staticTypes := #[.long]
  resolved := Array.replicate 37 none
  statics := none }

def pool5 : Array CpInfo := pool [(1, .class_ 2), (0, u "java/lang/Comparable"), (0, .class_ 4), (0, u "java/lang/Object")] 7

/-- java/lang/Comparable -/
def k5 : Class := { plain "java/lang/Comparable" (some 0) with
  accessFlags := 1537
  interfaces := #[]
  cf := some (fileOf pool5 1 #[] #[] 1537 3 #[] #[])
  fields := #[]
  methods := #[]
  instanceTypes := #[]
  staticTypes := #[]
  resolved := Array.replicate 12 none
  statics := none }

def pool6 : Array CpInfo := pool [(1, .class_ 2), (0, u "java/lang/constant/Constable"), (0, .class_ 4), (0, u "java/lang/Object")] 6

/-- java/lang/constant/Constable -/
def k6 : Class := { plain "java/lang/constant/Constable" (some 0) with
  accessFlags := 1537
  interfaces := #[]
  cf := some (fileOf pool6 1 #[] #[] 1537 3 #[] #[])
  fields := #[]
  methods := #[]
  instanceTypes := #[]
  staticTypes := #[]
  resolved := Array.replicate 11 none
  statics := none }

def pool7 : Array CpInfo := pool [(1, .class_ 2), (0, u "java/lang/constant/ConstantDesc"), (0, .class_ 4), (0, u "java/lang/Object")] 32

/-- java/lang/constant/ConstantDesc -/
def k7 : Class := { plain "java/lang/constant/ConstantDesc" (some 0) with
  accessFlags := 1537
  interfaces := #[]
  cf := some (fileOf pool7 1 #[] #[] 1537 3 #[] #[])
  fields := #[]
  methods := #[]
  instanceTypes := #[]
  staticTypes := #[]
  resolved := Array.replicate 37 none
  statics := none }

def pool8 : Array CpInfo := pool [(1, .class_ 2), (0, u "java/lang/Long"), (15, .class_ 20), (1, u "java/lang/Integer"), (79, u "numberOfLeadingZeros"), (0, u "(J)I"), (133, .class_ 237), (1, u "java/lang/Long$LongCache"), (33, .class_ 272), (0, u "java/lang/Number"), (2, u "value"), (0, u "J"), (31, .methodref 18 309), (0, .nameAndType 100 310), (0, u "(I)I"), (50, u "TYPE"), (0, u "Ljava/lang/Class;"), (0, .class_ 364), (0, u "java/lang/Comparable"), (0, .class_ 366), (0, u "java/lang/constant/Constable"), (0, .class_ 368), (0, u "java/lang/constant/ConstantDesc"), (0, u "MIN_VALUE"), (1, u "MAX_VALUE"), (4, u "SIZE"), (0, u "I"), (1, u "BYTES"), (1, u "serialVersionUID")] 142

def k8c0 : Code := { maxStack := 3, maxLocals := 3, code := jdk_35_method_48_code, exceptionTable := #[], attributes := #[] }
def k8m0 : Method := { name := "numberOfLeadingZeros", desc := "(J)I", sig := { parameters := [.long], returnType := some .int }, accessFlags := 9, code := some k8c0 }
/-- java/lang/Long -/
def k8 : Class := { plain "java/lang/Long" (some 4) with
  accessFlags := 49
  interfaces := #[5, 6, 7]
  cf := some (fileOf pool8 1 #[.nestMembers #[235]] #[{ accessFlags := 9, nameIndex := 100, descriptorIndex := 101, attributes := #[] }] 49 271 #[363, 365, 367] #[{ accessFlags := 25, nameIndex := 369, descriptorIndex := 276, attributes := #[] }, { accessFlags := 25, nameIndex := 371, descriptorIndex := 276, attributes := #[] }, { accessFlags := 25, nameIndex := 361, descriptorIndex := 362, attributes := #[] }, { accessFlags := 18, nameIndex := 275, descriptorIndex := 276, attributes := #[] }, { accessFlags := 25, nameIndex := 376, descriptorIndex := 377, attributes := #[] }, { accessFlags := 25, nameIndex := 379, descriptorIndex := 377, attributes := #[] }, { accessFlags := 26, nameIndex := 381, descriptorIndex := 276, attributes := #[] }])
  fields := #[{ name := "MIN_VALUE", type := .long, accessFlags := 25, slot := 0, constantValue := 0 }, { name := "MAX_VALUE", type := .long, accessFlags := 25, slot := 1, constantValue := 0 }, { name := "TYPE", type := (.object "java/lang/Class"), accessFlags := 25, slot := 2, constantValue := 0 }, { name := "value", type := .long, accessFlags := 18, slot := 0, constantValue := 0 }, { name := "SIZE", type := .int, accessFlags := 25, slot := 3, constantValue := 0 }, { name := "BYTES", type := .int, accessFlags := 25, slot := 4, constantValue := 0 }, { name := "serialVersionUID", type := .long, accessFlags := 26, slot := 5, constantValue := 0 }]
  methods := #[k8m0]
  instanceTypes := #[.long]
  staticTypes := #[.long, .long, (.object "java/lang/Class"), .int, .int, .long]
  resolved := Array.replicate 524 none
  statics := none }

def pool9 : Array CpInfo := pool [(1, .class_ 2), (0, u "java/lang/Integer"), (16, u "digits"), (0, u "[C"), (32, u "numberOfLeadingZeros"), (0, u "(I)I"), (30, u "DigitOnes"), (0, u "[B"), (2, u "DigitTens"), (99, .class_ 190), (0, u "java/lang/Integer$IntegerCache"), (3, u "I"), (8, .class_ 204), (0, u "java/lang/Number"), (2, u "value"), (56, .integer 65536), (37, u "TYPE"), (0, u "Ljava/lang/Class;"), (0, .class_ 305), (0, u "java/lang/Comparable"), (0, .class_ 307), (0, u "java/lang/constant/Constable"), (0, .class_ 309), (0, u "java/lang/constant/ConstantDesc"), (0, u "MIN_VALUE"), (1, u "MAX_VALUE"), (3, u "SIZE"), (1, u "BYTES"), (1, u "serialVersionUID"), (0, u "J")] 131

def k9c0 : Code := { maxStack := 3, maxLocals := 2, code := jdk_33_method_47_code, exceptionTable := #[], attributes := #[] }
def k9m0 : Method := { name := "numberOfLeadingZeros", desc := "(I)I", sig := { parameters := [.int], returnType := some .int }, accessFlags := 9, code := some k9c0 }
/-- java/lang/Integer -/
def k9 : Class := { plain "java/lang/Integer" (some 4) with
  accessFlags := 49
  interfaces := #[5, 6, 7]
  cf := some (fileOf pool9 1 #[.nestMembers #[189]] #[{ accessFlags := 9, nameIndex := 53, descriptorIndex := 54, attributes := #[] }] 49 203 #[304, 306, 308] #[{ accessFlags := 25, nameIndex := 310, descriptorIndex := 194, attributes := #[] }, { accessFlags := 25, nameIndex := 312, descriptorIndex := 194, attributes := #[] }, { accessFlags := 25, nameIndex := 302, descriptorIndex := 303, attributes := #[] }, { accessFlags := 24, nameIndex := 19, descriptorIndex := 20, attributes := #[] }, { accessFlags := 24, nameIndex := 89, descriptorIndex := 86, attributes := #[] }, { accessFlags := 24, nameIndex := 85, descriptorIndex := 86, attributes := #[] }, { accessFlags := 18, nameIndex := 207, descriptorIndex := 194, attributes := #[] }, { accessFlags := 25, nameIndex := 316, descriptorIndex := 194, attributes := #[] }, { accessFlags := 25, nameIndex := 318, descriptorIndex := 194, attributes := #[] }, { accessFlags := 26, nameIndex := 320, descriptorIndex := 321, attributes := #[] }])
  fields := #[{ name := "MIN_VALUE", type := .int, accessFlags := 25, slot := 0, constantValue := 0 }, { name := "MAX_VALUE", type := .int, accessFlags := 25, slot := 1, constantValue := 0 }, { name := "TYPE", type := (.object "java/lang/Class"), accessFlags := 25, slot := 2, constantValue := 0 }, { name := "digits", type := (.array .char), accessFlags := 24, slot := 3, constantValue := 0 }, { name := "DigitTens", type := (.array .byte), accessFlags := 24, slot := 4, constantValue := 0 }, { name := "DigitOnes", type := (.array .byte), accessFlags := 24, slot := 5, constantValue := 0 }, { name := "value", type := .int, accessFlags := 18, slot := 0, constantValue := 0 }, { name := "SIZE", type := .int, accessFlags := 25, slot := 6, constantValue := 0 }, { name := "BYTES", type := .int, accessFlags := 25, slot := 7, constantValue := 0 }, { name := "serialVersionUID", type := .long, accessFlags := 26, slot := 8, constantValue := 0 }]
  methods := #[k9m0]
  instanceTypes := #[.int]
  staticTypes := #[.int, .int, (.object "java/lang/Class"), (.array .char), (.array .byte), (.array .byte), .int, .int, .long]
  resolved := Array.replicate 453 none
  statics := none }

def pool10 : Array CpInfo := pool [(1, .class_ 2), (0, u "java/lang/Math"), (1, .class_ 6), (1, u "java/lang/Object"), (0, u "<init>"), (0, u "()V"), (89, .class_ 100), (1, u "java/lang/Math$RandomNumberGeneratorHolder"), (71, u "negativeZeroFloatBits"), (0, u "J"), (2, u "negativeZeroDoubleBits"), (21, u "max"), (46, u "$assertionsDisabled"), (0, u "Z"), (88, u "(II)I"), (2, u "twoToTheDoubleScaleDown"), (0, u "D"), (4, u "twoToTheDoubleScaleUp"), (9, u "E"), (3, u "PI"), (2, u "TAU"), (2, u "DEGREES_TO_RADIANS"), (0, u "RADIANS_TO_DEGREES")] 94

def k10m0 : Method := { name := "<init>", desc := "()V", sig := { parameters := [], returnType := none }, accessFlags := 2, code := none }
def k10c1 : Code := { maxStack := 2, maxLocals := 2, code := jdk_29_method_65_code, exceptionTable := #[], attributes := #[] }
def k10m1 : Method := { name := "max", desc := "(II)I", sig := { parameters := [.int, .int], returnType := some .int }, accessFlags := 9, code := some k10c1 }
/-- java/lang/Math -/
def k10 : Class := { plain "java/lang/Math" (some 0) with
  accessFlags := 49
  interfaces := #[]
  cf := some (fileOf pool10 1 #[.nestMembers #[98]] #[{ accessFlags := 2, nameIndex := 7, descriptorIndex := 8, attributes := #[] }, { accessFlags := 9, nameIndex := 198, descriptorIndex := 335, attributes := #[] }] 49 4 #[] #[{ accessFlags := 25, nameIndex := 354, descriptorIndex := 339, attributes := #[] }, { accessFlags := 25, nameIndex := 358, descriptorIndex := 339, attributes := #[] }, { accessFlags := 25, nameIndex := 361, descriptorIndex := 339, attributes := #[] }, { accessFlags := 26, nameIndex := 364, descriptorIndex := 339, attributes := #[] }, { accessFlags := 26, nameIndex := 365, descriptorIndex := 339, attributes := #[] }, { accessFlags := 26, nameIndex := 172, descriptorIndex := 173, attributes := #[] }, { accessFlags := 26, nameIndex := 176, descriptorIndex := 173, attributes := #[] }, { accessFlags := 8, nameIndex := 344, descriptorIndex := 339, attributes := #[] }, { accessFlags := 8, nameIndex := 338, descriptorIndex := 339, attributes := #[] }, { accessFlags := 4120, nameIndex := 245, descriptorIndex := 246, attributes := #[] }])
  fields := #[{ name := "E", type := .double, accessFlags := 25, slot := 0, constantValue := 0 }, { name := "PI", type := .double, accessFlags := 25, slot := 1, constantValue := 0 }, { name := "TAU", type := .double, accessFlags := 25, slot := 2, constantValue := 0 }, { name := "DEGREES_TO_RADIANS", type := .double, accessFlags := 26, slot := 3, constantValue := 0 }, { name := "RADIANS_TO_DEGREES", type := .double, accessFlags := 26, slot := 4, constantValue := 0 }, { name := "negativeZeroFloatBits", type := .long, accessFlags := 26, slot := 5, constantValue := 0 }, { name := "negativeZeroDoubleBits", type := .long, accessFlags := 26, slot := 6, constantValue := 0 }, { name := "twoToTheDoubleScaleUp", type := .double, accessFlags := 8, slot := 7, constantValue := 0 }, { name := "twoToTheDoubleScaleDown", type := .double, accessFlags := 8, slot := 8, constantValue := 0 }, { name := "$assertionsDisabled", type := .boolean, accessFlags := 4120, slot := 9, constantValue := 0 }]
  methods := #[k10m0, k10m1]
  instanceTypes := #[]
  staticTypes := #[.double, .double, .double, .double, .double, .long, .long, .double, .double, .boolean]
  resolved := Array.replicate 460 none
  statics := none }

def pool11 : Array CpInfo := pool [(2, .class_ 4), (1, u "java/lang/Object"), (3, .class_ 10), (1, u "com/example/ring_to_run/ringtorun/Task"), (0, u "id"), (0, u "Ljava/lang/String;"), (2, u "payload"), (0, u "[B"), (2, u "dueInstant"), (0, u "J"), (4, u "previous"), (0, u "Lcom/example/ring_to_run/ringtorun/Task;"), (0, u "next")] 24

/-- com/example/ring_to_run/ringtorun/Task -/
def k11 : Class := { plain "com/example/ring_to_run/ringtorun/Task" (some 0) with
  accessFlags := 49
  interfaces := #[]
  cf := some (fileOf pool11 8 #[] #[] 49 2 #[] #[{ accessFlags := 18, nameIndex := 11, descriptorIndex := 12, attributes := #[] }, { accessFlags := 18, nameIndex := 15, descriptorIndex := 16, attributes := #[] }, { accessFlags := 18, nameIndex := 19, descriptorIndex := 20, attributes := #[] }, { accessFlags := 0, nameIndex := 25, descriptorIndex := 26, attributes := #[] }, { accessFlags := 0, nameIndex := 27, descriptorIndex := 26, attributes := #[] }])
  fields := #[{ name := "id", type := (.object "java/lang/String"), accessFlags := 18, slot := 0, constantValue := 0 }, { name := "payload", type := (.array .byte), accessFlags := 18, slot := 1, constantValue := 0 }, { name := "dueInstant", type := .long, accessFlags := 18, slot := 2, constantValue := 0 }, { name := "previous", type := (.object "com/example/ring_to_run/ringtorun/Task"), accessFlags := 0, slot := 3, constantValue := 0 }, { name := "next", type := (.object "com/example/ring_to_run/ringtorun/Task"), accessFlags := 0, slot := 4, constantValue := 0 }]
  methods := #[]
  instanceTypes := #[(.object "java/lang/String"), (.array .byte), .long, (.object "com/example/ring_to_run/ringtorun/Task"), (.object "com/example/ring_to_run/ringtorun/Task")]
  staticTypes := #[]
  resolved := Array.replicate 52 none
  statics := none }

def pool12 : Array CpInfo := pool [(1, u "java/lang/Cloneable"), (0, .class_ 1), (0, u "java/lang/Object"), (0, .class_ 3)] 3

/-- java/lang/Cloneable -/
def k12 : Class := { plain "java/lang/Cloneable" (some 0) with
  accessFlags := 1537
  interfaces := #[]
  cf := some (fileOf pool12 2 #[] #[] 1537 4 #[] #[])
  fields := #[]
  methods := #[]
  instanceTypes := #[]
  staticTypes := #[]
  resolved := Array.replicate 8 none
  statics := none }

/-- the primitive byte -/
def k13 : Class := { plain "byte" none with kind := .primitive 'B', accessFlags := 0x411 }
/-- [B -/
def k14 : Class := { plain "[B" (some 0) with kind := .array 13 .byte, interfaces := #[12, 3], accessFlags := 1041 }

/-- the primitive int -/
def k15 : Class := { plain "int" none with kind := .primitive 'I', accessFlags := 0x411 }
/-- [I -/
def k16 : Class := { plain "[I" (some 0) with kind := .array 15 .int, interfaces := #[12, 3], accessFlags := 1041 }

/-- the primitive long -/
def k17 : Class := { plain "long" none with kind := .primitive 'J', accessFlags := 0x411 }
/-- [J -/
def k18 : Class := { plain "[J" (some 0) with kind := .array 17 .long, interfaces := #[12, 3], accessFlags := 1041 }

/-- [Lcom/example/ring_to_run/ringtorun/Task; -/
def k19 : Class := { plain "[Lcom/example/ring_to_run/ringtorun/Task;" (some 0) with kind := .array 11 (.object "com/example/ring_to_run/ringtorun/Task"), interfaces := #[12, 3], accessFlags := 1041 }

def heap : Heap := #[]
def classes : Array Class := #[k0, k1, k2, k3, k4, k5, k6, k7, k8, k9, k10, k11, k12, k13, k14, k15, k16, k17, k18, k19]
def interned : List (Array UInt16 × Addr) := []
def slotsUsed : Nat := 0
def theMethod : MethodId := ⟨1, 1⟩
def args0 : Array Value := #[.long 5, .long 9, .long 7, .int 2]
def aboutOver (below : List Frame) : State where
  vm := { classes := classes, interned := interned.toArray }
  heap := heap
  slotsUsed := slotsUsed
  threads := #[{ frames := .invoking theMethod args0 :: below }]
def below0 : List Frame := [.native { method := ⟨0, 0⟩, args := #[] }]
def about1 : State := aboutOver below0
def p0 : Program := .bare "" "" ""
def e0 : Env := launch0.env 0 0 0
theorem w_frames : about1.frames = Frame.invoking theMethod args0 :: below0 := rfl
set_option maxRecDepth 65536 in
theorem w_args : argsFit about1.vm theMethod args0 = true := by decide +kernel
set_option maxRecDepth 65536 in
theorem w_heap : heapFits about1 = true := by decide +kernel
set_option maxRecDepth 65536 in
theorem w_runnable : about1.curStatus? = some .runnable := by decide +kernel
set_option maxRecDepth 65536 in
theorem w_alone : about1.alone = true := by decide +kernel
set_option maxRecDepth 65536 in
theorem w_named : about1.methodNamed? x = some theMethod := by decide +kernel
set_option maxRecDepth 65536 in
theorem w_hears : about1.hears theMethod below0 = true := by decide +kernel
set_option maxRecDepth 65536 in
theorem w_ripe : about1.ripe theMethod args0 below0 = true := by decide +kernel
theorem w_running : about1.status = .running := rfl
set_option maxRecDepth 65536 in
theorem w_room : about1.hasRoom e0.platform room_1 = true :=
  launch0.hasRoom_least _ room_1 (by decide +kernel) (by decide +kernel) (by decide +kernel) (by decide +kernel) (by decide +kernel) (by decide +kernel)
theorem allAtoms_all (ts : List Jvm.Cond) (a : Array Jvm.Value) (st : Jvm.State) : (allAtoms ts).before a st = ts.all (fun c => c.before a st) := by
  induction ts with
  | nil => rfl
  | cons c t ih =>
    show (Jvm.Cond.and c (allAtoms t)).before a st = _
    rw [Jvm.Cond.before_and, ih, List.all_cons]
def words1 : List Jvm.Cond := Jvm.Cond.code x code maxLocals ret :: tables_1
/-- a 'code' word, met by the world's own term for the bytes: nothing is compared byte by byte -/
theorem code_word {y : MethodName} {bytes : ByteArray} {mx : Nat} {rt : Option FieldType} {a : Array Value} {s : State} {m : MethodId} {meth : Method} {c : Code} (h1 : s.methodNamed? y = some m) (h2 : s.vm.method? m = some meth) (h3 : meth.code = some c) (h4 : c.code = bytes)
    (h5 : (c.maxLocals == mx && c.exceptionTable.isEmpty && decide (c.maxStack ≤ mostOperands) && decide (meth.sig.returnType = rt) && !meth.locks && decide (parseMethodDescriptor y.desc = some meth.sig)) = true) : (Jvm.Cond.code y bytes mx rt).before a s = true := by
  simp only [Bool.and_eq_true, beq_iff_eq, Bool.not_eq_true', decide_eq_true_eq] at h5
  obtain ⟨⟨⟨⟨⟨g1, g2⟩, g3⟩, g4⟩, g5⟩, g6⟩ := h5
  simp [Cond.before, Cond.holds, Cond.value, h1, h2, h3, h4, g1, g2, g3, g4, g5, g6]
def isCode : Jvm.Cond → Bool
  | .code _ _ _ _ => true
  | _ => false
theorem all_split {L : List Jvm.Cond} {P : Jvm.Cond → Bool} (h1 : L.all (fun c => isCode c || P c) = true) (h2 : ∀ c ∈ L.filter isCode, P c = true) : L.all P = true := by
  refine List.all_eq_true.mpr fun c hc => ?_
  have h := List.all_eq_true.mp h1 c hc
  rcases Bool.eq_false_or_eq_true (isCode c) with hi | hi
  · exact h2 c (List.mem_filter.mpr ⟨hc, hi⟩)
  · simpa [hi] using h
set_option maxRecDepth 65536 in
theorem w_c0 : (Jvm.Cond.code x code maxLocals ret).before args0 about1 = true := code_word (m := ⟨1, 1⟩) (meth := k1m1) (c := k1c1) (by decide +kernel) rfl rfl rfl (by decide +kernel)
set_option maxRecDepth 65536 in
theorem w_c1 : (Jvm.Cond.code ({ cls := "com/example/ring_to_run/ringtorun/TickQueue", name := "<init>", desc := "(JJ)V" } : Jvm.MethodName) prog_11_method_1_code (6 : Nat) (Option.none : Option Jvm.ClassFile.FieldType)).before args0 about1 = true := code_word (m := ⟨2, 0⟩) (meth := k2m0) (c := k2c0) (by decide +kernel) rfl rfl rfl (by decide +kernel)
set_option maxRecDepth 65536 in
theorem w_c2 : (Jvm.Cond.code ({ cls := "java/lang/Object", name := "<init>", desc := "()V" } : Jvm.MethodName) object_method_1_code (1 : Nat) (Option.none : Option Jvm.ClassFile.FieldType)).before args0 about1 = true := code_word (m := ⟨0, 0⟩) (meth := k0m0) (c := k0c0) (by decide +kernel) rfl rfl rfl (by decide +kernel)
set_option maxRecDepth 65536 in
theorem w_c3 : (Jvm.Cond.code ({ cls := "java/lang/Long", name := "numberOfLeadingZeros", desc := "(J)I" } : Jvm.MethodName) jdk_35_method_48_code (3 : Nat) (Option.some Jvm.ClassFile.FieldType.int)).before args0 about1 = true := code_word (m := ⟨8, 0⟩) (meth := k8m0) (c := k8c0) (by decide +kernel) rfl rfl rfl (by decide +kernel)
set_option maxRecDepth 65536 in
theorem w_c4 : (Jvm.Cond.code ({ cls := "java/lang/Integer", name := "numberOfLeadingZeros", desc := "(I)I" } : Jvm.MethodName) jdk_33_method_47_code (2 : Nat) (Option.some Jvm.ClassFile.FieldType.int)).before args0 about1 = true := code_word (m := ⟨9, 0⟩) (meth := k9m0) (c := k9c0) (by decide +kernel) rfl rfl rfl (by decide +kernel)
set_option maxRecDepth 65536 in
theorem w_c5 : (Jvm.Cond.code ({ cls := "java/lang/Math", name := "max", desc := "(II)I" } : Jvm.MethodName) jdk_29_method_65_code (2 : Nat) (Option.some Jvm.ClassFile.FieldType.int)).before args0 about1 = true := code_word (m := ⟨10, 1⟩) (meth := k10m1) (c := k10c1) (by decide +kernel) rfl rfl rfl (by decide +kernel)
set_option maxRecDepth 65536 in
theorem w_c6 : (Jvm.Cond.code ({ cls := "com/example/ring_to_run/ringtorun/TickQueue", name := "holds", desc := "(J)Z" } : Jvm.MethodName) prog_11_method_4_code (3 : Nat) (Option.some Jvm.ClassFile.FieldType.boolean)).before args0 about1 = true := code_word (m := ⟨2, 1⟩) (meth := k2m1) (c := k2c1) (by decide +kernel) rfl rfl rfl (by decide +kernel)
def codes1 : List Jvm.Cond := [Jvm.Cond.code x code maxLocals ret, Jvm.Cond.code ({ cls := "com/example/ring_to_run/ringtorun/TickQueue", name := "<init>", desc := "(JJ)V" } : Jvm.MethodName) prog_11_method_1_code (6 : Nat) (Option.none : Option Jvm.ClassFile.FieldType), Jvm.Cond.code ({ cls := "java/lang/Object", name := "<init>", desc := "()V" } : Jvm.MethodName) object_method_1_code (1 : Nat) (Option.none : Option Jvm.ClassFile.FieldType), Jvm.Cond.code ({ cls := "java/lang/Long", name := "numberOfLeadingZeros", desc := "(J)I" } : Jvm.MethodName) jdk_35_method_48_code (3 : Nat) (Option.some Jvm.ClassFile.FieldType.int), Jvm.Cond.code ({ cls := "java/lang/Integer", name := "numberOfLeadingZeros", desc := "(I)I" } : Jvm.MethodName) jdk_33_method_47_code (2 : Nat) (Option.some Jvm.ClassFile.FieldType.int), Jvm.Cond.code ({ cls := "java/lang/Math", name := "max", desc := "(II)I" } : Jvm.MethodName) jdk_29_method_65_code (2 : Nat) (Option.some Jvm.ClassFile.FieldType.int), Jvm.Cond.code ({ cls := "com/example/ring_to_run/ringtorun/TickQueue", name := "holds", desc := "(J)Z" } : Jvm.MethodName) prog_11_method_4_code (3 : Nat) (Option.some Jvm.ClassFile.FieldType.boolean)]
set_option maxRecDepth 65536 in
theorem codes_eq : words1.filter isCode = codes1 := rfl
theorem w_codes : ∀ c ∈ words1.filter isCode, c.before args0 about1 = true := by
  rw [codes_eq]
  intro c hc
  simp only [codes1, List.mem_cons, List.not_mem_nil, or_false] at hc
  rcases hc with rfl | rfl | rfl | rfl | rfl | rfl | rfl
  · exact w_c0
  · exact w_c1
  · exact w_c2
  · exact w_c3
  · exact w_c4
  · exact w_c5
  · exact w_c6
set_option maxRecDepth 65536 in
theorem w_t1 : (words1.take 24).all (fun c => isCode c || c.before args0 about1) = true := by decide +kernel
set_option maxRecDepth 65536 in
theorem w_t2 : (words1.drop 24).all (fun c => isCode c || c.before args0 about1) = true := by decide +kernel
theorem w_tables : (allAtoms (Jvm.Cond.code x code maxLocals ret :: tables_1)).before args0 about1 = true := by
  rw [allAtoms_all]
  show words1.all (fun c => c.before args0 about1) = true
  refine all_split ?_ w_codes
  rw [← List.take_append_drop 24 words1, List.all_append, w_t1, w_t2]
  rfl
set_option maxRecDepth 65536 in
theorem w_case : (Jvm.Cond.and given_1 narrow_1).before args0 about1 = true := by decide +kernel
theorem w_applies : (headSpec (Jvm.Cond.code x code maxLocals ret :: tables_1) room_1).applies x e0.platform about1 = true :=
  (Spec.applies_iff w_frames).mpr ⟨w_running, w_runnable, w_alone, w_named, w_hears, w_ripe, w_room, w_tables⟩
theorem atStart : AtStart classFile x code maxLocals ret World_1 tables_1 room_1 Calls_1 rest_1 Pre_1 launch0 p0 e0 about1 theMethod args0 below0 :=
  ⟨lists_1, trivial, launch0.admits_env _ _ _, launch0.least_env, fairChoices_fair.cas, fairChoices_fair.clock, w_frames, w_args, w_heap, w_applies, trivial, trivial, w_case⟩
end start1
theorem witness_1 : WitnessClaimed_1 := ⟨start1.p0, start1.e0, start1.about1, start1.theMethod, start1.args0, start1.below0, start1.atStart⟩
end Jvm.Pilot.@@N@@
