import JvmDerived
import JvmDerived.Pilot.@@N@@Statement
import JvmDerived.Pilot.@@N@@Code
set_option linter.unusedVariables false
set_option linter.unusedSimpArgs false
set_option maxRecDepth 65536
namespace Jvm.Pilot.@@N@@
open Jvm Jvm.ClassFile Sem Op Lib Jvm.Free Jvm.Stand Jvm.LawKit Jvm.RoadKit Bundle Jvm.Pilot.@@N@@.Jvm.D

section OwnKit
/-- a walk's fixed things: program, launch, environment, room, first state, method, arguments, frames below, the method, its code -/
abbrev own_B : Type := Program × Launch × Env × Room × State × MethodId × Array Value × List Frame × Method × Code
def own_Ok (B : own_B) (Z : State) (a0 : Array Value) (l0 : Launch) (R0 : Room) (y : MethodName) (code : ByteArray) (N : Nat) (ret : Option FieldType) : Prop :=
  match B with
  | (p, l, e, R, s, m, args, below, meth, c) => l = l0 ∧ R = R0 ∧ p.tables.exec = Jvm.exec ∧ Z.Warmed39 s.vm ∧ s.vm.findClass y.cls = some m.cls ∧ c.code = code ∧ c.maxLocals = N ∧ meth.sig.returnType = ret ∧ meth.locks = false ∧ meth.name = y.name ∧ (∀ (i : Nat) (d : Jvm.Cond), tables_1[i]? = some d → d.before a0 Z = true)
/-- the rest of the walk ends well -/
def own_Fin (p : Program) (e : Env) (below : List Frame) (s : State) (n0 : Nat) (Q : Option Value → Heap → Prop) (kc ks : Nat) (A : State) : Prop :=
  ∃ s₂ o, Steps p.tables e below A s₂ ∧ s₂.status = .running ∧ Ended s₂ below o ∧ ∃ v L, o = .returned v ∧ (Q v s₂.heap ∧ Fr n0 L) ∧ FrameEnd s o s₂ L kc ks
theorem own_go {p : Program} {e : Env} {below : List Frame} {s : State} {n0 : Nat} {Q : Option Value → Heap → Prop} {kc ks : Nat} {A A' : State} (st : ∀ t, Steps p.tables e below A' t → Steps p.tables e below A t) (k : own_Fin p e below s n0 Q kc ks A') : own_Fin p e below s n0 Q kc ks A := by
  obtain ⟨s2, o, h1, r⟩ := k
  exact ⟨s2, o, st _ h1, r⟩
/-- from this point (heap h, at most so many cells and slots made, pc, locals, stack) the walk ends in Q -/
def own_G (B : own_B) (n0 : Nat) (Q : Option Value → Heap → Prop) (kc ks cells slots : Nat) (h : Heap) (pc : Nat) (Ls : Array Slot) (st : List Value) : Prop :=
  match B with
  | (p, l, e, R, s, m, args, below, meth, c) => ∀ (T : State) (locs : List Loc) (c1 s1 : Nat), Stand p l e R s m args below meth c T locs c1 s1 → Fr n0 locs → c1 ≤ cells → s1 ≤ slots → T.heap = h → own_Fin p e below s n0 Q kc ks (T.setTop (mkF m pc Ls st))
/-- a method's contract -/
def own_Met (l : Launch) (Z : State) (ws : List Jvm.Cond) (y : MethodName) (bytes : ByteArray) (maxL : Nat) (ret : Option FieldType) (rm : Room) (as : Array Value) (h : Heap) (n0 kc ks : Nat) (Q : Option Value → Heap → Prop) : Prop :=
  MetFree l y (head1 (Jvm.Cond.code y bytes maxL ret :: ws) rm) (fun a U => a = as ∧ Z.Warmed39 U.vm ∧ U.heap = h) (fun _ _ _ _ _ => True) (fun _ U o U' => ∃ v L, o = .returned v ∧ (Q v U'.heap ∧ Fr n0 L) ∧ FrameEnd U o U' L kc ks)
/-- a callee's contract -/
abbrev own_C (l : Launch) (Z : State) (y : MethodName) (bytes : ByteArray) (maxL : Nat) (ret : Option FieldType) (rm : Room) (as : Array Value) (h : Heap) (n0 : Nat) (Q : Option Value → Heap → Prop) : Prop := own_Met l Z [] y bytes maxL ret rm as h n0 rm.cells rm.slots Q
/-- a callee that returns w and leaves the heap -/
abbrev own_P (l : Launch) (Z : State) (y : MethodName) (bytes : ByteArray) (maxL : Nat) (ret : Option FieldType) (rm : Room) (as : Array Value) (h : Heap) (n0 : Nat) (w : Value) : Prop := own_C l Z y bytes maxL ret rm as h n0 (fun v h' => v = some w ∧ h = h')
abbrev own_rm (f lo : Nat) : Room := { frames := f, cells := 0, slots := 0, locals := lo }
theorem own_met {l : Launch} {Z : State} {a0 : Array Value} {ws : List Jvm.Cond} {y : MethodName} {bytes : ByteArray} {maxL : Nat} {ret : Option FieldType} {rm : Room} {as : Array Value} {h : Heap} {n0 kc ks : Nat} {Q : Option Value → Heap → Prop} {Ls : Array Slot}
    (hw : ∀ (i : Nat) (d : Jvm.Cond), tables_1[i]? = some d → d.before a0 Z = true) (hpl : plainFor y = true) (hef : ∀ m, entryFrame m as maxL = mkF m 0 Ls [])
    (body : ∀ B : own_B, own_Ok B Z a0 l rm y bytes maxL ret → own_G B n0 Q kc ks 0 0 h 0 Ls []) : own_Met l Z ws y bytes maxL ret rm as h n0 kc ks Q := by
  refine MetFree.of_bodySF hpl hisR ?_
  intro p e s m args below meth c s₁ Bd hml0 hP hK
  obtain ⟨rfl, hZ, hh⟩ := hP
  have X0 := Stand.of_body Bd
  have e0 : s₁.heap = h := by rw [← hh, Bd.state]; rfl
  have q := body (p, l, e, rm, s, m, args, below, meth, c) ⟨rfl, rfl, Bd.exec, hZ, findClass_of_methodNamed Bd.named, Bd.bytes, hml0, Bd.returns, Bd.notSynchronized, (name_of_methodNamed Bd.named Bd.method).1, hw⟩ s₁ [] 0 0 X0 (Fr.nil n0) (Nat.le_refl _) (Nat.le_refl _) e0
  rw [hef m]
  exact q
section Laws
variable {B : own_B} {Z : State} {a0 : Array Value} {l : Launch} {R : Room} {y : MethodName} {code : ByteArray} {N : Nat} {ret : Option FieldType} {n0 : Nat} {Q : Option Value → Heap → Prop} {kc ks cells slots : Nat} {h : Heap} {pc pc' : Nat} {Ls Ls' : Array Slot} {st : List Value}
theorem own_mono {cells' slots' : Nat} (hc : cells ≤ cells') (hs : slots ≤ slots') (k : own_G B n0 Q kc ks cells' slots' h pc Ls st) : own_G B n0 Q kc ks cells slots h pc Ls st := by
  obtain ⟨p, l, e, R, s, m, args, below, meth, c⟩ := B
  intro T locs c1 s1 X F q1 q2 eT
  exact k T locs c1 s1 X F (Nat.le_trans q1 hc) (Nat.le_trans q2 hs) eT
theorem own_cut (pc' : Nat) (Ls' : Array Slot) (st' : List Value) (f : own_G B n0 Q kc ks cells slots h pc' Ls' st' → own_G B n0 Q kc ks cells slots h pc Ls st) (k : own_G B n0 Q kc ks cells slots h pc' Ls' st') : own_G B n0 Q kc ks cells slots h pc Ls st := f k
theorem own_w (H : own_Ok B Z a0 l R y code N ret) {i : Nat} {d : Jvm.Cond} (q : tables_1[i]? = some d) : d.before a0 Z = true := by
  obtain ⟨p, l, e, R, s, m, args, below, meth, c⟩ := B
  exact H.2.2.2.2.2.2.2.2.2.2 i d q
theorem own_hw (H : own_Ok B Z a0 l R y code N ret) : ∀ (i : Nat) (d : Jvm.Cond), tables_1[i]? = some d → d.before a0 Z = true := by
  obtain ⟨p, l, e, R, s, m, args, below, meth, c⟩ := B
  exact H.2.2.2.2.2.2.2.2.2.2
theorem own_iadd (H : own_Ok B Z a0 l R y code N ret) {x z v : Int32} (hv : x + z = v) (hd : decode code pc = .ok (.iadd, 1)) (k : own_G B n0 Q kc ks cells slots h (pc + 1) Ls (.int v :: st)) : own_G B n0 Q kc ks cells slots h pc Ls (.int z :: .int x :: st) := by
  subst hv
  obtain ⟨p, l, e, R, s, m, args, below, meth, c⟩ := B
  obtain ⟨rfl, rfl, hx, hZ, hown, hby, hml, hrt, hlk, hnm, hw⟩ := H
  intro T locs c1 s1 X F hc hs eT
  exact own_go (fun t q => XS.iadd X.here hx rfl (hb hby hd) rfl q) (k T locs c1 s1 X F hc hs eT)
theorem own_isub (H : own_Ok B Z a0 l R y code N ret) {x z v : Int32} (hv : x - z = v) (hd : decode code pc = .ok (.isub, 1)) (k : own_G B n0 Q kc ks cells slots h (pc + 1) Ls (.int v :: st)) : own_G B n0 Q kc ks cells slots h pc Ls (.int z :: .int x :: st) := by
  subst hv
  obtain ⟨p, l, e, R, s, m, args, below, meth, c⟩ := B
  obtain ⟨rfl, rfl, hx, hZ, hown, hby, hml, hrt, hlk, hnm, hw⟩ := H
  intro T locs c1 s1 X F hc hs eT
  exact own_go (fun t q => XS.isub X.here hx rfl (hb hby hd) rfl q) (k T locs c1 s1 X F hc hs eT)
theorem own_imul (H : own_Ok B Z a0 l R y code N ret) {x z v : Int32} (hv : x * z = v) (hd : decode code pc = .ok (.imul, 1)) (k : own_G B n0 Q kc ks cells slots h (pc + 1) Ls (.int v :: st)) : own_G B n0 Q kc ks cells slots h pc Ls (.int z :: .int x :: st) := by
  subst hv
  obtain ⟨p, l, e, R, s, m, args, below, meth, c⟩ := B
  obtain ⟨rfl, rfl, hx, hZ, hown, hby, hml, hrt, hlk, hnm, hw⟩ := H
  intro T locs c1 s1 X F hc hs eT
  exact own_go (fun t q => XS.imul X.here hx rfl (hb hby hd) rfl q) (k T locs c1 s1 X F hc hs eT)
theorem own_iand (H : own_Ok B Z a0 l R y code N ret) {x z v : Int32} (hv : x &&& z = v) (hd : decode code pc = .ok (.iand, 1)) (k : own_G B n0 Q kc ks cells slots h (pc + 1) Ls (.int v :: st)) : own_G B n0 Q kc ks cells slots h pc Ls (.int z :: .int x :: st) := by
  subst hv
  obtain ⟨p, l, e, R, s, m, args, below, meth, c⟩ := B
  obtain ⟨rfl, rfl, hx, hZ, hown, hby, hml, hrt, hlk, hnm, hw⟩ := H
  intro T locs c1 s1 X F hc hs eT
  exact own_go (fun t q => XS.iand X.here hx rfl (hb hby hd) rfl q) (k T locs c1 s1 X F hc hs eT)
theorem own_ior (H : own_Ok B Z a0 l R y code N ret) {x z v : Int32} (hv : x ||| z = v) (hd : decode code pc = .ok (.ior, 1)) (k : own_G B n0 Q kc ks cells slots h (pc + 1) Ls (.int v :: st)) : own_G B n0 Q kc ks cells slots h pc Ls (.int z :: .int x :: st) := by
  subst hv
  obtain ⟨p, l, e, R, s, m, args, below, meth, c⟩ := B
  obtain ⟨rfl, rfl, hx, hZ, hown, hby, hml, hrt, hlk, hnm, hw⟩ := H
  intro T locs c1 s1 X F hc hs eT
  exact own_go (fun t q => XT.ior X.here hx rfl (hb hby hd) rfl q) (k T locs c1 s1 X F hc hs eT)
theorem own_ixor (H : own_Ok B Z a0 l R y code N ret) {x z v : Int32} (hv : x ^^^ z = v) (hd : decode code pc = .ok (.ixor, 1)) (k : own_G B n0 Q kc ks cells slots h (pc + 1) Ls (.int v :: st)) : own_G B n0 Q kc ks cells slots h pc Ls (.int z :: .int x :: st) := by
  subst hv
  obtain ⟨p, l, e, R, s, m, args, below, meth, c⟩ := B
  obtain ⟨rfl, rfl, hx, hZ, hown, hby, hml, hrt, hlk, hnm, hw⟩ := H
  intro T locs c1 s1 X F hc hs eT
  exact own_go (fun t q => XT.ixor X.here hx rfl (hb hby hd) rfl q) (k T locs c1 s1 X F hc hs eT)
theorem own_ishl (H : own_Ok B Z a0 l R y code N ret) {x z v : Int32} (hv : x <<< (z &&& 31) = v) (hd : decode code pc = .ok (.ishl, 1)) (k : own_G B n0 Q kc ks cells slots h (pc + 1) Ls (.int v :: st)) : own_G B n0 Q kc ks cells slots h pc Ls (.int z :: .int x :: st) := by
  subst hv
  obtain ⟨p, l, e, R, s, m, args, below, meth, c⟩ := B
  obtain ⟨rfl, rfl, hx, hZ, hown, hby, hml, hrt, hlk, hnm, hw⟩ := H
  intro T locs c1 s1 X F hc hs eT
  exact own_go (fun t q => XT.ishl X.here hx rfl (hb hby hd) rfl q) (k T locs c1 s1 X F hc hs eT)
theorem own_ishr (H : own_Ok B Z a0 l R y code N ret) {x z v : Int32} (hv : x >>> (z &&& 31) = v) (hd : decode code pc = .ok (.ishr, 1)) (k : own_G B n0 Q kc ks cells slots h (pc + 1) Ls (.int v :: st)) : own_G B n0 Q kc ks cells slots h pc Ls (.int z :: .int x :: st) := by
  subst hv
  obtain ⟨p, l, e, R, s, m, args, below, meth, c⟩ := B
  obtain ⟨rfl, rfl, hx, hZ, hown, hby, hml, hrt, hlk, hnm, hw⟩ := H
  intro T locs c1 s1 X F hc hs eT
  exact own_go (fun t q => XT.ishr X.here hx rfl (hb hby hd) rfl q) (k T locs c1 s1 X F hc hs eT)
theorem own_iushr (H : own_Ok B Z a0 l R y code N ret) {x z v : Int32} (hv : XT.ushr x z = v) (hd : decode code pc = .ok (.iushr, 1)) (k : own_G B n0 Q kc ks cells slots h (pc + 1) Ls (.int v :: st)) : own_G B n0 Q kc ks cells slots h pc Ls (.int z :: .int x :: st) := by
  subst hv
  obtain ⟨p, l, e, R, s, m, args, below, meth, c⟩ := B
  obtain ⟨rfl, rfl, hx, hZ, hown, hby, hml, hrt, hlk, hnm, hw⟩ := H
  intro T locs c1 s1 X F hc hs eT
  exact own_go (fun t q => XT.iushr X.here hx rfl (hb hby hd) rfl q) (k T locs c1 s1 X F hc hs eT)
theorem own_ladd (H : own_Ok B Z a0 l R y code N ret) {x z v : Int64} (hv : x + z = v) (hd : decode code pc = .ok (.ladd, 1)) (k : own_G B n0 Q kc ks cells slots h (pc + 1) Ls (.long v :: st)) : own_G B n0 Q kc ks cells slots h pc Ls (.long z :: .long x :: st) := by
  subst hv
  obtain ⟨p, l, e, R, s, m, args, below, meth, c⟩ := B
  obtain ⟨rfl, rfl, hx, hZ, hown, hby, hml, hrt, hlk, hnm, hw⟩ := H
  intro T locs c1 s1 X F hc hs eT
  exact own_go (fun t q => XT.ladd X.here hx rfl (hb hby hd) rfl q) (k T locs c1 s1 X F hc hs eT)
theorem own_lsub (H : own_Ok B Z a0 l R y code N ret) {x z v : Int64} (hv : x - z = v) (hd : decode code pc = .ok (.lsub, 1)) (k : own_G B n0 Q kc ks cells slots h (pc + 1) Ls (.long v :: st)) : own_G B n0 Q kc ks cells slots h pc Ls (.long z :: .long x :: st) := by
  subst hv
  obtain ⟨p, l, e, R, s, m, args, below, meth, c⟩ := B
  obtain ⟨rfl, rfl, hx, hZ, hown, hby, hml, hrt, hlk, hnm, hw⟩ := H
  intro T locs c1 s1 X F hc hs eT
  exact own_go (fun t q => XT.lsub X.here hx rfl (hb hby hd) rfl q) (k T locs c1 s1 X F hc hs eT)
theorem own_lmul (H : own_Ok B Z a0 l R y code N ret) {x z v : Int64} (hv : x * z = v) (hd : decode code pc = .ok (.lmul, 1)) (k : own_G B n0 Q kc ks cells slots h (pc + 1) Ls (.long v :: st)) : own_G B n0 Q kc ks cells slots h pc Ls (.long z :: .long x :: st) := by
  subst hv
  obtain ⟨p, l, e, R, s, m, args, below, meth, c⟩ := B
  obtain ⟨rfl, rfl, hx, hZ, hown, hby, hml, hrt, hlk, hnm, hw⟩ := H
  intro T locs c1 s1 X F hc hs eT
  exact own_go (fun t q => XT.lmul X.here hx rfl (hb hby hd) rfl q) (k T locs c1 s1 X F hc hs eT)
theorem own_land (H : own_Ok B Z a0 l R y code N ret) {x z v : Int64} (hv : x &&& z = v) (hd : decode code pc = .ok (.land, 1)) (k : own_G B n0 Q kc ks cells slots h (pc + 1) Ls (.long v :: st)) : own_G B n0 Q kc ks cells slots h pc Ls (.long z :: .long x :: st) := by
  subst hv
  obtain ⟨p, l, e, R, s, m, args, below, meth, c⟩ := B
  obtain ⟨rfl, rfl, hx, hZ, hown, hby, hml, hrt, hlk, hnm, hw⟩ := H
  intro T locs c1 s1 X F hc hs eT
  exact own_go (fun t q => XT.land X.here hx rfl (hb hby hd) rfl q) (k T locs c1 s1 X F hc hs eT)
theorem own_lor (H : own_Ok B Z a0 l R y code N ret) {x z v : Int64} (hv : x ||| z = v) (hd : decode code pc = .ok (.lor, 1)) (k : own_G B n0 Q kc ks cells slots h (pc + 1) Ls (.long v :: st)) : own_G B n0 Q kc ks cells slots h pc Ls (.long z :: .long x :: st) := by
  subst hv
  obtain ⟨p, l, e, R, s, m, args, below, meth, c⟩ := B
  obtain ⟨rfl, rfl, hx, hZ, hown, hby, hml, hrt, hlk, hnm, hw⟩ := H
  intro T locs c1 s1 X F hc hs eT
  exact own_go (fun t q => XT.lor X.here hx rfl (hb hby hd) rfl q) (k T locs c1 s1 X F hc hs eT)
theorem own_lxor (H : own_Ok B Z a0 l R y code N ret) {x z v : Int64} (hv : x ^^^ z = v) (hd : decode code pc = .ok (.lxor, 1)) (k : own_G B n0 Q kc ks cells slots h (pc + 1) Ls (.long v :: st)) : own_G B n0 Q kc ks cells slots h pc Ls (.long z :: .long x :: st) := by
  subst hv
  obtain ⟨p, l, e, R, s, m, args, below, meth, c⟩ := B
  obtain ⟨rfl, rfl, hx, hZ, hown, hby, hml, hrt, hlk, hnm, hw⟩ := H
  intro T locs c1 s1 X F hc hs eT
  exact own_go (fun t q => XT.lxor X.here hx rfl (hb hby hd) rfl q) (k T locs c1 s1 X F hc hs eT)
theorem own_idiv (H : own_Ok B Z a0 l R y code N ret) {x z v : Int32} (hv : x / z = v) (hd : decode code pc = .ok (.idiv, 1)) (hz : z ≠ 0) (k : own_G B n0 Q kc ks cells slots h (pc + 1) Ls (.int v :: st)) : own_G B n0 Q kc ks cells slots h pc Ls (.int z :: .int x :: st) := by
  subst hv
  obtain ⟨p, l, e, R, s, m, args, below, meth, c⟩ := B
  obtain ⟨rfl, rfl, hx, hZ, hown, hby, hml, hrt, hlk, hnm, hw⟩ := H
  intro T locs c1 s1 X F hc hs eT
  exact own_go (fun t q => XS.idiv X.here hx rfl (hb hby hd) rfl hz q) (k T locs c1 s1 X F hc hs eT)
theorem own_irem (H : own_Ok B Z a0 l R y code N ret) {x z v : Int32} (hv : x % z = v) (hd : decode code pc = .ok (.irem, 1)) (hz : z ≠ 0) (k : own_G B n0 Q kc ks cells slots h (pc + 1) Ls (.int v :: st)) : own_G B n0 Q kc ks cells slots h pc Ls (.int z :: .int x :: st) := by
  subst hv
  obtain ⟨p, l, e, R, s, m, args, below, meth, c⟩ := B
  obtain ⟨rfl, rfl, hx, hZ, hown, hby, hml, hrt, hlk, hnm, hw⟩ := H
  intro T locs c1 s1 X F hc hs eT
  exact own_go (fun t q => iremM X hx rfl (hb hby hd) rfl hz q) (k T locs c1 s1 X F hc hs eT)
theorem own_ldiv (H : own_Ok B Z a0 l R y code N ret) {x z v : Int64} (hv : x / z = v) (hd : decode code pc = .ok (.ldiv, 1)) (hz : z ≠ 0) (k : own_G B n0 Q kc ks cells slots h (pc + 1) Ls (.long v :: st)) : own_G B n0 Q kc ks cells slots h pc Ls (.long z :: .long x :: st) := by
  subst hv
  obtain ⟨p, l, e, R, s, m, args, below, meth, c⟩ := B
  obtain ⟨rfl, rfl, hx, hZ, hown, hby, hml, hrt, hlk, hnm, hw⟩ := H
  intro T locs c1 s1 X F hc hs eT
  exact own_go (fun t q => XT.ldiv X.here hx rfl (hb hby hd) rfl hz q) (k T locs c1 s1 X F hc hs eT)
theorem own_lrem (H : own_Ok B Z a0 l R y code N ret) {x z v : Int64} (hv : x - x / z * z = v) (hd : decode code pc = .ok (.lrem, 1)) (hz : z ≠ 0) (k : own_G B n0 Q kc ks cells slots h (pc + 1) Ls (.long v :: st)) : own_G B n0 Q kc ks cells slots h pc Ls (.long z :: .long x :: st) := by
  subst hv
  obtain ⟨p, l, e, R, s, m, args, below, meth, c⟩ := B
  obtain ⟨rfl, rfl, hx, hZ, hown, hby, hml, hrt, hlk, hnm, hw⟩ := H
  intro T locs c1 s1 X F hc hs eT
  exact own_go (fun t q => XT.lrem X.here hx rfl (hb hby hd) rfl hz q) (k T locs c1 s1 X F hc hs eT)
theorem own_lshl (H : own_Ok B Z a0 l R y code N ret) {x v : Int64} {z : Int32} (hv : x <<< (z.toInt64 &&& 63) = v) (hd : decode code pc = .ok (.lshl, 1)) (k : own_G B n0 Q kc ks cells slots h (pc + 1) Ls (.long v :: st)) : own_G B n0 Q kc ks cells slots h pc Ls (.int z :: .long x :: st) := by
  subst hv
  obtain ⟨p, l, e, R, s, m, args, below, meth, c⟩ := B
  obtain ⟨rfl, rfl, hx, hZ, hown, hby, hml, hrt, hlk, hnm, hw⟩ := H
  intro T locs c1 s1 X F hc hs eT
  exact own_go (fun t q => XT.lshl X.here hx rfl (hb hby hd) rfl q) (k T locs c1 s1 X F hc hs eT)
theorem own_lshr (H : own_Ok B Z a0 l R y code N ret) {x v : Int64} {z : Int32} (hv : x >>> (z.toInt64 &&& 63) = v) (hd : decode code pc = .ok (.lshr, 1)) (k : own_G B n0 Q kc ks cells slots h (pc + 1) Ls (.long v :: st)) : own_G B n0 Q kc ks cells slots h pc Ls (.int z :: .long x :: st) := by
  subst hv
  obtain ⟨p, l, e, R, s, m, args, below, meth, c⟩ := B
  obtain ⟨rfl, rfl, hx, hZ, hown, hby, hml, hrt, hlk, hnm, hw⟩ := H
  intro T locs c1 s1 X F hc hs eT
  exact own_go (fun t q => XT.lshr X.here hx rfl (hb hby hd) rfl q) (k T locs c1 s1 X F hc hs eT)
theorem own_lushr (H : own_Ok B Z a0 l R y code N ret) {x v : Int64} {z : Int32} (hv : XT.ushrL x z = v) (hd : decode code pc = .ok (.lushr, 1)) (k : own_G B n0 Q kc ks cells slots h (pc + 1) Ls (.long v :: st)) : own_G B n0 Q kc ks cells slots h pc Ls (.int z :: .long x :: st) := by
  subst hv
  obtain ⟨p, l, e, R, s, m, args, below, meth, c⟩ := B
  obtain ⟨rfl, rfl, hx, hZ, hown, hby, hml, hrt, hlk, hnm, hw⟩ := H
  intro T locs c1 s1 X F hc hs eT
  exact own_go (fun t q => XT.lushr X.here hx rfl (hb hby hd) rfl q) (k T locs c1 s1 X F hc hs eT)
theorem own_ineg (H : own_Ok B Z a0 l R y code N ret) {x : Int32} {v : Int32} (hv : -x = v) (hd : decode code pc = .ok (.ineg, 1)) (k : own_G B n0 Q kc ks cells slots h (pc + 1) Ls (.int v :: st)) : own_G B n0 Q kc ks cells slots h pc Ls (.int x :: st) := by
  subst hv
  obtain ⟨p, l, e, R, s, m, args, below, meth, c⟩ := B
  obtain ⟨rfl, rfl, hx, hZ, hown, hby, hml, hrt, hlk, hnm, hw⟩ := H
  intro T locs c1 s1 X F hc hs eT
  exact own_go (fun t q => XS.ineg X.here hx rfl (hb hby hd) rfl q) (k T locs c1 s1 X F hc hs eT)
theorem own_lneg (H : own_Ok B Z a0 l R y code N ret) {x : Int64} {v : Int64} (hv : -x = v) (hd : decode code pc = .ok (.lneg, 1)) (k : own_G B n0 Q kc ks cells slots h (pc + 1) Ls (.long v :: st)) : own_G B n0 Q kc ks cells slots h pc Ls (.long x :: st) := by
  subst hv
  obtain ⟨p, l, e, R, s, m, args, below, meth, c⟩ := B
  obtain ⟨rfl, rfl, hx, hZ, hown, hby, hml, hrt, hlk, hnm, hw⟩ := H
  intro T locs c1 s1 X F hc hs eT
  exact own_go (fun t q => XT.lneg X.here hx rfl (hb hby hd) rfl q) (k T locs c1 s1 X F hc hs eT)
theorem own_i2l (H : own_Ok B Z a0 l R y code N ret) {x : Int32} {v : Int64} (hv : x.toInt64 = v) (hd : decode code pc = .ok (.i2l, 1)) (k : own_G B n0 Q kc ks cells slots h (pc + 1) Ls (.long v :: st)) : own_G B n0 Q kc ks cells slots h pc Ls (.int x :: st) := by
  subst hv
  obtain ⟨p, l, e, R, s, m, args, below, meth, c⟩ := B
  obtain ⟨rfl, rfl, hx, hZ, hown, hby, hml, hrt, hlk, hnm, hw⟩ := H
  intro T locs c1 s1 X F hc hs eT
  exact own_go (fun t q => XT.i2l X.here hx rfl (hb hby hd) rfl q) (k T locs c1 s1 X F hc hs eT)
theorem own_l2i (H : own_Ok B Z a0 l R y code N ret) {x : Int64} {v : Int32} (hv : x.toInt32 = v) (hd : decode code pc = .ok (.l2i, 1)) (k : own_G B n0 Q kc ks cells slots h (pc + 1) Ls (.int v :: st)) : own_G B n0 Q kc ks cells slots h pc Ls (.long x :: st) := by
  subst hv
  obtain ⟨p, l, e, R, s, m, args, below, meth, c⟩ := B
  obtain ⟨rfl, rfl, hx, hZ, hown, hby, hml, hrt, hlk, hnm, hw⟩ := H
  intro T locs c1 s1 X F hc hs eT
  exact own_go (fun t q => XT.l2i X.here hx rfl (hb hby hd) rfl q) (k T locs c1 s1 X F hc hs eT)
theorem own_i2b (H : own_Ok B Z a0 l R y code N ret) {x : Int32} {v : Int32} (hv : x.toInt8.toInt32 = v) (hd : decode code pc = .ok (.i2b, 1)) (k : own_G B n0 Q kc ks cells slots h (pc + 1) Ls (.int v :: st)) : own_G B n0 Q kc ks cells slots h pc Ls (.int x :: st) := by
  subst hv
  obtain ⟨p, l, e, R, s, m, args, below, meth, c⟩ := B
  obtain ⟨rfl, rfl, hx, hZ, hown, hby, hml, hrt, hlk, hnm, hw⟩ := H
  intro T locs c1 s1 X F hc hs eT
  exact own_go (fun t q => XT.i2b X.here hx rfl (hb hby hd) rfl q) (k T locs c1 s1 X F hc hs eT)
theorem own_i2c (H : own_Ok B Z a0 l R y code N ret) {x : Int32} {v : Int32} (hv : x.toUInt32.toUInt16.toUInt32.toInt32 = v) (hd : decode code pc = .ok (.i2c, 1)) (k : own_G B n0 Q kc ks cells slots h (pc + 1) Ls (.int v :: st)) : own_G B n0 Q kc ks cells slots h pc Ls (.int x :: st) := by
  subst hv
  obtain ⟨p, l, e, R, s, m, args, below, meth, c⟩ := B
  obtain ⟨rfl, rfl, hx, hZ, hown, hby, hml, hrt, hlk, hnm, hw⟩ := H
  intro T locs c1 s1 X F hc hs eT
  exact own_go (fun t q => XT.i2c X.here hx rfl (hb hby hd) rfl q) (k T locs c1 s1 X F hc hs eT)
theorem own_i2s (H : own_Ok B Z a0 l R y code N ret) {x : Int32} {v : Int32} (hv : x.toInt16.toInt32 = v) (hd : decode code pc = .ok (.i2s, 1)) (k : own_G B n0 Q kc ks cells slots h (pc + 1) Ls (.int v :: st)) : own_G B n0 Q kc ks cells slots h pc Ls (.int x :: st) := by
  subst hv
  obtain ⟨p, l, e, R, s, m, args, below, meth, c⟩ := B
  obtain ⟨rfl, rfl, hx, hZ, hown, hby, hml, hrt, hlk, hnm, hw⟩ := H
  intro T locs c1 s1 X F hc hs eT
  exact own_go (fun t q => XT.i2s X.here hx rfl (hb hby hd) rfl q) (k T locs c1 s1 X F hc hs eT)
theorem own_iconst (H : own_Ok B Z a0 l R y code N ret) {i : Int} (v : Int32) (hv : Int32.ofInt i = v) (hd : decode code pc = .ok (.iconst i, 1)) (k : own_G B n0 Q kc ks cells slots h (pc + 1) Ls (.int v :: st)) : own_G B n0 Q kc ks cells slots h pc Ls st := by
  obtain ⟨p, l, e, R, s, m, args, below, meth, c⟩ := B
  obtain ⟨rfl, rfl, hx, hZ, hown, hby, hml, hrt, hlk, hnm, hw⟩ := H
  intro T locs c1 s1 X F hc hs eT
  exact own_go (fun t q => XT.iconstV X.here hx rfl v (hb hby hd) hv q) (k T locs c1 s1 X F hc hs eT)
theorem own_bipush (H : own_Ok B Z a0 l R y code N ret) {i : Int} (v : Int32) (hv : (Int8.ofInt i).toInt32 = v) (hd : decode code pc = .ok (.bipush i, 2)) (k : own_G B n0 Q kc ks cells slots h (pc + 2) Ls (.int v :: st)) : own_G B n0 Q kc ks cells slots h pc Ls st := by
  obtain ⟨p, l, e, R, s, m, args, below, meth, c⟩ := B
  obtain ⟨rfl, rfl, hx, hZ, hown, hby, hml, hrt, hlk, hnm, hw⟩ := H
  intro T locs c1 s1 X F hc hs eT
  exact own_go (fun t q => XT.bipushV X.here hx rfl v (hb hby hd) hv q) (k T locs c1 s1 X F hc hs eT)
theorem own_sipush (H : own_Ok B Z a0 l R y code N ret) {i : Int} (v : Int32) (hv : (Int16.ofInt i).toInt32 = v) (hd : decode code pc = .ok (.sipush i, 3)) (k : own_G B n0 Q kc ks cells slots h (pc + 3) Ls (.int v :: st)) : own_G B n0 Q kc ks cells slots h pc Ls st := by
  obtain ⟨p, l, e, R, s, m, args, below, meth, c⟩ := B
  obtain ⟨rfl, rfl, hx, hZ, hown, hby, hml, hrt, hlk, hnm, hw⟩ := H
  intro T locs c1 s1 X F hc hs eT
  exact own_go (fun t q => XT.sipushV X.here hx rfl v (hb hby hd) hv q) (k T locs c1 s1 X F hc hs eT)
theorem own_lconst (H : own_Ok B Z a0 l R y code N ret) {i : Fin 2} (v : Int64) (hv : Int64.ofNat i = v) (hd : decode code pc = .ok (.lconst i, 1)) (k : own_G B n0 Q kc ks cells slots h (pc + 1) Ls (.long v :: st)) : own_G B n0 Q kc ks cells slots h pc Ls st := by
  obtain ⟨p, l, e, R, s, m, args, below, meth, c⟩ := B
  obtain ⟨rfl, rfl, hx, hZ, hown, hby, hml, hrt, hlk, hnm, hw⟩ := H
  intro T locs c1 s1 X F hc hs eT
  exact own_go (fun t q => XT.lconstV X.here hx rfl v (hb hby hd) hv q) (k T locs c1 s1 X F hc hs eT)
theorem own_aconst_null (H : own_Ok B Z a0 l R y code N ret)  (hd : decode code pc = .ok (.aconst_null, 1)) (k : own_G B n0 Q kc ks cells slots h (pc + 1) Ls (.null :: st)) : own_G B n0 Q kc ks cells slots h pc Ls st := by
  obtain ⟨p, l, e, R, s, m, args, below, meth, c⟩ := B
  obtain ⟨rfl, rfl, hx, hZ, hown, hby, hml, hrt, hlk, hnm, hw⟩ := H
  intro T locs c1 s1 X F hc hs eT
  exact own_go (fun t q => XS.aconstNull X.here hx rfl (hb hby hd)  q) (k T locs c1 s1 X F hc hs eT)
theorem own_dup (H : own_Ok B Z a0 l R y code N ret) {x : Value} (hq : x.category = 1) (hd : decode code pc = .ok (.dup, 1)) (k : own_G B n0 Q kc ks cells slots h (pc + 1) Ls (x :: x :: st)) : own_G B n0 Q kc ks cells slots h pc Ls (x :: st) := by
  obtain ⟨p, l, e, R, s, m, args, below, meth, c⟩ := B
  obtain ⟨rfl, rfl, hx, hZ, hown, hby, hml, hrt, hlk, hnm, hw⟩ := H
  intro T locs c1 s1 X F hc hs eT
  exact own_go (fun t q => XS.dup X.here hx rfl (hb hby hd) rfl hq q) (k T locs c1 s1 X F hc hs eT)
theorem own_dup2 (H : own_Ok B Z a0 l R y code N ret) {x z : Value} (hq : x.category = 1) (hq' : z.category = 1) (hd : decode code pc = .ok (.dup2, 1)) (k : own_G B n0 Q kc ks cells slots h (pc + 1) Ls (x :: z :: x :: z :: st)) : own_G B n0 Q kc ks cells slots h pc Ls (x :: z :: st) := by
  obtain ⟨p, l, e, R, s, m, args, below, meth, c⟩ := B
  obtain ⟨rfl, rfl, hx, hZ, hown, hby, hml, hrt, hlk, hnm, hw⟩ := H
  intro T locs c1 s1 X F hc hs eT
  exact own_go (fun t q => XT.dup2 X.here hx rfl (hb hby hd) rfl hq hq' q) (k T locs c1 s1 X F hc hs eT)
theorem own_dup2L (H : own_Ok B Z a0 l R y code N ret) {x : Int64} (hd : decode code pc = .ok (.dup2, 1)) (k : own_G B n0 Q kc ks cells slots h (pc + 1) Ls (.long x :: .long x :: st)) : own_G B n0 Q kc ks cells slots h pc Ls (.long x :: st) := by
  obtain ⟨p, l, e, R, s, m, args, below, meth, c⟩ := B
  obtain ⟨rfl, rfl, hx, hZ, hown, hby, hml, hrt, hlk, hnm, hw⟩ := H
  intro T locs c1 s1 X F hc hs eT
  exact own_go (fun t q => XT.dup2L X.here hx rfl (hb hby hd) rfl q) (k T locs c1 s1 X F hc hs eT)
theorem own_dup_x1 (H : own_Ok B Z a0 l R y code N ret) {x z : Value} (hq : x.category = 1) (hq' : z.category = 1) (hd : decode code pc = .ok (.dup_x1, 1)) (k : own_G B n0 Q kc ks cells slots h (pc + 1) Ls (x :: z :: x :: st)) : own_G B n0 Q kc ks cells slots h pc Ls (x :: z :: st) := by
  obtain ⟨p, l, e, R, s, m, args, below, meth, c⟩ := B
  obtain ⟨rfl, rfl, hx, hZ, hown, hby, hml, hrt, hlk, hnm, hw⟩ := H
  intro T locs c1 s1 X F hc hs eT
  exact own_go (fun t q => XT.dupX1 X.here hx rfl (hb hby hd) rfl hq hq' q) (k T locs c1 s1 X F hc hs eT)
theorem own_pop (H : own_Ok B Z a0 l R y code N ret) {x : Value} (hq : x.category = 1) (hd : decode code pc = .ok (.pop, 1)) (k : own_G B n0 Q kc ks cells slots h (pc + 1) Ls st) : own_G B n0 Q kc ks cells slots h pc Ls (x :: st) := by
  obtain ⟨p, l, e, R, s, m, args, below, meth, c⟩ := B
  obtain ⟨rfl, rfl, hx, hZ, hown, hby, hml, hrt, hlk, hnm, hw⟩ := H
  intro T locs c1 s1 X F hc hs eT
  exact own_go (fun t q => XT.pop X.here hx rfl (hb hby hd) rfl hq q) (k T locs c1 s1 X F hc hs eT)
theorem own_iload_n (H : own_Ok B Z a0 l R y code N ret) {i : Fin 4} {v : Int32} (hl : Ls[i.val]? = some (.val (.int v))) (hd : decode code pc = .ok (.iload_n i, 1)) (k : own_G B n0 Q kc ks cells slots h (pc + 1) Ls (.int v :: st)) : own_G B n0 Q kc ks cells slots h pc Ls st := by
  obtain ⟨p, l, e, R, s, m, args, below, meth, c⟩ := B
  obtain ⟨rfl, rfl, hx, hZ, hown, hby, hml, hrt, hlk, hnm, hw⟩ := H
  intro T locs c1 s1 X F hc hs eT
  exact own_go (fun t q => XS.iloadN X.here hx rfl (hb hby hd) hl q) (k T locs c1 s1 X F hc hs eT)
theorem own_iload (H : own_Ok B Z a0 l R y code N ret) {i : Nat} {v : Int32} (hl : Ls[i]? = some (.val (.int v))) (hd : decode code pc = .ok (.iload i, 2)) (k : own_G B n0 Q kc ks cells slots h (pc + 2) Ls (.int v :: st)) : own_G B n0 Q kc ks cells slots h pc Ls st := by
  obtain ⟨p, l, e, R, s, m, args, below, meth, c⟩ := B
  obtain ⟨rfl, rfl, hx, hZ, hown, hby, hml, hrt, hlk, hnm, hw⟩ := H
  intro T locs c1 s1 X F hc hs eT
  exact own_go (fun t q => XS.iload X.here hx rfl (hb hby hd) hl q) (k T locs c1 s1 X F hc hs eT)
theorem own_lload_n (H : own_Ok B Z a0 l R y code N ret) {i : Fin 4} {v : Int64} (hl : Ls[i.val]? = some (.val (.long v))) (hd : decode code pc = .ok (.lload_n i, 1)) (k : own_G B n0 Q kc ks cells slots h (pc + 1) Ls (.long v :: st)) : own_G B n0 Q kc ks cells slots h pc Ls st := by
  obtain ⟨p, l, e, R, s, m, args, below, meth, c⟩ := B
  obtain ⟨rfl, rfl, hx, hZ, hown, hby, hml, hrt, hlk, hnm, hw⟩ := H
  intro T locs c1 s1 X F hc hs eT
  exact own_go (fun t q => XT.lloadN X.here hx rfl (hb hby hd) hl q) (k T locs c1 s1 X F hc hs eT)
theorem own_lload (H : own_Ok B Z a0 l R y code N ret) {i : Nat} {v : Int64} (hl : Ls[i]? = some (.val (.long v))) (hd : decode code pc = .ok (.lload i, 2)) (k : own_G B n0 Q kc ks cells slots h (pc + 2) Ls (.long v :: st)) : own_G B n0 Q kc ks cells slots h pc Ls st := by
  obtain ⟨p, l, e, R, s, m, args, below, meth, c⟩ := B
  obtain ⟨rfl, rfl, hx, hZ, hown, hby, hml, hrt, hlk, hnm, hw⟩ := H
  intro T locs c1 s1 X F hc hs eT
  exact own_go (fun t q => XT.lload X.here hx rfl (hb hby hd) hl q) (k T locs c1 s1 X F hc hs eT)
theorem own_aload_n (H : own_Ok B Z a0 l R y code N ret) {i : Fin 4} {v : Value} (hl : Ls[i.val]? = some (.val v)) (hv : v.isRef = true) (hd : decode code pc = .ok (.aload_n i, 1)) (k : own_G B n0 Q kc ks cells slots h (pc + 1) Ls (v :: st)) : own_G B n0 Q kc ks cells slots h pc Ls st := by
  obtain ⟨p, l, e, R, s, m, args, below, meth, c⟩ := B
  obtain ⟨rfl, rfl, hx, hZ, hown, hby, hml, hrt, hlk, hnm, hw⟩ := H
  intro T locs c1 s1 X F hc hs eT
  exact own_go (fun t q => XS.aloadN X.here hx rfl (hb hby hd) hl hv q) (k T locs c1 s1 X F hc hs eT)
theorem own_aload (H : own_Ok B Z a0 l R y code N ret) {i : Nat} {v : Value} (hl : Ls[i]? = some (.val v)) (hv : v.isRef = true) (hd : decode code pc = .ok (.aload i, 2)) (k : own_G B n0 Q kc ks cells slots h (pc + 2) Ls (v :: st)) : own_G B n0 Q kc ks cells slots h pc Ls st := by
  obtain ⟨p, l, e, R, s, m, args, below, meth, c⟩ := B
  obtain ⟨rfl, rfl, hx, hZ, hown, hby, hml, hrt, hlk, hnm, hw⟩ := H
  intro T locs c1 s1 X F hc hs eT
  exact own_go (fun t q => XS.aload X.here hx rfl (hb hby hd) hl hv q) (k T locs c1 s1 X F hc hs eT)
theorem own_istore_n (H : own_Ok B Z a0 l R y code N ret) {i : Fin 4} {x : Int32} (Ls' : Array Slot) (hl : storeLocals Ls i.val (.int x) = some Ls') (hd : decode code pc = .ok (.istore_n i, 1)) (k : own_G B n0 Q kc ks cells slots h (pc + 1) Ls' st) : own_G B n0 Q kc ks cells slots h pc Ls (.int x :: st) := by
  obtain ⟨p, l, e, R, s, m, args, below, meth, c⟩ := B
  obtain ⟨rfl, rfl, hx, hZ, hown, hby, hml, hrt, hlk, hnm, hw⟩ := H
  intro T locs c1 s1 X F hc hs eT
  exact own_go (fun t q => XS.istoreN X.here hx rfl (hb hby hd) rfl hl q) (k T locs c1 s1 X F hc hs eT)
theorem own_istore (H : own_Ok B Z a0 l R y code N ret) {i : Nat} {x : Int32} (Ls' : Array Slot) (hl : storeLocals Ls i (.int x) = some Ls') (hd : decode code pc = .ok (.istore i, 2)) (k : own_G B n0 Q kc ks cells slots h (pc + 2) Ls' st) : own_G B n0 Q kc ks cells slots h pc Ls (.int x :: st) := by
  obtain ⟨p, l, e, R, s, m, args, below, meth, c⟩ := B
  obtain ⟨rfl, rfl, hx, hZ, hown, hby, hml, hrt, hlk, hnm, hw⟩ := H
  intro T locs c1 s1 X F hc hs eT
  exact own_go (fun t q => XS.istore X.here hx rfl (hb hby hd) rfl hl q) (k T locs c1 s1 X F hc hs eT)
theorem own_lstore_n (H : own_Ok B Z a0 l R y code N ret) {i : Fin 4} {x : Int64} (Ls' : Array Slot) (hl : storeLocals Ls i.val (.long x) = some Ls') (hd : decode code pc = .ok (.lstore_n i, 1)) (k : own_G B n0 Q kc ks cells slots h (pc + 1) Ls' st) : own_G B n0 Q kc ks cells slots h pc Ls (.long x :: st) := by
  obtain ⟨p, l, e, R, s, m, args, below, meth, c⟩ := B
  obtain ⟨rfl, rfl, hx, hZ, hown, hby, hml, hrt, hlk, hnm, hw⟩ := H
  intro T locs c1 s1 X F hc hs eT
  exact own_go (fun t q => XT.lstoreN X.here hx rfl (hb hby hd) rfl hl q) (k T locs c1 s1 X F hc hs eT)
theorem own_lstore (H : own_Ok B Z a0 l R y code N ret) {i : Nat} {x : Int64} (Ls' : Array Slot) (hl : storeLocals Ls i (.long x) = some Ls') (hd : decode code pc = .ok (.lstore i, 2)) (k : own_G B n0 Q kc ks cells slots h (pc + 2) Ls' st) : own_G B n0 Q kc ks cells slots h pc Ls (.long x :: st) := by
  obtain ⟨p, l, e, R, s, m, args, below, meth, c⟩ := B
  obtain ⟨rfl, rfl, hx, hZ, hown, hby, hml, hrt, hlk, hnm, hw⟩ := H
  intro T locs c1 s1 X F hc hs eT
  exact own_go (fun t q => XT.lstore X.here hx rfl (hb hby hd) rfl hl q) (k T locs c1 s1 X F hc hs eT)
theorem own_astore_n (H : own_Ok B Z a0 l R y code N ret) {i : Fin 4} {x : Value} (hv : x.isRef = true) (Ls' : Array Slot) (hl : storeLocals Ls i.val x = some Ls') (hd : decode code pc = .ok (.astore_n i, 1)) (k : own_G B n0 Q kc ks cells slots h (pc + 1) Ls' st) : own_G B n0 Q kc ks cells slots h pc Ls (x :: st) := by
  obtain ⟨p, l, e, R, s, m, args, below, meth, c⟩ := B
  obtain ⟨rfl, rfl, hx, hZ, hown, hby, hml, hrt, hlk, hnm, hw⟩ := H
  intro T locs c1 s1 X F hc hs eT
  exact own_go (fun t q => XS.astoreN X.here hx rfl (hb hby hd) rfl hv hl q) (k T locs c1 s1 X F hc hs eT)
theorem own_astore (H : own_Ok B Z a0 l R y code N ret) {i : Nat} {x : Value} (hv : x.isRef = true) (Ls' : Array Slot) (hl : storeLocals Ls i x = some Ls') (hd : decode code pc = .ok (.astore i, 2)) (k : own_G B n0 Q kc ks cells slots h (pc + 2) Ls' st) : own_G B n0 Q kc ks cells slots h pc Ls (x :: st) := by
  obtain ⟨p, l, e, R, s, m, args, below, meth, c⟩ := B
  obtain ⟨rfl, rfl, hx, hZ, hown, hby, hml, hrt, hlk, hnm, hw⟩ := H
  intro T locs c1 s1 X F hc hs eT
  exact own_go (fun t q => XS.astore X.here hx rfl (hb hby hd) rfl hv hl q) (k T locs c1 s1 X F hc hs eT)
theorem own_iinc (H : own_Ok B Z a0 l R y code N ret) {i : Nat} {cst : Int} {x u : Int32} (v : Int32) (hv : Int32.ofInt cst = v) (hl : Ls[i]? = some (.val (.int x))) (hu : x + v = u) (Ls' : Array Slot) (hl' : storeLocals Ls i (.int u) = some Ls') (hd : decode code pc = .ok (.iinc i cst, 3)) (k : own_G B n0 Q kc ks cells slots h (pc + 3) Ls' st) : own_G B n0 Q kc ks cells slots h pc Ls st := by
  subst hu
  obtain ⟨p, l, e, R, s, m, args, below, meth, c⟩ := B
  obtain ⟨rfl, rfl, hx, hZ, hown, hby, hml, hrt, hlk, hnm, hw⟩ := H
  intro T locs c1 s1 X F hc hs eT
  exact own_go (fun t q => XT.iincV X.here hx rfl v (hb hby hd) hv hl hl' q) (k T locs c1 s1 X F hc hs eT)
theorem own_goto (H : own_Ok B Z a0 l R y code N ret) {o : Int} (hd : decode code pc = .ok (.goto o, 3)) (ho : 0 ≤ (pc : Int) + o) (hp : ((pc : Int) + o).toNat = pc') (k : own_G B n0 Q kc ks cells slots h pc' Ls st) : own_G B n0 Q kc ks cells slots h pc Ls st := by
  obtain ⟨p, l, e, R, s, m, args, below, meth, c⟩ := B
  obtain ⟨rfl, rfl, hx, hZ, hown, hby, hml, hrt, hlk, hnm, hw⟩ := H
  intro T locs c1 s1 X F hc hs eT
  exact own_go (fun t q => XS.goto X.here hx rfl rfl (hb hby hd) ho hp q) (k T locs c1 s1 X F hc hs eT)
theorem own_ifeq_t (H : own_Ok B Z a0 l R y code N ret) {x : Int32} {o : Int} (hd : decode code pc = .ok (.ifCond .eq o, 3)) (ho : 0 ≤ (pc : Int) + o) (hp : ((pc : Int) + o).toNat = pc') (hq : x = 0) (k : own_G B n0 Q kc ks cells slots h pc' Ls st) : own_G B n0 Q kc ks cells slots h pc Ls (.int x :: st) := by
  obtain ⟨p, l, e, R, s, m, args, below, meth, c⟩ := B
  obtain ⟨rfl, rfl, hx, hZ, hown, hby, hml, hrt, hlk, hnm, hw⟩ := H
  intro T locs c1 s1 X F hc hs eT
  exact own_go (fun t q => XS.ifYes X.here hx rfl rfl (hb hby hd) rfl (XT.i0_eq_t hq) ho hp q) (k T locs c1 s1 X F hc hs eT)
theorem own_ifeq_f (H : own_Ok B Z a0 l R y code N ret) {x : Int32} {o : Int} (hd : decode code pc = .ok (.ifCond .eq o, 3)) (hq : ¬ x = 0) (k : own_G B n0 Q kc ks cells slots h (pc + 3) Ls st) : own_G B n0 Q kc ks cells slots h pc Ls (.int x :: st) := by
  obtain ⟨p, l, e, R, s, m, args, below, meth, c⟩ := B
  obtain ⟨rfl, rfl, hx, hZ, hown, hby, hml, hrt, hlk, hnm, hw⟩ := H
  intro T locs c1 s1 X F hc hs eT
  exact own_go (fun t q => XS.ifNo X.here hx rfl (hb hby hd) rfl (XT.i0_eq_f hq) q) (k T locs c1 s1 X F hc hs eT)
theorem own_icmpeq_t (H : own_Ok B Z a0 l R y code N ret) {x z : Int32} {o : Int} (hd : decode code pc = .ok (.if_icmp .eq o, 3)) (ho : 0 ≤ (pc : Int) + o) (hp : ((pc : Int) + o).toNat = pc') (hq : x = z) (k : own_G B n0 Q kc ks cells slots h pc' Ls st) : own_G B n0 Q kc ks cells slots h pc Ls (.int z :: .int x :: st) := by
  obtain ⟨p, l, e, R, s, m, args, below, meth, c⟩ := B
  obtain ⟨rfl, rfl, hx, hZ, hown, hby, hml, hrt, hlk, hnm, hw⟩ := H
  intro T locs c1 s1 X F hc hs eT
  exact own_go (fun t q => XS.icmpYes X.here hx rfl rfl (hb hby hd) rfl (XT.ii_eq_t hq) ho hp q) (k T locs c1 s1 X F hc hs eT)
theorem own_icmpeq_f (H : own_Ok B Z a0 l R y code N ret) {x z : Int32} {o : Int} (hd : decode code pc = .ok (.if_icmp .eq o, 3)) (hq : ¬ x = z) (k : own_G B n0 Q kc ks cells slots h (pc + 3) Ls st) : own_G B n0 Q kc ks cells slots h pc Ls (.int z :: .int x :: st) := by
  obtain ⟨p, l, e, R, s, m, args, below, meth, c⟩ := B
  obtain ⟨rfl, rfl, hx, hZ, hown, hby, hml, hrt, hlk, hnm, hw⟩ := H
  intro T locs c1 s1 X F hc hs eT
  exact own_go (fun t q => XS.icmpNo X.here hx rfl (hb hby hd) rfl (XT.ii_eq_f hq) q) (k T locs c1 s1 X F hc hs eT)
theorem own_lcmpeq_t (H : own_Ok B Z a0 l R y code N ret) {x z : Int64} {o : Int} (hd0 : decode code pc = .ok (.lcmp, 1)) (hd : decode code (pc + 1) = .ok (.ifCond .eq o, 3)) (ho : 0 ≤ ((pc + 1 : Nat) : Int) + o) (hp : (((pc + 1 : Nat) : Int) + o).toNat = pc') (hq : x = z) (k : own_G B n0 Q kc ks cells slots h pc' Ls st) : own_G B n0 Q kc ks cells slots h pc Ls (.long z :: .long x :: st) := by
  obtain ⟨p, l, e, R, s, m, args, below, meth, c⟩ := B
  obtain ⟨rfl, rfl, hx, hZ, hown, hby, hml, hrt, hlk, hnm, hw⟩ := H
  intro T locs c1 s1 X F hc hs eT
  exact own_go (fun t q => XT.lcmp X.here hx rfl (hb hby hd0) rfl (XS.ifYes X.here hx rfl rfl (hb hby hd) rfl (XT.ll_eq_t hq) ho hp q)) (k T locs c1 s1 X F hc hs eT)
theorem own_lcmpeq_f (H : own_Ok B Z a0 l R y code N ret) {x z : Int64} {o : Int} (hd0 : decode code pc = .ok (.lcmp, 1)) (hd : decode code (pc + 1) = .ok (.ifCond .eq o, 3)) (hq : ¬ x = z) (k : own_G B n0 Q kc ks cells slots h (pc + 4) Ls st) : own_G B n0 Q kc ks cells slots h pc Ls (.long z :: .long x :: st) := by
  obtain ⟨p, l, e, R, s, m, args, below, meth, c⟩ := B
  obtain ⟨rfl, rfl, hx, hZ, hown, hby, hml, hrt, hlk, hnm, hw⟩ := H
  intro T locs c1 s1 X F hc hs eT
  exact own_go (fun t q => XT.lcmp X.here hx rfl (hb hby hd0) rfl (XS.ifNo X.here hx rfl (hb hby hd) rfl (XT.ll_eq_f hq) q)) (k T locs c1 s1 X F hc hs eT)
theorem own_ifne_t (H : own_Ok B Z a0 l R y code N ret) {x : Int32} {o : Int} (hd : decode code pc = .ok (.ifCond .ne o, 3)) (ho : 0 ≤ (pc : Int) + o) (hp : ((pc : Int) + o).toNat = pc') (hq : ¬ x = 0) (k : own_G B n0 Q kc ks cells slots h pc' Ls st) : own_G B n0 Q kc ks cells slots h pc Ls (.int x :: st) := by
  obtain ⟨p, l, e, R, s, m, args, below, meth, c⟩ := B
  obtain ⟨rfl, rfl, hx, hZ, hown, hby, hml, hrt, hlk, hnm, hw⟩ := H
  intro T locs c1 s1 X F hc hs eT
  exact own_go (fun t q => XS.ifYes X.here hx rfl rfl (hb hby hd) rfl (XT.i0_ne_t hq) ho hp q) (k T locs c1 s1 X F hc hs eT)
theorem own_ifne_f (H : own_Ok B Z a0 l R y code N ret) {x : Int32} {o : Int} (hd : decode code pc = .ok (.ifCond .ne o, 3)) (hq : x = 0) (k : own_G B n0 Q kc ks cells slots h (pc + 3) Ls st) : own_G B n0 Q kc ks cells slots h pc Ls (.int x :: st) := by
  obtain ⟨p, l, e, R, s, m, args, below, meth, c⟩ := B
  obtain ⟨rfl, rfl, hx, hZ, hown, hby, hml, hrt, hlk, hnm, hw⟩ := H
  intro T locs c1 s1 X F hc hs eT
  exact own_go (fun t q => XS.ifNo X.here hx rfl (hb hby hd) rfl (XT.i0_ne_f hq) q) (k T locs c1 s1 X F hc hs eT)
theorem own_icmpne_t (H : own_Ok B Z a0 l R y code N ret) {x z : Int32} {o : Int} (hd : decode code pc = .ok (.if_icmp .ne o, 3)) (ho : 0 ≤ (pc : Int) + o) (hp : ((pc : Int) + o).toNat = pc') (hq : ¬ x = z) (k : own_G B n0 Q kc ks cells slots h pc' Ls st) : own_G B n0 Q kc ks cells slots h pc Ls (.int z :: .int x :: st) := by
  obtain ⟨p, l, e, R, s, m, args, below, meth, c⟩ := B
  obtain ⟨rfl, rfl, hx, hZ, hown, hby, hml, hrt, hlk, hnm, hw⟩ := H
  intro T locs c1 s1 X F hc hs eT
  exact own_go (fun t q => XS.icmpYes X.here hx rfl rfl (hb hby hd) rfl (XT.ii_ne_t hq) ho hp q) (k T locs c1 s1 X F hc hs eT)
theorem own_icmpne_f (H : own_Ok B Z a0 l R y code N ret) {x z : Int32} {o : Int} (hd : decode code pc = .ok (.if_icmp .ne o, 3)) (hq : x = z) (k : own_G B n0 Q kc ks cells slots h (pc + 3) Ls st) : own_G B n0 Q kc ks cells slots h pc Ls (.int z :: .int x :: st) := by
  obtain ⟨p, l, e, R, s, m, args, below, meth, c⟩ := B
  obtain ⟨rfl, rfl, hx, hZ, hown, hby, hml, hrt, hlk, hnm, hw⟩ := H
  intro T locs c1 s1 X F hc hs eT
  exact own_go (fun t q => XS.icmpNo X.here hx rfl (hb hby hd) rfl (XT.ii_ne_f hq) q) (k T locs c1 s1 X F hc hs eT)
theorem own_lcmpne_t (H : own_Ok B Z a0 l R y code N ret) {x z : Int64} {o : Int} (hd0 : decode code pc = .ok (.lcmp, 1)) (hd : decode code (pc + 1) = .ok (.ifCond .ne o, 3)) (ho : 0 ≤ ((pc + 1 : Nat) : Int) + o) (hp : (((pc + 1 : Nat) : Int) + o).toNat = pc') (hq : ¬ x = z) (k : own_G B n0 Q kc ks cells slots h pc' Ls st) : own_G B n0 Q kc ks cells slots h pc Ls (.long z :: .long x :: st) := by
  obtain ⟨p, l, e, R, s, m, args, below, meth, c⟩ := B
  obtain ⟨rfl, rfl, hx, hZ, hown, hby, hml, hrt, hlk, hnm, hw⟩ := H
  intro T locs c1 s1 X F hc hs eT
  exact own_go (fun t q => XT.lcmp X.here hx rfl (hb hby hd0) rfl (XS.ifYes X.here hx rfl rfl (hb hby hd) rfl (XT.ll_ne_t hq) ho hp q)) (k T locs c1 s1 X F hc hs eT)
theorem own_lcmpne_f (H : own_Ok B Z a0 l R y code N ret) {x z : Int64} {o : Int} (hd0 : decode code pc = .ok (.lcmp, 1)) (hd : decode code (pc + 1) = .ok (.ifCond .ne o, 3)) (hq : x = z) (k : own_G B n0 Q kc ks cells slots h (pc + 4) Ls st) : own_G B n0 Q kc ks cells slots h pc Ls (.long z :: .long x :: st) := by
  obtain ⟨p, l, e, R, s, m, args, below, meth, c⟩ := B
  obtain ⟨rfl, rfl, hx, hZ, hown, hby, hml, hrt, hlk, hnm, hw⟩ := H
  intro T locs c1 s1 X F hc hs eT
  exact own_go (fun t q => XT.lcmp X.here hx rfl (hb hby hd0) rfl (XS.ifNo X.here hx rfl (hb hby hd) rfl (XT.ll_ne_f hq) q)) (k T locs c1 s1 X F hc hs eT)
theorem own_iflt_t (H : own_Ok B Z a0 l R y code N ret) {x : Int32} {o : Int} (hd : decode code pc = .ok (.ifCond .lt o, 3)) (ho : 0 ≤ (pc : Int) + o) (hp : ((pc : Int) + o).toNat = pc') (hq : x < 0) (k : own_G B n0 Q kc ks cells slots h pc' Ls st) : own_G B n0 Q kc ks cells slots h pc Ls (.int x :: st) := by
  obtain ⟨p, l, e, R, s, m, args, below, meth, c⟩ := B
  obtain ⟨rfl, rfl, hx, hZ, hown, hby, hml, hrt, hlk, hnm, hw⟩ := H
  intro T locs c1 s1 X F hc hs eT
  exact own_go (fun t q => XS.ifYes X.here hx rfl rfl (hb hby hd) rfl (XT.i0_lt_t hq) ho hp q) (k T locs c1 s1 X F hc hs eT)
theorem own_iflt_f (H : own_Ok B Z a0 l R y code N ret) {x : Int32} {o : Int} (hd : decode code pc = .ok (.ifCond .lt o, 3)) (hq : ¬ x < 0) (k : own_G B n0 Q kc ks cells slots h (pc + 3) Ls st) : own_G B n0 Q kc ks cells slots h pc Ls (.int x :: st) := by
  obtain ⟨p, l, e, R, s, m, args, below, meth, c⟩ := B
  obtain ⟨rfl, rfl, hx, hZ, hown, hby, hml, hrt, hlk, hnm, hw⟩ := H
  intro T locs c1 s1 X F hc hs eT
  exact own_go (fun t q => XS.ifNo X.here hx rfl (hb hby hd) rfl (XT.i0_lt_f hq) q) (k T locs c1 s1 X F hc hs eT)
theorem own_icmplt_t (H : own_Ok B Z a0 l R y code N ret) {x z : Int32} {o : Int} (hd : decode code pc = .ok (.if_icmp .lt o, 3)) (ho : 0 ≤ (pc : Int) + o) (hp : ((pc : Int) + o).toNat = pc') (hq : x < z) (k : own_G B n0 Q kc ks cells slots h pc' Ls st) : own_G B n0 Q kc ks cells slots h pc Ls (.int z :: .int x :: st) := by
  obtain ⟨p, l, e, R, s, m, args, below, meth, c⟩ := B
  obtain ⟨rfl, rfl, hx, hZ, hown, hby, hml, hrt, hlk, hnm, hw⟩ := H
  intro T locs c1 s1 X F hc hs eT
  exact own_go (fun t q => XS.icmpYes X.here hx rfl rfl (hb hby hd) rfl (XT.ii_lt_t hq) ho hp q) (k T locs c1 s1 X F hc hs eT)
theorem own_icmplt_f (H : own_Ok B Z a0 l R y code N ret) {x z : Int32} {o : Int} (hd : decode code pc = .ok (.if_icmp .lt o, 3)) (hq : ¬ x < z) (k : own_G B n0 Q kc ks cells slots h (pc + 3) Ls st) : own_G B n0 Q kc ks cells slots h pc Ls (.int z :: .int x :: st) := by
  obtain ⟨p, l, e, R, s, m, args, below, meth, c⟩ := B
  obtain ⟨rfl, rfl, hx, hZ, hown, hby, hml, hrt, hlk, hnm, hw⟩ := H
  intro T locs c1 s1 X F hc hs eT
  exact own_go (fun t q => XS.icmpNo X.here hx rfl (hb hby hd) rfl (XT.ii_lt_f hq) q) (k T locs c1 s1 X F hc hs eT)
theorem own_lcmplt_t (H : own_Ok B Z a0 l R y code N ret) {x z : Int64} {o : Int} (hd0 : decode code pc = .ok (.lcmp, 1)) (hd : decode code (pc + 1) = .ok (.ifCond .lt o, 3)) (ho : 0 ≤ ((pc + 1 : Nat) : Int) + o) (hp : (((pc + 1 : Nat) : Int) + o).toNat = pc') (hq : x < z) (k : own_G B n0 Q kc ks cells slots h pc' Ls st) : own_G B n0 Q kc ks cells slots h pc Ls (.long z :: .long x :: st) := by
  obtain ⟨p, l, e, R, s, m, args, below, meth, c⟩ := B
  obtain ⟨rfl, rfl, hx, hZ, hown, hby, hml, hrt, hlk, hnm, hw⟩ := H
  intro T locs c1 s1 X F hc hs eT
  exact own_go (fun t q => XT.lcmp X.here hx rfl (hb hby hd0) rfl (XS.ifYes X.here hx rfl rfl (hb hby hd) rfl (XT.ll_lt_t hq) ho hp q)) (k T locs c1 s1 X F hc hs eT)
theorem own_lcmplt_f (H : own_Ok B Z a0 l R y code N ret) {x z : Int64} {o : Int} (hd0 : decode code pc = .ok (.lcmp, 1)) (hd : decode code (pc + 1) = .ok (.ifCond .lt o, 3)) (hq : ¬ x < z) (k : own_G B n0 Q kc ks cells slots h (pc + 4) Ls st) : own_G B n0 Q kc ks cells slots h pc Ls (.long z :: .long x :: st) := by
  obtain ⟨p, l, e, R, s, m, args, below, meth, c⟩ := B
  obtain ⟨rfl, rfl, hx, hZ, hown, hby, hml, hrt, hlk, hnm, hw⟩ := H
  intro T locs c1 s1 X F hc hs eT
  exact own_go (fun t q => XT.lcmp X.here hx rfl (hb hby hd0) rfl (XS.ifNo X.here hx rfl (hb hby hd) rfl (XT.ll_lt_f hq) q)) (k T locs c1 s1 X F hc hs eT)
theorem own_ifge_t (H : own_Ok B Z a0 l R y code N ret) {x : Int32} {o : Int} (hd : decode code pc = .ok (.ifCond .ge o, 3)) (ho : 0 ≤ (pc : Int) + o) (hp : ((pc : Int) + o).toNat = pc') (hq : ¬ x < 0) (k : own_G B n0 Q kc ks cells slots h pc' Ls st) : own_G B n0 Q kc ks cells slots h pc Ls (.int x :: st) := by
  obtain ⟨p, l, e, R, s, m, args, below, meth, c⟩ := B
  obtain ⟨rfl, rfl, hx, hZ, hown, hby, hml, hrt, hlk, hnm, hw⟩ := H
  intro T locs c1 s1 X F hc hs eT
  exact own_go (fun t q => XS.ifYes X.here hx rfl rfl (hb hby hd) rfl (XT.i0_ge_t hq) ho hp q) (k T locs c1 s1 X F hc hs eT)
theorem own_ifge_f (H : own_Ok B Z a0 l R y code N ret) {x : Int32} {o : Int} (hd : decode code pc = .ok (.ifCond .ge o, 3)) (hq : x < 0) (k : own_G B n0 Q kc ks cells slots h (pc + 3) Ls st) : own_G B n0 Q kc ks cells slots h pc Ls (.int x :: st) := by
  obtain ⟨p, l, e, R, s, m, args, below, meth, c⟩ := B
  obtain ⟨rfl, rfl, hx, hZ, hown, hby, hml, hrt, hlk, hnm, hw⟩ := H
  intro T locs c1 s1 X F hc hs eT
  exact own_go (fun t q => XS.ifNo X.here hx rfl (hb hby hd) rfl (XT.i0_ge_f hq) q) (k T locs c1 s1 X F hc hs eT)
theorem own_icmpge_t (H : own_Ok B Z a0 l R y code N ret) {x z : Int32} {o : Int} (hd : decode code pc = .ok (.if_icmp .ge o, 3)) (ho : 0 ≤ (pc : Int) + o) (hp : ((pc : Int) + o).toNat = pc') (hq : ¬ x < z) (k : own_G B n0 Q kc ks cells slots h pc' Ls st) : own_G B n0 Q kc ks cells slots h pc Ls (.int z :: .int x :: st) := by
  obtain ⟨p, l, e, R, s, m, args, below, meth, c⟩ := B
  obtain ⟨rfl, rfl, hx, hZ, hown, hby, hml, hrt, hlk, hnm, hw⟩ := H
  intro T locs c1 s1 X F hc hs eT
  exact own_go (fun t q => XS.icmpYes X.here hx rfl rfl (hb hby hd) rfl (XT.ii_ge_t hq) ho hp q) (k T locs c1 s1 X F hc hs eT)
theorem own_icmpge_f (H : own_Ok B Z a0 l R y code N ret) {x z : Int32} {o : Int} (hd : decode code pc = .ok (.if_icmp .ge o, 3)) (hq : x < z) (k : own_G B n0 Q kc ks cells slots h (pc + 3) Ls st) : own_G B n0 Q kc ks cells slots h pc Ls (.int z :: .int x :: st) := by
  obtain ⟨p, l, e, R, s, m, args, below, meth, c⟩ := B
  obtain ⟨rfl, rfl, hx, hZ, hown, hby, hml, hrt, hlk, hnm, hw⟩ := H
  intro T locs c1 s1 X F hc hs eT
  exact own_go (fun t q => XS.icmpNo X.here hx rfl (hb hby hd) rfl (XT.ii_ge_f hq) q) (k T locs c1 s1 X F hc hs eT)
theorem own_lcmpge_t (H : own_Ok B Z a0 l R y code N ret) {x z : Int64} {o : Int} (hd0 : decode code pc = .ok (.lcmp, 1)) (hd : decode code (pc + 1) = .ok (.ifCond .ge o, 3)) (ho : 0 ≤ ((pc + 1 : Nat) : Int) + o) (hp : (((pc + 1 : Nat) : Int) + o).toNat = pc') (hq : ¬ x < z) (k : own_G B n0 Q kc ks cells slots h pc' Ls st) : own_G B n0 Q kc ks cells slots h pc Ls (.long z :: .long x :: st) := by
  obtain ⟨p, l, e, R, s, m, args, below, meth, c⟩ := B
  obtain ⟨rfl, rfl, hx, hZ, hown, hby, hml, hrt, hlk, hnm, hw⟩ := H
  intro T locs c1 s1 X F hc hs eT
  exact own_go (fun t q => XT.lcmp X.here hx rfl (hb hby hd0) rfl (XS.ifYes X.here hx rfl rfl (hb hby hd) rfl (XT.ll_ge_t hq) ho hp q)) (k T locs c1 s1 X F hc hs eT)
theorem own_lcmpge_f (H : own_Ok B Z a0 l R y code N ret) {x z : Int64} {o : Int} (hd0 : decode code pc = .ok (.lcmp, 1)) (hd : decode code (pc + 1) = .ok (.ifCond .ge o, 3)) (hq : x < z) (k : own_G B n0 Q kc ks cells slots h (pc + 4) Ls st) : own_G B n0 Q kc ks cells slots h pc Ls (.long z :: .long x :: st) := by
  obtain ⟨p, l, e, R, s, m, args, below, meth, c⟩ := B
  obtain ⟨rfl, rfl, hx, hZ, hown, hby, hml, hrt, hlk, hnm, hw⟩ := H
  intro T locs c1 s1 X F hc hs eT
  exact own_go (fun t q => XT.lcmp X.here hx rfl (hb hby hd0) rfl (XS.ifNo X.here hx rfl (hb hby hd) rfl (XT.ll_ge_f hq) q)) (k T locs c1 s1 X F hc hs eT)
theorem own_ifgt_t (H : own_Ok B Z a0 l R y code N ret) {x : Int32} {o : Int} (hd : decode code pc = .ok (.ifCond .gt o, 3)) (ho : 0 ≤ (pc : Int) + o) (hp : ((pc : Int) + o).toNat = pc') (hq : 0 < x) (k : own_G B n0 Q kc ks cells slots h pc' Ls st) : own_G B n0 Q kc ks cells slots h pc Ls (.int x :: st) := by
  obtain ⟨p, l, e, R, s, m, args, below, meth, c⟩ := B
  obtain ⟨rfl, rfl, hx, hZ, hown, hby, hml, hrt, hlk, hnm, hw⟩ := H
  intro T locs c1 s1 X F hc hs eT
  exact own_go (fun t q => XS.ifYes X.here hx rfl rfl (hb hby hd) rfl (XT.i0_gt_t hq) ho hp q) (k T locs c1 s1 X F hc hs eT)
theorem own_ifgt_f (H : own_Ok B Z a0 l R y code N ret) {x : Int32} {o : Int} (hd : decode code pc = .ok (.ifCond .gt o, 3)) (hq : ¬ 0 < x) (k : own_G B n0 Q kc ks cells slots h (pc + 3) Ls st) : own_G B n0 Q kc ks cells slots h pc Ls (.int x :: st) := by
  obtain ⟨p, l, e, R, s, m, args, below, meth, c⟩ := B
  obtain ⟨rfl, rfl, hx, hZ, hown, hby, hml, hrt, hlk, hnm, hw⟩ := H
  intro T locs c1 s1 X F hc hs eT
  exact own_go (fun t q => XS.ifNo X.here hx rfl (hb hby hd) rfl (XT.i0_gt_f hq) q) (k T locs c1 s1 X F hc hs eT)
theorem own_icmpgt_t (H : own_Ok B Z a0 l R y code N ret) {x z : Int32} {o : Int} (hd : decode code pc = .ok (.if_icmp .gt o, 3)) (ho : 0 ≤ (pc : Int) + o) (hp : ((pc : Int) + o).toNat = pc') (hq : z < x) (k : own_G B n0 Q kc ks cells slots h pc' Ls st) : own_G B n0 Q kc ks cells slots h pc Ls (.int z :: .int x :: st) := by
  obtain ⟨p, l, e, R, s, m, args, below, meth, c⟩ := B
  obtain ⟨rfl, rfl, hx, hZ, hown, hby, hml, hrt, hlk, hnm, hw⟩ := H
  intro T locs c1 s1 X F hc hs eT
  exact own_go (fun t q => XS.icmpYes X.here hx rfl rfl (hb hby hd) rfl (XT.ii_gt_t hq) ho hp q) (k T locs c1 s1 X F hc hs eT)
theorem own_icmpgt_f (H : own_Ok B Z a0 l R y code N ret) {x z : Int32} {o : Int} (hd : decode code pc = .ok (.if_icmp .gt o, 3)) (hq : ¬ z < x) (k : own_G B n0 Q kc ks cells slots h (pc + 3) Ls st) : own_G B n0 Q kc ks cells slots h pc Ls (.int z :: .int x :: st) := by
  obtain ⟨p, l, e, R, s, m, args, below, meth, c⟩ := B
  obtain ⟨rfl, rfl, hx, hZ, hown, hby, hml, hrt, hlk, hnm, hw⟩ := H
  intro T locs c1 s1 X F hc hs eT
  exact own_go (fun t q => XS.icmpNo X.here hx rfl (hb hby hd) rfl (XT.ii_gt_f hq) q) (k T locs c1 s1 X F hc hs eT)
theorem own_lcmpgt_t (H : own_Ok B Z a0 l R y code N ret) {x z : Int64} {o : Int} (hd0 : decode code pc = .ok (.lcmp, 1)) (hd : decode code (pc + 1) = .ok (.ifCond .gt o, 3)) (ho : 0 ≤ ((pc + 1 : Nat) : Int) + o) (hp : (((pc + 1 : Nat) : Int) + o).toNat = pc') (hq : z < x) (k : own_G B n0 Q kc ks cells slots h pc' Ls st) : own_G B n0 Q kc ks cells slots h pc Ls (.long z :: .long x :: st) := by
  obtain ⟨p, l, e, R, s, m, args, below, meth, c⟩ := B
  obtain ⟨rfl, rfl, hx, hZ, hown, hby, hml, hrt, hlk, hnm, hw⟩ := H
  intro T locs c1 s1 X F hc hs eT
  exact own_go (fun t q => XT.lcmp X.here hx rfl (hb hby hd0) rfl (XS.ifYes X.here hx rfl rfl (hb hby hd) rfl (XT.ll_gt_t hq) ho hp q)) (k T locs c1 s1 X F hc hs eT)
theorem own_lcmpgt_f (H : own_Ok B Z a0 l R y code N ret) {x z : Int64} {o : Int} (hd0 : decode code pc = .ok (.lcmp, 1)) (hd : decode code (pc + 1) = .ok (.ifCond .gt o, 3)) (hq : ¬ z < x) (k : own_G B n0 Q kc ks cells slots h (pc + 4) Ls st) : own_G B n0 Q kc ks cells slots h pc Ls (.long z :: .long x :: st) := by
  obtain ⟨p, l, e, R, s, m, args, below, meth, c⟩ := B
  obtain ⟨rfl, rfl, hx, hZ, hown, hby, hml, hrt, hlk, hnm, hw⟩ := H
  intro T locs c1 s1 X F hc hs eT
  exact own_go (fun t q => XT.lcmp X.here hx rfl (hb hby hd0) rfl (XS.ifNo X.here hx rfl (hb hby hd) rfl (XT.ll_gt_f hq) q)) (k T locs c1 s1 X F hc hs eT)
theorem own_ifle_t (H : own_Ok B Z a0 l R y code N ret) {x : Int32} {o : Int} (hd : decode code pc = .ok (.ifCond .le o, 3)) (ho : 0 ≤ (pc : Int) + o) (hp : ((pc : Int) + o).toNat = pc') (hq : ¬ 0 < x) (k : own_G B n0 Q kc ks cells slots h pc' Ls st) : own_G B n0 Q kc ks cells slots h pc Ls (.int x :: st) := by
  obtain ⟨p, l, e, R, s, m, args, below, meth, c⟩ := B
  obtain ⟨rfl, rfl, hx, hZ, hown, hby, hml, hrt, hlk, hnm, hw⟩ := H
  intro T locs c1 s1 X F hc hs eT
  exact own_go (fun t q => XS.ifYes X.here hx rfl rfl (hb hby hd) rfl (XT.i0_le_t hq) ho hp q) (k T locs c1 s1 X F hc hs eT)
theorem own_ifle_f (H : own_Ok B Z a0 l R y code N ret) {x : Int32} {o : Int} (hd : decode code pc = .ok (.ifCond .le o, 3)) (hq : 0 < x) (k : own_G B n0 Q kc ks cells slots h (pc + 3) Ls st) : own_G B n0 Q kc ks cells slots h pc Ls (.int x :: st) := by
  obtain ⟨p, l, e, R, s, m, args, below, meth, c⟩ := B
  obtain ⟨rfl, rfl, hx, hZ, hown, hby, hml, hrt, hlk, hnm, hw⟩ := H
  intro T locs c1 s1 X F hc hs eT
  exact own_go (fun t q => XS.ifNo X.here hx rfl (hb hby hd) rfl (XT.i0_le_f hq) q) (k T locs c1 s1 X F hc hs eT)
theorem own_icmple_t (H : own_Ok B Z a0 l R y code N ret) {x z : Int32} {o : Int} (hd : decode code pc = .ok (.if_icmp .le o, 3)) (ho : 0 ≤ (pc : Int) + o) (hp : ((pc : Int) + o).toNat = pc') (hq : ¬ z < x) (k : own_G B n0 Q kc ks cells slots h pc' Ls st) : own_G B n0 Q kc ks cells slots h pc Ls (.int z :: .int x :: st) := by
  obtain ⟨p, l, e, R, s, m, args, below, meth, c⟩ := B
  obtain ⟨rfl, rfl, hx, hZ, hown, hby, hml, hrt, hlk, hnm, hw⟩ := H
  intro T locs c1 s1 X F hc hs eT
  exact own_go (fun t q => XS.icmpYes X.here hx rfl rfl (hb hby hd) rfl (XT.ii_le_t hq) ho hp q) (k T locs c1 s1 X F hc hs eT)
theorem own_icmple_f (H : own_Ok B Z a0 l R y code N ret) {x z : Int32} {o : Int} (hd : decode code pc = .ok (.if_icmp .le o, 3)) (hq : z < x) (k : own_G B n0 Q kc ks cells slots h (pc + 3) Ls st) : own_G B n0 Q kc ks cells slots h pc Ls (.int z :: .int x :: st) := by
  obtain ⟨p, l, e, R, s, m, args, below, meth, c⟩ := B
  obtain ⟨rfl, rfl, hx, hZ, hown, hby, hml, hrt, hlk, hnm, hw⟩ := H
  intro T locs c1 s1 X F hc hs eT
  exact own_go (fun t q => XS.icmpNo X.here hx rfl (hb hby hd) rfl (XT.ii_le_f hq) q) (k T locs c1 s1 X F hc hs eT)
theorem own_lcmple_t (H : own_Ok B Z a0 l R y code N ret) {x z : Int64} {o : Int} (hd0 : decode code pc = .ok (.lcmp, 1)) (hd : decode code (pc + 1) = .ok (.ifCond .le o, 3)) (ho : 0 ≤ ((pc + 1 : Nat) : Int) + o) (hp : (((pc + 1 : Nat) : Int) + o).toNat = pc') (hq : ¬ z < x) (k : own_G B n0 Q kc ks cells slots h pc' Ls st) : own_G B n0 Q kc ks cells slots h pc Ls (.long z :: .long x :: st) := by
  obtain ⟨p, l, e, R, s, m, args, below, meth, c⟩ := B
  obtain ⟨rfl, rfl, hx, hZ, hown, hby, hml, hrt, hlk, hnm, hw⟩ := H
  intro T locs c1 s1 X F hc hs eT
  exact own_go (fun t q => XT.lcmp X.here hx rfl (hb hby hd0) rfl (XS.ifYes X.here hx rfl rfl (hb hby hd) rfl (XT.ll_le_t hq) ho hp q)) (k T locs c1 s1 X F hc hs eT)
theorem own_lcmple_f (H : own_Ok B Z a0 l R y code N ret) {x z : Int64} {o : Int} (hd0 : decode code pc = .ok (.lcmp, 1)) (hd : decode code (pc + 1) = .ok (.ifCond .le o, 3)) (hq : z < x) (k : own_G B n0 Q kc ks cells slots h (pc + 4) Ls st) : own_G B n0 Q kc ks cells slots h pc Ls (.long z :: .long x :: st) := by
  obtain ⟨p, l, e, R, s, m, args, below, meth, c⟩ := B
  obtain ⟨rfl, rfl, hx, hZ, hown, hby, hml, hrt, hlk, hnm, hw⟩ := H
  intro T locs c1 s1 X F hc hs eT
  exact own_go (fun t q => XT.lcmp X.here hx rfl (hb hby hd0) rfl (XS.ifNo X.here hx rfl (hb hby hd) rfl (XT.ll_le_f hq) q)) (k T locs c1 s1 X F hc hs eT)
theorem own_acmpeq_t (H : own_Ok B Z a0 l R y code N ret) {x z : Value} {o : Int} (hd : decode code pc = .ok (.if_acmp .eq o, 3)) (ho : 0 ≤ (pc : Int) + o) (hp : ((pc : Int) + o).toNat = pc') (h1 : x.isRef = true) (h2 : z.isRef = true) (hq : x = z) (k : own_G B n0 Q kc ks cells slots h pc' Ls st) : own_G B n0 Q kc ks cells slots h pc Ls (z :: x :: st) := by
  obtain ⟨p, l, e, R, s, m, args, below, meth, c⟩ := B
  obtain ⟨rfl, rfl, hx, hZ, hown, hby, hml, hrt, hlk, hnm, hw⟩ := H
  intro T locs c1 s1 X F hc hs eT
  exact own_go (fun t q => XT.acmpYes X.here hx rfl rfl (hb hby hd) rfl h1 h2 (XT.aa_eq_t hq) ho hp q) (k T locs c1 s1 X F hc hs eT)
theorem own_acmpeq_f (H : own_Ok B Z a0 l R y code N ret) {x z : Value} {o : Int} (hd : decode code pc = .ok (.if_acmp .eq o, 3)) (h1 : x.isRef = true) (h2 : z.isRef = true) (hq : ¬ x = z) (k : own_G B n0 Q kc ks cells slots h (pc + 3) Ls st) : own_G B n0 Q kc ks cells slots h pc Ls (z :: x :: st) := by
  obtain ⟨p, l, e, R, s, m, args, below, meth, c⟩ := B
  obtain ⟨rfl, rfl, hx, hZ, hown, hby, hml, hrt, hlk, hnm, hw⟩ := H
  intro T locs c1 s1 X F hc hs eT
  exact own_go (fun t q => XT.acmpNo X.here hx rfl (hb hby hd) rfl h1 h2 (XT.aa_eq_f hq) q) (k T locs c1 s1 X F hc hs eT)
theorem own_acmpne_t (H : own_Ok B Z a0 l R y code N ret) {x z : Value} {o : Int} (hd : decode code pc = .ok (.if_acmp .ne o, 3)) (ho : 0 ≤ (pc : Int) + o) (hp : ((pc : Int) + o).toNat = pc') (h1 : x.isRef = true) (h2 : z.isRef = true) (hq : ¬ x = z) (k : own_G B n0 Q kc ks cells slots h pc' Ls st) : own_G B n0 Q kc ks cells slots h pc Ls (z :: x :: st) := by
  obtain ⟨p, l, e, R, s, m, args, below, meth, c⟩ := B
  obtain ⟨rfl, rfl, hx, hZ, hown, hby, hml, hrt, hlk, hnm, hw⟩ := H
  intro T locs c1 s1 X F hc hs eT
  exact own_go (fun t q => XT.acmpYes X.here hx rfl rfl (hb hby hd) rfl h1 h2 (XT.aa_ne_t hq) ho hp q) (k T locs c1 s1 X F hc hs eT)
theorem own_acmpne_f (H : own_Ok B Z a0 l R y code N ret) {x z : Value} {o : Int} (hd : decode code pc = .ok (.if_acmp .ne o, 3)) (h1 : x.isRef = true) (h2 : z.isRef = true) (hq : x = z) (k : own_G B n0 Q kc ks cells slots h (pc + 3) Ls st) : own_G B n0 Q kc ks cells slots h pc Ls (z :: x :: st) := by
  obtain ⟨p, l, e, R, s, m, args, below, meth, c⟩ := B
  obtain ⟨rfl, rfl, hx, hZ, hown, hby, hml, hrt, hlk, hnm, hw⟩ := H
  intro T locs c1 s1 X F hc hs eT
  exact own_go (fun t q => XT.acmpNo X.here hx rfl (hb hby hd) rfl h1 h2 (XT.aa_ne_f hq) q) (k T locs c1 s1 X F hc hs eT)
theorem own_ifnull_t (H : own_Ok B Z a0 l R y code N ret) {x : Value} {o : Int} (hd : decode code pc = .ok (.ifnull o, 3)) (ho : 0 ≤ (pc : Int) + o) (hp : ((pc : Int) + o).toNat = pc') (h1 : x.isRef = true) (hq : x = .null) (k : own_G B n0 Q kc ks cells slots h pc' Ls st) : own_G B n0 Q kc ks cells slots h pc Ls (x :: st) := by
  obtain ⟨p, l, e, R, s, m, args, below, meth, c⟩ := B
  obtain ⟨rfl, rfl, hx, hZ, hown, hby, hml, hrt, hlk, hnm, hw⟩ := H
  intro T locs c1 s1 X F hc hs eT
  exact own_go (fun t q => XT.nullYes X.here hx rfl rfl (hb hby hd) rfl hq ho hp q) (k T locs c1 s1 X F hc hs eT)
theorem own_ifnull_f (H : own_Ok B Z a0 l R y code N ret) {x : Value} {o : Int} (hd : decode code pc = .ok (.ifnull o, 3)) (h1 : x.isRef = true) (hq : ¬ x = .null) (k : own_G B n0 Q kc ks cells slots h (pc + 3) Ls st) : own_G B n0 Q kc ks cells slots h pc Ls (x :: st) := by
  obtain ⟨p, l, e, R, s, m, args, below, meth, c⟩ := B
  obtain ⟨rfl, rfl, hx, hZ, hown, hby, hml, hrt, hlk, hnm, hw⟩ := H
  intro T locs c1 s1 X F hc hs eT
  exact own_go (fun t q => XT.nullNo X.here hx rfl (hb hby hd) rfl h1 hq q) (k T locs c1 s1 X F hc hs eT)
theorem own_ifnonnull_t (H : own_Ok B Z a0 l R y code N ret) {x : Value} {o : Int} (hd : decode code pc = .ok (.ifnonnull o, 3)) (ho : 0 ≤ (pc : Int) + o) (hp : ((pc : Int) + o).toNat = pc') (h1 : x.isRef = true) (hq : ¬ x = .null) (k : own_G B n0 Q kc ks cells slots h pc' Ls st) : own_G B n0 Q kc ks cells slots h pc Ls (x :: st) := by
  obtain ⟨p, l, e, R, s, m, args, below, meth, c⟩ := B
  obtain ⟨rfl, rfl, hx, hZ, hown, hby, hml, hrt, hlk, hnm, hw⟩ := H
  intro T locs c1 s1 X F hc hs eT
  exact own_go (fun t q => XT.nonnullYes X.here hx rfl rfl (hb hby hd) rfl h1 hq ho hp q) (k T locs c1 s1 X F hc hs eT)
theorem own_ifnonnull_f (H : own_Ok B Z a0 l R y code N ret) {x : Value} {o : Int} (hd : decode code pc = .ok (.ifnonnull o, 3)) (h1 : x.isRef = true) (hq : x = .null) (k : own_G B n0 Q kc ks cells slots h (pc + 3) Ls st) : own_G B n0 Q kc ks cells slots h pc Ls (x :: st) := by
  obtain ⟨p, l, e, R, s, m, args, below, meth, c⟩ := B
  obtain ⟨rfl, rfl, hx, hZ, hown, hby, hml, hrt, hlk, hnm, hw⟩ := H
  intro T locs c1 s1 X F hc hs eT
  exact own_go (fun t q => XT.nonnullNo X.here hx rfl (hb hby hd) rfl hq q) (k T locs c1 s1 X F hc hs eT)
theorem own_ldcI (H : own_Ok B Z a0 l R y code N ret) {i w : Nat} {v : Int32} (q : tables_1[w]? = some (Jvm.Cond.constant y.cls i v)) (hd : decode code pc = .ok (.ldc i, 2)) (k : own_G B n0 Q kc ks cells slots h (pc + 2) Ls (.int v :: st)) : own_G B n0 Q kc ks cells slots h pc Ls st := by
  obtain ⟨p, l, e, R, s, m, args, below, meth, c⟩ := B
  obtain ⟨rfl, rfl, hx, hZ, hown, hby, hml, hrt, hlk, hnm, hw⟩ := H
  intro T locs c1 s1 X F hc hs eT
  exact own_go (fun t r => X.ldcInt hx hown (mvT hZ (hw _ _ q)) (g := mkF m pc Ls st) rfl (hb hby hd) _ r) (k T locs c1 s1 X F hc hs eT)
theorem own_ldcwI (H : own_Ok B Z a0 l R y code N ret) {i w : Nat} {v : Int32} (q : tables_1[w]? = some (Jvm.Cond.constant y.cls i v)) (hd : decode code pc = .ok (.ldc_w i, 3)) (k : own_G B n0 Q kc ks cells slots h (pc + 3) Ls (.int v :: st)) : own_G B n0 Q kc ks cells slots h pc Ls st := by
  obtain ⟨p, l, e, R, s, m, args, below, meth, c⟩ := B
  obtain ⟨rfl, rfl, hx, hZ, hown, hby, hml, hrt, hlk, hnm, hw⟩ := H
  intro T locs c1 s1 X F hc hs eT
  exact own_go (fun t r => X.ldcwInt hx hown (mvT hZ (hw _ _ q)) (g := mkF m pc Ls st) rfl (hb hby hd) _ r) (k T locs c1 s1 X F hc hs eT)
theorem own_ldc2J (H : own_Ok B Z a0 l R y code N ret) {i w : Nat} {v : Int64} (q : tables_1[w]? = some (Jvm.Cond.constantLong y.cls i v)) (hd : decode code pc = .ok (.ldc2_w i, 3)) (k : own_G B n0 Q kc ks cells slots h (pc + 3) Ls (.long v :: st)) : own_G B n0 Q kc ks cells slots h pc Ls st := by
  obtain ⟨p, l, e, R, s, m, args, below, meth, c⟩ := B
  obtain ⟨rfl, rfl, hx, hZ, hown, hby, hml, hrt, hlk, hnm, hw⟩ := H
  intro T locs c1 s1 X F hc hs eT
  exact own_go (fun t r => X.ldc2Long hx hown (mvT hZ (hw _ _ q)) (g := mkF m pc Ls st) rfl (hb hby hd) _ r) (k T locs c1 s1 X F hc hs eT)
theorem own_ireturn {t : FieldType} (H : own_Ok B Z a0 l R y code N (some t)) {z : Int32} (ht : t = .int ∨ t = .boolean ∨ t = .byte ∨ t = .char ∨ t = .short) (hn : narrow t (.int z) = .int z) (hd : decode code pc = .ok (.ireturn, 1)) (hkc : cells ≤ kc) (hks : slots ≤ ks) (hQ : Q (some (.int z)) h) : own_G B n0 Q kc ks cells slots h pc Ls (.int z :: st) := by
  obtain ⟨p, l, e, R, s, m, args, below, meth, c⟩ := B
  obtain ⟨rfl, rfl, hx, hZ, hown, hby, hml, hrt, hlk, hnm, hw⟩ := H
  intro T locs c1 s1 X F hc hs eT
  obtain ⟨fs, hr, hrun, hended, hW, hsame⟩ := X.leave (v := some (.int z)) (fun h => by rw [hrt] at h; cases h) hlk
  exact ⟨_, _, retOut X hx hrt hn (Or.inl ⟨rfl, ht, _, rfl⟩) (hb hby hd) hr, hrun, hended, _, _, rfl, ⟨by show Q _ T.heap; rw [eT]; exact hQ, F⟩, ⟨_, rfl⟩, hW, hsame.mono (Nat.le_trans hc hkc) (Nat.le_trans hs hks)⟩
theorem own_lreturn (H : own_Ok B Z a0 l R y code N (some .long)) {z : Int64} (hd : decode code pc = .ok (.lreturn, 1)) (hkc : cells ≤ kc) (hks : slots ≤ ks) (hQ : Q (some (.long z)) h) : own_G B n0 Q kc ks cells slots h pc Ls (.long z :: st) := by
  obtain ⟨p, l, e, R, s, m, args, below, meth, c⟩ := B
  obtain ⟨rfl, rfl, hx, hZ, hown, hby, hml, hrt, hlk, hnm, hw⟩ := H
  intro T locs c1 s1 X F hc hs eT
  obtain ⟨fs, hr, hrun, hended, hW, hsame⟩ := X.leave (v := some (.long z)) (fun h => by rw [hrt] at h; cases h) hlk
  exact ⟨_, _, retOut X hx hrt rfl (Or.inr (Or.inl ⟨rfl, rfl, _, rfl⟩)) (hb hby hd) hr, hrun, hended, _, _, rfl, ⟨by show Q _ T.heap; rw [eT]; exact hQ, F⟩, ⟨_, rfl⟩, hW, hsame.mono (Nat.le_trans hc hkc) (Nat.le_trans hs hks)⟩
theorem own_areturn {t : FieldType} (H : own_Ok B Z a0 l R y code N (some t)) (ht : t.isReference = true) {z : Value} (hz : z.isRef = true) (hn : narrow t z = z) (hd : decode code pc = .ok (.areturn, 1)) (hkc : cells ≤ kc) (hks : slots ≤ ks) (hQ : Q (some z) h) : own_G B n0 Q kc ks cells slots h pc Ls (z :: st) := by
  obtain ⟨p, l, e, R, s, m, args, below, meth, c⟩ := B
  obtain ⟨rfl, rfl, hx, hZ, hown, hby, hml, hrt, hlk, hnm, hw⟩ := H
  intro T locs c1 s1 X F hc hs eT
  obtain ⟨fs, hr, hrun, hended, hW, hsame⟩ := X.leave (v := some z) (fun h => by rw [hrt] at h; cases h) hlk
  exact ⟨_, _, retOut X hx hrt hn (Or.inr (Or.inr (Or.inr (Or.inr ⟨rfl, ht, hz⟩)))) (hb hby hd) hr, hrun, hended, _, _, rfl, ⟨by show Q _ T.heap; rw [eT]; exact hQ, F⟩, ⟨_, rfl⟩, hW, hsame.mono (Nat.le_trans hc hkc) (Nat.le_trans hs hks)⟩
theorem own_return (H : own_Ok B Z a0 l R y code N none) (hd : decode code pc = .ok (.return_, 1)) (hkc : cells ≤ kc) (hks : slots ≤ ks) (hQ : Q none h) : own_G B n0 Q kc ks cells slots h pc Ls [] := by
  obtain ⟨p, l, e, R, s, m, args, below, meth, c⟩ := B
  obtain ⟨rfl, rfl, hx, hZ, hown, hby, hml, hrt, hlk, hnm, hw⟩ := H
  intro T locs c1 s1 X F hc hs eT
  obtain ⟨fs, hr, hrun, hended, hW, hsame⟩ := X.leave (v := none) (fun h => rfl) hlk
  exact ⟨_, _, X.returnOut hx hrt (hb hby hd) hr, hrun, hended, _, _, rfl, ⟨by show Q _ T.heap; rw [eT]; exact hQ, F⟩, ⟨_, rfl⟩, hW, hsame.mono (Nat.le_trans hc hkc) (Nat.le_trans hs hks)⟩
theorem own_getfield (H : own_Ok B Z a0 l R y code N ret) {O n d : String} {i w : Nat} (q : tables_1[w]? = some (Jvm.Cond.fieldLink y.cls i O n d)) {a : Addr} {v : Value} (Fd : Fld Z h a O n d v) (hd : decode code pc = .ok (.getfield i, 3)) (k : own_G B n0 Q kc ks cells slots h (pc + 3) Ls (v :: st)) : own_G B n0 Q kc ks cells slots h pc Ls (.ref a :: st) := by
  obtain ⟨p, l, e, R, s, m, args, below, meth, c⟩ := B
  obtain ⟨rfl, rfl, hx, hZ, hown, hby, hml, hrt, hlk, hnm, hw⟩ := H
  intro T locs c1 s1 X F hc hs eT
  obtain ⟨T', X', e', s'⟩ := getF X hx hZ hown (host := "") (Or.inl (hw _ _ q)) Via.refl eT Fd (g := mkF m pc Ls (.ref a :: st)) rfl rfl (hb hby hd)
  exact own_go s' (k T' locs c1 s1 X' F hc hs e')
theorem own_getstatic (H : own_Ok B Z a0 l R y code N ret) {O n d : String} {i w : Nat} (q : tables_1[w]? = some (Jvm.Cond.fieldLink y.cls i O n d)) {v : Value} (Fd : Sta Z h O n d v) (hd : decode code pc = .ok (.getstatic i, 3)) (k : own_G B n0 Q kc ks cells slots h (pc + 3) Ls (v :: st)) : own_G B n0 Q kc ks cells slots h pc Ls st := by
  obtain ⟨p, l, e, R, s, m, args, below, meth, c⟩ := B
  obtain ⟨rfl, rfl, hx, hZ, hown, hby, hml, hrt, hlk, hnm, hw⟩ := H
  intro T locs c1 s1 X F hc hs eT
  obtain ⟨T', X', e', s'⟩ := getS X hx hZ hown (host := "") (hw _ _ q) Via.refl eT Fd (g := mkF m pc Ls st) rfl (hb hby hd)
  exact own_go s' (k T' locs c1 s1 X' F hc hs e')
theorem own_putfield (H : own_Ok B Z a0 l R y code N ret) {O n d C : String} {i w wi kk : Nat} {ty : FieldType} (q : tables_1[w]? = some (Jvm.Cond.fieldLink y.cls i O n d)) {a : Addr} {v old : Value} (Fd : Fld Z h a O n d old) (E : Exa Z h a C) (ha : n0 ≤ a)
    (Lw : (Jvm.Cond.lays C O n d).before a0 Z = true ∨ ((Jvm.Cond.laysFinal C O n d).before a0 Z = true ∧ y.cls = O ∧ y.name = "<init>")) (qi : tables_1[wi]? = some (Jvm.Cond.instantiable C kk)) (hty : parseFieldDescriptor d = some ty) (hn : narrow ty v = v) (hf : fits ty v = true)
    (hd : decode code pc = .ok (.putfield i, 3)) (k : ∀ h', Wr h h' a (Jvm.RoadKit.slotOf Z O n d) v → own_G B n0 Q kc ks cells slots h' (pc + 3) Ls st) : own_G B n0 Q kc ks cells slots h pc Ls (v :: .ref a :: st) := by
  obtain ⟨p, l, e, R, s, m, args, below, meth, c⟩ := B
  obtain ⟨rfl, rfl, hx, hZ, hown, hby, hml, hrt, hlk, hnm, hw⟩ := H
  intro T locs c1 s1 X F hc hs eT
  obtain ⟨T', h', X', e', W', s'⟩ := putF X hx hZ hown (host := "") (Or.inl (hw _ _ q)) Via.refl eT Fd E (Lw.imp id fun z => ⟨z.1, z.2.1, hnm.trans z.2.2⟩) (hw _ _ qi) hty hn hf (g := mkF m pc Ls (v :: .ref a :: st)) rfl rfl (hb hby hd)
  exact own_go s' (k h' W' T' _ c1 s1 X' (Fr.snoc X' F ha) hc hs e')
theorem own_new (H : own_Ok B Z a0 l R y code N ret) {C : String} {i n w wi wz : Nat} (q : tables_1[w]? = some (Jvm.Cond.classLink y.cls i C)) (qi : tables_1[wi]? = some (Jvm.Cond.instantiable C n)) (qz : tables_1[wz]? = some (Jvm.Cond.initialized C)) (hd : decode code pc = .ok (.new i, 3)) (hkc : cells + 1 ≤ R.cells) (hks : slots + n ≤ R.slots)
    (k : ∀ h' a, a = h.size → Ext h h' → Exa Z h' a C → (∀ {O nm d : String} {ty : FieldType}, Laid Z a0 C O nm d → parseFieldDescriptor d = some ty → Fld Z h' a O nm d (defaultValue ty)) → own_G B n0 Q kc ks (cells + 1) (slots + n) h' (pc + 3) Ls (.ref a :: st)) : own_G B n0 Q kc ks cells slots h pc Ls st := by
  obtain ⟨p, l, e, R, s, m, args, below, meth, c⟩ := B
  obtain ⟨rfl, rfl, hx, hZ, hown, hby, hml, hrt, hlk, hnm, hw⟩ := H
  intro T locs c1 s1 X F hc hs eT
  obtain ⟨T', h', X', e', E', A', D', -, s'⟩ := newO X hx hZ hown (hw _ _ q) (hw _ _ qi) (hw _ _ qz) eT (g := mkF m pc Ls st) rfl (hb hby hd) (Nat.le_trans (Nat.add_le_add_right hc 1) hkc) (Nat.le_trans (Nat.add_le_add_right hs n) hks)
  exact own_go s' (k h' h.size rfl E' A' D' T' locs _ _ X' F (Nat.add_le_add_right hc 1) (Nat.add_le_add_right hs n) e')
theorem own_newarray (H : own_Ok B Z a0 l R y code N ret) {aty : ArrayType} {w : Nat} (q : tables_1[w]? = some (Jvm.Cond.arrayClass (newarray.typeOf aty))) {n : Int32} (hn : ¬ n < 0) (cap : Nat) (hcap : n.toNatClampNeg ≤ cap) (hcb : cap * 8 ≤ 536870912) (hd : decode code pc = .ok (.newarray aty, 2)) (hkc : cells + 1 ≤ R.cells) (hks : slots + cap ≤ R.slots)
    (k : ∀ h' a kA, a = h.size → Ext h h' → Arv Z h' a kA (newarray.typeOf aty) n [] (defaultValue (newarray.typeOf aty)) → own_G B n0 Q kc ks (cells + 1) (slots + cap) h' (pc + 2) Ls (.ref a :: st)) : own_G B n0 Q kc ks cells slots h pc Ls (.int n :: st) := by
  obtain ⟨p, l, e, R, s, m, args, below, meth, c⟩ := B
  obtain ⟨rfl, rfl, hx, hZ, hown, hby, hml, hrt, hlk, hnm, hw⟩ := H
  intro T locs c1 s1 X F hc hs eT
  obtain ⟨T', h', kA, X', e', E', A', s'⟩ := newP X hx hZ (hw _ _ q) eT (g := mkF m pc Ls (.int n :: st)) rfl (hb hby hd) rfl hn hcap hcb (Nat.le_trans (Nat.add_le_add_right hc 1) hkc) (Nat.le_trans (Nat.add_le_add_right hs cap) hks)
  exact own_go s' (k h' h.size kA rfl E' (Arv.new A' hn) T' locs _ _ X' F (Nat.add_le_add_right hc 1) (Nat.add_le_add_right hs cap) e')
theorem own_anewarray (H : own_Ok B Z a0 l R y code N ret) {C : String} {i w w2 : Nat} (q : tables_1[w]? = some (Jvm.Cond.classLink y.cls i C)) (q2 : tables_1[w2]? = some (Jvm.Cond.arrayOver (.object C))) {n : Int32} (hn : ¬ n < 0) (cap : Nat) (hcap : n.toNatClampNeg ≤ cap) (hcb : cap * 8 ≤ 536870912) (hd : decode code pc = .ok (.anewarray i, 3)) (hkc : cells + 1 ≤ R.cells) (hks : slots + cap ≤ R.slots)
    (k : ∀ h' a kA, a = h.size → Ext h h' → Arv Z h' a kA (.object C) n [] .null → Ovr Z kA C → own_G B n0 Q kc ks (cells + 1) (slots + cap) h' (pc + 3) Ls (.ref a :: st)) : own_G B n0 Q kc ks cells slots h pc Ls (.int n :: st) := by
  obtain ⟨p, l, e, R, s, m, args, below, meth, c⟩ := B
  obtain ⟨rfl, rfl, hx, hZ, hown, hby, hml, hrt, hlk, hnm, hw⟩ := H
  intro T locs c1 s1 X F hc hs eT
  obtain ⟨T', h', kA, X', e', E', A', O', s'⟩ := newR X hx hZ hown (hw _ _ q) (hw _ _ q2) eT (g := mkF m pc Ls (.int n :: st)) rfl (hb hby hd) rfl hn hcap hcb (Nat.le_trans (Nat.add_le_add_right hc 1) hkc) (Nat.le_trans (Nat.add_le_add_right hs cap) hks)
  exact own_go s' (k h' h.size kA rfl E' (Arv.new A' hn) O' T' locs _ _ X' F (Nat.add_le_add_right hc 1) (Nat.add_le_add_right hs cap) e')
theorem own_iaload (H : own_Ok B Z a0 l R y code N ret) {a : Addr} {cl : Cell} {j : Int32} {v : Value} (A : Arr Z h a cl .int) (hin : ¬ (j < 0 ∨ cl.slots.size ≤ j.toNatClampNeg)) (hv : cl.slots[j.toNatClampNeg]? = some v) (hd : decode code pc = .ok (.iaload, 1)) (k : own_G B n0 Q kc ks cells slots h (pc + 1) Ls (v :: st)) : own_G B n0 Q kc ks cells slots h pc Ls (.int j :: .ref a :: st) := by
  obtain ⟨p, l, e, R, s, m, args, below, meth, c⟩ := B
  obtain ⟨rfl, rfl, hx, hZ, hown, hby, hml, hrt, hlk, hnm, hw⟩ := H
  intro T locs c1 s1 X F hc hs eT
  exact own_go (fun t r => X.iaload hx (j := j) (v := v) (by rw [eT]; exact A.1) (State.isArrayOf_alike hZ.alike A.2.1) A.2.2 hin hv (g := mkF m pc Ls (.int j :: .ref a :: st)) rfl rfl (hb hby hd) _ r) (k T locs c1 s1 X F hc hs eT)
theorem own_laload (H : own_Ok B Z a0 l R y code N ret) {a : Addr} {cl : Cell} {j : Int32} {v : Value} (A : Arr Z h a cl .long) (hin : ¬ (j < 0 ∨ cl.slots.size ≤ j.toNatClampNeg)) (hv : cl.slots[j.toNatClampNeg]? = some v) (hd : decode code pc = .ok (.laload, 1)) (k : own_G B n0 Q kc ks cells slots h (pc + 1) Ls (v :: st)) : own_G B n0 Q kc ks cells slots h pc Ls (.int j :: .ref a :: st) := by
  obtain ⟨p, l, e, R, s, m, args, below, meth, c⟩ := B
  obtain ⟨rfl, rfl, hx, hZ, hown, hby, hml, hrt, hlk, hnm, hw⟩ := H
  intro T locs c1 s1 X F hc hs eT
  exact own_go (fun t r => X.laload hx (j := j) (v := v) (by rw [eT]; exact A.1) (State.isArrayOf_alike hZ.alike A.2.1) A.2.2 hin hv (g := mkF m pc Ls (.int j :: .ref a :: st)) rfl rfl (hb hby hd) _ r) (k T locs c1 s1 X F hc hs eT)
theorem own_caload (H : own_Ok B Z a0 l R y code N ret) {a : Addr} {cl : Cell} {j : Int32} {v : Value} (A : Arr Z h a cl .char) (hin : ¬ (j < 0 ∨ cl.slots.size ≤ j.toNatClampNeg)) (hv : cl.slots[j.toNatClampNeg]? = some v) (hd : decode code pc = .ok (.caload, 1)) (k : own_G B n0 Q kc ks cells slots h (pc + 1) Ls (v :: st)) : own_G B n0 Q kc ks cells slots h pc Ls (.int j :: .ref a :: st) := by
  obtain ⟨p, l, e, R, s, m, args, below, meth, c⟩ := B
  obtain ⟨rfl, rfl, hx, hZ, hown, hby, hml, hrt, hlk, hnm, hw⟩ := H
  intro T locs c1 s1 X F hc hs eT
  exact own_go (fun t r => X.caload hx (j := j) (v := v) (by rw [eT]; exact A.1) (State.isArrayOf_alike hZ.alike A.2.1) A.2.2 hin hv (g := mkF m pc Ls (.int j :: .ref a :: st)) rfl rfl (hb hby hd) _ r) (k T locs c1 s1 X F hc hs eT)
theorem own_baload (H : own_Ok B Z a0 l R y code N ret) {a : Addr} {cl : Cell} {j : Int32} {v : Value} (A : Arr Z h a cl .byte) (hin : ¬ (j < 0 ∨ cl.slots.size ≤ j.toNatClampNeg)) (hv : cl.slots[j.toNatClampNeg]? = some v) (hd : decode code pc = .ok (.baload, 1)) (k : own_G B n0 Q kc ks cells slots h (pc + 1) Ls (v :: st)) : own_G B n0 Q kc ks cells slots h pc Ls (.int j :: .ref a :: st) := by
  obtain ⟨p, l, e, R, s, m, args, below, meth, c⟩ := B
  obtain ⟨rfl, rfl, hx, hZ, hown, hby, hml, hrt, hlk, hnm, hw⟩ := H
  intro T locs c1 s1 X F hc hs eT
  exact own_go (fun t r => X.baloadBytes hx (j := j) (v := v) (by rw [eT]; exact A.1) (State.isArrayOf_alike hZ.alike A.2.1) A.2.2 hin hv (g := mkF m pc Ls (.int j :: .ref a :: st)) rfl rfl (hb hby hd) _ r) (k T locs c1 s1 X F hc hs eT)
theorem own_aaload (H : own_Ok B Z a0 l R y code N ret) {a : Addr} {cl : Cell} {ty : FieldType} {j : Int32} {v : Value} (A : Arr Z h a cl ty) (hty : ty.isReference = true) (hin : ¬ (j < 0 ∨ cl.slots.size ≤ j.toNatClampNeg)) (hv : cl.slots[j.toNatClampNeg]? = some v) (hd : decode code pc = .ok (.aaload, 1)) (k : own_G B n0 Q kc ks cells slots h (pc + 1) Ls (v :: st)) : own_G B n0 Q kc ks cells slots h pc Ls (.int j :: .ref a :: st) := by
  obtain ⟨p, l, e, R, s, m, args, below, meth, c⟩ := B
  obtain ⟨rfl, rfl, hx, hZ, hown, hby, hml, hrt, hlk, hnm, hw⟩ := H
  intro T locs c1 s1 X F hc hs eT
  exact own_go (fun t r => X.aaload hx (j := j) (v := v) (by rw [eT]; exact A.1) (State.isArrayOf_alike hZ.alike A.2.1) hty A.2.2 hin hv (g := mkF m pc Ls (.int j :: .ref a :: st)) rfl rfl (hb hby hd) _ r) (k T locs c1 s1 X F hc hs eT)
theorem own_arraylength (H : own_Ok B Z a0 l R y code N ret) {a : Addr} {cl : Cell} {ty : FieldType} {z : Int32} (A : Arr Z h a cl ty) (S : cl.slots.size = z.toNatClampNeg) (hz : ¬ z < 0) (hd : decode code pc = .ok (.arraylength, 1)) (k : own_G B n0 Q kc ks cells slots h (pc + 1) Ls (.int z :: st)) : own_G B n0 Q kc ks cells slots h pc Ls (.ref a :: st) := by
  obtain ⟨p, l, e, R, s, m, args, below, meth, c⟩ := B
  obtain ⟨rfl, rfl, hx, hZ, hown, hby, hml, hrt, hlk, hnm, hw⟩ := H
  intro T locs c1 s1 X F hc hs eT
  refine own_go (fun t r => X.arraylength hx (by rw [eT]; exact A.1) (State.isArrayOf_alike hZ.alike A.2.1) (g := mkF m pc Ls (.ref a :: st)) rfl rfl (hb hby hd) _ r) ?_
  rw [len_of S hz]
  exact k T locs c1 s1 X F hc hs eT
theorem own_iastore (H : own_Ok B Z a0 l R y code N ret) {a : Addr} {cl : Cell} {j : Int32} {x : Int32} (A : Arr Z h a cl .int) (hin : ¬ (j < 0 ∨ cl.slots.size ≤ j.toNatClampNeg)) (ha : n0 ≤ a) (hd : decode code pc = .ok (.iastore, 1)) (k : ∀ h', Wr h h' a j.toNatClampNeg (.int x) → own_G B n0 Q kc ks cells slots h' (pc + 1) Ls st) : own_G B n0 Q kc ks cells slots h pc Ls (.int x :: .int j :: .ref a :: st) := by
  obtain ⟨p, l, e, R, s, m, args, below, meth, c⟩ := B
  obtain ⟨rfl, rfl, hx, hZ, hown, hby, hml, hrt, hlk, hnm, hw⟩ := H
  intro T locs c1 s1 X F hc hs eT
  obtain ⟨T', h', X', e', W', s'⟩ := stI X hx hZ eT A hin (g := mkF m pc Ls (.int x :: .int j :: .ref a :: st)) rfl rfl (hb hby hd)
  exact own_go s' (k h' W' T' _ c1 s1 X' (Fr.snoc X' F ha) hc hs e')
theorem own_lastore (H : own_Ok B Z a0 l R y code N ret) {a : Addr} {cl : Cell} {j : Int32} {x : Int64} (A : Arr Z h a cl .long) (hin : ¬ (j < 0 ∨ cl.slots.size ≤ j.toNatClampNeg)) (ha : n0 ≤ a) (hd : decode code pc = .ok (.lastore, 1)) (k : ∀ h', Wr h h' a j.toNatClampNeg (.long x) → own_G B n0 Q kc ks cells slots h' (pc + 1) Ls st) : own_G B n0 Q kc ks cells slots h pc Ls (.long x :: .int j :: .ref a :: st) := by
  obtain ⟨p, l, e, R, s, m, args, below, meth, c⟩ := B
  obtain ⟨rfl, rfl, hx, hZ, hown, hby, hml, hrt, hlk, hnm, hw⟩ := H
  intro T locs c1 s1 X F hc hs eT
  obtain ⟨T', h', X', e', W', s'⟩ := stJ X hx hZ eT A hin (g := mkF m pc Ls (.long x :: .int j :: .ref a :: st)) rfl rfl (hb hby hd)
  exact own_go s' (k h' W' T' _ c1 s1 X' (Fr.snoc X' F ha) hc hs e')
theorem own_bastore (H : own_Ok B Z a0 l R y code N ret) {a : Addr} {cl : Cell} {j : Int32} {x : Int32} (A : Arr Z h a cl .byte) (hin : ¬ (j < 0 ∨ cl.slots.size ≤ j.toNatClampNeg)) (ha : n0 ≤ a) (hd : decode code pc = .ok (.bastore, 1)) (k : ∀ h', Wr h h' a j.toNatClampNeg (.int (nar .byte x)) → own_G B n0 Q kc ks cells slots h' (pc + 1) Ls st) : own_G B n0 Q kc ks cells slots h pc Ls (.int x :: .int j :: .ref a :: st) := by
  obtain ⟨p, l, e, R, s, m, args, below, meth, c⟩ := B
  obtain ⟨rfl, rfl, hx, hZ, hown, hby, hml, hrt, hlk, hnm, hw⟩ := H
  intro T locs c1 s1 X F hc hs eT
  obtain ⟨T', h', X', e', W', s'⟩ := stB X hx hZ eT A hin (g := mkF m pc Ls (.int x :: .int j :: .ref a :: st)) rfl rfl (hb hby hd)
  exact own_go s' (k h' W' T' _ c1 s1 X' (Fr.snoc X' F ha) hc hs e')
theorem own_castore (H : own_Ok B Z a0 l R y code N ret) {a : Addr} {cl : Cell} {j : Int32} {x : Int32} (A : Arr Z h a cl .char) (hin : ¬ (j < 0 ∨ cl.slots.size ≤ j.toNatClampNeg)) (ha : n0 ≤ a) (hd : decode code pc = .ok (.castore, 1)) (k : ∀ h', Wr h h' a j.toNatClampNeg (.int (nar .char x)) → own_G B n0 Q kc ks cells slots h' (pc + 1) Ls st) : own_G B n0 Q kc ks cells slots h pc Ls (.int x :: .int j :: .ref a :: st) := by
  obtain ⟨p, l, e, R, s, m, args, below, meth, c⟩ := B
  obtain ⟨rfl, rfl, hx, hZ, hown, hby, hml, hrt, hlk, hnm, hw⟩ := H
  intro T locs c1 s1 X F hc hs eT
  obtain ⟨T', h', X', e', W', s'⟩ := stC X hx hZ eT A hin (g := mkF m pc Ls (.int x :: .int j :: .ref a :: st)) rfl rfl (hb hby hd)
  exact own_go s' (k h' W' T' _ c1 s1 X' (Fr.snoc X' F ha) hc hs e')
theorem own_ialoadV (H : own_Ok B Z a0 l R y code N ret) {a : Addr} {kA : ClassId} {n j : Int32} {vs : List Value} {dv v : Value} (V : Arv Z h a kA .int n vs dv) (h1 : ¬ j < 0) (h2 : j < n) (hv : vs.getD j.toNatClampNeg dv = v) (hd : decode code pc = .ok (.iaload, 1)) (k : own_G B n0 Q kc ks cells slots h (pc + 1) Ls (v :: st)) : own_G B n0 Q kc ks cells slots h pc Ls (.int j :: .ref a :: st) := by
  obtain ⟨cl, A, -, S, M, Hs, -⟩ := V
  exact own_iaload H A (inb_of S ⟨h1, h2⟩) (Hs.at (inb_of S ⟨h1, h2⟩) hv) hd k
theorem own_laloadV (H : own_Ok B Z a0 l R y code N ret) {a : Addr} {kA : ClassId} {n j : Int32} {vs : List Value} {dv v : Value} (V : Arv Z h a kA .long n vs dv) (h1 : ¬ j < 0) (h2 : j < n) (hv : vs.getD j.toNatClampNeg dv = v) (hd : decode code pc = .ok (.laload, 1)) (k : own_G B n0 Q kc ks cells slots h (pc + 1) Ls (v :: st)) : own_G B n0 Q kc ks cells slots h pc Ls (.int j :: .ref a :: st) := by
  obtain ⟨cl, A, -, S, M, Hs, -⟩ := V
  exact own_laload H A (inb_of S ⟨h1, h2⟩) (Hs.at (inb_of S ⟨h1, h2⟩) hv) hd k
theorem own_caloadV (H : own_Ok B Z a0 l R y code N ret) {a : Addr} {kA : ClassId} {n j : Int32} {vs : List Value} {dv v : Value} (V : Arv Z h a kA .char n vs dv) (h1 : ¬ j < 0) (h2 : j < n) (hv : vs.getD j.toNatClampNeg dv = v) (hd : decode code pc = .ok (.caload, 1)) (k : own_G B n0 Q kc ks cells slots h (pc + 1) Ls (v :: st)) : own_G B n0 Q kc ks cells slots h pc Ls (.int j :: .ref a :: st) := by
  obtain ⟨cl, A, -, S, M, Hs, -⟩ := V
  exact own_caload H A (inb_of S ⟨h1, h2⟩) (Hs.at (inb_of S ⟨h1, h2⟩) hv) hd k
theorem own_baloadV (H : own_Ok B Z a0 l R y code N ret) {a : Addr} {kA : ClassId} {n j : Int32} {vs : List Value} {dv v : Value} (V : Arv Z h a kA .byte n vs dv) (h1 : ¬ j < 0) (h2 : j < n) (hv : vs.getD j.toNatClampNeg dv = v) (hd : decode code pc = .ok (.baload, 1)) (k : own_G B n0 Q kc ks cells slots h (pc + 1) Ls (v :: st)) : own_G B n0 Q kc ks cells slots h pc Ls (.int j :: .ref a :: st) := by
  obtain ⟨cl, A, -, S, M, Hs, -⟩ := V
  exact own_baload H A (inb_of S ⟨h1, h2⟩) (Hs.at (inb_of S ⟨h1, h2⟩) hv) hd k
theorem own_aaloadV (H : own_Ok B Z a0 l R y code N ret) {a : Addr} {kA : ClassId} {ty : FieldType} {n j : Int32} {vs : List Value} {dv v : Value} (V : Arv Z h a kA ty n vs dv) (hty : ty.isReference = true) (h1 : ¬ j < 0) (h2 : j < n) (hv : vs.getD j.toNatClampNeg dv = v) (hd : decode code pc = .ok (.aaload, 1)) (k : own_G B n0 Q kc ks cells slots h (pc + 1) Ls (v :: st)) : own_G B n0 Q kc ks cells slots h pc Ls (.int j :: .ref a :: st) := by
  obtain ⟨cl, A, -, S, M, Hs, -⟩ := V
  exact own_aaload H A hty (inb_of S ⟨h1, h2⟩) (Hs.at (inb_of S ⟨h1, h2⟩) hv) hd k
theorem own_arraylengthV (H : own_Ok B Z a0 l R y code N ret) {a : Addr} {kA : ClassId} {ty : FieldType} {n : Int32} {vs : List Value} {dv : Value} (V : Arv Z h a kA ty n vs dv) (hd : decode code pc = .ok (.arraylength, 1)) (k : own_G B n0 Q kc ks cells slots h (pc + 1) Ls (.int n :: st)) : own_G B n0 Q kc ks cells slots h pc Ls (.ref a :: st) := by
  obtain ⟨cl, A, -, S, M, -, -⟩ := V
  exact own_arraylength H A S M hd k
theorem own_iastoreV (H : own_Ok B Z a0 l R y code N ret) {a : Addr} {kA : ClassId} {n j : Int32} {vs : List Value} {dv u : Value} {x : Int32} (V : Arv Z h a kA .int n vs dv) (h1 : ¬ j < 0) (h2 : j < n) (i : Nat) (hj : j.toNatClampNeg = i) (hi : i < vs.length) (ha : n0 ≤ a) (hu : (.int x) = u) (hd : decode code pc = .ok (.iastore, 1)) (k : ∀ h', Wr h h' a j.toNatClampNeg u → Arv Z h' a kA .int n (vs.set i u) dv → own_G B n0 Q kc ks cells slots h' (pc + 1) Ls st) : own_G B n0 Q kc ks cells slots h pc Ls (.int x :: .int j :: .ref a :: st) := by
  subst hu
  obtain ⟨cl, A, q1, S, M, Hs, Fs⟩ := V
  exact own_iastore H A (inb_of S ⟨h1, h2⟩) ha hd fun h' W => k h' W (Arv.set A q1 S M Hs Fs rfl W i hj hi)
theorem own_lastoreV (H : own_Ok B Z a0 l R y code N ret) {a : Addr} {kA : ClassId} {n j : Int32} {vs : List Value} {dv u : Value} {x : Int64} (V : Arv Z h a kA .long n vs dv) (h1 : ¬ j < 0) (h2 : j < n) (i : Nat) (hj : j.toNatClampNeg = i) (hi : i < vs.length) (ha : n0 ≤ a) (hu : (.long x) = u) (hd : decode code pc = .ok (.lastore, 1)) (k : ∀ h', Wr h h' a j.toNatClampNeg u → Arv Z h' a kA .long n (vs.set i u) dv → own_G B n0 Q kc ks cells slots h' (pc + 1) Ls st) : own_G B n0 Q kc ks cells slots h pc Ls (.long x :: .int j :: .ref a :: st) := by
  subst hu
  obtain ⟨cl, A, q1, S, M, Hs, Fs⟩ := V
  exact own_lastore H A (inb_of S ⟨h1, h2⟩) ha hd fun h' W => k h' W (Arv.set A q1 S M Hs Fs rfl W i hj hi)
theorem own_bastoreV (H : own_Ok B Z a0 l R y code N ret) {a : Addr} {kA : ClassId} {n j : Int32} {vs : List Value} {dv u : Value} {x : Int32} (V : Arv Z h a kA .byte n vs dv) (h1 : ¬ j < 0) (h2 : j < n) (i : Nat) (hj : j.toNatClampNeg = i) (hi : i < vs.length) (ha : n0 ≤ a) (hu : (.int (nar .byte x)) = u) (hd : decode code pc = .ok (.bastore, 1)) (k : ∀ h', Wr h h' a j.toNatClampNeg u → Arv Z h' a kA .byte n (vs.set i u) dv → own_G B n0 Q kc ks cells slots h' (pc + 1) Ls st) : own_G B n0 Q kc ks cells slots h pc Ls (.int x :: .int j :: .ref a :: st) := by
  subst hu
  obtain ⟨cl, A, q1, S, M, Hs, Fs⟩ := V
  exact own_bastore H A (inb_of S ⟨h1, h2⟩) ha hd fun h' W => k h' W (Arv.set A q1 S M Hs Fs (fits_nar_byte x) W i hj hi)
theorem own_castoreV (H : own_Ok B Z a0 l R y code N ret) {a : Addr} {kA : ClassId} {n j : Int32} {vs : List Value} {dv u : Value} {x : Int32} (V : Arv Z h a kA .char n vs dv) (h1 : ¬ j < 0) (h2 : j < n) (i : Nat) (hj : j.toNatClampNeg = i) (hi : i < vs.length) (ha : n0 ≤ a) (hu : (.int (nar .char x)) = u) (hd : decode code pc = .ok (.castore, 1)) (k : ∀ h', Wr h h' a j.toNatClampNeg u → Arv Z h' a kA .char n (vs.set i u) dv → own_G B n0 Q kc ks cells slots h' (pc + 1) Ls st) : own_G B n0 Q kc ks cells slots h pc Ls (.int x :: .int j :: .ref a :: st) := by
  subst hu
  obtain ⟨cl, A, q1, S, M, Hs, Fs⟩ := V
  exact own_castore H A (inb_of S ⟨h1, h2⟩) ha hd fun h' W => k h' W (Arv.set A q1 S M Hs Fs (fits_nar_char x) W i hj hi)
theorem own_initObject (H : own_Ok B Z a0 l R y code N ret) {i w1 w2 w3 : Nat} (q1 : tables_1[w1]? = some (Jvm.Cond.methodLink y.cls i Lib.objectInit)) (q2 : tables_1[w2]? = some (Jvm.Cond.instanceMethod Lib.objectInit)) (q3 : tables_1[w3]? = some (Jvm.Cond.code Lib.objectInit ⟨#[0xb1]⟩ 1 none)) {a : Addr} (W : Nat) (hsz : Ls.size = N) (hf : 1 ≤ R.frames) (hW : (st.map fun v => v.category).sum ≤ W) (hl : W + 12 ≤ R.locals)
    (hd : decode code pc = .ok (.invokespecial i, 3)) (k : own_G B n0 Q kc ks cells slots h (pc + 3) Ls st) : own_G B n0 Q kc ks cells slots h pc Ls (.ref a :: st) := by
  obtain ⟨p, l, e, R, s, m, args, below, meth, c⟩ := B
  obtain ⟨rfl, rfl, hx, hZ, hown, hby, hml, hrt, hlk, hnm, hw⟩ := H
  intro T locs c1 s1 X F hc hs eT
  obtain ⟨T', X', e', s'⟩ := initO X hx hZ hown (hw _ _ q1) (hw _ _ q2) (hw _ _ q3) eT (g := mkF m pc Ls (.ref a :: st)) rfl (hsz.trans hml.symm) rfl (hb hby hd) hf (W := W) (by show 2 * 0 + _ ≤ _; omega) hl
  exact own_go s' (k T' locs c1 s1 X' F hc hs e')
theorem own_invokestatic (H : own_Ok B Z a0 l R y code N ret) {i w1 w2 w3 w4 : Nat} {yc : MethodName} {bytes : ByteArray} {maxL : Nat} {rc : Option FieldType} {rm : Room} {Qc : Option Value → Heap → Prop} {argsL rest : List Value} (hM : own_C l Z yc bytes maxL rc rm argsL.toArray h n0 Qc)
    (q1 : tables_1[w1]? = some (Jvm.Cond.methodLink y.cls i yc)) (q2 : tables_1[w2]? = some (Jvm.Cond.static yc)) (qz : tables_1[w3]? = some (Jvm.Cond.initialized yc.cls)) (qc : tables_1[w4]? = some (Jvm.Cond.code yc bytes maxL rc)) {ps : List FieldType} {r : Option FieldType} (hpd : parseMethodDescriptor yc.desc = some ⟨ps, r⟩) (hln : argsL.length = ps.length) (W : Nat) (hne : yc.cls ≠ "java/lang/invoke/MethodHandle" ∧ yc.cls ≠ "java/lang/invoke/VarHandle")
    (hsz : Ls.size = N) (hfr : rm.frames + 1 ≤ R.frames) (hW : (rest.map fun v => v.category).sum ≤ W) (hlo : W + (maxL + 11) + rm.locals ≤ R.locals) (hkc : cells + rm.cells ≤ R.cells) (hks : slots + rm.slots ≤ R.slots) (hst : st = argsL.reverse ++ rest) (hd : decode code pc = .ok (.invokestatic i, 3))
    (k : ∀ v h', Qc v h' → own_G B n0 Q kc ks (cells + rm.cells) (slots + rm.slots) h' (pc + 3) Ls (v.toList ++ rest)) : own_G B n0 Q kc ks cells slots h pc Ls st := by
  obtain ⟨p, l, e, R, s, m, args, below, meth, c⟩ := B
  obtain ⟨rfl, rfl, hx, hZ, hown, hby, hml, hrt, hlk, hnm, hw⟩ := H
  intro T locs c1 s1 X F hc hs eT
  subst hst
  obtain ⟨v', _, ⟨T', L', k', n'⟩, -, X', ⟨Lc', hQ', l', y', z'⟩, s'⟩ := Jvm.LawKit.callS X hx (y := yc) hown (mvT hZ (hw _ _ q1)) (mvT hZ (hw _ _ q2)) (mvT hZ (hw _ _ qz)) (mvT hZ (hw _ _ qc)) hne (backOf (W := W) (bytes := bytes) (rm := rm) (Q := fun v hh L => Qc v hh ∧ Fr n0 L) (h := h) hM hZ (hw _ _ qc) (hw _ _ qz) hfr hlo) (g := mkF m pc Ls (argsL.reverse ++ rest)) rfl (hsz.trans hml.symm) (argsL := argsL) (rest := rest) (lenOf hpd hln) rfl (by show 2 * 0 + _ ≤ _; omega) (hb hby hd) (fun _ _ => ⟨rfl, eT, Nat.le_trans (Nat.add_le_add_right hc _) hkc, Nat.le_trans (Nat.add_le_add_right hs _) hks⟩)
  dsimp only [Pt.U, Pt.locs, Pt.cells, Pt.slots] at X' l' y' z' s' hQ'
  subst l' y' z'
  exact own_go s' (k v' _ hQ'.1 T' _ _ _ X' (F.app hQ'.2) (Nat.add_le_add_right hc _) (Nat.add_le_add_right hs _) rfl)
theorem own_invokespecial (H : own_Ok B Z a0 l R y code N ret) {i w1 w2 w3 w4 : Nat} {yc : MethodName} {bytes : ByteArray} {maxL : Nat} {rm : Room} {Qc : Option Value → Heap → Prop} {a : Addr} {argsL rest : List Value} (hM : own_C l Z yc bytes maxL none rm (.ref a :: argsL).toArray h n0 Qc) (hin : yc.name = "<init>")
    (q1 : tables_1[w1]? = some (Jvm.Cond.methodLink y.cls i yc)) (q2 : tables_1[w2]? = some (Jvm.Cond.instanceMethod yc)) (qz : tables_1[w3]? = some (Jvm.Cond.initialized yc.cls)) (qc : tables_1[w4]? = some (Jvm.Cond.code yc bytes maxL none)) {ps : List FieldType} {r : Option FieldType} (hpd : parseMethodDescriptor yc.desc = some ⟨ps, r⟩) (hln : argsL.length = ps.length) (W : Nat) (hne : yc.cls ≠ "java/lang/invoke/MethodHandle" ∧ yc.cls ≠ "java/lang/invoke/VarHandle")
    (hsz : Ls.size = N) (hfr : rm.frames + 1 ≤ R.frames) (hW : (rest.map fun v => v.category).sum ≤ W) (hlo : W + (maxL + 11) + rm.locals ≤ R.locals) (hkc : cells + rm.cells ≤ R.cells) (hks : slots + rm.slots ≤ R.slots) (hst : st = argsL.reverse ++ .ref a :: rest) (hd : decode code pc = .ok (.invokespecial i, 3))
    (k : ∀ v h', Qc v h' → own_G B n0 Q kc ks (cells + rm.cells) (slots + rm.slots) h' (pc + 3) Ls (v.toList ++ rest)) : own_G B n0 Q kc ks cells slots h pc Ls st := by
  obtain ⟨p, l, e, R, s, m, args, below, meth, c⟩ := B
  obtain ⟨rfl, rfl, hx, hZ, hown, hby, hml, hrt, hlk, hnm, hw⟩ := H
  intro T locs c1 s1 X F hc hs eT
  subst hst
  obtain ⟨v', _, ⟨T', L', k', n'⟩, -, X', ⟨Lc', hQ', l', y', z'⟩, s'⟩ := X.specialBack hx (y := yc) hin hown (mvT hZ (hw _ _ q1)) (mvT hZ (hw _ _ q2)) (mvT hZ (hw _ _ qc)) hne (backOf (W := W) (bytes := bytes) (rm := rm) (Q := fun v hh L => Qc v hh ∧ Fr n0 L) (h := h) hM hZ (hw _ _ qc) (hw _ _ qz) hfr hlo) (g := mkF m pc Ls (argsL.reverse ++ .ref a :: rest)) rfl (hsz.trans hml.symm) (Steps.refl _) (a := a) (argsL := argsL) (rest := rest) (lenOf hpd hln) rfl (by show 2 * 0 + _ ≤ _; omega) (hb hby hd) (fun _ _ => ⟨rfl, eT, Nat.le_trans (Nat.add_le_add_right hc _) hkc, Nat.le_trans (Nat.add_le_add_right hs _) hks⟩)
  dsimp only [Pt.U, Pt.locs, Pt.cells, Pt.slots] at X' l' y' z' s' hQ'
  subst l' y' z'
  exact own_go (fun t q => s'.trans q) (k v' _ hQ'.1 T' _ _ _ X' (F.app hQ'.2) (Nat.add_le_add_right hc _) (Nat.add_le_add_right hs _) rfl)
theorem own_invokevirtual (H : own_Ok B Z a0 l R y code N ret) {i w0 w1 w2 w3 w4 w5 : Nat} {C : String} {yc : MethodName} {bytes : ByteArray} {maxL : Nat} {rc : Option FieldType} {rm : Room} {Qc : Option Value → Heap → Prop} {a : Addr} {argsL rest : List Value} (hM : own_C l Z yc bytes maxL rc rm (.ref a :: argsL).toArray h n0 Qc) (E : Exa Z h a C)
    (q1 : tables_1[w1]? = some (Jvm.Cond.methodLink y.cls i yc)) (q0 : tables_1[w0]? = some (Jvm.Cond.declares yc)) (q5 : tables_1[w5]? = some (Jvm.Cond.selects C yc yc)) (q2 : tables_1[w2]? = some (Jvm.Cond.instanceMethod yc)) (qz : tables_1[w3]? = some (Jvm.Cond.initialized yc.cls)) (qc : tables_1[w4]? = some (Jvm.Cond.code yc bytes maxL rc)) {ps : List FieldType} {r : Option FieldType} (hpd : parseMethodDescriptor yc.desc = some ⟨ps, r⟩) (hln : argsL.length = ps.length) (W : Nat) (hne : yc.cls ≠ "java/lang/invoke/MethodHandle" ∧ yc.cls ≠ "java/lang/invoke/VarHandle")
    (hsz : Ls.size = N) (hfr : rm.frames + 1 ≤ R.frames) (hW : (rest.map fun v => v.category).sum ≤ W) (hlo : W + (maxL + 11) + rm.locals ≤ R.locals) (hkc : cells + rm.cells ≤ R.cells) (hks : slots + rm.slots ≤ R.slots) (hst : st = argsL.reverse ++ .ref a :: rest) (hd : decode code pc = .ok (.invokevirtual i, 3))
    (k : ∀ v h', Qc v h' → own_G B n0 Q kc ks (cells + rm.cells) (slots + rm.slots) h' (pc + 3) Ls (v.toList ++ rest)) : own_G B n0 Q kc ks cells slots h pc Ls st := by
  obtain ⟨p, l, e, R, s, m, args, below, meth, c⟩ := B
  obtain ⟨rfl, rfl, hx, hZ, hown, hby, hml, hrt, hlk, hnm, hw⟩ := H
  intro T locs c1 s1 X F hc hs eT
  subst hst
  obtain ⟨cq, kq, qa, -, qb⟩ := isOf hZ eT E
  obtain ⟨v', _, ⟨T', L', k', n'⟩, -, X', ⟨Lc', hQ', l', y', z'⟩, s'⟩ := X.virtualBack hx (y := yc) (z := yc) hown (mvT hZ (hw _ _ q1)) (mvT hZ (hw _ _ q0)) (notFace_of_selects (args := #[]) (mvT hZ (hw _ _ q5))) (mvT hZ (hw _ _ q5)) (mvT hZ (hw _ _ q2)) hne (backOf (W := W) (bytes := bytes) (rm := rm) (Q := fun v hh L => Qc v hh ∧ Fr n0 L) (h := h) hM hZ (hw _ _ qc) (hw _ _ qz) hfr hlo) qa qb (g := mkF m pc Ls (argsL.reverse ++ .ref a :: rest)) rfl (hsz.trans hml.symm) (Steps.refl _) (argsL := argsL) (rest := rest) (lenOf hpd hln) rfl (by show 2 * 0 + _ ≤ _; omega) (hb hby hd) (fun _ _ => ⟨rfl, eT, Nat.le_trans (Nat.add_le_add_right hc _) hkc, Nat.le_trans (Nat.add_le_add_right hs _) hks⟩)
  dsimp only [Pt.U, Pt.locs, Pt.cells, Pt.slots] at X' l' y' z' s' hQ'
  subst l' y' z'
  exact own_go (fun t q => s'.trans q) (k v' _ hQ'.1 T' _ _ _ X' (F.app hQ'.2) (Nat.add_le_add_right hc _) (Nat.add_le_add_right hs _) rfl)
end Laws
end OwnKit
theorem d2_0 : decode jdk_30_method_1_code 0 = .ok (.aload_n 0, 1) := by decide +kernel
theorem d2_1 : decode jdk_30_method_1_code 1 = .ok (.invokespecial 1, 3) := by decide +kernel
theorem d2_4 : decode jdk_30_method_1_code 4 = .ok (.return_, 1) := by decide +kernel
theorem own_pl2 : plainFor (⟨"java/lang/Record", "<init>", "()V"⟩ : MethodName) = true := plainFor_of_name (by first | (simp [plainName, overriddenIn]; done) | decide +kernel)
theorem rmR (l : Launch) (Z : State) (a0 : Array Value) (hw : ∀ (i : Nat) (d : Jvm.Cond), tables_1[i]? = some d → d.before a0 Z = true) (h0 : Heap) (n0 : Nat) (a : Addr) : own_C l Z (⟨"java/lang/Record", "<init>", "()V"⟩ : MethodName) jdk_30_method_1_code 1 none ({ frames := 1, cells := 0, slots := 0, locals := 12 } : Room) #[(.ref a)] h0 n0 (fun v h' => v = none ∧ h0 = h') := by
  refine own_met (Ls := #[.val (.ref a)]) hw own_pl2 (fun m => by first | (simp [entryFrame, mkF, argsToLocals, Value.category]; done) | rfl) ?_
  intro B H
  refine own_aload_n H rfl rfl d2_0 ?_
  refine own_initObject H (w1 := 11) (w2 := 12) (w3 := 13) rfl rfl rfl 0 rfl (by decide) (Nat.le_of_eq rfl) (by decide) d2_1 ?_
  exact own_return H d2_4 (by decide) (by decide) ⟨rfl, rfl⟩
theorem own_pd0 : parseMethodDescriptor "()V" = some ⟨[], none⟩ := by decide +kernel
theorem d1_0 : decode prog_16_method_1_code 0 = .ok (.aload_n 0, 1) := by decide +kernel
theorem d1_1 : decode prog_16_method_1_code 1 = .ok (.invokespecial 1, 3) := by decide +kernel
theorem d1_4 : decode prog_16_method_1_code 4 = .ok (.aload_n 0, 1) := by decide +kernel
theorem d1_5 : decode prog_16_method_1_code 5 = .ok (.lload_n 1, 1) := by decide +kernel
theorem d1_6 : decode prog_16_method_1_code 6 = .ok (.putfield 7, 3) := by decide +kernel
theorem d1_9 : decode prog_16_method_1_code 9 = .ok (.aload_n 0, 1) := by decide +kernel
theorem d1_10 : decode prog_16_method_1_code 10 = .ok (.lload_n 3, 1) := by decide +kernel
theorem d1_11 : decode prog_16_method_1_code 11 = .ok (.putfield 13, 3) := by decide +kernel
theorem d1_14 : decode prog_16_method_1_code 14 = .ok (.return_, 1) := by decide +kernel
theorem own_pl1 : plainFor (⟨"com/example/shardline/shardline/cluster/TermVersion", "<init>", "(JJ)V"⟩ : MethodName) = true := plainFor_of_name (by first | (simp [plainName, overriddenIn]; done) | decide +kernel)
theorem own_pd1 : parseMethodDescriptor "(JJ)V" = some ⟨[.long, .long], none⟩ := by decide +kernel
set_option maxHeartbeats 4000000 in
theorem rm1 (l : Launch) (Z : State) (a0 : Array Value) (hw : ∀ (i : Nat) (d : Jvm.Cond), tables_1[i]? = some d → d.before a0 Z = true) (h0 : Heap) (n0 : Nat) (a : Addr) (q1 : Int64) (q2 : Int64) (hZ0 : n0 ≤ h0.size) (hA : n0 ≤ a) (hE : Exa Z h0 a "com/example/shardline/shardline/cluster/TermVersion") (hF0 : Fld Z h0 a "com/example/shardline/shardline/cluster/TermVersion" "term" "J" (.long (0 : Int64))) (hF1 : Fld Z h0 a "com/example/shardline/shardline/cluster/TermVersion" "version" "J" (.long (0 : Int64))) :
    own_C l Z (⟨"com/example/shardline/shardline/cluster/TermVersion", "<init>", "(JJ)V"⟩ : MethodName) prog_16_method_1_code 5 none ({ frames := 2, cells := 0, slots := 0, locals := 36 } : Room) #[(.ref a), (.long q1), (.long q2)] h0 n0 (fun v h' => v = none ∧ Keep h0 h' [a] ∧ Fld Z h' a "com/example/shardline/shardline/cluster/TermVersion" "term" "J" (.long q1) ∧ Fld Z h' a "com/example/shardline/shardline/cluster/TermVersion" "version" "J" (.long q2)) := by
  refine own_met (Ls := #[.val (.ref a), .val (.long q1), .second, .val (.long q2), .second]) hw own_pl1 (fun m => by first | (simp [entryFrame, mkF, argsToLocals, Value.category]; done) | rfl) ?_
  intro B H
  have hK : Keep h0 h0 [a] := Keep.refl _ _
  refine own_aload_n H rfl rfl d1_0 ?_
  refine own_invokespecial H (a := a) (argsL := []) (rest := []) (rmR l Z a0 (own_hw H) h0 n0 a) rfl (w1 := 6) (w2 := 7) (w3 := 9) (w4 := 10) rfl rfl rfl rfl own_pd0 rfl 0 (by decide) rfl (by decide) (Nat.le_of_eq rfl) (by decide) (by decide) (by decide) rfl d1_1 ?_
  rintro _ _ ⟨rfl, rfl⟩
  show own_G _ _ _ _ _ _ _ _ 4 #[.val (.ref a), .val (.long q1), .second, .val (.long q2), .second] []
  refine own_aload_n H rfl rfl d1_4 ?_
  refine own_lload_n H rfl d1_5 ?_
  refine own_putfield H (w := 14) (wi := 1) rfl hF0 hE hA (Or.inr ⟨own_w H (i := 15) rfl, rfl, rfl⟩) rfl (ty := .long) (by decide) rfl rfl d1_6 ?_
  intro h1 W2
  have f3 : Exa Z h1 a "com/example/shardline/shardline/cluster/TermVersion" := hE.wr W2
  have f4 : Keep h0 h1 [a] := hK.wr W2 (Or.inl (by simp))
  have f5 : n0 ≤ h1.size := by rw [W2.size]; exact hZ0
  have f6 : Fld Z h1 a "com/example/shardline/shardline/cluster/TermVersion" "term" "J" (.long q1) := hF0.same W2
  have f7 : Fld Z h1 a "com/example/shardline/shardline/cluster/TermVersion" "version" "J" (.long (0 : Int64)) := hF1.other W2 (Or.inr (slot_ne (Or.inr (own_w H (i := 17) rfl)) (Or.inr (own_w H (i := 15) rfl)) (by decide) (t := .long) (t' := .long) (by decide) (by decide)))
  refine own_aload_n H rfl rfl d1_9 ?_
  refine own_lload_n H rfl d1_10 ?_
  refine own_putfield H (w := 16) (wi := 1) rfl f7 f3 hA (Or.inr ⟨own_w H (i := 17) rfl, rfl, rfl⟩) rfl (ty := .long) (by decide) rfl rfl d1_11 ?_
  intro h8 W9
  have f10 : Exa Z h8 a "com/example/shardline/shardline/cluster/TermVersion" := f3.wr W9
  have f11 : Keep h0 h8 [a] := f4.wr W9 (Or.inl (by simp))
  have f12 : n0 ≤ h8.size := by rw [W9.size]; exact f5
  have f13 : Fld Z h8 a "com/example/shardline/shardline/cluster/TermVersion" "term" "J" (.long q1) := f6.other W9 (Or.inr (slot_ne (Or.inr (own_w H (i := 15) rfl)) (Or.inr (own_w H (i := 17) rfl)) (by decide) (t := .long) (t' := .long) (by decide) (by decide)))
  have f14 : Fld Z h8 a "com/example/shardline/shardline/cluster/TermVersion" "version" "J" (.long q2) := f7.same W9
  exact own_return H d1_14 (by decide) (by decide) ⟨rfl, f11, f13, f14⟩
theorem d6_0 : decode jdk_35_method_42_code 0 = .ok (.lload_n 0, 1) := by decide +kernel
theorem d6_1 : decode jdk_35_method_42_code 1 = .ok (.lload_n 2, 1) := by decide +kernel
theorem d6_2 : decode jdk_35_method_42_code 2 = .ok (.lcmp, 1) := by decide +kernel
theorem d6_3 : decode jdk_35_method_42_code 3 = .ok (.ifCond .ge 7, 3) := by decide +kernel
theorem d6_6 : decode jdk_35_method_42_code 6 = .ok (.iconst (-1), 1) := by decide +kernel
theorem d6_7 : decode jdk_35_method_42_code 7 = .ok (.goto 14, 3) := by decide +kernel
theorem d6_10 : decode jdk_35_method_42_code 10 = .ok (.lload_n 0, 1) := by decide +kernel
theorem d6_11 : decode jdk_35_method_42_code 11 = .ok (.lload_n 2, 1) := by decide +kernel
theorem d6_12 : decode jdk_35_method_42_code 12 = .ok (.lcmp, 1) := by decide +kernel
theorem d6_13 : decode jdk_35_method_42_code 13 = .ok (.ifCond .ne 7, 3) := by decide +kernel
theorem d6_16 : decode jdk_35_method_42_code 16 = .ok (.iconst 0, 1) := by decide +kernel
theorem d6_17 : decode jdk_35_method_42_code 17 = .ok (.goto 4, 3) := by decide +kernel
theorem d6_20 : decode jdk_35_method_42_code 20 = .ok (.iconst 1, 1) := by decide +kernel
theorem d6_21 : decode jdk_35_method_42_code 21 = .ok (.ireturn, 1) := by decide +kernel
theorem own_pl6 : plainFor (⟨"java/lang/Long", "compare", "(JJ)I"⟩ : MethodName) = true := plainFor_of_name (by first | (simp [plainName, overriddenIn]; done) | decide +kernel)
theorem own_pd2 : parseMethodDescriptor "(JJ)I" = some ⟨[.long, .long], some .int⟩ := by decide +kernel
def FCmp (p1 : Int64) (p2 : Int64) : Int32 := if p1 < p2 then (-1 : Int32) else if p1 = p2 then (0 : Int32) else (1 : Int32)
set_option maxHeartbeats 4000000 in
theorem rmCmp (l : Launch) (Z : State) (a0 : Array Value) (hw : ∀ (i : Nat) (d : Jvm.Cond), tables_1[i]? = some d → d.before a0 Z = true) (h0 : Heap) (n0 : Nat) (p1 : Int64) (p2 : Int64) :
    own_P l Z (⟨"java/lang/Long", "compare", "(JJ)I"⟩ : MethodName) jdk_35_method_42_code 4 (some .int) (own_rm 0 0) #[(.long p1), (.long p2)] h0 n0 (.int (FCmp p1 p2)) := by
  refine own_met (Ls := #[.val (.long p1), .second, .val (.long p2), .second]) hw own_pl6 (fun m => by first | (simp [entryFrame, mkF, argsToLocals, Value.category]; done) | rfl) ?_
  intro B H
  refine own_lload_n H rfl d6_0 ?_
  refine own_lload_n H rfl d6_1 ?_
  by_cases c1 : p1 < p2
  ·
    refine own_lcmpge_f H d6_2 d6_3 c1 ?_
    refine own_iconst H (-1 : Int32) (by decide) d6_6 ?_
    refine own_goto H (pc' := 21) d6_7 (by decide) (by decide) ?_
    exact own_ireturn H (by simp) rfl d6_21 (Nat.le_refl _) (Nat.le_refl _) ⟨by show some _ = some _; rw [FCmp, if_pos c1], rfl⟩
  ·
    refine own_lcmpge_t H (pc' := 10) d6_2 d6_3 (by decide) (by decide) c1 ?_
    refine own_lload_n H rfl d6_10 ?_
    refine own_lload_n H rfl d6_11 ?_
    by_cases c2 : p1 = p2
    ·
      refine own_lcmpne_f H d6_12 d6_13 c2 ?_
      refine own_iconst H (0 : Int32) (by decide) d6_16 ?_
      refine own_goto H (pc' := 21) d6_17 (by decide) (by decide) ?_
      exact own_ireturn H (by simp) rfl d6_21 (Nat.le_refl _) (Nat.le_refl _) ⟨by show some _ = some _; rw [FCmp, if_neg c1, if_pos c2], rfl⟩
    ·
      refine own_lcmpne_t H (pc' := 20) d6_12 d6_13 (by decide) (by decide) c2 ?_
      refine own_iconst H (1 : Int32) (by decide) d6_20 ?_
      exact own_ireturn H (by simp) rfl d6_21 (Nat.le_refl _) (Nat.le_refl _) ⟨by show some _ = some _; rw [FCmp, if_neg c1, if_neg c2], rfl⟩
theorem d4_0 : decode method_3_code 0 = .ok (.lload_n 0, 1) := by decide +kernel
theorem d4_1 : decode method_3_code 1 = .ok (.lload 4, 2) := by decide +kernel
theorem d4_3 : decode method_3_code 3 = .ok (.lcmp, 1) := by decide +kernel
theorem d4_4 : decode method_3_code 4 = .ok (.ifCond .ge 5, 3) := by decide +kernel
theorem d4_7 : decode method_3_code 7 = .ok (.iconst (-1), 1) := by decide +kernel
theorem d4_8 : decode method_3_code 8 = .ok (.ireturn, 1) := by decide +kernel
theorem d4_9 : decode method_3_code 9 = .ok (.lload_n 0, 1) := by decide +kernel
theorem d4_10 : decode method_3_code 10 = .ok (.lload 4, 2) := by decide +kernel
theorem d4_12 : decode method_3_code 12 = .ok (.lcmp, 1) := by decide +kernel
theorem d4_13 : decode method_3_code 13 = .ok (.ifCond .le 5, 3) := by decide +kernel
theorem d4_16 : decode method_3_code 16 = .ok (.iconst 1, 1) := by decide +kernel
theorem d4_17 : decode method_3_code 17 = .ok (.ireturn, 1) := by decide +kernel
theorem d4_18 : decode method_3_code 18 = .ok (.lload_n 2, 1) := by decide +kernel
theorem d4_19 : decode method_3_code 19 = .ok (.lload 6, 2) := by decide +kernel
theorem d4_21 : decode method_3_code 21 = .ok (.lcmp, 1) := by decide +kernel
theorem d4_22 : decode method_3_code 22 = .ok (.ifCond .ge 5, 3) := by decide +kernel
theorem d4_25 : decode method_3_code 25 = .ok (.iconst (-1), 1) := by decide +kernel
theorem d4_26 : decode method_3_code 26 = .ok (.ireturn, 1) := by decide +kernel
theorem d4_27 : decode method_3_code 27 = .ok (.lload_n 2, 1) := by decide +kernel
theorem d4_28 : decode method_3_code 28 = .ok (.lload 6, 2) := by decide +kernel
theorem d4_30 : decode method_3_code 30 = .ok (.lcmp, 1) := by decide +kernel
theorem d4_31 : decode method_3_code 31 = .ok (.ifCond .le 5, 3) := by decide +kernel
theorem d4_34 : decode method_3_code 34 = .ok (.iconst 1, 1) := by decide +kernel
theorem d4_35 : decode method_3_code 35 = .ok (.ireturn, 1) := by decide +kernel
theorem d4_36 : decode method_3_code 36 = .ok (.iconst 0, 1) := by decide +kernel
theorem d4_37 : decode method_3_code 37 = .ok (.ireturn, 1) := by decide +kernel
theorem own_pl4 : plainFor (⟨"com/example/shardline/shardline/cluster/TermVersionCompareToPinLaw", "ref", "(JJJJ)I"⟩ : MethodName) = true := plainFor_of_name (by first | (simp [plainName, overriddenIn]; done) | decide +kernel)
theorem own_pd3 : parseMethodDescriptor "(JJJJ)I" = some ⟨[.long, .long, .long, .long], some .int⟩ := by decide +kernel
def FRef (p1 : Int64) (p2 : Int64) (p3 : Int64) (p4 : Int64) : Int32 := if p1 < p3 then (-1 : Int32) else if p3 < p1 then (1 : Int32) else if p2 < p4 then (-1 : Int32) else if p4 < p2 then (1 : Int32) else (0 : Int32)
set_option maxHeartbeats 4000000 in
theorem rmRef (l : Launch) (Z : State) (a0 : Array Value) (hw : ∀ (i : Nat) (d : Jvm.Cond), tables_1[i]? = some d → d.before a0 Z = true) (h0 : Heap) (n0 : Nat) (p1 : Int64) (p2 : Int64) (p3 : Int64) (p4 : Int64) :
    own_P l Z (⟨"com/example/shardline/shardline/cluster/TermVersionCompareToPinLaw", "ref", "(JJJJ)I"⟩ : MethodName) method_3_code 8 (some .int) (own_rm 0 0) #[(.long p1), (.long p2), (.long p3), (.long p4)] h0 n0 (.int (FRef p1 p2 p3 p4)) := by
  refine own_met (Ls := #[.val (.long p1), .second, .val (.long p2), .second, .val (.long p3), .second, .val (.long p4), .second]) hw own_pl4 (fun m => by first | (simp [entryFrame, mkF, argsToLocals, Value.category]; done) | rfl) ?_
  intro B H
  refine own_lload_n H rfl d4_0 ?_
  refine own_lload H rfl d4_1 ?_
  by_cases c1 : p1 < p3
  ·
    refine own_lcmpge_f H d4_3 d4_4 c1 ?_
    refine own_iconst H (-1 : Int32) (by decide) d4_7 ?_
    exact own_ireturn H (by simp) rfl d4_8 (Nat.le_refl _) (Nat.le_refl _) ⟨by show some _ = some _; rw [FRef, if_pos c1], rfl⟩
  ·
    refine own_lcmpge_t H (pc' := 9) d4_3 d4_4 (by decide) (by decide) c1 ?_
    refine own_lload_n H rfl d4_9 ?_
    refine own_lload H rfl d4_10 ?_
    by_cases c2 : p3 < p1
    ·
      refine own_lcmple_f H d4_12 d4_13 c2 ?_
      refine own_iconst H (1 : Int32) (by decide) d4_16 ?_
      exact own_ireturn H (by simp) rfl d4_17 (Nat.le_refl _) (Nat.le_refl _) ⟨by show some _ = some _; rw [FRef, if_neg c1, if_pos c2], rfl⟩
    ·
      refine own_lcmple_t H (pc' := 18) d4_12 d4_13 (by decide) (by decide) c2 ?_
      refine own_lload_n H rfl d4_18 ?_
      refine own_lload H rfl d4_19 ?_
      by_cases c3 : p2 < p4
      ·
        refine own_lcmpge_f H d4_21 d4_22 c3 ?_
        refine own_iconst H (-1 : Int32) (by decide) d4_25 ?_
        exact own_ireturn H (by simp) rfl d4_26 (Nat.le_refl _) (Nat.le_refl _) ⟨by show some _ = some _; rw [FRef, if_neg c1, if_neg c2, if_pos c3], rfl⟩
      ·
        refine own_lcmpge_t H (pc' := 27) d4_21 d4_22 (by decide) (by decide) c3 ?_
        refine own_lload_n H rfl d4_27 ?_
        refine own_lload H rfl d4_28 ?_
        by_cases c4 : p4 < p2
        ·
          refine own_lcmple_f H d4_30 d4_31 c4 ?_
          refine own_iconst H (1 : Int32) (by decide) d4_34 ?_
          exact own_ireturn H (by simp) rfl d4_35 (Nat.le_refl _) (Nat.le_refl _) ⟨by show some _ = some _; rw [FRef, if_neg c1, if_neg c2, if_neg c3, if_pos c4], rfl⟩
        ·
          refine own_lcmple_t H (pc' := 36) d4_30 d4_31 (by decide) (by decide) c4 ?_
          refine own_iconst H (0 : Int32) (by decide) d4_36 ?_
          exact own_ireturn H (by simp) rfl d4_37 (Nat.le_refl _) (Nat.le_refl _) ⟨by show some _ = some _; rw [FRef, if_neg c1, if_neg c2, if_neg c3, if_neg c4], rfl⟩
theorem d7_0 : decode method_4_code 0 = .ok (.iload_n 0, 1) := by decide +kernel
theorem d7_1 : decode method_4_code 1 = .ok (.ifCond .ge 5, 3) := by decide +kernel
theorem d7_4 : decode method_4_code 4 = .ok (.iconst (-1), 1) := by decide +kernel
theorem d7_5 : decode method_4_code 5 = .ok (.ireturn, 1) := by decide +kernel
theorem d7_6 : decode method_4_code 6 = .ok (.iload_n 0, 1) := by decide +kernel
theorem d7_7 : decode method_4_code 7 = .ok (.ifCond .le 5, 3) := by decide +kernel
theorem d7_10 : decode method_4_code 10 = .ok (.iconst 1, 1) := by decide +kernel
theorem d7_11 : decode method_4_code 11 = .ok (.ireturn, 1) := by decide +kernel
theorem d7_12 : decode method_4_code 12 = .ok (.iconst 0, 1) := by decide +kernel
theorem d7_13 : decode method_4_code 13 = .ok (.ireturn, 1) := by decide +kernel
theorem own_pl7 : plainFor (⟨"com/example/shardline/shardline/cluster/TermVersionCompareToPinLaw", "sign", "(I)I"⟩ : MethodName) = true := plainFor_of_name (by first | (simp [plainName, overriddenIn]; done) | decide +kernel)
theorem own_pd4 : parseMethodDescriptor "(I)I" = some ⟨[.int], some .int⟩ := by decide +kernel
def FSign (p1 : Int32) : Int32 := if p1 < 0 then (-1 : Int32) else if 0 < p1 then (1 : Int32) else (0 : Int32)
set_option maxHeartbeats 4000000 in
theorem rmSign (l : Launch) (Z : State) (a0 : Array Value) (hw : ∀ (i : Nat) (d : Jvm.Cond), tables_1[i]? = some d → d.before a0 Z = true) (h0 : Heap) (n0 : Nat) (p1 : Int32) :
    own_P l Z (⟨"com/example/shardline/shardline/cluster/TermVersionCompareToPinLaw", "sign", "(I)I"⟩ : MethodName) method_4_code 1 (some .int) (own_rm 0 0) #[(.int p1)] h0 n0 (.int (FSign p1)) := by
  refine own_met (Ls := #[.val (.int p1)]) hw own_pl7 (fun m => by first | (simp [entryFrame, mkF, argsToLocals, Value.category]; done) | rfl) ?_
  intro B H
  refine own_iload_n H rfl d7_0 ?_
  by_cases c1 : p1 < 0
  ·
    refine own_ifge_f H d7_1 c1 ?_
    refine own_iconst H (-1 : Int32) (by decide) d7_4 ?_
    exact own_ireturn H (by simp) rfl d7_5 (Nat.le_refl _) (Nat.le_refl _) ⟨by show some _ = some _; rw [FSign, if_pos c1], rfl⟩
  ·
    refine own_ifge_t H (pc' := 6) d7_1 (by decide) (by decide) c1 ?_
    refine own_iload_n H rfl d7_6 ?_
    by_cases c2 : 0 < p1
    ·
      refine own_ifle_f H d7_7 c2 ?_
      refine own_iconst H (1 : Int32) (by decide) d7_10 ?_
      exact own_ireturn H (by simp) rfl d7_11 (Nat.le_refl _) (Nat.le_refl _) ⟨by show some _ = some _; rw [FSign, if_neg c1, if_pos c2], rfl⟩
    ·
      refine own_ifle_t H (pc' := 12) d7_7 (by decide) (by decide) c2 ?_
      refine own_iconst H (0 : Int32) (by decide) d7_12 ?_
      exact own_ireturn H (by simp) rfl d7_13 (Nat.le_refl _) (Nat.le_refl _) ⟨by show some _ = some _; rw [FSign, if_neg c1, if_neg c2], rfl⟩
theorem d5_0 : decode prog_16_method_2_code 0 = .ok (.aload_n 0, 1) := by decide +kernel
theorem d5_1 : decode prog_16_method_2_code 1 = .ok (.getfield 7, 3) := by decide +kernel
theorem d5_4 : decode prog_16_method_2_code 4 = .ok (.aload_n 1, 1) := by decide +kernel
theorem d5_5 : decode prog_16_method_2_code 5 = .ok (.getfield 7, 3) := by decide +kernel
theorem d5_8 : decode prog_16_method_2_code 8 = .ok (.invokestatic 16, 3) := by decide +kernel
theorem d5_11 : decode prog_16_method_2_code 11 = .ok (.istore_n 2, 1) := by decide +kernel
theorem d5_12 : decode prog_16_method_2_code 12 = .ok (.iload_n 2, 1) := by decide +kernel
theorem d5_13 : decode prog_16_method_2_code 13 = .ok (.ifCond .eq 7, 3) := by decide +kernel
theorem d5_16 : decode prog_16_method_2_code 16 = .ok (.iload_n 2, 1) := by decide +kernel
theorem d5_17 : decode prog_16_method_2_code 17 = .ok (.goto 14, 3) := by decide +kernel
theorem d5_20 : decode prog_16_method_2_code 20 = .ok (.aload_n 0, 1) := by decide +kernel
theorem d5_21 : decode prog_16_method_2_code 21 = .ok (.getfield 13, 3) := by decide +kernel
theorem d5_24 : decode prog_16_method_2_code 24 = .ok (.aload_n 1, 1) := by decide +kernel
theorem d5_25 : decode prog_16_method_2_code 25 = .ok (.getfield 13, 3) := by decide +kernel
theorem d5_28 : decode prog_16_method_2_code 28 = .ok (.invokestatic 16, 3) := by decide +kernel
theorem d5_31 : decode prog_16_method_2_code 31 = .ok (.ireturn, 1) := by decide +kernel
theorem own_pl5 : plainFor (⟨"com/example/shardline/shardline/cluster/TermVersion", "compareTo", "(Lcom/example/shardline/shardline/cluster/TermVersion;)I"⟩ : MethodName) = true := plainFor_of_name (by first | (simp [plainName, overriddenIn]; done) | decide +kernel)
theorem own_pd5 : parseMethodDescriptor "(Lcom/example/shardline/shardline/cluster/TermVersion;)I" = some ⟨[(.object "com/example/shardline/shardline/cluster/TermVersion")], some .int⟩ := by decide +kernel
def FCt (u1 : Int64) (w1 : Int64) (u2 : Int64) (w2 : Int64) : Int32 := if (FCmp u1 w1) = 0 then (FCmp u2 w2) else (FCmp u1 w1)
set_option maxHeartbeats 4000000 in
theorem rmCt (l : Launch) (Z : State) (a0 : Array Value) (hw : ∀ (i : Nat) (d : Jvm.Cond), tables_1[i]? = some d → d.before a0 Z = true) (h0 : Heap) (n0 : Nat) (a : Addr) (o : Addr) (u1 : Int64) (w1 : Int64) (u2 : Int64) (w2 : Int64) (hR0 : Fld Z h0 a "com/example/shardline/shardline/cluster/TermVersion" "term" "J" (.long u1)) (hR1 : Fld Z h0 o "com/example/shardline/shardline/cluster/TermVersion" "term" "J" (.long w1)) (hR2 : Fld Z h0 a "com/example/shardline/shardline/cluster/TermVersion" "version" "J" (.long u2)) (hR3 : Fld Z h0 o "com/example/shardline/shardline/cluster/TermVersion" "version" "J" (.long w2)) :
    own_P l Z (⟨"com/example/shardline/shardline/cluster/TermVersion", "compareTo", "(Lcom/example/shardline/shardline/cluster/TermVersion;)I"⟩ : MethodName) prog_16_method_2_code 3 (some .int) ({ frames := 1, cells := 0, slots := 0, locals := 20 } : Room) #[(.ref a), (.ref o)] h0 n0 (.int (FCt u1 w1 u2 w2)) := by
  refine own_met (Ls := #[.val (.ref a), .val (.ref o), .unset]) hw own_pl5 (fun m => by first | (simp [entryFrame, mkF, argsToLocals, Value.category]; done) | rfl) ?_
  intro B H
  refine own_aload_n H rfl rfl d5_0 ?_
  refine own_getfield H (w := 14) rfl hR0 d5_1 ?_
  refine own_aload_n H rfl rfl d5_4 ?_
  refine own_getfield H (w := 14) rfl hR1 d5_5 ?_
  refine own_invokestatic H (argsL := [(.long u1), (.long w1)]) (rest := []) (rmCmp l Z a0 (own_hw H) h0 n0 u1 w1) (w1 := 27) (w2 := 28) (w3 := 29) (w4 := 30) rfl rfl rfl rfl own_pd2 rfl 0 (by decide) rfl (by decide) (Nat.le_of_eq rfl) (by decide) (by decide) (by decide) rfl d5_8 ?_
  rintro _ _ ⟨rfl, rfl⟩
  show own_G _ _ _ _ _ _ _ _ 11 #[.val (.ref a), .val (.ref o), .unset] [(.int (FCmp u1 w1))]
  refine own_istore_n H #[.val (.ref a), .val (.ref o), .val (.int (FCmp u1 w1))] rfl d5_11 ?_
  refine own_iload_n H rfl d5_12 ?_
  by_cases c1 : (FCmp u1 w1) = 0
  ·
    refine own_ifeq_t H (pc' := 20) d5_13 (by decide) (by decide) c1 ?_
    refine own_aload_n H rfl rfl d5_20 ?_
    refine own_getfield H (w := 16) rfl hR2 d5_21 ?_
    refine own_aload_n H rfl rfl d5_24 ?_
    refine own_getfield H (w := 16) rfl hR3 d5_25 ?_
    refine own_invokestatic H (argsL := [(.long u2), (.long w2)]) (rest := []) (rmCmp l Z a0 (own_hw H) h0 n0 u2 w2) (w1 := 27) (w2 := 28) (w3 := 29) (w4 := 30) rfl rfl rfl rfl own_pd2 rfl 0 (by decide) rfl (by decide) (Nat.le_of_eq rfl) (by decide) (by decide) (by decide) rfl d5_28 ?_
    rintro _ _ ⟨rfl, rfl⟩
    show own_G _ _ _ _ _ _ _ _ 31 #[.val (.ref a), .val (.ref o), .val (.int (FCmp u1 w1))] [(.int (FCmp u2 w2))]
    exact own_ireturn H (by simp) rfl d5_31 (by decide) (by decide) ⟨by show some _ = some _; rw [FCt, if_pos c1], rfl⟩
  ·
    refine own_ifeq_f H d5_13 c1 ?_
    refine own_iload_n H rfl d5_16 ?_
    refine own_goto H (pc' := 31) d5_17 (by decide) (by decide) ?_
    exact own_ireturn H (by simp) rfl d5_31 (by decide) (by decide) ⟨by show some _ = some _; rw [FCt, if_neg c1], rfl⟩
theorem own_pl0 : plainFor x = true := plainFor_of_name (by first | (simp [plainName, overriddenIn]; done) | decide +kernel)
def Ft (p1 : Int64) (p2 : Int64) (p3 : Int64) (p4 : Int64) (p5 : Int32) : Int64 := (if (p5 &&& (1 : Int32)) = 0 then p3 else p1)
def Fv (p1 : Int64) (p2 : Int64) (p3 : Int64) (p4 : Int64) (p5 : Int32) : Int64 := (if (p5 &&& (2 : Int32)) = 0 then p4 else p2)
def F0 (p1 : Int64) (p2 : Int64) (p3 : Int64) (p4 : Int64) (p5 : Int32) : Int32 := if (FSign (FCt p1 (Ft p1 p2 p3 p4 p5) p2 (Fv p1 p2 p3 p4 p5))) = (FRef p1 p2 (Ft p1 p2 p3 p4 p5) (Fv p1 p2 p3 p4 p5)) then if (FSign (FCt (Ft p1 p2 p3 p4 p5) p1 (Fv p1 p2 p3 p4 p5) p2)) = (-(FRef p1 p2 (Ft p1 p2 p3 p4 p5) (Fv p1 p2 p3 p4 p5))) then (1 : Int32) else (0 : Int32) else (0 : Int32)
set_option maxHeartbeats 40000000 in
theorem rm0 (l : Launch) (Z : State) (a0 : Array Value) (hw : ∀ (i : Nat) (d : Jvm.Cond), tables_1[i]? = some d → d.before a0 Z = true) (ws : List Jvm.Cond) (h0 : Heap) (n0 : Nat) (p1 : Int64) (p2 : Int64) (p3 : Int64) (p4 : Int64) (p5 : Int32) (hZ0 : n0 ≤ h0.size) :
    own_Met l Z ws x code maxLocals ret room_1 #[(.long p1), (.long p2), (.long p3), (.long p4), (.int p5)] h0 n0 16 128 (fun v h' => v = some (.int (F0 p1 p2 p3 p4 p5))) := by
  refine own_met (Ls := #[.val (.long p1), .second, .val (.long p2), .second, .val (.long p3), .second, .val (.long p4), .second, .val (.int p5), .unset, .unset, .unset, .unset, .unset, .unset, .unset]) hw own_pl0 (fun m => by first | (simp [entryFrame, mkF, argsToLocals, Value.category, maxLocals]; done) | rfl) ?_
  intro B H

  refine own_iload H rfl at_0 ?_
  refine own_iconst H (1 : Int32) (by decide) at_2 ?_
  refine own_iand H rfl at_3 ?_
  refine own_cut 13 #[.val (.long p1), .second, .val (.long p2), .second, .val (.long p3), .second, .val (.long p4), .second, .val (.int p5), .unset, .unset, .unset, .unset, .unset, .unset, .unset] [(.long (if (p5 &&& (1 : Int32)) = 0 then p3 else p1))] (fun k2 => ?_) ?_
  ·
    by_cases c1 : (p5 &&& (1 : Int32)) = 0
    ·
      simp only [if_pos c1] at k2
      refine own_ifeq_t H (pc' := 11) at_4 (by decide) (by decide) c1 ?_
      refine own_lload H rfl at_11 ?_
      exact k2
    ·
      simp only [if_neg c1] at k2
      refine own_ifeq_f H at_4 c1 ?_
      refine own_lload_n H rfl at_7 ?_
      refine own_goto H (pc' := 13) at_8 (by decide) (by decide) ?_
      exact k2
  refine own_lstore H #[.val (.long p1), .second, .val (.long p2), .second, .val (.long p3), .second, .val (.long p4), .second, .val (.int p5), .val (.long (if (p5 &&& (1 : Int32)) = 0 then p3 else p1)), .second, .unset, .unset, .unset, .unset, .unset] rfl at_13 ?_
  show own_G _ _ _ _ _ _ _ _ 15 #[.val (.long p1), .second, .val (.long p2), .second, .val (.long p3), .second, .val (.long p4), .second, .val (.int p5), .val (.long (Ft p1 p2 p3 p4 p5)), .second, .unset, .unset, .unset, .unset, .unset] []
  refine own_iload H rfl at_15 ?_
  refine own_iconst H (2 : Int32) (by decide) at_17 ?_
  refine own_iand H rfl at_18 ?_
  refine own_cut 28 #[.val (.long p1), .second, .val (.long p2), .second, .val (.long p3), .second, .val (.long p4), .second, .val (.int p5), .val (.long (Ft p1 p2 p3 p4 p5)), .second, .unset, .unset, .unset, .unset, .unset] [(.long (if (p5 &&& (2 : Int32)) = 0 then p4 else p2))] (fun k4 => ?_) ?_
  ·
    by_cases c3 : (p5 &&& (2 : Int32)) = 0
    ·
      simp only [if_pos c3] at k4
      refine own_ifeq_t H (pc' := 26) at_19 (by decide) (by decide) c3 ?_
      refine own_lload H rfl at_26 ?_
      exact k4
    ·
      simp only [if_neg c3] at k4
      refine own_ifeq_f H at_19 c3 ?_
      refine own_lload_n H rfl at_22 ?_
      refine own_goto H (pc' := 28) at_23 (by decide) (by decide) ?_
      exact k4
  refine own_lstore H #[.val (.long p1), .second, .val (.long p2), .second, .val (.long p3), .second, .val (.long p4), .second, .val (.int p5), .val (.long (Ft p1 p2 p3 p4 p5)), .second, .val (.long (if (p5 &&& (2 : Int32)) = 0 then p4 else p2)), .second, .unset, .unset, .unset] rfl at_28 ?_
  show own_G _ _ _ _ _ _ _ _ 30 #[.val (.long p1), .second, .val (.long p2), .second, .val (.long p3), .second, .val (.long p4), .second, .val (.int p5), .val (.long (Ft p1 p2 p3 p4 p5)), .second, .val (.long (Fv p1 p2 p3 p4 p5)), .second, .unset, .unset, .unset] []
  refine own_new H (w := 0) (wi := 1) (wz := 2) rfl rfl rfl at_30 (by decide) (by decide) ?_
  intro h5 a6 ha7 E8 X9 D10
  have f11 : n0 ≤ a6 := by rw [ha7]; exact hZ0
  have f12 : n0 ≤ h5.size := Nat.le_trans hZ0 E8.1
  have f13 : Fld Z h5 a6 "com/example/shardline/shardline/cluster/TermVersion" "term" "J" (.long (0 : Int64)) := D10 (Or.inr (own_w H (i := 15) rfl)) (ty := .long) (by decide)
  have f14 : Fld Z h5 a6 "com/example/shardline/shardline/cluster/TermVersion" "version" "J" (.long (0 : Int64)) := D10 (Or.inr (own_w H (i := 17) rfl)) (ty := .long) (by decide)
  show own_G _ _ _ _ _ _ _ _ 33 #[.val (.long p1), .second, .val (.long p2), .second, .val (.long p3), .second, .val (.long p4), .second, .val (.int p5), .val (.long (Ft p1 p2 p3 p4 p5)), .second, .val (.long (Fv p1 p2 p3 p4 p5)), .second, .unset, .unset, .unset] [(.ref a6)]
  refine own_dup H rfl at_33 ?_
  refine own_lload_n H rfl at_34 ?_
  refine own_lload_n H rfl at_35 ?_
  refine own_invokespecial H (a := a6) (argsL := [(.long p1), (.long p2)]) (rest := [(.ref a6)]) (rm1 l Z a0 (own_hw H) h5 n0 a6 p1 p2 f12 f11 X9 f13 f14) rfl (w1 := 3) (w2 := 4) (w3 := 2) (w4 := 5) rfl rfl rfl rfl own_pd1 rfl 1 (by decide) rfl (by decide) (Nat.le_of_eq rfl) (by decide) (by decide) (by decide) rfl at_36 ?_
  rintro _ h15 ⟨rfl, K16, f17, f18⟩
  have f19 : n0 ≤ h15.size := Nat.le_trans f12 K16.1
  have f20 : Exa Z h15 a6 "com/example/shardline/shardline/cluster/TermVersion" := X9.keep K16
  show own_G _ _ _ _ _ _ _ _ 39 #[.val (.long p1), .second, .val (.long p2), .second, .val (.long p3), .second, .val (.long p4), .second, .val (.int p5), .val (.long (Ft p1 p2 p3 p4 p5)), .second, .val (.long (Fv p1 p2 p3 p4 p5)), .second, .unset, .unset, .unset] [(.ref a6)]
  refine own_astore H rfl #[.val (.long p1), .second, .val (.long p2), .second, .val (.long p3), .second, .val (.long p4), .second, .val (.int p5), .val (.long (Ft p1 p2 p3 p4 p5)), .second, .val (.long (Fv p1 p2 p3 p4 p5)), .second, .val (.ref a6), .unset, .unset] rfl at_39 ?_
  refine own_new H (w := 0) (wi := 1) (wz := 2) rfl rfl rfl at_41 (by decide) (by decide) ?_
  intro h21 a22 ha23 E24 X25 D26
  have f27 : a6 ≠ a22 := Nat.ne_of_lt (by rw [ha23]; exact f20.lt)
  have f28 : n0 ≤ a22 := by rw [ha23]; exact f19
  have f29 : n0 ≤ h21.size := Nat.le_trans f19 E24.1
  have f30 : Exa Z h21 a6 "com/example/shardline/shardline/cluster/TermVersion" := f20.ext E24
  have f31 : Fld Z h21 a6 "com/example/shardline/shardline/cluster/TermVersion" "term" "J" (.long p1) := f17.ext E24
  have f32 : Fld Z h21 a6 "com/example/shardline/shardline/cluster/TermVersion" "version" "J" (.long p2) := f18.ext E24
  have f33 : Fld Z h21 a22 "com/example/shardline/shardline/cluster/TermVersion" "term" "J" (.long (0 : Int64)) := D26 (Or.inr (own_w H (i := 15) rfl)) (ty := .long) (by decide)
  have f34 : Fld Z h21 a22 "com/example/shardline/shardline/cluster/TermVersion" "version" "J" (.long (0 : Int64)) := D26 (Or.inr (own_w H (i := 17) rfl)) (ty := .long) (by decide)
  show own_G _ _ _ _ _ _ _ _ 44 #[.val (.long p1), .second, .val (.long p2), .second, .val (.long p3), .second, .val (.long p4), .second, .val (.int p5), .val (.long (Ft p1 p2 p3 p4 p5)), .second, .val (.long (Fv p1 p2 p3 p4 p5)), .second, .val (.ref a6), .unset, .unset] [(.ref a22)]
  refine own_dup H rfl at_44 ?_
  refine own_lload H rfl at_45 ?_
  refine own_lload H rfl at_47 ?_
  refine own_invokespecial H (a := a22) (argsL := [(.long (Ft p1 p2 p3 p4 p5)), (.long (Fv p1 p2 p3 p4 p5))]) (rest := [(.ref a22)]) (rm1 l Z a0 (own_hw H) h21 n0 a22 (Ft p1 p2 p3 p4 p5) (Fv p1 p2 p3 p4 p5) f29 f28 X25 f33 f34) rfl (w1 := 3) (w2 := 4) (w3 := 2) (w4 := 5) rfl rfl rfl rfl own_pd1 rfl 1 (by decide) rfl (by decide) (Nat.le_of_eq rfl) (by decide) (by decide) (by decide) rfl at_49 ?_
  rintro _ h35 ⟨rfl, K36, f37, f38⟩
  have f39 : n0 ≤ h35.size := Nat.le_trans f29 K36.1
  have f40 : Exa Z h35 a6 "com/example/shardline/shardline/cluster/TermVersion" := f30.keep K36
  have f41 : Fld Z h35 a6 "com/example/shardline/shardline/cluster/TermVersion" "term" "J" (.long p1) := f31.keep K36 (ninS f27 nin0)
  have f42 : Fld Z h35 a6 "com/example/shardline/shardline/cluster/TermVersion" "version" "J" (.long p2) := f32.keep K36 (ninS f27 nin0)
  have f43 : Exa Z h35 a22 "com/example/shardline/shardline/cluster/TermVersion" := X25.keep K36
  show own_G _ _ _ _ _ _ _ _ 52 #[.val (.long p1), .second, .val (.long p2), .second, .val (.long p3), .second, .val (.long p4), .second, .val (.int p5), .val (.long (Ft p1 p2 p3 p4 p5)), .second, .val (.long (Fv p1 p2 p3 p4 p5)), .second, .val (.ref a6), .unset, .unset] [(.ref a22)]
  refine own_astore H rfl #[.val (.long p1), .second, .val (.long p2), .second, .val (.long p3), .second, .val (.long p4), .second, .val (.int p5), .val (.long (Ft p1 p2 p3 p4 p5)), .second, .val (.long (Fv p1 p2 p3 p4 p5)), .second, .val (.ref a6), .val (.ref a22), .unset] rfl at_52 ?_
  refine own_lload_n H rfl at_54 ?_
  refine own_lload_n H rfl at_55 ?_
  refine own_lload H rfl at_56 ?_
  refine own_lload H rfl at_58 ?_
  refine own_invokestatic H (argsL := [(.long p1), (.long p2), (.long (Ft p1 p2 p3 p4 p5)), (.long (Fv p1 p2 p3 p4 p5))]) (rest := []) (rmRef l Z a0 (own_hw H) h35 n0 p1 p2 (Ft p1 p2 p3 p4 p5) (Fv p1 p2 p3 p4 p5)) (w1 := 18) (w2 := 19) (w3 := 20) (w4 := 21) rfl rfl rfl rfl own_pd3 rfl 0 (by decide) rfl (by decide) (Nat.le_of_eq rfl) (by decide) (by decide) (by decide) rfl at_60 ?_
  rintro _ _ ⟨rfl, rfl⟩
  show own_G _ _ _ _ _ _ _ _ 63 #[.val (.long p1), .second, .val (.long p2), .second, .val (.long p3), .second, .val (.long p4), .second, .val (.int p5), .val (.long (Ft p1 p2 p3 p4 p5)), .second, .val (.long (Fv p1 p2 p3 p4 p5)), .second, .val (.ref a6), .val (.ref a22), .unset] [(.int (FRef p1 p2 (Ft p1 p2 p3 p4 p5) (Fv p1 p2 p3 p4 p5)))]
  refine own_istore H #[.val (.long p1), .second, .val (.long p2), .second, .val (.long p3), .second, .val (.long p4), .second, .val (.int p5), .val (.long (Ft p1 p2 p3 p4 p5)), .second, .val (.long (Fv p1 p2 p3 p4 p5)), .second, .val (.ref a6), .val (.ref a22), .val (.int (FRef p1 p2 (Ft p1 p2 p3 p4 p5) (Fv p1 p2 p3 p4 p5)))] rfl at_63 ?_
  refine own_aload H rfl rfl at_65 ?_
  refine own_aload H rfl rfl at_67 ?_
  refine own_invokevirtual H (a := a6) (argsL := [(.ref a22)]) (rest := []) (rmCt l Z a0 (own_hw H) h35 n0 a6 a22 p1 (Ft p1 p2 p3 p4 p5) p2 (Fv p1 p2 p3 p4 p5) f41 f37 f42 f38) f40 (w1 := 22) (w0 := 23) (w5 := 25) (w2 := 24) (w3 := 2) (w4 := 26) rfl rfl rfl rfl rfl rfl own_pd5 rfl 0 (by decide) rfl (by decide) (Nat.le_of_eq rfl) (by decide) (by decide) (by decide) rfl at_69 ?_
  rintro _ _ ⟨rfl, rfl⟩
  show own_G _ _ _ _ _ _ _ _ 72 #[.val (.long p1), .second, .val (.long p2), .second, .val (.long p3), .second, .val (.long p4), .second, .val (.int p5), .val (.long (Ft p1 p2 p3 p4 p5)), .second, .val (.long (Fv p1 p2 p3 p4 p5)), .second, .val (.ref a6), .val (.ref a22), .val (.int (FRef p1 p2 (Ft p1 p2 p3 p4 p5) (Fv p1 p2 p3 p4 p5)))] [(.int (FCt p1 (Ft p1 p2 p3 p4 p5) p2 (Fv p1 p2 p3 p4 p5)))]
  refine own_invokestatic H (argsL := [(.int (FCt p1 (Ft p1 p2 p3 p4 p5) p2 (Fv p1 p2 p3 p4 p5)))]) (rest := []) (rmSign l Z a0 (own_hw H) h35 n0 (FCt p1 (Ft p1 p2 p3 p4 p5) p2 (Fv p1 p2 p3 p4 p5))) (w1 := 31) (w2 := 32) (w3 := 20) (w4 := 33) rfl rfl rfl rfl own_pd4 rfl 0 (by decide) rfl (by decide) (Nat.le_of_eq rfl) (by decide) (by decide) (by decide) rfl at_72 ?_
  rintro _ _ ⟨rfl, rfl⟩
  show own_G _ _ _ _ _ _ _ _ 75 #[.val (.long p1), .second, .val (.long p2), .second, .val (.long p3), .second, .val (.long p4), .second, .val (.int p5), .val (.long (Ft p1 p2 p3 p4 p5)), .second, .val (.long (Fv p1 p2 p3 p4 p5)), .second, .val (.ref a6), .val (.ref a22), .val (.int (FRef p1 p2 (Ft p1 p2 p3 p4 p5) (Fv p1 p2 p3 p4 p5)))] [(.int (FSign (FCt p1 (Ft p1 p2 p3 p4 p5) p2 (Fv p1 p2 p3 p4 p5))))]
  refine own_iload H rfl at_75 ?_
  by_cases c44 : (FSign (FCt p1 (Ft p1 p2 p3 p4 p5) p2 (Fv p1 p2 p3 p4 p5))) = (FRef p1 p2 (Ft p1 p2 p3 p4 p5) (Fv p1 p2 p3 p4 p5))
  ·
    refine own_icmpne_f H at_77 c44 ?_
    refine own_aload H rfl rfl at_80 ?_
    refine own_aload H rfl rfl at_82 ?_
    refine own_invokevirtual H (a := a22) (argsL := [(.ref a6)]) (rest := []) (rmCt l Z a0 (own_hw H) h35 n0 a22 a6 (Ft p1 p2 p3 p4 p5) p1 (Fv p1 p2 p3 p4 p5) p2 f37 f41 f38 f42) f43 (w1 := 22) (w0 := 23) (w5 := 25) (w2 := 24) (w3 := 2) (w4 := 26) rfl rfl rfl rfl rfl rfl own_pd5 rfl 0 (by decide) rfl (by decide) (Nat.le_of_eq rfl) (by decide) (by decide) (by decide) rfl at_84 ?_
    rintro _ _ ⟨rfl, rfl⟩
    show own_G _ _ _ _ _ _ _ _ 87 #[.val (.long p1), .second, .val (.long p2), .second, .val (.long p3), .second, .val (.long p4), .second, .val (.int p5), .val (.long (Ft p1 p2 p3 p4 p5)), .second, .val (.long (Fv p1 p2 p3 p4 p5)), .second, .val (.ref a6), .val (.ref a22), .val (.int (FRef p1 p2 (Ft p1 p2 p3 p4 p5) (Fv p1 p2 p3 p4 p5)))] [(.int (FCt (Ft p1 p2 p3 p4 p5) p1 (Fv p1 p2 p3 p4 p5) p2))]
    refine own_invokestatic H (argsL := [(.int (FCt (Ft p1 p2 p3 p4 p5) p1 (Fv p1 p2 p3 p4 p5) p2))]) (rest := []) (rmSign l Z a0 (own_hw H) h35 n0 (FCt (Ft p1 p2 p3 p4 p5) p1 (Fv p1 p2 p3 p4 p5) p2)) (w1 := 31) (w2 := 32) (w3 := 20) (w4 := 33) rfl rfl rfl rfl own_pd4 rfl 0 (by decide) rfl (by decide) (Nat.le_of_eq rfl) (by decide) (by decide) (by decide) rfl at_87 ?_
    rintro _ _ ⟨rfl, rfl⟩
    show own_G _ _ _ _ _ _ _ _ 90 #[.val (.long p1), .second, .val (.long p2), .second, .val (.long p3), .second, .val (.long p4), .second, .val (.int p5), .val (.long (Ft p1 p2 p3 p4 p5)), .second, .val (.long (Fv p1 p2 p3 p4 p5)), .second, .val (.ref a6), .val (.ref a22), .val (.int (FRef p1 p2 (Ft p1 p2 p3 p4 p5) (Fv p1 p2 p3 p4 p5)))] [(.int (FSign (FCt (Ft p1 p2 p3 p4 p5) p1 (Fv p1 p2 p3 p4 p5) p2)))]
    refine own_iload H rfl at_90 ?_
    refine own_ineg H rfl at_92 ?_
    by_cases c45 : (FSign (FCt (Ft p1 p2 p3 p4 p5) p1 (Fv p1 p2 p3 p4 p5) p2)) = (-(FRef p1 p2 (Ft p1 p2 p3 p4 p5) (Fv p1 p2 p3 p4 p5)))
    ·
      refine own_icmpne_f H at_93 c45 ?_
      refine own_iconst H (1 : Int32) (by decide) at_96 ?_
      refine own_goto H (pc' := 101) at_97 (by decide) (by decide) ?_
      exact own_ireturn H (by simp) (by decide) at_101 (by decide) (by decide) (by show some _ = some _; rw [F0, if_pos c44, if_pos c45])
    ·
      refine own_icmpne_t H (pc' := 100) at_93 (by decide) (by decide) c45 ?_
      refine own_iconst H (0 : Int32) (by decide) at_100 ?_
      exact own_ireturn H (by simp) (by decide) at_101 (by decide) (by decide) (by show some _ = some _; rw [F0, if_pos c44, if_neg c45])
  ·
    refine own_icmpne_t H (pc' := 100) at_77 (by decide) (by decide) c44 ?_
    refine own_iconst H (0 : Int32) (by decide) at_100 ?_
    exact own_ireturn H (by simp) (by decide) at_101 (by decide) (by decide) (by show some _ = some _; rw [F0, if_neg c44])
theorem own_cmp (a b : Int64) : (a < b ∧ ¬ b < a ∧ ¬ a = b ∧ ¬ b = a) ∨ (¬ a < b ∧ b < a ∧ ¬ a = b ∧ ¬ b = a) ∨ (a = b) := by
  simp only [Int64.lt_iff_toInt_lt, ← Int64.toInt_inj]
  omega
theorem own_irr (a : Int64) : ¬ a < a := by simp
theorem own_l (t1 v1 t2 v2 : Int64) : FSign (FCt t1 t2 v1 v2) = FRef t1 v1 t2 v2 ∧ FSign (FCt t2 t1 v2 v1) = -FRef t1 v1 t2 v2 := by
  have z1 : ¬ (-1 : Int32) = 0 := by decide
  have z2 : ¬ (1 : Int32) = 0 := by decide
  rcases own_cmp t1 t2 with ⟨c1, c2, c3, c4⟩ | ⟨c1, c2, c3, c4⟩ | rfl
  · simp only [FCt, FCmp, FRef, c1, c2, c3, c4, z1, z2, if_true, if_false]; decide
  · simp only [FCt, FCmp, FRef, c1, c2, c3, c4, z1, z2, if_true, if_false]; decide
  · rcases own_cmp v1 v2 with ⟨d1, d2, d3, d4⟩ | ⟨d1, d2, d3, d4⟩ | rfl
    · simp only [FCt, FCmp, FRef, own_irr, d1, d2, d3, d4, if_true, if_false]; decide
    · simp only [FCt, FCmp, FRef, own_irr, d1, d2, d3, d4, if_true, if_false]; decide
    · simp only [FCt, FCmp, FRef, own_irr, if_true, if_false]; decide
theorem own_law (p1 p2 p3 p4 : Int64) (p5 : Int32) : F0 p1 p2 p3 p4 p5 = 1 := by
  have h := own_l p1 p2 (Ft p1 p2 p3 p4 p5) (Fv p1 p2 p3 p4 p5)
  rw [F0, if_pos h.1, if_pos h.2]
set_option maxHeartbeats 40000000 in
theorem comes_1 {Post : Tables → Env → Array Value → State → Outcome → State → Prop} (hpost : ∀ tb e args s v u, (limb_1_1.after args s (.returned v) u = true ∧ limb_1_2.after args s (.returned v) u = true ∧ True) → FrameEnd s (.returned v) u (Jvm.fieldLocs frame_1_writes args s ++ Jvm.arrayLocs frame_1_arrays args s ++ Jvm.staticLocs frame_1_statics s) 16 128 → Post tb e args s (.returned v) u) :
    ArmFor flags0 classFile x code maxLocals ret World_1 tables_1 room_1 Calls_1 rest_1 Pre_1 Post := by
  intro l hfl _ _ p e ha hc hk s m args below hf hA hF happ hP
  obtain ⟨hcalls, hrest, hpre⟩ := hP
  obtain ⟨-, -, -, hnamed, -, -, -, hat⟩ := (Spec.applies_iff hf).mp happ
  obtain ⟨hg, hn⟩ := and_e (Cond.before_iff.mp (show (Jvm.Cond.and given_1 narrow_1).before args s = true from hpre))
  obtain ⟨h1, g0⟩ := and_e hg
  obtain ⟨w0, w1, w2, w3, w4, rfl⟩ : ∃ w0 w1 w2 w3 w4 : Value, args = #[w0, w1, w2, w3, w4] := by
    have hs : args.size = 5 := by simpa [Cond.value, given_1] using h1
    obtain ⟨L⟩ := args
    match L, hs with
    | [w0, w1, w2, w3, w4], _ => exact ⟨w0, w1, w2, w3, w4, rfl⟩
  have hw := fun d (hd : d ∈ tables_1) => atoms_spec (ws := Jvm.Cond.code x code maxLocals ret :: tables_1) hat d (List.mem_cons_of_mem _ hd)
  have hw' : ∀ (i : Nat) (d : Jvm.Cond), tables_1[i]? = some d → d.before _ s = true := fun i d q => hw d (List.mem_of_getElem? q)
  obtain ⟨u0, g1⟩ := and_e g0
  obtain ⟨i0, e0⟩ := isL_v u0
  obtain rfl : w0 = (.long i0) := Option.some.inj e0
  obtain ⟨u1, g2⟩ := and_e g1
  obtain ⟨i1, e1⟩ := isL_v u1
  obtain rfl : w1 = (.long i1) := Option.some.inj e1
  obtain ⟨u2, g3⟩ := and_e g2
  obtain ⟨i2, e2⟩ := isL_v u2
  obtain rfl : w2 = (.long i2) := Option.some.inj e2
  obtain ⟨u3, g4⟩ := and_e g3
  obtain ⟨i3, e3⟩ := isL_v u3
  obtain rfl : w3 = (.long i3) := Option.some.inj e3
  obtain ⟨i4, e4⟩ := is_v g4
  obtain rfl : w4 = (.int i4) := Option.some.inj e4
  obtain ⟨n, o, h1, h2, h3, _, L, rfl, ⟨rfl, N⟩, hq⟩ := rm0 l s _ hw' tables_1 s.heap s.heap.size i0 i1 i2 i3 i4 (Nat.le_refl _) p e ha hc hk s m _ below hf ((Spec.applies_iff_loose hf).mp happ).1 ⟨rfl, State.Warmed39.refl s, rfl⟩ trivial
  refine ⟨n, _, h1, h2, h3, hpost _ _ _ _ _ _ ⟨Cond.after_iff.mpr rfl, Cond.after_iff.mpr (eq_i res_at (Term.int_eval (1)) (by rw [own_law])), trivial⟩ ⟨hq.1, hq.2.1, (hq.2.2.sift fun y hy => Or.inr (N y hy)).mono (by decide) (by decide)⟩⟩
theorem main_1_1 : Claimed_1_1 := comes_1 fun _ _ _ _ _ _ h hF => ⟨h.1, hF⟩
theorem main_1_2 : Claimed_1_2 := comes_1 fun _ _ _ _ _ _ h hF => ⟨h.2.1, hF⟩
end Jvm.Pilot.@@N@@
namespace Jvm.Pilot.@@N@@
open Jvm Jvm.ClassFile Sem Op Lib Jvm.Free Jvm.Stand Jvm.Pilot.@@N@@.Jvm.D
/-! MADE BY PROGRAM (witnessworld.py) out of the Statement's table words and the real class files: 15 classes; the members and pool entries that the words name. The judged class is class 1, her method 1. -/
namespace start1
open Jvm.ClassFile
def u (s : String) : CpInfo := .utf8 (stringToUtf16 s)
/-- a pool by its gaps: so many unusable entries, then the entry; so many at the end -/
def gap : Nat → List CpInfo → List CpInfo
  | 0, r => r
  | n + 1, r => .unusable :: gap n r
def poolList (es : List (Nat × CpInfo)) (last : Nat) : List CpInfo := es.foldr (fun e r => gap e.1 (e.2 :: r)) (gap last [])
def pool (es : List (Nat × CpInfo)) (last : Nat) : Array CpInfo := ⟨poolList es last⟩
def fileOf (pool : Array CpInfo) (this : Nat) (attrs : Array Attribute := #[]) (ms : Array MethodInfo := #[]) (fl : Nat := 33) (sup : Nat := 0) (ifs : Array Nat := #[]) (fds : Array FieldInfo := #[]) : ClassFile where
  minorVersion := 0
  majorVersion := 65
  constantPool := pool
  accessFlags := fl
  thisClass := this
  superClass := sup
  interfaces := ifs
  fields := fds
  methods := ms
  attributes := attrs
def plain (name : String) (sup : Option ClassId) : Class where
  name := name
  kind := .ordinary
  loader := none
  accessFlags := 33
  super := sup
  interfaces := #[]
  cf := none
  fields := #[]
  methods := #[]
  instanceTypes := #[]
  staticTypes := #[]
  resolved := #[]
  callSites := []
  init := .initialized
  statics := none
  mirror := none

def pool0 : Array CpInfo := pool [(5, u "<init>"), (0, u "()V"), (1, .class_ 10), (1, u "java/lang/Object")] 113

def k0c0 : Code := { maxStack := 0, maxLocals := 1, code := object_method_1_code, exceptionTable := #[], attributes := #[] }
def k0m0 : Method := { name := "<init>", desc := "()V", sig := { parameters := [], returnType := none }, accessFlags := 1, code := some k0c0 }
/-- java/lang/Object -/
def k0 : Class := { plain "java/lang/Object" none with
  accessFlags := 33
  interfaces := #[]
  cf := some (fileOf pool0 8 #[] #[{ accessFlags := 1, nameIndex := 5, descriptorIndex := 6, attributes := #[] }] 33 0 #[] #[])
  fields := #[]
  methods := #[k0m0]
  instanceTypes := #[]
  staticTypes := #[]
  resolved := Array.replicate 124 none
  statics := none }

def pool1 : Array CpInfo := pool [(2, .class_ 4), (1, u "java/lang/Object"), (0, u "<init>"), (0, u "()V"), (0, .class_ 8), (0, u "com/example/shardline/shardline/cluster/TermVersion"), (0, .methodref 7 10), (0, .nameAndType 5 11), (0, u "(JJ)V"), (0, .methodref 13 14), (0, .class_ 15), (0, .nameAndType 16 17), (0, u "com/example/shardline/shardline/cluster/TermVersionCompareToPinLaw"), (0, u "ref"), (0, u "(JJJJ)I"), (0, .methodref 7 19), (0, .nameAndType 20 21), (0, u "compareTo"), (0, u "(Lcom/example/shardline/shardline/cluster/TermVersion;)I"), (0, .methodref 13 23), (0, .nameAndType 24 25), (0, u "sign"), (0, u "(I)I"), (2, u "law"), (0, u "(JJJJI)Z")] 3

def k1m0 : Method := { name := "<init>", desc := "()V", sig := { parameters := [], returnType := none }, accessFlags := 1, code := none }
def k1c1 : Code := { maxStack := 8, maxLocals := 16, code := code, exceptionTable := #[], attributes := #[] }
def k1m1 : Method := { name := "law", desc := "(JJJJI)Z", sig := { parameters := [.long, .long, .long, .long, .int], returnType := some .boolean }, accessFlags := 9, code := some k1c1 }
def k1c2 : Code := { maxStack := 4, maxLocals := 8, code := method_3_code, exceptionTable := #[], attributes := #[] }
def k1m2 : Method := { name := "ref", desc := "(JJJJ)I", sig := { parameters := [.long, .long, .long, .long], returnType := some .int }, accessFlags := 10, code := some k1c2 }
def k1c3 : Code := { maxStack := 1, maxLocals := 1, code := method_4_code, exceptionTable := #[], attributes := #[] }
def k1m3 : Method := { name := "sign", desc := "(I)I", sig := { parameters := [.int], returnType := some .int }, accessFlags := 10, code := some k1c3 }
/-- com/example/shardline/shardline/cluster/TermVersionCompareToPinLaw -/
def k1 : Class := { plain "com/example/shardline/shardline/cluster/TermVersionCompareToPinLaw" (some 0) with
  accessFlags := 49
  interfaces := #[]
  cf := some (fileOf pool1 13 #[] #[{ accessFlags := 1, nameIndex := 5, descriptorIndex := 6, attributes := #[] }, { accessFlags := 9, nameIndex := 28, descriptorIndex := 29, attributes := #[] }, { accessFlags := 10, nameIndex := 16, descriptorIndex := 17, attributes := #[] }, { accessFlags := 10, nameIndex := 24, descriptorIndex := 25, attributes := #[] }] 49 2 #[] #[])
  fields := #[]
  methods := #[k1m0, k1m1, k1m2, k1m3]
  instanceTypes := #[]
  staticTypes := #[]
  resolved := Array.replicate 33 none
  statics := none }

def pool2 : Array CpInfo := pool [(1, .methodref 2 3), (0, .class_ 4), (0, .nameAndType 5 6), (0, u "java/lang/Object"), (0, u "<init>"), (0, u "()V"), (0, .class_ 8), (0, u "java/lang/Record")] 13

def k2c0 : Code := { maxStack := 1, maxLocals := 1, code := jdk_30_method_1_code, exceptionTable := #[], attributes := #[] }
def k2m0 : Method := { name := "<init>", desc := "()V", sig := { parameters := [], returnType := none }, accessFlags := 4, code := some k2c0 }
/-- java/lang/Record -/
def k2 : Class := { plain "java/lang/Record" (some 0) with
  accessFlags := 1057
  interfaces := #[]
  cf := some (fileOf pool2 7 #[] #[{ accessFlags := 4, nameIndex := 5, descriptorIndex := 6, attributes := #[] }] 1057 2 #[] #[])
  fields := #[]
  methods := #[k2m0]
  instanceTypes := #[]
  staticTypes := #[]
  resolved := Array.replicate 22 none
  statics := none }

def pool3 : Array CpInfo := pool [(1, .class_ 2), (0, u "java/lang/Comparable"), (0, .class_ 4), (0, u "java/lang/Object")] 7

/-- java/lang/Comparable -/
def k3 : Class := { plain "java/lang/Comparable" (some 0) with
  accessFlags := 1537
  interfaces := #[]
  cf := some (fileOf pool3 1 #[] #[] 1537 3 #[] #[])
  fields := #[]
  methods := #[]
  instanceTypes := #[]
  staticTypes := #[]
  resolved := Array.replicate 12 none
  statics := none }

def pool4 : Array CpInfo := pool [(1, .methodref 2 3), (0, .class_ 4), (0, .nameAndType 5 6), (0, u "java/lang/Record"), (0, u "<init>"), (0, u "()V"), (0, .fieldref 8 9), (0, .class_ 10), (0, .nameAndType 11 12), (0, u "com/example/shardline/shardline/cluster/TermVersion"), (0, u "term"), (0, u "J"), (0, .fieldref 8 14), (0, .nameAndType 15 12), (0, u "version"), (0, .methodref 17 18), (0, .class_ 19), (0, .nameAndType 20 21), (0, u "java/lang/Long"), (0, u "compare"), (0, u "(JJ)I"), (2, u "compareTo"), (0, u "(Lcom/example/shardline/shardline/cluster/TermVersion;)I"), (11, .class_ 38), (0, u "java/lang/Comparable"), (0, u "(JJ)V")] 43

def k4c0 : Code := { maxStack := 3, maxLocals := 5, code := prog_16_method_1_code, exceptionTable := #[], attributes := #[] }
def k4m0 : Method := { name := "<init>", desc := "(JJ)V", sig := { parameters := [.long, .long], returnType := none }, accessFlags := 1, code := some k4c0 }
def k4c1 : Code := { maxStack := 4, maxLocals := 3, code := prog_16_method_2_code, exceptionTable := #[], attributes := #[] }
def k4m1 : Method := { name := "compareTo", desc := "(Lcom/example/shardline/shardline/cluster/TermVersion;)I", sig := { parameters := [(.object "com/example/shardline/shardline/cluster/TermVersion")], returnType := some .int }, accessFlags := 1, code := some k4c1 }
/-- com/example/shardline/shardline/cluster/TermVersion -/
def k4 : Class := { plain "com/example/shardline/shardline/cluster/TermVersion" (some 2) with
  accessFlags := 49
  interfaces := #[3]
  cf := some (fileOf pool4 8 #[] #[{ accessFlags := 1, nameIndex := 5, descriptorIndex := 39, attributes := #[] }, { accessFlags := 1, nameIndex := 24, descriptorIndex := 25, attributes := #[] }] 49 2 #[37] #[{ accessFlags := 18, nameIndex := 11, descriptorIndex := 12, attributes := #[] }, { accessFlags := 18, nameIndex := 15, descriptorIndex := 12, attributes := #[] }])
  fields := #[{ name := "term", type := .long, accessFlags := 18, slot := 0, constantValue := 0 }, { name := "version", type := .long, accessFlags := 18, slot := 1, constantValue := 0 }]
  methods := #[k4m0, k4m1]
  instanceTypes := #[.long, .long]
  staticTypes := #[]
  resolved := Array.replicate 83 none
  statics := none }

def pool5 : Array CpInfo := pool [(1, .class_ 2), (0, u "java/io/Serializable"), (0, .class_ 4), (0, u "java/lang/Object")] 2

/-- java/io/Serializable -/
def k5 : Class := { plain "java/io/Serializable" (some 0) with
  accessFlags := 1537
  interfaces := #[]
  cf := some (fileOf pool5 1 #[] #[] 1537 3 #[] #[])
  fields := #[]
  methods := #[]
  instanceTypes := #[]
  staticTypes := #[]
  resolved := Array.replicate 7 none
  statics := none }

def pool6 : Array CpInfo := pool [(2, .class_ 4), (1, u "java/lang/Object"), (0, u "<init>"), (0, u "()V"), (1, .class_ 10), (1, u "java/lang/Number"), (2, .class_ 14), (0, u "java/io/Serializable"), (0, u "serialVersionUID"), (0, u "J")] 20

def k6m0 : Method := { name := "<init>", desc := "()V", sig := { parameters := [], returnType := none }, accessFlags := 1, code := none }
/-- java/lang/Number -/
def k6 : Class := { plain "java/lang/Number" (some 0) with
  accessFlags := 1057
  interfaces := #[5]
  cf := some (fileOf pool6 8 #[] #[{ accessFlags := 1, nameIndex := 5, descriptorIndex := 6, attributes := #[] }] 1057 2 #[13] #[{ accessFlags := 26, nameIndex := 15, descriptorIndex := 16, attributes := #[] }])
  fields := #[{ name := "serialVersionUID", type := .long, accessFlags := 26, slot := 0, constantValue := 0 }]
  methods := #[k6m0]
  instanceTypes := #[]
  staticTypes := #[.long]
  resolved := Array.replicate 37 none
  statics := none }

def pool7 : Array CpInfo := pool [(1, .class_ 2), (0, u "java/lang/constant/Constable"), (0, .class_ 4), (0, u "java/lang/Object")] 6

/-- java/lang/constant/Constable -/
def k7 : Class := { plain "java/lang/constant/Constable" (some 0) with
  accessFlags := 1537
  interfaces := #[]
  cf := some (fileOf pool7 1 #[] #[] 1537 3 #[] #[])
  fields := #[]
  methods := #[]
  instanceTypes := #[]
  staticTypes := #[]
  resolved := Array.replicate 11 none
  statics := none }

def pool8 : Array CpInfo := pool [(1, .class_ 2), (0, u "java/lang/constant/ConstantDesc"), (0, .class_ 4), (0, u "java/lang/Object")] 32

/-- java/lang/constant/ConstantDesc -/
def k8 : Class := { plain "java/lang/constant/ConstantDesc" (some 0) with
  accessFlags := 1537
  interfaces := #[]
  cf := some (fileOf pool8 1 #[] #[] 1537 3 #[] #[])
  fields := #[]
  methods := #[]
  instanceTypes := #[]
  staticTypes := #[]
  resolved := Array.replicate 37 none
  statics := none }

def pool9 : Array CpInfo := pool [(1, .class_ 2), (0, u "java/lang/Long"), (232, .class_ 237), (1, u "java/lang/Long$LongCache"), (33, .class_ 272), (0, u "java/lang/Number"), (2, u "value"), (0, u "J"), (27, u "compare"), (0, u "(JJ)I"), (55, u "TYPE"), (0, u "Ljava/lang/Class;"), (0, .class_ 364), (0, u "java/lang/Comparable"), (0, .class_ 366), (0, u "java/lang/constant/Constable"), (0, .class_ 368), (0, u "java/lang/constant/ConstantDesc"), (0, u "MIN_VALUE"), (1, u "MAX_VALUE"), (4, u "SIZE"), (0, u "I"), (1, u "BYTES"), (1, u "serialVersionUID")] 142

def k9c0 : Code := { maxStack := 4, maxLocals := 4, code := jdk_35_method_42_code, exceptionTable := #[], attributes := #[] }
def k9m0 : Method := { name := "compare", desc := "(JJ)I", sig := { parameters := [.long, .long], returnType := some .int }, accessFlags := 9, code := some k9c0 }
/-- java/lang/Long -/
def k9 : Class := { plain "java/lang/Long" (some 6) with
  accessFlags := 49
  interfaces := #[3, 7, 8]
  cf := some (fileOf pool9 1 #[.nestMembers #[235]] #[{ accessFlags := 9, nameIndex := 304, descriptorIndex := 305, attributes := #[] }] 49 271 #[363, 365, 367] #[{ accessFlags := 25, nameIndex := 369, descriptorIndex := 276, attributes := #[] }, { accessFlags := 25, nameIndex := 371, descriptorIndex := 276, attributes := #[] }, { accessFlags := 25, nameIndex := 361, descriptorIndex := 362, attributes := #[] }, { accessFlags := 18, nameIndex := 275, descriptorIndex := 276, attributes := #[] }, { accessFlags := 25, nameIndex := 376, descriptorIndex := 377, attributes := #[] }, { accessFlags := 25, nameIndex := 379, descriptorIndex := 377, attributes := #[] }, { accessFlags := 26, nameIndex := 381, descriptorIndex := 276, attributes := #[] }])
  fields := #[{ name := "MIN_VALUE", type := .long, accessFlags := 25, slot := 0, constantValue := 0 }, { name := "MAX_VALUE", type := .long, accessFlags := 25, slot := 1, constantValue := 0 }, { name := "TYPE", type := (.object "java/lang/Class"), accessFlags := 25, slot := 2, constantValue := 0 }, { name := "value", type := .long, accessFlags := 18, slot := 0, constantValue := 0 }, { name := "SIZE", type := .int, accessFlags := 25, slot := 3, constantValue := 0 }, { name := "BYTES", type := .int, accessFlags := 25, slot := 4, constantValue := 0 }, { name := "serialVersionUID", type := .long, accessFlags := 26, slot := 5, constantValue := 0 }]
  methods := #[k9m0]
  instanceTypes := #[.long]
  staticTypes := #[.long, .long, (.object "java/lang/Class"), .int, .int, .long]
  resolved := Array.replicate 524 none
  statics := none }

def pool10 : Array CpInfo := pool [(1, u "java/lang/Cloneable"), (0, .class_ 1), (0, u "java/lang/Object"), (0, .class_ 3)] 3

/-- java/lang/Cloneable -/
def k10 : Class := { plain "java/lang/Cloneable" (some 0) with
  accessFlags := 1537
  interfaces := #[]
  cf := some (fileOf pool10 2 #[] #[] 1537 4 #[] #[])
  fields := #[]
  methods := #[]
  instanceTypes := #[]
  staticTypes := #[]
  resolved := Array.replicate 8 none
  statics := none }

/-- the primitive byte -/
def k11 : Class := { plain "byte" none with kind := .primitive 'B', accessFlags := 0x411 }
/-- [B -/
def k12 : Class := { plain "[B" (some 0) with kind := .array 11 .byte, interfaces := #[10, 5], accessFlags := 1041 }

/-- the primitive int -/
def k13 : Class := { plain "int" none with kind := .primitive 'I', accessFlags := 0x411 }
/-- [I -/
def k14 : Class := { plain "[I" (some 0) with kind := .array 13 .int, interfaces := #[10, 5], accessFlags := 1041 }

def heap : Heap := #[]
def classes : Array Class := #[k0, k1, k2, k3, k4, k5, k6, k7, k8, k9, k10, k11, k12, k13, k14]
def interned : List (Array UInt16 × Addr) := []
def slotsUsed : Nat := 0
def theMethod : MethodId := ⟨1, 1⟩
def args0 : Array Value := #[.long 5, .long 9, .long 7, .long 3, .int 2]
def aboutOver (below : List Frame) : State where
  vm := { classes := classes, interned := interned.toArray }
  heap := heap
  slotsUsed := slotsUsed
  threads := #[{ frames := .invoking theMethod args0 :: below }]
def below0 : List Frame := [.native { method := ⟨0, 0⟩, args := #[] }]
def about1 : State := aboutOver below0
def p0 : Program := .bare "" "" ""
def e0 : Env := launch0.env 0 0 0
theorem w_frames : about1.frames = Frame.invoking theMethod args0 :: below0 := rfl
set_option maxRecDepth 65536 in
theorem w_args : argsFit about1.vm theMethod args0 = true := by decide +kernel
set_option maxRecDepth 65536 in
theorem w_heap : heapFits about1 = true := by decide +kernel
set_option maxRecDepth 65536 in
theorem w_runnable : about1.curStatus? = some .runnable := by decide +kernel
set_option maxRecDepth 65536 in
theorem w_alone : about1.alone = true := by decide +kernel
set_option maxRecDepth 65536 in
theorem w_named : about1.methodNamed? x = some theMethod := by decide +kernel
set_option maxRecDepth 65536 in
theorem w_hears : about1.hears theMethod below0 = true := by decide +kernel
set_option maxRecDepth 65536 in
theorem w_ripe : about1.ripe theMethod args0 below0 = true := by decide +kernel
theorem w_running : about1.status = .running := rfl
set_option maxRecDepth 65536 in
theorem w_room : about1.hasRoom e0.platform room_1 = true :=
  launch0.hasRoom_least _ room_1 (by decide +kernel) (by decide +kernel) (by decide +kernel) (by decide +kernel) (by decide +kernel) (by decide +kernel)
theorem allAtoms_all (ts : List Jvm.Cond) (a : Array Jvm.Value) (st : Jvm.State) : (allAtoms ts).before a st = ts.all (fun c => c.before a st) := by
  induction ts with
  | nil => rfl
  | cons c t ih =>
    show (Jvm.Cond.and c (allAtoms t)).before a st = _
    rw [Jvm.Cond.before_and, ih, List.all_cons]
def words1 : List Jvm.Cond := Jvm.Cond.code x code maxLocals ret :: tables_1
/-- a 'code' word, met by the world's own term for the bytes: nothing is compared byte by byte -/
theorem code_word {y : MethodName} {bytes : ByteArray} {mx : Nat} {rt : Option FieldType} {a : Array Value} {s : State} {m : MethodId} {meth : Method} {c : Code} (h1 : s.methodNamed? y = some m) (h2 : s.vm.method? m = some meth) (h3 : meth.code = some c) (h4 : c.code = bytes)
    (h5 : (c.maxLocals == mx && c.exceptionTable.isEmpty && decide (c.maxStack ≤ mostOperands) && decide (meth.sig.returnType = rt) && !meth.locks && decide (parseMethodDescriptor y.desc = some meth.sig)) = true) : (Jvm.Cond.code y bytes mx rt).before a s = true := by
  simp only [Bool.and_eq_true, beq_iff_eq, Bool.not_eq_true', decide_eq_true_eq] at h5
  obtain ⟨⟨⟨⟨⟨g1, g2⟩, g3⟩, g4⟩, g5⟩, g6⟩ := h5
  simp [Cond.before, Cond.holds, Cond.value, h1, h2, h3, h4, g1, g2, g3, g4, g5, g6]
def isCode : Jvm.Cond → Bool
  | .code _ _ _ _ => true
  | _ => false
theorem all_split {L : List Jvm.Cond} {P : Jvm.Cond → Bool} (h1 : L.all (fun c => isCode c || P c) = true) (h2 : ∀ c ∈ L.filter isCode, P c = true) : L.all P = true := by
  refine List.all_eq_true.mpr fun c hc => ?_
  have h := List.all_eq_true.mp h1 c hc
  rcases Bool.eq_false_or_eq_true (isCode c) with hi | hi
  · exact h2 c (List.mem_filter.mpr ⟨hc, hi⟩)
  · simpa [hi] using h
set_option maxRecDepth 65536 in
theorem w_c0 : (Jvm.Cond.code x code maxLocals ret).before args0 about1 = true := code_word (m := ⟨1, 1⟩) (meth := k1m1) (c := k1c1) (by decide +kernel) rfl rfl rfl (by decide +kernel)
set_option maxRecDepth 65536 in
theorem w_c1 : (Jvm.Cond.code ({ cls := "com/example/shardline/shardline/cluster/TermVersion", name := "<init>", desc := "(JJ)V" } : Jvm.MethodName) prog_16_method_1_code (5 : Nat) (Option.none : Option Jvm.ClassFile.FieldType)).before args0 about1 = true := code_word (m := ⟨4, 0⟩) (meth := k4m0) (c := k4c0) (by decide +kernel) rfl rfl rfl (by decide +kernel)
set_option maxRecDepth 65536 in
theorem w_c2 : (Jvm.Cond.code ({ cls := "java/lang/Record", name := "<init>", desc := "()V" } : Jvm.MethodName) jdk_30_method_1_code (1 : Nat) (Option.none : Option Jvm.ClassFile.FieldType)).before args0 about1 = true := code_word (m := ⟨2, 0⟩) (meth := k2m0) (c := k2c0) (by decide +kernel) rfl rfl rfl (by decide +kernel)
set_option maxRecDepth 65536 in
theorem w_c3 : (Jvm.Cond.code ({ cls := "java/lang/Object", name := "<init>", desc := "()V" } : Jvm.MethodName) object_method_1_code (1 : Nat) (Option.none : Option Jvm.ClassFile.FieldType)).before args0 about1 = true := code_word (m := ⟨0, 0⟩) (meth := k0m0) (c := k0c0) (by decide +kernel) rfl rfl rfl (by decide +kernel)
set_option maxRecDepth 65536 in
theorem w_c4 : (Jvm.Cond.code ({ cls := "com/example/shardline/shardline/cluster/TermVersionCompareToPinLaw", name := "ref", desc := "(JJJJ)I" } : Jvm.MethodName) method_3_code (8 : Nat) (Option.some Jvm.ClassFile.FieldType.int)).before args0 about1 = true := code_word (m := ⟨1, 2⟩) (meth := k1m2) (c := k1c2) (by decide +kernel) rfl rfl rfl (by decide +kernel)
set_option maxRecDepth 65536 in
theorem w_c5 : (Jvm.Cond.code ({ cls := "com/example/shardline/shardline/cluster/TermVersion", name := "compareTo", desc := "(Lcom/example/shardline/shardline/cluster/TermVersion;)I" } : Jvm.MethodName) prog_16_method_2_code (3 : Nat) (Option.some Jvm.ClassFile.FieldType.int)).before args0 about1 = true := code_word (m := ⟨4, 1⟩) (meth := k4m1) (c := k4c1) (by decide +kernel) rfl rfl rfl (by decide +kernel)
set_option maxRecDepth 65536 in
theorem w_c6 : (Jvm.Cond.code ({ cls := "java/lang/Long", name := "compare", desc := "(JJ)I" } : Jvm.MethodName) jdk_35_method_42_code (4 : Nat) (Option.some Jvm.ClassFile.FieldType.int)).before args0 about1 = true := code_word (m := ⟨9, 0⟩) (meth := k9m0) (c := k9c0) (by decide +kernel) rfl rfl rfl (by decide +kernel)
set_option maxRecDepth 65536 in
theorem w_c7 : (Jvm.Cond.code ({ cls := "com/example/shardline/shardline/cluster/TermVersionCompareToPinLaw", name := "sign", desc := "(I)I" } : Jvm.MethodName) method_4_code (1 : Nat) (Option.some Jvm.ClassFile.FieldType.int)).before args0 about1 = true := code_word (m := ⟨1, 3⟩) (meth := k1m3) (c := k1c3) (by decide +kernel) rfl rfl rfl (by decide +kernel)
def codes1 : List Jvm.Cond := [Jvm.Cond.code x code maxLocals ret, Jvm.Cond.code ({ cls := "com/example/shardline/shardline/cluster/TermVersion", name := "<init>", desc := "(JJ)V" } : Jvm.MethodName) prog_16_method_1_code (5 : Nat) (Option.none : Option Jvm.ClassFile.FieldType), Jvm.Cond.code ({ cls := "java/lang/Record", name := "<init>", desc := "()V" } : Jvm.MethodName) jdk_30_method_1_code (1 : Nat) (Option.none : Option Jvm.ClassFile.FieldType), Jvm.Cond.code ({ cls := "java/lang/Object", name := "<init>", desc := "()V" } : Jvm.MethodName) object_method_1_code (1 : Nat) (Option.none : Option Jvm.ClassFile.FieldType), Jvm.Cond.code ({ cls := "com/example/shardline/shardline/cluster/TermVersionCompareToPinLaw", name := "ref", desc := "(JJJJ)I" } : Jvm.MethodName) method_3_code (8 : Nat) (Option.some Jvm.ClassFile.FieldType.int), Jvm.Cond.code ({ cls := "com/example/shardline/shardline/cluster/TermVersion", name := "compareTo", desc := "(Lcom/example/shardline/shardline/cluster/TermVersion;)I" } : Jvm.MethodName) prog_16_method_2_code (3 : Nat) (Option.some Jvm.ClassFile.FieldType.int), Jvm.Cond.code ({ cls := "java/lang/Long", name := "compare", desc := "(JJ)I" } : Jvm.MethodName) jdk_35_method_42_code (4 : Nat) (Option.some Jvm.ClassFile.FieldType.int), Jvm.Cond.code ({ cls := "com/example/shardline/shardline/cluster/TermVersionCompareToPinLaw", name := "sign", desc := "(I)I" } : Jvm.MethodName) method_4_code (1 : Nat) (Option.some Jvm.ClassFile.FieldType.int)]
set_option maxRecDepth 65536 in
theorem codes_eq : words1.filter isCode = codes1 := rfl
theorem w_codes : ∀ c ∈ words1.filter isCode, c.before args0 about1 = true := by
  rw [codes_eq]
  intro c hc
  simp only [codes1, List.mem_cons, List.not_mem_nil, or_false] at hc
  rcases hc with rfl | rfl | rfl | rfl | rfl | rfl | rfl | rfl
  · exact w_c0
  · exact w_c1
  · exact w_c2
  · exact w_c3
  · exact w_c4
  · exact w_c5
  · exact w_c6
  · exact w_c7
set_option maxRecDepth 65536 in
theorem w_t1 : (words1.take 24).all (fun c => isCode c || c.before args0 about1) = true := by decide +kernel
set_option maxRecDepth 65536 in
theorem w_t2 : (words1.drop 24).all (fun c => isCode c || c.before args0 about1) = true := by decide +kernel
theorem w_tables : (allAtoms (Jvm.Cond.code x code maxLocals ret :: tables_1)).before args0 about1 = true := by
  rw [allAtoms_all]
  show words1.all (fun c => c.before args0 about1) = true
  refine all_split ?_ w_codes
  rw [← List.take_append_drop 24 words1, List.all_append, w_t1, w_t2]
  rfl
set_option maxRecDepth 65536 in
theorem w_case : (Jvm.Cond.and given_1 narrow_1).before args0 about1 = true := by decide +kernel
theorem w_applies : (headSpec (Jvm.Cond.code x code maxLocals ret :: tables_1) room_1).applies x e0.platform about1 = true :=
  (Spec.applies_iff w_frames).mpr ⟨w_running, w_runnable, w_alone, w_named, w_hears, w_ripe, w_room, w_tables⟩
theorem atStart : AtStart classFile x code maxLocals ret World_1 tables_1 room_1 Calls_1 rest_1 Pre_1 launch0 p0 e0 about1 theMethod args0 below0 :=
  ⟨lists_1, trivial, launch0.admits_env _ _ _, launch0.least_env, fairChoices_fair.cas, fairChoices_fair.clock, w_frames, w_args, w_heap, w_applies, trivial, trivial, w_case⟩
end start1
theorem witness_1 : WitnessClaimed_1 := ⟨start1.p0, start1.e0, start1.about1, start1.theMethod, start1.args0, start1.below0, start1.atStart⟩
end Jvm.Pilot.@@N@@
