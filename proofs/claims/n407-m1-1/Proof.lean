import JvmDerived
import JvmDerived.Pilot.@@N@@Statement
import JvmDerived.Pilot.@@N@@Code
set_option linter.unusedVariables false
set_option linter.unusedSimpArgs false
set_option maxRecDepth 65536
namespace Jvm.Pilot.@@N@@
open Jvm Jvm.ClassFile Sem Op Lib Jvm.Free Jvm.Stand Jvm.LawKit Jvm.RoadKit Bundle Jvm.Pilot.@@N@@.Jvm.D

section OwnKit
/-- a walk's fixed things: program, launch, environment, room, first state, method, arguments, frames below, the method, its code -/
abbrev own_B : Type := Program × Launch × Env × Room × State × MethodId × Array Value × List Frame × Method × Code
def own_Ok (B : own_B) (Z : State) (a0 : Array Value) (l0 : Launch) (R0 : Room) (y : MethodName) (code : ByteArray) (N : Nat) (ret : Option FieldType) : Prop :=
  match B with
  | (p, l, e, R, s, m, args, below, meth, c) => l = l0 ∧ R = R0 ∧ p.tables.exec = Jvm.exec ∧ Z.Warmed39 s.vm ∧ s.vm.findClass y.cls = some m.cls ∧ c.code = code ∧ c.maxLocals = N ∧ meth.sig.returnType = ret ∧ meth.locks = false ∧ meth.name = y.name ∧ (∀ (i : Nat) (d : Jvm.Cond), tables_1[i]? = some d → d.before a0 Z = true)
/-- the rest of the walk ends well -/
def own_Fin (p : Program) (e : Env) (below : List Frame) (s : State) (n0 : Nat) (Q : Option Value → Heap → Prop) (kc ks : Nat) (A : State) : Prop :=
  ∃ s₂ o, Steps p.tables e below A s₂ ∧ s₂.status = .running ∧ Ended s₂ below o ∧ ∃ v L, o = .returned v ∧ (Q v s₂.heap ∧ Fr n0 L) ∧ FrameEnd s o s₂ L kc ks
theorem own_go {p : Program} {e : Env} {below : List Frame} {s : State} {n0 : Nat} {Q : Option Value → Heap → Prop} {kc ks : Nat} {A A' : State} (st : ∀ t, Steps p.tables e below A' t → Steps p.tables e below A t) (k : own_Fin p e below s n0 Q kc ks A') : own_Fin p e below s n0 Q kc ks A := by
  obtain ⟨s2, o, h1, r⟩ := k
  exact ⟨s2, o, st _ h1, r⟩
/-- from this point (heap h, at most so many cells and slots made, pc, locals, stack) the walk ends in Q -/
def own_G (B : own_B) (n0 : Nat) (Q : Option Value → Heap → Prop) (kc ks cells slots : Nat) (h : Heap) (pc : Nat) (Ls : Array Slot) (st : List Value) : Prop :=
  match B with
  | (p, l, e, R, s, m, args, below, meth, c) => ∀ (T : State) (locs : List Loc) (c1 s1 : Nat), Stand p l e R s m args below meth c T locs c1 s1 → Fr n0 locs → c1 ≤ cells → s1 ≤ slots → T.heap = h → own_Fin p e below s n0 Q kc ks (T.setTop (mkF m pc Ls st))
/-- a method's contract -/
def own_Met (l : Launch) (Z : State) (ws : List Jvm.Cond) (y : MethodName) (bytes : ByteArray) (maxL : Nat) (ret : Option FieldType) (rm : Room) (as : Array Value) (h : Heap) (n0 kc ks : Nat) (Q : Option Value → Heap → Prop) : Prop :=
  MetFree l y (head1 (Jvm.Cond.code y bytes maxL ret :: ws) rm) (fun a U => a = as ∧ Z.Warmed39 U.vm ∧ U.heap = h) (fun _ _ _ _ _ => True) (fun _ U o U' => ∃ v L, o = .returned v ∧ (Q v U'.heap ∧ Fr n0 L) ∧ FrameEnd U o U' L kc ks)
/-- a callee's contract -/
abbrev own_C (l : Launch) (Z : State) (y : MethodName) (bytes : ByteArray) (maxL : Nat) (ret : Option FieldType) (rm : Room) (as : Array Value) (h : Heap) (n0 : Nat) (Q : Option Value → Heap → Prop) : Prop := own_Met l Z [] y bytes maxL ret rm as h n0 rm.cells rm.slots Q
/-- a callee that returns w and leaves the heap -/
abbrev own_P (l : Launch) (Z : State) (y : MethodName) (bytes : ByteArray) (maxL : Nat) (ret : Option FieldType) (rm : Room) (as : Array Value) (h : Heap) (n0 : Nat) (w : Value) : Prop := own_C l Z y bytes maxL ret rm as h n0 (fun v h' => v = some w ∧ h = h')
abbrev own_rm (f lo : Nat) : Room := { frames := f, cells := 0, slots := 0, locals := lo }
theorem own_met {l : Launch} {Z : State} {a0 : Array Value} {ws : List Jvm.Cond} {y : MethodName} {bytes : ByteArray} {maxL : Nat} {ret : Option FieldType} {rm : Room} {as : Array Value} {h : Heap} {n0 kc ks : Nat} {Q : Option Value → Heap → Prop} {Ls : Array Slot}
    (hw : ∀ (i : Nat) (d : Jvm.Cond), tables_1[i]? = some d → d.before a0 Z = true) (hpl : plainFor y = true) (hef : ∀ m, entryFrame m as maxL = mkF m 0 Ls [])
    (body : ∀ B : own_B, own_Ok B Z a0 l rm y bytes maxL ret → own_G B n0 Q kc ks 0 0 h 0 Ls []) : own_Met l Z ws y bytes maxL ret rm as h n0 kc ks Q := by
  refine MetFree.of_bodySF hpl hisR ?_
  intro p e s m args below meth c s₁ Bd hml0 hP hK
  obtain ⟨rfl, hZ, hh⟩ := hP
  have X0 := Stand.of_body Bd
  have e0 : s₁.heap = h := by rw [← hh, Bd.state]; rfl
  have q := body (p, l, e, rm, s, m, args, below, meth, c) ⟨rfl, rfl, Bd.exec, hZ, findClass_of_methodNamed Bd.named, Bd.bytes, hml0, Bd.returns, Bd.notSynchronized, (name_of_methodNamed Bd.named Bd.method).1, hw⟩ s₁ [] 0 0 X0 (Fr.nil n0) (Nat.le_refl _) (Nat.le_refl _) e0
  rw [hef m]
  exact q
section Laws
variable {B : own_B} {Z : State} {a0 : Array Value} {l : Launch} {R : Room} {y : MethodName} {code : ByteArray} {N : Nat} {ret : Option FieldType} {n0 : Nat} {Q : Option Value → Heap → Prop} {kc ks cells slots : Nat} {h : Heap} {pc pc' : Nat} {Ls Ls' : Array Slot} {st : List Value}
theorem own_mono {cells' slots' : Nat} (hc : cells ≤ cells') (hs : slots ≤ slots') (k : own_G B n0 Q kc ks cells' slots' h pc Ls st) : own_G B n0 Q kc ks cells slots h pc Ls st := by
  obtain ⟨p, l, e, R, s, m, args, below, meth, c⟩ := B
  intro T locs c1 s1 X F q1 q2 eT
  exact k T locs c1 s1 X F (Nat.le_trans q1 hc) (Nat.le_trans q2 hs) eT
theorem own_cut (pc' : Nat) (Ls' : Array Slot) (st' : List Value) (f : own_G B n0 Q kc ks cells slots h pc' Ls' st' → own_G B n0 Q kc ks cells slots h pc Ls st) (k : own_G B n0 Q kc ks cells slots h pc' Ls' st') : own_G B n0 Q kc ks cells slots h pc Ls st := f k
theorem own_cast {Ls' : Array Slot} {st' : List Value} (hL : Ls = Ls') (hS : st = st') (k : own_G B n0 Q kc ks cells slots h pc Ls' st') : own_G B n0 Q kc ks cells slots h pc Ls st := by
  subst hL hS
  exact k
theorem own_w (H : own_Ok B Z a0 l R y code N ret) {i : Nat} {d : Jvm.Cond} (q : tables_1[i]? = some d) : d.before a0 Z = true := by
  obtain ⟨p, l, e, R, s, m, args, below, meth, c⟩ := B
  exact H.2.2.2.2.2.2.2.2.2.2 i d q
theorem own_hw (H : own_Ok B Z a0 l R y code N ret) : ∀ (i : Nat) (d : Jvm.Cond), tables_1[i]? = some d → d.before a0 Z = true := by
  obtain ⟨p, l, e, R, s, m, args, below, meth, c⟩ := B
  exact H.2.2.2.2.2.2.2.2.2.2
theorem own_iadd (H : own_Ok B Z a0 l R y code N ret) {x z v : Int32} (hv : x + z = v) (hd : decode code pc = .ok (.iadd, 1)) (k : own_G B n0 Q kc ks cells slots h (pc + 1) Ls (.int v :: st)) : own_G B n0 Q kc ks cells slots h pc Ls (.int z :: .int x :: st) := by
  subst hv
  obtain ⟨p, l, e, R, s, m, args, below, meth, c⟩ := B
  obtain ⟨rfl, rfl, hx, hZ, hown, hby, hml, hrt, hlk, hnm, hw⟩ := H
  intro T locs c1 s1 X F hc hs eT
  exact own_go (fun t q => XS.iadd X.here hx rfl (hb hby hd) rfl q) (k T locs c1 s1 X F hc hs eT)
theorem own_isub (H : own_Ok B Z a0 l R y code N ret) {x z v : Int32} (hv : x - z = v) (hd : decode code pc = .ok (.isub, 1)) (k : own_G B n0 Q kc ks cells slots h (pc + 1) Ls (.int v :: st)) : own_G B n0 Q kc ks cells slots h pc Ls (.int z :: .int x :: st) := by
  subst hv
  obtain ⟨p, l, e, R, s, m, args, below, meth, c⟩ := B
  obtain ⟨rfl, rfl, hx, hZ, hown, hby, hml, hrt, hlk, hnm, hw⟩ := H
  intro T locs c1 s1 X F hc hs eT
  exact own_go (fun t q => XS.isub X.here hx rfl (hb hby hd) rfl q) (k T locs c1 s1 X F hc hs eT)
theorem own_imul (H : own_Ok B Z a0 l R y code N ret) {x z v : Int32} (hv : x * z = v) (hd : decode code pc = .ok (.imul, 1)) (k : own_G B n0 Q kc ks cells slots h (pc + 1) Ls (.int v :: st)) : own_G B n0 Q kc ks cells slots h pc Ls (.int z :: .int x :: st) := by
  subst hv
  obtain ⟨p, l, e, R, s, m, args, below, meth, c⟩ := B
  obtain ⟨rfl, rfl, hx, hZ, hown, hby, hml, hrt, hlk, hnm, hw⟩ := H
  intro T locs c1 s1 X F hc hs eT
  exact own_go (fun t q => XS.imul X.here hx rfl (hb hby hd) rfl q) (k T locs c1 s1 X F hc hs eT)
theorem own_iand (H : own_Ok B Z a0 l R y code N ret) {x z v : Int32} (hv : x &&& z = v) (hd : decode code pc = .ok (.iand, 1)) (k : own_G B n0 Q kc ks cells slots h (pc + 1) Ls (.int v :: st)) : own_G B n0 Q kc ks cells slots h pc Ls (.int z :: .int x :: st) := by
  subst hv
  obtain ⟨p, l, e, R, s, m, args, below, meth, c⟩ := B
  obtain ⟨rfl, rfl, hx, hZ, hown, hby, hml, hrt, hlk, hnm, hw⟩ := H
  intro T locs c1 s1 X F hc hs eT
  exact own_go (fun t q => XS.iand X.here hx rfl (hb hby hd) rfl q) (k T locs c1 s1 X F hc hs eT)
theorem own_ior (H : own_Ok B Z a0 l R y code N ret) {x z v : Int32} (hv : x ||| z = v) (hd : decode code pc = .ok (.ior, 1)) (k : own_G B n0 Q kc ks cells slots h (pc + 1) Ls (.int v :: st)) : own_G B n0 Q kc ks cells slots h pc Ls (.int z :: .int x :: st) := by
  subst hv
  obtain ⟨p, l, e, R, s, m, args, below, meth, c⟩ := B
  obtain ⟨rfl, rfl, hx, hZ, hown, hby, hml, hrt, hlk, hnm, hw⟩ := H
  intro T locs c1 s1 X F hc hs eT
  exact own_go (fun t q => XT.ior X.here hx rfl (hb hby hd) rfl q) (k T locs c1 s1 X F hc hs eT)
theorem own_ixor (H : own_Ok B Z a0 l R y code N ret) {x z v : Int32} (hv : x ^^^ z = v) (hd : decode code pc = .ok (.ixor, 1)) (k : own_G B n0 Q kc ks cells slots h (pc + 1) Ls (.int v :: st)) : own_G B n0 Q kc ks cells slots h pc Ls (.int z :: .int x :: st) := by
  subst hv
  obtain ⟨p, l, e, R, s, m, args, below, meth, c⟩ := B
  obtain ⟨rfl, rfl, hx, hZ, hown, hby, hml, hrt, hlk, hnm, hw⟩ := H
  intro T locs c1 s1 X F hc hs eT
  exact own_go (fun t q => XT.ixor X.here hx rfl (hb hby hd) rfl q) (k T locs c1 s1 X F hc hs eT)
theorem own_ishl (H : own_Ok B Z a0 l R y code N ret) {x z v : Int32} (hv : x <<< (z &&& 31) = v) (hd : decode code pc = .ok (.ishl, 1)) (k : own_G B n0 Q kc ks cells slots h (pc + 1) Ls (.int v :: st)) : own_G B n0 Q kc ks cells slots h pc Ls (.int z :: .int x :: st) := by
  subst hv
  obtain ⟨p, l, e, R, s, m, args, below, meth, c⟩ := B
  obtain ⟨rfl, rfl, hx, hZ, hown, hby, hml, hrt, hlk, hnm, hw⟩ := H
  intro T locs c1 s1 X F hc hs eT
  exact own_go (fun t q => XT.ishl X.here hx rfl (hb hby hd) rfl q) (k T locs c1 s1 X F hc hs eT)
theorem own_ishr (H : own_Ok B Z a0 l R y code N ret) {x z v : Int32} (hv : x >>> (z &&& 31) = v) (hd : decode code pc = .ok (.ishr, 1)) (k : own_G B n0 Q kc ks cells slots h (pc + 1) Ls (.int v :: st)) : own_G B n0 Q kc ks cells slots h pc Ls (.int z :: .int x :: st) := by
  subst hv
  obtain ⟨p, l, e, R, s, m, args, below, meth, c⟩ := B
  obtain ⟨rfl, rfl, hx, hZ, hown, hby, hml, hrt, hlk, hnm, hw⟩ := H
  intro T locs c1 s1 X F hc hs eT
  exact own_go (fun t q => XT.ishr X.here hx rfl (hb hby hd) rfl q) (k T locs c1 s1 X F hc hs eT)
theorem own_iushr (H : own_Ok B Z a0 l R y code N ret) {x z v : Int32} (hv : XT.ushr x z = v) (hd : decode code pc = .ok (.iushr, 1)) (k : own_G B n0 Q kc ks cells slots h (pc + 1) Ls (.int v :: st)) : own_G B n0 Q kc ks cells slots h pc Ls (.int z :: .int x :: st) := by
  subst hv
  obtain ⟨p, l, e, R, s, m, args, below, meth, c⟩ := B
  obtain ⟨rfl, rfl, hx, hZ, hown, hby, hml, hrt, hlk, hnm, hw⟩ := H
  intro T locs c1 s1 X F hc hs eT
  exact own_go (fun t q => XT.iushr X.here hx rfl (hb hby hd) rfl q) (k T locs c1 s1 X F hc hs eT)
theorem own_ladd (H : own_Ok B Z a0 l R y code N ret) {x z v : Int64} (hv : x + z = v) (hd : decode code pc = .ok (.ladd, 1)) (k : own_G B n0 Q kc ks cells slots h (pc + 1) Ls (.long v :: st)) : own_G B n0 Q kc ks cells slots h pc Ls (.long z :: .long x :: st) := by
  subst hv
  obtain ⟨p, l, e, R, s, m, args, below, meth, c⟩ := B
  obtain ⟨rfl, rfl, hx, hZ, hown, hby, hml, hrt, hlk, hnm, hw⟩ := H
  intro T locs c1 s1 X F hc hs eT
  exact own_go (fun t q => XT.ladd X.here hx rfl (hb hby hd) rfl q) (k T locs c1 s1 X F hc hs eT)
theorem own_lsub (H : own_Ok B Z a0 l R y code N ret) {x z v : Int64} (hv : x - z = v) (hd : decode code pc = .ok (.lsub, 1)) (k : own_G B n0 Q kc ks cells slots h (pc + 1) Ls (.long v :: st)) : own_G B n0 Q kc ks cells slots h pc Ls (.long z :: .long x :: st) := by
  subst hv
  obtain ⟨p, l, e, R, s, m, args, below, meth, c⟩ := B
  obtain ⟨rfl, rfl, hx, hZ, hown, hby, hml, hrt, hlk, hnm, hw⟩ := H
  intro T locs c1 s1 X F hc hs eT
  exact own_go (fun t q => XT.lsub X.here hx rfl (hb hby hd) rfl q) (k T locs c1 s1 X F hc hs eT)
theorem own_lmul (H : own_Ok B Z a0 l R y code N ret) {x z v : Int64} (hv : x * z = v) (hd : decode code pc = .ok (.lmul, 1)) (k : own_G B n0 Q kc ks cells slots h (pc + 1) Ls (.long v :: st)) : own_G B n0 Q kc ks cells slots h pc Ls (.long z :: .long x :: st) := by
  subst hv
  obtain ⟨p, l, e, R, s, m, args, below, meth, c⟩ := B
  obtain ⟨rfl, rfl, hx, hZ, hown, hby, hml, hrt, hlk, hnm, hw⟩ := H
  intro T locs c1 s1 X F hc hs eT
  exact own_go (fun t q => XT.lmul X.here hx rfl (hb hby hd) rfl q) (k T locs c1 s1 X F hc hs eT)
theorem own_land (H : own_Ok B Z a0 l R y code N ret) {x z v : Int64} (hv : x &&& z = v) (hd : decode code pc = .ok (.land, 1)) (k : own_G B n0 Q kc ks cells slots h (pc + 1) Ls (.long v :: st)) : own_G B n0 Q kc ks cells slots h pc Ls (.long z :: .long x :: st) := by
  subst hv
  obtain ⟨p, l, e, R, s, m, args, below, meth, c⟩ := B
  obtain ⟨rfl, rfl, hx, hZ, hown, hby, hml, hrt, hlk, hnm, hw⟩ := H
  intro T locs c1 s1 X F hc hs eT
  exact own_go (fun t q => XT.land X.here hx rfl (hb hby hd) rfl q) (k T locs c1 s1 X F hc hs eT)
theorem own_lor (H : own_Ok B Z a0 l R y code N ret) {x z v : Int64} (hv : x ||| z = v) (hd : decode code pc = .ok (.lor, 1)) (k : own_G B n0 Q kc ks cells slots h (pc + 1) Ls (.long v :: st)) : own_G B n0 Q kc ks cells slots h pc Ls (.long z :: .long x :: st) := by
  subst hv
  obtain ⟨p, l, e, R, s, m, args, below, meth, c⟩ := B
  obtain ⟨rfl, rfl, hx, hZ, hown, hby, hml, hrt, hlk, hnm, hw⟩ := H
  intro T locs c1 s1 X F hc hs eT
  exact own_go (fun t q => XT.lor X.here hx rfl (hb hby hd) rfl q) (k T locs c1 s1 X F hc hs eT)
theorem own_lxor (H : own_Ok B Z a0 l R y code N ret) {x z v : Int64} (hv : x ^^^ z = v) (hd : decode code pc = .ok (.lxor, 1)) (k : own_G B n0 Q kc ks cells slots h (pc + 1) Ls (.long v :: st)) : own_G B n0 Q kc ks cells slots h pc Ls (.long z :: .long x :: st) := by
  subst hv
  obtain ⟨p, l, e, R, s, m, args, below, meth, c⟩ := B
  obtain ⟨rfl, rfl, hx, hZ, hown, hby, hml, hrt, hlk, hnm, hw⟩ := H
  intro T locs c1 s1 X F hc hs eT
  exact own_go (fun t q => XT.lxor X.here hx rfl (hb hby hd) rfl q) (k T locs c1 s1 X F hc hs eT)
theorem own_idiv (H : own_Ok B Z a0 l R y code N ret) {x z v : Int32} (hv : x / z = v) (hd : decode code pc = .ok (.idiv, 1)) (hz : z ≠ 0) (k : own_G B n0 Q kc ks cells slots h (pc + 1) Ls (.int v :: st)) : own_G B n0 Q kc ks cells slots h pc Ls (.int z :: .int x :: st) := by
  subst hv
  obtain ⟨p, l, e, R, s, m, args, below, meth, c⟩ := B
  obtain ⟨rfl, rfl, hx, hZ, hown, hby, hml, hrt, hlk, hnm, hw⟩ := H
  intro T locs c1 s1 X F hc hs eT
  exact own_go (fun t q => XS.idiv X.here hx rfl (hb hby hd) rfl hz q) (k T locs c1 s1 X F hc hs eT)
theorem own_irem (H : own_Ok B Z a0 l R y code N ret) {x z v : Int32} (hv : x % z = v) (hd : decode code pc = .ok (.irem, 1)) (hz : z ≠ 0) (k : own_G B n0 Q kc ks cells slots h (pc + 1) Ls (.int v :: st)) : own_G B n0 Q kc ks cells slots h pc Ls (.int z :: .int x :: st) := by
  subst hv
  obtain ⟨p, l, e, R, s, m, args, below, meth, c⟩ := B
  obtain ⟨rfl, rfl, hx, hZ, hown, hby, hml, hrt, hlk, hnm, hw⟩ := H
  intro T locs c1 s1 X F hc hs eT
  exact own_go (fun t q => iremM X hx rfl (hb hby hd) rfl hz q) (k T locs c1 s1 X F hc hs eT)
theorem own_ldiv (H : own_Ok B Z a0 l R y code N ret) {x z v : Int64} (hv : x / z = v) (hd : decode code pc = .ok (.ldiv, 1)) (hz : z ≠ 0) (k : own_G B n0 Q kc ks cells slots h (pc + 1) Ls (.long v :: st)) : own_G B n0 Q kc ks cells slots h pc Ls (.long z :: .long x :: st) := by
  subst hv
  obtain ⟨p, l, e, R, s, m, args, below, meth, c⟩ := B
  obtain ⟨rfl, rfl, hx, hZ, hown, hby, hml, hrt, hlk, hnm, hw⟩ := H
  intro T locs c1 s1 X F hc hs eT
  exact own_go (fun t q => XT.ldiv X.here hx rfl (hb hby hd) rfl hz q) (k T locs c1 s1 X F hc hs eT)
theorem own_lrem (H : own_Ok B Z a0 l R y code N ret) {x z v : Int64} (hv : x - x / z * z = v) (hd : decode code pc = .ok (.lrem, 1)) (hz : z ≠ 0) (k : own_G B n0 Q kc ks cells slots h (pc + 1) Ls (.long v :: st)) : own_G B n0 Q kc ks cells slots h pc Ls (.long z :: .long x :: st) := by
  subst hv
  obtain ⟨p, l, e, R, s, m, args, below, meth, c⟩ := B
  obtain ⟨rfl, rfl, hx, hZ, hown, hby, hml, hrt, hlk, hnm, hw⟩ := H
  intro T locs c1 s1 X F hc hs eT
  exact own_go (fun t q => XT.lrem X.here hx rfl (hb hby hd) rfl hz q) (k T locs c1 s1 X F hc hs eT)
theorem own_lshl (H : own_Ok B Z a0 l R y code N ret) {x v : Int64} {z : Int32} (hv : x <<< (z.toInt64 &&& 63) = v) (hd : decode code pc = .ok (.lshl, 1)) (k : own_G B n0 Q kc ks cells slots h (pc + 1) Ls (.long v :: st)) : own_G B n0 Q kc ks cells slots h pc Ls (.int z :: .long x :: st) := by
  subst hv
  obtain ⟨p, l, e, R, s, m, args, below, meth, c⟩ := B
  obtain ⟨rfl, rfl, hx, hZ, hown, hby, hml, hrt, hlk, hnm, hw⟩ := H
  intro T locs c1 s1 X F hc hs eT
  exact own_go (fun t q => XT.lshl X.here hx rfl (hb hby hd) rfl q) (k T locs c1 s1 X F hc hs eT)
theorem own_lshr (H : own_Ok B Z a0 l R y code N ret) {x v : Int64} {z : Int32} (hv : x >>> (z.toInt64 &&& 63) = v) (hd : decode code pc = .ok (.lshr, 1)) (k : own_G B n0 Q kc ks cells slots h (pc + 1) Ls (.long v :: st)) : own_G B n0 Q kc ks cells slots h pc Ls (.int z :: .long x :: st) := by
  subst hv
  obtain ⟨p, l, e, R, s, m, args, below, meth, c⟩ := B
  obtain ⟨rfl, rfl, hx, hZ, hown, hby, hml, hrt, hlk, hnm, hw⟩ := H
  intro T locs c1 s1 X F hc hs eT
  exact own_go (fun t q => XT.lshr X.here hx rfl (hb hby hd) rfl q) (k T locs c1 s1 X F hc hs eT)
theorem own_lushr (H : own_Ok B Z a0 l R y code N ret) {x v : Int64} {z : Int32} (hv : XT.ushrL x z = v) (hd : decode code pc = .ok (.lushr, 1)) (k : own_G B n0 Q kc ks cells slots h (pc + 1) Ls (.long v :: st)) : own_G B n0 Q kc ks cells slots h pc Ls (.int z :: .long x :: st) := by
  subst hv
  obtain ⟨p, l, e, R, s, m, args, below, meth, c⟩ := B
  obtain ⟨rfl, rfl, hx, hZ, hown, hby, hml, hrt, hlk, hnm, hw⟩ := H
  intro T locs c1 s1 X F hc hs eT
  exact own_go (fun t q => XT.lushr X.here hx rfl (hb hby hd) rfl q) (k T locs c1 s1 X F hc hs eT)
theorem own_ineg (H : own_Ok B Z a0 l R y code N ret) {x : Int32} {v : Int32} (hv : -x = v) (hd : decode code pc = .ok (.ineg, 1)) (k : own_G B n0 Q kc ks cells slots h (pc + 1) Ls (.int v :: st)) : own_G B n0 Q kc ks cells slots h pc Ls (.int x :: st) := by
  subst hv
  obtain ⟨p, l, e, R, s, m, args, below, meth, c⟩ := B
  obtain ⟨rfl, rfl, hx, hZ, hown, hby, hml, hrt, hlk, hnm, hw⟩ := H
  intro T locs c1 s1 X F hc hs eT
  exact own_go (fun t q => XS.ineg X.here hx rfl (hb hby hd) rfl q) (k T locs c1 s1 X F hc hs eT)
theorem own_lneg (H : own_Ok B Z a0 l R y code N ret) {x : Int64} {v : Int64} (hv : -x = v) (hd : decode code pc = .ok (.lneg, 1)) (k : own_G B n0 Q kc ks cells slots h (pc + 1) Ls (.long v :: st)) : own_G B n0 Q kc ks cells slots h pc Ls (.long x :: st) := by
  subst hv
  obtain ⟨p, l, e, R, s, m, args, below, meth, c⟩ := B
  obtain ⟨rfl, rfl, hx, hZ, hown, hby, hml, hrt, hlk, hnm, hw⟩ := H
  intro T locs c1 s1 X F hc hs eT
  exact own_go (fun t q => XT.lneg X.here hx rfl (hb hby hd) rfl q) (k T locs c1 s1 X F hc hs eT)
theorem own_i2l (H : own_Ok B Z a0 l R y code N ret) {x : Int32} {v : Int64} (hv : x.toInt64 = v) (hd : decode code pc = .ok (.i2l, 1)) (k : own_G B n0 Q kc ks cells slots h (pc + 1) Ls (.long v :: st)) : own_G B n0 Q kc ks cells slots h pc Ls (.int x :: st) := by
  subst hv
  obtain ⟨p, l, e, R, s, m, args, below, meth, c⟩ := B
  obtain ⟨rfl, rfl, hx, hZ, hown, hby, hml, hrt, hlk, hnm, hw⟩ := H
  intro T locs c1 s1 X F hc hs eT
  exact own_go (fun t q => XT.i2l X.here hx rfl (hb hby hd) rfl q) (k T locs c1 s1 X F hc hs eT)
theorem own_l2i (H : own_Ok B Z a0 l R y code N ret) {x : Int64} {v : Int32} (hv : x.toInt32 = v) (hd : decode code pc = .ok (.l2i, 1)) (k : own_G B n0 Q kc ks cells slots h (pc + 1) Ls (.int v :: st)) : own_G B n0 Q kc ks cells slots h pc Ls (.long x :: st) := by
  subst hv
  obtain ⟨p, l, e, R, s, m, args, below, meth, c⟩ := B
  obtain ⟨rfl, rfl, hx, hZ, hown, hby, hml, hrt, hlk, hnm, hw⟩ := H
  intro T locs c1 s1 X F hc hs eT
  exact own_go (fun t q => XT.l2i X.here hx rfl (hb hby hd) rfl q) (k T locs c1 s1 X F hc hs eT)
theorem own_i2b (H : own_Ok B Z a0 l R y code N ret) {x : Int32} {v : Int32} (hv : x.toInt8.toInt32 = v) (hd : decode code pc = .ok (.i2b, 1)) (k : own_G B n0 Q kc ks cells slots h (pc + 1) Ls (.int v :: st)) : own_G B n0 Q kc ks cells slots h pc Ls (.int x :: st) := by
  subst hv
  obtain ⟨p, l, e, R, s, m, args, below, meth, c⟩ := B
  obtain ⟨rfl, rfl, hx, hZ, hown, hby, hml, hrt, hlk, hnm, hw⟩ := H
  intro T locs c1 s1 X F hc hs eT
  exact own_go (fun t q => XT.i2b X.here hx rfl (hb hby hd) rfl q) (k T locs c1 s1 X F hc hs eT)
theorem own_i2c (H : own_Ok B Z a0 l R y code N ret) {x : Int32} {v : Int32} (hv : x.toUInt32.toUInt16.toUInt32.toInt32 = v) (hd : decode code pc = .ok (.i2c, 1)) (k : own_G B n0 Q kc ks cells slots h (pc + 1) Ls (.int v :: st)) : own_G B n0 Q kc ks cells slots h pc Ls (.int x :: st) := by
  subst hv
  obtain ⟨p, l, e, R, s, m, args, below, meth, c⟩ := B
  obtain ⟨rfl, rfl, hx, hZ, hown, hby, hml, hrt, hlk, hnm, hw⟩ := H
  intro T locs c1 s1 X F hc hs eT
  exact own_go (fun t q => XT.i2c X.here hx rfl (hb hby hd) rfl q) (k T locs c1 s1 X F hc hs eT)
theorem own_i2s (H : own_Ok B Z a0 l R y code N ret) {x : Int32} {v : Int32} (hv : x.toInt16.toInt32 = v) (hd : decode code pc = .ok (.i2s, 1)) (k : own_G B n0 Q kc ks cells slots h (pc + 1) Ls (.int v :: st)) : own_G B n0 Q kc ks cells slots h pc Ls (.int x :: st) := by
  subst hv
  obtain ⟨p, l, e, R, s, m, args, below, meth, c⟩ := B
  obtain ⟨rfl, rfl, hx, hZ, hown, hby, hml, hrt, hlk, hnm, hw⟩ := H
  intro T locs c1 s1 X F hc hs eT
  exact own_go (fun t q => XT.i2s X.here hx rfl (hb hby hd) rfl q) (k T locs c1 s1 X F hc hs eT)
theorem own_iconst (H : own_Ok B Z a0 l R y code N ret) {i : Int} (v : Int32) (hv : Int32.ofInt i = v) (hd : decode code pc = .ok (.iconst i, 1)) (k : own_G B n0 Q kc ks cells slots h (pc + 1) Ls (.int v :: st)) : own_G B n0 Q kc ks cells slots h pc Ls st := by
  obtain ⟨p, l, e, R, s, m, args, below, meth, c⟩ := B
  obtain ⟨rfl, rfl, hx, hZ, hown, hby, hml, hrt, hlk, hnm, hw⟩ := H
  intro T locs c1 s1 X F hc hs eT
  exact own_go (fun t q => XT.iconstV X.here hx rfl v (hb hby hd) hv q) (k T locs c1 s1 X F hc hs eT)
theorem own_bipush (H : own_Ok B Z a0 l R y code N ret) {i : Int} (v : Int32) (hv : (Int8.ofInt i).toInt32 = v) (hd : decode code pc = .ok (.bipush i, 2)) (k : own_G B n0 Q kc ks cells slots h (pc + 2) Ls (.int v :: st)) : own_G B n0 Q kc ks cells slots h pc Ls st := by
  obtain ⟨p, l, e, R, s, m, args, below, meth, c⟩ := B
  obtain ⟨rfl, rfl, hx, hZ, hown, hby, hml, hrt, hlk, hnm, hw⟩ := H
  intro T locs c1 s1 X F hc hs eT
  exact own_go (fun t q => XT.bipushV X.here hx rfl v (hb hby hd) hv q) (k T locs c1 s1 X F hc hs eT)
theorem own_sipush (H : own_Ok B Z a0 l R y code N ret) {i : Int} (v : Int32) (hv : (Int16.ofInt i).toInt32 = v) (hd : decode code pc = .ok (.sipush i, 3)) (k : own_G B n0 Q kc ks cells slots h (pc + 3) Ls (.int v :: st)) : own_G B n0 Q kc ks cells slots h pc Ls st := by
  obtain ⟨p, l, e, R, s, m, args, below, meth, c⟩ := B
  obtain ⟨rfl, rfl, hx, hZ, hown, hby, hml, hrt, hlk, hnm, hw⟩ := H
  intro T locs c1 s1 X F hc hs eT
  exact own_go (fun t q => XT.sipushV X.here hx rfl v (hb hby hd) hv q) (k T locs c1 s1 X F hc hs eT)
theorem own_lconst (H : own_Ok B Z a0 l R y code N ret) {i : Fin 2} (v : Int64) (hv : Int64.ofNat i = v) (hd : decode code pc = .ok (.lconst i, 1)) (k : own_G B n0 Q kc ks cells slots h (pc + 1) Ls (.long v :: st)) : own_G B n0 Q kc ks cells slots h pc Ls st := by
  obtain ⟨p, l, e, R, s, m, args, below, meth, c⟩ := B
  obtain ⟨rfl, rfl, hx, hZ, hown, hby, hml, hrt, hlk, hnm, hw⟩ := H
  intro T locs c1 s1 X F hc hs eT
  exact own_go (fun t q => XT.lconstV X.here hx rfl v (hb hby hd) hv q) (k T locs c1 s1 X F hc hs eT)
theorem own_aconst_null (H : own_Ok B Z a0 l R y code N ret)  (hd : decode code pc = .ok (.aconst_null, 1)) (k : own_G B n0 Q kc ks cells slots h (pc + 1) Ls (.null :: st)) : own_G B n0 Q kc ks cells slots h pc Ls st := by
  obtain ⟨p, l, e, R, s, m, args, below, meth, c⟩ := B
  obtain ⟨rfl, rfl, hx, hZ, hown, hby, hml, hrt, hlk, hnm, hw⟩ := H
  intro T locs c1 s1 X F hc hs eT
  exact own_go (fun t q => XS.aconstNull X.here hx rfl (hb hby hd)  q) (k T locs c1 s1 X F hc hs eT)
theorem own_dup (H : own_Ok B Z a0 l R y code N ret) {x : Value} (hq : x.category = 1) (hd : decode code pc = .ok (.dup, 1)) (k : own_G B n0 Q kc ks cells slots h (pc + 1) Ls (x :: x :: st)) : own_G B n0 Q kc ks cells slots h pc Ls (x :: st) := by
  obtain ⟨p, l, e, R, s, m, args, below, meth, c⟩ := B
  obtain ⟨rfl, rfl, hx, hZ, hown, hby, hml, hrt, hlk, hnm, hw⟩ := H
  intro T locs c1 s1 X F hc hs eT
  exact own_go (fun t q => XS.dup X.here hx rfl (hb hby hd) rfl hq q) (k T locs c1 s1 X F hc hs eT)
theorem own_dup2 (H : own_Ok B Z a0 l R y code N ret) {x z : Value} (hq : x.category = 1) (hq' : z.category = 1) (hd : decode code pc = .ok (.dup2, 1)) (k : own_G B n0 Q kc ks cells slots h (pc + 1) Ls (x :: z :: x :: z :: st)) : own_G B n0 Q kc ks cells slots h pc Ls (x :: z :: st) := by
  obtain ⟨p, l, e, R, s, m, args, below, meth, c⟩ := B
  obtain ⟨rfl, rfl, hx, hZ, hown, hby, hml, hrt, hlk, hnm, hw⟩ := H
  intro T locs c1 s1 X F hc hs eT
  exact own_go (fun t q => XT.dup2 X.here hx rfl (hb hby hd) rfl hq hq' q) (k T locs c1 s1 X F hc hs eT)
theorem own_dup2L (H : own_Ok B Z a0 l R y code N ret) {x : Int64} (hd : decode code pc = .ok (.dup2, 1)) (k : own_G B n0 Q kc ks cells slots h (pc + 1) Ls (.long x :: .long x :: st)) : own_G B n0 Q kc ks cells slots h pc Ls (.long x :: st) := by
  obtain ⟨p, l, e, R, s, m, args, below, meth, c⟩ := B
  obtain ⟨rfl, rfl, hx, hZ, hown, hby, hml, hrt, hlk, hnm, hw⟩ := H
  intro T locs c1 s1 X F hc hs eT
  exact own_go (fun t q => XT.dup2L X.here hx rfl (hb hby hd) rfl q) (k T locs c1 s1 X F hc hs eT)
theorem own_dup_x1 (H : own_Ok B Z a0 l R y code N ret) {x z : Value} (hq : x.category = 1) (hq' : z.category = 1) (hd : decode code pc = .ok (.dup_x1, 1)) (k : own_G B n0 Q kc ks cells slots h (pc + 1) Ls (x :: z :: x :: st)) : own_G B n0 Q kc ks cells slots h pc Ls (x :: z :: st) := by
  obtain ⟨p, l, e, R, s, m, args, below, meth, c⟩ := B
  obtain ⟨rfl, rfl, hx, hZ, hown, hby, hml, hrt, hlk, hnm, hw⟩ := H
  intro T locs c1 s1 X F hc hs eT
  exact own_go (fun t q => XT.dupX1 X.here hx rfl (hb hby hd) rfl hq hq' q) (k T locs c1 s1 X F hc hs eT)
theorem own_pop (H : own_Ok B Z a0 l R y code N ret) {x : Value} (hq : x.category = 1) (hd : decode code pc = .ok (.pop, 1)) (k : own_G B n0 Q kc ks cells slots h (pc + 1) Ls st) : own_G B n0 Q kc ks cells slots h pc Ls (x :: st) := by
  obtain ⟨p, l, e, R, s, m, args, below, meth, c⟩ := B
  obtain ⟨rfl, rfl, hx, hZ, hown, hby, hml, hrt, hlk, hnm, hw⟩ := H
  intro T locs c1 s1 X F hc hs eT
  exact own_go (fun t q => XT.pop X.here hx rfl (hb hby hd) rfl hq q) (k T locs c1 s1 X F hc hs eT)
theorem own_iload_n (H : own_Ok B Z a0 l R y code N ret) {i : Fin 4} {v : Int32} (hl : Ls[i.val]? = some (.val (.int v))) (hd : decode code pc = .ok (.iload_n i, 1)) (k : own_G B n0 Q kc ks cells slots h (pc + 1) Ls (.int v :: st)) : own_G B n0 Q kc ks cells slots h pc Ls st := by
  obtain ⟨p, l, e, R, s, m, args, below, meth, c⟩ := B
  obtain ⟨rfl, rfl, hx, hZ, hown, hby, hml, hrt, hlk, hnm, hw⟩ := H
  intro T locs c1 s1 X F hc hs eT
  exact own_go (fun t q => XS.iloadN X.here hx rfl (hb hby hd) hl q) (k T locs c1 s1 X F hc hs eT)
theorem own_iload (H : own_Ok B Z a0 l R y code N ret) {i : Nat} {v : Int32} (hl : Ls[i]? = some (.val (.int v))) (hd : decode code pc = .ok (.iload i, 2)) (k : own_G B n0 Q kc ks cells slots h (pc + 2) Ls (.int v :: st)) : own_G B n0 Q kc ks cells slots h pc Ls st := by
  obtain ⟨p, l, e, R, s, m, args, below, meth, c⟩ := B
  obtain ⟨rfl, rfl, hx, hZ, hown, hby, hml, hrt, hlk, hnm, hw⟩ := H
  intro T locs c1 s1 X F hc hs eT
  exact own_go (fun t q => XS.iload X.here hx rfl (hb hby hd) hl q) (k T locs c1 s1 X F hc hs eT)
theorem own_lload_n (H : own_Ok B Z a0 l R y code N ret) {i : Fin 4} {v : Int64} (hl : Ls[i.val]? = some (.val (.long v))) (hd : decode code pc = .ok (.lload_n i, 1)) (k : own_G B n0 Q kc ks cells slots h (pc + 1) Ls (.long v :: st)) : own_G B n0 Q kc ks cells slots h pc Ls st := by
  obtain ⟨p, l, e, R, s, m, args, below, meth, c⟩ := B
  obtain ⟨rfl, rfl, hx, hZ, hown, hby, hml, hrt, hlk, hnm, hw⟩ := H
  intro T locs c1 s1 X F hc hs eT
  exact own_go (fun t q => XT.lloadN X.here hx rfl (hb hby hd) hl q) (k T locs c1 s1 X F hc hs eT)
theorem own_lload (H : own_Ok B Z a0 l R y code N ret) {i : Nat} {v : Int64} (hl : Ls[i]? = some (.val (.long v))) (hd : decode code pc = .ok (.lload i, 2)) (k : own_G B n0 Q kc ks cells slots h (pc + 2) Ls (.long v :: st)) : own_G B n0 Q kc ks cells slots h pc Ls st := by
  obtain ⟨p, l, e, R, s, m, args, below, meth, c⟩ := B
  obtain ⟨rfl, rfl, hx, hZ, hown, hby, hml, hrt, hlk, hnm, hw⟩ := H
  intro T locs c1 s1 X F hc hs eT
  exact own_go (fun t q => XT.lload X.here hx rfl (hb hby hd) hl q) (k T locs c1 s1 X F hc hs eT)
theorem own_aload_n (H : own_Ok B Z a0 l R y code N ret) {i : Fin 4} {v : Value} (hl : Ls[i.val]? = some (.val v)) (hv : v.isRef = true) (hd : decode code pc = .ok (.aload_n i, 1)) (k : own_G B n0 Q kc ks cells slots h (pc + 1) Ls (v :: st)) : own_G B n0 Q kc ks cells slots h pc Ls st := by
  obtain ⟨p, l, e, R, s, m, args, below, meth, c⟩ := B
  obtain ⟨rfl, rfl, hx, hZ, hown, hby, hml, hrt, hlk, hnm, hw⟩ := H
  intro T locs c1 s1 X F hc hs eT
  exact own_go (fun t q => XS.aloadN X.here hx rfl (hb hby hd) hl hv q) (k T locs c1 s1 X F hc hs eT)
theorem own_aload (H : own_Ok B Z a0 l R y code N ret) {i : Nat} {v : Value} (hl : Ls[i]? = some (.val v)) (hv : v.isRef = true) (hd : decode code pc = .ok (.aload i, 2)) (k : own_G B n0 Q kc ks cells slots h (pc + 2) Ls (v :: st)) : own_G B n0 Q kc ks cells slots h pc Ls st := by
  obtain ⟨p, l, e, R, s, m, args, below, meth, c⟩ := B
  obtain ⟨rfl, rfl, hx, hZ, hown, hby, hml, hrt, hlk, hnm, hw⟩ := H
  intro T locs c1 s1 X F hc hs eT
  exact own_go (fun t q => XS.aload X.here hx rfl (hb hby hd) hl hv q) (k T locs c1 s1 X F hc hs eT)
theorem own_istore_n (H : own_Ok B Z a0 l R y code N ret) {i : Fin 4} {x : Int32} (Ls' : Array Slot) (hl : storeLocals Ls i.val (.int x) = some Ls') (hd : decode code pc = .ok (.istore_n i, 1)) (k : own_G B n0 Q kc ks cells slots h (pc + 1) Ls' st) : own_G B n0 Q kc ks cells slots h pc Ls (.int x :: st) := by
  obtain ⟨p, l, e, R, s, m, args, below, meth, c⟩ := B
  obtain ⟨rfl, rfl, hx, hZ, hown, hby, hml, hrt, hlk, hnm, hw⟩ := H
  intro T locs c1 s1 X F hc hs eT
  exact own_go (fun t q => XS.istoreN X.here hx rfl (hb hby hd) rfl hl q) (k T locs c1 s1 X F hc hs eT)
theorem own_istore (H : own_Ok B Z a0 l R y code N ret) {i : Nat} {x : Int32} (Ls' : Array Slot) (hl : storeLocals Ls i (.int x) = some Ls') (hd : decode code pc = .ok (.istore i, 2)) (k : own_G B n0 Q kc ks cells slots h (pc + 2) Ls' st) : own_G B n0 Q kc ks cells slots h pc Ls (.int x :: st) := by
  obtain ⟨p, l, e, R, s, m, args, below, meth, c⟩ := B
  obtain ⟨rfl, rfl, hx, hZ, hown, hby, hml, hrt, hlk, hnm, hw⟩ := H
  intro T locs c1 s1 X F hc hs eT
  exact own_go (fun t q => XS.istore X.here hx rfl (hb hby hd) rfl hl q) (k T locs c1 s1 X F hc hs eT)
theorem own_lstore_n (H : own_Ok B Z a0 l R y code N ret) {i : Fin 4} {x : Int64} (Ls' : Array Slot) (hl : storeLocals Ls i.val (.long x) = some Ls') (hd : decode code pc = .ok (.lstore_n i, 1)) (k : own_G B n0 Q kc ks cells slots h (pc + 1) Ls' st) : own_G B n0 Q kc ks cells slots h pc Ls (.long x :: st) := by
  obtain ⟨p, l, e, R, s, m, args, below, meth, c⟩ := B
  obtain ⟨rfl, rfl, hx, hZ, hown, hby, hml, hrt, hlk, hnm, hw⟩ := H
  intro T locs c1 s1 X F hc hs eT
  exact own_go (fun t q => XT.lstoreN X.here hx rfl (hb hby hd) rfl hl q) (k T locs c1 s1 X F hc hs eT)
theorem own_lstore (H : own_Ok B Z a0 l R y code N ret) {i : Nat} {x : Int64} (Ls' : Array Slot) (hl : storeLocals Ls i (.long x) = some Ls') (hd : decode code pc = .ok (.lstore i, 2)) (k : own_G B n0 Q kc ks cells slots h (pc + 2) Ls' st) : own_G B n0 Q kc ks cells slots h pc Ls (.long x :: st) := by
  obtain ⟨p, l, e, R, s, m, args, below, meth, c⟩ := B
  obtain ⟨rfl, rfl, hx, hZ, hown, hby, hml, hrt, hlk, hnm, hw⟩ := H
  intro T locs c1 s1 X F hc hs eT
  exact own_go (fun t q => XT.lstore X.here hx rfl (hb hby hd) rfl hl q) (k T locs c1 s1 X F hc hs eT)
theorem own_astore_n (H : own_Ok B Z a0 l R y code N ret) {i : Fin 4} {x : Value} (hv : x.isRef = true) (Ls' : Array Slot) (hl : storeLocals Ls i.val x = some Ls') (hd : decode code pc = .ok (.astore_n i, 1)) (k : own_G B n0 Q kc ks cells slots h (pc + 1) Ls' st) : own_G B n0 Q kc ks cells slots h pc Ls (x :: st) := by
  obtain ⟨p, l, e, R, s, m, args, below, meth, c⟩ := B
  obtain ⟨rfl, rfl, hx, hZ, hown, hby, hml, hrt, hlk, hnm, hw⟩ := H
  intro T locs c1 s1 X F hc hs eT
  exact own_go (fun t q => XS.astoreN X.here hx rfl (hb hby hd) rfl hv hl q) (k T locs c1 s1 X F hc hs eT)
theorem own_astore (H : own_Ok B Z a0 l R y code N ret) {i : Nat} {x : Value} (hv : x.isRef = true) (Ls' : Array Slot) (hl : storeLocals Ls i x = some Ls') (hd : decode code pc = .ok (.astore i, 2)) (k : own_G B n0 Q kc ks cells slots h (pc + 2) Ls' st) : own_G B n0 Q kc ks cells slots h pc Ls (x :: st) := by
  obtain ⟨p, l, e, R, s, m, args, below, meth, c⟩ := B
  obtain ⟨rfl, rfl, hx, hZ, hown, hby, hml, hrt, hlk, hnm, hw⟩ := H
  intro T locs c1 s1 X F hc hs eT
  exact own_go (fun t q => XS.astore X.here hx rfl (hb hby hd) rfl hv hl q) (k T locs c1 s1 X F hc hs eT)
theorem own_iinc (H : own_Ok B Z a0 l R y code N ret) {i : Nat} {cst : Int} {x u : Int32} (v : Int32) (hv : Int32.ofInt cst = v) (hl : Ls[i]? = some (.val (.int x))) (hu : x + v = u) (Ls' : Array Slot) (hl' : storeLocals Ls i (.int u) = some Ls') (hd : decode code pc = .ok (.iinc i cst, 3)) (k : own_G B n0 Q kc ks cells slots h (pc + 3) Ls' st) : own_G B n0 Q kc ks cells slots h pc Ls st := by
  subst hu
  obtain ⟨p, l, e, R, s, m, args, below, meth, c⟩ := B
  obtain ⟨rfl, rfl, hx, hZ, hown, hby, hml, hrt, hlk, hnm, hw⟩ := H
  intro T locs c1 s1 X F hc hs eT
  exact own_go (fun t q => XT.iincV X.here hx rfl v (hb hby hd) hv hl hl' q) (k T locs c1 s1 X F hc hs eT)
theorem own_goto (H : own_Ok B Z a0 l R y code N ret) {o : Int} (hd : decode code pc = .ok (.goto o, 3)) (ho : 0 ≤ (pc : Int) + o) (hp : ((pc : Int) + o).toNat = pc') (k : own_G B n0 Q kc ks cells slots h pc' Ls st) : own_G B n0 Q kc ks cells slots h pc Ls st := by
  obtain ⟨p, l, e, R, s, m, args, below, meth, c⟩ := B
  obtain ⟨rfl, rfl, hx, hZ, hown, hby, hml, hrt, hlk, hnm, hw⟩ := H
  intro T locs c1 s1 X F hc hs eT
  exact own_go (fun t q => XS.goto X.here hx rfl rfl (hb hby hd) ho hp q) (k T locs c1 s1 X F hc hs eT)
theorem own_ifeq_t (H : own_Ok B Z a0 l R y code N ret) {x : Int32} {o : Int} (hd : decode code pc = .ok (.ifCond .eq o, 3)) (ho : 0 ≤ (pc : Int) + o) (hp : ((pc : Int) + o).toNat = pc') (hq : x = 0) (k : own_G B n0 Q kc ks cells slots h pc' Ls st) : own_G B n0 Q kc ks cells slots h pc Ls (.int x :: st) := by
  obtain ⟨p, l, e, R, s, m, args, below, meth, c⟩ := B
  obtain ⟨rfl, rfl, hx, hZ, hown, hby, hml, hrt, hlk, hnm, hw⟩ := H
  intro T locs c1 s1 X F hc hs eT
  exact own_go (fun t q => XS.ifYes X.here hx rfl rfl (hb hby hd) rfl (XT.i0_eq_t hq) ho hp q) (k T locs c1 s1 X F hc hs eT)
theorem own_ifeq_f (H : own_Ok B Z a0 l R y code N ret) {x : Int32} {o : Int} (hd : decode code pc = .ok (.ifCond .eq o, 3)) (hq : ¬ x = 0) (k : own_G B n0 Q kc ks cells slots h (pc + 3) Ls st) : own_G B n0 Q kc ks cells slots h pc Ls (.int x :: st) := by
  obtain ⟨p, l, e, R, s, m, args, below, meth, c⟩ := B
  obtain ⟨rfl, rfl, hx, hZ, hown, hby, hml, hrt, hlk, hnm, hw⟩ := H
  intro T locs c1 s1 X F hc hs eT
  exact own_go (fun t q => XS.ifNo X.here hx rfl (hb hby hd) rfl (XT.i0_eq_f hq) q) (k T locs c1 s1 X F hc hs eT)
theorem own_icmpeq_t (H : own_Ok B Z a0 l R y code N ret) {x z : Int32} {o : Int} (hd : decode code pc = .ok (.if_icmp .eq o, 3)) (ho : 0 ≤ (pc : Int) + o) (hp : ((pc : Int) + o).toNat = pc') (hq : x = z) (k : own_G B n0 Q kc ks cells slots h pc' Ls st) : own_G B n0 Q kc ks cells slots h pc Ls (.int z :: .int x :: st) := by
  obtain ⟨p, l, e, R, s, m, args, below, meth, c⟩ := B
  obtain ⟨rfl, rfl, hx, hZ, hown, hby, hml, hrt, hlk, hnm, hw⟩ := H
  intro T locs c1 s1 X F hc hs eT
  exact own_go (fun t q => XS.icmpYes X.here hx rfl rfl (hb hby hd) rfl (XT.ii_eq_t hq) ho hp q) (k T locs c1 s1 X F hc hs eT)
theorem own_icmpeq_f (H : own_Ok B Z a0 l R y code N ret) {x z : Int32} {o : Int} (hd : decode code pc = .ok (.if_icmp .eq o, 3)) (hq : ¬ x = z) (k : own_G B n0 Q kc ks cells slots h (pc + 3) Ls st) : own_G B n0 Q kc ks cells slots h pc Ls (.int z :: .int x :: st) := by
  obtain ⟨p, l, e, R, s, m, args, below, meth, c⟩ := B
  obtain ⟨rfl, rfl, hx, hZ, hown, hby, hml, hrt, hlk, hnm, hw⟩ := H
  intro T locs c1 s1 X F hc hs eT
  exact own_go (fun t q => XS.icmpNo X.here hx rfl (hb hby hd) rfl (XT.ii_eq_f hq) q) (k T locs c1 s1 X F hc hs eT)
theorem own_lcmpeq_t (H : own_Ok B Z a0 l R y code N ret) {x z : Int64} {o : Int} (hd0 : decode code pc = .ok (.lcmp, 1)) (hd : decode code (pc + 1) = .ok (.ifCond .eq o, 3)) (ho : 0 ≤ ((pc + 1 : Nat) : Int) + o) (hp : (((pc + 1 : Nat) : Int) + o).toNat = pc') (hq : x = z) (k : own_G B n0 Q kc ks cells slots h pc' Ls st) : own_G B n0 Q kc ks cells slots h pc Ls (.long z :: .long x :: st) := by
  obtain ⟨p, l, e, R, s, m, args, below, meth, c⟩ := B
  obtain ⟨rfl, rfl, hx, hZ, hown, hby, hml, hrt, hlk, hnm, hw⟩ := H
  intro T locs c1 s1 X F hc hs eT
  exact own_go (fun t q => XT.lcmp X.here hx rfl (hb hby hd0) rfl (XS.ifYes X.here hx rfl rfl (hb hby hd) rfl (XT.ll_eq_t hq) ho hp q)) (k T locs c1 s1 X F hc hs eT)
theorem own_lcmpeq_f (H : own_Ok B Z a0 l R y code N ret) {x z : Int64} {o : Int} (hd0 : decode code pc = .ok (.lcmp, 1)) (hd : decode code (pc + 1) = .ok (.ifCond .eq o, 3)) (hq : ¬ x = z) (k : own_G B n0 Q kc ks cells slots h (pc + 4) Ls st) : own_G B n0 Q kc ks cells slots h pc Ls (.long z :: .long x :: st) := by
  obtain ⟨p, l, e, R, s, m, args, below, meth, c⟩ := B
  obtain ⟨rfl, rfl, hx, hZ, hown, hby, hml, hrt, hlk, hnm, hw⟩ := H
  intro T locs c1 s1 X F hc hs eT
  exact own_go (fun t q => XT.lcmp X.here hx rfl (hb hby hd0) rfl (XS.ifNo X.here hx rfl (hb hby hd) rfl (XT.ll_eq_f hq) q)) (k T locs c1 s1 X F hc hs eT)
theorem own_ifne_t (H : own_Ok B Z a0 l R y code N ret) {x : Int32} {o : Int} (hd : decode code pc = .ok (.ifCond .ne o, 3)) (ho : 0 ≤ (pc : Int) + o) (hp : ((pc : Int) + o).toNat = pc') (hq : ¬ x = 0) (k : own_G B n0 Q kc ks cells slots h pc' Ls st) : own_G B n0 Q kc ks cells slots h pc Ls (.int x :: st) := by
  obtain ⟨p, l, e, R, s, m, args, below, meth, c⟩ := B
  obtain ⟨rfl, rfl, hx, hZ, hown, hby, hml, hrt, hlk, hnm, hw⟩ := H
  intro T locs c1 s1 X F hc hs eT
  exact own_go (fun t q => XS.ifYes X.here hx rfl rfl (hb hby hd) rfl (XT.i0_ne_t hq) ho hp q) (k T locs c1 s1 X F hc hs eT)
theorem own_ifne_f (H : own_Ok B Z a0 l R y code N ret) {x : Int32} {o : Int} (hd : decode code pc = .ok (.ifCond .ne o, 3)) (hq : x = 0) (k : own_G B n0 Q kc ks cells slots h (pc + 3) Ls st) : own_G B n0 Q kc ks cells slots h pc Ls (.int x :: st) := by
  obtain ⟨p, l, e, R, s, m, args, below, meth, c⟩ := B
  obtain ⟨rfl, rfl, hx, hZ, hown, hby, hml, hrt, hlk, hnm, hw⟩ := H
  intro T locs c1 s1 X F hc hs eT
  exact own_go (fun t q => XS.ifNo X.here hx rfl (hb hby hd) rfl (XT.i0_ne_f hq) q) (k T locs c1 s1 X F hc hs eT)
theorem own_icmpne_t (H : own_Ok B Z a0 l R y code N ret) {x z : Int32} {o : Int} (hd : decode code pc = .ok (.if_icmp .ne o, 3)) (ho : 0 ≤ (pc : Int) + o) (hp : ((pc : Int) + o).toNat = pc') (hq : ¬ x = z) (k : own_G B n0 Q kc ks cells slots h pc' Ls st) : own_G B n0 Q kc ks cells slots h pc Ls (.int z :: .int x :: st) := by
  obtain ⟨p, l, e, R, s, m, args, below, meth, c⟩ := B
  obtain ⟨rfl, rfl, hx, hZ, hown, hby, hml, hrt, hlk, hnm, hw⟩ := H
  intro T locs c1 s1 X F hc hs eT
  exact own_go (fun t q => XS.icmpYes X.here hx rfl rfl (hb hby hd) rfl (XT.ii_ne_t hq) ho hp q) (k T locs c1 s1 X F hc hs eT)
theorem own_icmpne_f (H : own_Ok B Z a0 l R y code N ret) {x z : Int32} {o : Int} (hd : decode code pc = .ok (.if_icmp .ne o, 3)) (hq : x = z) (k : own_G B n0 Q kc ks cells slots h (pc + 3) Ls st) : own_G B n0 Q kc ks cells slots h pc Ls (.int z :: .int x :: st) := by
  obtain ⟨p, l, e, R, s, m, args, below, meth, c⟩ := B
  obtain ⟨rfl, rfl, hx, hZ, hown, hby, hml, hrt, hlk, hnm, hw⟩ := H
  intro T locs c1 s1 X F hc hs eT
  exact own_go (fun t q => XS.icmpNo X.here hx rfl (hb hby hd) rfl (XT.ii_ne_f hq) q) (k T locs c1 s1 X F hc hs eT)
theorem own_lcmpne_t (H : own_Ok B Z a0 l R y code N ret) {x z : Int64} {o : Int} (hd0 : decode code pc = .ok (.lcmp, 1)) (hd : decode code (pc + 1) = .ok (.ifCond .ne o, 3)) (ho : 0 ≤ ((pc + 1 : Nat) : Int) + o) (hp : (((pc + 1 : Nat) : Int) + o).toNat = pc') (hq : ¬ x = z) (k : own_G B n0 Q kc ks cells slots h pc' Ls st) : own_G B n0 Q kc ks cells slots h pc Ls (.long z :: .long x :: st) := by
  obtain ⟨p, l, e, R, s, m, args, below, meth, c⟩ := B
  obtain ⟨rfl, rfl, hx, hZ, hown, hby, hml, hrt, hlk, hnm, hw⟩ := H
  intro T locs c1 s1 X F hc hs eT
  exact own_go (fun t q => XT.lcmp X.here hx rfl (hb hby hd0) rfl (XS.ifYes X.here hx rfl rfl (hb hby hd) rfl (XT.ll_ne_t hq) ho hp q)) (k T locs c1 s1 X F hc hs eT)
theorem own_lcmpne_f (H : own_Ok B Z a0 l R y code N ret) {x z : Int64} {o : Int} (hd0 : decode code pc = .ok (.lcmp, 1)) (hd : decode code (pc + 1) = .ok (.ifCond .ne o, 3)) (hq : x = z) (k : own_G B n0 Q kc ks cells slots h (pc + 4) Ls st) : own_G B n0 Q kc ks cells slots h pc Ls (.long z :: .long x :: st) := by
  obtain ⟨p, l, e, R, s, m, args, below, meth, c⟩ := B
  obtain ⟨rfl, rfl, hx, hZ, hown, hby, hml, hrt, hlk, hnm, hw⟩ := H
  intro T locs c1 s1 X F hc hs eT
  exact own_go (fun t q => XT.lcmp X.here hx rfl (hb hby hd0) rfl (XS.ifNo X.here hx rfl (hb hby hd) rfl (XT.ll_ne_f hq) q)) (k T locs c1 s1 X F hc hs eT)
theorem own_iflt_t (H : own_Ok B Z a0 l R y code N ret) {x : Int32} {o : Int} (hd : decode code pc = .ok (.ifCond .lt o, 3)) (ho : 0 ≤ (pc : Int) + o) (hp : ((pc : Int) + o).toNat = pc') (hq : x < 0) (k : own_G B n0 Q kc ks cells slots h pc' Ls st) : own_G B n0 Q kc ks cells slots h pc Ls (.int x :: st) := by
  obtain ⟨p, l, e, R, s, m, args, below, meth, c⟩ := B
  obtain ⟨rfl, rfl, hx, hZ, hown, hby, hml, hrt, hlk, hnm, hw⟩ := H
  intro T locs c1 s1 X F hc hs eT
  exact own_go (fun t q => XS.ifYes X.here hx rfl rfl (hb hby hd) rfl (XT.i0_lt_t hq) ho hp q) (k T locs c1 s1 X F hc hs eT)
theorem own_iflt_f (H : own_Ok B Z a0 l R y code N ret) {x : Int32} {o : Int} (hd : decode code pc = .ok (.ifCond .lt o, 3)) (hq : ¬ x < 0) (k : own_G B n0 Q kc ks cells slots h (pc + 3) Ls st) : own_G B n0 Q kc ks cells slots h pc Ls (.int x :: st) := by
  obtain ⟨p, l, e, R, s, m, args, below, meth, c⟩ := B
  obtain ⟨rfl, rfl, hx, hZ, hown, hby, hml, hrt, hlk, hnm, hw⟩ := H
  intro T locs c1 s1 X F hc hs eT
  exact own_go (fun t q => XS.ifNo X.here hx rfl (hb hby hd) rfl (XT.i0_lt_f hq) q) (k T locs c1 s1 X F hc hs eT)
theorem own_icmplt_t (H : own_Ok B Z a0 l R y code N ret) {x z : Int32} {o : Int} (hd : decode code pc = .ok (.if_icmp .lt o, 3)) (ho : 0 ≤ (pc : Int) + o) (hp : ((pc : Int) + o).toNat = pc') (hq : x < z) (k : own_G B n0 Q kc ks cells slots h pc' Ls st) : own_G B n0 Q kc ks cells slots h pc Ls (.int z :: .int x :: st) := by
  obtain ⟨p, l, e, R, s, m, args, below, meth, c⟩ := B
  obtain ⟨rfl, rfl, hx, hZ, hown, hby, hml, hrt, hlk, hnm, hw⟩ := H
  intro T locs c1 s1 X F hc hs eT
  exact own_go (fun t q => XS.icmpYes X.here hx rfl rfl (hb hby hd) rfl (XT.ii_lt_t hq) ho hp q) (k T locs c1 s1 X F hc hs eT)
theorem own_icmplt_f (H : own_Ok B Z a0 l R y code N ret) {x z : Int32} {o : Int} (hd : decode code pc = .ok (.if_icmp .lt o, 3)) (hq : ¬ x < z) (k : own_G B n0 Q kc ks cells slots h (pc + 3) Ls st) : own_G B n0 Q kc ks cells slots h pc Ls (.int z :: .int x :: st) := by
  obtain ⟨p, l, e, R, s, m, args, below, meth, c⟩ := B
  obtain ⟨rfl, rfl, hx, hZ, hown, hby, hml, hrt, hlk, hnm, hw⟩ := H
  intro T locs c1 s1 X F hc hs eT
  exact own_go (fun t q => XS.icmpNo X.here hx rfl (hb hby hd) rfl (XT.ii_lt_f hq) q) (k T locs c1 s1 X F hc hs eT)
theorem own_lcmplt_t (H : own_Ok B Z a0 l R y code N ret) {x z : Int64} {o : Int} (hd0 : decode code pc = .ok (.lcmp, 1)) (hd : decode code (pc + 1) = .ok (.ifCond .lt o, 3)) (ho : 0 ≤ ((pc + 1 : Nat) : Int) + o) (hp : (((pc + 1 : Nat) : Int) + o).toNat = pc') (hq : x < z) (k : own_G B n0 Q kc ks cells slots h pc' Ls st) : own_G B n0 Q kc ks cells slots h pc Ls (.long z :: .long x :: st) := by
  obtain ⟨p, l, e, R, s, m, args, below, meth, c⟩ := B
  obtain ⟨rfl, rfl, hx, hZ, hown, hby, hml, hrt, hlk, hnm, hw⟩ := H
  intro T locs c1 s1 X F hc hs eT
  exact own_go (fun t q => XT.lcmp X.here hx rfl (hb hby hd0) rfl (XS.ifYes X.here hx rfl rfl (hb hby hd) rfl (XT.ll_lt_t hq) ho hp q)) (k T locs c1 s1 X F hc hs eT)
theorem own_lcmplt_f (H : own_Ok B Z a0 l R y code N ret) {x z : Int64} {o : Int} (hd0 : decode code pc = .ok (.lcmp, 1)) (hd : decode code (pc + 1) = .ok (.ifCond .lt o, 3)) (hq : ¬ x < z) (k : own_G B n0 Q kc ks cells slots h (pc + 4) Ls st) : own_G B n0 Q kc ks cells slots h pc Ls (.long z :: .long x :: st) := by
  obtain ⟨p, l, e, R, s, m, args, below, meth, c⟩ := B
  obtain ⟨rfl, rfl, hx, hZ, hown, hby, hml, hrt, hlk, hnm, hw⟩ := H
  intro T locs c1 s1 X F hc hs eT
  exact own_go (fun t q => XT.lcmp X.here hx rfl (hb hby hd0) rfl (XS.ifNo X.here hx rfl (hb hby hd) rfl (XT.ll_lt_f hq) q)) (k T locs c1 s1 X F hc hs eT)
theorem own_ifge_t (H : own_Ok B Z a0 l R y code N ret) {x : Int32} {o : Int} (hd : decode code pc = .ok (.ifCond .ge o, 3)) (ho : 0 ≤ (pc : Int) + o) (hp : ((pc : Int) + o).toNat = pc') (hq : ¬ x < 0) (k : own_G B n0 Q kc ks cells slots h pc' Ls st) : own_G B n0 Q kc ks cells slots h pc Ls (.int x :: st) := by
  obtain ⟨p, l, e, R, s, m, args, below, meth, c⟩ := B
  obtain ⟨rfl, rfl, hx, hZ, hown, hby, hml, hrt, hlk, hnm, hw⟩ := H
  intro T locs c1 s1 X F hc hs eT
  exact own_go (fun t q => XS.ifYes X.here hx rfl rfl (hb hby hd) rfl (XT.i0_ge_t hq) ho hp q) (k T locs c1 s1 X F hc hs eT)
theorem own_ifge_f (H : own_Ok B Z a0 l R y code N ret) {x : Int32} {o : Int} (hd : decode code pc = .ok (.ifCond .ge o, 3)) (hq : x < 0) (k : own_G B n0 Q kc ks cells slots h (pc + 3) Ls st) : own_G B n0 Q kc ks cells slots h pc Ls (.int x :: st) := by
  obtain ⟨p, l, e, R, s, m, args, below, meth, c⟩ := B
  obtain ⟨rfl, rfl, hx, hZ, hown, hby, hml, hrt, hlk, hnm, hw⟩ := H
  intro T locs c1 s1 X F hc hs eT
  exact own_go (fun t q => XS.ifNo X.here hx rfl (hb hby hd) rfl (XT.i0_ge_f hq) q) (k T locs c1 s1 X F hc hs eT)
theorem own_icmpge_t (H : own_Ok B Z a0 l R y code N ret) {x z : Int32} {o : Int} (hd : decode code pc = .ok (.if_icmp .ge o, 3)) (ho : 0 ≤ (pc : Int) + o) (hp : ((pc : Int) + o).toNat = pc') (hq : ¬ x < z) (k : own_G B n0 Q kc ks cells slots h pc' Ls st) : own_G B n0 Q kc ks cells slots h pc Ls (.int z :: .int x :: st) := by
  obtain ⟨p, l, e, R, s, m, args, below, meth, c⟩ := B
  obtain ⟨rfl, rfl, hx, hZ, hown, hby, hml, hrt, hlk, hnm, hw⟩ := H
  intro T locs c1 s1 X F hc hs eT
  exact own_go (fun t q => XS.icmpYes X.here hx rfl rfl (hb hby hd) rfl (XT.ii_ge_t hq) ho hp q) (k T locs c1 s1 X F hc hs eT)
theorem own_icmpge_f (H : own_Ok B Z a0 l R y code N ret) {x z : Int32} {o : Int} (hd : decode code pc = .ok (.if_icmp .ge o, 3)) (hq : x < z) (k : own_G B n0 Q kc ks cells slots h (pc + 3) Ls st) : own_G B n0 Q kc ks cells slots h pc Ls (.int z :: .int x :: st) := by
  obtain ⟨p, l, e, R, s, m, args, below, meth, c⟩ := B
  obtain ⟨rfl, rfl, hx, hZ, hown, hby, hml, hrt, hlk, hnm, hw⟩ := H
  intro T locs c1 s1 X F hc hs eT
  exact own_go (fun t q => XS.icmpNo X.here hx rfl (hb hby hd) rfl (XT.ii_ge_f hq) q) (k T locs c1 s1 X F hc hs eT)
theorem own_lcmpge_t (H : own_Ok B Z a0 l R y code N ret) {x z : Int64} {o : Int} (hd0 : decode code pc = .ok (.lcmp, 1)) (hd : decode code (pc + 1) = .ok (.ifCond .ge o, 3)) (ho : 0 ≤ ((pc + 1 : Nat) : Int) + o) (hp : (((pc + 1 : Nat) : Int) + o).toNat = pc') (hq : ¬ x < z) (k : own_G B n0 Q kc ks cells slots h pc' Ls st) : own_G B n0 Q kc ks cells slots h pc Ls (.long z :: .long x :: st) := by
  obtain ⟨p, l, e, R, s, m, args, below, meth, c⟩ := B
  obtain ⟨rfl, rfl, hx, hZ, hown, hby, hml, hrt, hlk, hnm, hw⟩ := H
  intro T locs c1 s1 X F hc hs eT
  exact own_go (fun t q => XT.lcmp X.here hx rfl (hb hby hd0) rfl (XS.ifYes X.here hx rfl rfl (hb hby hd) rfl (XT.ll_ge_t hq) ho hp q)) (k T locs c1 s1 X F hc hs eT)
theorem own_lcmpge_f (H : own_Ok B Z a0 l R y code N ret) {x z : Int64} {o : Int} (hd0 : decode code pc = .ok (.lcmp, 1)) (hd : decode code (pc + 1) = .ok (.ifCond .ge o, 3)) (hq : x < z) (k : own_G B n0 Q kc ks cells slots h (pc + 4) Ls st) : own_G B n0 Q kc ks cells slots h pc Ls (.long z :: .long x :: st) := by
  obtain ⟨p, l, e, R, s, m, args, below, meth, c⟩ := B
  obtain ⟨rfl, rfl, hx, hZ, hown, hby, hml, hrt, hlk, hnm, hw⟩ := H
  intro T locs c1 s1 X F hc hs eT
  exact own_go (fun t q => XT.lcmp X.here hx rfl (hb hby hd0) rfl (XS.ifNo X.here hx rfl (hb hby hd) rfl (XT.ll_ge_f hq) q)) (k T locs c1 s1 X F hc hs eT)
theorem own_ifgt_t (H : own_Ok B Z a0 l R y code N ret) {x : Int32} {o : Int} (hd : decode code pc = .ok (.ifCond .gt o, 3)) (ho : 0 ≤ (pc : Int) + o) (hp : ((pc : Int) + o).toNat = pc') (hq : 0 < x) (k : own_G B n0 Q kc ks cells slots h pc' Ls st) : own_G B n0 Q kc ks cells slots h pc Ls (.int x :: st) := by
  obtain ⟨p, l, e, R, s, m, args, below, meth, c⟩ := B
  obtain ⟨rfl, rfl, hx, hZ, hown, hby, hml, hrt, hlk, hnm, hw⟩ := H
  intro T locs c1 s1 X F hc hs eT
  exact own_go (fun t q => XS.ifYes X.here hx rfl rfl (hb hby hd) rfl (XT.i0_gt_t hq) ho hp q) (k T locs c1 s1 X F hc hs eT)
theorem own_ifgt_f (H : own_Ok B Z a0 l R y code N ret) {x : Int32} {o : Int} (hd : decode code pc = .ok (.ifCond .gt o, 3)) (hq : ¬ 0 < x) (k : own_G B n0 Q kc ks cells slots h (pc + 3) Ls st) : own_G B n0 Q kc ks cells slots h pc Ls (.int x :: st) := by
  obtain ⟨p, l, e, R, s, m, args, below, meth, c⟩ := B
  obtain ⟨rfl, rfl, hx, hZ, hown, hby, hml, hrt, hlk, hnm, hw⟩ := H
  intro T locs c1 s1 X F hc hs eT
  exact own_go (fun t q => XS.ifNo X.here hx rfl (hb hby hd) rfl (XT.i0_gt_f hq) q) (k T locs c1 s1 X F hc hs eT)
theorem own_icmpgt_t (H : own_Ok B Z a0 l R y code N ret) {x z : Int32} {o : Int} (hd : decode code pc = .ok (.if_icmp .gt o, 3)) (ho : 0 ≤ (pc : Int) + o) (hp : ((pc : Int) + o).toNat = pc') (hq : z < x) (k : own_G B n0 Q kc ks cells slots h pc' Ls st) : own_G B n0 Q kc ks cells slots h pc Ls (.int z :: .int x :: st) := by
  obtain ⟨p, l, e, R, s, m, args, below, meth, c⟩ := B
  obtain ⟨rfl, rfl, hx, hZ, hown, hby, hml, hrt, hlk, hnm, hw⟩ := H
  intro T locs c1 s1 X F hc hs eT
  exact own_go (fun t q => XS.icmpYes X.here hx rfl rfl (hb hby hd) rfl (XT.ii_gt_t hq) ho hp q) (k T locs c1 s1 X F hc hs eT)
theorem own_icmpgt_f (H : own_Ok B Z a0 l R y code N ret) {x z : Int32} {o : Int} (hd : decode code pc = .ok (.if_icmp .gt o, 3)) (hq : ¬ z < x) (k : own_G B n0 Q kc ks cells slots h (pc + 3) Ls st) : own_G B n0 Q kc ks cells slots h pc Ls (.int z :: .int x :: st) := by
  obtain ⟨p, l, e, R, s, m, args, below, meth, c⟩ := B
  obtain ⟨rfl, rfl, hx, hZ, hown, hby, hml, hrt, hlk, hnm, hw⟩ := H
  intro T locs c1 s1 X F hc hs eT
  exact own_go (fun t q => XS.icmpNo X.here hx rfl (hb hby hd) rfl (XT.ii_gt_f hq) q) (k T locs c1 s1 X F hc hs eT)
theorem own_lcmpgt_t (H : own_Ok B Z a0 l R y code N ret) {x z : Int64} {o : Int} (hd0 : decode code pc = .ok (.lcmp, 1)) (hd : decode code (pc + 1) = .ok (.ifCond .gt o, 3)) (ho : 0 ≤ ((pc + 1 : Nat) : Int) + o) (hp : (((pc + 1 : Nat) : Int) + o).toNat = pc') (hq : z < x) (k : own_G B n0 Q kc ks cells slots h pc' Ls st) : own_G B n0 Q kc ks cells slots h pc Ls (.long z :: .long x :: st) := by
  obtain ⟨p, l, e, R, s, m, args, below, meth, c⟩ := B
  obtain ⟨rfl, rfl, hx, hZ, hown, hby, hml, hrt, hlk, hnm, hw⟩ := H
  intro T locs c1 s1 X F hc hs eT
  exact own_go (fun t q => XT.lcmp X.here hx rfl (hb hby hd0) rfl (XS.ifYes X.here hx rfl rfl (hb hby hd) rfl (XT.ll_gt_t hq) ho hp q)) (k T locs c1 s1 X F hc hs eT)
theorem own_lcmpgt_f (H : own_Ok B Z a0 l R y code N ret) {x z : Int64} {o : Int} (hd0 : decode code pc = .ok (.lcmp, 1)) (hd : decode code (pc + 1) = .ok (.ifCond .gt o, 3)) (hq : ¬ z < x) (k : own_G B n0 Q kc ks cells slots h (pc + 4) Ls st) : own_G B n0 Q kc ks cells slots h pc Ls (.long z :: .long x :: st) := by
  obtain ⟨p, l, e, R, s, m, args, below, meth, c⟩ := B
  obtain ⟨rfl, rfl, hx, hZ, hown, hby, hml, hrt, hlk, hnm, hw⟩ := H
  intro T locs c1 s1 X F hc hs eT
  exact own_go (fun t q => XT.lcmp X.here hx rfl (hb hby hd0) rfl (XS.ifNo X.here hx rfl (hb hby hd) rfl (XT.ll_gt_f hq) q)) (k T locs c1 s1 X F hc hs eT)
theorem own_ifle_t (H : own_Ok B Z a0 l R y code N ret) {x : Int32} {o : Int} (hd : decode code pc = .ok (.ifCond .le o, 3)) (ho : 0 ≤ (pc : Int) + o) (hp : ((pc : Int) + o).toNat = pc') (hq : ¬ 0 < x) (k : own_G B n0 Q kc ks cells slots h pc' Ls st) : own_G B n0 Q kc ks cells slots h pc Ls (.int x :: st) := by
  obtain ⟨p, l, e, R, s, m, args, below, meth, c⟩ := B
  obtain ⟨rfl, rfl, hx, hZ, hown, hby, hml, hrt, hlk, hnm, hw⟩ := H
  intro T locs c1 s1 X F hc hs eT
  exact own_go (fun t q => XS.ifYes X.here hx rfl rfl (hb hby hd) rfl (XT.i0_le_t hq) ho hp q) (k T locs c1 s1 X F hc hs eT)
theorem own_ifle_f (H : own_Ok B Z a0 l R y code N ret) {x : Int32} {o : Int} (hd : decode code pc = .ok (.ifCond .le o, 3)) (hq : 0 < x) (k : own_G B n0 Q kc ks cells slots h (pc + 3) Ls st) : own_G B n0 Q kc ks cells slots h pc Ls (.int x :: st) := by
  obtain ⟨p, l, e, R, s, m, args, below, meth, c⟩ := B
  obtain ⟨rfl, rfl, hx, hZ, hown, hby, hml, hrt, hlk, hnm, hw⟩ := H
  intro T locs c1 s1 X F hc hs eT
  exact own_go (fun t q => XS.ifNo X.here hx rfl (hb hby hd) rfl (XT.i0_le_f hq) q) (k T locs c1 s1 X F hc hs eT)
theorem own_icmple_t (H : own_Ok B Z a0 l R y code N ret) {x z : Int32} {o : Int} (hd : decode code pc = .ok (.if_icmp .le o, 3)) (ho : 0 ≤ (pc : Int) + o) (hp : ((pc : Int) + o).toNat = pc') (hq : ¬ z < x) (k : own_G B n0 Q kc ks cells slots h pc' Ls st) : own_G B n0 Q kc ks cells slots h pc Ls (.int z :: .int x :: st) := by
  obtain ⟨p, l, e, R, s, m, args, below, meth, c⟩ := B
  obtain ⟨rfl, rfl, hx, hZ, hown, hby, hml, hrt, hlk, hnm, hw⟩ := H
  intro T locs c1 s1 X F hc hs eT
  exact own_go (fun t q => XS.icmpYes X.here hx rfl rfl (hb hby hd) rfl (XT.ii_le_t hq) ho hp q) (k T locs c1 s1 X F hc hs eT)
theorem own_icmple_f (H : own_Ok B Z a0 l R y code N ret) {x z : Int32} {o : Int} (hd : decode code pc = .ok (.if_icmp .le o, 3)) (hq : z < x) (k : own_G B n0 Q kc ks cells slots h (pc + 3) Ls st) : own_G B n0 Q kc ks cells slots h pc Ls (.int z :: .int x :: st) := by
  obtain ⟨p, l, e, R, s, m, args, below, meth, c⟩ := B
  obtain ⟨rfl, rfl, hx, hZ, hown, hby, hml, hrt, hlk, hnm, hw⟩ := H
  intro T locs c1 s1 X F hc hs eT
  exact own_go (fun t q => XS.icmpNo X.here hx rfl (hb hby hd) rfl (XT.ii_le_f hq) q) (k T locs c1 s1 X F hc hs eT)
theorem own_lcmple_t (H : own_Ok B Z a0 l R y code N ret) {x z : Int64} {o : Int} (hd0 : decode code pc = .ok (.lcmp, 1)) (hd : decode code (pc + 1) = .ok (.ifCond .le o, 3)) (ho : 0 ≤ ((pc + 1 : Nat) : Int) + o) (hp : (((pc + 1 : Nat) : Int) + o).toNat = pc') (hq : ¬ z < x) (k : own_G B n0 Q kc ks cells slots h pc' Ls st) : own_G B n0 Q kc ks cells slots h pc Ls (.long z :: .long x :: st) := by
  obtain ⟨p, l, e, R, s, m, args, below, meth, c⟩ := B
  obtain ⟨rfl, rfl, hx, hZ, hown, hby, hml, hrt, hlk, hnm, hw⟩ := H
  intro T locs c1 s1 X F hc hs eT
  exact own_go (fun t q => XT.lcmp X.here hx rfl (hb hby hd0) rfl (XS.ifYes X.here hx rfl rfl (hb hby hd) rfl (XT.ll_le_t hq) ho hp q)) (k T locs c1 s1 X F hc hs eT)
theorem own_lcmple_f (H : own_Ok B Z a0 l R y code N ret) {x z : Int64} {o : Int} (hd0 : decode code pc = .ok (.lcmp, 1)) (hd : decode code (pc + 1) = .ok (.ifCond .le o, 3)) (hq : z < x) (k : own_G B n0 Q kc ks cells slots h (pc + 4) Ls st) : own_G B n0 Q kc ks cells slots h pc Ls (.long z :: .long x :: st) := by
  obtain ⟨p, l, e, R, s, m, args, below, meth, c⟩ := B
  obtain ⟨rfl, rfl, hx, hZ, hown, hby, hml, hrt, hlk, hnm, hw⟩ := H
  intro T locs c1 s1 X F hc hs eT
  exact own_go (fun t q => XT.lcmp X.here hx rfl (hb hby hd0) rfl (XS.ifNo X.here hx rfl (hb hby hd) rfl (XT.ll_le_f hq) q)) (k T locs c1 s1 X F hc hs eT)
theorem own_acmpeq_t (H : own_Ok B Z a0 l R y code N ret) {x z : Value} {o : Int} (hd : decode code pc = .ok (.if_acmp .eq o, 3)) (ho : 0 ≤ (pc : Int) + o) (hp : ((pc : Int) + o).toNat = pc') (h1 : x.isRef = true) (h2 : z.isRef = true) (hq : x = z) (k : own_G B n0 Q kc ks cells slots h pc' Ls st) : own_G B n0 Q kc ks cells slots h pc Ls (z :: x :: st) := by
  obtain ⟨p, l, e, R, s, m, args, below, meth, c⟩ := B
  obtain ⟨rfl, rfl, hx, hZ, hown, hby, hml, hrt, hlk, hnm, hw⟩ := H
  intro T locs c1 s1 X F hc hs eT
  exact own_go (fun t q => XT.acmpYes X.here hx rfl rfl (hb hby hd) rfl h1 h2 (XT.aa_eq_t hq) ho hp q) (k T locs c1 s1 X F hc hs eT)
theorem own_acmpeq_f (H : own_Ok B Z a0 l R y code N ret) {x z : Value} {o : Int} (hd : decode code pc = .ok (.if_acmp .eq o, 3)) (h1 : x.isRef = true) (h2 : z.isRef = true) (hq : ¬ x = z) (k : own_G B n0 Q kc ks cells slots h (pc + 3) Ls st) : own_G B n0 Q kc ks cells slots h pc Ls (z :: x :: st) := by
  obtain ⟨p, l, e, R, s, m, args, below, meth, c⟩ := B
  obtain ⟨rfl, rfl, hx, hZ, hown, hby, hml, hrt, hlk, hnm, hw⟩ := H
  intro T locs c1 s1 X F hc hs eT
  exact own_go (fun t q => XT.acmpNo X.here hx rfl (hb hby hd) rfl h1 h2 (XT.aa_eq_f hq) q) (k T locs c1 s1 X F hc hs eT)
theorem own_acmpne_t (H : own_Ok B Z a0 l R y code N ret) {x z : Value} {o : Int} (hd : decode code pc = .ok (.if_acmp .ne o, 3)) (ho : 0 ≤ (pc : Int) + o) (hp : ((pc : Int) + o).toNat = pc') (h1 : x.isRef = true) (h2 : z.isRef = true) (hq : ¬ x = z) (k : own_G B n0 Q kc ks cells slots h pc' Ls st) : own_G B n0 Q kc ks cells slots h pc Ls (z :: x :: st) := by
  obtain ⟨p, l, e, R, s, m, args, below, meth, c⟩ := B
  obtain ⟨rfl, rfl, hx, hZ, hown, hby, hml, hrt, hlk, hnm, hw⟩ := H
  intro T locs c1 s1 X F hc hs eT
  exact own_go (fun t q => XT.acmpYes X.here hx rfl rfl (hb hby hd) rfl h1 h2 (XT.aa_ne_t hq) ho hp q) (k T locs c1 s1 X F hc hs eT)
theorem own_acmpne_f (H : own_Ok B Z a0 l R y code N ret) {x z : Value} {o : Int} (hd : decode code pc = .ok (.if_acmp .ne o, 3)) (h1 : x.isRef = true) (h2 : z.isRef = true) (hq : x = z) (k : own_G B n0 Q kc ks cells slots h (pc + 3) Ls st) : own_G B n0 Q kc ks cells slots h pc Ls (z :: x :: st) := by
  obtain ⟨p, l, e, R, s, m, args, below, meth, c⟩ := B
  obtain ⟨rfl, rfl, hx, hZ, hown, hby, hml, hrt, hlk, hnm, hw⟩ := H
  intro T locs c1 s1 X F hc hs eT
  exact own_go (fun t q => XT.acmpNo X.here hx rfl (hb hby hd) rfl h1 h2 (XT.aa_ne_f hq) q) (k T locs c1 s1 X F hc hs eT)
theorem own_ifnull_t (H : own_Ok B Z a0 l R y code N ret) {x : Value} {o : Int} (hd : decode code pc = .ok (.ifnull o, 3)) (ho : 0 ≤ (pc : Int) + o) (hp : ((pc : Int) + o).toNat = pc') (h1 : x.isRef = true) (hq : x = .null) (k : own_G B n0 Q kc ks cells slots h pc' Ls st) : own_G B n0 Q kc ks cells slots h pc Ls (x :: st) := by
  obtain ⟨p, l, e, R, s, m, args, below, meth, c⟩ := B
  obtain ⟨rfl, rfl, hx, hZ, hown, hby, hml, hrt, hlk, hnm, hw⟩ := H
  intro T locs c1 s1 X F hc hs eT
  exact own_go (fun t q => XT.nullYes X.here hx rfl rfl (hb hby hd) rfl hq ho hp q) (k T locs c1 s1 X F hc hs eT)
theorem own_ifnull_f (H : own_Ok B Z a0 l R y code N ret) {x : Value} {o : Int} (hd : decode code pc = .ok (.ifnull o, 3)) (h1 : x.isRef = true) (hq : ¬ x = .null) (k : own_G B n0 Q kc ks cells slots h (pc + 3) Ls st) : own_G B n0 Q kc ks cells slots h pc Ls (x :: st) := by
  obtain ⟨p, l, e, R, s, m, args, below, meth, c⟩ := B
  obtain ⟨rfl, rfl, hx, hZ, hown, hby, hml, hrt, hlk, hnm, hw⟩ := H
  intro T locs c1 s1 X F hc hs eT
  exact own_go (fun t q => XT.nullNo X.here hx rfl (hb hby hd) rfl h1 hq q) (k T locs c1 s1 X F hc hs eT)
theorem own_ifnonnull_t (H : own_Ok B Z a0 l R y code N ret) {x : Value} {o : Int} (hd : decode code pc = .ok (.ifnonnull o, 3)) (ho : 0 ≤ (pc : Int) + o) (hp : ((pc : Int) + o).toNat = pc') (h1 : x.isRef = true) (hq : ¬ x = .null) (k : own_G B n0 Q kc ks cells slots h pc' Ls st) : own_G B n0 Q kc ks cells slots h pc Ls (x :: st) := by
  obtain ⟨p, l, e, R, s, m, args, below, meth, c⟩ := B
  obtain ⟨rfl, rfl, hx, hZ, hown, hby, hml, hrt, hlk, hnm, hw⟩ := H
  intro T locs c1 s1 X F hc hs eT
  exact own_go (fun t q => XT.nonnullYes X.here hx rfl rfl (hb hby hd) rfl h1 hq ho hp q) (k T locs c1 s1 X F hc hs eT)
theorem own_ifnonnull_f (H : own_Ok B Z a0 l R y code N ret) {x : Value} {o : Int} (hd : decode code pc = .ok (.ifnonnull o, 3)) (h1 : x.isRef = true) (hq : x = .null) (k : own_G B n0 Q kc ks cells slots h (pc + 3) Ls st) : own_G B n0 Q kc ks cells slots h pc Ls (x :: st) := by
  obtain ⟨p, l, e, R, s, m, args, below, meth, c⟩ := B
  obtain ⟨rfl, rfl, hx, hZ, hown, hby, hml, hrt, hlk, hnm, hw⟩ := H
  intro T locs c1 s1 X F hc hs eT
  exact own_go (fun t q => XT.nonnullNo X.here hx rfl (hb hby hd) rfl hq q) (k T locs c1 s1 X F hc hs eT)
theorem own_ldcI (H : own_Ok B Z a0 l R y code N ret) {i w : Nat} {v : Int32} (q : tables_1[w]? = some (Jvm.Cond.constant y.cls i v)) (hd : decode code pc = .ok (.ldc i, 2)) (k : own_G B n0 Q kc ks cells slots h (pc + 2) Ls (.int v :: st)) : own_G B n0 Q kc ks cells slots h pc Ls st := by
  obtain ⟨p, l, e, R, s, m, args, below, meth, c⟩ := B
  obtain ⟨rfl, rfl, hx, hZ, hown, hby, hml, hrt, hlk, hnm, hw⟩ := H
  intro T locs c1 s1 X F hc hs eT
  exact own_go (fun t r => X.ldcInt hx hown (mvT hZ (hw _ _ q)) (g := mkF m pc Ls st) rfl (hb hby hd) _ r) (k T locs c1 s1 X F hc hs eT)
theorem own_ldcwI (H : own_Ok B Z a0 l R y code N ret) {i w : Nat} {v : Int32} (q : tables_1[w]? = some (Jvm.Cond.constant y.cls i v)) (hd : decode code pc = .ok (.ldc_w i, 3)) (k : own_G B n0 Q kc ks cells slots h (pc + 3) Ls (.int v :: st)) : own_G B n0 Q kc ks cells slots h pc Ls st := by
  obtain ⟨p, l, e, R, s, m, args, below, meth, c⟩ := B
  obtain ⟨rfl, rfl, hx, hZ, hown, hby, hml, hrt, hlk, hnm, hw⟩ := H
  intro T locs c1 s1 X F hc hs eT
  exact own_go (fun t r => X.ldcwInt hx hown (mvT hZ (hw _ _ q)) (g := mkF m pc Ls st) rfl (hb hby hd) _ r) (k T locs c1 s1 X F hc hs eT)
theorem own_ldc2J (H : own_Ok B Z a0 l R y code N ret) {i w : Nat} {v : Int64} (q : tables_1[w]? = some (Jvm.Cond.constantLong y.cls i v)) (hd : decode code pc = .ok (.ldc2_w i, 3)) (k : own_G B n0 Q kc ks cells slots h (pc + 3) Ls (.long v :: st)) : own_G B n0 Q kc ks cells slots h pc Ls st := by
  obtain ⟨p, l, e, R, s, m, args, below, meth, c⟩ := B
  obtain ⟨rfl, rfl, hx, hZ, hown, hby, hml, hrt, hlk, hnm, hw⟩ := H
  intro T locs c1 s1 X F hc hs eT
  exact own_go (fun t r => X.ldc2Long hx hown (mvT hZ (hw _ _ q)) (g := mkF m pc Ls st) rfl (hb hby hd) _ r) (k T locs c1 s1 X F hc hs eT)
theorem own_ireturn {t : FieldType} (H : own_Ok B Z a0 l R y code N (some t)) {z : Int32} (ht : t = .int ∨ t = .boolean ∨ t = .byte ∨ t = .char ∨ t = .short) (hn : narrow t (.int z) = .int z) (hd : decode code pc = .ok (.ireturn, 1)) (hkc : cells ≤ kc) (hks : slots ≤ ks) (hQ : Q (some (.int z)) h) : own_G B n0 Q kc ks cells slots h pc Ls (.int z :: st) := by
  obtain ⟨p, l, e, R, s, m, args, below, meth, c⟩ := B
  obtain ⟨rfl, rfl, hx, hZ, hown, hby, hml, hrt, hlk, hnm, hw⟩ := H
  intro T locs c1 s1 X F hc hs eT
  obtain ⟨fs, hr, hrun, hended, hW, hsame⟩ := X.leave (v := some (.int z)) (fun h => by rw [hrt] at h; cases h) hlk
  exact ⟨_, _, retOut X hx hrt hn (Or.inl ⟨rfl, ht, _, rfl⟩) (hb hby hd) hr, hrun, hended, _, _, rfl, ⟨by show Q _ T.heap; rw [eT]; exact hQ, F⟩, ⟨_, rfl⟩, hW, hsame.mono (Nat.le_trans hc hkc) (Nat.le_trans hs hks)⟩
theorem own_lreturn (H : own_Ok B Z a0 l R y code N (some .long)) {z : Int64} (hd : decode code pc = .ok (.lreturn, 1)) (hkc : cells ≤ kc) (hks : slots ≤ ks) (hQ : Q (some (.long z)) h) : own_G B n0 Q kc ks cells slots h pc Ls (.long z :: st) := by
  obtain ⟨p, l, e, R, s, m, args, below, meth, c⟩ := B
  obtain ⟨rfl, rfl, hx, hZ, hown, hby, hml, hrt, hlk, hnm, hw⟩ := H
  intro T locs c1 s1 X F hc hs eT
  obtain ⟨fs, hr, hrun, hended, hW, hsame⟩ := X.leave (v := some (.long z)) (fun h => by rw [hrt] at h; cases h) hlk
  exact ⟨_, _, retOut X hx hrt rfl (Or.inr (Or.inl ⟨rfl, rfl, _, rfl⟩)) (hb hby hd) hr, hrun, hended, _, _, rfl, ⟨by show Q _ T.heap; rw [eT]; exact hQ, F⟩, ⟨_, rfl⟩, hW, hsame.mono (Nat.le_trans hc hkc) (Nat.le_trans hs hks)⟩
theorem own_areturn {t : FieldType} (H : own_Ok B Z a0 l R y code N (some t)) (ht : t.isReference = true) {z : Value} (hz : z.isRef = true) (hn : narrow t z = z) (hd : decode code pc = .ok (.areturn, 1)) (hkc : cells ≤ kc) (hks : slots ≤ ks) (hQ : Q (some z) h) : own_G B n0 Q kc ks cells slots h pc Ls (z :: st) := by
  obtain ⟨p, l, e, R, s, m, args, below, meth, c⟩ := B
  obtain ⟨rfl, rfl, hx, hZ, hown, hby, hml, hrt, hlk, hnm, hw⟩ := H
  intro T locs c1 s1 X F hc hs eT
  obtain ⟨fs, hr, hrun, hended, hW, hsame⟩ := X.leave (v := some z) (fun h => by rw [hrt] at h; cases h) hlk
  exact ⟨_, _, retOut X hx hrt hn (Or.inr (Or.inr (Or.inr (Or.inr ⟨rfl, ht, hz⟩)))) (hb hby hd) hr, hrun, hended, _, _, rfl, ⟨by show Q _ T.heap; rw [eT]; exact hQ, F⟩, ⟨_, rfl⟩, hW, hsame.mono (Nat.le_trans hc hkc) (Nat.le_trans hs hks)⟩
theorem own_return (H : own_Ok B Z a0 l R y code N none) (hd : decode code pc = .ok (.return_, 1)) (hkc : cells ≤ kc) (hks : slots ≤ ks) (hQ : Q none h) : own_G B n0 Q kc ks cells slots h pc Ls [] := by
  obtain ⟨p, l, e, R, s, m, args, below, meth, c⟩ := B
  obtain ⟨rfl, rfl, hx, hZ, hown, hby, hml, hrt, hlk, hnm, hw⟩ := H
  intro T locs c1 s1 X F hc hs eT
  obtain ⟨fs, hr, hrun, hended, hW, hsame⟩ := X.leave (v := none) (fun h => rfl) hlk
  exact ⟨_, _, X.returnOut hx hrt (hb hby hd) hr, hrun, hended, _, _, rfl, ⟨by show Q _ T.heap; rw [eT]; exact hQ, F⟩, ⟨_, rfl⟩, hW, hsame.mono (Nat.le_trans hc hkc) (Nat.le_trans hs hks)⟩
theorem own_getfield (H : own_Ok B Z a0 l R y code N ret) {O n d : String} {i w : Nat} (q : tables_1[w]? = some (Jvm.Cond.fieldLink y.cls i O n d)) {a : Addr} {v : Value} (Fd : Fld Z h a O n d v) (hd : decode code pc = .ok (.getfield i, 3)) (k : own_G B n0 Q kc ks cells slots h (pc + 3) Ls (v :: st)) : own_G B n0 Q kc ks cells slots h pc Ls (.ref a :: st) := by
  obtain ⟨p, l, e, R, s, m, args, below, meth, c⟩ := B
  obtain ⟨rfl, rfl, hx, hZ, hown, hby, hml, hrt, hlk, hnm, hw⟩ := H
  intro T locs c1 s1 X F hc hs eT
  obtain ⟨T', X', e', s'⟩ := getF X hx hZ hown (host := "") (Or.inl (hw _ _ q)) Via.refl eT Fd (g := mkF m pc Ls (.ref a :: st)) rfl rfl (hb hby hd)
  exact own_go s' (k T' locs c1 s1 X' F hc hs e')
theorem own_getstatic (H : own_Ok B Z a0 l R y code N ret) {O n d : String} {i w : Nat} (q : tables_1[w]? = some (Jvm.Cond.fieldLink y.cls i O n d)) {v : Value} (Fd : Sta Z h O n d v) (hd : decode code pc = .ok (.getstatic i, 3)) (k : own_G B n0 Q kc ks cells slots h (pc + 3) Ls (v :: st)) : own_G B n0 Q kc ks cells slots h pc Ls st := by
  obtain ⟨p, l, e, R, s, m, args, below, meth, c⟩ := B
  obtain ⟨rfl, rfl, hx, hZ, hown, hby, hml, hrt, hlk, hnm, hw⟩ := H
  intro T locs c1 s1 X F hc hs eT
  obtain ⟨T', X', e', s'⟩ := getS X hx hZ hown (host := "") (hw _ _ q) Via.refl eT Fd (g := mkF m pc Ls st) rfl (hb hby hd)
  exact own_go s' (k T' locs c1 s1 X' F hc hs e')
theorem own_putfield (H : own_Ok B Z a0 l R y code N ret) {O n d C : String} {i w wi kk : Nat} {ty : FieldType} (q : tables_1[w]? = some (Jvm.Cond.fieldLink y.cls i O n d)) {a : Addr} {v old : Value} (Fd : Fld Z h a O n d old) (E : Exa Z h a C) (ha : n0 ≤ a)
    (Lw : (Jvm.Cond.lays C O n d).before a0 Z = true ∨ ((Jvm.Cond.laysFinal C O n d).before a0 Z = true ∧ y.cls = O ∧ y.name = "<init>")) (qi : tables_1[wi]? = some (Jvm.Cond.instantiable C kk)) (hty : parseFieldDescriptor d = some ty) (hn : narrow ty v = v) (hf : fits ty v = true)
    (hd : decode code pc = .ok (.putfield i, 3)) (k : ∀ h', Wr h h' a (Jvm.RoadKit.slotOf Z O n d) v → own_G B n0 Q kc ks cells slots h' (pc + 3) Ls st) : own_G B n0 Q kc ks cells slots h pc Ls (v :: .ref a :: st) := by
  obtain ⟨p, l, e, R, s, m, args, below, meth, c⟩ := B
  obtain ⟨rfl, rfl, hx, hZ, hown, hby, hml, hrt, hlk, hnm, hw⟩ := H
  intro T locs c1 s1 X F hc hs eT
  obtain ⟨T', h', X', e', W', s'⟩ := putF X hx hZ hown (host := "") (Or.inl (hw _ _ q)) Via.refl eT Fd E (Lw.imp id fun z => ⟨z.1, z.2.1, hnm.trans z.2.2⟩) (hw _ _ qi) hty hn hf (g := mkF m pc Ls (v :: .ref a :: st)) rfl rfl (hb hby hd)
  exact own_go s' (k h' W' T' _ c1 s1 X' (Fr.snoc X' F ha) hc hs e')
theorem own_new (H : own_Ok B Z a0 l R y code N ret) {C : String} {i n w wi wz : Nat} (q : tables_1[w]? = some (Jvm.Cond.classLink y.cls i C)) (qi : tables_1[wi]? = some (Jvm.Cond.instantiable C n)) (qz : tables_1[wz]? = some (Jvm.Cond.initialized C)) (hd : decode code pc = .ok (.new i, 3)) (hkc : cells + 1 ≤ R.cells) (hks : slots + n ≤ R.slots)
    (k : ∀ h' a, a = h.size → Ext h h' → Exa Z h' a C → (∀ {O nm d : String} {ty : FieldType}, Laid Z a0 C O nm d → parseFieldDescriptor d = some ty → Fld Z h' a O nm d (defaultValue ty)) → own_G B n0 Q kc ks (cells + 1) (slots + n) h' (pc + 3) Ls (.ref a :: st)) : own_G B n0 Q kc ks cells slots h pc Ls st := by
  obtain ⟨p, l, e, R, s, m, args, below, meth, c⟩ := B
  obtain ⟨rfl, rfl, hx, hZ, hown, hby, hml, hrt, hlk, hnm, hw⟩ := H
  intro T locs c1 s1 X F hc hs eT
  obtain ⟨T', h', X', e', E', A', D', -, s'⟩ := newO X hx hZ hown (hw _ _ q) (hw _ _ qi) (hw _ _ qz) eT (g := mkF m pc Ls st) rfl (hb hby hd) (Nat.le_trans (Nat.add_le_add_right hc 1) hkc) (Nat.le_trans (Nat.add_le_add_right hs n) hks)
  exact own_go s' (k h' h.size rfl E' A' D' T' locs _ _ X' F (Nat.add_le_add_right hc 1) (Nat.add_le_add_right hs n) e')
theorem own_newarray (H : own_Ok B Z a0 l R y code N ret) {aty : ArrayType} {w : Nat} (q : tables_1[w]? = some (Jvm.Cond.arrayClass (newarray.typeOf aty))) {n : Int32} (hn : ¬ n < 0) (cap : Nat) (hcap : n.toNatClampNeg ≤ cap) (hcb : cap * 8 ≤ 536870912) (hd : decode code pc = .ok (.newarray aty, 2)) (hkc : cells + 1 ≤ R.cells) (hks : slots + cap ≤ R.slots)
    (k : ∀ h' a kA, a = h.size → Ext h h' → Arv Z h' a kA (newarray.typeOf aty) n [] (defaultValue (newarray.typeOf aty)) → own_G B n0 Q kc ks (cells + 1) (slots + cap) h' (pc + 2) Ls (.ref a :: st)) : own_G B n0 Q kc ks cells slots h pc Ls (.int n :: st) := by
  obtain ⟨p, l, e, R, s, m, args, below, meth, c⟩ := B
  obtain ⟨rfl, rfl, hx, hZ, hown, hby, hml, hrt, hlk, hnm, hw⟩ := H
  intro T locs c1 s1 X F hc hs eT
  obtain ⟨T', h', kA, X', e', E', A', s'⟩ := newP X hx hZ (hw _ _ q) eT (g := mkF m pc Ls (.int n :: st)) rfl (hb hby hd) rfl hn hcap hcb (Nat.le_trans (Nat.add_le_add_right hc 1) hkc) (Nat.le_trans (Nat.add_le_add_right hs cap) hks)
  exact own_go s' (k h' h.size kA rfl E' (Arv.new A' hn) T' locs _ _ X' F (Nat.add_le_add_right hc 1) (Nat.add_le_add_right hs cap) e')
theorem own_anewarray (H : own_Ok B Z a0 l R y code N ret) {C : String} {i w w2 : Nat} (q : tables_1[w]? = some (Jvm.Cond.classLink y.cls i C)) (q2 : tables_1[w2]? = some (Jvm.Cond.arrayOver (.object C))) {n : Int32} (hn : ¬ n < 0) (cap : Nat) (hcap : n.toNatClampNeg ≤ cap) (hcb : cap * 8 ≤ 536870912) (hd : decode code pc = .ok (.anewarray i, 3)) (hkc : cells + 1 ≤ R.cells) (hks : slots + cap ≤ R.slots)
    (k : ∀ h' a kA, a = h.size → Ext h h' → Arv Z h' a kA (.object C) n [] .null → Ovr Z kA C → own_G B n0 Q kc ks (cells + 1) (slots + cap) h' (pc + 3) Ls (.ref a :: st)) : own_G B n0 Q kc ks cells slots h pc Ls (.int n :: st) := by
  obtain ⟨p, l, e, R, s, m, args, below, meth, c⟩ := B
  obtain ⟨rfl, rfl, hx, hZ, hown, hby, hml, hrt, hlk, hnm, hw⟩ := H
  intro T locs c1 s1 X F hc hs eT
  obtain ⟨T', h', kA, X', e', E', A', O', s'⟩ := newR X hx hZ hown (hw _ _ q) (hw _ _ q2) eT (g := mkF m pc Ls (.int n :: st)) rfl (hb hby hd) rfl hn hcap hcb (Nat.le_trans (Nat.add_le_add_right hc 1) hkc) (Nat.le_trans (Nat.add_le_add_right hs cap) hks)
  exact own_go s' (k h' h.size kA rfl E' (Arv.new A' hn) O' T' locs _ _ X' F (Nat.add_le_add_right hc 1) (Nat.add_le_add_right hs cap) e')
theorem own_iaload (H : own_Ok B Z a0 l R y code N ret) {a : Addr} {cl : Cell} {j : Int32} {v : Value} (A : Arr Z h a cl .int) (hin : ¬ (j < 0 ∨ cl.slots.size ≤ j.toNatClampNeg)) (hv : cl.slots[j.toNatClampNeg]? = some v) (hd : decode code pc = .ok (.iaload, 1)) (k : own_G B n0 Q kc ks cells slots h (pc + 1) Ls (v :: st)) : own_G B n0 Q kc ks cells slots h pc Ls (.int j :: .ref a :: st) := by
  obtain ⟨p, l, e, R, s, m, args, below, meth, c⟩ := B
  obtain ⟨rfl, rfl, hx, hZ, hown, hby, hml, hrt, hlk, hnm, hw⟩ := H
  intro T locs c1 s1 X F hc hs eT
  exact own_go (fun t r => X.iaload hx (j := j) (v := v) (by rw [eT]; exact A.1) (State.isArrayOf_alike hZ.alike A.2.1) A.2.2 hin hv (g := mkF m pc Ls (.int j :: .ref a :: st)) rfl rfl (hb hby hd) _ r) (k T locs c1 s1 X F hc hs eT)
theorem own_laload (H : own_Ok B Z a0 l R y code N ret) {a : Addr} {cl : Cell} {j : Int32} {v : Value} (A : Arr Z h a cl .long) (hin : ¬ (j < 0 ∨ cl.slots.size ≤ j.toNatClampNeg)) (hv : cl.slots[j.toNatClampNeg]? = some v) (hd : decode code pc = .ok (.laload, 1)) (k : own_G B n0 Q kc ks cells slots h (pc + 1) Ls (v :: st)) : own_G B n0 Q kc ks cells slots h pc Ls (.int j :: .ref a :: st) := by
  obtain ⟨p, l, e, R, s, m, args, below, meth, c⟩ := B
  obtain ⟨rfl, rfl, hx, hZ, hown, hby, hml, hrt, hlk, hnm, hw⟩ := H
  intro T locs c1 s1 X F hc hs eT
  exact own_go (fun t r => X.laload hx (j := j) (v := v) (by rw [eT]; exact A.1) (State.isArrayOf_alike hZ.alike A.2.1) A.2.2 hin hv (g := mkF m pc Ls (.int j :: .ref a :: st)) rfl rfl (hb hby hd) _ r) (k T locs c1 s1 X F hc hs eT)
theorem own_caload (H : own_Ok B Z a0 l R y code N ret) {a : Addr} {cl : Cell} {j : Int32} {v : Value} (A : Arr Z h a cl .char) (hin : ¬ (j < 0 ∨ cl.slots.size ≤ j.toNatClampNeg)) (hv : cl.slots[j.toNatClampNeg]? = some v) (hd : decode code pc = .ok (.caload, 1)) (k : own_G B n0 Q kc ks cells slots h (pc + 1) Ls (v :: st)) : own_G B n0 Q kc ks cells slots h pc Ls (.int j :: .ref a :: st) := by
  obtain ⟨p, l, e, R, s, m, args, below, meth, c⟩ := B
  obtain ⟨rfl, rfl, hx, hZ, hown, hby, hml, hrt, hlk, hnm, hw⟩ := H
  intro T locs c1 s1 X F hc hs eT
  exact own_go (fun t r => X.caload hx (j := j) (v := v) (by rw [eT]; exact A.1) (State.isArrayOf_alike hZ.alike A.2.1) A.2.2 hin hv (g := mkF m pc Ls (.int j :: .ref a :: st)) rfl rfl (hb hby hd) _ r) (k T locs c1 s1 X F hc hs eT)
theorem own_baload (H : own_Ok B Z a0 l R y code N ret) {a : Addr} {cl : Cell} {j : Int32} {v : Value} (A : Arr Z h a cl .byte) (hin : ¬ (j < 0 ∨ cl.slots.size ≤ j.toNatClampNeg)) (hv : cl.slots[j.toNatClampNeg]? = some v) (hd : decode code pc = .ok (.baload, 1)) (k : own_G B n0 Q kc ks cells slots h (pc + 1) Ls (v :: st)) : own_G B n0 Q kc ks cells slots h pc Ls (.int j :: .ref a :: st) := by
  obtain ⟨p, l, e, R, s, m, args, below, meth, c⟩ := B
  obtain ⟨rfl, rfl, hx, hZ, hown, hby, hml, hrt, hlk, hnm, hw⟩ := H
  intro T locs c1 s1 X F hc hs eT
  exact own_go (fun t r => X.baloadBytes hx (j := j) (v := v) (by rw [eT]; exact A.1) (State.isArrayOf_alike hZ.alike A.2.1) A.2.2 hin hv (g := mkF m pc Ls (.int j :: .ref a :: st)) rfl rfl (hb hby hd) _ r) (k T locs c1 s1 X F hc hs eT)
theorem own_aaload (H : own_Ok B Z a0 l R y code N ret) {a : Addr} {cl : Cell} {ty : FieldType} {j : Int32} {v : Value} (A : Arr Z h a cl ty) (hty : ty.isReference = true) (hin : ¬ (j < 0 ∨ cl.slots.size ≤ j.toNatClampNeg)) (hv : cl.slots[j.toNatClampNeg]? = some v) (hd : decode code pc = .ok (.aaload, 1)) (k : own_G B n0 Q kc ks cells slots h (pc + 1) Ls (v :: st)) : own_G B n0 Q kc ks cells slots h pc Ls (.int j :: .ref a :: st) := by
  obtain ⟨p, l, e, R, s, m, args, below, meth, c⟩ := B
  obtain ⟨rfl, rfl, hx, hZ, hown, hby, hml, hrt, hlk, hnm, hw⟩ := H
  intro T locs c1 s1 X F hc hs eT
  exact own_go (fun t r => X.aaload hx (j := j) (v := v) (by rw [eT]; exact A.1) (State.isArrayOf_alike hZ.alike A.2.1) hty A.2.2 hin hv (g := mkF m pc Ls (.int j :: .ref a :: st)) rfl rfl (hb hby hd) _ r) (k T locs c1 s1 X F hc hs eT)
theorem own_arraylength (H : own_Ok B Z a0 l R y code N ret) {a : Addr} {cl : Cell} {ty : FieldType} {z : Int32} (A : Arr Z h a cl ty) (S : cl.slots.size = z.toNatClampNeg) (hz : ¬ z < 0) (hd : decode code pc = .ok (.arraylength, 1)) (k : own_G B n0 Q kc ks cells slots h (pc + 1) Ls (.int z :: st)) : own_G B n0 Q kc ks cells slots h pc Ls (.ref a :: st) := by
  obtain ⟨p, l, e, R, s, m, args, below, meth, c⟩ := B
  obtain ⟨rfl, rfl, hx, hZ, hown, hby, hml, hrt, hlk, hnm, hw⟩ := H
  intro T locs c1 s1 X F hc hs eT
  refine own_go (fun t r => X.arraylength hx (by rw [eT]; exact A.1) (State.isArrayOf_alike hZ.alike A.2.1) (g := mkF m pc Ls (.ref a :: st)) rfl rfl (hb hby hd) _ r) ?_
  rw [len_of S hz]
  exact k T locs c1 s1 X F hc hs eT
theorem own_iastore (H : own_Ok B Z a0 l R y code N ret) {a : Addr} {cl : Cell} {j : Int32} {x : Int32} (A : Arr Z h a cl .int) (hin : ¬ (j < 0 ∨ cl.slots.size ≤ j.toNatClampNeg)) (ha : n0 ≤ a) (hd : decode code pc = .ok (.iastore, 1)) (k : ∀ h', Wr h h' a j.toNatClampNeg (.int x) → own_G B n0 Q kc ks cells slots h' (pc + 1) Ls st) : own_G B n0 Q kc ks cells slots h pc Ls (.int x :: .int j :: .ref a :: st) := by
  obtain ⟨p, l, e, R, s, m, args, below, meth, c⟩ := B
  obtain ⟨rfl, rfl, hx, hZ, hown, hby, hml, hrt, hlk, hnm, hw⟩ := H
  intro T locs c1 s1 X F hc hs eT
  obtain ⟨T', h', X', e', W', s'⟩ := stI X hx hZ eT A hin (g := mkF m pc Ls (.int x :: .int j :: .ref a :: st)) rfl rfl (hb hby hd)
  exact own_go s' (k h' W' T' _ c1 s1 X' (Fr.snoc X' F ha) hc hs e')
theorem own_lastore (H : own_Ok B Z a0 l R y code N ret) {a : Addr} {cl : Cell} {j : Int32} {x : Int64} (A : Arr Z h a cl .long) (hin : ¬ (j < 0 ∨ cl.slots.size ≤ j.toNatClampNeg)) (ha : n0 ≤ a) (hd : decode code pc = .ok (.lastore, 1)) (k : ∀ h', Wr h h' a j.toNatClampNeg (.long x) → own_G B n0 Q kc ks cells slots h' (pc + 1) Ls st) : own_G B n0 Q kc ks cells slots h pc Ls (.long x :: .int j :: .ref a :: st) := by
  obtain ⟨p, l, e, R, s, m, args, below, meth, c⟩ := B
  obtain ⟨rfl, rfl, hx, hZ, hown, hby, hml, hrt, hlk, hnm, hw⟩ := H
  intro T locs c1 s1 X F hc hs eT
  obtain ⟨T', h', X', e', W', s'⟩ := stJ X hx hZ eT A hin (g := mkF m pc Ls (.long x :: .int j :: .ref a :: st)) rfl rfl (hb hby hd)
  exact own_go s' (k h' W' T' _ c1 s1 X' (Fr.snoc X' F ha) hc hs e')
theorem own_bastore (H : own_Ok B Z a0 l R y code N ret) {a : Addr} {cl : Cell} {j : Int32} {x : Int32} (A : Arr Z h a cl .byte) (hin : ¬ (j < 0 ∨ cl.slots.size ≤ j.toNatClampNeg)) (ha : n0 ≤ a) (hd : decode code pc = .ok (.bastore, 1)) (k : ∀ h', Wr h h' a j.toNatClampNeg (.int (nar .byte x)) → own_G B n0 Q kc ks cells slots h' (pc + 1) Ls st) : own_G B n0 Q kc ks cells slots h pc Ls (.int x :: .int j :: .ref a :: st) := by
  obtain ⟨p, l, e, R, s, m, args, below, meth, c⟩ := B
  obtain ⟨rfl, rfl, hx, hZ, hown, hby, hml, hrt, hlk, hnm, hw⟩ := H
  intro T locs c1 s1 X F hc hs eT
  obtain ⟨T', h', X', e', W', s'⟩ := stB X hx hZ eT A hin (g := mkF m pc Ls (.int x :: .int j :: .ref a :: st)) rfl rfl (hb hby hd)
  exact own_go s' (k h' W' T' _ c1 s1 X' (Fr.snoc X' F ha) hc hs e')
theorem own_castore (H : own_Ok B Z a0 l R y code N ret) {a : Addr} {cl : Cell} {j : Int32} {x : Int32} (A : Arr Z h a cl .char) (hin : ¬ (j < 0 ∨ cl.slots.size ≤ j.toNatClampNeg)) (ha : n0 ≤ a) (hd : decode code pc = .ok (.castore, 1)) (k : ∀ h', Wr h h' a j.toNatClampNeg (.int (nar .char x)) → own_G B n0 Q kc ks cells slots h' (pc + 1) Ls st) : own_G B n0 Q kc ks cells slots h pc Ls (.int x :: .int j :: .ref a :: st) := by
  obtain ⟨p, l, e, R, s, m, args, below, meth, c⟩ := B
  obtain ⟨rfl, rfl, hx, hZ, hown, hby, hml, hrt, hlk, hnm, hw⟩ := H
  intro T locs c1 s1 X F hc hs eT
  obtain ⟨T', h', X', e', W', s'⟩ := stC X hx hZ eT A hin (g := mkF m pc Ls (.int x :: .int j :: .ref a :: st)) rfl rfl (hb hby hd)
  exact own_go s' (k h' W' T' _ c1 s1 X' (Fr.snoc X' F ha) hc hs e')
theorem own_ialoadV (H : own_Ok B Z a0 l R y code N ret) {a : Addr} {kA : ClassId} {n j : Int32} {vs : List Value} {dv v : Value} (V : Arv Z h a kA .int n vs dv) (h1 : ¬ j < 0) (h2 : j < n) (hv : vs.getD j.toNatClampNeg dv = v) (hd : decode code pc = .ok (.iaload, 1)) (k : own_G B n0 Q kc ks cells slots h (pc + 1) Ls (v :: st)) : own_G B n0 Q kc ks cells slots h pc Ls (.int j :: .ref a :: st) := by
  obtain ⟨cl, A, -, S, M, Hs, -⟩ := V
  exact own_iaload H A (inb_of S ⟨h1, h2⟩) (Hs.at (inb_of S ⟨h1, h2⟩) hv) hd k
theorem own_laloadV (H : own_Ok B Z a0 l R y code N ret) {a : Addr} {kA : ClassId} {n j : Int32} {vs : List Value} {dv v : Value} (V : Arv Z h a kA .long n vs dv) (h1 : ¬ j < 0) (h2 : j < n) (hv : vs.getD j.toNatClampNeg dv = v) (hd : decode code pc = .ok (.laload, 1)) (k : own_G B n0 Q kc ks cells slots h (pc + 1) Ls (v :: st)) : own_G B n0 Q kc ks cells slots h pc Ls (.int j :: .ref a :: st) := by
  obtain ⟨cl, A, -, S, M, Hs, -⟩ := V
  exact own_laload H A (inb_of S ⟨h1, h2⟩) (Hs.at (inb_of S ⟨h1, h2⟩) hv) hd k
theorem own_caloadV (H : own_Ok B Z a0 l R y code N ret) {a : Addr} {kA : ClassId} {n j : Int32} {vs : List Value} {dv v : Value} (V : Arv Z h a kA .char n vs dv) (h1 : ¬ j < 0) (h2 : j < n) (hv : vs.getD j.toNatClampNeg dv = v) (hd : decode code pc = .ok (.caload, 1)) (k : own_G B n0 Q kc ks cells slots h (pc + 1) Ls (v :: st)) : own_G B n0 Q kc ks cells slots h pc Ls (.int j :: .ref a :: st) := by
  obtain ⟨cl, A, -, S, M, Hs, -⟩ := V
  exact own_caload H A (inb_of S ⟨h1, h2⟩) (Hs.at (inb_of S ⟨h1, h2⟩) hv) hd k
theorem own_baloadV (H : own_Ok B Z a0 l R y code N ret) {a : Addr} {kA : ClassId} {n j : Int32} {vs : List Value} {dv v : Value} (V : Arv Z h a kA .byte n vs dv) (h1 : ¬ j < 0) (h2 : j < n) (hv : vs.getD j.toNatClampNeg dv = v) (hd : decode code pc = .ok (.baload, 1)) (k : own_G B n0 Q kc ks cells slots h (pc + 1) Ls (v :: st)) : own_G B n0 Q kc ks cells slots h pc Ls (.int j :: .ref a :: st) := by
  obtain ⟨cl, A, -, S, M, Hs, -⟩ := V
  exact own_baload H A (inb_of S ⟨h1, h2⟩) (Hs.at (inb_of S ⟨h1, h2⟩) hv) hd k
theorem own_aaloadV (H : own_Ok B Z a0 l R y code N ret) {a : Addr} {kA : ClassId} {ty : FieldType} {n j : Int32} {vs : List Value} {dv v : Value} (V : Arv Z h a kA ty n vs dv) (hty : ty.isReference = true) (h1 : ¬ j < 0) (h2 : j < n) (hv : vs.getD j.toNatClampNeg dv = v) (hd : decode code pc = .ok (.aaload, 1)) (k : own_G B n0 Q kc ks cells slots h (pc + 1) Ls (v :: st)) : own_G B n0 Q kc ks cells slots h pc Ls (.int j :: .ref a :: st) := by
  obtain ⟨cl, A, -, S, M, Hs, -⟩ := V
  exact own_aaload H A hty (inb_of S ⟨h1, h2⟩) (Hs.at (inb_of S ⟨h1, h2⟩) hv) hd k
theorem own_arraylengthV (H : own_Ok B Z a0 l R y code N ret) {a : Addr} {kA : ClassId} {ty : FieldType} {n : Int32} {vs : List Value} {dv : Value} (V : Arv Z h a kA ty n vs dv) (hd : decode code pc = .ok (.arraylength, 1)) (k : own_G B n0 Q kc ks cells slots h (pc + 1) Ls (.int n :: st)) : own_G B n0 Q kc ks cells slots h pc Ls (.ref a :: st) := by
  obtain ⟨cl, A, -, S, M, -, -⟩ := V
  exact own_arraylength H A S M hd k
theorem own_iastoreV (H : own_Ok B Z a0 l R y code N ret) {a : Addr} {kA : ClassId} {n j : Int32} {vs : List Value} {dv u : Value} {x : Int32} (V : Arv Z h a kA .int n vs dv) (h1 : ¬ j < 0) (h2 : j < n) (i : Nat) (hj : j.toNatClampNeg = i) (hi : i < vs.length) (ha : n0 ≤ a) (hu : (.int x) = u) (hd : decode code pc = .ok (.iastore, 1)) (k : ∀ h', Wr h h' a j.toNatClampNeg u → Arv Z h' a kA .int n (vs.set i u) dv → own_G B n0 Q kc ks cells slots h' (pc + 1) Ls st) : own_G B n0 Q kc ks cells slots h pc Ls (.int x :: .int j :: .ref a :: st) := by
  subst hu
  obtain ⟨cl, A, q1, S, M, Hs, Fs⟩ := V
  exact own_iastore H A (inb_of S ⟨h1, h2⟩) ha hd fun h' W => k h' W (Arv.set A q1 S M Hs Fs rfl W i hj hi)
theorem own_lastoreV (H : own_Ok B Z a0 l R y code N ret) {a : Addr} {kA : ClassId} {n j : Int32} {vs : List Value} {dv u : Value} {x : Int64} (V : Arv Z h a kA .long n vs dv) (h1 : ¬ j < 0) (h2 : j < n) (i : Nat) (hj : j.toNatClampNeg = i) (hi : i < vs.length) (ha : n0 ≤ a) (hu : (.long x) = u) (hd : decode code pc = .ok (.lastore, 1)) (k : ∀ h', Wr h h' a j.toNatClampNeg u → Arv Z h' a kA .long n (vs.set i u) dv → own_G B n0 Q kc ks cells slots h' (pc + 1) Ls st) : own_G B n0 Q kc ks cells slots h pc Ls (.long x :: .int j :: .ref a :: st) := by
  subst hu
  obtain ⟨cl, A, q1, S, M, Hs, Fs⟩ := V
  exact own_lastore H A (inb_of S ⟨h1, h2⟩) ha hd fun h' W => k h' W (Arv.set A q1 S M Hs Fs rfl W i hj hi)
theorem own_bastoreV (H : own_Ok B Z a0 l R y code N ret) {a : Addr} {kA : ClassId} {n j : Int32} {vs : List Value} {dv u : Value} {x : Int32} (V : Arv Z h a kA .byte n vs dv) (h1 : ¬ j < 0) (h2 : j < n) (i : Nat) (hj : j.toNatClampNeg = i) (hi : i < vs.length) (ha : n0 ≤ a) (hu : (.int (nar .byte x)) = u) (hd : decode code pc = .ok (.bastore, 1)) (k : ∀ h', Wr h h' a j.toNatClampNeg u → Arv Z h' a kA .byte n (vs.set i u) dv → own_G B n0 Q kc ks cells slots h' (pc + 1) Ls st) : own_G B n0 Q kc ks cells slots h pc Ls (.int x :: .int j :: .ref a :: st) := by
  subst hu
  obtain ⟨cl, A, q1, S, M, Hs, Fs⟩ := V
  exact own_bastore H A (inb_of S ⟨h1, h2⟩) ha hd fun h' W => k h' W (Arv.set A q1 S M Hs Fs (fits_nar_byte x) W i hj hi)
theorem own_castoreV (H : own_Ok B Z a0 l R y code N ret) {a : Addr} {kA : ClassId} {n j : Int32} {vs : List Value} {dv u : Value} {x : Int32} (V : Arv Z h a kA .char n vs dv) (h1 : ¬ j < 0) (h2 : j < n) (i : Nat) (hj : j.toNatClampNeg = i) (hi : i < vs.length) (ha : n0 ≤ a) (hu : (.int (nar .char x)) = u) (hd : decode code pc = .ok (.castore, 1)) (k : ∀ h', Wr h h' a j.toNatClampNeg u → Arv Z h' a kA .char n (vs.set i u) dv → own_G B n0 Q kc ks cells slots h' (pc + 1) Ls st) : own_G B n0 Q kc ks cells slots h pc Ls (.int x :: .int j :: .ref a :: st) := by
  subst hu
  obtain ⟨cl, A, q1, S, M, Hs, Fs⟩ := V
  exact own_castore H A (inb_of S ⟨h1, h2⟩) ha hd fun h' W => k h' W (Arv.set A q1 S M Hs Fs (fits_nar_char x) W i hj hi)
theorem own_initObject (H : own_Ok B Z a0 l R y code N ret) {i w1 w2 w3 : Nat} (q1 : tables_1[w1]? = some (Jvm.Cond.methodLink y.cls i Lib.objectInit)) (q2 : tables_1[w2]? = some (Jvm.Cond.instanceMethod Lib.objectInit)) (q3 : tables_1[w3]? = some (Jvm.Cond.code Lib.objectInit ⟨#[0xb1]⟩ 1 none)) {a : Addr} (W : Nat) (hsz : Ls.size = N) (hf : 1 ≤ R.frames) (hW : (st.map fun v => v.category).sum ≤ W) (hl : W + 12 ≤ R.locals)
    (hd : decode code pc = .ok (.invokespecial i, 3)) (k : own_G B n0 Q kc ks cells slots h (pc + 3) Ls st) : own_G B n0 Q kc ks cells slots h pc Ls (.ref a :: st) := by
  obtain ⟨p, l, e, R, s, m, args, below, meth, c⟩ := B
  obtain ⟨rfl, rfl, hx, hZ, hown, hby, hml, hrt, hlk, hnm, hw⟩ := H
  intro T locs c1 s1 X F hc hs eT
  obtain ⟨T', X', e', s'⟩ := initO X hx hZ hown (hw _ _ q1) (hw _ _ q2) (hw _ _ q3) eT (g := mkF m pc Ls (.ref a :: st)) rfl (hsz.trans hml.symm) rfl (hb hby hd) hf (W := W) (by show 2 * 0 + _ ≤ _; omega) hl
  exact own_go s' (k T' locs c1 s1 X' F hc hs e')
theorem own_invokestatic (H : own_Ok B Z a0 l R y code N ret) {i w1 w2 w3 w4 : Nat} {yc : MethodName} {bytes : ByteArray} {maxL : Nat} {rc : Option FieldType} {rm : Room} {Qc : Option Value → Heap → Prop} {argsL rest : List Value} (hM : own_C l Z yc bytes maxL rc rm argsL.toArray h n0 Qc)
    (q1 : tables_1[w1]? = some (Jvm.Cond.methodLink y.cls i yc)) (q2 : tables_1[w2]? = some (Jvm.Cond.static yc)) (qz : tables_1[w3]? = some (Jvm.Cond.initialized yc.cls)) (qc : tables_1[w4]? = some (Jvm.Cond.code yc bytes maxL rc)) {ps : List FieldType} {r : Option FieldType} (hpd : parseMethodDescriptor yc.desc = some ⟨ps, r⟩) (hln : argsL.length = ps.length) (W : Nat) (hne : yc.cls ≠ "java/lang/invoke/MethodHandle" ∧ yc.cls ≠ "java/lang/invoke/VarHandle")
    (hsz : Ls.size = N) (hfr : rm.frames + 1 ≤ R.frames) (hW : (rest.map fun v => v.category).sum ≤ W) (hlo : W + (maxL + 11) + rm.locals ≤ R.locals) (hkc : cells + rm.cells ≤ R.cells) (hks : slots + rm.slots ≤ R.slots) (hst : st = argsL.reverse ++ rest) (hd : decode code pc = .ok (.invokestatic i, 3))
    (k : ∀ v h', Qc v h' → own_G B n0 Q kc ks (cells + rm.cells) (slots + rm.slots) h' (pc + 3) Ls (v.toList ++ rest)) : own_G B n0 Q kc ks cells slots h pc Ls st := by
  obtain ⟨p, l, e, R, s, m, args, below, meth, c⟩ := B
  obtain ⟨rfl, rfl, hx, hZ, hown, hby, hml, hrt, hlk, hnm, hw⟩ := H
  intro T locs c1 s1 X F hc hs eT
  subst hst
  obtain ⟨v', _, ⟨T', L', k', n'⟩, -, X', ⟨Lc', hQ', l', y', z'⟩, s'⟩ := Jvm.LawKit.callS X hx (y := yc) hown (mvT hZ (hw _ _ q1)) (mvT hZ (hw _ _ q2)) (mvT hZ (hw _ _ qz)) (mvT hZ (hw _ _ qc)) hne (backOf (W := W) (bytes := bytes) (rm := rm) (Q := fun v hh L => Qc v hh ∧ Fr n0 L) (h := h) hM hZ (hw _ _ qc) (hw _ _ qz) hfr hlo) (g := mkF m pc Ls (argsL.reverse ++ rest)) rfl (hsz.trans hml.symm) (argsL := argsL) (rest := rest) (lenOf hpd hln) rfl (by show 2 * 0 + _ ≤ _; omega) (hb hby hd) (fun _ _ => ⟨rfl, eT, Nat.le_trans (Nat.add_le_add_right hc _) hkc, Nat.le_trans (Nat.add_le_add_right hs _) hks⟩)
  dsimp only [Pt.U, Pt.locs, Pt.cells, Pt.slots] at X' l' y' z' s' hQ'
  subst l' y' z'
  exact own_go s' (k v' _ hQ'.1 T' _ _ _ X' (F.app hQ'.2) (Nat.add_le_add_right hc _) (Nat.add_le_add_right hs _) rfl)
theorem own_invokespecial (H : own_Ok B Z a0 l R y code N ret) {i w1 w2 w3 w4 : Nat} {yc : MethodName} {bytes : ByteArray} {maxL : Nat} {rm : Room} {Qc : Option Value → Heap → Prop} {a : Addr} {argsL rest : List Value} (hM : own_C l Z yc bytes maxL none rm (.ref a :: argsL).toArray h n0 Qc) (hin : yc.name = "<init>")
    (q1 : tables_1[w1]? = some (Jvm.Cond.methodLink y.cls i yc)) (q2 : tables_1[w2]? = some (Jvm.Cond.instanceMethod yc)) (qz : tables_1[w3]? = some (Jvm.Cond.initialized yc.cls)) (qc : tables_1[w4]? = some (Jvm.Cond.code yc bytes maxL none)) {ps : List FieldType} {r : Option FieldType} (hpd : parseMethodDescriptor yc.desc = some ⟨ps, r⟩) (hln : argsL.length = ps.length) (W : Nat) (hne : yc.cls ≠ "java/lang/invoke/MethodHandle" ∧ yc.cls ≠ "java/lang/invoke/VarHandle")
    (hsz : Ls.size = N) (hfr : rm.frames + 1 ≤ R.frames) (hW : (rest.map fun v => v.category).sum ≤ W) (hlo : W + (maxL + 11) + rm.locals ≤ R.locals) (hkc : cells + rm.cells ≤ R.cells) (hks : slots + rm.slots ≤ R.slots) (hst : st = argsL.reverse ++ .ref a :: rest) (hd : decode code pc = .ok (.invokespecial i, 3))
    (k : ∀ v h', Qc v h' → own_G B n0 Q kc ks (cells + rm.cells) (slots + rm.slots) h' (pc + 3) Ls (v.toList ++ rest)) : own_G B n0 Q kc ks cells slots h pc Ls st := by
  obtain ⟨p, l, e, R, s, m, args, below, meth, c⟩ := B
  obtain ⟨rfl, rfl, hx, hZ, hown, hby, hml, hrt, hlk, hnm, hw⟩ := H
  intro T locs c1 s1 X F hc hs eT
  subst hst
  obtain ⟨v', _, ⟨T', L', k', n'⟩, -, X', ⟨Lc', hQ', l', y', z'⟩, s'⟩ := X.specialBack hx (y := yc) hin hown (mvT hZ (hw _ _ q1)) (mvT hZ (hw _ _ q2)) (mvT hZ (hw _ _ qc)) hne (backOf (W := W) (bytes := bytes) (rm := rm) (Q := fun v hh L => Qc v hh ∧ Fr n0 L) (h := h) hM hZ (hw _ _ qc) (hw _ _ qz) hfr hlo) (g := mkF m pc Ls (argsL.reverse ++ .ref a :: rest)) rfl (hsz.trans hml.symm) (Steps.refl _) (a := a) (argsL := argsL) (rest := rest) (lenOf hpd hln) rfl (by show 2 * 0 + _ ≤ _; omega) (hb hby hd) (fun _ _ => ⟨rfl, eT, Nat.le_trans (Nat.add_le_add_right hc _) hkc, Nat.le_trans (Nat.add_le_add_right hs _) hks⟩)
  dsimp only [Pt.U, Pt.locs, Pt.cells, Pt.slots] at X' l' y' z' s' hQ'
  subst l' y' z'
  exact own_go (fun t q => s'.trans q) (k v' _ hQ'.1 T' _ _ _ X' (F.app hQ'.2) (Nat.add_le_add_right hc _) (Nat.add_le_add_right hs _) rfl)
theorem own_invokevirtual (H : own_Ok B Z a0 l R y code N ret) {i w0 w1 w2 w3 w4 w5 : Nat} {C : String} {yc : MethodName} {bytes : ByteArray} {maxL : Nat} {rc : Option FieldType} {rm : Room} {Qc : Option Value → Heap → Prop} {a : Addr} {argsL rest : List Value} (hM : own_C l Z yc bytes maxL rc rm (.ref a :: argsL).toArray h n0 Qc) (E : Exa Z h a C)
    (q1 : tables_1[w1]? = some (Jvm.Cond.methodLink y.cls i yc)) (q0 : tables_1[w0]? = some (Jvm.Cond.declares yc)) (q5 : tables_1[w5]? = some (Jvm.Cond.selects C yc yc)) (q2 : tables_1[w2]? = some (Jvm.Cond.instanceMethod yc)) (qz : tables_1[w3]? = some (Jvm.Cond.initialized yc.cls)) (qc : tables_1[w4]? = some (Jvm.Cond.code yc bytes maxL rc)) {ps : List FieldType} {r : Option FieldType} (hpd : parseMethodDescriptor yc.desc = some ⟨ps, r⟩) (hln : argsL.length = ps.length) (W : Nat) (hne : yc.cls ≠ "java/lang/invoke/MethodHandle" ∧ yc.cls ≠ "java/lang/invoke/VarHandle")
    (hsz : Ls.size = N) (hfr : rm.frames + 1 ≤ R.frames) (hW : (rest.map fun v => v.category).sum ≤ W) (hlo : W + (maxL + 11) + rm.locals ≤ R.locals) (hkc : cells + rm.cells ≤ R.cells) (hks : slots + rm.slots ≤ R.slots) (hst : st = argsL.reverse ++ .ref a :: rest) (hd : decode code pc = .ok (.invokevirtual i, 3))
    (k : ∀ v h', Qc v h' → own_G B n0 Q kc ks (cells + rm.cells) (slots + rm.slots) h' (pc + 3) Ls (v.toList ++ rest)) : own_G B n0 Q kc ks cells slots h pc Ls st := by
  obtain ⟨p, l, e, R, s, m, args, below, meth, c⟩ := B
  obtain ⟨rfl, rfl, hx, hZ, hown, hby, hml, hrt, hlk, hnm, hw⟩ := H
  intro T locs c1 s1 X F hc hs eT
  subst hst
  obtain ⟨cq, kq, qa, -, qb⟩ := isOf hZ eT E
  obtain ⟨v', _, ⟨T', L', k', n'⟩, -, X', ⟨Lc', hQ', l', y', z'⟩, s'⟩ := X.virtualBack hx (y := yc) (z := yc) hown (mvT hZ (hw _ _ q1)) (mvT hZ (hw _ _ q0)) (notFace_of_selects (args := #[]) (mvT hZ (hw _ _ q5))) (mvT hZ (hw _ _ q5)) (mvT hZ (hw _ _ q2)) hne (backOf (W := W) (bytes := bytes) (rm := rm) (Q := fun v hh L => Qc v hh ∧ Fr n0 L) (h := h) hM hZ (hw _ _ qc) (hw _ _ qz) hfr hlo) qa qb (g := mkF m pc Ls (argsL.reverse ++ .ref a :: rest)) rfl (hsz.trans hml.symm) (Steps.refl _) (argsL := argsL) (rest := rest) (lenOf hpd hln) rfl (by show 2 * 0 + _ ≤ _; omega) (hb hby hd) (fun _ _ => ⟨rfl, eT, Nat.le_trans (Nat.add_le_add_right hc _) hkc, Nat.le_trans (Nat.add_le_add_right hs _) hks⟩)
  dsimp only [Pt.U, Pt.locs, Pt.cells, Pt.slots] at X' l' y' z' s' hQ'
  subst l' y' z'
  exact own_go (fun t q => s'.trans q) (k v' _ hQ'.1 T' _ _ _ X' (F.app hQ'.2) (Nat.add_le_add_right hc _) (Nat.add_le_add_right hs _) rfl)
end Laws
end OwnKit
theorem d3_0 : decode jdk_29_method_66_code 0 = .ok (.lload_n 0, 1) := by decide +kernel
theorem d3_1 : decode jdk_29_method_66_code 1 = .ok (.lload_n 2, 1) := by decide +kernel
theorem d3_2 : decode jdk_29_method_66_code 2 = .ok (.lcmp, 1) := by decide +kernel
theorem d3_3 : decode jdk_29_method_66_code 3 = .ok (.ifCond .lt 7, 3) := by decide +kernel
theorem d3_6 : decode jdk_29_method_66_code 6 = .ok (.lload_n 0, 1) := by decide +kernel
theorem d3_7 : decode jdk_29_method_66_code 7 = .ok (.goto 4, 3) := by decide +kernel
theorem d3_10 : decode jdk_29_method_66_code 10 = .ok (.lload_n 2, 1) := by decide +kernel
theorem d3_11 : decode jdk_29_method_66_code 11 = .ok (.lreturn, 1) := by decide +kernel
theorem own_pl3 : plainFor (⟨"java/lang/Math", "max", "(JJ)J"⟩ : MethodName) = true := Jvm.Free.JP.mathPlain rfl (by decide +kernel)
theorem own_pd0 : parseMethodDescriptor "(JJ)J" = some ⟨[.long, .long], some .long⟩ := by decide +kernel
def FMax (p1 : Int64) (p2 : Int64) : Int64 := if p1 < p2 then p2 else p1
set_option maxHeartbeats 4000000 in
theorem rmMax (l : Launch) (Z : State) (a0 : Array Value) (hw : ∀ (i : Nat) (d : Jvm.Cond), tables_1[i]? = some d → d.before a0 Z = true) (h0 : Heap) (n0 : Nat) (p1 : Int64) (p2 : Int64) :
    own_P l Z (⟨"java/lang/Math", "max", "(JJ)J"⟩ : MethodName) jdk_29_method_66_code 4 (some .long) (own_rm 0 0) #[(.long p1), (.long p2)] h0 n0 (.long (FMax p1 p2)) := by
  refine own_met (Ls := #[.val (.long p1), .second, .val (.long p2), .second]) hw own_pl3 (fun m => by first | (simp [entryFrame, mkF, argsToLocals, Value.category]; done) | rfl) ?_
  intro B H
  refine own_lload_n H rfl d3_0 ?_
  refine own_lload_n H rfl d3_1 ?_
  by_cases c1 : p1 < p2
  ·
    refine own_lcmplt_t H (pc' := 10) d3_2 d3_3 (by decide) (by decide) c1 ?_
    refine own_lload_n H rfl d3_10 ?_
    exact own_lreturn H d3_11 (Nat.le_refl _) (Nat.le_refl _) ⟨by show some _ = some _; rw [FMax, if_pos c1], rfl⟩
  ·
    refine own_lcmplt_f H d3_2 d3_3 c1 ?_
    refine own_lload_n H rfl d3_6 ?_
    refine own_goto H (pc' := 11) d3_7 (by decide) (by decide) ?_
    exact own_lreturn H d3_11 (Nat.le_refl _) (Nat.le_refl _) ⟨by show some _ = some _; rw [FMax, if_neg c1], rfl⟩
def FP (d : Int32) : Int64 := ([(1 : Int64), (10 : Int64), (100 : Int64), (1000 : Int64), (10000 : Int64), (100000 : Int64), (1000000 : Int64), (10000000 : Int64), (100000000 : Int64), (1000000000 : Int64), (10000000000 : Int64), (100000000000 : Int64), (1000000000000 : Int64), (10000000000000 : Int64), (100000000000000 : Int64), (1000000000000000 : Int64), (10000000000000000 : Int64)] : List Int64).getD d.toNatClampNeg 0
theorem own_fp (d : Int32) : ([(.long (1 : Int64)), (.long (10 : Int64)), (.long (100 : Int64)), (.long (1000 : Int64)), (.long (10000 : Int64)), (.long (100000 : Int64)), (.long (1000000 : Int64)), (.long (10000000 : Int64)), (.long (100000000 : Int64)), (.long (1000000000 : Int64)), (.long (10000000000 : Int64)), (.long (100000000000 : Int64)), (.long (1000000000000 : Int64)), (.long (10000000000000 : Int64)), (.long (100000000000000 : Int64)), (.long (1000000000000000 : Int64)), (.long (10000000000000000 : Int64))] : List Value).getD d.toNatClampNeg (.long 0) = .long (FP d) := by
  unfold FP
  generalize d.toNatClampNeg = k
  match k with
  | 0 => rfl
  | 1 => rfl
  | 2 => rfl
  | 3 => rfl
  | 4 => rfl
  | 5 => rfl
  | 6 => rfl
  | 7 => rfl
  | 8 => rfl
  | 9 => rfl
  | 10 => rfl
  | 11 => rfl
  | 12 => rfl
  | 13 => rfl
  | 14 => rfl
  | 15 => rfl
  | 16 => rfl
  | k + 17 => rfl
theorem d1_0 : decode method_2_code 0 = .ok (.bipush 17, 2) := by decide +kernel
theorem d1_2 : decode method_2_code 2 = .ok (.newarray .long, 2) := by decide +kernel
theorem d1_4 : decode method_2_code 4 = .ok (.dup, 1) := by decide +kernel
theorem d1_5 : decode method_2_code 5 = .ok (.iconst 0, 1) := by decide +kernel
theorem d1_6 : decode method_2_code 6 = .ok (.lconst 1, 1) := by decide +kernel
theorem d1_7 : decode method_2_code 7 = .ok (.lastore, 1) := by decide +kernel
theorem d1_8 : decode method_2_code 8 = .ok (.dup, 1) := by decide +kernel
theorem d1_9 : decode method_2_code 9 = .ok (.iconst 1, 1) := by decide +kernel
theorem d1_10 : decode method_2_code 10 = .ok (.ldc2_w 7, 3) := by decide +kernel
theorem d1_13 : decode method_2_code 13 = .ok (.lastore, 1) := by decide +kernel
theorem d1_14 : decode method_2_code 14 = .ok (.dup, 1) := by decide +kernel
theorem d1_15 : decode method_2_code 15 = .ok (.iconst 2, 1) := by decide +kernel
theorem d1_16 : decode method_2_code 16 = .ok (.ldc2_w 9, 3) := by decide +kernel
theorem d1_19 : decode method_2_code 19 = .ok (.lastore, 1) := by decide +kernel
theorem d1_20 : decode method_2_code 20 = .ok (.dup, 1) := by decide +kernel
theorem d1_21 : decode method_2_code 21 = .ok (.iconst 3, 1) := by decide +kernel
theorem d1_22 : decode method_2_code 22 = .ok (.ldc2_w 11, 3) := by decide +kernel
theorem d1_25 : decode method_2_code 25 = .ok (.lastore, 1) := by decide +kernel
theorem d1_26 : decode method_2_code 26 = .ok (.dup, 1) := by decide +kernel
theorem d1_27 : decode method_2_code 27 = .ok (.iconst 4, 1) := by decide +kernel
theorem d1_28 : decode method_2_code 28 = .ok (.ldc2_w 13, 3) := by decide +kernel
theorem d1_31 : decode method_2_code 31 = .ok (.lastore, 1) := by decide +kernel
theorem d1_32 : decode method_2_code 32 = .ok (.dup, 1) := by decide +kernel
theorem d1_33 : decode method_2_code 33 = .ok (.iconst 5, 1) := by decide +kernel
theorem d1_34 : decode method_2_code 34 = .ok (.ldc2_w 15, 3) := by decide +kernel
theorem d1_37 : decode method_2_code 37 = .ok (.lastore, 1) := by decide +kernel
theorem d1_38 : decode method_2_code 38 = .ok (.dup, 1) := by decide +kernel
theorem d1_39 : decode method_2_code 39 = .ok (.bipush 6, 2) := by decide +kernel
theorem d1_41 : decode method_2_code 41 = .ok (.ldc2_w 17, 3) := by decide +kernel
theorem d1_44 : decode method_2_code 44 = .ok (.lastore, 1) := by decide +kernel
theorem d1_45 : decode method_2_code 45 = .ok (.dup, 1) := by decide +kernel
theorem d1_46 : decode method_2_code 46 = .ok (.bipush 7, 2) := by decide +kernel
theorem d1_48 : decode method_2_code 48 = .ok (.ldc2_w 19, 3) := by decide +kernel
theorem d1_51 : decode method_2_code 51 = .ok (.lastore, 1) := by decide +kernel
theorem d1_52 : decode method_2_code 52 = .ok (.dup, 1) := by decide +kernel
theorem d1_53 : decode method_2_code 53 = .ok (.bipush 8, 2) := by decide +kernel
theorem d1_55 : decode method_2_code 55 = .ok (.ldc2_w 21, 3) := by decide +kernel
theorem d1_58 : decode method_2_code 58 = .ok (.lastore, 1) := by decide +kernel
theorem d1_59 : decode method_2_code 59 = .ok (.dup, 1) := by decide +kernel
theorem d1_60 : decode method_2_code 60 = .ok (.bipush 9, 2) := by decide +kernel
theorem d1_62 : decode method_2_code 62 = .ok (.ldc2_w 23, 3) := by decide +kernel
theorem d1_65 : decode method_2_code 65 = .ok (.lastore, 1) := by decide +kernel
theorem d1_66 : decode method_2_code 66 = .ok (.dup, 1) := by decide +kernel
theorem d1_67 : decode method_2_code 67 = .ok (.bipush 10, 2) := by decide +kernel
theorem d1_69 : decode method_2_code 69 = .ok (.ldc2_w 25, 3) := by decide +kernel
theorem d1_72 : decode method_2_code 72 = .ok (.lastore, 1) := by decide +kernel
theorem d1_73 : decode method_2_code 73 = .ok (.dup, 1) := by decide +kernel
theorem d1_74 : decode method_2_code 74 = .ok (.bipush 11, 2) := by decide +kernel
theorem d1_76 : decode method_2_code 76 = .ok (.ldc2_w 27, 3) := by decide +kernel
theorem d1_79 : decode method_2_code 79 = .ok (.lastore, 1) := by decide +kernel
theorem d1_80 : decode method_2_code 80 = .ok (.dup, 1) := by decide +kernel
theorem d1_81 : decode method_2_code 81 = .ok (.bipush 12, 2) := by decide +kernel
theorem d1_83 : decode method_2_code 83 = .ok (.ldc2_w 29, 3) := by decide +kernel
theorem d1_86 : decode method_2_code 86 = .ok (.lastore, 1) := by decide +kernel
theorem d1_87 : decode method_2_code 87 = .ok (.dup, 1) := by decide +kernel
theorem d1_88 : decode method_2_code 88 = .ok (.bipush 13, 2) := by decide +kernel
theorem d1_90 : decode method_2_code 90 = .ok (.ldc2_w 31, 3) := by decide +kernel
theorem d1_93 : decode method_2_code 93 = .ok (.lastore, 1) := by decide +kernel
theorem d1_94 : decode method_2_code 94 = .ok (.dup, 1) := by decide +kernel
theorem d1_95 : decode method_2_code 95 = .ok (.bipush 14, 2) := by decide +kernel
theorem d1_97 : decode method_2_code 97 = .ok (.ldc2_w 33, 3) := by decide +kernel
theorem d1_100 : decode method_2_code 100 = .ok (.lastore, 1) := by decide +kernel
theorem d1_101 : decode method_2_code 101 = .ok (.dup, 1) := by decide +kernel
theorem d1_102 : decode method_2_code 102 = .ok (.bipush 15, 2) := by decide +kernel
theorem d1_104 : decode method_2_code 104 = .ok (.ldc2_w 35, 3) := by decide +kernel
theorem d1_107 : decode method_2_code 107 = .ok (.lastore, 1) := by decide +kernel
theorem d1_108 : decode method_2_code 108 = .ok (.dup, 1) := by decide +kernel
theorem d1_109 : decode method_2_code 109 = .ok (.bipush 16, 2) := by decide +kernel
theorem d1_111 : decode method_2_code 111 = .ok (.ldc2_w 37, 3) := by decide +kernel
theorem d1_114 : decode method_2_code 114 = .ok (.lastore, 1) := by decide +kernel
theorem d1_115 : decode method_2_code 115 = .ok (.astore_n 1, 1) := by decide +kernel
theorem d1_116 : decode method_2_code 116 = .ok (.aload_n 1, 1) := by decide +kernel
theorem d1_117 : decode method_2_code 117 = .ok (.iload_n 0, 1) := by decide +kernel
theorem d1_118 : decode method_2_code 118 = .ok (.laload, 1) := by decide +kernel
theorem d1_119 : decode method_2_code 119 = .ok (.lreturn, 1) := by decide +kernel
theorem own_pl1 : plainFor (⟨"com/example/vestwright/vestwright/input/DigitsIsAbovePinLaw", "pow10", "(I)J"⟩ : MethodName) = true := plainFor_of_name (by first | (simp [plainName, overriddenIn]; done) | decide +kernel)
theorem own_pd1 : parseMethodDescriptor "(I)J" = some ⟨[.int], some .long⟩ := by decide +kernel
set_option maxHeartbeats 4000000 in
theorem rmP (l : Launch) (Z : State) (a0 : Array Value) (hw : ∀ (i : Nat) (d : Jvm.Cond), tables_1[i]? = some d → d.before a0 Z = true) (h0 : Heap) (n0 : Nat) (d : Int32) (hZ0 : n0 ≤ h0.size) (hd1 : ¬ d < 0) (hd2 : d < (17 : Int32)) :
    own_C l Z (⟨"com/example/vestwright/vestwright/input/DigitsIsAbovePinLaw", "pow10", "(I)J"⟩ : MethodName) method_2_code 2 (some .long) ({ frames := 0, cells := 1, slots := 17, locals := 0 } : Room) #[(.int d)] h0 n0 (fun v h' => v = some (.long (FP d)) ∧ Keep h0 h' []) := by
  refine own_met (Ls := #[.val (.int d), .unset]) hw own_pl1 (fun m => by first | (simp [entryFrame, mkF, argsToLocals, Value.category]; done) | rfl) ?_
  intro B H
  have hK : Keep h0 h0 [] := Keep.refl _ _
  refine own_bipush H (17 : Int32) (by decide) d1_0 ?_
  refine own_newarray H (w := 5) (n := (17 : Int32)) rfl (by decide) 17 (by decide) (by decide) d1_2 (by decide) (by decide) ?_
  intro h1 a2 kA3 ha4 E5 V6
  have f7 : n0 ≤ a2 := by rw [ha4]; exact hZ0
  have f8 : h0.size ≤ a2 := by rw [ha4]; exact hK.1
  have f9 : n0 ≤ h1.size := Nat.le_trans hZ0 E5.1
  have f10 : Keep h0 h1 [] := hK.ext E5
  have f11 : Arv Z h1 a2 kA3 .long (17 : Int32) [(.long 0), (.long 0), (.long 0), (.long 0), (.long 0), (.long 0), (.long 0), (.long 0), (.long 0), (.long 0), (.long 0), (.long 0), (.long 0), (.long 0), (.long 0), (.long 0), (.long 0)] (.long 0) := V6.pad (pad_rep [] (.long 0) 17)
  show own_G _ _ _ _ _ _ _ _ 4 #[.val (.int d), .unset] [(.ref a2)]
  refine own_dup H rfl d1_4 ?_
  refine own_iconst H (0 : Int32) (by decide) d1_5 ?_
  refine own_lconst H (1 : Int64) (by decide) d1_6 ?_
  refine own_lastoreV H f11 (by decide) (by decide) 0 (by decide) (Nat.le_of_ble_eq_true rfl) f7 rfl d1_7 ?_
  intro h12 W13 V14
  have f15 : n0 ≤ h12.size := by rw [W13.size]; exact f9
  have f16 : Keep h0 h12 [] := f10.wr W13 (Or.inr f8)
  have f17 : Arv Z h12 a2 kA3 .long (17 : Int32) [(.long (1 : Int64)), (.long 0), (.long 0), (.long 0), (.long 0), (.long 0), (.long 0), (.long 0), (.long 0), (.long 0), (.long 0), (.long 0), (.long 0), (.long 0), (.long 0), (.long 0), (.long 0)] (.long 0) := V14
  refine own_dup H rfl d1_8 ?_
  refine own_iconst H (1 : Int32) (by decide) d1_9 ?_
  refine own_ldc2J H (w := 6) rfl d1_10 ?_
  refine own_lastoreV H f17 (by decide) (by decide) 1 (by decide) (Nat.le_of_ble_eq_true rfl) f7 rfl d1_13 ?_
  intro h18 W19 V20
  have f21 : n0 ≤ h18.size := by rw [W19.size]; exact f15
  have f22 : Keep h0 h18 [] := f16.wr W19 (Or.inr f8)
  have f23 : Arv Z h18 a2 kA3 .long (17 : Int32) [(.long (1 : Int64)), (.long (10 : Int64)), (.long 0), (.long 0), (.long 0), (.long 0), (.long 0), (.long 0), (.long 0), (.long 0), (.long 0), (.long 0), (.long 0), (.long 0), (.long 0), (.long 0), (.long 0)] (.long 0) := V20
  refine own_dup H rfl d1_14 ?_
  refine own_iconst H (2 : Int32) (by decide) d1_15 ?_
  refine own_ldc2J H (w := 7) rfl d1_16 ?_
  refine own_lastoreV H f23 (by decide) (by decide) 2 (by decide) (Nat.le_of_ble_eq_true rfl) f7 rfl d1_19 ?_
  intro h24 W25 V26
  have f27 : n0 ≤ h24.size := by rw [W25.size]; exact f21
  have f28 : Keep h0 h24 [] := f22.wr W25 (Or.inr f8)
  have f29 : Arv Z h24 a2 kA3 .long (17 : Int32) [(.long (1 : Int64)), (.long (10 : Int64)), (.long (100 : Int64)), (.long 0), (.long 0), (.long 0), (.long 0), (.long 0), (.long 0), (.long 0), (.long 0), (.long 0), (.long 0), (.long 0), (.long 0), (.long 0), (.long 0)] (.long 0) := V26
  refine own_dup H rfl d1_20 ?_
  refine own_iconst H (3 : Int32) (by decide) d1_21 ?_
  refine own_ldc2J H (w := 8) rfl d1_22 ?_
  refine own_lastoreV H f29 (by decide) (by decide) 3 (by decide) (Nat.le_of_ble_eq_true rfl) f7 rfl d1_25 ?_
  intro h30 W31 V32
  have f33 : n0 ≤ h30.size := by rw [W31.size]; exact f27
  have f34 : Keep h0 h30 [] := f28.wr W31 (Or.inr f8)
  have f35 : Arv Z h30 a2 kA3 .long (17 : Int32) [(.long (1 : Int64)), (.long (10 : Int64)), (.long (100 : Int64)), (.long (1000 : Int64)), (.long 0), (.long 0), (.long 0), (.long 0), (.long 0), (.long 0), (.long 0), (.long 0), (.long 0), (.long 0), (.long 0), (.long 0), (.long 0)] (.long 0) := V32
  refine own_dup H rfl d1_26 ?_
  refine own_iconst H (4 : Int32) (by decide) d1_27 ?_
  refine own_ldc2J H (w := 9) rfl d1_28 ?_
  refine own_lastoreV H f35 (by decide) (by decide) 4 (by decide) (Nat.le_of_ble_eq_true rfl) f7 rfl d1_31 ?_
  intro h36 W37 V38
  have f39 : n0 ≤ h36.size := by rw [W37.size]; exact f33
  have f40 : Keep h0 h36 [] := f34.wr W37 (Or.inr f8)
  have f41 : Arv Z h36 a2 kA3 .long (17 : Int32) [(.long (1 : Int64)), (.long (10 : Int64)), (.long (100 : Int64)), (.long (1000 : Int64)), (.long (10000 : Int64)), (.long 0), (.long 0), (.long 0), (.long 0), (.long 0), (.long 0), (.long 0), (.long 0), (.long 0), (.long 0), (.long 0), (.long 0)] (.long 0) := V38
  refine own_dup H rfl d1_32 ?_
  refine own_iconst H (5 : Int32) (by decide) d1_33 ?_
  refine own_ldc2J H (w := 10) rfl d1_34 ?_
  refine own_lastoreV H f41 (by decide) (by decide) 5 (by decide) (Nat.le_of_ble_eq_true rfl) f7 rfl d1_37 ?_
  intro h42 W43 V44
  have f45 : n0 ≤ h42.size := by rw [W43.size]; exact f39
  have f46 : Keep h0 h42 [] := f40.wr W43 (Or.inr f8)
  have f47 : Arv Z h42 a2 kA3 .long (17 : Int32) [(.long (1 : Int64)), (.long (10 : Int64)), (.long (100 : Int64)), (.long (1000 : Int64)), (.long (10000 : Int64)), (.long (100000 : Int64)), (.long 0), (.long 0), (.long 0), (.long 0), (.long 0), (.long 0), (.long 0), (.long 0), (.long 0), (.long 0), (.long 0)] (.long 0) := V44
  refine own_dup H rfl d1_38 ?_
  refine own_bipush H (6 : Int32) (by decide) d1_39 ?_
  refine own_ldc2J H (w := 11) rfl d1_41 ?_
  refine own_lastoreV H f47 (by decide) (by decide) 6 (by decide) (Nat.le_of_ble_eq_true rfl) f7 rfl d1_44 ?_
  intro h48 W49 V50
  have f51 : n0 ≤ h48.size := by rw [W49.size]; exact f45
  have f52 : Keep h0 h48 [] := f46.wr W49 (Or.inr f8)
  have f53 : Arv Z h48 a2 kA3 .long (17 : Int32) [(.long (1 : Int64)), (.long (10 : Int64)), (.long (100 : Int64)), (.long (1000 : Int64)), (.long (10000 : Int64)), (.long (100000 : Int64)), (.long (1000000 : Int64)), (.long 0), (.long 0), (.long 0), (.long 0), (.long 0), (.long 0), (.long 0), (.long 0), (.long 0), (.long 0)] (.long 0) := V50
  refine own_dup H rfl d1_45 ?_
  refine own_bipush H (7 : Int32) (by decide) d1_46 ?_
  refine own_ldc2J H (w := 12) rfl d1_48 ?_
  refine own_lastoreV H f53 (by decide) (by decide) 7 (by decide) (Nat.le_of_ble_eq_true rfl) f7 rfl d1_51 ?_
  intro h54 W55 V56
  have f57 : n0 ≤ h54.size := by rw [W55.size]; exact f51
  have f58 : Keep h0 h54 [] := f52.wr W55 (Or.inr f8)
  have f59 : Arv Z h54 a2 kA3 .long (17 : Int32) [(.long (1 : Int64)), (.long (10 : Int64)), (.long (100 : Int64)), (.long (1000 : Int64)), (.long (10000 : Int64)), (.long (100000 : Int64)), (.long (1000000 : Int64)), (.long (10000000 : Int64)), (.long 0), (.long 0), (.long 0), (.long 0), (.long 0), (.long 0), (.long 0), (.long 0), (.long 0)] (.long 0) := V56
  refine own_dup H rfl d1_52 ?_
  refine own_bipush H (8 : Int32) (by decide) d1_53 ?_
  refine own_ldc2J H (w := 13) rfl d1_55 ?_
  refine own_lastoreV H f59 (by decide) (by decide) 8 (by decide) (Nat.le_of_ble_eq_true rfl) f7 rfl d1_58 ?_
  intro h60 W61 V62
  have f63 : n0 ≤ h60.size := by rw [W61.size]; exact f57
  have f64 : Keep h0 h60 [] := f58.wr W61 (Or.inr f8)
  have f65 : Arv Z h60 a2 kA3 .long (17 : Int32) [(.long (1 : Int64)), (.long (10 : Int64)), (.long (100 : Int64)), (.long (1000 : Int64)), (.long (10000 : Int64)), (.long (100000 : Int64)), (.long (1000000 : Int64)), (.long (10000000 : Int64)), (.long (100000000 : Int64)), (.long 0), (.long 0), (.long 0), (.long 0), (.long 0), (.long 0), (.long 0), (.long 0)] (.long 0) := V62
  refine own_dup H rfl d1_59 ?_
  refine own_bipush H (9 : Int32) (by decide) d1_60 ?_
  refine own_ldc2J H (w := 14) rfl d1_62 ?_
  refine own_lastoreV H f65 (by decide) (by decide) 9 (by decide) (Nat.le_of_ble_eq_true rfl) f7 rfl d1_65 ?_
  intro h66 W67 V68
  have f69 : n0 ≤ h66.size := by rw [W67.size]; exact f63
  have f70 : Keep h0 h66 [] := f64.wr W67 (Or.inr f8)
  have f71 : Arv Z h66 a2 kA3 .long (17 : Int32) [(.long (1 : Int64)), (.long (10 : Int64)), (.long (100 : Int64)), (.long (1000 : Int64)), (.long (10000 : Int64)), (.long (100000 : Int64)), (.long (1000000 : Int64)), (.long (10000000 : Int64)), (.long (100000000 : Int64)), (.long (1000000000 : Int64)), (.long 0), (.long 0), (.long 0), (.long 0), (.long 0), (.long 0), (.long 0)] (.long 0) := V68
  refine own_dup H rfl d1_66 ?_
  refine own_bipush H (10 : Int32) (by decide) d1_67 ?_
  refine own_ldc2J H (w := 15) rfl d1_69 ?_
  refine own_lastoreV H f71 (by decide) (by decide) 10 (by decide) (Nat.le_of_ble_eq_true rfl) f7 rfl d1_72 ?_
  intro h72 W73 V74
  have f75 : n0 ≤ h72.size := by rw [W73.size]; exact f69
  have f76 : Keep h0 h72 [] := f70.wr W73 (Or.inr f8)
  have f77 : Arv Z h72 a2 kA3 .long (17 : Int32) [(.long (1 : Int64)), (.long (10 : Int64)), (.long (100 : Int64)), (.long (1000 : Int64)), (.long (10000 : Int64)), (.long (100000 : Int64)), (.long (1000000 : Int64)), (.long (10000000 : Int64)), (.long (100000000 : Int64)), (.long (1000000000 : Int64)), (.long (10000000000 : Int64)), (.long 0), (.long 0), (.long 0), (.long 0), (.long 0), (.long 0)] (.long 0) := V74
  refine own_dup H rfl d1_73 ?_
  refine own_bipush H (11 : Int32) (by decide) d1_74 ?_
  refine own_ldc2J H (w := 16) rfl d1_76 ?_
  refine own_lastoreV H f77 (by decide) (by decide) 11 (by decide) (Nat.le_of_ble_eq_true rfl) f7 rfl d1_79 ?_
  intro h78 W79 V80
  have f81 : n0 ≤ h78.size := by rw [W79.size]; exact f75
  have f82 : Keep h0 h78 [] := f76.wr W79 (Or.inr f8)
  have f83 : Arv Z h78 a2 kA3 .long (17 : Int32) [(.long (1 : Int64)), (.long (10 : Int64)), (.long (100 : Int64)), (.long (1000 : Int64)), (.long (10000 : Int64)), (.long (100000 : Int64)), (.long (1000000 : Int64)), (.long (10000000 : Int64)), (.long (100000000 : Int64)), (.long (1000000000 : Int64)), (.long (10000000000 : Int64)), (.long (100000000000 : Int64)), (.long 0), (.long 0), (.long 0), (.long 0), (.long 0)] (.long 0) := V80
  refine own_dup H rfl d1_80 ?_
  refine own_bipush H (12 : Int32) (by decide) d1_81 ?_
  refine own_ldc2J H (w := 17) rfl d1_83 ?_
  refine own_lastoreV H f83 (by decide) (by decide) 12 (by decide) (Nat.le_of_ble_eq_true rfl) f7 rfl d1_86 ?_
  intro h84 W85 V86
  have f87 : n0 ≤ h84.size := by rw [W85.size]; exact f81
  have f88 : Keep h0 h84 [] := f82.wr W85 (Or.inr f8)
  have f89 : Arv Z h84 a2 kA3 .long (17 : Int32) [(.long (1 : Int64)), (.long (10 : Int64)), (.long (100 : Int64)), (.long (1000 : Int64)), (.long (10000 : Int64)), (.long (100000 : Int64)), (.long (1000000 : Int64)), (.long (10000000 : Int64)), (.long (100000000 : Int64)), (.long (1000000000 : Int64)), (.long (10000000000 : Int64)), (.long (100000000000 : Int64)), (.long (1000000000000 : Int64)), (.long 0), (.long 0), (.long 0), (.long 0)] (.long 0) := V86
  refine own_dup H rfl d1_87 ?_
  refine own_bipush H (13 : Int32) (by decide) d1_88 ?_
  refine own_ldc2J H (w := 18) rfl d1_90 ?_
  refine own_lastoreV H f89 (by decide) (by decide) 13 (by decide) (Nat.le_of_ble_eq_true rfl) f7 rfl d1_93 ?_
  intro h90 W91 V92
  have f93 : n0 ≤ h90.size := by rw [W91.size]; exact f87
  have f94 : Keep h0 h90 [] := f88.wr W91 (Or.inr f8)
  have f95 : Arv Z h90 a2 kA3 .long (17 : Int32) [(.long (1 : Int64)), (.long (10 : Int64)), (.long (100 : Int64)), (.long (1000 : Int64)), (.long (10000 : Int64)), (.long (100000 : Int64)), (.long (1000000 : Int64)), (.long (10000000 : Int64)), (.long (100000000 : Int64)), (.long (1000000000 : Int64)), (.long (10000000000 : Int64)), (.long (100000000000 : Int64)), (.long (1000000000000 : Int64)), (.long (10000000000000 : Int64)), (.long 0), (.long 0), (.long 0)] (.long 0) := V92
  refine own_dup H rfl d1_94 ?_
  refine own_bipush H (14 : Int32) (by decide) d1_95 ?_
  refine own_ldc2J H (w := 19) rfl d1_97 ?_
  refine own_lastoreV H f95 (by decide) (by decide) 14 (by decide) (Nat.le_of_ble_eq_true rfl) f7 rfl d1_100 ?_
  intro h96 W97 V98
  have f99 : n0 ≤ h96.size := by rw [W97.size]; exact f93
  have f100 : Keep h0 h96 [] := f94.wr W97 (Or.inr f8)
  have f101 : Arv Z h96 a2 kA3 .long (17 : Int32) [(.long (1 : Int64)), (.long (10 : Int64)), (.long (100 : Int64)), (.long (1000 : Int64)), (.long (10000 : Int64)), (.long (100000 : Int64)), (.long (1000000 : Int64)), (.long (10000000 : Int64)), (.long (100000000 : Int64)), (.long (1000000000 : Int64)), (.long (10000000000 : Int64)), (.long (100000000000 : Int64)), (.long (1000000000000 : Int64)), (.long (10000000000000 : Int64)), (.long (100000000000000 : Int64)), (.long 0), (.long 0)] (.long 0) := V98
  refine own_dup H rfl d1_101 ?_
  refine own_bipush H (15 : Int32) (by decide) d1_102 ?_
  refine own_ldc2J H (w := 20) rfl d1_104 ?_
  refine own_lastoreV H f101 (by decide) (by decide) 15 (by decide) (Nat.le_of_ble_eq_true rfl) f7 rfl d1_107 ?_
  intro h102 W103 V104
  have f105 : n0 ≤ h102.size := by rw [W103.size]; exact f99
  have f106 : Keep h0 h102 [] := f100.wr W103 (Or.inr f8)
  have f107 : Arv Z h102 a2 kA3 .long (17 : Int32) [(.long (1 : Int64)), (.long (10 : Int64)), (.long (100 : Int64)), (.long (1000 : Int64)), (.long (10000 : Int64)), (.long (100000 : Int64)), (.long (1000000 : Int64)), (.long (10000000 : Int64)), (.long (100000000 : Int64)), (.long (1000000000 : Int64)), (.long (10000000000 : Int64)), (.long (100000000000 : Int64)), (.long (1000000000000 : Int64)), (.long (10000000000000 : Int64)), (.long (100000000000000 : Int64)), (.long (1000000000000000 : Int64)), (.long 0)] (.long 0) := V104
  refine own_dup H rfl d1_108 ?_
  refine own_bipush H (16 : Int32) (by decide) d1_109 ?_
  refine own_ldc2J H (w := 21) rfl d1_111 ?_
  refine own_lastoreV H f107 (by decide) (by decide) 16 (by decide) (Nat.le_of_ble_eq_true rfl) f7 rfl d1_114 ?_
  intro h108 W109 V110
  have f111 : n0 ≤ h108.size := by rw [W109.size]; exact f105
  have f112 : Keep h0 h108 [] := f106.wr W109 (Or.inr f8)
  have f113 : Arv Z h108 a2 kA3 .long (17 : Int32) [(.long (1 : Int64)), (.long (10 : Int64)), (.long (100 : Int64)), (.long (1000 : Int64)), (.long (10000 : Int64)), (.long (100000 : Int64)), (.long (1000000 : Int64)), (.long (10000000 : Int64)), (.long (100000000 : Int64)), (.long (1000000000 : Int64)), (.long (10000000000 : Int64)), (.long (100000000000 : Int64)), (.long (1000000000000 : Int64)), (.long (10000000000000 : Int64)), (.long (100000000000000 : Int64)), (.long (1000000000000000 : Int64)), (.long (10000000000000000 : Int64))] (.long 0) := V110
  refine own_astore_n H rfl #[.val (.int d), .val (.ref a2)] rfl d1_115 ?_
  refine own_aload_n H rfl rfl d1_116 ?_
  refine own_iload_n H rfl d1_117 ?_
  refine own_laloadV H f113 hd1 hd2 (own_fp d) d1_118 ?_
  exact own_lreturn H d1_119 (by decide) (by decide) ⟨rfl, f112⟩
def own_sc : Nat → Int64 → Int64 → Int64
  | 0, _, s => s
  | k + 1, u, s => if u < s then s else own_sc k u (s * 10)
def FA (p w : Int64) : Int32 := if own_sc (p &&& (31 : Int64)).toInt.toNat (p >>> ((5 : Int32).toInt64 &&& 63)) w < (p >>> ((5 : Int32).toInt64 &&& 63)) then 1 else 0
theorem own_i32 (j : Nat) (hj : j ≤ 31) : (Int32.ofNat j).toInt64.toInt = j := by
  rw [Int32.toInt_toInt64, Int32.toInt_ofNat']
  have z : Int32.size = 4294967296 := rfl
  exact Int.bmod_eq_of_le (by omega) (by omega)
theorem own_i1 (j D : Nat) (d : Int64) (hd : d.toInt = D) (hD : D ≤ 31) (h : j < D) : (Int32.ofNat j).toInt64 < d := by
  rw [Int64.lt_iff_toInt_lt, own_i32 j (by omega), hd]
  omega
theorem own_i2 (j D : Nat) (d : Int64) (hd : d.toInt = D) (hD : D ≤ 31) (h : j = D) : ¬ (Int32.ofNat j).toInt64 < d := by
  rw [Int64.lt_iff_toInt_lt, own_i32 j (by omega), hd]
  omega
theorem own_i3 (j : Nat) : Int32.ofNat j + 1 = Int32.ofNat (j + 1) := by
  rw [Int32.ofNat_add]
  rfl
theorem own_n31 (p : Int64) : (p &&& (31 : Int64)).toInt = ((p.toBitVec.toNat % 32 : Nat) : Int) := by
  have h : (p &&& (31 : Int64)).toBitVec.toNat = p.toBitVec.toNat % 32 := by
    have : (p &&& (31 : Int64)).toBitVec.toNat = p.toBitVec.toNat &&& 31 := by
      rw [Int64.toBitVec_and, BitVec.toNat_and]; rfl
    rw [this]
    exact Nat.and_two_pow_sub_one_eq_mod _ 5
  show (p &&& (31 : Int64)).toBitVec.toInt = _
  rw [BitVec.toInt_eq_toNat_cond, if_pos (by omega), h]
theorem own_i4 (p : Int64) : ((p &&& (31 : Int64)).toInt.toNat : Int) = (p &&& (31 : Int64)).toInt ∧ (p &&& (31 : Int64)).toInt.toNat ≤ 31 := by
  rw [own_n31]
  omega

theorem d2_0 : decode prog_123_method_6_code 0 = .ok (.lload_n 0, 1) := by decide +kernel
theorem d2_1 : decode prog_123_method_6_code 1 = .ok (.iconst 5, 1) := by decide +kernel
theorem d2_2 : decode prog_123_method_6_code 2 = .ok (.lshr, 1) := by decide +kernel
theorem d2_3 : decode prog_123_method_6_code 3 = .ok (.lstore 4, 2) := by decide +kernel
theorem d2_5 : decode prog_123_method_6_code 5 = .ok (.lload_n 0, 1) := by decide +kernel
theorem d2_6 : decode prog_123_method_6_code 6 = .ok (.ldc2_w 50, 3) := by decide +kernel
theorem d2_9 : decode prog_123_method_6_code 9 = .ok (.land, 1) := by decide +kernel
theorem d2_10 : decode prog_123_method_6_code 10 = .ok (.lstore 6, 2) := by decide +kernel
theorem d2_12 : decode prog_123_method_6_code 12 = .ok (.lload_n 2, 1) := by decide +kernel
theorem d2_13 : decode prog_123_method_6_code 13 = .ok (.lstore 8, 2) := by decide +kernel
theorem d2_15 : decode prog_123_method_6_code 15 = .ok (.iconst 0, 1) := by decide +kernel
theorem d2_16 : decode prog_123_method_6_code 16 = .ok (.istore 10, 2) := by decide +kernel
theorem d2_18 : decode prog_123_method_6_code 18 = .ok (.iload 10, 2) := by decide +kernel
theorem d2_20 : decode prog_123_method_6_code 20 = .ok (.i2l, 1) := by decide +kernel
theorem d2_21 : decode prog_123_method_6_code 21 = .ok (.lload 6, 2) := by decide +kernel
theorem d2_23 : decode prog_123_method_6_code 23 = .ok (.lcmp, 1) := by decide +kernel
theorem d2_24 : decode prog_123_method_6_code 24 = .ok (.ifCond .ge 25, 3) := by decide +kernel
theorem d2_27 : decode prog_123_method_6_code 27 = .ok (.lload 8, 2) := by decide +kernel
theorem d2_29 : decode prog_123_method_6_code 29 = .ok (.lload 4, 2) := by decide +kernel
theorem d2_31 : decode prog_123_method_6_code 31 = .ok (.lcmp, 1) := by decide +kernel
theorem d2_32 : decode prog_123_method_6_code 32 = .ok (.ifCond .gt 17, 3) := by decide +kernel
theorem d2_35 : decode prog_123_method_6_code 35 = .ok (.lload 8, 2) := by decide +kernel
theorem d2_37 : decode prog_123_method_6_code 37 = .ok (.ldc2_w 46, 3) := by decide +kernel
theorem d2_40 : decode prog_123_method_6_code 40 = .ok (.lmul, 1) := by decide +kernel
theorem d2_41 : decode prog_123_method_6_code 41 = .ok (.lstore 8, 2) := by decide +kernel
theorem d2_43 : decode prog_123_method_6_code 43 = .ok (.iinc 10 1, 3) := by decide +kernel
theorem d2_46 : decode prog_123_method_6_code 46 = .ok (.goto (-28), 3) := by decide +kernel
theorem d2_49 : decode prog_123_method_6_code 49 = .ok (.lload 4, 2) := by decide +kernel
theorem d2_51 : decode prog_123_method_6_code 51 = .ok (.lload 8, 2) := by decide +kernel
theorem d2_53 : decode prog_123_method_6_code 53 = .ok (.lcmp, 1) := by decide +kernel
theorem d2_54 : decode prog_123_method_6_code 54 = .ok (.ifCond .le 7, 3) := by decide +kernel
theorem d2_57 : decode prog_123_method_6_code 57 = .ok (.iconst 1, 1) := by decide +kernel
theorem d2_58 : decode prog_123_method_6_code 58 = .ok (.goto 4, 3) := by decide +kernel
theorem d2_61 : decode prog_123_method_6_code 61 = .ok (.iconst 0, 1) := by decide +kernel
theorem d2_62 : decode prog_123_method_6_code 62 = .ok (.ireturn, 1) := by decide +kernel
theorem own_pl2 : plainFor (⟨"com/example/vestwright/vestwright/input/Digits", "isAbove", "(JJ)Z"⟩ : MethodName) = true := plainFor_of_name (by first | (simp [plainName, overriddenIn]; done) | decide +kernel)
theorem own_pd2 : parseMethodDescriptor "(JJ)Z" = some ⟨[.long, .long], some .boolean⟩ := by decide +kernel
theorem own_end {B : own_B} {Z : State} {a0 : Array Value} {l : Launch} {R : Room} (H : own_Ok B Z a0 l R (⟨"com/example/vestwright/vestwright/input/Digits", "isAbove", "(JJ)Z"⟩ : MethodName) prog_123_method_6_code 11 (some .boolean)) {n0 : Nat} {Q : Option Value → Heap → Prop} {kc ks cells slots : Nat} (hkc : cells ≤ kc) (hks : slots ≤ ks) {h : Heap} (p w u d s : Int64) (i : Int32) (hQ : Q (some (.int (if s < u then 1 else 0))) h) : own_G B n0 Q kc ks cells slots h 49 #[.val (.long p), .second, .val (.long w), .second, .val (.long u), .second, .val (.long d), .second, .val (.long s), .second, .val (.int i)] [] := by
  refine own_lload H rfl d2_49 ?_
  refine own_lload H rfl d2_51 ?_
  refine own_cut 62 #[.val (.long p), .second, .val (.long w), .second, .val (.long u), .second, .val (.long d), .second, .val (.long s), .second, .val (.int i)] [(.int (if s < u then (1 : Int32) else (0 : Int32)))] (fun k2 => ?_) ?_
  ·
    by_cases c1 : s < u
    ·
      refine own_lcmple_f H d2_53 d2_54 c1 ?_
      refine own_iconst H (1 : Int32) (by decide) d2_57 ?_
      refine own_goto H (pc' := 62) d2_58 (by decide) (by decide) ?_
      exact own_cast (by simp only [if_pos c1]) (by simp only [if_pos c1]) k2
    ·
      refine own_lcmple_t H (pc' := 61) d2_53 d2_54 (by decide) (by decide) c1 ?_
      refine own_iconst H (0 : Int32) (by decide) d2_61 ?_
      exact own_cast (by simp only [if_neg c1]) (by simp only [if_neg c1]) k2
  exact own_ireturn H (by simp) (by split <;> rfl) d2_62 hkc hks hQ
theorem own_loop {B : own_B} {Z : State} {a0 : Array Value} {l : Launch} {R : Room} (H : own_Ok B Z a0 l R (⟨"com/example/vestwright/vestwright/input/Digits", "isAbove", "(JJ)Z"⟩ : MethodName) prog_123_method_6_code 11 (some .boolean)) {n0 : Nat} {Q : Option Value → Heap → Prop} {kc ks cells slots : Nat} (hkc : cells ≤ kc) (hks : slots ≤ ks) {h : Heap} (p w u d : Int64) (D : Nat) (hd : d.toInt = D) (hD : D ≤ 31) : ∀ (k j : Nat) (s : Int64), j + k = D → Q (some (.int (if own_sc k u s < u then 1 else 0))) h → own_G B n0 Q kc ks cells slots h 18 #[.val (.long p), .second, .val (.long w), .second, .val (.long u), .second, .val (.long d), .second, .val (.long s), .second, .val (.int (Int32.ofNat j))] [] := by
  intro k
  induction k with
  | zero =>
    intro j s hj hQ
    have c1 := own_i2 j D d hd hD (by omega)
    refine own_iload H rfl d2_18 ?_
    refine own_i2l H rfl d2_20 ?_
    refine own_lload H rfl d2_21 ?_
    refine own_lcmpge_t H (pc' := 49) d2_23 d2_24 (by decide) (by decide) c1 ?_
    exact own_end H hkc hks p w u d s _ hQ
  | succ k ih =>
    intro j s hj hQ
    have c2 := own_i1 j D d hd hD (by omega)
    refine own_iload H rfl d2_18 ?_
    refine own_i2l H rfl d2_20 ?_
    refine own_lload H rfl d2_21 ?_
    refine own_lcmpge_f H d2_23 d2_24 c2 ?_
    refine own_lload H rfl d2_27 ?_
    refine own_lload H rfl d2_29 ?_
    by_cases c3 : u < s
    ·
      refine own_lcmpgt_t H (pc' := 49) d2_31 d2_32 (by decide) (by decide) c3 ?_
      exact own_end H hkc hks p w u d s _ (by rw [own_sc, if_pos c3] at hQ; exact hQ)
    ·
      refine own_lcmpgt_f H d2_31 d2_32 c3 ?_
      refine own_lload H rfl d2_35 ?_
      refine own_ldc2J H (w := 33) rfl d2_37 ?_
      refine own_lmul H rfl d2_40 ?_
      refine own_lstore H #[.val (.long p), .second, .val (.long w), .second, .val (.long u), .second, .val (.long d), .second, .val (.long (s * (10 : Int64))), .second, .val (.int (Int32.ofNat j))] rfl d2_41 ?_
      refine own_iinc H (1 : Int32) (by decide) rfl rfl #[.val (.long p), .second, .val (.long w), .second, .val (.long u), .second, .val (.long d), .second, .val (.long (s * (10 : Int64))), .second, .val (.int ((Int32.ofNat j) + (1 : Int32)))] rfl d2_43 ?_
      refine own_goto H (pc' := 18) d2_46 (by decide) (by decide) ?_
      rw [own_i3]
      exact ih (j + 1) _ (by omega) (by rw [own_sc, if_neg c3] at hQ; exact hQ)
theorem rmA (l : Launch) (Z : State) (a0 : Array Value) (hw : ∀ (i : Nat) (d : Jvm.Cond), tables_1[i]? = some d → d.before a0 Z = true) (h0 : Heap) (n0 : Nat) (p w : Int64) : own_P l Z (⟨"com/example/vestwright/vestwright/input/Digits", "isAbove", "(JJ)Z"⟩ : MethodName) prog_123_method_6_code 11 (some .boolean) (own_rm 0 0) #[(.long p), (.long w)] h0 n0 (.int (FA p w)) := by
  refine own_met (Ls := #[.val (.long p), .second, .val (.long w), .second, .unset, .unset, .unset, .unset, .unset, .unset, .unset]) hw own_pl2 (fun m => by first | (simp [entryFrame, mkF, argsToLocals, Value.category]; done) | rfl) ?_
  intro B H
  refine own_lload_n H rfl d2_0 ?_
  refine own_iconst H (5 : Int32) (by decide) d2_1 ?_
  refine own_lshr H rfl d2_2 ?_
  refine own_lstore H #[.val (.long p), .second, .val (.long w), .second, .val (.long (p >>> ((5 : Int32).toInt64 &&& 63))), .second, .unset, .unset, .unset, .unset, .unset] rfl d2_3 ?_
  refine own_lload_n H rfl d2_5 ?_
  refine own_ldc2J H (w := 28) rfl d2_6 ?_
  refine own_land H rfl d2_9 ?_
  refine own_lstore H #[.val (.long p), .second, .val (.long w), .second, .val (.long (p >>> ((5 : Int32).toInt64 &&& 63))), .second, .val (.long (p &&& (31 : Int64))), .second, .unset, .unset, .unset] rfl d2_10 ?_
  refine own_lload_n H rfl d2_12 ?_
  refine own_lstore H #[.val (.long p), .second, .val (.long w), .second, .val (.long (p >>> ((5 : Int32).toInt64 &&& 63))), .second, .val (.long (p &&& (31 : Int64))), .second, .val (.long w), .second, .unset] rfl d2_13 ?_
  refine own_iconst H (0 : Int32) (by decide) d2_15 ?_
  refine own_istore H #[.val (.long p), .second, .val (.long w), .second, .val (.long (p >>> ((5 : Int32).toInt64 &&& 63))), .second, .val (.long (p &&& (31 : Int64))), .second, .val (.long w), .second, .val (.int (0 : Int32))] rfl d2_16 ?_
  exact own_loop H (Nat.le_refl _) (Nat.le_refl _) p w _ _ _ (own_i4 p).1.symm (own_i4 p).2 _ 0 w (Nat.zero_add _) ⟨rfl, rfl⟩
theorem own_and31 (p : Int32) : 0 ≤ (p &&& (2147483647 : Int32)).toInt := by
  have h : (p &&& (2147483647 : Int32)).toBitVec.toNat = p.toBitVec.toNat % 2147483648 := by
    have : (p &&& (2147483647 : Int32)).toBitVec.toNat = p.toBitVec.toNat &&& 2147483647 := by
      rw [Int32.toBitVec_and, BitVec.toNat_and]; rfl
    rw [this]
    exact Nat.and_two_pow_sub_one_eq_mod _ 31
  show 0 ≤ (p &&& (2147483647 : Int32)).toBitVec.toInt
  rw [BitVec.toInt_eq_toNat_cond, if_pos (by omega)]
  omega
theorem own_mod (p q : Int32) (hq : 0 < q.toInt) (hq2 : q.toInt < 1000) : 0 ≤ ((p &&& (2147483647 : Int32)) % q).toInt ∧ ((p &&& (2147483647 : Int32)) % q).toInt < q.toInt := by
  have h := own_and31 p
  rw [Int32.toInt_mod, Int.tmod_eq_emod_of_nonneg h]
  exact ⟨Int.emod_nonneg _ (by omega), Int.emod_lt_of_pos _ hq⟩
theorem own_d (p : Int32) : 0 ≤ ((p &&& (2147483647 : Int32)) % (17 : Int32)).toInt ∧ ((p &&& (2147483647 : Int32)) % (17 : Int32)).toInt < 17 := by
  have h := own_mod p 17 (by decide) (by decide)
  have e : (17 : Int32).toInt = 17 := by decide
  rw [e] at h
  exact h
theorem own_d1 (p : Int32) : ¬ (p &&& (2147483647 : Int32)) % (17 : Int32) < 0 := by
  have h := own_d p
  rw [Int32.lt_iff_toInt_lt]
  have e : (0 : Int32).toInt = 0 := rfl
  omega
theorem own_d2 (p : Int32) : (p &&& (2147483647 : Int32)) % (17 : Int32) < (17 : Int32) := by
  have h := own_d p
  rw [Int32.lt_iff_toInt_lt]
  have e : (17 : Int32).toInt = 17 := by decide
  omega
theorem own_fpv (d : Int32) (k : Nat) (hk : d.toInt = k) (h : k < 17) : (FP d).toInt = 10 ^ k := by
  have e : d.toNatClampNeg = k := by
    show d.toInt.toNat = k
    omega
  unfold FP
  rw [e]
  match k, h with
  | 0, _ => exact (by decide)
  | 1, _ => exact (by decide)
  | 2, _ => exact (by decide)
  | 3, _ => exact (by decide)
  | 4, _ => exact (by decide)
  | 5, _ => exact (by decide)
  | 6, _ => exact (by decide)
  | 7, _ => exact (by decide)
  | 8, _ => exact (by decide)
  | 9, _ => exact (by decide)
  | 10, _ => exact (by decide)
  | 11, _ => exact (by decide)
  | 12, _ => exact (by decide)
  | 13, _ => exact (by decide)
  | 14, _ => exact (by decide)
  | 15, _ => exact (by decide)
  | 16, _ => exact (by decide)
  | k + 17, h => exact absurd h (by omega)
theorem own_d3 (p : Int32) : FP ((p &&& (2147483647 : Int32)) % (17 : Int32)) ≠ 0 := by
  have h := own_d p
  have e := own_fpv ((p &&& (2147483647 : Int32)) % (17 : Int32)) ((p &&& (2147483647 : Int32)) % (17 : Int32)).toInt.toNat (by omega) (by omega)
  intro q
  rw [q] at e
  have e0 : (0 : Int64).toInt = 0 := rfl
  rw [e0] at e
  have : (0 : Int) < 10 ^ ((p &&& (2147483647 : Int32)) % (17 : Int32)).toInt.toNat := Int.pow_pos (by decide)
  omega

theorem own_pl0 : plainFor x = true := plainFor_of_name (by first | (simp [plainName, overriddenIn]; done) | decide +kernel)
def Fu (p1 : Int64) (p2 : Int32) (p3 : Int64) (p4 : Int32) : Int64 := (if (p4 &&& (16 : Int32)) = 0 then (if (p4 &&& (8 : Int32)) = 0 then ((p1 &&& (9223372036854775807 : Int64)) - (p1 &&& (9223372036854775807 : Int64)) / (100000000000000000 : Int64) * (100000000000000000 : Int64)) else (((p1 &&& (9223372036854775807 : Int64)) - (p1 &&& (9223372036854775807 : Int64)) / (100000000000000000 : Int64) * (100000000000000000 : Int64)) - ((p1 &&& (9223372036854775807 : Int64)) - (p1 &&& (9223372036854775807 : Int64)) / (100000000000000000 : Int64) * (100000000000000000 : Int64)) / (100000 : Int64) * (100000 : Int64))) else ((if (p4 &&& (8 : Int32)) = 0 then ((p1 &&& (9223372036854775807 : Int64)) - (p1 &&& (9223372036854775807 : Int64)) / (100000000000000000 : Int64) * (100000000000000000 : Int64)) else (((p1 &&& (9223372036854775807 : Int64)) - (p1 &&& (9223372036854775807 : Int64)) / (100000000000000000 : Int64) * (100000000000000000 : Int64)) - ((p1 &&& (9223372036854775807 : Int64)) - (p1 &&& (9223372036854775807 : Int64)) / (100000000000000000 : Int64) * (100000000000000000 : Int64)) / (100000 : Int64) * (100000 : Int64))) - ((if (p4 &&& (8 : Int32)) = 0 then ((p1 &&& (9223372036854775807 : Int64)) - (p1 &&& (9223372036854775807 : Int64)) / (100000000000000000 : Int64) * (100000000000000000 : Int64)) else (((p1 &&& (9223372036854775807 : Int64)) - (p1 &&& (9223372036854775807 : Int64)) / (100000000000000000 : Int64) * (100000000000000000 : Int64)) - ((p1 &&& (9223372036854775807 : Int64)) - (p1 &&& (9223372036854775807 : Int64)) / (100000000000000000 : Int64) * (100000000000000000 : Int64)) / (100000 : Int64) * (100000 : Int64))) - (if (p4 &&& (8 : Int32)) = 0 then ((p1 &&& (9223372036854775807 : Int64)) - (p1 &&& (9223372036854775807 : Int64)) / (100000000000000000 : Int64) * (100000000000000000 : Int64)) else (((p1 &&& (9223372036854775807 : Int64)) - (p1 &&& (9223372036854775807 : Int64)) / (100000000000000000 : Int64) * (100000000000000000 : Int64)) - ((p1 &&& (9223372036854775807 : Int64)) - (p1 &&& (9223372036854775807 : Int64)) / (100000000000000000 : Int64) * (100000000000000000 : Int64)) / (100000 : Int64) * (100000 : Int64))) / (FP ((p2 &&& (2147483647 : Int32)) % (17 : Int32))) * (FP ((p2 &&& (2147483647 : Int32)) % (17 : Int32))))))
def Fq (p1 : Int64) (p2 : Int32) (p3 : Int64) (p4 : Int32) : Int64 := ((Fu p1 p2 p3 p4) / (FP ((p2 &&& (2147483647 : Int32)) % (17 : Int32))))
def Frm (p1 : Int64) (p2 : Int32) (p3 : Int64) (p4 : Int32) : Int64 := ((Fu p1 p2 p3 p4) - (Fu p1 p2 p3 p4) / (FP ((p2 &&& (2147483647 : Int32)) % (17 : Int32))) * (FP ((p2 &&& (2147483647 : Int32)) % (17 : Int32))))
def Fw (p1 : Int64) (p2 : Int32) (p3 : Int64) (p4 : Int32) : Int64 := (if (p4 &&& (7 : Int32)) = (1 : Int32) then (Fq p1 p2 p3 p4) else (if (p4 &&& (7 : Int32)) = (2 : Int32) then ((Fq p1 p2 p3 p4) + (1 : Int64)) else (if (p4 &&& (7 : Int32)) = (3 : Int32) then (FMax (0 : Int64) ((Fq p1 p2 p3 p4) - (1 : Int64))) else (if (p4 &&& (7 : Int32)) = (4 : Int32) then ((p3 &&& (9223372036854775807 : Int64)) - (p3 &&& (9223372036854775807 : Int64)) / (1000 : Int64) * (1000 : Int64)) else (p3 &&& (9223372036854775807 : Int64))))))
def Fpk (p1 : Int64) (p2 : Int32) (p3 : Int64) (p4 : Int32) : Int64 := (((Fu p1 p2 p3 p4) <<< ((5 : Int32).toInt64 &&& 63)) ||| (((p2 &&& (2147483647 : Int32)) % (17 : Int32)).toInt64))
def Fex (p1 : Int64) (p2 : Int32) (p3 : Int64) (p4 : Int32) : Int32 := (if (Fw p1 p2 p3 p4) < (Fq p1 p2 p3 p4) then (1 : Int32) else (if (Fq p1 p2 p3 p4) = (Fw p1 p2 p3 p4) then (if (0 : Int64) < (Frm p1 p2 p3 p4) then (1 : Int32) else (0 : Int32)) else (0 : Int32)))
def F0 (p1 : Int64) (p2 : Int32) (p3 : Int64) (p4 : Int32) : Int32 := if (FA (Fpk p1 p2 p3 p4) (Fw p1 p2 p3 p4)) = (Fex p1 p2 p3 p4) then (1 : Int32) else (0 : Int32)
set_option maxHeartbeats 40000000 in
theorem rm0 (l : Launch) (Z : State) (a0 : Array Value) (hw : ∀ (i : Nat) (d : Jvm.Cond), tables_1[i]? = some d → d.before a0 Z = true) (ws : List Jvm.Cond) (h0 : Heap) (n0 : Nat) (p1 : Int64) (p2 : Int32) (p3 : Int64) (p4 : Int32) (hZ0 : n0 ≤ h0.size) :
    own_Met l Z ws x code maxLocals ret room_1 #[(.long p1), (.int p2), (.long p3), (.int p4)] h0 n0 16 128 (fun v h' => v = some (.int (F0 p1 p2 p3 p4))) := by
  refine own_met (Ls := #[.val (.long p1), .second, .val (.int p2), .val (.long p3), .second, .val (.int p4), .unset, .unset, .unset, .unset, .unset, .unset, .unset, .unset, .unset, .unset, .unset, .unset, .unset, .unset, .unset, .unset, .unset]) hw own_pl0 (fun m => by first | (simp [entryFrame, mkF, argsToLocals, Value.category, maxLocals]; done) | rfl) ?_
  intro B H

  refine own_iload_n H rfl at_0 ?_
  refine own_ldcI H (w := 0) rfl at_1 ?_
  refine own_iand H rfl at_3 ?_
  refine own_bipush H (17 : Int32) (by decide) at_4 ?_
  refine own_irem H rfl at_6 (by decide) ?_
  refine own_istore H #[.val (.long p1), .second, .val (.int p2), .val (.long p3), .second, .val (.int p4), .val (.int ((p2 &&& (2147483647 : Int32)) % (17 : Int32))), .unset, .unset, .unset, .unset, .unset, .unset, .unset, .unset, .unset, .unset, .unset, .unset, .unset, .unset, .unset, .unset] rfl at_7 ?_
  refine own_iload H rfl at_9 ?_
  refine own_invokestatic H (argsL := [(.int ((p2 &&& (2147483647 : Int32)) % (17 : Int32)))]) (rest := []) (rmP l Z a0 (own_hw H) h0 n0 ((p2 &&& (2147483647 : Int32)) % (17 : Int32)) hZ0 (own_d1 p2) (own_d2 p2)) (w1 := 1) (w2 := 2) (w3 := 3) (w4 := 4) rfl rfl rfl rfl own_pd1 rfl 0 (by decide) rfl (by decide) (Nat.le_of_eq rfl) (by decide) (by decide) (by decide) rfl at_11 ?_
  rintro _ h1 ⟨rfl, K2⟩
  have f3 : n0 ≤ h1.size := Nat.le_trans hZ0 K2.1
  show own_G _ _ _ _ _ _ _ _ 14 #[.val (.long p1), .second, .val (.int p2), .val (.long p3), .second, .val (.int p4), .val (.int ((p2 &&& (2147483647 : Int32)) % (17 : Int32))), .unset, .unset, .unset, .unset, .unset, .unset, .unset, .unset, .unset, .unset, .unset, .unset, .unset, .unset, .unset, .unset] [(.long (FP ((p2 &&& (2147483647 : Int32)) % (17 : Int32))))]
  refine own_lstore H #[.val (.long p1), .second, .val (.int p2), .val (.long p3), .second, .val (.int p4), .val (.int ((p2 &&& (2147483647 : Int32)) % (17 : Int32))), .val (.long (FP ((p2 &&& (2147483647 : Int32)) % (17 : Int32)))), .second, .unset, .unset, .unset, .unset, .unset, .unset, .unset, .unset, .unset, .unset, .unset, .unset, .unset, .unset] rfl at_14 ?_
  refine own_lload_n H rfl at_16 ?_
  refine own_ldc2J H (w := 22) rfl at_17 ?_
  refine own_land H rfl at_20 ?_
  refine own_ldc2J H (w := 23) rfl at_21 ?_
  refine own_lrem H rfl at_24 (by decide) ?_
  refine own_lstore H #[.val (.long p1), .second, .val (.int p2), .val (.long p3), .second, .val (.int p4), .val (.int ((p2 &&& (2147483647 : Int32)) % (17 : Int32))), .val (.long (FP ((p2 &&& (2147483647 : Int32)) % (17 : Int32)))), .second, .val (.long ((p1 &&& (9223372036854775807 : Int64)) - (p1 &&& (9223372036854775807 : Int64)) / (100000000000000000 : Int64) * (100000000000000000 : Int64))), .second, .unset, .unset, .unset, .unset, .unset, .unset, .unset, .unset, .unset, .unset, .unset, .unset] rfl at_25 ?_
  refine own_iload H rfl at_27 ?_
  refine own_bipush H (8 : Int32) (by decide) at_29 ?_
  refine own_iand H rfl at_31 ?_
  refine own_cut 43 #[.val (.long p1), .second, .val (.int p2), .val (.long p3), .second, .val (.int p4), .val (.int ((p2 &&& (2147483647 : Int32)) % (17 : Int32))), .val (.long (FP ((p2 &&& (2147483647 : Int32)) % (17 : Int32)))), .second, .val (.long (if (p4 &&& (8 : Int32)) = 0 then ((p1 &&& (9223372036854775807 : Int64)) - (p1 &&& (9223372036854775807 : Int64)) / (100000000000000000 : Int64) * (100000000000000000 : Int64)) else (((p1 &&& (9223372036854775807 : Int64)) - (p1 &&& (9223372036854775807 : Int64)) / (100000000000000000 : Int64) * (100000000000000000 : Int64)) - ((p1 &&& (9223372036854775807 : Int64)) - (p1 &&& (9223372036854775807 : Int64)) / (100000000000000000 : Int64) * (100000000000000000 : Int64)) / (100000 : Int64) * (100000 : Int64)))), .second, .unset, .unset, .unset, .unset, .unset, .unset, .unset, .unset, .unset, .unset, .unset, .unset] [] (fun k5 => ?_) ?_
  ·
    by_cases c4 : (p4 &&& (8 : Int32)) = 0
    ·
      refine own_ifeq_t H (pc' := 43) at_32 (by decide) (by decide) c4 ?_
      exact own_cast (by simp only [if_pos c4]) (by simp only [if_pos c4]) k5
    ·
      refine own_ifeq_f H at_32 c4 ?_
      refine own_lload H rfl at_35 ?_
      refine own_ldc2J H (w := 10) rfl at_37 ?_
      refine own_lrem H rfl at_40 (by decide) ?_
      refine own_lstore H #[.val (.long p1), .second, .val (.int p2), .val (.long p3), .second, .val (.int p4), .val (.int ((p2 &&& (2147483647 : Int32)) % (17 : Int32))), .val (.long (FP ((p2 &&& (2147483647 : Int32)) % (17 : Int32)))), .second, .val (.long (((p1 &&& (9223372036854775807 : Int64)) - (p1 &&& (9223372036854775807 : Int64)) / (100000000000000000 : Int64) * (100000000000000000 : Int64)) - ((p1 &&& (9223372036854775807 : Int64)) - (p1 &&& (9223372036854775807 : Int64)) / (100000000000000000 : Int64) * (100000000000000000 : Int64)) / (100000 : Int64) * (100000 : Int64))), .second, .unset, .unset, .unset, .unset, .unset, .unset, .unset, .unset, .unset, .unset, .unset, .unset] rfl at_41 ?_
      exact own_cast (by simp only [if_neg c4]) (by simp only [if_neg c4]) k5
  refine own_iload H rfl at_43 ?_
  refine own_bipush H (16 : Int32) (by decide) at_45 ?_
  refine own_iand H rfl at_47 ?_
  refine own_cut 61 #[.val (.long p1), .second, .val (.int p2), .val (.long p3), .second, .val (.int p4), .val (.int ((p2 &&& (2147483647 : Int32)) % (17 : Int32))), .val (.long (FP ((p2 &&& (2147483647 : Int32)) % (17 : Int32)))), .second, .val (.long (if (p4 &&& (16 : Int32)) = 0 then (if (p4 &&& (8 : Int32)) = 0 then ((p1 &&& (9223372036854775807 : Int64)) - (p1 &&& (9223372036854775807 : Int64)) / (100000000000000000 : Int64) * (100000000000000000 : Int64)) else (((p1 &&& (9223372036854775807 : Int64)) - (p1 &&& (9223372036854775807 : Int64)) / (100000000000000000 : Int64) * (100000000000000000 : Int64)) - ((p1 &&& (9223372036854775807 : Int64)) - (p1 &&& (9223372036854775807 : Int64)) / (100000000000000000 : Int64) * (100000000000000000 : Int64)) / (100000 : Int64) * (100000 : Int64))) else ((if (p4 &&& (8 : Int32)) = 0 then ((p1 &&& (9223372036854775807 : Int64)) - (p1 &&& (9223372036854775807 : Int64)) / (100000000000000000 : Int64) * (100000000000000000 : Int64)) else (((p1 &&& (9223372036854775807 : Int64)) - (p1 &&& (9223372036854775807 : Int64)) / (100000000000000000 : Int64) * (100000000000000000 : Int64)) - ((p1 &&& (9223372036854775807 : Int64)) - (p1 &&& (9223372036854775807 : Int64)) / (100000000000000000 : Int64) * (100000000000000000 : Int64)) / (100000 : Int64) * (100000 : Int64))) - ((if (p4 &&& (8 : Int32)) = 0 then ((p1 &&& (9223372036854775807 : Int64)) - (p1 &&& (9223372036854775807 : Int64)) / (100000000000000000 : Int64) * (100000000000000000 : Int64)) else (((p1 &&& (9223372036854775807 : Int64)) - (p1 &&& (9223372036854775807 : Int64)) / (100000000000000000 : Int64) * (100000000000000000 : Int64)) - ((p1 &&& (9223372036854775807 : Int64)) - (p1 &&& (9223372036854775807 : Int64)) / (100000000000000000 : Int64) * (100000000000000000 : Int64)) / (100000 : Int64) * (100000 : Int64))) - (if (p4 &&& (8 : Int32)) = 0 then ((p1 &&& (9223372036854775807 : Int64)) - (p1 &&& (9223372036854775807 : Int64)) / (100000000000000000 : Int64) * (100000000000000000 : Int64)) else (((p1 &&& (9223372036854775807 : Int64)) - (p1 &&& (9223372036854775807 : Int64)) / (100000000000000000 : Int64) * (100000000000000000 : Int64)) - ((p1 &&& (9223372036854775807 : Int64)) - (p1 &&& (9223372036854775807 : Int64)) / (100000000000000000 : Int64) * (100000000000000000 : Int64)) / (100000 : Int64) * (100000 : Int64))) / (FP ((p2 &&& (2147483647 : Int32)) % (17 : Int32))) * (FP ((p2 &&& (2147483647 : Int32)) % (17 : Int32))))))), .second, .unset, .unset, .unset, .unset, .unset, .unset, .unset, .unset, .unset, .unset, .unset, .unset] [] (fun k7 => ?_) ?_
  ·
    by_cases c6 : (p4 &&& (16 : Int32)) = 0
    ·
      refine own_ifeq_t H (pc' := 61) at_48 (by decide) (by decide) c6 ?_
      exact own_cast (by simp only [if_pos c6]) (by simp only [if_pos c6]) k7
    ·
      refine own_ifeq_f H at_48 c6 ?_
      refine own_lload H rfl at_51 ?_
      refine own_lload H rfl at_53 ?_
      refine own_lload H rfl at_55 ?_
      refine own_lrem H rfl at_57 (own_d3 p2) ?_
      refine own_lsub H rfl at_58 ?_
      refine own_lstore H #[.val (.long p1), .second, .val (.int p2), .val (.long p3), .second, .val (.int p4), .val (.int ((p2 &&& (2147483647 : Int32)) % (17 : Int32))), .val (.long (FP ((p2 &&& (2147483647 : Int32)) % (17 : Int32)))), .second, .val (.long ((if (p4 &&& (8 : Int32)) = 0 then ((p1 &&& (9223372036854775807 : Int64)) - (p1 &&& (9223372036854775807 : Int64)) / (100000000000000000 : Int64) * (100000000000000000 : Int64)) else (((p1 &&& (9223372036854775807 : Int64)) - (p1 &&& (9223372036854775807 : Int64)) / (100000000000000000 : Int64) * (100000000000000000 : Int64)) - ((p1 &&& (9223372036854775807 : Int64)) - (p1 &&& (9223372036854775807 : Int64)) / (100000000000000000 : Int64) * (100000000000000000 : Int64)) / (100000 : Int64) * (100000 : Int64))) - ((if (p4 &&& (8 : Int32)) = 0 then ((p1 &&& (9223372036854775807 : Int64)) - (p1 &&& (9223372036854775807 : Int64)) / (100000000000000000 : Int64) * (100000000000000000 : Int64)) else (((p1 &&& (9223372036854775807 : Int64)) - (p1 &&& (9223372036854775807 : Int64)) / (100000000000000000 : Int64) * (100000000000000000 : Int64)) - ((p1 &&& (9223372036854775807 : Int64)) - (p1 &&& (9223372036854775807 : Int64)) / (100000000000000000 : Int64) * (100000000000000000 : Int64)) / (100000 : Int64) * (100000 : Int64))) - (if (p4 &&& (8 : Int32)) = 0 then ((p1 &&& (9223372036854775807 : Int64)) - (p1 &&& (9223372036854775807 : Int64)) / (100000000000000000 : Int64) * (100000000000000000 : Int64)) else (((p1 &&& (9223372036854775807 : Int64)) - (p1 &&& (9223372036854775807 : Int64)) / (100000000000000000 : Int64) * (100000000000000000 : Int64)) - ((p1 &&& (9223372036854775807 : Int64)) - (p1 &&& (9223372036854775807 : Int64)) / (100000000000000000 : Int64) * (100000000000000000 : Int64)) / (100000 : Int64) * (100000 : Int64))) / (FP ((p2 &&& (2147483647 : Int32)) % (17 : Int32))) * (FP ((p2 &&& (2147483647 : Int32)) % (17 : Int32)))))), .second, .unset, .unset, .unset, .unset, .unset, .unset, .unset, .unset, .unset, .unset, .unset, .unset] rfl at_59 ?_
      exact own_cast (by simp only [if_neg c6]) (by simp only [if_neg c6]) k7
  show own_G _ _ _ _ _ _ _ _ 61 #[.val (.long p1), .second, .val (.int p2), .val (.long p3), .second, .val (.int p4), .val (.int ((p2 &&& (2147483647 : Int32)) % (17 : Int32))), .val (.long (FP ((p2 &&& (2147483647 : Int32)) % (17 : Int32)))), .second, .val (.long (Fu p1 p2 p3 p4)), .second, .unset, .unset, .unset, .unset, .unset, .unset, .unset, .unset, .unset, .unset, .unset, .unset] []
  refine own_lload H rfl at_61 ?_
  refine own_lload H rfl at_63 ?_
  refine own_ldiv H rfl at_65 (own_d3 p2) ?_
  refine own_lstore H #[.val (.long p1), .second, .val (.int p2), .val (.long p3), .second, .val (.int p4), .val (.int ((p2 &&& (2147483647 : Int32)) % (17 : Int32))), .val (.long (FP ((p2 &&& (2147483647 : Int32)) % (17 : Int32)))), .second, .val (.long (Fu p1 p2 p3 p4)), .second, .val (.long ((Fu p1 p2 p3 p4) / (FP ((p2 &&& (2147483647 : Int32)) % (17 : Int32))))), .second, .unset, .unset, .unset, .unset, .unset, .unset, .unset, .unset, .unset, .unset] rfl at_66 ?_
  refine own_lload H rfl at_68 ?_
  refine own_lload H rfl at_70 ?_
  refine own_lrem H rfl at_72 (own_d3 p2) ?_
  refine own_lstore H #[.val (.long p1), .second, .val (.int p2), .val (.long p3), .second, .val (.int p4), .val (.int ((p2 &&& (2147483647 : Int32)) % (17 : Int32))), .val (.long (FP ((p2 &&& (2147483647 : Int32)) % (17 : Int32)))), .second, .val (.long (Fu p1 p2 p3 p4)), .second, .val (.long ((Fu p1 p2 p3 p4) / (FP ((p2 &&& (2147483647 : Int32)) % (17 : Int32))))), .second, .val (.long ((Fu p1 p2 p3 p4) - (Fu p1 p2 p3 p4) / (FP ((p2 &&& (2147483647 : Int32)) % (17 : Int32))) * (FP ((p2 &&& (2147483647 : Int32)) % (17 : Int32))))), .second, .unset, .unset, .unset, .unset, .unset, .unset, .unset, .unset] rfl at_73 ?_
  show own_G _ _ _ _ _ _ _ _ 75 #[.val (.long p1), .second, .val (.int p2), .val (.long p3), .second, .val (.int p4), .val (.int ((p2 &&& (2147483647 : Int32)) % (17 : Int32))), .val (.long (FP ((p2 &&& (2147483647 : Int32)) % (17 : Int32)))), .second, .val (.long (Fu p1 p2 p3 p4)), .second, .val (.long (Fq p1 p2 p3 p4)), .second, .val (.long (Frm p1 p2 p3 p4)), .second, .unset, .unset, .unset, .unset, .unset, .unset, .unset, .unset] []
  refine own_lload_n H rfl at_75 ?_
  refine own_ldc2J H (w := 22) rfl at_76 ?_
  refine own_land H rfl at_79 ?_
  refine own_lstore H #[.val (.long p1), .second, .val (.int p2), .val (.long p3), .second, .val (.int p4), .val (.int ((p2 &&& (2147483647 : Int32)) % (17 : Int32))), .val (.long (FP ((p2 &&& (2147483647 : Int32)) % (17 : Int32)))), .second, .val (.long (Fu p1 p2 p3 p4)), .second, .val (.long (Fq p1 p2 p3 p4)), .second, .val (.long (Frm p1 p2 p3 p4)), .second, .val (.long (p3 &&& (9223372036854775807 : Int64))), .second, .unset, .unset, .unset, .unset, .unset, .unset] rfl at_80 ?_
  refine own_iload H rfl at_82 ?_
  refine own_bipush H (7 : Int32) (by decide) at_84 ?_
  refine own_iand H rfl at_86 ?_
  refine own_istore H #[.val (.long p1), .second, .val (.int p2), .val (.long p3), .second, .val (.int p4), .val (.int ((p2 &&& (2147483647 : Int32)) % (17 : Int32))), .val (.long (FP ((p2 &&& (2147483647 : Int32)) % (17 : Int32)))), .second, .val (.long (Fu p1 p2 p3 p4)), .second, .val (.long (Fq p1 p2 p3 p4)), .second, .val (.long (Frm p1 p2 p3 p4)), .second, .val (.long (p3 &&& (9223372036854775807 : Int64))), .second, .val (.int (p4 &&& (7 : Int32))), .unset, .unset, .unset, .unset, .unset] rfl at_87 ?_
  refine own_iload H rfl at_89 ?_
  refine own_iconst H (1 : Int32) (by decide) at_91 ?_
  refine own_cut 157 #[.val (.long p1), .second, .val (.int p2), .val (.long p3), .second, .val (.int p4), .val (.int ((p2 &&& (2147483647 : Int32)) % (17 : Int32))), .val (.long (FP ((p2 &&& (2147483647 : Int32)) % (17 : Int32)))), .second, .val (.long (Fu p1 p2 p3 p4)), .second, .val (.long (Fq p1 p2 p3 p4)), .second, .val (.long (Frm p1 p2 p3 p4)), .second, .val (.long (p3 &&& (9223372036854775807 : Int64))), .second, .val (.int (p4 &&& (7 : Int32))), .val (.long (if (p4 &&& (7 : Int32)) = (1 : Int32) then (Fq p1 p2 p3 p4) else (if (p4 &&& (7 : Int32)) = (2 : Int32) then ((Fq p1 p2 p3 p4) + (1 : Int64)) else (if (p4 &&& (7 : Int32)) = (3 : Int32) then (FMax (0 : Int64) ((Fq p1 p2 p3 p4) - (1 : Int64))) else (if (p4 &&& (7 : Int32)) = (4 : Int32) then ((p3 &&& (9223372036854775807 : Int64)) - (p3 &&& (9223372036854775807 : Int64)) / (1000 : Int64) * (1000 : Int64)) else (p3 &&& (9223372036854775807 : Int64))))))), .second, .unset, .unset, .unset] [] (fun k15 => ?_) ?_
  ·
    by_cases c8 : (p4 &&& (7 : Int32)) = (1 : Int32)
    ·
      refine own_icmpne_f H at_92 c8 ?_
      refine own_lload H rfl at_95 ?_
      refine own_lstore H #[.val (.long p1), .second, .val (.int p2), .val (.long p3), .second, .val (.int p4), .val (.int ((p2 &&& (2147483647 : Int32)) % (17 : Int32))), .val (.long (FP ((p2 &&& (2147483647 : Int32)) % (17 : Int32)))), .second, .val (.long (Fu p1 p2 p3 p4)), .second, .val (.long (Fq p1 p2 p3 p4)), .second, .val (.long (Frm p1 p2 p3 p4)), .second, .val (.long (p3 &&& (9223372036854775807 : Int64))), .second, .val (.int (p4 &&& (7 : Int32))), .val (.long (Fq p1 p2 p3 p4)), .second, .unset, .unset, .unset] rfl at_97 ?_
      refine own_goto H (pc' := 157) at_99 (by decide) (by decide) ?_
      exact own_cast (by simp only [if_pos c8]) (by simp only [if_pos c8]) k15
    ·
      refine own_icmpne_t H (pc' := 102) at_92 (by decide) (by decide) c8 ?_
      refine own_iload H rfl at_102 ?_
      refine own_iconst H (2 : Int32) (by decide) at_104 ?_
      refine own_cut 157 #[.val (.long p1), .second, .val (.int p2), .val (.long p3), .second, .val (.int p4), .val (.int ((p2 &&& (2147483647 : Int32)) % (17 : Int32))), .val (.long (FP ((p2 &&& (2147483647 : Int32)) % (17 : Int32)))), .second, .val (.long (Fu p1 p2 p3 p4)), .second, .val (.long (Fq p1 p2 p3 p4)), .second, .val (.long (Frm p1 p2 p3 p4)), .second, .val (.long (p3 &&& (9223372036854775807 : Int64))), .second, .val (.int (p4 &&& (7 : Int32))), .val (.long (if (p4 &&& (7 : Int32)) = (2 : Int32) then ((Fq p1 p2 p3 p4) + (1 : Int64)) else (if (p4 &&& (7 : Int32)) = (3 : Int32) then (FMax (0 : Int64) ((Fq p1 p2 p3 p4) - (1 : Int64))) else (if (p4 &&& (7 : Int32)) = (4 : Int32) then ((p3 &&& (9223372036854775807 : Int64)) - (p3 &&& (9223372036854775807 : Int64)) / (1000 : Int64) * (1000 : Int64)) else (p3 &&& (9223372036854775807 : Int64)))))), .second, .unset, .unset, .unset] [] (fun k14 => ?_) ?_
      ·
        by_cases c9 : (p4 &&& (7 : Int32)) = (2 : Int32)
        ·
          refine own_icmpne_f H at_105 c9 ?_
          refine own_lload H rfl at_108 ?_
          refine own_lconst H (1 : Int64) (by decide) at_110 ?_
          refine own_ladd H rfl at_111 ?_
          refine own_lstore H #[.val (.long p1), .second, .val (.int p2), .val (.long p3), .second, .val (.int p4), .val (.int ((p2 &&& (2147483647 : Int32)) % (17 : Int32))), .val (.long (FP ((p2 &&& (2147483647 : Int32)) % (17 : Int32)))), .second, .val (.long (Fu p1 p2 p3 p4)), .second, .val (.long (Fq p1 p2 p3 p4)), .second, .val (.long (Frm p1 p2 p3 p4)), .second, .val (.long (p3 &&& (9223372036854775807 : Int64))), .second, .val (.int (p4 &&& (7 : Int32))), .val (.long ((Fq p1 p2 p3 p4) + (1 : Int64))), .second, .unset, .unset, .unset] rfl at_112 ?_
          refine own_goto H (pc' := 157) at_114 (by decide) (by decide) ?_
          exact own_cast (by simp only [if_pos c9]) (by simp only [if_pos c9]) k14
        ·
          refine own_icmpne_t H (pc' := 117) at_105 (by decide) (by decide) c9 ?_
          refine own_iload H rfl at_117 ?_
          refine own_iconst H (3 : Int32) (by decide) at_119 ?_
          refine own_cut 157 #[.val (.long p1), .second, .val (.int p2), .val (.long p3), .second, .val (.int p4), .val (.int ((p2 &&& (2147483647 : Int32)) % (17 : Int32))), .val (.long (FP ((p2 &&& (2147483647 : Int32)) % (17 : Int32)))), .second, .val (.long (Fu p1 p2 p3 p4)), .second, .val (.long (Fq p1 p2 p3 p4)), .second, .val (.long (Frm p1 p2 p3 p4)), .second, .val (.long (p3 &&& (9223372036854775807 : Int64))), .second, .val (.int (p4 &&& (7 : Int32))), .val (.long (if (p4 &&& (7 : Int32)) = (3 : Int32) then (FMax (0 : Int64) ((Fq p1 p2 p3 p4) - (1 : Int64))) else (if (p4 &&& (7 : Int32)) = (4 : Int32) then ((p3 &&& (9223372036854775807 : Int64)) - (p3 &&& (9223372036854775807 : Int64)) / (1000 : Int64) * (1000 : Int64)) else (p3 &&& (9223372036854775807 : Int64))))), .second, .unset, .unset, .unset] [] (fun k13 => ?_) ?_
          ·
            by_cases c10 : (p4 &&& (7 : Int32)) = (3 : Int32)
            ·
              refine own_icmpne_f H at_120 c10 ?_
              refine own_lconst H (0 : Int64) (by decide) at_123 ?_
              refine own_lload H rfl at_124 ?_
              refine own_lconst H (1 : Int64) (by decide) at_126 ?_
              refine own_lsub H rfl at_127 ?_
              refine own_invokestatic H (argsL := [(.long (0 : Int64)), (.long ((Fq p1 p2 p3 p4) - (1 : Int64)))]) (rest := []) (rmMax l Z a0 (own_hw H) h1 n0 (0 : Int64) ((Fq p1 p2 p3 p4) - (1 : Int64))) (w1 := 29) (w2 := 30) (w3 := 31) (w4 := 32) rfl rfl rfl rfl own_pd0 rfl 0 (by decide) rfl (by decide) (Nat.le_of_eq rfl) (by decide) (by decide) (by decide) rfl at_128 ?_
              rintro _ _ ⟨rfl, rfl⟩
              show own_G _ _ _ _ _ _ _ _ 131 #[.val (.long p1), .second, .val (.int p2), .val (.long p3), .second, .val (.int p4), .val (.int ((p2 &&& (2147483647 : Int32)) % (17 : Int32))), .val (.long (FP ((p2 &&& (2147483647 : Int32)) % (17 : Int32)))), .second, .val (.long (Fu p1 p2 p3 p4)), .second, .val (.long (Fq p1 p2 p3 p4)), .second, .val (.long (Frm p1 p2 p3 p4)), .second, .val (.long (p3 &&& (9223372036854775807 : Int64))), .second, .val (.int (p4 &&& (7 : Int32))), .unset, .unset, .unset, .unset, .unset] [(.long (FMax (0 : Int64) ((Fq p1 p2 p3 p4) - (1 : Int64))))]
              refine own_lstore H #[.val (.long p1), .second, .val (.int p2), .val (.long p3), .second, .val (.int p4), .val (.int ((p2 &&& (2147483647 : Int32)) % (17 : Int32))), .val (.long (FP ((p2 &&& (2147483647 : Int32)) % (17 : Int32)))), .second, .val (.long (Fu p1 p2 p3 p4)), .second, .val (.long (Fq p1 p2 p3 p4)), .second, .val (.long (Frm p1 p2 p3 p4)), .second, .val (.long (p3 &&& (9223372036854775807 : Int64))), .second, .val (.int (p4 &&& (7 : Int32))), .val (.long (FMax (0 : Int64) ((Fq p1 p2 p3 p4) - (1 : Int64)))), .second, .unset, .unset, .unset] rfl at_131 ?_
              refine own_goto H (pc' := 157) at_133 (by decide) (by decide) ?_
              exact own_cast (by simp only [if_pos c10]) (by simp only [if_pos c10]) k13
            ·
              refine own_icmpne_t H (pc' := 136) at_120 (by decide) (by decide) c10 ?_
              refine own_iload H rfl at_136 ?_
              refine own_iconst H (4 : Int32) (by decide) at_138 ?_
              refine own_cut 157 #[.val (.long p1), .second, .val (.int p2), .val (.long p3), .second, .val (.int p4), .val (.int ((p2 &&& (2147483647 : Int32)) % (17 : Int32))), .val (.long (FP ((p2 &&& (2147483647 : Int32)) % (17 : Int32)))), .second, .val (.long (Fu p1 p2 p3 p4)), .second, .val (.long (Fq p1 p2 p3 p4)), .second, .val (.long (Frm p1 p2 p3 p4)), .second, .val (.long (p3 &&& (9223372036854775807 : Int64))), .second, .val (.int (p4 &&& (7 : Int32))), .val (.long (if (p4 &&& (7 : Int32)) = (4 : Int32) then ((p3 &&& (9223372036854775807 : Int64)) - (p3 &&& (9223372036854775807 : Int64)) / (1000 : Int64) * (1000 : Int64)) else (p3 &&& (9223372036854775807 : Int64)))), .second, .unset, .unset, .unset] [] (fun k12 => ?_) ?_
              ·
                by_cases c11 : (p4 &&& (7 : Int32)) = (4 : Int32)
                ·
                  refine own_icmpne_f H at_139 c11 ?_
                  refine own_lload H rfl at_142 ?_
                  refine own_ldc2J H (w := 8) rfl at_144 ?_
                  refine own_lrem H rfl at_147 (by decide) ?_
                  refine own_lstore H #[.val (.long p1), .second, .val (.int p2), .val (.long p3), .second, .val (.int p4), .val (.int ((p2 &&& (2147483647 : Int32)) % (17 : Int32))), .val (.long (FP ((p2 &&& (2147483647 : Int32)) % (17 : Int32)))), .second, .val (.long (Fu p1 p2 p3 p4)), .second, .val (.long (Fq p1 p2 p3 p4)), .second, .val (.long (Frm p1 p2 p3 p4)), .second, .val (.long (p3 &&& (9223372036854775807 : Int64))), .second, .val (.int (p4 &&& (7 : Int32))), .val (.long ((p3 &&& (9223372036854775807 : Int64)) - (p3 &&& (9223372036854775807 : Int64)) / (1000 : Int64) * (1000 : Int64))), .second, .unset, .unset, .unset] rfl at_148 ?_
                  refine own_goto H (pc' := 157) at_150 (by decide) (by decide) ?_
                  exact own_cast (by simp only [if_pos c11]) (by simp only [if_pos c11]) k12
                ·
                  refine own_icmpne_t H (pc' := 153) at_139 (by decide) (by decide) c11 ?_
                  refine own_lload H rfl at_153 ?_
                  refine own_lstore H #[.val (.long p1), .second, .val (.int p2), .val (.long p3), .second, .val (.int p4), .val (.int ((p2 &&& (2147483647 : Int32)) % (17 : Int32))), .val (.long (FP ((p2 &&& (2147483647 : Int32)) % (17 : Int32)))), .second, .val (.long (Fu p1 p2 p3 p4)), .second, .val (.long (Fq p1 p2 p3 p4)), .second, .val (.long (Frm p1 p2 p3 p4)), .second, .val (.long (p3 &&& (9223372036854775807 : Int64))), .second, .val (.int (p4 &&& (7 : Int32))), .val (.long (p3 &&& (9223372036854775807 : Int64))), .second, .unset, .unset, .unset] rfl at_155 ?_
                  exact own_cast (by simp only [if_neg c11]) (by simp only [if_neg c11]) k12
              exact own_cast (by simp only [if_neg c10]) (by simp only [if_neg c10]) k13
          exact own_cast (by simp only [if_neg c9]) (by simp only [if_neg c9]) k14
      exact own_cast (by simp only [if_neg c8]) (by simp only [if_neg c8]) k15
  show own_G _ _ _ _ _ _ _ _ 157 #[.val (.long p1), .second, .val (.int p2), .val (.long p3), .second, .val (.int p4), .val (.int ((p2 &&& (2147483647 : Int32)) % (17 : Int32))), .val (.long (FP ((p2 &&& (2147483647 : Int32)) % (17 : Int32)))), .second, .val (.long (Fu p1 p2 p3 p4)), .second, .val (.long (Fq p1 p2 p3 p4)), .second, .val (.long (Frm p1 p2 p3 p4)), .second, .val (.long (p3 &&& (9223372036854775807 : Int64))), .second, .val (.int (p4 &&& (7 : Int32))), .val (.long (Fw p1 p2 p3 p4)), .second, .unset, .unset, .unset] []
  refine own_lload H rfl at_157 ?_
  refine own_iconst H (5 : Int32) (by decide) at_159 ?_
  refine own_lshl H rfl at_160 ?_
  refine own_iload H rfl at_161 ?_
  refine own_i2l H rfl at_163 ?_
  refine own_lor H rfl at_164 ?_
  refine own_lstore H #[.val (.long p1), .second, .val (.int p2), .val (.long p3), .second, .val (.int p4), .val (.int ((p2 &&& (2147483647 : Int32)) % (17 : Int32))), .val (.long (FP ((p2 &&& (2147483647 : Int32)) % (17 : Int32)))), .second, .val (.long (Fu p1 p2 p3 p4)), .second, .val (.long (Fq p1 p2 p3 p4)), .second, .val (.long (Frm p1 p2 p3 p4)), .second, .val (.long (p3 &&& (9223372036854775807 : Int64))), .second, .val (.int (p4 &&& (7 : Int32))), .val (.long (Fw p1 p2 p3 p4)), .second, .val (.long (((Fu p1 p2 p3 p4) <<< ((5 : Int32).toInt64 &&& 63)) ||| (((p2 &&& (2147483647 : Int32)) % (17 : Int32)).toInt64))), .second, .unset] rfl at_165 ?_
  show own_G _ _ _ _ _ _ _ _ 167 #[.val (.long p1), .second, .val (.int p2), .val (.long p3), .second, .val (.int p4), .val (.int ((p2 &&& (2147483647 : Int32)) % (17 : Int32))), .val (.long (FP ((p2 &&& (2147483647 : Int32)) % (17 : Int32)))), .second, .val (.long (Fu p1 p2 p3 p4)), .second, .val (.long (Fq p1 p2 p3 p4)), .second, .val (.long (Frm p1 p2 p3 p4)), .second, .val (.long (p3 &&& (9223372036854775807 : Int64))), .second, .val (.int (p4 &&& (7 : Int32))), .val (.long (Fw p1 p2 p3 p4)), .second, .val (.long (Fpk p1 p2 p3 p4)), .second, .unset] []
  refine own_lload H rfl at_167 ?_
  refine own_lload H rfl at_169 ?_
  refine own_cut 195 #[.val (.long p1), .second, .val (.int p2), .val (.long p3), .second, .val (.int p4), .val (.int ((p2 &&& (2147483647 : Int32)) % (17 : Int32))), .val (.long (FP ((p2 &&& (2147483647 : Int32)) % (17 : Int32)))), .second, .val (.long (Fu p1 p2 p3 p4)), .second, .val (.long (Fq p1 p2 p3 p4)), .second, .val (.long (Frm p1 p2 p3 p4)), .second, .val (.long (p3 &&& (9223372036854775807 : Int64))), .second, .val (.int (p4 &&& (7 : Int32))), .val (.long (Fw p1 p2 p3 p4)), .second, .val (.long (Fpk p1 p2 p3 p4)), .second, .unset] [(.int (if (Fw p1 p2 p3 p4) < (Fq p1 p2 p3 p4) then (1 : Int32) else (if (Fq p1 p2 p3 p4) = (Fw p1 p2 p3 p4) then (if (0 : Int64) < (Frm p1 p2 p3 p4) then (1 : Int32) else (0 : Int32)) else (0 : Int32))))] (fun k21 => ?_) ?_
  ·
    by_cases c16 : (Fw p1 p2 p3 p4) < (Fq p1 p2 p3 p4)
    ·
      refine own_lcmpgt_t H (pc' := 190) at_171 at_172 (by decide) (by decide) c16 ?_
      refine own_iconst H (1 : Int32) (by decide) at_190 ?_
      refine own_goto H (pc' := 195) at_191 (by decide) (by decide) ?_
      exact own_cast (by simp only [if_pos c16]) (by simp only [if_pos c16]) k21
    ·
      refine own_lcmpgt_f H at_171 at_172 c16 ?_
      refine own_lload H rfl at_175 ?_
      refine own_lload H rfl at_177 ?_
      refine own_cut 195 #[.val (.long p1), .second, .val (.int p2), .val (.long p3), .second, .val (.int p4), .val (.int ((p2 &&& (2147483647 : Int32)) % (17 : Int32))), .val (.long (FP ((p2 &&& (2147483647 : Int32)) % (17 : Int32)))), .second, .val (.long (Fu p1 p2 p3 p4)), .second, .val (.long (Fq p1 p2 p3 p4)), .second, .val (.long (Frm p1 p2 p3 p4)), .second, .val (.long (p3 &&& (9223372036854775807 : Int64))), .second, .val (.int (p4 &&& (7 : Int32))), .val (.long (Fw p1 p2 p3 p4)), .second, .val (.long (Fpk p1 p2 p3 p4)), .second, .unset] [(.int (if (Fq p1 p2 p3 p4) = (Fw p1 p2 p3 p4) then (if (0 : Int64) < (Frm p1 p2 p3 p4) then (1 : Int32) else (0 : Int32)) else (0 : Int32)))] (fun k20 => ?_) ?_
      ·
        by_cases c17 : (Fq p1 p2 p3 p4) = (Fw p1 p2 p3 p4)
        ·
          refine own_lcmpne_f H at_179 at_180 c17 ?_
          refine own_lload H rfl at_183 ?_
          refine own_lconst H (0 : Int64) (by decide) at_185 ?_
          refine own_cut 195 #[.val (.long p1), .second, .val (.int p2), .val (.long p3), .second, .val (.int p4), .val (.int ((p2 &&& (2147483647 : Int32)) % (17 : Int32))), .val (.long (FP ((p2 &&& (2147483647 : Int32)) % (17 : Int32)))), .second, .val (.long (Fu p1 p2 p3 p4)), .second, .val (.long (Fq p1 p2 p3 p4)), .second, .val (.long (Frm p1 p2 p3 p4)), .second, .val (.long (p3 &&& (9223372036854775807 : Int64))), .second, .val (.int (p4 &&& (7 : Int32))), .val (.long (Fw p1 p2 p3 p4)), .second, .val (.long (Fpk p1 p2 p3 p4)), .second, .unset] [(.int (if (0 : Int64) < (Frm p1 p2 p3 p4) then (1 : Int32) else (0 : Int32)))] (fun k19 => ?_) ?_
          ·
            by_cases c18 : (0 : Int64) < (Frm p1 p2 p3 p4)
            ·
              refine own_lcmple_f H at_186 at_187 c18 ?_
              refine own_iconst H (1 : Int32) (by decide) at_190 ?_
              refine own_goto H (pc' := 195) at_191 (by decide) (by decide) ?_
              exact own_cast (by simp only [if_pos c18]) (by simp only [if_pos c18]) k19
            ·
              refine own_lcmple_t H (pc' := 194) at_186 at_187 (by decide) (by decide) c18 ?_
              refine own_iconst H (0 : Int32) (by decide) at_194 ?_
              exact own_cast (by simp only [if_neg c18]) (by simp only [if_neg c18]) k19
          exact own_cast (by simp only [if_pos c17]) (by simp only [if_pos c17]) k20
        ·
          refine own_lcmpne_t H (pc' := 194) at_179 at_180 (by decide) (by decide) c17 ?_
          refine own_iconst H (0 : Int32) (by decide) at_194 ?_
          exact own_cast (by simp only [if_neg c17]) (by simp only [if_neg c17]) k20
      exact own_cast (by simp only [if_neg c16]) (by simp only [if_neg c16]) k21
  refine own_istore H #[.val (.long p1), .second, .val (.int p2), .val (.long p3), .second, .val (.int p4), .val (.int ((p2 &&& (2147483647 : Int32)) % (17 : Int32))), .val (.long (FP ((p2 &&& (2147483647 : Int32)) % (17 : Int32)))), .second, .val (.long (Fu p1 p2 p3 p4)), .second, .val (.long (Fq p1 p2 p3 p4)), .second, .val (.long (Frm p1 p2 p3 p4)), .second, .val (.long (p3 &&& (9223372036854775807 : Int64))), .second, .val (.int (p4 &&& (7 : Int32))), .val (.long (Fw p1 p2 p3 p4)), .second, .val (.long (Fpk p1 p2 p3 p4)), .second, .val (.int (if (Fw p1 p2 p3 p4) < (Fq p1 p2 p3 p4) then (1 : Int32) else (if (Fq p1 p2 p3 p4) = (Fw p1 p2 p3 p4) then (if (0 : Int64) < (Frm p1 p2 p3 p4) then (1 : Int32) else (0 : Int32)) else (0 : Int32))))] rfl at_195 ?_
  show own_G _ _ _ _ _ _ _ _ 197 #[.val (.long p1), .second, .val (.int p2), .val (.long p3), .second, .val (.int p4), .val (.int ((p2 &&& (2147483647 : Int32)) % (17 : Int32))), .val (.long (FP ((p2 &&& (2147483647 : Int32)) % (17 : Int32)))), .second, .val (.long (Fu p1 p2 p3 p4)), .second, .val (.long (Fq p1 p2 p3 p4)), .second, .val (.long (Frm p1 p2 p3 p4)), .second, .val (.long (p3 &&& (9223372036854775807 : Int64))), .second, .val (.int (p4 &&& (7 : Int32))), .val (.long (Fw p1 p2 p3 p4)), .second, .val (.long (Fpk p1 p2 p3 p4)), .second, .val (.int (Fex p1 p2 p3 p4))] []
  refine own_lload H rfl at_197 ?_
  refine own_lload H rfl at_199 ?_
  refine own_invokestatic H (argsL := [(.long (Fpk p1 p2 p3 p4)), (.long (Fw p1 p2 p3 p4))]) (rest := []) (rmA l Z a0 (own_hw H) h1 n0 (Fpk p1 p2 p3 p4) (Fw p1 p2 p3 p4)) (w1 := 24) (w2 := 25) (w3 := 26) (w4 := 27) rfl rfl rfl rfl own_pd2 rfl 0 (by decide) rfl (by decide) (Nat.le_of_eq rfl) (by decide) (by decide) (by decide) rfl at_201 ?_
  rintro _ _ ⟨rfl, rfl⟩
  show own_G _ _ _ _ _ _ _ _ 204 #[.val (.long p1), .second, .val (.int p2), .val (.long p3), .second, .val (.int p4), .val (.int ((p2 &&& (2147483647 : Int32)) % (17 : Int32))), .val (.long (FP ((p2 &&& (2147483647 : Int32)) % (17 : Int32)))), .second, .val (.long (Fu p1 p2 p3 p4)), .second, .val (.long (Fq p1 p2 p3 p4)), .second, .val (.long (Frm p1 p2 p3 p4)), .second, .val (.long (p3 &&& (9223372036854775807 : Int64))), .second, .val (.int (p4 &&& (7 : Int32))), .val (.long (Fw p1 p2 p3 p4)), .second, .val (.long (Fpk p1 p2 p3 p4)), .second, .val (.int (Fex p1 p2 p3 p4))] [(.int (FA (Fpk p1 p2 p3 p4) (Fw p1 p2 p3 p4)))]
  refine own_iload H rfl at_204 ?_
  by_cases c22 : (FA (Fpk p1 p2 p3 p4) (Fw p1 p2 p3 p4)) = (Fex p1 p2 p3 p4)
  ·
    refine own_icmpne_f H at_206 c22 ?_
    refine own_iconst H (1 : Int32) (by decide) at_209 ?_
    refine own_goto H (pc' := 214) at_210 (by decide) (by decide) ?_
    exact own_ireturn H (by simp) (by decide) at_214 (by decide) (by decide) (by show some _ = some _; rw [F0, if_pos c22])
  ·
    refine own_icmpne_t H (pc' := 213) at_206 (by decide) (by decide) c22 ?_
    refine own_iconst H (0 : Int32) (by decide) at_213 ?_
    exact own_ireturn H (by simp) (by decide) at_214 (by decide) (by decide) (by show some _ = some _; rw [F0, if_neg c22])
theorem own_scv (u : Int64) (hu : 0 ≤ u.toInt) (hu2 : u.toInt < 100000000000000000) : ∀ (k : Nat) (s : Int64), 0 ≤ s.toInt → ((own_sc k u s).toInt < u.toInt ↔ s.toInt * 10 ^ k < u.toInt) := by
  intro k
  induction k with
  | zero => intro s hs; simp [own_sc]
  | succ k ih =>
    intro s hs
    rw [own_sc]
    by_cases c : u < s
    · rw [if_pos c]
      rw [Int64.lt_iff_toInt_lt] at c
      have h1 : (1 : Int) ≤ 10 ^ (k + 1) := Int.pow_pos (by decide)
      have h2 : s.toInt * 1 ≤ s.toInt * 10 ^ (k + 1) := Int.mul_le_mul_of_nonneg_left h1 hs
      constructor
      · intro; omega
      · intro; omega
    · rw [if_neg c]
      rw [Int64.lt_iff_toInt_lt] at c
      have e10 : (10 : Int64).toInt = 10 := by decide
      have e : (s * 10).toInt = s.toInt * 10 := by
        have := XT.mul64 (x := s) (y := 10) ⟨by rw [e10]; omega, by rw [e10]; omega⟩
        rw [this, e10]
      rw [ih (s * 10) (by rw [e]; omega), e, Int.pow_succ]
      have : s.toInt * 10 * 10 ^ k = s.toInt * (10 ^ k * 10) := by rw [Int.mul_assoc, Int.mul_comm 10]
      rw [this]
theorem own_max63 (x : Int64) : 0 ≤ (x &&& (9223372036854775807 : Int64)).toInt := by
  have h : (x &&& (9223372036854775807 : Int64)).toBitVec.toNat = x.toBitVec.toNat % 9223372036854775808 := by
    have : (x &&& (9223372036854775807 : Int64)).toBitVec.toNat = x.toBitVec.toNat &&& 9223372036854775807 := by
      rw [Int64.toBitVec_and, BitVec.toNat_and]; rfl
    rw [this]
    exact Nat.and_two_pow_sub_one_eq_mod _ 63
  show 0 ≤ (x &&& (9223372036854775807 : Int64)).toBitVec.toInt
  rw [BitVec.toInt_eq_toNat_cond, if_pos (by omega)]
  omega
theorem own_rem (x m : Int64) (hx : 0 ≤ x.toInt) (hm : 0 < m.toInt) : (x - x / m * m).toInt = x.toInt % m.toInt ∧ (x / m).toInt = x.toInt / m.toInt := by
  have hne : m ≠ -1 := by
    intro q
    rw [q] at hm
    exact absurd hm (by decide)
  have e1 : (x / m).toInt = x.toInt / m.toInt := by rw [Int64.toInt_div_of_ne_right _ _ hne, Int.tdiv_eq_ediv_of_nonneg hx]
  have r := x.toInt_lt
  have q0 : 0 ≤ x.toInt / m.toInt := Int.ediv_nonneg hx (by omega)
  have q1 := Int.emod_add_mul_ediv x.toInt m.toInt
  have q2 := Int.emod_nonneg x.toInt (b := m.toInt) (by omega)
  have q3 : 0 ≤ m.toInt * (x.toInt / m.toInt) := Int.mul_nonneg (by omega) q0
  have c := Int.mul_comm m.toInt (x.toInt / m.toInt)
  have e2 : (x / m * m).toInt = x.toInt / m.toInt * m.toInt := by
    rw [XT.mul64 (by rw [e1]; constructor <;> omega), e1]
  refine ⟨?_, e1⟩
  rw [XT.sub64 (by rw [e2]; constructor <;> omega), e2]
  omega
theorem own_pack (u : Int64) (d : Int32) (hu : 0 ≤ u.toInt) (hu2 : u.toInt < 100000000000000000) (hd : 0 ≤ d.toInt) (hd2 : d.toInt < 17) :
    (((u <<< ((5 : Int32).toInt64 &&& 63)) ||| d.toInt64) >>> ((5 : Int32).toInt64 &&& 63)) = u ∧ (((u <<< ((5 : Int32).toInt64 &&& 63)) ||| d.toInt64) &&& (31 : Int64)).toInt = d.toInt := by
  have e : ((5 : Int32).toInt64 &&& 63) = 5 := by decide
  rw [e]
  have hun : u.toInt = u.toBitVec.toNat := by
    have : u.toInt = u.toBitVec.toInt := rfl
    rw [this, BitVec.toInt_eq_toNat_cond] at hu ⊢
    have := u.toBitVec.isLt
    split at hu <;> split <;> omega
  have hdn : d.toInt64.toInt = d.toInt64.toBitVec.toNat := by
    have h0 : d.toInt64.toInt = d.toInt := Int32.toInt_toInt64 d
    have : d.toInt64.toInt = d.toInt64.toBitVec.toInt := rfl
    rw [this, BitVec.toInt_eq_toNat_cond] at h0 ⊢
    have := d.toInt64.toBitVec.isLt
    split at h0 <;> split <;> omega
  have hdi : (d.toInt64.toBitVec.toNat : Int) = d.toInt := by rw [← hdn]; exact Int32.toInt_toInt64 d
  have e3 : (u <<< (5 : Int64)).toBitVec.toNat = u.toBitVec.toNat <<< 5 := by
    have : (u <<< (5 : Int64)).toBitVec = u.toBitVec <<< ((5 : Int64).toBitVec.smod 64) := rfl
    have q : ((5 : Int64).toBitVec.smod 64) = 5#64 := by decide
    rw [this, q]
    show (u.toBitVec <<< (5#64).toNat).toNat = _
    rw [BitVec.toNat_shiftLeft]
    have q2 : (5#64).toNat = 5 := rfl
    rw [q2, Nat.shiftLeft_eq, Nat.mod_eq_of_lt (by omega)]
  have hp : ((u <<< (5 : Int64)) ||| d.toInt64).toBitVec.toNat = u.toBitVec.toNat * 32 + d.toInt64.toBitVec.toNat := by
    rw [Int64.toBitVec_or, BitVec.toNat_or, e3, ← Nat.shiftLeft_add_eq_or_of_lt (i := 5) (by omega), Nat.shiftLeft_eq]
  generalize ((u <<< (5 : Int64)) ||| d.toInt64) = P at *
  constructor
  · have hs : (P >>> (5 : Int64)).toBitVec = P.toBitVec.sshiftRight' ((5 : Int64).toBitVec.smod 64) := rfl
    have q : ((5 : Int64).toBitVec.smod 64) = 5#64 := by decide
    have hs2 : (P >>> (5 : Int64)).toInt = P.toInt >>> 5 := by
      show (P >>> (5 : Int64)).toBitVec.toInt = _
      rw [hs, q]
      show (P.toBitVec.sshiftRight (5#64).toNat).toInt = _
      rw [BitVec.toInt_sshiftRight]
      rfl
    have hpi : P.toInt = P.toBitVec.toNat := by
      show P.toBitVec.toInt = _
      rw [BitVec.toInt_eq_toNat_cond, if_pos (by omega)]
    rw [← Int64.toInt_inj, hs2, hpi, hp, Int.shiftRight_eq_div_pow]
    omega
  · rw [own_n31, hp]
    omega
theorem own_cmpq (u w p q r : Int) (hp : 0 < p) (hq : q = u / p) (hr : r = u % p) : (w * p < u ↔ (w < q ∨ (q = w ∧ 0 < r))) := by
  have e := Int.emod_add_mul_ediv u p
  have r0 := Int.emod_nonneg u (b := p) (by omega)
  have r1 := Int.emod_lt_of_pos u hp
  subst hq hr
  constructor
  · intro h
    by_cases c : w < u / p
    · exact Or.inl c
    · right
      by_cases c2 : w = u / p
      · refine ⟨c2.symm, ?_⟩
        subst c2
        rw [Int.mul_comm] at h
        omega
      · exfalso
        have h1 : u / p + 1 ≤ w := by omega
        have h2 := Int.mul_le_mul_of_nonneg_right h1 (Int.le_of_lt hp)
        rw [Int.add_mul, Int.one_mul, Int.mul_comm] at h2
        omega
  · intro h
    rcases h with h | ⟨h, h3⟩
    · have h1 : w + 1 ≤ u / p := by omega
      have h2 := Int.mul_le_mul_of_nonneg_right h1 (Int.le_of_lt hp)
      rw [Int.add_mul, Int.one_mul, Int.mul_comm (u / p)] at h2
      omega
    · subst h
      rw [Int.mul_comm]
      omega
theorem own_law (p1 : Int64) (p2 : Int32) (p3 : Int64) (p4 : Int32) : F0 p1 p2 p3 p4 = 1 := by
  have hd := own_d p2
  have hP := own_fpv ((p2 &&& (2147483647 : Int32)) % (17 : Int32)) ((p2 &&& (2147483647 : Int32)) % (17 : Int32)).toInt.toNat (by omega) (by omega)
  have hP0 : 0 < (FP ((p2 &&& (2147483647 : Int32)) % (17 : Int32))).toInt := by rw [hP]; exact Int.pow_pos (by decide)
  have e17 : (100000000000000000 : Int64).toInt = 100000000000000000 := by decide
  have e5 : (100000 : Int64).toInt = 100000 := by decide
  have b0 := own_rem (p1 &&& (9223372036854775807 : Int64)) 100000000000000000 (own_max63 p1) (by rw [e17]; decide)
  have hu : 0 ≤ (Fu p1 p2 p3 p4).toInt ∧ (Fu p1 p2 p3 p4).toInt < 100000000000000000 := by
    unfold Fu
    generalize FP ((p2 &&& (2147483647 : Int32)) % (17 : Int32)) = P at *
    have c0 : 0 ≤ ((p1 &&& (9223372036854775807 : Int64)) - (p1 &&& (9223372036854775807 : Int64)) / (100000000000000000 : Int64) * (100000000000000000 : Int64)).toInt ∧ ((p1 &&& (9223372036854775807 : Int64)) - (p1 &&& (9223372036854775807 : Int64)) / (100000000000000000 : Int64) * (100000000000000000 : Int64)).toInt < 100000000000000000 := by
      rw [b0.1, e17]
      omega
    generalize ((p1 &&& (9223372036854775807 : Int64)) - (p1 &&& (9223372036854775807 : Int64)) / (100000000000000000 : Int64) * (100000000000000000 : Int64)) = A at *
    have c1 : 0 ≤ (if (p4 &&& (8 : Int32)) = 0 then A else (A - A / (100000 : Int64) * (100000 : Int64))).toInt ∧ (if (p4 &&& (8 : Int32)) = 0 then A else (A - A / (100000 : Int64) * (100000 : Int64))).toInt < 100000000000000000 := by
      split
      · exact c0
      · rw [(own_rem A 100000 c0.1 (by rw [e5]; decide)).1, e5]
        omega
    generalize (if (p4 &&& (8 : Int32)) = 0 then A else (A - A / (100000 : Int64) * (100000 : Int64))) = D at *
    split
    · exact c1
    · have q := (own_rem D P c1.1 hP0).1
      have q1 := Int.emod_nonneg D.toInt (b := P.toInt) (by omega)
      have q2 : D.toInt % P.toInt ≤ D.toInt := by
        have e := Int.emod_add_mul_ediv D.toInt P.toInt
        have f := Int.mul_nonneg (Int.le_of_lt hP0) (Int.ediv_nonneg c1.1 (Int.le_of_lt hP0))
        omega
      rw [XT.sub64 (by rw [q]; constructor <;> omega), q]
      omega
  have hq := own_rem (Fu p1 p2 p3 p4) (FP ((p2 &&& (2147483647 : Int32)) % (17 : Int32))) hu.1 hP0
  have l0 : (0 : Int64).toInt = 0 := rfl
  have l1 : (1 : Int64).toInt = 1 := by decide
  have l3 : (1000 : Int64).toInt = 1000 := by decide
  have hq0 : 0 ≤ (Fq p1 p2 p3 p4).toInt ∧ (Fq p1 p2 p3 p4).toInt < 100000000000000000 := by
    unfold Fq
    rw [hq.2]
    exact ⟨Int.ediv_nonneg hu.1 (by omega), by have := Int.ediv_le_self (FP ((p2 &&& (2147483647 : Int32)) % (17 : Int32))).toInt hu.1; omega⟩
  have hw : 0 ≤ (Fw p1 p2 p3 p4).toInt := by
    unfold Fw
    split
    · exact hq0.1
    split
    · rw [XT.add64 (by rw [l1]; constructor <;> omega), l1]; omega
    split
    · unfold FMax
      split
      · rename_i c
        rw [Int64.lt_iff_toInt_lt] at c
        omega
      · rw [l0]; omega
    split
    · rw [(own_rem (p3 &&& (9223372036854775807 : Int64)) 1000 (own_max63 p3) (by rw [l3]; decide)).1, l3]
      omega
    · exact own_max63 p3
  have hpk := own_pack (Fu p1 p2 p3 p4) ((p2 &&& (2147483647 : Int32)) % (17 : Int32)) hu.1 hu.2 hd.1 hd.2
  have hA : FA (Fpk p1 p2 p3 p4) (Fw p1 p2 p3 p4) = Fex p1 p2 p3 p4 := by
    unfold FA Fpk Fex
    rw [hpk.1, hpk.2]
    have s := own_scv (Fu p1 p2 p3 p4) hu.1 hu.2 ((p2 &&& (2147483647 : Int32)) % (17 : Int32)).toInt.toNat (Fw p1 p2 p3 p4) hw
    rw [← hP] at s
    have c := own_cmpq (Fu p1 p2 p3 p4).toInt (Fw p1 p2 p3 p4).toInt _ (Fq p1 p2 p3 p4).toInt (Frm p1 p2 p3 p4).toInt hP0 (by unfold Fq; exact hq.2) (by unfold Frm; exact hq.1)
    simp only [Int64.lt_iff_toInt_lt, ← Int64.toInt_inj, l0]
    rw [c] at s
    by_cases k1 : (Fw p1 p2 p3 p4).toInt < (Fq p1 p2 p3 p4).toInt
    · rw [if_pos k1, if_pos (s.mpr (Or.inl k1))]
    · rw [if_neg k1]
      by_cases k2 : (Fq p1 p2 p3 p4).toInt = (Fw p1 p2 p3 p4).toInt
      · rw [if_pos k2]
        by_cases k3 : 0 < (Frm p1 p2 p3 p4).toInt
        · rw [if_pos k3, if_pos (s.mpr (Or.inr ⟨k2, k3⟩))]
        · rw [if_neg k3, if_neg (fun z => (s.mp z).elim k1 (fun y => k3 y.2))]
      · rw [if_neg k2, if_neg (fun z => (s.mp z).elim k1 (fun y => k2 y.1))]
  rw [F0, if_pos hA]

set_option maxHeartbeats 40000000 in
theorem comes_1 {Post : Tables → Env → Array Value → State → Outcome → State → Prop} (hpost : ∀ tb e args s v u, (limb_1_1.after args s (.returned v) u = true ∧ limb_1_2.after args s (.returned v) u = true ∧ True) → FrameEnd s (.returned v) u (Jvm.fieldLocs frame_1_writes args s ++ Jvm.arrayLocs frame_1_arrays args s ++ Jvm.staticLocs frame_1_statics s) 16 128 → Post tb e args s (.returned v) u) :
    ArmFor flags0 classFile x code maxLocals ret World_1 tables_1 room_1 Calls_1 rest_1 Pre_1 Post := by
  intro l hfl _ _ p e ha hc hk s m args below hf hA hF happ hP
  obtain ⟨hcalls, hrest, hpre⟩ := hP
  obtain ⟨-, -, -, hnamed, -, -, -, hat⟩ := (Spec.applies_iff hf).mp happ
  obtain ⟨hg, hn⟩ := and_e (Cond.before_iff.mp (show (Jvm.Cond.and given_1 narrow_1).before args s = true from hpre))
  obtain ⟨h1, g0⟩ := and_e hg
  obtain ⟨w0, w1, w2, w3, rfl⟩ : ∃ w0 w1 w2 w3 : Value, args = #[w0, w1, w2, w3] := by
    have hs : args.size = 4 := by simpa [Cond.value, given_1] using h1
    obtain ⟨L⟩ := args
    match L, hs with
    | [w0, w1, w2, w3], _ => exact ⟨w0, w1, w2, w3, rfl⟩
  have hw := fun d (hd : d ∈ tables_1) => atoms_spec (ws := Jvm.Cond.code x code maxLocals ret :: tables_1) hat d (List.mem_cons_of_mem _ hd)
  have hw' : ∀ (i : Nat) (d : Jvm.Cond), tables_1[i]? = some d → d.before _ s = true := fun i d q => hw d (List.mem_of_getElem? q)
  obtain ⟨u0, g1⟩ := and_e g0
  obtain ⟨i0, e0⟩ := isL_v u0
  obtain rfl : w0 = (.long i0) := Option.some.inj e0
  obtain ⟨u1, g2⟩ := and_e g1
  obtain ⟨i1, e1⟩ := is_v u1
  obtain rfl : w1 = (.int i1) := Option.some.inj e1
  obtain ⟨u2, g3⟩ := and_e g2
  obtain ⟨i2, e2⟩ := isL_v u2
  obtain rfl : w2 = (.long i2) := Option.some.inj e2
  obtain ⟨i3, e3⟩ := is_v g3
  obtain rfl : w3 = (.int i3) := Option.some.inj e3
  obtain ⟨n, o, h1, h2, h3, _, L, rfl, ⟨rfl, N⟩, hq⟩ := rm0 l s _ hw' tables_1 s.heap s.heap.size i0 i1 i2 i3 (Nat.le_refl _) p e ha hc hk s m _ below hf ((Spec.applies_iff_loose hf).mp happ).1 ⟨rfl, State.Warmed39.refl s, rfl⟩ trivial
  refine ⟨n, _, h1, h2, h3, hpost _ _ _ _ _ _ ⟨Cond.after_iff.mpr rfl, Cond.after_iff.mpr (eq_i res_at (Term.int_eval (1)) (by rw [own_law])), trivial⟩ ⟨hq.1, hq.2.1, (hq.2.2.sift fun y hy => Or.inr (N y hy)).mono (by decide) (by decide)⟩⟩
theorem main_1_1 : Claimed_1_1 := comes_1 fun _ _ _ _ _ _ h hF => ⟨h.1, hF⟩
theorem main_1_2 : Claimed_1_2 := comes_1 fun _ _ _ _ _ _ h hF => ⟨h.2.1, hF⟩
end Jvm.Pilot.@@N@@
namespace Jvm.Pilot.@@N@@
open Jvm Jvm.ClassFile Sem Op Lib Jvm.Free Jvm.Stand Jvm.Pilot.@@N@@.Jvm.D
/-! MADE BY PROGRAM (witnessworld.py) out of the Statement's table words and the real class files: 12 classes; the members and pool entries that the words name. The judged class is class 1, her method 2. -/
namespace start1
open Jvm.ClassFile
def u (s : String) : CpInfo := .utf8 (stringToUtf16 s)
/-- a pool by its gaps: so many unusable entries, then the entry; so many at the end -/
def gap : Nat → List CpInfo → List CpInfo
  | 0, r => r
  | n + 1, r => .unusable :: gap n r
def poolList (es : List (Nat × CpInfo)) (last : Nat) : List CpInfo := es.foldr (fun e r => gap e.1 (e.2 :: r)) (gap last [])
def pool (es : List (Nat × CpInfo)) (last : Nat) : Array CpInfo := ⟨poolList es last⟩
def fileOf (pool : Array CpInfo) (this : Nat) (attrs : Array Attribute := #[]) (ms : Array MethodInfo := #[]) (fl : Nat := 33) (sup : Nat := 0) (ifs : Array Nat := #[]) (fds : Array FieldInfo := #[]) : ClassFile where
  minorVersion := 0
  majorVersion := 65
  constantPool := pool
  accessFlags := fl
  thisClass := this
  superClass := sup
  interfaces := ifs
  fields := fds
  methods := ms
  attributes := attrs
def plain (name : String) (sup : Option ClassId) : Class where
  name := name
  kind := .ordinary
  loader := none
  accessFlags := 33
  super := sup
  interfaces := #[]
  cf := none
  fields := #[]
  methods := #[]
  instanceTypes := #[]
  staticTypes := #[]
  resolved := #[]
  callSites := []
  init := .initialized
  statics := none
  mirror := none

def pool0 : Array CpInfo := pool [(5, u "<init>"), (0, u "()V"), (1, .class_ 10), (1, u "java/lang/Object")] 113

def k0m0 : Method := { name := "<init>", desc := "()V", sig := { parameters := [], returnType := none }, accessFlags := 1, code := none }
/-- java/lang/Object -/
def k0 : Class := { plain "java/lang/Object" none with
  accessFlags := 33
  interfaces := #[]
  cf := some (fileOf pool0 8 #[] #[{ accessFlags := 1, nameIndex := 5, descriptorIndex := 6, attributes := #[] }] 33 0 #[] #[])
  fields := #[]
  methods := #[k0m0]
  instanceTypes := #[]
  staticTypes := #[]
  resolved := Array.replicate 124 none
  statics := none }

def pool1 : Array CpInfo := pool [(2, .class_ 4), (1, u "java/lang/Object"), (0, u "<init>"), (0, u "()V"), (0, .long 10), (1, .long 100), (1, .long 1000), (1, .long 10000), (1, .long 100000), (1, .long 1000000), (1, .long 10000000), (1, .long 100000000), (1, .long 1000000000), (1, .long 10000000000), (1, .long 100000000000), (1, .long 1000000000000), (1, .long 10000000000000), (1, .long 100000000000000), (1, .long 1000000000000000), (1, .long 10000000000000000), (1, .integer 2147483647), (0, .methodref 41 42), (0, .class_ 43), (0, .nameAndType 44 45), (0, u "com/example/vestwright/vestwright/input/DigitsIsAbovePinLaw"), (0, u "pow10"), (0, u "(I)J"), (2, .long 9223372036854775807), (1, .long 100000000000000000), (1, .methodref 53 54), (0, .class_ 55), (0, .nameAndType 56 57), (0, u "java/lang/Math"), (0, u "max"), (0, u "(JJ)J"), (0, .methodref 59 60), (0, .class_ 61), (0, .nameAndType 62 63), (0, u "com/example/vestwright/vestwright/input/Digits"), (0, u "isAbove"), (0, u "(JJ)Z"), (2, u "law"), (0, u "(JIJI)Z")] 3

def k1m0 : Method := { name := "<init>", desc := "()V", sig := { parameters := [], returnType := none }, accessFlags := 1, code := none }
def k1c1 : Code := { maxStack := 5, maxLocals := 2, code := method_2_code, exceptionTable := #[], attributes := #[] }
def k1m1 : Method := { name := "pow10", desc := "(I)J", sig := { parameters := [.int], returnType := some .long }, accessFlags := 10, code := some k1c1 }
def k1c2 : Code := { maxStack := 6, maxLocals := 23, code := code, exceptionTable := #[], attributes := #[] }
def k1m2 : Method := { name := "law", desc := "(JIJI)Z", sig := { parameters := [.long, .int, .long, .int], returnType := some .boolean }, accessFlags := 9, code := some k1c2 }
/-- com/example/vestwright/vestwright/input/DigitsIsAbovePinLaw -/
def k1 : Class := { plain "com/example/vestwright/vestwright/input/DigitsIsAbovePinLaw" (some 0) with
  accessFlags := 49
  interfaces := #[]
  cf := some (fileOf pool1 41 #[] #[{ accessFlags := 1, nameIndex := 5, descriptorIndex := 6, attributes := #[] }, { accessFlags := 10, nameIndex := 44, descriptorIndex := 45, attributes := #[] }, { accessFlags := 9, nameIndex := 66, descriptorIndex := 67, attributes := #[] }] 49 2 #[] #[])
  fields := #[]
  methods := #[k1m0, k1m1, k1m2]
  instanceTypes := #[]
  staticTypes := #[]
  resolved := Array.replicate 71 none
  statics := none }

def pool2 : Array CpInfo := pool [(1, .class_ 2), (0, u "com/example/vestwright/vestwright/input/Digits"), (1, .class_ 6), (1, u "java/lang/Object"), (0, u "<init>"), (0, u "()V"), (37, .long 10), (3, .long 31), (5, u "NOT_PLAIN"), (0, u "J"), (1, u "TOO_LONG"), (0, u "DECIMAL_BITS"), (0, u "I"), (1, u "DECIMALS_MASK"), (0, u "PACKED_DIGITS"), (10, u "isAbove"), (0, u "(JJ)Z")] 4

def k2m0 : Method := { name := "<init>", desc := "()V", sig := { parameters := [], returnType := none }, accessFlags := 2, code := none }
def k2c1 : Code := { maxStack := 4, maxLocals := 11, code := prog_123_method_6_code, exceptionTable := #[], attributes := #[] }
def k2m1 : Method := { name := "isAbove", desc := "(JJ)Z", sig := { parameters := [.long, .long], returnType := some .boolean }, accessFlags := 8, code := some k2c1 }
/-- com/example/vestwright/vestwright/input/Digits -/
def k2 : Class := { plain "com/example/vestwright/vestwright/input/Digits" (some 0) with
  accessFlags := 48
  interfaces := #[]
  cf := some (fileOf pool2 1 #[] #[{ accessFlags := 2, nameIndex := 7, descriptorIndex := 8, attributes := #[] }, { accessFlags := 8, nameIndex := 75, descriptorIndex := 76, attributes := #[] }] 48 4 #[] #[{ accessFlags := 24, nameIndex := 56, descriptorIndex := 57, attributes := #[] }, { accessFlags := 24, nameIndex := 59, descriptorIndex := 57, attributes := #[] }, { accessFlags := 26, nameIndex := 60, descriptorIndex := 61, attributes := #[] }, { accessFlags := 26, nameIndex := 63, descriptorIndex := 57, attributes := #[] }, { accessFlags := 26, nameIndex := 64, descriptorIndex := 61, attributes := #[] }])
  fields := #[{ name := "NOT_PLAIN", type := .long, accessFlags := 24, slot := 0, constantValue := 0 }, { name := "TOO_LONG", type := .long, accessFlags := 24, slot := 1, constantValue := 0 }, { name := "DECIMAL_BITS", type := .int, accessFlags := 26, slot := 2, constantValue := 0 }, { name := "DECIMALS_MASK", type := .long, accessFlags := 26, slot := 3, constantValue := 0 }, { name := "PACKED_DIGITS", type := .int, accessFlags := 26, slot := 4, constantValue := 0 }]
  methods := #[k2m0, k2m1]
  instanceTypes := #[]
  staticTypes := #[.long, .long, .int, .long, .int]
  resolved := Array.replicate 81 none
  statics := none }

def pool3 : Array CpInfo := pool [(1, .class_ 2), (0, u "java/lang/Math"), (1, .class_ 6), (1, u "java/lang/Object"), (0, u "<init>"), (0, u "()V"), (89, .class_ 100), (1, u "java/lang/Math$RandomNumberGeneratorHolder"), (20, u "(JJ)J"), (50, u "negativeZeroFloatBits"), (0, u "J"), (2, u "negativeZeroDoubleBits"), (21, u "max"), (46, u "$assertionsDisabled"), (0, u "Z"), (91, u "twoToTheDoubleScaleDown"), (0, u "D"), (4, u "twoToTheDoubleScaleUp"), (9, u "E"), (3, u "PI"), (2, u "TAU"), (2, u "DEGREES_TO_RADIANS"), (0, u "RADIANS_TO_DEGREES")] 94

def k3m0 : Method := { name := "<init>", desc := "()V", sig := { parameters := [], returnType := none }, accessFlags := 2, code := none }
def k3c1 : Code := { maxStack := 4, maxLocals := 4, code := jdk_29_method_66_code, exceptionTable := #[], attributes := #[] }
def k3m1 : Method := { name := "max", desc := "(JJ)J", sig := { parameters := [.long, .long], returnType := some .long }, accessFlags := 9, code := some k3c1 }
/-- java/lang/Math -/
def k3 : Class := { plain "java/lang/Math" (some 0) with
  accessFlags := 49
  interfaces := #[]
  cf := some (fileOf pool3 1 #[.nestMembers #[98]] #[{ accessFlags := 2, nameIndex := 7, descriptorIndex := 8, attributes := #[] }, { accessFlags := 9, nameIndex := 198, descriptorIndex := 121, attributes := #[] }] 49 4 #[] #[{ accessFlags := 25, nameIndex := 354, descriptorIndex := 339, attributes := #[] }, { accessFlags := 25, nameIndex := 358, descriptorIndex := 339, attributes := #[] }, { accessFlags := 25, nameIndex := 361, descriptorIndex := 339, attributes := #[] }, { accessFlags := 26, nameIndex := 364, descriptorIndex := 339, attributes := #[] }, { accessFlags := 26, nameIndex := 365, descriptorIndex := 339, attributes := #[] }, { accessFlags := 26, nameIndex := 172, descriptorIndex := 173, attributes := #[] }, { accessFlags := 26, nameIndex := 176, descriptorIndex := 173, attributes := #[] }, { accessFlags := 8, nameIndex := 344, descriptorIndex := 339, attributes := #[] }, { accessFlags := 8, nameIndex := 338, descriptorIndex := 339, attributes := #[] }, { accessFlags := 4120, nameIndex := 245, descriptorIndex := 246, attributes := #[] }])
  fields := #[{ name := "E", type := .double, accessFlags := 25, slot := 0, constantValue := 0 }, { name := "PI", type := .double, accessFlags := 25, slot := 1, constantValue := 0 }, { name := "TAU", type := .double, accessFlags := 25, slot := 2, constantValue := 0 }, { name := "DEGREES_TO_RADIANS", type := .double, accessFlags := 26, slot := 3, constantValue := 0 }, { name := "RADIANS_TO_DEGREES", type := .double, accessFlags := 26, slot := 4, constantValue := 0 }, { name := "negativeZeroFloatBits", type := .long, accessFlags := 26, slot := 5, constantValue := 0 }, { name := "negativeZeroDoubleBits", type := .long, accessFlags := 26, slot := 6, constantValue := 0 }, { name := "twoToTheDoubleScaleUp", type := .double, accessFlags := 8, slot := 7, constantValue := 0 }, { name := "twoToTheDoubleScaleDown", type := .double, accessFlags := 8, slot := 8, constantValue := 0 }, { name := "$assertionsDisabled", type := .boolean, accessFlags := 4120, slot := 9, constantValue := 0 }]
  methods := #[k3m0, k3m1]
  instanceTypes := #[]
  staticTypes := #[.double, .double, .double, .double, .double, .long, .long, .double, .double, .boolean]
  resolved := Array.replicate 460 none
  statics := none }

def pool4 : Array CpInfo := pool [(1, u "java/lang/Cloneable"), (0, .class_ 1), (0, u "java/lang/Object"), (0, .class_ 3)] 3

/-- java/lang/Cloneable -/
def k4 : Class := { plain "java/lang/Cloneable" (some 0) with
  accessFlags := 1537
  interfaces := #[]
  cf := some (fileOf pool4 2 #[] #[] 1537 4 #[] #[])
  fields := #[]
  methods := #[]
  instanceTypes := #[]
  staticTypes := #[]
  resolved := Array.replicate 8 none
  statics := none }

def pool5 : Array CpInfo := pool [(1, u "java/io/Serializable"), (0, .class_ 1), (0, u "java/lang/Object"), (0, .class_ 3)] 3

/-- java/io/Serializable -/
def k5 : Class := { plain "java/io/Serializable" (some 0) with
  accessFlags := 1537
  interfaces := #[]
  cf := some (fileOf pool5 2 #[] #[] 1537 4 #[] #[])
  fields := #[]
  methods := #[]
  instanceTypes := #[]
  staticTypes := #[]
  resolved := Array.replicate 8 none
  statics := none }

/-- the primitive byte -/
def k6 : Class := { plain "byte" none with kind := .primitive 'B', accessFlags := 0x411 }
/-- [B -/
def k7 : Class := { plain "[B" (some 0) with kind := .array 6 .byte, interfaces := #[4, 5], accessFlags := 1041 }

/-- the primitive int -/
def k8 : Class := { plain "int" none with kind := .primitive 'I', accessFlags := 0x411 }
/-- [I -/
def k9 : Class := { plain "[I" (some 0) with kind := .array 8 .int, interfaces := #[4, 5], accessFlags := 1041 }

/-- the primitive long -/
def k10 : Class := { plain "long" none with kind := .primitive 'J', accessFlags := 0x411 }
/-- [J -/
def k11 : Class := { plain "[J" (some 0) with kind := .array 10 .long, interfaces := #[4, 5], accessFlags := 1041 }

def heap : Heap := #[]
def classes : Array Class := #[k0, k1, k2, k3, k4, k5, k6, k7, k8, k9, k10, k11]
def interned : List (Array UInt16 × Addr) := []
def slotsUsed : Nat := 0
def theMethod : MethodId := ⟨1, 2⟩
def args0 : Array Value := #[.long 5, .int 9, .long 7, .int 3]
def aboutOver (below : List Frame) : State where
  vm := { classes := classes, interned := interned.toArray }
  heap := heap
  slotsUsed := slotsUsed
  threads := #[{ frames := .invoking theMethod args0 :: below }]
def below0 : List Frame := [.native { method := ⟨0, 0⟩, args := #[] }]
def about1 : State := aboutOver below0
def p0 : Program := .bare "" "" ""
def e0 : Env := launch0.env 0 0 0
theorem w_frames : about1.frames = Frame.invoking theMethod args0 :: below0 := rfl
set_option maxRecDepth 65536 in
theorem w_args : argsFit about1.vm theMethod args0 = true := by decide +kernel
set_option maxRecDepth 65536 in
theorem w_heap : heapFits about1 = true := by decide +kernel
set_option maxRecDepth 65536 in
theorem w_runnable : about1.curStatus? = some .runnable := by decide +kernel
set_option maxRecDepth 65536 in
theorem w_alone : about1.alone = true := by decide +kernel
set_option maxRecDepth 65536 in
theorem w_named : about1.methodNamed? x = some theMethod := by decide +kernel
set_option maxRecDepth 65536 in
theorem w_hears : about1.hears theMethod below0 = true := by decide +kernel
set_option maxRecDepth 65536 in
theorem w_ripe : about1.ripe theMethod args0 below0 = true := by decide +kernel
theorem w_running : about1.status = .running := rfl
set_option maxRecDepth 65536 in
theorem w_room : about1.hasRoom e0.platform room_1 = true :=
  launch0.hasRoom_least _ room_1 (by decide +kernel) (by decide +kernel) (by decide +kernel) (by decide +kernel) (by decide +kernel) (by decide +kernel)
theorem allAtoms_all (ts : List Jvm.Cond) (a : Array Jvm.Value) (st : Jvm.State) : (allAtoms ts).before a st = ts.all (fun c => c.before a st) := by
  induction ts with
  | nil => rfl
  | cons c t ih =>
    show (Jvm.Cond.and c (allAtoms t)).before a st = _
    rw [Jvm.Cond.before_and, ih, List.all_cons]
def words1 : List Jvm.Cond := Jvm.Cond.code x code maxLocals ret :: tables_1
/-- a 'code' word, met by the world's own term for the bytes: nothing is compared byte by byte -/
theorem code_word {y : MethodName} {bytes : ByteArray} {mx : Nat} {rt : Option FieldType} {a : Array Value} {s : State} {m : MethodId} {meth : Method} {c : Code} (h1 : s.methodNamed? y = some m) (h2 : s.vm.method? m = some meth) (h3 : meth.code = some c) (h4 : c.code = bytes)
    (h5 : (c.maxLocals == mx && c.exceptionTable.isEmpty && decide (c.maxStack ≤ mostOperands) && decide (meth.sig.returnType = rt) && !meth.locks && decide (parseMethodDescriptor y.desc = some meth.sig)) = true) : (Jvm.Cond.code y bytes mx rt).before a s = true := by
  simp only [Bool.and_eq_true, beq_iff_eq, Bool.not_eq_true', decide_eq_true_eq] at h5
  obtain ⟨⟨⟨⟨⟨g1, g2⟩, g3⟩, g4⟩, g5⟩, g6⟩ := h5
  simp [Cond.before, Cond.holds, Cond.value, h1, h2, h3, h4, g1, g2, g3, g4, g5, g6]
def isCode : Jvm.Cond → Bool
  | .code _ _ _ _ => true
  | _ => false
theorem all_split {L : List Jvm.Cond} {P : Jvm.Cond → Bool} (h1 : L.all (fun c => isCode c || P c) = true) (h2 : ∀ c ∈ L.filter isCode, P c = true) : L.all P = true := by
  refine List.all_eq_true.mpr fun c hc => ?_
  have h := List.all_eq_true.mp h1 c hc
  rcases Bool.eq_false_or_eq_true (isCode c) with hi | hi
  · exact h2 c (List.mem_filter.mpr ⟨hc, hi⟩)
  · simpa [hi] using h
set_option maxRecDepth 65536 in
theorem w_c0 : (Jvm.Cond.code x code maxLocals ret).before args0 about1 = true := code_word (m := ⟨1, 2⟩) (meth := k1m2) (c := k1c2) (by decide +kernel) rfl rfl rfl (by decide +kernel)
set_option maxRecDepth 65536 in
theorem w_c1 : (Jvm.Cond.code ({ cls := "com/example/vestwright/vestwright/input/DigitsIsAbovePinLaw", name := "pow10", desc := "(I)J" } : Jvm.MethodName) method_2_code (2 : Nat) (Option.some Jvm.ClassFile.FieldType.long)).before args0 about1 = true := code_word (m := ⟨1, 1⟩) (meth := k1m1) (c := k1c1) (by decide +kernel) rfl rfl rfl (by decide +kernel)
set_option maxRecDepth 65536 in
theorem w_c2 : (Jvm.Cond.code ({ cls := "com/example/vestwright/vestwright/input/Digits", name := "isAbove", desc := "(JJ)Z" } : Jvm.MethodName) prog_123_method_6_code (11 : Nat) (Option.some Jvm.ClassFile.FieldType.boolean)).before args0 about1 = true := code_word (m := ⟨2, 1⟩) (meth := k2m1) (c := k2c1) (by decide +kernel) rfl rfl rfl (by decide +kernel)
set_option maxRecDepth 65536 in
theorem w_c3 : (Jvm.Cond.code ({ cls := "java/lang/Math", name := "max", desc := "(JJ)J" } : Jvm.MethodName) jdk_29_method_66_code (4 : Nat) (Option.some Jvm.ClassFile.FieldType.long)).before args0 about1 = true := code_word (m := ⟨3, 1⟩) (meth := k3m1) (c := k3c1) (by decide +kernel) rfl rfl rfl (by decide +kernel)
def codes1 : List Jvm.Cond := [Jvm.Cond.code x code maxLocals ret, Jvm.Cond.code ({ cls := "com/example/vestwright/vestwright/input/DigitsIsAbovePinLaw", name := "pow10", desc := "(I)J" } : Jvm.MethodName) method_2_code (2 : Nat) (Option.some Jvm.ClassFile.FieldType.long), Jvm.Cond.code ({ cls := "com/example/vestwright/vestwright/input/Digits", name := "isAbove", desc := "(JJ)Z" } : Jvm.MethodName) prog_123_method_6_code (11 : Nat) (Option.some Jvm.ClassFile.FieldType.boolean), Jvm.Cond.code ({ cls := "java/lang/Math", name := "max", desc := "(JJ)J" } : Jvm.MethodName) jdk_29_method_66_code (4 : Nat) (Option.some Jvm.ClassFile.FieldType.long)]
set_option maxRecDepth 65536 in
theorem codes_eq : words1.filter isCode = codes1 := rfl
theorem w_codes : ∀ c ∈ words1.filter isCode, c.before args0 about1 = true := by
  rw [codes_eq]
  intro c hc
  simp only [codes1, List.mem_cons, List.not_mem_nil, or_false] at hc
  rcases hc with rfl | rfl | rfl | rfl
  · exact w_c0
  · exact w_c1
  · exact w_c2
  · exact w_c3
set_option maxRecDepth 65536 in
theorem w_t1 : (words1.take 24).all (fun c => isCode c || c.before args0 about1) = true := by decide +kernel
set_option maxRecDepth 65536 in
theorem w_t2 : (words1.drop 24).all (fun c => isCode c || c.before args0 about1) = true := by decide +kernel
theorem w_tables : (allAtoms (Jvm.Cond.code x code maxLocals ret :: tables_1)).before args0 about1 = true := by
  rw [allAtoms_all]
  show words1.all (fun c => c.before args0 about1) = true
  refine all_split ?_ w_codes
  rw [← List.take_append_drop 24 words1, List.all_append, w_t1, w_t2]
  rfl
set_option maxRecDepth 65536 in
theorem w_case : (Jvm.Cond.and given_1 narrow_1).before args0 about1 = true := by decide +kernel
theorem w_applies : (headSpec (Jvm.Cond.code x code maxLocals ret :: tables_1) room_1).applies x e0.platform about1 = true :=
  (Spec.applies_iff w_frames).mpr ⟨w_running, w_runnable, w_alone, w_named, w_hears, w_ripe, w_room, w_tables⟩
theorem atStart : AtStart classFile x code maxLocals ret World_1 tables_1 room_1 Calls_1 rest_1 Pre_1 launch0 p0 e0 about1 theMethod args0 below0 :=
  ⟨lists_1, trivial, launch0.admits_env _ _ _, launch0.least_env, fairChoices_fair.cas, fairChoices_fair.clock, w_frames, w_args, w_heap, w_applies, trivial, trivial, w_case⟩
end start1
theorem witness_1 : WitnessClaimed_1 := ⟨start1.p0, start1.e0, start1.about1, start1.theMethod, start1.args0, start1.below0, start1.atStart⟩
end Jvm.Pilot.@@N@@
