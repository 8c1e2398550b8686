import JvmDerived
import JvmDerived.Pilot.@@N@@Statement
import JvmDerived.Pilot.@@N@@Code
set_option linter.unusedVariables false
set_option linter.unusedSimpArgs false
set_option maxRecDepth 65536
namespace Jvm.Pilot.@@N@@
open Jvm Jvm.ClassFile Sem Op Lib Jvm.Free Jvm.Stand Jvm.LawKit Jvm.RoadKit Bundle Jvm.Pilot.@@N@@.Jvm.D

section OwnKit
/-- a walk's fixed things: program, launch, environment, room, first state, method, arguments, frames below, the method, its code -/
abbrev own_B : Type := Program × Launch × Env × Room × State × MethodId × Array Value × List Frame × Method × Code
def own_Ok (B : own_B) (Z : State) (a0 : Array Value) (l0 : Launch) (R0 : Room) (y : MethodName) (code : ByteArray) (N : Nat) (ret : Option FieldType) : Prop :=
  match B with
  | (p, l, e, R, s, m, args, below, meth, c) => l = l0 ∧ R = R0 ∧ p.tables.exec = Jvm.exec ∧ Z.Warmed39 s.vm ∧ s.vm.findClass y.cls = some m.cls ∧ c.code = code ∧ c.maxLocals = N ∧ meth.sig.returnType = ret ∧ meth.locks = false ∧ meth.name = y.name ∧ (∀ (i : Nat) (d : Jvm.Cond), tables_1[i]? = some d → d.before a0 Z = true)
/-- the rest of the walk ends well -/
def own_Fin (p : Program) (e : Env) (below : List Frame) (s : State) (n0 : Nat) (Q : Option Value → Heap → Prop) (kc ks : Nat) (A : State) : Prop :=
  ∃ s₂ o, Steps p.tables e below A s₂ ∧ s₂.status = .running ∧ Ended s₂ below o ∧ ∃ v L, o = .returned v ∧ (Q v s₂.heap ∧ Fr n0 L) ∧ FrameEnd s o s₂ L kc ks
theorem own_go {p : Program} {e : Env} {below : List Frame} {s : State} {n0 : Nat} {Q : Option Value → Heap → Prop} {kc ks : Nat} {A A' : State} (st : ∀ t, Steps p.tables e below A' t → Steps p.tables e below A t) (k : own_Fin p e below s n0 Q kc ks A') : own_Fin p e below s n0 Q kc ks A := by
  obtain ⟨s2, o, h1, r⟩ := k
  exact ⟨s2, o, st _ h1, r⟩
/-- from this point (heap h, at most so many cells and slots made, pc, locals, stack) the walk ends in Q -/
def own_G (B : own_B) (n0 : Nat) (Q : Option Value → Heap → Prop) (kc ks cells slots : Nat) (h : Heap) (pc : Nat) (Ls : Array Slot) (st : List Value) : Prop :=
  match B with
  | (p, l, e, R, s, m, args, below, meth, c) => ∀ (T : State) (locs : List Loc) (c1 s1 : Nat), Stand p l e R s m args below meth c T locs c1 s1 → Fr n0 locs → c1 ≤ cells → s1 ≤ slots → T.heap = h → own_Fin p e below s n0 Q kc ks (T.setTop (mkF m pc Ls st))
/-- a method's contract -/
def own_Met (l : Launch) (Z : State) (ws : List Jvm.Cond) (y : MethodName) (bytes : ByteArray) (maxL : Nat) (ret : Option FieldType) (rm : Room) (as : Array Value) (h : Heap) (n0 kc ks : Nat) (Q : Option Value → Heap → Prop) : Prop :=
  MetFree l y (head1 (Jvm.Cond.code y bytes maxL ret :: ws) rm) (fun a U => a = as ∧ Z.Warmed39 U.vm ∧ U.heap = h) (fun _ _ _ _ _ => True) (fun _ U o U' => ∃ v L, o = .returned v ∧ (Q v U'.heap ∧ Fr n0 L) ∧ FrameEnd U o U' L kc ks)
/-- a callee's contract -/
abbrev own_C (l : Launch) (Z : State) (y : MethodName) (bytes : ByteArray) (maxL : Nat) (ret : Option FieldType) (rm : Room) (as : Array Value) (h : Heap) (n0 : Nat) (Q : Option Value → Heap → Prop) : Prop := own_Met l Z [] y bytes maxL ret rm as h n0 rm.cells rm.slots Q
/-- a callee that returns w and leaves the heap -/
abbrev own_P (l : Launch) (Z : State) (y : MethodName) (bytes : ByteArray) (maxL : Nat) (ret : Option FieldType) (rm : Room) (as : Array Value) (h : Heap) (n0 : Nat) (w : Value) : Prop := own_C l Z y bytes maxL ret rm as h n0 (fun v h' => v = some w ∧ h = h')
abbrev own_rm (f lo : Nat) : Room := { frames := f, cells := 0, slots := 0, locals := lo }
theorem own_met {l : Launch} {Z : State} {a0 : Array Value} {ws : List Jvm.Cond} {y : MethodName} {bytes : ByteArray} {maxL : Nat} {ret : Option FieldType} {rm : Room} {as : Array Value} {h : Heap} {n0 kc ks : Nat} {Q : Option Value → Heap → Prop} {Ls : Array Slot}
    (hw : ∀ (i : Nat) (d : Jvm.Cond), tables_1[i]? = some d → d.before a0 Z = true) (hpl : plainFor y = true) (hef : ∀ m, entryFrame m as maxL = mkF m 0 Ls [])
    (body : ∀ B : own_B, own_Ok B Z a0 l rm y bytes maxL ret → own_G B n0 Q kc ks 0 0 h 0 Ls []) : own_Met l Z ws y bytes maxL ret rm as h n0 kc ks Q := by
  refine MetFree.of_bodySF hpl hisR ?_
  intro p e s m args below meth c s₁ Bd hml0 hP hK
  obtain ⟨rfl, hZ, hh⟩ := hP
  have X0 := Stand.of_body Bd
  have e0 : s₁.heap = h := by rw [← hh, Bd.state]; rfl
  have q := body (p, l, e, rm, s, m, args, below, meth, c) ⟨rfl, rfl, Bd.exec, hZ, findClass_of_methodNamed Bd.named, Bd.bytes, hml0, Bd.returns, Bd.notSynchronized, (name_of_methodNamed Bd.named Bd.method).1, hw⟩ s₁ [] 0 0 X0 (Fr.nil n0) (Nat.le_refl _) (Nat.le_refl _) e0
  rw [hef m]
  exact q
section Laws
variable {B : own_B} {Z : State} {a0 : Array Value} {l : Launch} {R : Room} {y : MethodName} {code : ByteArray} {N : Nat} {ret : Option FieldType} {n0 : Nat} {Q : Option Value → Heap → Prop} {kc ks cells slots : Nat} {h : Heap} {pc pc' : Nat} {Ls Ls' : Array Slot} {st : List Value}
theorem own_mono {cells' slots' : Nat} (hc : cells ≤ cells') (hs : slots ≤ slots') (k : own_G B n0 Q kc ks cells' slots' h pc Ls st) : own_G B n0 Q kc ks cells slots h pc Ls st := by
  obtain ⟨p, l, e, R, s, m, args, below, meth, c⟩ := B
  intro T locs c1 s1 X F q1 q2 eT
  exact k T locs c1 s1 X F (Nat.le_trans q1 hc) (Nat.le_trans q2 hs) eT
theorem own_cut (pc' : Nat) (Ls' : Array Slot) (st' : List Value) (f : own_G B n0 Q kc ks cells slots h pc' Ls' st' → own_G B n0 Q kc ks cells slots h pc Ls st) (k : own_G B n0 Q kc ks cells slots h pc' Ls' st') : own_G B n0 Q kc ks cells slots h pc Ls st := f k
theorem own_cast {Ls' : Array Slot} {st' : List Value} (hL : Ls = Ls') (hS : st = st') (k : own_G B n0 Q kc ks cells slots h pc Ls' st') : own_G B n0 Q kc ks cells slots h pc Ls st := by
  subst hL hS
  exact k
theorem own_w (H : own_Ok B Z a0 l R y code N ret) {i : Nat} {d : Jvm.Cond} (q : tables_1[i]? = some d) : d.before a0 Z = true := by
  obtain ⟨p, l, e, R, s, m, args, below, meth, c⟩ := B
  exact H.2.2.2.2.2.2.2.2.2.2 i d q
theorem own_hw (H : own_Ok B Z a0 l R y code N ret) : ∀ (i : Nat) (d : Jvm.Cond), tables_1[i]? = some d → d.before a0 Z = true := by
  obtain ⟨p, l, e, R, s, m, args, below, meth, c⟩ := B
  exact H.2.2.2.2.2.2.2.2.2.2
theorem own_iadd (H : own_Ok B Z a0 l R y code N ret) {x z v : Int32} (hv : x + z = v) (hd : decode code pc = .ok (.iadd, 1)) (k : own_G B n0 Q kc ks cells slots h (pc + 1) Ls (.int v :: st)) : own_G B n0 Q kc ks cells slots h pc Ls (.int z :: .int x :: st) := by
  subst hv
  obtain ⟨p, l, e, R, s, m, args, below, meth, c⟩ := B
  obtain ⟨rfl, rfl, hx, hZ, hown, hby, hml, hrt, hlk, hnm, hw⟩ := H
  intro T locs c1 s1 X F hc hs eT
  exact own_go (fun t q => XS.iadd X.here hx rfl (hb hby hd) rfl q) (k T locs c1 s1 X F hc hs eT)
theorem own_isub (H : own_Ok B Z a0 l R y code N ret) {x z v : Int32} (hv : x - z = v) (hd : decode code pc = .ok (.isub, 1)) (k : own_G B n0 Q kc ks cells slots h (pc + 1) Ls (.int v :: st)) : own_G B n0 Q kc ks cells slots h pc Ls (.int z :: .int x :: st) := by
  subst hv
  obtain ⟨p, l, e, R, s, m, args, below, meth, c⟩ := B
  obtain ⟨rfl, rfl, hx, hZ, hown, hby, hml, hrt, hlk, hnm, hw⟩ := H
  intro T locs c1 s1 X F hc hs eT
  exact own_go (fun t q => XS.isub X.here hx rfl (hb hby hd) rfl q) (k T locs c1 s1 X F hc hs eT)
theorem own_imul (H : own_Ok B Z a0 l R y code N ret) {x z v : Int32} (hv : x * z = v) (hd : decode code pc = .ok (.imul, 1)) (k : own_G B n0 Q kc ks cells slots h (pc + 1) Ls (.int v :: st)) : own_G B n0 Q kc ks cells slots h pc Ls (.int z :: .int x :: st) := by
  subst hv
  obtain ⟨p, l, e, R, s, m, args, below, meth, c⟩ := B
  obtain ⟨rfl, rfl, hx, hZ, hown, hby, hml, hrt, hlk, hnm, hw⟩ := H
  intro T locs c1 s1 X F hc hs eT
  exact own_go (fun t q => XS.imul X.here hx rfl (hb hby hd) rfl q) (k T locs c1 s1 X F hc hs eT)
theorem own_iand (H : own_Ok B Z a0 l R y code N ret) {x z v : Int32} (hv : x &&& z = v) (hd : decode code pc = .ok (.iand, 1)) (k : own_G B n0 Q kc ks cells slots h (pc + 1) Ls (.int v :: st)) : own_G B n0 Q kc ks cells slots h pc Ls (.int z :: .int x :: st) := by
  subst hv
  obtain ⟨p, l, e, R, s, m, args, below, meth, c⟩ := B
  obtain ⟨rfl, rfl, hx, hZ, hown, hby, hml, hrt, hlk, hnm, hw⟩ := H
  intro T locs c1 s1 X F hc hs eT
  exact own_go (fun t q => XS.iand X.here hx rfl (hb hby hd) rfl q) (k T locs c1 s1 X F hc hs eT)
theorem own_ior (H : own_Ok B Z a0 l R y code N ret) {x z v : Int32} (hv : x ||| z = v) (hd : decode code pc = .ok (.ior, 1)) (k : own_G B n0 Q kc ks cells slots h (pc + 1) Ls (.int v :: st)) : own_G B n0 Q kc ks cells slots h pc Ls (.int z :: .int x :: st) := by
  subst hv
  obtain ⟨p, l, e, R, s, m, args, below, meth, c⟩ := B
  obtain ⟨rfl, rfl, hx, hZ, hown, hby, hml, hrt, hlk, hnm, hw⟩ := H
  intro T locs c1 s1 X F hc hs eT
  exact own_go (fun t q => XT.ior X.here hx rfl (hb hby hd) rfl q) (k T locs c1 s1 X F hc hs eT)
theorem own_ixor (H : own_Ok B Z a0 l R y code N ret) {x z v : Int32} (hv : x ^^^ z = v) (hd : decode code pc = .ok (.ixor, 1)) (k : own_G B n0 Q kc ks cells slots h (pc + 1) Ls (.int v :: st)) : own_G B n0 Q kc ks cells slots h pc Ls (.int z :: .int x :: st) := by
  subst hv
  obtain ⟨p, l, e, R, s, m, args, below, meth, c⟩ := B
  obtain ⟨rfl, rfl, hx, hZ, hown, hby, hml, hrt, hlk, hnm, hw⟩ := H
  intro T locs c1 s1 X F hc hs eT
  exact own_go (fun t q => XT.ixor X.here hx rfl (hb hby hd) rfl q) (k T locs c1 s1 X F hc hs eT)
theorem own_ishl (H : own_Ok B Z a0 l R y code N ret) {x z v : Int32} (hv : x <<< (z &&& 31) = v) (hd : decode code pc = .ok (.ishl, 1)) (k : own_G B n0 Q kc ks cells slots h (pc + 1) Ls (.int v :: st)) : own_G B n0 Q kc ks cells slots h pc Ls (.int z :: .int x :: st) := by
  subst hv
  obtain ⟨p, l, e, R, s, m, args, below, meth, c⟩ := B
  obtain ⟨rfl, rfl, hx, hZ, hown, hby, hml, hrt, hlk, hnm, hw⟩ := H
  intro T locs c1 s1 X F hc hs eT
  exact own_go (fun t q => XT.ishl X.here hx rfl (hb hby hd) rfl q) (k T locs c1 s1 X F hc hs eT)
theorem own_ishr (H : own_Ok B Z a0 l R y code N ret) {x z v : Int32} (hv : x >>> (z &&& 31) = v) (hd : decode code pc = .ok (.ishr, 1)) (k : own_G B n0 Q kc ks cells slots h (pc + 1) Ls (.int v :: st)) : own_G B n0 Q kc ks cells slots h pc Ls (.int z :: .int x :: st) := by
  subst hv
  obtain ⟨p, l, e, R, s, m, args, below, meth, c⟩ := B
  obtain ⟨rfl, rfl, hx, hZ, hown, hby, hml, hrt, hlk, hnm, hw⟩ := H
  intro T locs c1 s1 X F hc hs eT
  exact own_go (fun t q => XT.ishr X.here hx rfl (hb hby hd) rfl q) (k T locs c1 s1 X F hc hs eT)
theorem own_iushr (H : own_Ok B Z a0 l R y code N ret) {x z v : Int32} (hv : XT.ushr x z = v) (hd : decode code pc = .ok (.iushr, 1)) (k : own_G B n0 Q kc ks cells slots h (pc + 1) Ls (.int v :: st)) : own_G B n0 Q kc ks cells slots h pc Ls (.int z :: .int x :: st) := by
  subst hv
  obtain ⟨p, l, e, R, s, m, args, below, meth, c⟩ := B
  obtain ⟨rfl, rfl, hx, hZ, hown, hby, hml, hrt, hlk, hnm, hw⟩ := H
  intro T locs c1 s1 X F hc hs eT
  exact own_go (fun t q => XT.iushr X.here hx rfl (hb hby hd) rfl q) (k T locs c1 s1 X F hc hs eT)
theorem own_ladd (H : own_Ok B Z a0 l R y code N ret) {x z v : Int64} (hv : x + z = v) (hd : decode code pc = .ok (.ladd, 1)) (k : own_G B n0 Q kc ks cells slots h (pc + 1) Ls (.long v :: st)) : own_G B n0 Q kc ks cells slots h pc Ls (.long z :: .long x :: st) := by
  subst hv
  obtain ⟨p, l, e, R, s, m, args, below, meth, c⟩ := B
  obtain ⟨rfl, rfl, hx, hZ, hown, hby, hml, hrt, hlk, hnm, hw⟩ := H
  intro T locs c1 s1 X F hc hs eT
  exact own_go (fun t q => XT.ladd X.here hx rfl (hb hby hd) rfl q) (k T locs c1 s1 X F hc hs eT)
theorem own_lsub (H : own_Ok B Z a0 l R y code N ret) {x z v : Int64} (hv : x - z = v) (hd : decode code pc = .ok (.lsub, 1)) (k : own_G B n0 Q kc ks cells slots h (pc + 1) Ls (.long v :: st)) : own_G B n0 Q kc ks cells slots h pc Ls (.long z :: .long x :: st) := by
  subst hv
  obtain ⟨p, l, e, R, s, m, args, below, meth, c⟩ := B
  obtain ⟨rfl, rfl, hx, hZ, hown, hby, hml, hrt, hlk, hnm, hw⟩ := H
  intro T locs c1 s1 X F hc hs eT
  exact own_go (fun t q => XT.lsub X.here hx rfl (hb hby hd) rfl q) (k T locs c1 s1 X F hc hs eT)
theorem own_lmul (H : own_Ok B Z a0 l R y code N ret) {x z v : Int64} (hv : x * z = v) (hd : decode code pc = .ok (.lmul, 1)) (k : own_G B n0 Q kc ks cells slots h (pc + 1) Ls (.long v :: st)) : own_G B n0 Q kc ks cells slots h pc Ls (.long z :: .long x :: st) := by
  subst hv
  obtain ⟨p, l, e, R, s, m, args, below, meth, c⟩ := B
  obtain ⟨rfl, rfl, hx, hZ, hown, hby, hml, hrt, hlk, hnm, hw⟩ := H
  intro T locs c1 s1 X F hc hs eT
  exact own_go (fun t q => XT.lmul X.here hx rfl (hb hby hd) rfl q) (k T locs c1 s1 X F hc hs eT)
theorem own_land (H : own_Ok B Z a0 l R y code N ret) {x z v : Int64} (hv : x &&& z = v) (hd : decode code pc = .ok (.land, 1)) (k : own_G B n0 Q kc ks cells slots h (pc + 1) Ls (.long v :: st)) : own_G B n0 Q kc ks cells slots h pc Ls (.long z :: .long x :: st) := by
  subst hv
  obtain ⟨p, l, e, R, s, m, args, below, meth, c⟩ := B
  obtain ⟨rfl, rfl, hx, hZ, hown, hby, hml, hrt, hlk, hnm, hw⟩ := H
  intro T locs c1 s1 X F hc hs eT
  exact own_go (fun t q => XT.land X.here hx rfl (hb hby hd) rfl q) (k T locs c1 s1 X F hc hs eT)
theorem own_lor (H : own_Ok B Z a0 l R y code N ret) {x z v : Int64} (hv : x ||| z = v) (hd : decode code pc = .ok (.lor, 1)) (k : own_G B n0 Q kc ks cells slots h (pc + 1) Ls (.long v :: st)) : own_G B n0 Q kc ks cells slots h pc Ls (.long z :: .long x :: st) := by
  subst hv
  obtain ⟨p, l, e, R, s, m, args, below, meth, c⟩ := B
  obtain ⟨rfl, rfl, hx, hZ, hown, hby, hml, hrt, hlk, hnm, hw⟩ := H
  intro T locs c1 s1 X F hc hs eT
  exact own_go (fun t q => XT.lor X.here hx rfl (hb hby hd) rfl q) (k T locs c1 s1 X F hc hs eT)
theorem own_lxor (H : own_Ok B Z a0 l R y code N ret) {x z v : Int64} (hv : x ^^^ z = v) (hd : decode code pc = .ok (.lxor, 1)) (k : own_G B n0 Q kc ks cells slots h (pc + 1) Ls (.long v :: st)) : own_G B n0 Q kc ks cells slots h pc Ls (.long z :: .long x :: st) := by
  subst hv
  obtain ⟨p, l, e, R, s, m, args, below, meth, c⟩ := B
  obtain ⟨rfl, rfl, hx, hZ, hown, hby, hml, hrt, hlk, hnm, hw⟩ := H
  intro T locs c1 s1 X F hc hs eT
  exact own_go (fun t q => XT.lxor X.here hx rfl (hb hby hd) rfl q) (k T locs c1 s1 X F hc hs eT)
theorem own_idiv (H : own_Ok B Z a0 l R y code N ret) {x z v : Int32} (hv : x / z = v) (hd : decode code pc = .ok (.idiv, 1)) (hz : z ≠ 0) (k : own_G B n0 Q kc ks cells slots h (pc + 1) Ls (.int v :: st)) : own_G B n0 Q kc ks cells slots h pc Ls (.int z :: .int x :: st) := by
  subst hv
  obtain ⟨p, l, e, R, s, m, args, below, meth, c⟩ := B
  obtain ⟨rfl, rfl, hx, hZ, hown, hby, hml, hrt, hlk, hnm, hw⟩ := H
  intro T locs c1 s1 X F hc hs eT
  exact own_go (fun t q => XS.idiv X.here hx rfl (hb hby hd) rfl hz q) (k T locs c1 s1 X F hc hs eT)
theorem own_irem (H : own_Ok B Z a0 l R y code N ret) {x z v : Int32} (hv : x % z = v) (hd : decode code pc = .ok (.irem, 1)) (hz : z ≠ 0) (k : own_G B n0 Q kc ks cells slots h (pc + 1) Ls (.int v :: st)) : own_G B n0 Q kc ks cells slots h pc Ls (.int z :: .int x :: st) := by
  subst hv
  obtain ⟨p, l, e, R, s, m, args, below, meth, c⟩ := B
  obtain ⟨rfl, rfl, hx, hZ, hown, hby, hml, hrt, hlk, hnm, hw⟩ := H
  intro T locs c1 s1 X F hc hs eT
  exact own_go (fun t q => iremM X hx rfl (hb hby hd) rfl hz q) (k T locs c1 s1 X F hc hs eT)
theorem own_ldiv (H : own_Ok B Z a0 l R y code N ret) {x z v : Int64} (hv : x / z = v) (hd : decode code pc = .ok (.ldiv, 1)) (hz : z ≠ 0) (k : own_G B n0 Q kc ks cells slots h (pc + 1) Ls (.long v :: st)) : own_G B n0 Q kc ks cells slots h pc Ls (.long z :: .long x :: st) := by
  subst hv
  obtain ⟨p, l, e, R, s, m, args, below, meth, c⟩ := B
  obtain ⟨rfl, rfl, hx, hZ, hown, hby, hml, hrt, hlk, hnm, hw⟩ := H
  intro T locs c1 s1 X F hc hs eT
  exact own_go (fun t q => XT.ldiv X.here hx rfl (hb hby hd) rfl hz q) (k T locs c1 s1 X F hc hs eT)
theorem own_lrem (H : own_Ok B Z a0 l R y code N ret) {x z v : Int64} (hv : x - x / z * z = v) (hd : decode code pc = .ok (.lrem, 1)) (hz : z ≠ 0) (k : own_G B n0 Q kc ks cells slots h (pc + 1) Ls (.long v :: st)) : own_G B n0 Q kc ks cells slots h pc Ls (.long z :: .long x :: st) := by
  subst hv
  obtain ⟨p, l, e, R, s, m, args, below, meth, c⟩ := B
  obtain ⟨rfl, rfl, hx, hZ, hown, hby, hml, hrt, hlk, hnm, hw⟩ := H
  intro T locs c1 s1 X F hc hs eT
  exact own_go (fun t q => XT.lrem X.here hx rfl (hb hby hd) rfl hz q) (k T locs c1 s1 X F hc hs eT)
theorem own_lshl (H : own_Ok B Z a0 l R y code N ret) {x v : Int64} {z : Int32} (hv : x <<< (z.toInt64 &&& 63) = v) (hd : decode code pc = .ok (.lshl, 1)) (k : own_G B n0 Q kc ks cells slots h (pc + 1) Ls (.long v :: st)) : own_G B n0 Q kc ks cells slots h pc Ls (.int z :: .long x :: st) := by
  subst hv
  obtain ⟨p, l, e, R, s, m, args, below, meth, c⟩ := B
  obtain ⟨rfl, rfl, hx, hZ, hown, hby, hml, hrt, hlk, hnm, hw⟩ := H
  intro T locs c1 s1 X F hc hs eT
  exact own_go (fun t q => XT.lshl X.here hx rfl (hb hby hd) rfl q) (k T locs c1 s1 X F hc hs eT)
theorem own_lshr (H : own_Ok B Z a0 l R y code N ret) {x v : Int64} {z : Int32} (hv : x >>> (z.toInt64 &&& 63) = v) (hd : decode code pc = .ok (.lshr, 1)) (k : own_G B n0 Q kc ks cells slots h (pc + 1) Ls (.long v :: st)) : own_G B n0 Q kc ks cells slots h pc Ls (.int z :: .long x :: st) := by
  subst hv
  obtain ⟨p, l, e, R, s, m, args, below, meth, c⟩ := B
  obtain ⟨rfl, rfl, hx, hZ, hown, hby, hml, hrt, hlk, hnm, hw⟩ := H
  intro T locs c1 s1 X F hc hs eT
  exact own_go (fun t q => XT.lshr X.here hx rfl (hb hby hd) rfl q) (k T locs c1 s1 X F hc hs eT)
theorem own_lushr (H : own_Ok B Z a0 l R y code N ret) {x v : Int64} {z : Int32} (hv : XT.ushrL x z = v) (hd : decode code pc = .ok (.lushr, 1)) (k : own_G B n0 Q kc ks cells slots h (pc + 1) Ls (.long v :: st)) : own_G B n0 Q kc ks cells slots h pc Ls (.int z :: .long x :: st) := by
  subst hv
  obtain ⟨p, l, e, R, s, m, args, below, meth, c⟩ := B
  obtain ⟨rfl, rfl, hx, hZ, hown, hby, hml, hrt, hlk, hnm, hw⟩ := H
  intro T locs c1 s1 X F hc hs eT
  exact own_go (fun t q => XT.lushr X.here hx rfl (hb hby hd) rfl q) (k T locs c1 s1 X F hc hs eT)
theorem own_ineg (H : own_Ok B Z a0 l R y code N ret) {x : Int32} {v : Int32} (hv : -x = v) (hd : decode code pc = .ok (.ineg, 1)) (k : own_G B n0 Q kc ks cells slots h (pc + 1) Ls (.int v :: st)) : own_G B n0 Q kc ks cells slots h pc Ls (.int x :: st) := by
  subst hv
  obtain ⟨p, l, e, R, s, m, args, below, meth, c⟩ := B
  obtain ⟨rfl, rfl, hx, hZ, hown, hby, hml, hrt, hlk, hnm, hw⟩ := H
  intro T locs c1 s1 X F hc hs eT
  exact own_go (fun t q => XS.ineg X.here hx rfl (hb hby hd) rfl q) (k T locs c1 s1 X F hc hs eT)
theorem own_lneg (H : own_Ok B Z a0 l R y code N ret) {x : Int64} {v : Int64} (hv : -x = v) (hd : decode code pc = .ok (.lneg, 1)) (k : own_G B n0 Q kc ks cells slots h (pc + 1) Ls (.long v :: st)) : own_G B n0 Q kc ks cells slots h pc Ls (.long x :: st) := by
  subst hv
  obtain ⟨p, l, e, R, s, m, args, below, meth, c⟩ := B
  obtain ⟨rfl, rfl, hx, hZ, hown, hby, hml, hrt, hlk, hnm, hw⟩ := H
  intro T locs c1 s1 X F hc hs eT
  exact own_go (fun t q => XT.lneg X.here hx rfl (hb hby hd) rfl q) (k T locs c1 s1 X F hc hs eT)
theorem own_i2l (H : own_Ok B Z a0 l R y code N ret) {x : Int32} {v : Int64} (hv : x.toInt64 = v) (hd : decode code pc = .ok (.i2l, 1)) (k : own_G B n0 Q kc ks cells slots h (pc + 1) Ls (.long v :: st)) : own_G B n0 Q kc ks cells slots h pc Ls (.int x :: st) := by
  subst hv
  obtain ⟨p, l, e, R, s, m, args, below, meth, c⟩ := B
  obtain ⟨rfl, rfl, hx, hZ, hown, hby, hml, hrt, hlk, hnm, hw⟩ := H
  intro T locs c1 s1 X F hc hs eT
  exact own_go (fun t q => XT.i2l X.here hx rfl (hb hby hd) rfl q) (k T locs c1 s1 X F hc hs eT)
theorem own_l2i (H : own_Ok B Z a0 l R y code N ret) {x : Int64} {v : Int32} (hv : x.toInt32 = v) (hd : decode code pc = .ok (.l2i, 1)) (k : own_G B n0 Q kc ks cells slots h (pc + 1) Ls (.int v :: st)) : own_G B n0 Q kc ks cells slots h pc Ls (.long x :: st) := by
  subst hv
  obtain ⟨p, l, e, R, s, m, args, below, meth, c⟩ := B
  obtain ⟨rfl, rfl, hx, hZ, hown, hby, hml, hrt, hlk, hnm, hw⟩ := H
  intro T locs c1 s1 X F hc hs eT
  exact own_go (fun t q => XT.l2i X.here hx rfl (hb hby hd) rfl q) (k T locs c1 s1 X F hc hs eT)
theorem own_i2b (H : own_Ok B Z a0 l R y code N ret) {x : Int32} {v : Int32} (hv : x.toInt8.toInt32 = v) (hd : decode code pc = .ok (.i2b, 1)) (k : own_G B n0 Q kc ks cells slots h (pc + 1) Ls (.int v :: st)) : own_G B n0 Q kc ks cells slots h pc Ls (.int x :: st) := by
  subst hv
  obtain ⟨p, l, e, R, s, m, args, below, meth, c⟩ := B
  obtain ⟨rfl, rfl, hx, hZ, hown, hby, hml, hrt, hlk, hnm, hw⟩ := H
  intro T locs c1 s1 X F hc hs eT
  exact own_go (fun t q => XT.i2b X.here hx rfl (hb hby hd) rfl q) (k T locs c1 s1 X F hc hs eT)
theorem own_i2c (H : own_Ok B Z a0 l R y code N ret) {x : Int32} {v : Int32} (hv : x.toUInt32.toUInt16.toUInt32.toInt32 = v) (hd : decode code pc = .ok (.i2c, 1)) (k : own_G B n0 Q kc ks cells slots h (pc + 1) Ls (.int v :: st)) : own_G B n0 Q kc ks cells slots h pc Ls (.int x :: st) := by
  subst hv
  obtain ⟨p, l, e, R, s, m, args, below, meth, c⟩ := B
  obtain ⟨rfl, rfl, hx, hZ, hown, hby, hml, hrt, hlk, hnm, hw⟩ := H
  intro T locs c1 s1 X F hc hs eT
  exact own_go (fun t q => XT.i2c X.here hx rfl (hb hby hd) rfl q) (k T locs c1 s1 X F hc hs eT)
theorem own_i2s (H : own_Ok B Z a0 l R y code N ret) {x : Int32} {v : Int32} (hv : x.toInt16.toInt32 = v) (hd : decode code pc = .ok (.i2s, 1)) (k : own_G B n0 Q kc ks cells slots h (pc + 1) Ls (.int v :: st)) : own_G B n0 Q kc ks cells slots h pc Ls (.int x :: st) := by
  subst hv
  obtain ⟨p, l, e, R, s, m, args, below, meth, c⟩ := B
  obtain ⟨rfl, rfl, hx, hZ, hown, hby, hml, hrt, hlk, hnm, hw⟩ := H
  intro T locs c1 s1 X F hc hs eT
  exact own_go (fun t q => XT.i2s X.here hx rfl (hb hby hd) rfl q) (k T locs c1 s1 X F hc hs eT)
theorem own_iconst (H : own_Ok B Z a0 l R y code N ret) {i : Int} (v : Int32) (hv : Int32.ofInt i = v) (hd : decode code pc = .ok (.iconst i, 1)) (k : own_G B n0 Q kc ks cells slots h (pc + 1) Ls (.int v :: st)) : own_G B n0 Q kc ks cells slots h pc Ls st := by
  obtain ⟨p, l, e, R, s, m, args, below, meth, c⟩ := B
  obtain ⟨rfl, rfl, hx, hZ, hown, hby, hml, hrt, hlk, hnm, hw⟩ := H
  intro T locs c1 s1 X F hc hs eT
  exact own_go (fun t q => XT.iconstV X.here hx rfl v (hb hby hd) hv q) (k T locs c1 s1 X F hc hs eT)
theorem own_bipush (H : own_Ok B Z a0 l R y code N ret) {i : Int} (v : Int32) (hv : (Int8.ofInt i).toInt32 = v) (hd : decode code pc = .ok (.bipush i, 2)) (k : own_G B n0 Q kc ks cells slots h (pc + 2) Ls (.int v :: st)) : own_G B n0 Q kc ks cells slots h pc Ls st := by
  obtain ⟨p, l, e, R, s, m, args, below, meth, c⟩ := B
  obtain ⟨rfl, rfl, hx, hZ, hown, hby, hml, hrt, hlk, hnm, hw⟩ := H
  intro T locs c1 s1 X F hc hs eT
  exact own_go (fun t q => XT.bipushV X.here hx rfl v (hb hby hd) hv q) (k T locs c1 s1 X F hc hs eT)
theorem own_sipush (H : own_Ok B Z a0 l R y code N ret) {i : Int} (v : Int32) (hv : (Int16.ofInt i).toInt32 = v) (hd : decode code pc = .ok (.sipush i, 3)) (k : own_G B n0 Q kc ks cells slots h (pc + 3) Ls (.int v :: st)) : own_G B n0 Q kc ks cells slots h pc Ls st := by
  obtain ⟨p, l, e, R, s, m, args, below, meth, c⟩ := B
  obtain ⟨rfl, rfl, hx, hZ, hown, hby, hml, hrt, hlk, hnm, hw⟩ := H
  intro T locs c1 s1 X F hc hs eT
  exact own_go (fun t q => XT.sipushV X.here hx rfl v (hb hby hd) hv q) (k T locs c1 s1 X F hc hs eT)
theorem own_lconst (H : own_Ok B Z a0 l R y code N ret) {i : Fin 2} (v : Int64) (hv : Int64.ofNat i = v) (hd : decode code pc = .ok (.lconst i, 1)) (k : own_G B n0 Q kc ks cells slots h (pc + 1) Ls (.long v :: st)) : own_G B n0 Q kc ks cells slots h pc Ls st := by
  obtain ⟨p, l, e, R, s, m, args, below, meth, c⟩ := B
  obtain ⟨rfl, rfl, hx, hZ, hown, hby, hml, hrt, hlk, hnm, hw⟩ := H
  intro T locs c1 s1 X F hc hs eT
  exact own_go (fun t q => XT.lconstV X.here hx rfl v (hb hby hd) hv q) (k T locs c1 s1 X F hc hs eT)
theorem own_aconst_null (H : own_Ok B Z a0 l R y code N ret)  (hd : decode code pc = .ok (.aconst_null, 1)) (k : own_G B n0 Q kc ks cells slots h (pc + 1) Ls (.null :: st)) : own_G B n0 Q kc ks cells slots h pc Ls st := by
  obtain ⟨p, l, e, R, s, m, args, below, meth, c⟩ := B
  obtain ⟨rfl, rfl, hx, hZ, hown, hby, hml, hrt, hlk, hnm, hw⟩ := H
  intro T locs c1 s1 X F hc hs eT
  exact own_go (fun t q => XS.aconstNull X.here hx rfl (hb hby hd)  q) (k T locs c1 s1 X F hc hs eT)
theorem own_dup (H : own_Ok B Z a0 l R y code N ret) {x : Value} (hq : x.category = 1) (hd : decode code pc = .ok (.dup, 1)) (k : own_G B n0 Q kc ks cells slots h (pc + 1) Ls (x :: x :: st)) : own_G B n0 Q kc ks cells slots h pc Ls (x :: st) := by
  obtain ⟨p, l, e, R, s, m, args, below, meth, c⟩ := B
  obtain ⟨rfl, rfl, hx, hZ, hown, hby, hml, hrt, hlk, hnm, hw⟩ := H
  intro T locs c1 s1 X F hc hs eT
  exact own_go (fun t q => XS.dup X.here hx rfl (hb hby hd) rfl hq q) (k T locs c1 s1 X F hc hs eT)
theorem own_dup2 (H : own_Ok B Z a0 l R y code N ret) {x z : Value} (hq : x.category = 1) (hq' : z.category = 1) (hd : decode code pc = .ok (.dup2, 1)) (k : own_G B n0 Q kc ks cells slots h (pc + 1) Ls (x :: z :: x :: z :: st)) : own_G B n0 Q kc ks cells slots h pc Ls (x :: z :: st) := by
  obtain ⟨p, l, e, R, s, m, args, below, meth, c⟩ := B
  obtain ⟨rfl, rfl, hx, hZ, hown, hby, hml, hrt, hlk, hnm, hw⟩ := H
  intro T locs c1 s1 X F hc hs eT
  exact own_go (fun t q => XT.dup2 X.here hx rfl (hb hby hd) rfl hq hq' q) (k T locs c1 s1 X F hc hs eT)
theorem own_dup2L (H : own_Ok B Z a0 l R y code N ret) {x : Int64} (hd : decode code pc = .ok (.dup2, 1)) (k : own_G B n0 Q kc ks cells slots h (pc + 1) Ls (.long x :: .long x :: st)) : own_G B n0 Q kc ks cells slots h pc Ls (.long x :: st) := by
  obtain ⟨p, l, e, R, s, m, args, below, meth, c⟩ := B
  obtain ⟨rfl, rfl, hx, hZ, hown, hby, hml, hrt, hlk, hnm, hw⟩ := H
  intro T locs c1 s1 X F hc hs eT
  exact own_go (fun t q => XT.dup2L X.here hx rfl (hb hby hd) rfl q) (k T locs c1 s1 X F hc hs eT)
theorem own_dup_x1 (H : own_Ok B Z a0 l R y code N ret) {x z : Value} (hq : x.category = 1) (hq' : z.category = 1) (hd : decode code pc = .ok (.dup_x1, 1)) (k : own_G B n0 Q kc ks cells slots h (pc + 1) Ls (x :: z :: x :: st)) : own_G B n0 Q kc ks cells slots h pc Ls (x :: z :: st) := by
  obtain ⟨p, l, e, R, s, m, args, below, meth, c⟩ := B
  obtain ⟨rfl, rfl, hx, hZ, hown, hby, hml, hrt, hlk, hnm, hw⟩ := H
  intro T locs c1 s1 X F hc hs eT
  exact own_go (fun t q => XT.dupX1 X.here hx rfl (hb hby hd) rfl hq hq' q) (k T locs c1 s1 X F hc hs eT)
theorem own_pop (H : own_Ok B Z a0 l R y code N ret) {x : Value} (hq : x.category = 1) (hd : decode code pc = .ok (.pop, 1)) (k : own_G B n0 Q kc ks cells slots h (pc + 1) Ls st) : own_G B n0 Q kc ks cells slots h pc Ls (x :: st) := by
  obtain ⟨p, l, e, R, s, m, args, below, meth, c⟩ := B
  obtain ⟨rfl, rfl, hx, hZ, hown, hby, hml, hrt, hlk, hnm, hw⟩ := H
  intro T locs c1 s1 X F hc hs eT
  exact own_go (fun t q => XT.pop X.here hx rfl (hb hby hd) rfl hq q) (k T locs c1 s1 X F hc hs eT)
theorem own_iload_n (H : own_Ok B Z a0 l R y code N ret) {i : Fin 4} {v : Int32} (hl : Ls[i.val]? = some (.val (.int v))) (hd : decode code pc = .ok (.iload_n i, 1)) (k : own_G B n0 Q kc ks cells slots h (pc + 1) Ls (.int v :: st)) : own_G B n0 Q kc ks cells slots h pc Ls st := by
  obtain ⟨p, l, e, R, s, m, args, below, meth, c⟩ := B
  obtain ⟨rfl, rfl, hx, hZ, hown, hby, hml, hrt, hlk, hnm, hw⟩ := H
  intro T locs c1 s1 X F hc hs eT
  exact own_go (fun t q => XS.iloadN X.here hx rfl (hb hby hd) hl q) (k T locs c1 s1 X F hc hs eT)
theorem own_iload (H : own_Ok B Z a0 l R y code N ret) {i : Nat} {v : Int32} (hl : Ls[i]? = some (.val (.int v))) (hd : decode code pc = .ok (.iload i, 2)) (k : own_G B n0 Q kc ks cells slots h (pc + 2) Ls (.int v :: st)) : own_G B n0 Q kc ks cells slots h pc Ls st := by
  obtain ⟨p, l, e, R, s, m, args, below, meth, c⟩ := B
  obtain ⟨rfl, rfl, hx, hZ, hown, hby, hml, hrt, hlk, hnm, hw⟩ := H
  intro T locs c1 s1 X F hc hs eT
  exact own_go (fun t q => XS.iload X.here hx rfl (hb hby hd) hl q) (k T locs c1 s1 X F hc hs eT)
theorem own_lload_n (H : own_Ok B Z a0 l R y code N ret) {i : Fin 4} {v : Int64} (hl : Ls[i.val]? = some (.val (.long v))) (hd : decode code pc = .ok (.lload_n i, 1)) (k : own_G B n0 Q kc ks cells slots h (pc + 1) Ls (.long v :: st)) : own_G B n0 Q kc ks cells slots h pc Ls st := by
  obtain ⟨p, l, e, R, s, m, args, below, meth, c⟩ := B
  obtain ⟨rfl, rfl, hx, hZ, hown, hby, hml, hrt, hlk, hnm, hw⟩ := H
  intro T locs c1 s1 X F hc hs eT
  exact own_go (fun t q => XT.lloadN X.here hx rfl (hb hby hd) hl q) (k T locs c1 s1 X F hc hs eT)
theorem own_lload (H : own_Ok B Z a0 l R y code N ret) {i : Nat} {v : Int64} (hl : Ls[i]? = some (.val (.long v))) (hd : decode code pc = .ok (.lload i, 2)) (k : own_G B n0 Q kc ks cells slots h (pc + 2) Ls (.long v :: st)) : own_G B n0 Q kc ks cells slots h pc Ls st := by
  obtain ⟨p, l, e, R, s, m, args, below, meth, c⟩ := B
  obtain ⟨rfl, rfl, hx, hZ, hown, hby, hml, hrt, hlk, hnm, hw⟩ := H
  intro T locs c1 s1 X F hc hs eT
  exact own_go (fun t q => XT.lload X.here hx rfl (hb hby hd) hl q) (k T locs c1 s1 X F hc hs eT)
theorem own_aload_n (H : own_Ok B Z a0 l R y code N ret) {i : Fin 4} {v : Value} (hl : Ls[i.val]? = some (.val v)) (hv : v.isRef = true) (hd : decode code pc = .ok (.aload_n i, 1)) (k : own_G B n0 Q kc ks cells slots h (pc + 1) Ls (v :: st)) : own_G B n0 Q kc ks cells slots h pc Ls st := by
  obtain ⟨p, l, e, R, s, m, args, below, meth, c⟩ := B
  obtain ⟨rfl, rfl, hx, hZ, hown, hby, hml, hrt, hlk, hnm, hw⟩ := H
  intro T locs c1 s1 X F hc hs eT
  exact own_go (fun t q => XS.aloadN X.here hx rfl (hb hby hd) hl hv q) (k T locs c1 s1 X F hc hs eT)
theorem own_aload (H : own_Ok B Z a0 l R y code N ret) {i : Nat} {v : Value} (hl : Ls[i]? = some (.val v)) (hv : v.isRef = true) (hd : decode code pc = .ok (.aload i, 2)) (k : own_G B n0 Q kc ks cells slots h (pc + 2) Ls (v :: st)) : own_G B n0 Q kc ks cells slots h pc Ls st := by
  obtain ⟨p, l, e, R, s, m, args, below, meth, c⟩ := B
  obtain ⟨rfl, rfl, hx, hZ, hown, hby, hml, hrt, hlk, hnm, hw⟩ := H
  intro T locs c1 s1 X F hc hs eT
  exact own_go (fun t q => XS.aload X.here hx rfl (hb hby hd) hl hv q) (k T locs c1 s1 X F hc hs eT)
theorem own_istore_n (H : own_Ok B Z a0 l R y code N ret) {i : Fin 4} {x : Int32} (Ls' : Array Slot) (hl : storeLocals Ls i.val (.int x) = some Ls') (hd : decode code pc = .ok (.istore_n i, 1)) (k : own_G B n0 Q kc ks cells slots h (pc + 1) Ls' st) : own_G B n0 Q kc ks cells slots h pc Ls (.int x :: st) := by
  obtain ⟨p, l, e, R, s, m, args, below, meth, c⟩ := B
  obtain ⟨rfl, rfl, hx, hZ, hown, hby, hml, hrt, hlk, hnm, hw⟩ := H
  intro T locs c1 s1 X F hc hs eT
  exact own_go (fun t q => XS.istoreN X.here hx rfl (hb hby hd) rfl hl q) (k T locs c1 s1 X F hc hs eT)
theorem own_istore (H : own_Ok B Z a0 l R y code N ret) {i : Nat} {x : Int32} (Ls' : Array Slot) (hl : storeLocals Ls i (.int x) = some Ls') (hd : decode code pc = .ok (.istore i, 2)) (k : own_G B n0 Q kc ks cells slots h (pc + 2) Ls' st) : own_G B n0 Q kc ks cells slots h pc Ls (.int x :: st) := by
  obtain ⟨p, l, e, R, s, m, args, below, meth, c⟩ := B
  obtain ⟨rfl, rfl, hx, hZ, hown, hby, hml, hrt, hlk, hnm, hw⟩ := H
  intro T locs c1 s1 X F hc hs eT
  exact own_go (fun t q => XS.istore X.here hx rfl (hb hby hd) rfl hl q) (k T locs c1 s1 X F hc hs eT)
theorem own_lstore_n (H : own_Ok B Z a0 l R y code N ret) {i : Fin 4} {x : Int64} (Ls' : Array Slot) (hl : storeLocals Ls i.val (.long x) = some Ls') (hd : decode code pc = .ok (.lstore_n i, 1)) (k : own_G B n0 Q kc ks cells slots h (pc + 1) Ls' st) : own_G B n0 Q kc ks cells slots h pc Ls (.long x :: st) := by
  obtain ⟨p, l, e, R, s, m, args, below, meth, c⟩ := B
  obtain ⟨rfl, rfl, hx, hZ, hown, hby, hml, hrt, hlk, hnm, hw⟩ := H
  intro T locs c1 s1 X F hc hs eT
  exact own_go (fun t q => XT.lstoreN X.here hx rfl (hb hby hd) rfl hl q) (k T locs c1 s1 X F hc hs eT)
theorem own_lstore (H : own_Ok B Z a0 l R y code N ret) {i : Nat} {x : Int64} (Ls' : Array Slot) (hl : storeLocals Ls i (.long x) = some Ls') (hd : decode code pc = .ok (.lstore i, 2)) (k : own_G B n0 Q kc ks cells slots h (pc + 2) Ls' st) : own_G B n0 Q kc ks cells slots h pc Ls (.long x :: st) := by
  obtain ⟨p, l, e, R, s, m, args, below, meth, c⟩ := B
  obtain ⟨rfl, rfl, hx, hZ, hown, hby, hml, hrt, hlk, hnm, hw⟩ := H
  intro T locs c1 s1 X F hc hs eT
  exact own_go (fun t q => XT.lstore X.here hx rfl (hb hby hd) rfl hl q) (k T locs c1 s1 X F hc hs eT)
theorem own_astore_n (H : own_Ok B Z a0 l R y code N ret) {i : Fin 4} {x : Value} (hv : x.isRef = true) (Ls' : Array Slot) (hl : storeLocals Ls i.val x = some Ls') (hd : decode code pc = .ok (.astore_n i, 1)) (k : own_G B n0 Q kc ks cells slots h (pc + 1) Ls' st) : own_G B n0 Q kc ks cells slots h pc Ls (x :: st) := by
  obtain ⟨p, l, e, R, s, m, args, below, meth, c⟩ := B
  obtain ⟨rfl, rfl, hx, hZ, hown, hby, hml, hrt, hlk, hnm, hw⟩ := H
  intro T locs c1 s1 X F hc hs eT
  exact own_go (fun t q => XS.astoreN X.here hx rfl (hb hby hd) rfl hv hl q) (k T locs c1 s1 X F hc hs eT)
theorem own_astore (H : own_Ok B Z a0 l R y code N ret) {i : Nat} {x : Value} (hv : x.isRef = true) (Ls' : Array Slot) (hl : storeLocals Ls i x = some Ls') (hd : decode code pc = .ok (.astore i, 2)) (k : own_G B n0 Q kc ks cells slots h (pc + 2) Ls' st) : own_G B n0 Q kc ks cells slots h pc Ls (x :: st) := by
  obtain ⟨p, l, e, R, s, m, args, below, meth, c⟩ := B
  obtain ⟨rfl, rfl, hx, hZ, hown, hby, hml, hrt, hlk, hnm, hw⟩ := H
  intro T locs c1 s1 X F hc hs eT
  exact own_go (fun t q => XS.astore X.here hx rfl (hb hby hd) rfl hv hl q) (k T locs c1 s1 X F hc hs eT)
theorem own_iinc (H : own_Ok B Z a0 l R y code N ret) {i : Nat} {cst : Int} {x u : Int32} (v : Int32) (hv : Int32.ofInt cst = v) (hl : Ls[i]? = some (.val (.int x))) (hu : x + v = u) (Ls' : Array Slot) (hl' : storeLocals Ls i (.int u) = some Ls') (hd : decode code pc = .ok (.iinc i cst, 3)) (k : own_G B n0 Q kc ks cells slots h (pc + 3) Ls' st) : own_G B n0 Q kc ks cells slots h pc Ls st := by
  subst hu
  obtain ⟨p, l, e, R, s, m, args, below, meth, c⟩ := B
  obtain ⟨rfl, rfl, hx, hZ, hown, hby, hml, hrt, hlk, hnm, hw⟩ := H
  intro T locs c1 s1 X F hc hs eT
  exact own_go (fun t q => XT.iincV X.here hx rfl v (hb hby hd) hv hl hl' q) (k T locs c1 s1 X F hc hs eT)
theorem own_goto (H : own_Ok B Z a0 l R y code N ret) {o : Int} (hd : decode code pc = .ok (.goto o, 3)) (ho : 0 ≤ (pc : Int) + o) (hp : ((pc : Int) + o).toNat = pc') (k : own_G B n0 Q kc ks cells slots h pc' Ls st) : own_G B n0 Q kc ks cells slots h pc Ls st := by
  obtain ⟨p, l, e, R, s, m, args, below, meth, c⟩ := B
  obtain ⟨rfl, rfl, hx, hZ, hown, hby, hml, hrt, hlk, hnm, hw⟩ := H
  intro T locs c1 s1 X F hc hs eT
  exact own_go (fun t q => XS.goto X.here hx rfl rfl (hb hby hd) ho hp q) (k T locs c1 s1 X F hc hs eT)
theorem own_ifeq_t (H : own_Ok B Z a0 l R y code N ret) {x : Int32} {o : Int} (hd : decode code pc = .ok (.ifCond .eq o, 3)) (ho : 0 ≤ (pc : Int) + o) (hp : ((pc : Int) + o).toNat = pc') (hq : x = 0) (k : own_G B n0 Q kc ks cells slots h pc' Ls st) : own_G B n0 Q kc ks cells slots h pc Ls (.int x :: st) := by
  obtain ⟨p, l, e, R, s, m, args, below, meth, c⟩ := B
  obtain ⟨rfl, rfl, hx, hZ, hown, hby, hml, hrt, hlk, hnm, hw⟩ := H
  intro T locs c1 s1 X F hc hs eT
  exact own_go (fun t q => XS.ifYes X.here hx rfl rfl (hb hby hd) rfl (XT.i0_eq_t hq) ho hp q) (k T locs c1 s1 X F hc hs eT)
theorem own_ifeq_f (H : own_Ok B Z a0 l R y code N ret) {x : Int32} {o : Int} (hd : decode code pc = .ok (.ifCond .eq o, 3)) (hq : ¬ x = 0) (k : own_G B n0 Q kc ks cells slots h (pc + 3) Ls st) : own_G B n0 Q kc ks cells slots h pc Ls (.int x :: st) := by
  obtain ⟨p, l, e, R, s, m, args, below, meth, c⟩ := B
  obtain ⟨rfl, rfl, hx, hZ, hown, hby, hml, hrt, hlk, hnm, hw⟩ := H
  intro T locs c1 s1 X F hc hs eT
  exact own_go (fun t q => XS.ifNo X.here hx rfl (hb hby hd) rfl (XT.i0_eq_f hq) q) (k T locs c1 s1 X F hc hs eT)
theorem own_icmpeq_t (H : own_Ok B Z a0 l R y code N ret) {x z : Int32} {o : Int} (hd : decode code pc = .ok (.if_icmp .eq o, 3)) (ho : 0 ≤ (pc : Int) + o) (hp : ((pc : Int) + o).toNat = pc') (hq : x = z) (k : own_G B n0 Q kc ks cells slots h pc' Ls st) : own_G B n0 Q kc ks cells slots h pc Ls (.int z :: .int x :: st) := by
  obtain ⟨p, l, e, R, s, m, args, below, meth, c⟩ := B
  obtain ⟨rfl, rfl, hx, hZ, hown, hby, hml, hrt, hlk, hnm, hw⟩ := H
  intro T locs c1 s1 X F hc hs eT
  exact own_go (fun t q => XS.icmpYes X.here hx rfl rfl (hb hby hd) rfl (XT.ii_eq_t hq) ho hp q) (k T locs c1 s1 X F hc hs eT)
theorem own_icmpeq_f (H : own_Ok B Z a0 l R y code N ret) {x z : Int32} {o : Int} (hd : decode code pc = .ok (.if_icmp .eq o, 3)) (hq : ¬ x = z) (k : own_G B n0 Q kc ks cells slots h (pc + 3) Ls st) : own_G B n0 Q kc ks cells slots h pc Ls (.int z :: .int x :: st) := by
  obtain ⟨p, l, e, R, s, m, args, below, meth, c⟩ := B
  obtain ⟨rfl, rfl, hx, hZ, hown, hby, hml, hrt, hlk, hnm, hw⟩ := H
  intro T locs c1 s1 X F hc hs eT
  exact own_go (fun t q => XS.icmpNo X.here hx rfl (hb hby hd) rfl (XT.ii_eq_f hq) q) (k T locs c1 s1 X F hc hs eT)
theorem own_lcmpeq_t (H : own_Ok B Z a0 l R y code N ret) {x z : Int64} {o : Int} (hd0 : decode code pc = .ok (.lcmp, 1)) (hd : decode code (pc + 1) = .ok (.ifCond .eq o, 3)) (ho : 0 ≤ ((pc + 1 : Nat) : Int) + o) (hp : (((pc + 1 : Nat) : Int) + o).toNat = pc') (hq : x = z) (k : own_G B n0 Q kc ks cells slots h pc' Ls st) : own_G B n0 Q kc ks cells slots h pc Ls (.long z :: .long x :: st) := by
  obtain ⟨p, l, e, R, s, m, args, below, meth, c⟩ := B
  obtain ⟨rfl, rfl, hx, hZ, hown, hby, hml, hrt, hlk, hnm, hw⟩ := H
  intro T locs c1 s1 X F hc hs eT
  exact own_go (fun t q => XT.lcmp X.here hx rfl (hb hby hd0) rfl (XS.ifYes X.here hx rfl rfl (hb hby hd) rfl (XT.ll_eq_t hq) ho hp q)) (k T locs c1 s1 X F hc hs eT)
theorem own_lcmpeq_f (H : own_Ok B Z a0 l R y code N ret) {x z : Int64} {o : Int} (hd0 : decode code pc = .ok (.lcmp, 1)) (hd : decode code (pc + 1) = .ok (.ifCond .eq o, 3)) (hq : ¬ x = z) (k : own_G B n0 Q kc ks cells slots h (pc + 4) Ls st) : own_G B n0 Q kc ks cells slots h pc Ls (.long z :: .long x :: st) := by
  obtain ⟨p, l, e, R, s, m, args, below, meth, c⟩ := B
  obtain ⟨rfl, rfl, hx, hZ, hown, hby, hml, hrt, hlk, hnm, hw⟩ := H
  intro T locs c1 s1 X F hc hs eT
  exact own_go (fun t q => XT.lcmp X.here hx rfl (hb hby hd0) rfl (XS.ifNo X.here hx rfl (hb hby hd) rfl (XT.ll_eq_f hq) q)) (k T locs c1 s1 X F hc hs eT)
theorem own_ifne_t (H : own_Ok B Z a0 l R y code N ret) {x : Int32} {o : Int} (hd : decode code pc = .ok (.ifCond .ne o, 3)) (ho : 0 ≤ (pc : Int) + o) (hp : ((pc : Int) + o).toNat = pc') (hq : ¬ x = 0) (k : own_G B n0 Q kc ks cells slots h pc' Ls st) : own_G B n0 Q kc ks cells slots h pc Ls (.int x :: st) := by
  obtain ⟨p, l, e, R, s, m, args, below, meth, c⟩ := B
  obtain ⟨rfl, rfl, hx, hZ, hown, hby, hml, hrt, hlk, hnm, hw⟩ := H
  intro T locs c1 s1 X F hc hs eT
  exact own_go (fun t q => XS.ifYes X.here hx rfl rfl (hb hby hd) rfl (XT.i0_ne_t hq) ho hp q) (k T locs c1 s1 X F hc hs eT)
theorem own_ifne_f (H : own_Ok B Z a0 l R y code N ret) {x : Int32} {o : Int} (hd : decode code pc = .ok (.ifCond .ne o, 3)) (hq : x = 0) (k : own_G B n0 Q kc ks cells slots h (pc + 3) Ls st) : own_G B n0 Q kc ks cells slots h pc Ls (.int x :: st) := by
  obtain ⟨p, l, e, R, s, m, args, below, meth, c⟩ := B
  obtain ⟨rfl, rfl, hx, hZ, hown, hby, hml, hrt, hlk, hnm, hw⟩ := H
  intro T locs c1 s1 X F hc hs eT
  exact own_go (fun t q => XS.ifNo X.here hx rfl (hb hby hd) rfl (XT.i0_ne_f hq) q) (k T locs c1 s1 X F hc hs eT)
theorem own_icmpne_t (H : own_Ok B Z a0 l R y code N ret) {x z : Int32} {o : Int} (hd : decode code pc = .ok (.if_icmp .ne o, 3)) (ho : 0 ≤ (pc : Int) + o) (hp : ((pc : Int) + o).toNat = pc') (hq : ¬ x = z) (k : own_G B n0 Q kc ks cells slots h pc' Ls st) : own_G B n0 Q kc ks cells slots h pc Ls (.int z :: .int x :: st) := by
  obtain ⟨p, l, e, R, s, m, args, below, meth, c⟩ := B
  obtain ⟨rfl, rfl, hx, hZ, hown, hby, hml, hrt, hlk, hnm, hw⟩ := H
  intro T locs c1 s1 X F hc hs eT
  exact own_go (fun t q => XS.icmpYes X.here hx rfl rfl (hb hby hd) rfl (XT.ii_ne_t hq) ho hp q) (k T locs c1 s1 X F hc hs eT)
theorem own_icmpne_f (H : own_Ok B Z a0 l R y code N ret) {x z : Int32} {o : Int} (hd : decode code pc = .ok (.if_icmp .ne o, 3)) (hq : x = z) (k : own_G B n0 Q kc ks cells slots h (pc + 3) Ls st) : own_G B n0 Q kc ks cells slots h pc Ls (.int z :: .int x :: st) := by
  obtain ⟨p, l, e, R, s, m, args, below, meth, c⟩ := B
  obtain ⟨rfl, rfl, hx, hZ, hown, hby, hml, hrt, hlk, hnm, hw⟩ := H
  intro T locs c1 s1 X F hc hs eT
  exact own_go (fun t q => XS.icmpNo X.here hx rfl (hb hby hd) rfl (XT.ii_ne_f hq) q) (k T locs c1 s1 X F hc hs eT)
theorem own_lcmpne_t (H : own_Ok B Z a0 l R y code N ret) {x z : Int64} {o : Int} (hd0 : decode code pc = .ok (.lcmp, 1)) (hd : decode code (pc + 1) = .ok (.ifCond .ne o, 3)) (ho : 0 ≤ ((pc + 1 : Nat) : Int) + o) (hp : (((pc + 1 : Nat) : Int) + o).toNat = pc') (hq : ¬ x = z) (k : own_G B n0 Q kc ks cells slots h pc' Ls st) : own_G B n0 Q kc ks cells slots h pc Ls (.long z :: .long x :: st) := by
  obtain ⟨p, l, e, R, s, m, args, below, meth, c⟩ := B
  obtain ⟨rfl, rfl, hx, hZ, hown, hby, hml, hrt, hlk, hnm, hw⟩ := H
  intro T locs c1 s1 X F hc hs eT
  exact own_go (fun t q => XT.lcmp X.here hx rfl (hb hby hd0) rfl (XS.ifYes X.here hx rfl rfl (hb hby hd) rfl (XT.ll_ne_t hq) ho hp q)) (k T locs c1 s1 X F hc hs eT)
theorem own_lcmpne_f (H : own_Ok B Z a0 l R y code N ret) {x z : Int64} {o : Int} (hd0 : decode code pc = .ok (.lcmp, 1)) (hd : decode code (pc + 1) = .ok (.ifCond .ne o, 3)) (hq : x = z) (k : own_G B n0 Q kc ks cells slots h (pc + 4) Ls st) : own_G B n0 Q kc ks cells slots h pc Ls (.long z :: .long x :: st) := by
  obtain ⟨p, l, e, R, s, m, args, below, meth, c⟩ := B
  obtain ⟨rfl, rfl, hx, hZ, hown, hby, hml, hrt, hlk, hnm, hw⟩ := H
  intro T locs c1 s1 X F hc hs eT
  exact own_go (fun t q => XT.lcmp X.here hx rfl (hb hby hd0) rfl (XS.ifNo X.here hx rfl (hb hby hd) rfl (XT.ll_ne_f hq) q)) (k T locs c1 s1 X F hc hs eT)
theorem own_iflt_t (H : own_Ok B Z a0 l R y code N ret) {x : Int32} {o : Int} (hd : decode code pc = .ok (.ifCond .lt o, 3)) (ho : 0 ≤ (pc : Int) + o) (hp : ((pc : Int) + o).toNat = pc') (hq : x < 0) (k : own_G B n0 Q kc ks cells slots h pc' Ls st) : own_G B n0 Q kc ks cells slots h pc Ls (.int x :: st) := by
  obtain ⟨p, l, e, R, s, m, args, below, meth, c⟩ := B
  obtain ⟨rfl, rfl, hx, hZ, hown, hby, hml, hrt, hlk, hnm, hw⟩ := H
  intro T locs c1 s1 X F hc hs eT
  exact own_go (fun t q => XS.ifYes X.here hx rfl rfl (hb hby hd) rfl (XT.i0_lt_t hq) ho hp q) (k T locs c1 s1 X F hc hs eT)
theorem own_iflt_f (H : own_Ok B Z a0 l R y code N ret) {x : Int32} {o : Int} (hd : decode code pc = .ok (.ifCond .lt o, 3)) (hq : ¬ x < 0) (k : own_G B n0 Q kc ks cells slots h (pc + 3) Ls st) : own_G B n0 Q kc ks cells slots h pc Ls (.int x :: st) := by
  obtain ⟨p, l, e, R, s, m, args, below, meth, c⟩ := B
  obtain ⟨rfl, rfl, hx, hZ, hown, hby, hml, hrt, hlk, hnm, hw⟩ := H
  intro T locs c1 s1 X F hc hs eT
  exact own_go (fun t q => XS.ifNo X.here hx rfl (hb hby hd) rfl (XT.i0_lt_f hq) q) (k T locs c1 s1 X F hc hs eT)
theorem own_icmplt_t (H : own_Ok B Z a0 l R y code N ret) {x z : Int32} {o : Int} (hd : decode code pc = .ok (.if_icmp .lt o, 3)) (ho : 0 ≤ (pc : Int) + o) (hp : ((pc : Int) + o).toNat = pc') (hq : x < z) (k : own_G B n0 Q kc ks cells slots h pc' Ls st) : own_G B n0 Q kc ks cells slots h pc Ls (.int z :: .int x :: st) := by
  obtain ⟨p, l, e, R, s, m, args, below, meth, c⟩ := B
  obtain ⟨rfl, rfl, hx, hZ, hown, hby, hml, hrt, hlk, hnm, hw⟩ := H
  intro T locs c1 s1 X F hc hs eT
  exact own_go (fun t q => XS.icmpYes X.here hx rfl rfl (hb hby hd) rfl (XT.ii_lt_t hq) ho hp q) (k T locs c1 s1 X F hc hs eT)
theorem own_icmplt_f (H : own_Ok B Z a0 l R y code N ret) {x z : Int32} {o : Int} (hd : decode code pc = .ok (.if_icmp .lt o, 3)) (hq : ¬ x < z) (k : own_G B n0 Q kc ks cells slots h (pc + 3) Ls st) : own_G B n0 Q kc ks cells slots h pc Ls (.int z :: .int x :: st) := by
  obtain ⟨p, l, e, R, s, m, args, below, meth, c⟩ := B
  obtain ⟨rfl, rfl, hx, hZ, hown, hby, hml, hrt, hlk, hnm, hw⟩ := H
  intro T locs c1 s1 X F hc hs eT
  exact own_go (fun t q => XS.icmpNo X.here hx rfl (hb hby hd) rfl (XT.ii_lt_f hq) q) (k T locs c1 s1 X F hc hs eT)
theorem own_lcmplt_t (H : own_Ok B Z a0 l R y code N ret) {x z : Int64} {o : Int} (hd0 : decode code pc = .ok (.lcmp, 1)) (hd : decode code (pc + 1) = .ok (.ifCond .lt o, 3)) (ho : 0 ≤ ((pc + 1 : Nat) : Int) + o) (hp : (((pc + 1 : Nat) : Int) + o).toNat = pc') (hq : x < z) (k : own_G B n0 Q kc ks cells slots h pc' Ls st) : own_G B n0 Q kc ks cells slots h pc Ls (.long z :: .long x :: st) := by
  obtain ⟨p, l, e, R, s, m, args, below, meth, c⟩ := B
  obtain ⟨rfl, rfl, hx, hZ, hown, hby, hml, hrt, hlk, hnm, hw⟩ := H
  intro T locs c1 s1 X F hc hs eT
  exact own_go (fun t q => XT.lcmp X.here hx rfl (hb hby hd0) rfl (XS.ifYes X.here hx rfl rfl (hb hby hd) rfl (XT.ll_lt_t hq) ho hp q)) (k T locs c1 s1 X F hc hs eT)
theorem own_lcmplt_f (H : own_Ok B Z a0 l R y code N ret) {x z : Int64} {o : Int} (hd0 : decode code pc = .ok (.lcmp, 1)) (hd : decode code (pc + 1) = .ok (.ifCond .lt o, 3)) (hq : ¬ x < z) (k : own_G B n0 Q kc ks cells slots h (pc + 4) Ls st) : own_G B n0 Q kc ks cells slots h pc Ls (.long z :: .long x :: st) := by
  obtain ⟨p, l, e, R, s, m, args, below, meth, c⟩ := B
  obtain ⟨rfl, rfl, hx, hZ, hown, hby, hml, hrt, hlk, hnm, hw⟩ := H
  intro T locs c1 s1 X F hc hs eT
  exact own_go (fun t q => XT.lcmp X.here hx rfl (hb hby hd0) rfl (XS.ifNo X.here hx rfl (hb hby hd) rfl (XT.ll_lt_f hq) q)) (k T locs c1 s1 X F hc hs eT)
theorem own_ifge_t (H : own_Ok B Z a0 l R y code N ret) {x : Int32} {o : Int} (hd : decode code pc = .ok (.ifCond .ge o, 3)) (ho : 0 ≤ (pc : Int) + o) (hp : ((pc : Int) + o).toNat = pc') (hq : ¬ x < 0) (k : own_G B n0 Q kc ks cells slots h pc' Ls st) : own_G B n0 Q kc ks cells slots h pc Ls (.int x :: st) := by
  obtain ⟨p, l, e, R, s, m, args, below, meth, c⟩ := B
  obtain ⟨rfl, rfl, hx, hZ, hown, hby, hml, hrt, hlk, hnm, hw⟩ := H
  intro T locs c1 s1 X F hc hs eT
  exact own_go (fun t q => XS.ifYes X.here hx rfl rfl (hb hby hd) rfl (XT.i0_ge_t hq) ho hp q) (k T locs c1 s1 X F hc hs eT)
theorem own_ifge_f (H : own_Ok B Z a0 l R y code N ret) {x : Int32} {o : Int} (hd : decode code pc = .ok (.ifCond .ge o, 3)) (hq : x < 0) (k : own_G B n0 Q kc ks cells slots h (pc + 3) Ls st) : own_G B n0 Q kc ks cells slots h pc Ls (.int x :: st) := by
  obtain ⟨p, l, e, R, s, m, args, below, meth, c⟩ := B
  obtain ⟨rfl, rfl, hx, hZ, hown, hby, hml, hrt, hlk, hnm, hw⟩ := H
  intro T locs c1 s1 X F hc hs eT
  exact own_go (fun t q => XS.ifNo X.here hx rfl (hb hby hd) rfl (XT.i0_ge_f hq) q) (k T locs c1 s1 X F hc hs eT)
theorem own_icmpge_t (H : own_Ok B Z a0 l R y code N ret) {x z : Int32} {o : Int} (hd : decode code pc = .ok (.if_icmp .ge o, 3)) (ho : 0 ≤ (pc : Int) + o) (hp : ((pc : Int) + o).toNat = pc') (hq : ¬ x < z) (k : own_G B n0 Q kc ks cells slots h pc' Ls st) : own_G B n0 Q kc ks cells slots h pc Ls (.int z :: .int x :: st) := by
  obtain ⟨p, l, e, R, s, m, args, below, meth, c⟩ := B
  obtain ⟨rfl, rfl, hx, hZ, hown, hby, hml, hrt, hlk, hnm, hw⟩ := H
  intro T locs c1 s1 X F hc hs eT
  exact own_go (fun t q => XS.icmpYes X.here hx rfl rfl (hb hby hd) rfl (XT.ii_ge_t hq) ho hp q) (k T locs c1 s1 X F hc hs eT)
theorem own_icmpge_f (H : own_Ok B Z a0 l R y code N ret) {x z : Int32} {o : Int} (hd : decode code pc = .ok (.if_icmp .ge o, 3)) (hq : x < z) (k : own_G B n0 Q kc ks cells slots h (pc + 3) Ls st) : own_G B n0 Q kc ks cells slots h pc Ls (.int z :: .int x :: st) := by
  obtain ⟨p, l, e, R, s, m, args, below, meth, c⟩ := B
  obtain ⟨rfl, rfl, hx, hZ, hown, hby, hml, hrt, hlk, hnm, hw⟩ := H
  intro T locs c1 s1 X F hc hs eT
  exact own_go (fun t q => XS.icmpNo X.here hx rfl (hb hby hd) rfl (XT.ii_ge_f hq) q) (k T locs c1 s1 X F hc hs eT)
theorem own_lcmpge_t (H : own_Ok B Z a0 l R y code N ret) {x z : Int64} {o : Int} (hd0 : decode code pc = .ok (.lcmp, 1)) (hd : decode code (pc + 1) = .ok (.ifCond .ge o, 3)) (ho : 0 ≤ ((pc + 1 : Nat) : Int) + o) (hp : (((pc + 1 : Nat) : Int) + o).toNat = pc') (hq : ¬ x < z) (k : own_G B n0 Q kc ks cells slots h pc' Ls st) : own_G B n0 Q kc ks cells slots h pc Ls (.long z :: .long x :: st) := by
  obtain ⟨p, l, e, R, s, m, args, below, meth, c⟩ := B
  obtain ⟨rfl, rfl, hx, hZ, hown, hby, hml, hrt, hlk, hnm, hw⟩ := H
  intro T locs c1 s1 X F hc hs eT
  exact own_go (fun t q => XT.lcmp X.here hx rfl (hb hby hd0) rfl (XS.ifYes X.here hx rfl rfl (hb hby hd) rfl (XT.ll_ge_t hq) ho hp q)) (k T locs c1 s1 X F hc hs eT)
theorem own_lcmpge_f (H : own_Ok B Z a0 l R y code N ret) {x z : Int64} {o : Int} (hd0 : decode code pc = .ok (.lcmp, 1)) (hd : decode code (pc + 1) = .ok (.ifCond .ge o, 3)) (hq : x < z) (k : own_G B n0 Q kc ks cells slots h (pc + 4) Ls st) : own_G B n0 Q kc ks cells slots h pc Ls (.long z :: .long x :: st) := by
  obtain ⟨p, l, e, R, s, m, args, below, meth, c⟩ := B
  obtain ⟨rfl, rfl, hx, hZ, hown, hby, hml, hrt, hlk, hnm, hw⟩ := H
  intro T locs c1 s1 X F hc hs eT
  exact own_go (fun t q => XT.lcmp X.here hx rfl (hb hby hd0) rfl (XS.ifNo X.here hx rfl (hb hby hd) rfl (XT.ll_ge_f hq) q)) (k T locs c1 s1 X F hc hs eT)
theorem own_ifgt_t (H : own_Ok B Z a0 l R y code N ret) {x : Int32} {o : Int} (hd : decode code pc = .ok (.ifCond .gt o, 3)) (ho : 0 ≤ (pc : Int) + o) (hp : ((pc : Int) + o).toNat = pc') (hq : 0 < x) (k : own_G B n0 Q kc ks cells slots h pc' Ls st) : own_G B n0 Q kc ks cells slots h pc Ls (.int x :: st) := by
  obtain ⟨p, l, e, R, s, m, args, below, meth, c⟩ := B
  obtain ⟨rfl, rfl, hx, hZ, hown, hby, hml, hrt, hlk, hnm, hw⟩ := H
  intro T locs c1 s1 X F hc hs eT
  exact own_go (fun t q => XS.ifYes X.here hx rfl rfl (hb hby hd) rfl (XT.i0_gt_t hq) ho hp q) (k T locs c1 s1 X F hc hs eT)
theorem own_ifgt_f (H : own_Ok B Z a0 l R y code N ret) {x : Int32} {o : Int} (hd : decode code pc = .ok (.ifCond .gt o, 3)) (hq : ¬ 0 < x) (k : own_G B n0 Q kc ks cells slots h (pc + 3) Ls st) : own_G B n0 Q kc ks cells slots h pc Ls (.int x :: st) := by
  obtain ⟨p, l, e, R, s, m, args, below, meth, c⟩ := B
  obtain ⟨rfl, rfl, hx, hZ, hown, hby, hml, hrt, hlk, hnm, hw⟩ := H
  intro T locs c1 s1 X F hc hs eT
  exact own_go (fun t q => XS.ifNo X.here hx rfl (hb hby hd) rfl (XT.i0_gt_f hq) q) (k T locs c1 s1 X F hc hs eT)
theorem own_icmpgt_t (H : own_Ok B Z a0 l R y code N ret) {x z : Int32} {o : Int} (hd : decode code pc = .ok (.if_icmp .gt o, 3)) (ho : 0 ≤ (pc : Int) + o) (hp : ((pc : Int) + o).toNat = pc') (hq : z < x) (k : own_G B n0 Q kc ks cells slots h pc' Ls st) : own_G B n0 Q kc ks cells slots h pc Ls (.int z :: .int x :: st) := by
  obtain ⟨p, l, e, R, s, m, args, below, meth, c⟩ := B
  obtain ⟨rfl, rfl, hx, hZ, hown, hby, hml, hrt, hlk, hnm, hw⟩ := H
  intro T locs c1 s1 X F hc hs eT
  exact own_go (fun t q => XS.icmpYes X.here hx rfl rfl (hb hby hd) rfl (XT.ii_gt_t hq) ho hp q) (k T locs c1 s1 X F hc hs eT)
theorem own_icmpgt_f (H : own_Ok B Z a0 l R y code N ret) {x z : Int32} {o : Int} (hd : decode code pc = .ok (.if_icmp .gt o, 3)) (hq : ¬ z < x) (k : own_G B n0 Q kc ks cells slots h (pc + 3) Ls st) : own_G B n0 Q kc ks cells slots h pc Ls (.int z :: .int x :: st) := by
  obtain ⟨p, l, e, R, s, m, args, below, meth, c⟩ := B
  obtain ⟨rfl, rfl, hx, hZ, hown, hby, hml, hrt, hlk, hnm, hw⟩ := H
  intro T locs c1 s1 X F hc hs eT
  exact own_go (fun t q => XS.icmpNo X.here hx rfl (hb hby hd) rfl (XT.ii_gt_f hq) q) (k T locs c1 s1 X F hc hs eT)
theorem own_lcmpgt_t (H : own_Ok B Z a0 l R y code N ret) {x z : Int64} {o : Int} (hd0 : decode code pc = .ok (.lcmp, 1)) (hd : decode code (pc + 1) = .ok (.ifCond .gt o, 3)) (ho : 0 ≤ ((pc + 1 : Nat) : Int) + o) (hp : (((pc + 1 : Nat) : Int) + o).toNat = pc') (hq : z < x) (k : own_G B n0 Q kc ks cells slots h pc' Ls st) : own_G B n0 Q kc ks cells slots h pc Ls (.long z :: .long x :: st) := by
  obtain ⟨p, l, e, R, s, m, args, below, meth, c⟩ := B
  obtain ⟨rfl, rfl, hx, hZ, hown, hby, hml, hrt, hlk, hnm, hw⟩ := H
  intro T locs c1 s1 X F hc hs eT
  exact own_go (fun t q => XT.lcmp X.here hx rfl (hb hby hd0) rfl (XS.ifYes X.here hx rfl rfl (hb hby hd) rfl (XT.ll_gt_t hq) ho hp q)) (k T locs c1 s1 X F hc hs eT)
theorem own_lcmpgt_f (H : own_Ok B Z a0 l R y code N ret) {x z : Int64} {o : Int} (hd0 : decode code pc = .ok (.lcmp, 1)) (hd : decode code (pc + 1) = .ok (.ifCond .gt o, 3)) (hq : ¬ z < x) (k : own_G B n0 Q kc ks cells slots h (pc + 4) Ls st) : own_G B n0 Q kc ks cells slots h pc Ls (.long z :: .long x :: st) := by
  obtain ⟨p, l, e, R, s, m, args, below, meth, c⟩ := B
  obtain ⟨rfl, rfl, hx, hZ, hown, hby, hml, hrt, hlk, hnm, hw⟩ := H
  intro T locs c1 s1 X F hc hs eT
  exact own_go (fun t q => XT.lcmp X.here hx rfl (hb hby hd0) rfl (XS.ifNo X.here hx rfl (hb hby hd) rfl (XT.ll_gt_f hq) q)) (k T locs c1 s1 X F hc hs eT)
theorem own_ifle_t (H : own_Ok B Z a0 l R y code N ret) {x : Int32} {o : Int} (hd : decode code pc = .ok (.ifCond .le o, 3)) (ho : 0 ≤ (pc : Int) + o) (hp : ((pc : Int) + o).toNat = pc') (hq : ¬ 0 < x) (k : own_G B n0 Q kc ks cells slots h pc' Ls st) : own_G B n0 Q kc ks cells slots h pc Ls (.int x :: st) := by
  obtain ⟨p, l, e, R, s, m, args, below, meth, c⟩ := B
  obtain ⟨rfl, rfl, hx, hZ, hown, hby, hml, hrt, hlk, hnm, hw⟩ := H
  intro T locs c1 s1 X F hc hs eT
  exact own_go (fun t q => XS.ifYes X.here hx rfl rfl (hb hby hd) rfl (XT.i0_le_t hq) ho hp q) (k T locs c1 s1 X F hc hs eT)
theorem own_ifle_f (H : own_Ok B Z a0 l R y code N ret) {x : Int32} {o : Int} (hd : decode code pc = .ok (.ifCond .le o, 3)) (hq : 0 < x) (k : own_G B n0 Q kc ks cells slots h (pc + 3) Ls st) : own_G B n0 Q kc ks cells slots h pc Ls (.int x :: st) := by
  obtain ⟨p, l, e, R, s, m, args, below, meth, c⟩ := B
  obtain ⟨rfl, rfl, hx, hZ, hown, hby, hml, hrt, hlk, hnm, hw⟩ := H
  intro T locs c1 s1 X F hc hs eT
  exact own_go (fun t q => XS.ifNo X.here hx rfl (hb hby hd) rfl (XT.i0_le_f hq) q) (k T locs c1 s1 X F hc hs eT)
theorem own_icmple_t (H : own_Ok B Z a0 l R y code N ret) {x z : Int32} {o : Int} (hd : decode code pc = .ok (.if_icmp .le o, 3)) (ho : 0 ≤ (pc : Int) + o) (hp : ((pc : Int) + o).toNat = pc') (hq : ¬ z < x) (k : own_G B n0 Q kc ks cells slots h pc' Ls st) : own_G B n0 Q kc ks cells slots h pc Ls (.int z :: .int x :: st) := by
  obtain ⟨p, l, e, R, s, m, args, below, meth, c⟩ := B
  obtain ⟨rfl, rfl, hx, hZ, hown, hby, hml, hrt, hlk, hnm, hw⟩ := H
  intro T locs c1 s1 X F hc hs eT
  exact own_go (fun t q => XS.icmpYes X.here hx rfl rfl (hb hby hd) rfl (XT.ii_le_t hq) ho hp q) (k T locs c1 s1 X F hc hs eT)
theorem own_icmple_f (H : own_Ok B Z a0 l R y code N ret) {x z : Int32} {o : Int} (hd : decode code pc = .ok (.if_icmp .le o, 3)) (hq : z < x) (k : own_G B n0 Q kc ks cells slots h (pc + 3) Ls st) : own_G B n0 Q kc ks cells slots h pc Ls (.int z :: .int x :: st) := by
  obtain ⟨p, l, e, R, s, m, args, below, meth, c⟩ := B
  obtain ⟨rfl, rfl, hx, hZ, hown, hby, hml, hrt, hlk, hnm, hw⟩ := H
  intro T locs c1 s1 X F hc hs eT
  exact own_go (fun t q => XS.icmpNo X.here hx rfl (hb hby hd) rfl (XT.ii_le_f hq) q) (k T locs c1 s1 X F hc hs eT)
theorem own_lcmple_t (H : own_Ok B Z a0 l R y code N ret) {x z : Int64} {o : Int} (hd0 : decode code pc = .ok (.lcmp, 1)) (hd : decode code (pc + 1) = .ok (.ifCond .le o, 3)) (ho : 0 ≤ ((pc + 1 : Nat) : Int) + o) (hp : (((pc + 1 : Nat) : Int) + o).toNat = pc') (hq : ¬ z < x) (k : own_G B n0 Q kc ks cells slots h pc' Ls st) : own_G B n0 Q kc ks cells slots h pc Ls (.long z :: .long x :: st) := by
  obtain ⟨p, l, e, R, s, m, args, below, meth, c⟩ := B
  obtain ⟨rfl, rfl, hx, hZ, hown, hby, hml, hrt, hlk, hnm, hw⟩ := H
  intro T locs c1 s1 X F hc hs eT
  exact own_go (fun t q => XT.lcmp X.here hx rfl (hb hby hd0) rfl (XS.ifYes X.here hx rfl rfl (hb hby hd) rfl (XT.ll_le_t hq) ho hp q)) (k T locs c1 s1 X F hc hs eT)
theorem own_lcmple_f (H : own_Ok B Z a0 l R y code N ret) {x z : Int64} {o : Int} (hd0 : decode code pc = .ok (.lcmp, 1)) (hd : decode code (pc + 1) = .ok (.ifCond .le o, 3)) (hq : z < x) (k : own_G B n0 Q kc ks cells slots h (pc + 4) Ls st) : own_G B n0 Q kc ks cells slots h pc Ls (.long z :: .long x :: st) := by
  obtain ⟨p, l, e, R, s, m, args, below, meth, c⟩ := B
  obtain ⟨rfl, rfl, hx, hZ, hown, hby, hml, hrt, hlk, hnm, hw⟩ := H
  intro T locs c1 s1 X F hc hs eT
  exact own_go (fun t q => XT.lcmp X.here hx rfl (hb hby hd0) rfl (XS.ifNo X.here hx rfl (hb hby hd) rfl (XT.ll_le_f hq) q)) (k T locs c1 s1 X F hc hs eT)
theorem own_acmpeq_t (H : own_Ok B Z a0 l R y code N ret) {x z : Value} {o : Int} (hd : decode code pc = .ok (.if_acmp .eq o, 3)) (ho : 0 ≤ (pc : Int) + o) (hp : ((pc : Int) + o).toNat = pc') (h1 : x.isRef = true) (h2 : z.isRef = true) (hq : x = z) (k : own_G B n0 Q kc ks cells slots h pc' Ls st) : own_G B n0 Q kc ks cells slots h pc Ls (z :: x :: st) := by
  obtain ⟨p, l, e, R, s, m, args, below, meth, c⟩ := B
  obtain ⟨rfl, rfl, hx, hZ, hown, hby, hml, hrt, hlk, hnm, hw⟩ := H
  intro T locs c1 s1 X F hc hs eT
  exact own_go (fun t q => XT.acmpYes X.here hx rfl rfl (hb hby hd) rfl h1 h2 (XT.aa_eq_t hq) ho hp q) (k T locs c1 s1 X F hc hs eT)
theorem own_acmpeq_f (H : own_Ok B Z a0 l R y code N ret) {x z : Value} {o : Int} (hd : decode code pc = .ok (.if_acmp .eq o, 3)) (h1 : x.isRef = true) (h2 : z.isRef = true) (hq : ¬ x = z) (k : own_G B n0 Q kc ks cells slots h (pc + 3) Ls st) : own_G B n0 Q kc ks cells slots h pc Ls (z :: x :: st) := by
  obtain ⟨p, l, e, R, s, m, args, below, meth, c⟩ := B
  obtain ⟨rfl, rfl, hx, hZ, hown, hby, hml, hrt, hlk, hnm, hw⟩ := H
  intro T locs c1 s1 X F hc hs eT
  exact own_go (fun t q => XT.acmpNo X.here hx rfl (hb hby hd) rfl h1 h2 (XT.aa_eq_f hq) q) (k T locs c1 s1 X F hc hs eT)
theorem own_acmpne_t (H : own_Ok B Z a0 l R y code N ret) {x z : Value} {o : Int} (hd : decode code pc = .ok (.if_acmp .ne o, 3)) (ho : 0 ≤ (pc : Int) + o) (hp : ((pc : Int) + o).toNat = pc') (h1 : x.isRef = true) (h2 : z.isRef = true) (hq : ¬ x = z) (k : own_G B n0 Q kc ks cells slots h pc' Ls st) : own_G B n0 Q kc ks cells slots h pc Ls (z :: x :: st) := by
  obtain ⟨p, l, e, R, s, m, args, below, meth, c⟩ := B
  obtain ⟨rfl, rfl, hx, hZ, hown, hby, hml, hrt, hlk, hnm, hw⟩ := H
  intro T locs c1 s1 X F hc hs eT
  exact own_go (fun t q => XT.acmpYes X.here hx rfl rfl (hb hby hd) rfl h1 h2 (XT.aa_ne_t hq) ho hp q) (k T locs c1 s1 X F hc hs eT)
theorem own_acmpne_f (H : own_Ok B Z a0 l R y code N ret) {x z : Value} {o : Int} (hd : decode code pc = .ok (.if_acmp .ne o, 3)) (h1 : x.isRef = true) (h2 : z.isRef = true) (hq : x = z) (k : own_G B n0 Q kc ks cells slots h (pc + 3) Ls st) : own_G B n0 Q kc ks cells slots h pc Ls (z :: x :: st) := by
  obtain ⟨p, l, e, R, s, m, args, below, meth, c⟩ := B
  obtain ⟨rfl, rfl, hx, hZ, hown, hby, hml, hrt, hlk, hnm, hw⟩ := H
  intro T locs c1 s1 X F hc hs eT
  exact own_go (fun t q => XT.acmpNo X.here hx rfl (hb hby hd) rfl h1 h2 (XT.aa_ne_f hq) q) (k T locs c1 s1 X F hc hs eT)
theorem own_ifnull_t (H : own_Ok B Z a0 l R y code N ret) {x : Value} {o : Int} (hd : decode code pc = .ok (.ifnull o, 3)) (ho : 0 ≤ (pc : Int) + o) (hp : ((pc : Int) + o).toNat = pc') (h1 : x.isRef = true) (hq : x = .null) (k : own_G B n0 Q kc ks cells slots h pc' Ls st) : own_G B n0 Q kc ks cells slots h pc Ls (x :: st) := by
  obtain ⟨p, l, e, R, s, m, args, below, meth, c⟩ := B
  obtain ⟨rfl, rfl, hx, hZ, hown, hby, hml, hrt, hlk, hnm, hw⟩ := H
  intro T locs c1 s1 X F hc hs eT
  exact own_go (fun t q => XT.nullYes X.here hx rfl rfl (hb hby hd) rfl hq ho hp q) (k T locs c1 s1 X F hc hs eT)
theorem own_ifnull_f (H : own_Ok B Z a0 l R y code N ret) {x : Value} {o : Int} (hd : decode code pc = .ok (.ifnull o, 3)) (h1 : x.isRef = true) (hq : ¬ x = .null) (k : own_G B n0 Q kc ks cells slots h (pc + 3) Ls st) : own_G B n0 Q kc ks cells slots h pc Ls (x :: st) := by
  obtain ⟨p, l, e, R, s, m, args, below, meth, c⟩ := B
  obtain ⟨rfl, rfl, hx, hZ, hown, hby, hml, hrt, hlk, hnm, hw⟩ := H
  intro T locs c1 s1 X F hc hs eT
  exact own_go (fun t q => XT.nullNo X.here hx rfl (hb hby hd) rfl h1 hq q) (k T locs c1 s1 X F hc hs eT)
theorem own_ifnonnull_t (H : own_Ok B Z a0 l R y code N ret) {x : Value} {o : Int} (hd : decode code pc = .ok (.ifnonnull o, 3)) (ho : 0 ≤ (pc : Int) + o) (hp : ((pc : Int) + o).toNat = pc') (h1 : x.isRef = true) (hq : ¬ x = .null) (k : own_G B n0 Q kc ks cells slots h pc' Ls st) : own_G B n0 Q kc ks cells slots h pc Ls (x :: st) := by
  obtain ⟨p, l, e, R, s, m, args, below, meth, c⟩ := B
  obtain ⟨rfl, rfl, hx, hZ, hown, hby, hml, hrt, hlk, hnm, hw⟩ := H
  intro T locs c1 s1 X F hc hs eT
  exact own_go (fun t q => XT.nonnullYes X.here hx rfl rfl (hb hby hd) rfl h1 hq ho hp q) (k T locs c1 s1 X F hc hs eT)
theorem own_ifnonnull_f (H : own_Ok B Z a0 l R y code N ret) {x : Value} {o : Int} (hd : decode code pc = .ok (.ifnonnull o, 3)) (h1 : x.isRef = true) (hq : x = .null) (k : own_G B n0 Q kc ks cells slots h (pc + 3) Ls st) : own_G B n0 Q kc ks cells slots h pc Ls (x :: st) := by
  obtain ⟨p, l, e, R, s, m, args, below, meth, c⟩ := B
  obtain ⟨rfl, rfl, hx, hZ, hown, hby, hml, hrt, hlk, hnm, hw⟩ := H
  intro T locs c1 s1 X F hc hs eT
  exact own_go (fun t q => XT.nonnullNo X.here hx rfl (hb hby hd) rfl hq q) (k T locs c1 s1 X F hc hs eT)
theorem own_ldcI (H : own_Ok B Z a0 l R y code N ret) {i w : Nat} {v : Int32} (q : tables_1[w]? = some (Jvm.Cond.constant y.cls i v)) (hd : decode code pc = .ok (.ldc i, 2)) (k : own_G B n0 Q kc ks cells slots h (pc + 2) Ls (.int v :: st)) : own_G B n0 Q kc ks cells slots h pc Ls st := by
  obtain ⟨p, l, e, R, s, m, args, below, meth, c⟩ := B
  obtain ⟨rfl, rfl, hx, hZ, hown, hby, hml, hrt, hlk, hnm, hw⟩ := H
  intro T locs c1 s1 X F hc hs eT
  exact own_go (fun t r => X.ldcInt hx hown (mvT hZ (hw _ _ q)) (g := mkF m pc Ls st) rfl (hb hby hd) _ r) (k T locs c1 s1 X F hc hs eT)
theorem own_ldcwI (H : own_Ok B Z a0 l R y code N ret) {i w : Nat} {v : Int32} (q : tables_1[w]? = some (Jvm.Cond.constant y.cls i v)) (hd : decode code pc = .ok (.ldc_w i, 3)) (k : own_G B n0 Q kc ks cells slots h (pc + 3) Ls (.int v :: st)) : own_G B n0 Q kc ks cells slots h pc Ls st := by
  obtain ⟨p, l, e, R, s, m, args, below, meth, c⟩ := B
  obtain ⟨rfl, rfl, hx, hZ, hown, hby, hml, hrt, hlk, hnm, hw⟩ := H
  intro T locs c1 s1 X F hc hs eT
  exact own_go (fun t r => X.ldcwInt hx hown (mvT hZ (hw _ _ q)) (g := mkF m pc Ls st) rfl (hb hby hd) _ r) (k T locs c1 s1 X F hc hs eT)
theorem own_ldc2J (H : own_Ok B Z a0 l R y code N ret) {i w : Nat} {v : Int64} (q : tables_1[w]? = some (Jvm.Cond.constantLong y.cls i v)) (hd : decode code pc = .ok (.ldc2_w i, 3)) (k : own_G B n0 Q kc ks cells slots h (pc + 3) Ls (.long v :: st)) : own_G B n0 Q kc ks cells slots h pc Ls st := by
  obtain ⟨p, l, e, R, s, m, args, below, meth, c⟩ := B
  obtain ⟨rfl, rfl, hx, hZ, hown, hby, hml, hrt, hlk, hnm, hw⟩ := H
  intro T locs c1 s1 X F hc hs eT
  exact own_go (fun t r => X.ldc2Long hx hown (mvT hZ (hw _ _ q)) (g := mkF m pc Ls st) rfl (hb hby hd) _ r) (k T locs c1 s1 X F hc hs eT)
theorem own_ireturn {t : FieldType} (H : own_Ok B Z a0 l R y code N (some t)) {z : Int32} (ht : t = .int ∨ t = .boolean ∨ t = .byte ∨ t = .char ∨ t = .short) (hn : narrow t (.int z) = .int z) (hd : decode code pc = .ok (.ireturn, 1)) (hkc : cells ≤ kc) (hks : slots ≤ ks) (hQ : Q (some (.int z)) h) : own_G B n0 Q kc ks cells slots h pc Ls (.int z :: st) := by
  obtain ⟨p, l, e, R, s, m, args, below, meth, c⟩ := B
  obtain ⟨rfl, rfl, hx, hZ, hown, hby, hml, hrt, hlk, hnm, hw⟩ := H
  intro T locs c1 s1 X F hc hs eT
  obtain ⟨fs, hr, hrun, hended, hW, hsame⟩ := X.leave (v := some (.int z)) (fun h => by rw [hrt] at h; cases h) hlk
  exact ⟨_, _, retOut X hx hrt hn (Or.inl ⟨rfl, ht, _, rfl⟩) (hb hby hd) hr, hrun, hended, _, _, rfl, ⟨by show Q _ T.heap; rw [eT]; exact hQ, F⟩, ⟨_, rfl⟩, hW, hsame.mono (Nat.le_trans hc hkc) (Nat.le_trans hs hks)⟩
theorem own_lreturn (H : own_Ok B Z a0 l R y code N (some .long)) {z : Int64} (hd : decode code pc = .ok (.lreturn, 1)) (hkc : cells ≤ kc) (hks : slots ≤ ks) (hQ : Q (some (.long z)) h) : own_G B n0 Q kc ks cells slots h pc Ls (.long z :: st) := by
  obtain ⟨p, l, e, R, s, m, args, below, meth, c⟩ := B
  obtain ⟨rfl, rfl, hx, hZ, hown, hby, hml, hrt, hlk, hnm, hw⟩ := H
  intro T locs c1 s1 X F hc hs eT
  obtain ⟨fs, hr, hrun, hended, hW, hsame⟩ := X.leave (v := some (.long z)) (fun h => by rw [hrt] at h; cases h) hlk
  exact ⟨_, _, retOut X hx hrt rfl (Or.inr (Or.inl ⟨rfl, rfl, _, rfl⟩)) (hb hby hd) hr, hrun, hended, _, _, rfl, ⟨by show Q _ T.heap; rw [eT]; exact hQ, F⟩, ⟨_, rfl⟩, hW, hsame.mono (Nat.le_trans hc hkc) (Nat.le_trans hs hks)⟩
theorem own_areturn {t : FieldType} (H : own_Ok B Z a0 l R y code N (some t)) (ht : t.isReference = true) {z : Value} (hz : z.isRef = true) (hn : narrow t z = z) (hd : decode code pc = .ok (.areturn, 1)) (hkc : cells ≤ kc) (hks : slots ≤ ks) (hQ : Q (some z) h) : own_G B n0 Q kc ks cells slots h pc Ls (z :: st) := by
  obtain ⟨p, l, e, R, s, m, args, below, meth, c⟩ := B
  obtain ⟨rfl, rfl, hx, hZ, hown, hby, hml, hrt, hlk, hnm, hw⟩ := H
  intro T locs c1 s1 X F hc hs eT
  obtain ⟨fs, hr, hrun, hended, hW, hsame⟩ := X.leave (v := some z) (fun h => by rw [hrt] at h; cases h) hlk
  exact ⟨_, _, retOut X hx hrt hn (Or.inr (Or.inr (Or.inr (Or.inr ⟨rfl, ht, hz⟩)))) (hb hby hd) hr, hrun, hended, _, _, rfl, ⟨by show Q _ T.heap; rw [eT]; exact hQ, F⟩, ⟨_, rfl⟩, hW, hsame.mono (Nat.le_trans hc hkc) (Nat.le_trans hs hks)⟩
theorem own_return (H : own_Ok B Z a0 l R y code N none) (hd : decode code pc = .ok (.return_, 1)) (hkc : cells ≤ kc) (hks : slots ≤ ks) (hQ : Q none h) : own_G B n0 Q kc ks cells slots h pc Ls [] := by
  obtain ⟨p, l, e, R, s, m, args, below, meth, c⟩ := B
  obtain ⟨rfl, rfl, hx, hZ, hown, hby, hml, hrt, hlk, hnm, hw⟩ := H
  intro T locs c1 s1 X F hc hs eT
  obtain ⟨fs, hr, hrun, hended, hW, hsame⟩ := X.leave (v := none) (fun h => rfl) hlk
  exact ⟨_, _, X.returnOut hx hrt (hb hby hd) hr, hrun, hended, _, _, rfl, ⟨by show Q _ T.heap; rw [eT]; exact hQ, F⟩, ⟨_, rfl⟩, hW, hsame.mono (Nat.le_trans hc hkc) (Nat.le_trans hs hks)⟩
theorem own_getfield (H : own_Ok B Z a0 l R y code N ret) {O n d : String} {i w : Nat} (q : tables_1[w]? = some (Jvm.Cond.fieldLink y.cls i O n d)) {a : Addr} {v : Value} (Fd : Fld Z h a O n d v) (hd : decode code pc = .ok (.getfield i, 3)) (k : own_G B n0 Q kc ks cells slots h (pc + 3) Ls (v :: st)) : own_G B n0 Q kc ks cells slots h pc Ls (.ref a :: st) := by
  obtain ⟨p, l, e, R, s, m, args, below, meth, c⟩ := B
  obtain ⟨rfl, rfl, hx, hZ, hown, hby, hml, hrt, hlk, hnm, hw⟩ := H
  intro T locs c1 s1 X F hc hs eT
  obtain ⟨T', X', e', s'⟩ := getF X hx hZ hown (host := "") (Or.inl (hw _ _ q)) Via.refl eT Fd (g := mkF m pc Ls (.ref a :: st)) rfl rfl (hb hby hd)
  exact own_go s' (k T' locs c1 s1 X' F hc hs e')
theorem own_getstatic (H : own_Ok B Z a0 l R y code N ret) {O n d : String} {i w : Nat} (q : tables_1[w]? = some (Jvm.Cond.fieldLink y.cls i O n d)) {v : Value} (Fd : Sta Z h O n d v) (hd : decode code pc = .ok (.getstatic i, 3)) (k : own_G B n0 Q kc ks cells slots h (pc + 3) Ls (v :: st)) : own_G B n0 Q kc ks cells slots h pc Ls st := by
  obtain ⟨p, l, e, R, s, m, args, below, meth, c⟩ := B
  obtain ⟨rfl, rfl, hx, hZ, hown, hby, hml, hrt, hlk, hnm, hw⟩ := H
  intro T locs c1 s1 X F hc hs eT
  obtain ⟨T', X', e', s'⟩ := getS X hx hZ hown (host := "") (hw _ _ q) Via.refl eT Fd (g := mkF m pc Ls st) rfl (hb hby hd)
  exact own_go s' (k T' locs c1 s1 X' F hc hs e')
theorem own_putfield (H : own_Ok B Z a0 l R y code N ret) {O n d C : String} {i w wi kk : Nat} {ty : FieldType} (q : tables_1[w]? = some (Jvm.Cond.fieldLink y.cls i O n d)) {a : Addr} {v old : Value} (Fd : Fld Z h a O n d old) (E : Exa Z h a C) (ha : n0 ≤ a)
    (Lw : (Jvm.Cond.lays C O n d).before a0 Z = true ∨ ((Jvm.Cond.laysFinal C O n d).before a0 Z = true ∧ y.cls = O ∧ y.name = "<init>")) (qi : tables_1[wi]? = some (Jvm.Cond.instantiable C kk)) (hty : parseFieldDescriptor d = some ty) (hn : narrow ty v = v) (hf : fits ty v = true)
    (hd : decode code pc = .ok (.putfield i, 3)) (k : ∀ h', Wr h h' a (Jvm.RoadKit.slotOf Z O n d) v → own_G B n0 Q kc ks cells slots h' (pc + 3) Ls st) : own_G B n0 Q kc ks cells slots h pc Ls (v :: .ref a :: st) := by
  obtain ⟨p, l, e, R, s, m, args, below, meth, c⟩ := B
  obtain ⟨rfl, rfl, hx, hZ, hown, hby, hml, hrt, hlk, hnm, hw⟩ := H
  intro T locs c1 s1 X F hc hs eT
  obtain ⟨T', h', X', e', W', s'⟩ := putF X hx hZ hown (host := "") (Or.inl (hw _ _ q)) Via.refl eT Fd E (Lw.imp id fun z => ⟨z.1, z.2.1, hnm.trans z.2.2⟩) (hw _ _ qi) hty hn hf (g := mkF m pc Ls (v :: .ref a :: st)) rfl rfl (hb hby hd)
  exact own_go s' (k h' W' T' _ c1 s1 X' (Fr.snoc X' F ha) hc hs e')
theorem own_new (H : own_Ok B Z a0 l R y code N ret) {C : String} {i n w wi wz : Nat} (q : tables_1[w]? = some (Jvm.Cond.classLink y.cls i C)) (qi : tables_1[wi]? = some (Jvm.Cond.instantiable C n)) (qz : tables_1[wz]? = some (Jvm.Cond.initialized C)) (hd : decode code pc = .ok (.new i, 3)) (hkc : cells + 1 ≤ R.cells) (hks : slots + n ≤ R.slots)
    (k : ∀ h' a, a = h.size → Ext h h' → Exa Z h' a C → (∀ {O nm d : String} {ty : FieldType}, Laid Z a0 C O nm d → parseFieldDescriptor d = some ty → Fld Z h' a O nm d (defaultValue ty)) → own_G B n0 Q kc ks (cells + 1) (slots + n) h' (pc + 3) Ls (.ref a :: st)) : own_G B n0 Q kc ks cells slots h pc Ls st := by
  obtain ⟨p, l, e, R, s, m, args, below, meth, c⟩ := B
  obtain ⟨rfl, rfl, hx, hZ, hown, hby, hml, hrt, hlk, hnm, hw⟩ := H
  intro T locs c1 s1 X F hc hs eT
  obtain ⟨T', h', X', e', E', A', D', -, s'⟩ := newO X hx hZ hown (hw _ _ q) (hw _ _ qi) (hw _ _ qz) eT (g := mkF m pc Ls st) rfl (hb hby hd) (Nat.le_trans (Nat.add_le_add_right hc 1) hkc) (Nat.le_trans (Nat.add_le_add_right hs n) hks)
  exact own_go s' (k h' h.size rfl E' A' D' T' locs _ _ X' F (Nat.add_le_add_right hc 1) (Nat.add_le_add_right hs n) e')
theorem own_newarray (H : own_Ok B Z a0 l R y code N ret) {aty : ArrayType} {w : Nat} (q : tables_1[w]? = some (Jvm.Cond.arrayClass (newarray.typeOf aty))) {n : Int32} (hn : ¬ n < 0) (cap : Nat) (hcap : n.toNatClampNeg ≤ cap) (hcb : cap * 8 ≤ 536870912) (hd : decode code pc = .ok (.newarray aty, 2)) (hkc : cells + 1 ≤ R.cells) (hks : slots + cap ≤ R.slots)
    (k : ∀ h' a kA, a = h.size → Ext h h' → Arv Z h' a kA (newarray.typeOf aty) n [] (defaultValue (newarray.typeOf aty)) → own_G B n0 Q kc ks (cells + 1) (slots + cap) h' (pc + 2) Ls (.ref a :: st)) : own_G B n0 Q kc ks cells slots h pc Ls (.int n :: st) := by
  obtain ⟨p, l, e, R, s, m, args, below, meth, c⟩ := B
  obtain ⟨rfl, rfl, hx, hZ, hown, hby, hml, hrt, hlk, hnm, hw⟩ := H
  intro T locs c1 s1 X F hc hs eT
  obtain ⟨T', h', kA, X', e', E', A', s'⟩ := newP X hx hZ (hw _ _ q) eT (g := mkF m pc Ls (.int n :: st)) rfl (hb hby hd) rfl hn hcap hcb (Nat.le_trans (Nat.add_le_add_right hc 1) hkc) (Nat.le_trans (Nat.add_le_add_right hs cap) hks)
  exact own_go s' (k h' h.size kA rfl E' (Arv.new A' hn) T' locs _ _ X' F (Nat.add_le_add_right hc 1) (Nat.add_le_add_right hs cap) e')
theorem own_anewarray (H : own_Ok B Z a0 l R y code N ret) {C : String} {i w w2 : Nat} (q : tables_1[w]? = some (Jvm.Cond.classLink y.cls i C)) (q2 : tables_1[w2]? = some (Jvm.Cond.arrayOver (.object C))) {n : Int32} (hn : ¬ n < 0) (cap : Nat) (hcap : n.toNatClampNeg ≤ cap) (hcb : cap * 8 ≤ 536870912) (hd : decode code pc = .ok (.anewarray i, 3)) (hkc : cells + 1 ≤ R.cells) (hks : slots + cap ≤ R.slots)
    (k : ∀ h' a kA, a = h.size → Ext h h' → Arv Z h' a kA (.object C) n [] .null → Ovr Z kA C → own_G B n0 Q kc ks (cells + 1) (slots + cap) h' (pc + 3) Ls (.ref a :: st)) : own_G B n0 Q kc ks cells slots h pc Ls (.int n :: st) := by
  obtain ⟨p, l, e, R, s, m, args, below, meth, c⟩ := B
  obtain ⟨rfl, rfl, hx, hZ, hown, hby, hml, hrt, hlk, hnm, hw⟩ := H
  intro T locs c1 s1 X F hc hs eT
  obtain ⟨T', h', kA, X', e', E', A', O', s'⟩ := newR X hx hZ hown (hw _ _ q) (hw _ _ q2) eT (g := mkF m pc Ls (.int n :: st)) rfl (hb hby hd) rfl hn hcap hcb (Nat.le_trans (Nat.add_le_add_right hc 1) hkc) (Nat.le_trans (Nat.add_le_add_right hs cap) hks)
  exact own_go s' (k h' h.size kA rfl E' (Arv.new A' hn) O' T' locs _ _ X' F (Nat.add_le_add_right hc 1) (Nat.add_le_add_right hs cap) e')
theorem own_iaload (H : own_Ok B Z a0 l R y code N ret) {a : Addr} {cl : Cell} {j : Int32} {v : Value} (A : Arr Z h a cl .int) (hin : ¬ (j < 0 ∨ cl.slots.size ≤ j.toNatClampNeg)) (hv : cl.slots[j.toNatClampNeg]? = some v) (hd : decode code pc = .ok (.iaload, 1)) (k : own_G B n0 Q kc ks cells slots h (pc + 1) Ls (v :: st)) : own_G B n0 Q kc ks cells slots h pc Ls (.int j :: .ref a :: st) := by
  obtain ⟨p, l, e, R, s, m, args, below, meth, c⟩ := B
  obtain ⟨rfl, rfl, hx, hZ, hown, hby, hml, hrt, hlk, hnm, hw⟩ := H
  intro T locs c1 s1 X F hc hs eT
  exact own_go (fun t r => X.iaload hx (j := j) (v := v) (by rw [eT]; exact A.1) (State.isArrayOf_alike hZ.alike A.2.1) A.2.2 hin hv (g := mkF m pc Ls (.int j :: .ref a :: st)) rfl rfl (hb hby hd) _ r) (k T locs c1 s1 X F hc hs eT)
theorem own_laload (H : own_Ok B Z a0 l R y code N ret) {a : Addr} {cl : Cell} {j : Int32} {v : Value} (A : Arr Z h a cl .long) (hin : ¬ (j < 0 ∨ cl.slots.size ≤ j.toNatClampNeg)) (hv : cl.slots[j.toNatClampNeg]? = some v) (hd : decode code pc = .ok (.laload, 1)) (k : own_G B n0 Q kc ks cells slots h (pc + 1) Ls (v :: st)) : own_G B n0 Q kc ks cells slots h pc Ls (.int j :: .ref a :: st) := by
  obtain ⟨p, l, e, R, s, m, args, below, meth, c⟩ := B
  obtain ⟨rfl, rfl, hx, hZ, hown, hby, hml, hrt, hlk, hnm, hw⟩ := H
  intro T locs c1 s1 X F hc hs eT
  exact own_go (fun t r => X.laload hx (j := j) (v := v) (by rw [eT]; exact A.1) (State.isArrayOf_alike hZ.alike A.2.1) A.2.2 hin hv (g := mkF m pc Ls (.int j :: .ref a :: st)) rfl rfl (hb hby hd) _ r) (k T locs c1 s1 X F hc hs eT)
theorem own_caload (H : own_Ok B Z a0 l R y code N ret) {a : Addr} {cl : Cell} {j : Int32} {v : Value} (A : Arr Z h a cl .char) (hin : ¬ (j < 0 ∨ cl.slots.size ≤ j.toNatClampNeg)) (hv : cl.slots[j.toNatClampNeg]? = some v) (hd : decode code pc = .ok (.caload, 1)) (k : own_G B n0 Q kc ks cells slots h (pc + 1) Ls (v :: st)) : own_G B n0 Q kc ks cells slots h pc Ls (.int j :: .ref a :: st) := by
  obtain ⟨p, l, e, R, s, m, args, below, meth, c⟩ := B
  obtain ⟨rfl, rfl, hx, hZ, hown, hby, hml, hrt, hlk, hnm, hw⟩ := H
  intro T locs c1 s1 X F hc hs eT
  exact own_go (fun t r => X.caload hx (j := j) (v := v) (by rw [eT]; exact A.1) (State.isArrayOf_alike hZ.alike A.2.1) A.2.2 hin hv (g := mkF m pc Ls (.int j :: .ref a :: st)) rfl rfl (hb hby hd) _ r) (k T locs c1 s1 X F hc hs eT)
theorem own_baload (H : own_Ok B Z a0 l R y code N ret) {a : Addr} {cl : Cell} {j : Int32} {v : Value} (A : Arr Z h a cl .byte) (hin : ¬ (j < 0 ∨ cl.slots.size ≤ j.toNatClampNeg)) (hv : cl.slots[j.toNatClampNeg]? = some v) (hd : decode code pc = .ok (.baload, 1)) (k : own_G B n0 Q kc ks cells slots h (pc + 1) Ls (v :: st)) : own_G B n0 Q kc ks cells slots h pc Ls (.int j :: .ref a :: st) := by
  obtain ⟨p, l, e, R, s, m, args, below, meth, c⟩ := B
  obtain ⟨rfl, rfl, hx, hZ, hown, hby, hml, hrt, hlk, hnm, hw⟩ := H
  intro T locs c1 s1 X F hc hs eT
  exact own_go (fun t r => X.baloadBytes hx (j := j) (v := v) (by rw [eT]; exact A.1) (State.isArrayOf_alike hZ.alike A.2.1) A.2.2 hin hv (g := mkF m pc Ls (.int j :: .ref a :: st)) rfl rfl (hb hby hd) _ r) (k T locs c1 s1 X F hc hs eT)
theorem own_aaload (H : own_Ok B Z a0 l R y code N ret) {a : Addr} {cl : Cell} {ty : FieldType} {j : Int32} {v : Value} (A : Arr Z h a cl ty) (hty : ty.isReference = true) (hin : ¬ (j < 0 ∨ cl.slots.size ≤ j.toNatClampNeg)) (hv : cl.slots[j.toNatClampNeg]? = some v) (hd : decode code pc = .ok (.aaload, 1)) (k : own_G B n0 Q kc ks cells slots h (pc + 1) Ls (v :: st)) : own_G B n0 Q kc ks cells slots h pc Ls (.int j :: .ref a :: st) := by
  obtain ⟨p, l, e, R, s, m, args, below, meth, c⟩ := B
  obtain ⟨rfl, rfl, hx, hZ, hown, hby, hml, hrt, hlk, hnm, hw⟩ := H
  intro T locs c1 s1 X F hc hs eT
  exact own_go (fun t r => X.aaload hx (j := j) (v := v) (by rw [eT]; exact A.1) (State.isArrayOf_alike hZ.alike A.2.1) hty A.2.2 hin hv (g := mkF m pc Ls (.int j :: .ref a :: st)) rfl rfl (hb hby hd) _ r) (k T locs c1 s1 X F hc hs eT)
theorem own_arraylength (H : own_Ok B Z a0 l R y code N ret) {a : Addr} {cl : Cell} {ty : FieldType} {z : Int32} (A : Arr Z h a cl ty) (S : cl.slots.size = z.toNatClampNeg) (hz : ¬ z < 0) (hd : decode code pc = .ok (.arraylength, 1)) (k : own_G B n0 Q kc ks cells slots h (pc + 1) Ls (.int z :: st)) : own_G B n0 Q kc ks cells slots h pc Ls (.ref a :: st) := by
  obtain ⟨p, l, e, R, s, m, args, below, meth, c⟩ := B
  obtain ⟨rfl, rfl, hx, hZ, hown, hby, hml, hrt, hlk, hnm, hw⟩ := H
  intro T locs c1 s1 X F hc hs eT
  refine own_go (fun t r => X.arraylength hx (by rw [eT]; exact A.1) (State.isArrayOf_alike hZ.alike A.2.1) (g := mkF m pc Ls (.ref a :: st)) rfl rfl (hb hby hd) _ r) ?_
  rw [len_of S hz]
  exact k T locs c1 s1 X F hc hs eT
theorem own_iastore (H : own_Ok B Z a0 l R y code N ret) {a : Addr} {cl : Cell} {j : Int32} {x : Int32} (A : Arr Z h a cl .int) (hin : ¬ (j < 0 ∨ cl.slots.size ≤ j.toNatClampNeg)) (ha : n0 ≤ a) (hd : decode code pc = .ok (.iastore, 1)) (k : ∀ h', Wr h h' a j.toNatClampNeg (.int x) → own_G B n0 Q kc ks cells slots h' (pc + 1) Ls st) : own_G B n0 Q kc ks cells slots h pc Ls (.int x :: .int j :: .ref a :: st) := by
  obtain ⟨p, l, e, R, s, m, args, below, meth, c⟩ := B
  obtain ⟨rfl, rfl, hx, hZ, hown, hby, hml, hrt, hlk, hnm, hw⟩ := H
  intro T locs c1 s1 X F hc hs eT
  obtain ⟨T', h', X', e', W', s'⟩ := stI X hx hZ eT A hin (g := mkF m pc Ls (.int x :: .int j :: .ref a :: st)) rfl rfl (hb hby hd)
  exact own_go s' (k h' W' T' _ c1 s1 X' (Fr.snoc X' F ha) hc hs e')
theorem own_lastore (H : own_Ok B Z a0 l R y code N ret) {a : Addr} {cl : Cell} {j : Int32} {x : Int64} (A : Arr Z h a cl .long) (hin : ¬ (j < 0 ∨ cl.slots.size ≤ j.toNatClampNeg)) (ha : n0 ≤ a) (hd : decode code pc = .ok (.lastore, 1)) (k : ∀ h', Wr h h' a j.toNatClampNeg (.long x) → own_G B n0 Q kc ks cells slots h' (pc + 1) Ls st) : own_G B n0 Q kc ks cells slots h pc Ls (.long x :: .int j :: .ref a :: st) := by
  obtain ⟨p, l, e, R, s, m, args, below, meth, c⟩ := B
  obtain ⟨rfl, rfl, hx, hZ, hown, hby, hml, hrt, hlk, hnm, hw⟩ := H
  intro T locs c1 s1 X F hc hs eT
  obtain ⟨T', h', X', e', W', s'⟩ := stJ X hx hZ eT A hin (g := mkF m pc Ls (.long x :: .int j :: .ref a :: st)) rfl rfl (hb hby hd)
  exact own_go s' (k h' W' T' _ c1 s1 X' (Fr.snoc X' F ha) hc hs e')
theorem own_bastore (H : own_Ok B Z a0 l R y code N ret) {a : Addr} {cl : Cell} {j : Int32} {x : Int32} (A : Arr Z h a cl .byte) (hin : ¬ (j < 0 ∨ cl.slots.size ≤ j.toNatClampNeg)) (ha : n0 ≤ a) (hd : decode code pc = .ok (.bastore, 1)) (k : ∀ h', Wr h h' a j.toNatClampNeg (.int (nar .byte x)) → own_G B n0 Q kc ks cells slots h' (pc + 1) Ls st) : own_G B n0 Q kc ks cells slots h pc Ls (.int x :: .int j :: .ref a :: st) := by
  obtain ⟨p, l, e, R, s, m, args, below, meth, c⟩ := B
  obtain ⟨rfl, rfl, hx, hZ, hown, hby, hml, hrt, hlk, hnm, hw⟩ := H
  intro T locs c1 s1 X F hc hs eT
  obtain ⟨T', h', X', e', W', s'⟩ := stB X hx hZ eT A hin (g := mkF m pc Ls (.int x :: .int j :: .ref a :: st)) rfl rfl (hb hby hd)
  exact own_go s' (k h' W' T' _ c1 s1 X' (Fr.snoc X' F ha) hc hs e')
theorem own_castore (H : own_Ok B Z a0 l R y code N ret) {a : Addr} {cl : Cell} {j : Int32} {x : Int32} (A : Arr Z h a cl .char) (hin : ¬ (j < 0 ∨ cl.slots.size ≤ j.toNatClampNeg)) (ha : n0 ≤ a) (hd : decode code pc = .ok (.castore, 1)) (k : ∀ h', Wr h h' a j.toNatClampNeg (.int (nar .char x)) → own_G B n0 Q kc ks cells slots h' (pc + 1) Ls st) : own_G B n0 Q kc ks cells slots h pc Ls (.int x :: .int j :: .ref a :: st) := by
  obtain ⟨p, l, e, R, s, m, args, below, meth, c⟩ := B
  obtain ⟨rfl, rfl, hx, hZ, hown, hby, hml, hrt, hlk, hnm, hw⟩ := H
  intro T locs c1 s1 X F hc hs eT
  obtain ⟨T', h', X', e', W', s'⟩ := stC X hx hZ eT A hin (g := mkF m pc Ls (.int x :: .int j :: .ref a :: st)) rfl rfl (hb hby hd)
  exact own_go s' (k h' W' T' _ c1 s1 X' (Fr.snoc X' F ha) hc hs e')
theorem own_ialoadV (H : own_Ok B Z a0 l R y code N ret) {a : Addr} {kA : ClassId} {n j : Int32} {vs : List Value} {dv v : Value} (V : Arv Z h a kA .int n vs dv) (h1 : ¬ j < 0) (h2 : j < n) (hv : vs.getD j.toNatClampNeg dv = v) (hd : decode code pc = .ok (.iaload, 1)) (k : own_G B n0 Q kc ks cells slots h (pc + 1) Ls (v :: st)) : own_G B n0 Q kc ks cells slots h pc Ls (.int j :: .ref a :: st) := by
  obtain ⟨cl, A, -, S, M, Hs, -⟩ := V
  exact own_iaload H A (inb_of S ⟨h1, h2⟩) (Hs.at (inb_of S ⟨h1, h2⟩) hv) hd k
theorem own_laloadV (H : own_Ok B Z a0 l R y code N ret) {a : Addr} {kA : ClassId} {n j : Int32} {vs : List Value} {dv v : Value} (V : Arv Z h a kA .long n vs dv) (h1 : ¬ j < 0) (h2 : j < n) (hv : vs.getD j.toNatClampNeg dv = v) (hd : decode code pc = .ok (.laload, 1)) (k : own_G B n0 Q kc ks cells slots h (pc + 1) Ls (v :: st)) : own_G B n0 Q kc ks cells slots h pc Ls (.int j :: .ref a :: st) := by
  obtain ⟨cl, A, -, S, M, Hs, -⟩ := V
  exact own_laload H A (inb_of S ⟨h1, h2⟩) (Hs.at (inb_of S ⟨h1, h2⟩) hv) hd k
theorem own_caloadV (H : own_Ok B Z a0 l R y code N ret) {a : Addr} {kA : ClassId} {n j : Int32} {vs : List Value} {dv v : Value} (V : Arv Z h a kA .char n vs dv) (h1 : ¬ j < 0) (h2 : j < n) (hv : vs.getD j.toNatClampNeg dv = v) (hd : decode code pc = .ok (.caload, 1)) (k : own_G B n0 Q kc ks cells slots h (pc + 1) Ls (v :: st)) : own_G B n0 Q kc ks cells slots h pc Ls (.int j :: .ref a :: st) := by
  obtain ⟨cl, A, -, S, M, Hs, -⟩ := V
  exact own_caload H A (inb_of S ⟨h1, h2⟩) (Hs.at (inb_of S ⟨h1, h2⟩) hv) hd k
theorem own_baloadV (H : own_Ok B Z a0 l R y code N ret) {a : Addr} {kA : ClassId} {n j : Int32} {vs : List Value} {dv v : Value} (V : Arv Z h a kA .byte n vs dv) (h1 : ¬ j < 0) (h2 : j < n) (hv : vs.getD j.toNatClampNeg dv = v) (hd : decode code pc = .ok (.baload, 1)) (k : own_G B n0 Q kc ks cells slots h (pc + 1) Ls (v :: st)) : own_G B n0 Q kc ks cells slots h pc Ls (.int j :: .ref a :: st) := by
  obtain ⟨cl, A, -, S, M, Hs, -⟩ := V
  exact own_baload H A (inb_of S ⟨h1, h2⟩) (Hs.at (inb_of S ⟨h1, h2⟩) hv) hd k
theorem own_aaloadV (H : own_Ok B Z a0 l R y code N ret) {a : Addr} {kA : ClassId} {ty : FieldType} {n j : Int32} {vs : List Value} {dv v : Value} (V : Arv Z h a kA ty n vs dv) (hty : ty.isReference = true) (h1 : ¬ j < 0) (h2 : j < n) (hv : vs.getD j.toNatClampNeg dv = v) (hd : decode code pc = .ok (.aaload, 1)) (k : own_G B n0 Q kc ks cells slots h (pc + 1) Ls (v :: st)) : own_G B n0 Q kc ks cells slots h pc Ls (.int j :: .ref a :: st) := by
  obtain ⟨cl, A, -, S, M, Hs, -⟩ := V
  exact own_aaload H A hty (inb_of S ⟨h1, h2⟩) (Hs.at (inb_of S ⟨h1, h2⟩) hv) hd k
theorem own_arraylengthV (H : own_Ok B Z a0 l R y code N ret) {a : Addr} {kA : ClassId} {ty : FieldType} {n : Int32} {vs : List Value} {dv : Value} (V : Arv Z h a kA ty n vs dv) (hd : decode code pc = .ok (.arraylength, 1)) (k : own_G B n0 Q kc ks cells slots h (pc + 1) Ls (.int n :: st)) : own_G B n0 Q kc ks cells slots h pc Ls (.ref a :: st) := by
  obtain ⟨cl, A, -, S, M, -, -⟩ := V
  exact own_arraylength H A S M hd k
theorem own_iastoreV (H : own_Ok B Z a0 l R y code N ret) {a : Addr} {kA : ClassId} {n j : Int32} {vs : List Value} {dv u : Value} {x : Int32} (V : Arv Z h a kA .int n vs dv) (h1 : ¬ j < 0) (h2 : j < n) (i : Nat) (hj : j.toNatClampNeg = i) (hi : i < vs.length) (ha : n0 ≤ a) (hu : (.int x) = u) (hd : decode code pc = .ok (.iastore, 1)) (k : ∀ h', Wr h h' a j.toNatClampNeg u → Arv Z h' a kA .int n (vs.set i u) dv → own_G B n0 Q kc ks cells slots h' (pc + 1) Ls st) : own_G B n0 Q kc ks cells slots h pc Ls (.int x :: .int j :: .ref a :: st) := by
  subst hu
  obtain ⟨cl, A, q1, S, M, Hs, Fs⟩ := V
  exact own_iastore H A (inb_of S ⟨h1, h2⟩) ha hd fun h' W => k h' W (Arv.set A q1 S M Hs Fs rfl W i hj hi)
theorem own_lastoreV (H : own_Ok B Z a0 l R y code N ret) {a : Addr} {kA : ClassId} {n j : Int32} {vs : List Value} {dv u : Value} {x : Int64} (V : Arv Z h a kA .long n vs dv) (h1 : ¬ j < 0) (h2 : j < n) (i : Nat) (hj : j.toNatClampNeg = i) (hi : i < vs.length) (ha : n0 ≤ a) (hu : (.long x) = u) (hd : decode code pc = .ok (.lastore, 1)) (k : ∀ h', Wr h h' a j.toNatClampNeg u → Arv Z h' a kA .long n (vs.set i u) dv → own_G B n0 Q kc ks cells slots h' (pc + 1) Ls st) : own_G B n0 Q kc ks cells slots h pc Ls (.long x :: .int j :: .ref a :: st) := by
  subst hu
  obtain ⟨cl, A, q1, S, M, Hs, Fs⟩ := V
  exact own_lastore H A (inb_of S ⟨h1, h2⟩) ha hd fun h' W => k h' W (Arv.set A q1 S M Hs Fs rfl W i hj hi)
theorem own_bastoreV (H : own_Ok B Z a0 l R y code N ret) {a : Addr} {kA : ClassId} {n j : Int32} {vs : List Value} {dv u : Value} {x : Int32} (V : Arv Z h a kA .byte n vs dv) (h1 : ¬ j < 0) (h2 : j < n) (i : Nat) (hj : j.toNatClampNeg = i) (hi : i < vs.length) (ha : n0 ≤ a) (hu : (.int (nar .byte x)) = u) (hd : decode code pc = .ok (.bastore, 1)) (k : ∀ h', Wr h h' a j.toNatClampNeg u → Arv Z h' a kA .byte n (vs.set i u) dv → own_G B n0 Q kc ks cells slots h' (pc + 1) Ls st) : own_G B n0 Q kc ks cells slots h pc Ls (.int x :: .int j :: .ref a :: st) := by
  subst hu
  obtain ⟨cl, A, q1, S, M, Hs, Fs⟩ := V
  exact own_bastore H A (inb_of S ⟨h1, h2⟩) ha hd fun h' W => k h' W (Arv.set A q1 S M Hs Fs (fits_nar_byte x) W i hj hi)
theorem own_castoreV (H : own_Ok B Z a0 l R y code N ret) {a : Addr} {kA : ClassId} {n j : Int32} {vs : List Value} {dv u : Value} {x : Int32} (V : Arv Z h a kA .char n vs dv) (h1 : ¬ j < 0) (h2 : j < n) (i : Nat) (hj : j.toNatClampNeg = i) (hi : i < vs.length) (ha : n0 ≤ a) (hu : (.int (nar .char x)) = u) (hd : decode code pc = .ok (.castore, 1)) (k : ∀ h', Wr h h' a j.toNatClampNeg u → Arv Z h' a kA .char n (vs.set i u) dv → own_G B n0 Q kc ks cells slots h' (pc + 1) Ls st) : own_G B n0 Q kc ks cells slots h pc Ls (.int x :: .int j :: .ref a :: st) := by
  subst hu
  obtain ⟨cl, A, q1, S, M, Hs, Fs⟩ := V
  exact own_castore H A (inb_of S ⟨h1, h2⟩) ha hd fun h' W => k h' W (Arv.set A q1 S M Hs Fs (fits_nar_char x) W i hj hi)
theorem own_initObject (H : own_Ok B Z a0 l R y code N ret) {i w1 w2 w3 : Nat} (q1 : tables_1[w1]? = some (Jvm.Cond.methodLink y.cls i Lib.objectInit)) (q2 : tables_1[w2]? = some (Jvm.Cond.instanceMethod Lib.objectInit)) (q3 : tables_1[w3]? = some (Jvm.Cond.code Lib.objectInit ⟨#[0xb1]⟩ 1 none)) {a : Addr} (W : Nat) (hsz : Ls.size = N) (hf : 1 ≤ R.frames) (hW : (st.map fun v => v.category).sum ≤ W) (hl : W + 12 ≤ R.locals)
    (hd : decode code pc = .ok (.invokespecial i, 3)) (k : own_G B n0 Q kc ks cells slots h (pc + 3) Ls st) : own_G B n0 Q kc ks cells slots h pc Ls (.ref a :: st) := by
  obtain ⟨p, l, e, R, s, m, args, below, meth, c⟩ := B
  obtain ⟨rfl, rfl, hx, hZ, hown, hby, hml, hrt, hlk, hnm, hw⟩ := H
  intro T locs c1 s1 X F hc hs eT
  obtain ⟨T', X', e', s'⟩ := initO X hx hZ hown (hw _ _ q1) (hw _ _ q2) (hw _ _ q3) eT (g := mkF m pc Ls (.ref a :: st)) rfl (hsz.trans hml.symm) rfl (hb hby hd) hf (W := W) (by show 2 * 0 + _ ≤ _; omega) hl
  exact own_go s' (k T' locs c1 s1 X' F hc hs e')
theorem own_invokestatic (H : own_Ok B Z a0 l R y code N ret) {i w1 w2 w3 w4 : Nat} {yc : MethodName} {bytes : ByteArray} {maxL : Nat} {rc : Option FieldType} {rm : Room} {Qc : Option Value → Heap → Prop} {argsL rest : List Value} (hM : own_C l Z yc bytes maxL rc rm argsL.toArray h n0 Qc)
    (q1 : tables_1[w1]? = some (Jvm.Cond.methodLink y.cls i yc)) (q2 : tables_1[w2]? = some (Jvm.Cond.static yc)) (qz : tables_1[w3]? = some (Jvm.Cond.initialized yc.cls)) (qc : tables_1[w4]? = some (Jvm.Cond.code yc bytes maxL rc)) {ps : List FieldType} {r : Option FieldType} (hpd : parseMethodDescriptor yc.desc = some ⟨ps, r⟩) (hln : argsL.length = ps.length) (W : Nat) (hne : yc.cls ≠ "java/lang/invoke/MethodHandle" ∧ yc.cls ≠ "java/lang/invoke/VarHandle")
    (hsz : Ls.size = N) (hfr : rm.frames + 1 ≤ R.frames) (hW : (rest.map fun v => v.category).sum ≤ W) (hlo : W + (maxL + 11) + rm.locals ≤ R.locals) (hkc : cells + rm.cells ≤ R.cells) (hks : slots + rm.slots ≤ R.slots) (hst : st = argsL.reverse ++ rest) (hd : decode code pc = .ok (.invokestatic i, 3))
    (k : ∀ v h', Qc v h' → own_G B n0 Q kc ks (cells + rm.cells) (slots + rm.slots) h' (pc + 3) Ls (v.toList ++ rest)) : own_G B n0 Q kc ks cells slots h pc Ls st := by
  obtain ⟨p, l, e, R, s, m, args, below, meth, c⟩ := B
  obtain ⟨rfl, rfl, hx, hZ, hown, hby, hml, hrt, hlk, hnm, hw⟩ := H
  intro T locs c1 s1 X F hc hs eT
  subst hst
  obtain ⟨v', _, ⟨T', L', k', n'⟩, -, X', ⟨Lc', hQ', l', y', z'⟩, s'⟩ := Jvm.LawKit.callS X hx (y := yc) hown (mvT hZ (hw _ _ q1)) (mvT hZ (hw _ _ q2)) (mvT hZ (hw _ _ qz)) (mvT hZ (hw _ _ qc)) hne (backOf (W := W) (bytes := bytes) (rm := rm) (Q := fun v hh L => Qc v hh ∧ Fr n0 L) (h := h) hM hZ (hw _ _ qc) (hw _ _ qz) hfr hlo) (g := mkF m pc Ls (argsL.reverse ++ rest)) rfl (hsz.trans hml.symm) (argsL := argsL) (rest := rest) (lenOf hpd hln) rfl (by show 2 * 0 + _ ≤ _; omega) (hb hby hd) (fun _ _ => ⟨rfl, eT, Nat.le_trans (Nat.add_le_add_right hc _) hkc, Nat.le_trans (Nat.add_le_add_right hs _) hks⟩)
  dsimp only [Pt.U, Pt.locs, Pt.cells, Pt.slots] at X' l' y' z' s' hQ'
  subst l' y' z'
  exact own_go s' (k v' _ hQ'.1 T' _ _ _ X' (F.app hQ'.2) (Nat.add_le_add_right hc _) (Nat.add_le_add_right hs _) rfl)
theorem own_invokespecial (H : own_Ok B Z a0 l R y code N ret) {i w1 w2 w3 w4 : Nat} {yc : MethodName} {bytes : ByteArray} {maxL : Nat} {rm : Room} {Qc : Option Value → Heap → Prop} {a : Addr} {argsL rest : List Value} (hM : own_C l Z yc bytes maxL none rm (.ref a :: argsL).toArray h n0 Qc) (hin : yc.name = "<init>")
    (q1 : tables_1[w1]? = some (Jvm.Cond.methodLink y.cls i yc)) (q2 : tables_1[w2]? = some (Jvm.Cond.instanceMethod yc)) (qz : tables_1[w3]? = some (Jvm.Cond.initialized yc.cls)) (qc : tables_1[w4]? = some (Jvm.Cond.code yc bytes maxL none)) {ps : List FieldType} {r : Option FieldType} (hpd : parseMethodDescriptor yc.desc = some ⟨ps, r⟩) (hln : argsL.length = ps.length) (W : Nat) (hne : yc.cls ≠ "java/lang/invoke/MethodHandle" ∧ yc.cls ≠ "java/lang/invoke/VarHandle")
    (hsz : Ls.size = N) (hfr : rm.frames + 1 ≤ R.frames) (hW : (rest.map fun v => v.category).sum ≤ W) (hlo : W + (maxL + 11) + rm.locals ≤ R.locals) (hkc : cells + rm.cells ≤ R.cells) (hks : slots + rm.slots ≤ R.slots) (hst : st = argsL.reverse ++ .ref a :: rest) (hd : decode code pc = .ok (.invokespecial i, 3))
    (k : ∀ v h', Qc v h' → own_G B n0 Q kc ks (cells + rm.cells) (slots + rm.slots) h' (pc + 3) Ls (v.toList ++ rest)) : own_G B n0 Q kc ks cells slots h pc Ls st := by
  obtain ⟨p, l, e, R, s, m, args, below, meth, c⟩ := B
  obtain ⟨rfl, rfl, hx, hZ, hown, hby, hml, hrt, hlk, hnm, hw⟩ := H
  intro T locs c1 s1 X F hc hs eT
  subst hst
  obtain ⟨v', _, ⟨T', L', k', n'⟩, -, X', ⟨Lc', hQ', l', y', z'⟩, s'⟩ := X.specialBack hx (y := yc) hin hown (mvT hZ (hw _ _ q1)) (mvT hZ (hw _ _ q2)) (mvT hZ (hw _ _ qc)) hne (backOf (W := W) (bytes := bytes) (rm := rm) (Q := fun v hh L => Qc v hh ∧ Fr n0 L) (h := h) hM hZ (hw _ _ qc) (hw _ _ qz) hfr hlo) (g := mkF m pc Ls (argsL.reverse ++ .ref a :: rest)) rfl (hsz.trans hml.symm) (Steps.refl _) (a := a) (argsL := argsL) (rest := rest) (lenOf hpd hln) rfl (by show 2 * 0 + _ ≤ _; omega) (hb hby hd) (fun _ _ => ⟨rfl, eT, Nat.le_trans (Nat.add_le_add_right hc _) hkc, Nat.le_trans (Nat.add_le_add_right hs _) hks⟩)
  dsimp only [Pt.U, Pt.locs, Pt.cells, Pt.slots] at X' l' y' z' s' hQ'
  subst l' y' z'
  exact own_go (fun t q => s'.trans q) (k v' _ hQ'.1 T' _ _ _ X' (F.app hQ'.2) (Nat.add_le_add_right hc _) (Nat.add_le_add_right hs _) rfl)
theorem own_invokevirtual (H : own_Ok B Z a0 l R y code N ret) {i w0 w1 w2 w3 w4 w5 : Nat} {C : String} {yc : MethodName} {bytes : ByteArray} {maxL : Nat} {rc : Option FieldType} {rm : Room} {Qc : Option Value → Heap → Prop} {a : Addr} {argsL rest : List Value} (hM : own_C l Z yc bytes maxL rc rm (.ref a :: argsL).toArray h n0 Qc) (E : Exa Z h a C)
    (q1 : tables_1[w1]? = some (Jvm.Cond.methodLink y.cls i yc)) (q0 : tables_1[w0]? = some (Jvm.Cond.declares yc)) (q5 : tables_1[w5]? = some (Jvm.Cond.selects C yc yc)) (q2 : tables_1[w2]? = some (Jvm.Cond.instanceMethod yc)) (qz : tables_1[w3]? = some (Jvm.Cond.initialized yc.cls)) (qc : tables_1[w4]? = some (Jvm.Cond.code yc bytes maxL rc)) {ps : List FieldType} {r : Option FieldType} (hpd : parseMethodDescriptor yc.desc = some ⟨ps, r⟩) (hln : argsL.length = ps.length) (W : Nat) (hne : yc.cls ≠ "java/lang/invoke/MethodHandle" ∧ yc.cls ≠ "java/lang/invoke/VarHandle")
    (hsz : Ls.size = N) (hfr : rm.frames + 1 ≤ R.frames) (hW : (rest.map fun v => v.category).sum ≤ W) (hlo : W + (maxL + 11) + rm.locals ≤ R.locals) (hkc : cells + rm.cells ≤ R.cells) (hks : slots + rm.slots ≤ R.slots) (hst : st = argsL.reverse ++ .ref a :: rest) (hd : decode code pc = .ok (.invokevirtual i, 3))
    (k : ∀ v h', Qc v h' → own_G B n0 Q kc ks (cells + rm.cells) (slots + rm.slots) h' (pc + 3) Ls (v.toList ++ rest)) : own_G B n0 Q kc ks cells slots h pc Ls st := by
  obtain ⟨p, l, e, R, s, m, args, below, meth, c⟩ := B
  obtain ⟨rfl, rfl, hx, hZ, hown, hby, hml, hrt, hlk, hnm, hw⟩ := H
  intro T locs c1 s1 X F hc hs eT
  subst hst
  obtain ⟨cq, kq, qa, -, qb⟩ := isOf hZ eT E
  obtain ⟨v', _, ⟨T', L', k', n'⟩, -, X', ⟨Lc', hQ', l', y', z'⟩, s'⟩ := X.virtualBack hx (y := yc) (z := yc) hown (mvT hZ (hw _ _ q1)) (mvT hZ (hw _ _ q0)) (notFace_of_selects (args := #[]) (mvT hZ (hw _ _ q5))) (mvT hZ (hw _ _ q5)) (mvT hZ (hw _ _ q2)) hne (backOf (W := W) (bytes := bytes) (rm := rm) (Q := fun v hh L => Qc v hh ∧ Fr n0 L) (h := h) hM hZ (hw _ _ qc) (hw _ _ qz) hfr hlo) qa qb (g := mkF m pc Ls (argsL.reverse ++ .ref a :: rest)) rfl (hsz.trans hml.symm) (Steps.refl _) (argsL := argsL) (rest := rest) (lenOf hpd hln) rfl (by show 2 * 0 + _ ≤ _; omega) (hb hby hd) (fun _ _ => ⟨rfl, eT, Nat.le_trans (Nat.add_le_add_right hc _) hkc, Nat.le_trans (Nat.add_le_add_right hs _) hks⟩)
  dsimp only [Pt.U, Pt.locs, Pt.cells, Pt.slots] at X' l' y' z' s' hQ'
  subst l' y' z'
  exact own_go (fun t q => s'.trans q) (k v' _ hQ'.1 T' _ _ _ X' (F.app hQ'.2) (Nat.add_le_add_right hc _) (Nat.add_le_add_right hs _) rfl)
end Laws
end OwnKit
theorem d1_0 : decode method_3_code 0 = .ok (.lload_n 0, 1) := by decide +kernel
theorem d1_1 : decode method_3_code 1 = .ok (.iload_n 2, 1) := by decide +kernel
theorem d1_2 : decode method_3_code 2 = .ok (.lushr, 1) := by decide +kernel
theorem d1_3 : decode method_3_code 3 = .ok (.ldc2_w 26, 3) := by decide +kernel
theorem d1_6 : decode method_3_code 6 = .ok (.land, 1) := by decide +kernel
theorem d1_7 : decode method_3_code 7 = .ok (.lreturn, 1) := by decide +kernel
theorem own_pl1 : plainFor (⟨"com/example/trailwire/trailwire/http2/BurstLimitExceededByPinLaw", "gap", "(JI)J"⟩ : MethodName) = true := plainFor_of_name (by first | (simp [plainName, overriddenIn]; done) | decide +kernel)
theorem own_pd0 : parseMethodDescriptor "(JI)J" = some ⟨[.long, .int], some .long⟩ := by decide +kernel
def FGap (p1 : Int64) (p2 : Int32) : Int64 := ((XT.ushrL p1 p2) &&& (2147483647 : Int64))
set_option maxHeartbeats 4000000 in
theorem rmGap (l : Launch) (Z : State) (a0 : Array Value) (hw : ∀ (i : Nat) (d : Jvm.Cond), tables_1[i]? = some d → d.before a0 Z = true) (h0 : Heap) (n0 : Nat) (p1 : Int64) (p2 : Int32) :
    own_P l Z (⟨"com/example/trailwire/trailwire/http2/BurstLimitExceededByPinLaw", "gap", "(JI)J"⟩ : MethodName) method_3_code 3 (some .long) (own_rm 0 0) #[(.long p1), (.int p2)] h0 n0 (.long (FGap p1 p2)) := by
  refine own_met (Ls := #[.val (.long p1), .second, .val (.int p2)]) hw own_pl1 (fun m => by first | (simp [entryFrame, mkF, argsToLocals, Value.category]; done) | rfl) ?_
  intro B H
  refine own_lload_n H rfl d1_0 ?_
  refine own_iload_n H rfl d1_1 ?_
  refine own_lushr H rfl d1_2 ?_
  refine own_ldc2J H (w := 5) rfl d1_3 ?_
  refine own_land H rfl d1_6 ?_
  exact own_lreturn H d1_7 (Nat.le_refl _) (Nat.le_refl _) ⟨by show some _ = some _; rw [FGap], rfl⟩
theorem d2_0 : decode prog_1_method_1_code 0 = .ok (.aload_n 0, 1) := by decide +kernel
theorem d2_1 : decode prog_1_method_1_code 1 = .ok (.invokespecial 1, 3) := by decide +kernel
theorem d2_4 : decode prog_1_method_1_code 4 = .ok (.aload_n 0, 1) := by decide +kernel
theorem d2_5 : decode prog_1_method_1_code 5 = .ok (.iload_n 1, 1) := by decide +kernel
theorem d2_6 : decode prog_1_method_1_code 6 = .ok (.putfield 7, 3) := by decide +kernel
theorem d2_9 : decode prog_1_method_1_code 9 = .ok (.aload_n 0, 1) := by decide +kernel
theorem d2_10 : decode prog_1_method_1_code 10 = .ok (.lload_n 2, 1) := by decide +kernel
theorem d2_11 : decode prog_1_method_1_code 11 = .ok (.putfield 13, 3) := by decide +kernel
theorem d2_14 : decode prog_1_method_1_code 14 = .ok (.return_, 1) := by decide +kernel
theorem own_pl2 : plainFor (⟨"com/example/trailwire/trailwire/http2/BurstLimit", "<init>", "(IJ)V"⟩ : MethodName) = true := plainFor_of_name (by first | (simp [plainName, overriddenIn]; done) | decide +kernel)
theorem own_pd1 : parseMethodDescriptor "(IJ)V" = some ⟨[.int, .long], none⟩ := by decide +kernel
set_option maxHeartbeats 4000000 in
theorem rm1 (l : Launch) (Z : State) (a0 : Array Value) (hw : ∀ (i : Nat) (d : Jvm.Cond), tables_1[i]? = some d → d.before a0 Z = true) (h0 : Heap) (n0 : Nat) (a : Addr) (q1 : Int32) (q2 : Int64) (hZ0 : n0 ≤ h0.size) (hA : n0 ≤ a) (hE : Exa Z h0 a "com/example/trailwire/trailwire/http2/BurstLimit") (hF0 : Fld Z h0 a "com/example/trailwire/trailwire/http2/BurstLimit" "events" "I" (.int (0 : Int32))) (hF1 : Fld Z h0 a "com/example/trailwire/trailwire/http2/BurstLimit" "period" "J" (.long (0 : Int64))) (hF2 : Fld Z h0 a "com/example/trailwire/trailwire/http2/BurstLimit" "times" "[J" .null) (hF3 : Fld Z h0 a "com/example/trailwire/trailwire/http2/BurstLimit" "next" "I" (.int (0 : Int32))) (hF4 : Fld Z h0 a "com/example/trailwire/trailwire/http2/BurstLimit" "full" "Z" (.int (0 : Int32))) :
    own_C l Z (⟨"com/example/trailwire/trailwire/http2/BurstLimit", "<init>", "(IJ)V"⟩ : MethodName) prog_1_method_1_code 4 none ({ frames := 1, cells := 0, slots := 0, locals := 12 } : Room) #[(.ref a), (.int q1), (.long q2)] h0 n0 (fun v h' => v = none ∧ Keep h0 h' [a] ∧ Fld Z h' a "com/example/trailwire/trailwire/http2/BurstLimit" "events" "I" (.int q1) ∧ Fld Z h' a "com/example/trailwire/trailwire/http2/BurstLimit" "period" "J" (.long q2) ∧ Fld Z h' a "com/example/trailwire/trailwire/http2/BurstLimit" "times" "[J" .null ∧ Fld Z h' a "com/example/trailwire/trailwire/http2/BurstLimit" "next" "I" (.int (0 : Int32)) ∧ Fld Z h' a "com/example/trailwire/trailwire/http2/BurstLimit" "full" "Z" (.int (0 : Int32))) := by
  refine own_met (Ls := #[.val (.ref a), .val (.int q1), .val (.long q2), .second]) hw own_pl2 (fun m => by first | (simp [entryFrame, mkF, argsToLocals, Value.category]; done) | rfl) ?_
  intro B H
  have hK : Keep h0 h0 [a] := Keep.refl _ _
  refine own_aload_n H rfl rfl d2_0 ?_
  refine own_initObject H (w1 := 12) (w2 := 13) (w3 := 14) rfl rfl rfl 0 rfl (by decide) (Nat.le_of_eq rfl) (by decide) d2_1 ?_
  refine own_aload_n H rfl rfl d2_4 ?_
  refine own_iload_n H rfl d2_5 ?_
  refine own_putfield H (w := 15) (wi := 7) rfl hF0 hE hA (Or.inr ⟨own_w H (i := 16) rfl, rfl, rfl⟩) rfl (ty := .int) (by decide) rfl rfl d2_6 ?_
  intro h1 W2
  have f3 : Exa Z h1 a "com/example/trailwire/trailwire/http2/BurstLimit" := hE.wr W2
  have f4 : Keep h0 h1 [a] := hK.wr W2 (Or.inl (by simp))
  have f5 : n0 ≤ h1.size := by rw [W2.size]; exact hZ0
  have f6 : Fld Z h1 a "com/example/trailwire/trailwire/http2/BurstLimit" "events" "I" (.int q1) := hF0.same W2
  have f7 : Fld Z h1 a "com/example/trailwire/trailwire/http2/BurstLimit" "period" "J" (.long (0 : Int64)) := hF1.other W2 (Or.inr (slot_ne (Or.inr (own_w H (i := 18) rfl)) (Or.inr (own_w H (i := 16) rfl)) (by decide) (t := .long) (t' := .int) (by decide) (by decide)))
  have f8 : Fld Z h1 a "com/example/trailwire/trailwire/http2/BurstLimit" "times" "[J" .null := hF2.other W2 (Or.inr (slot_ne (Or.inl (own_w H (i := 25) rfl)) (Or.inr (own_w H (i := 16) rfl)) (by decide) (t := (.array .long)) (t' := .int) (by decide) (by decide)))
  have f9 : Fld Z h1 a "com/example/trailwire/trailwire/http2/BurstLimit" "next" "I" (.int (0 : Int32)) := hF3.other W2 (Or.inr (slot_ne (Or.inl (own_w H (i := 29) rfl)) (Or.inr (own_w H (i := 16) rfl)) (by decide) (t := .int) (t' := .int) (by decide) (by decide)))
  have f10 : Fld Z h1 a "com/example/trailwire/trailwire/http2/BurstLimit" "full" "Z" (.int (0 : Int32)) := hF4.other W2 (Or.inr (slot_ne (Or.inl (own_w H (i := 27) rfl)) (Or.inr (own_w H (i := 16) rfl)) (by decide) (t := .boolean) (t' := .int) (by decide) (by decide)))
  refine own_aload_n H rfl rfl d2_9 ?_
  refine own_lload_n H rfl d2_10 ?_
  refine own_putfield H (w := 17) (wi := 7) rfl f7 f3 hA (Or.inr ⟨own_w H (i := 18) rfl, rfl, rfl⟩) rfl (ty := .long) (by decide) rfl rfl d2_11 ?_
  intro h11 W12
  have f13 : Exa Z h11 a "com/example/trailwire/trailwire/http2/BurstLimit" := f3.wr W12
  have f14 : Keep h0 h11 [a] := f4.wr W12 (Or.inl (by simp))
  have f15 : n0 ≤ h11.size := by rw [W12.size]; exact f5
  have f16 : Fld Z h11 a "com/example/trailwire/trailwire/http2/BurstLimit" "events" "I" (.int q1) := f6.other W12 (Or.inr (slot_ne (Or.inr (own_w H (i := 16) rfl)) (Or.inr (own_w H (i := 18) rfl)) (by decide) (t := .int) (t' := .long) (by decide) (by decide)))
  have f17 : Fld Z h11 a "com/example/trailwire/trailwire/http2/BurstLimit" "period" "J" (.long q2) := f7.same W12
  have f18 : Fld Z h11 a "com/example/trailwire/trailwire/http2/BurstLimit" "times" "[J" .null := f8.other W12 (Or.inr (slot_ne (Or.inl (own_w H (i := 25) rfl)) (Or.inr (own_w H (i := 18) rfl)) (by decide) (t := (.array .long)) (t' := .long) (by decide) (by decide)))
  have f19 : Fld Z h11 a "com/example/trailwire/trailwire/http2/BurstLimit" "next" "I" (.int (0 : Int32)) := f9.other W12 (Or.inr (slot_ne (Or.inl (own_w H (i := 29) rfl)) (Or.inr (own_w H (i := 18) rfl)) (by decide) (t := .int) (t' := .long) (by decide) (by decide)))
  have f20 : Fld Z h11 a "com/example/trailwire/trailwire/http2/BurstLimit" "full" "Z" (.int (0 : Int32)) := f10.other W12 (Or.inr (slot_ne (Or.inl (own_w H (i := 27) rfl)) (Or.inr (own_w H (i := 18) rfl)) (by decide) (t := .boolean) (t' := .long) (by decide) (by decide)))
  exact own_return H d2_14 (by decide) (by decide) ⟨rfl, f14, f16, f17, f18, f19, f20⟩
theorem d4_0 : decode prog_1_method_2_code 0 = .ok (.aload_n 0, 1) := by decide +kernel
theorem d4_1 : decode prog_1_method_2_code 1 = .ok (.getfield 17, 3) := by decide +kernel
theorem d4_4 : decode prog_1_method_2_code 4 = .ok (.ifnonnull 13, 3) := by decide +kernel
theorem d4_7 : decode prog_1_method_2_code 7 = .ok (.aload_n 0, 1) := by decide +kernel
theorem d4_8 : decode prog_1_method_2_code 8 = .ok (.aload_n 0, 1) := by decide +kernel
theorem d4_9 : decode prog_1_method_2_code 9 = .ok (.getfield 7, 3) := by decide +kernel
theorem d4_12 : decode prog_1_method_2_code 12 = .ok (.newarray .long, 2) := by decide +kernel
theorem d4_14 : decode prog_1_method_2_code 14 = .ok (.putfield 17, 3) := by decide +kernel
theorem d4_17 : decode prog_1_method_2_code 17 = .ok (.aload_n 0, 1) := by decide +kernel
theorem d4_18 : decode prog_1_method_2_code 18 = .ok (.getfield 21, 3) := by decide +kernel
theorem d4_21 : decode prog_1_method_2_code 21 = .ok (.ifCond .eq 26, 3) := by decide +kernel
theorem d4_24 : decode prog_1_method_2_code 24 = .ok (.lload_n 1, 1) := by decide +kernel
theorem d4_25 : decode prog_1_method_2_code 25 = .ok (.aload_n 0, 1) := by decide +kernel
theorem d4_26 : decode prog_1_method_2_code 26 = .ok (.getfield 17, 3) := by decide +kernel
theorem d4_29 : decode prog_1_method_2_code 29 = .ok (.aload_n 0, 1) := by decide +kernel
theorem d4_30 : decode prog_1_method_2_code 30 = .ok (.getfield 25, 3) := by decide +kernel
theorem d4_33 : decode prog_1_method_2_code 33 = .ok (.laload, 1) := by decide +kernel
theorem d4_34 : decode prog_1_method_2_code 34 = .ok (.lsub, 1) := by decide +kernel
theorem d4_35 : decode prog_1_method_2_code 35 = .ok (.aload_n 0, 1) := by decide +kernel
theorem d4_36 : decode prog_1_method_2_code 36 = .ok (.getfield 13, 3) := by decide +kernel
theorem d4_39 : decode prog_1_method_2_code 39 = .ok (.lcmp, 1) := by decide +kernel
theorem d4_40 : decode prog_1_method_2_code 40 = .ok (.ifCond .ge 7, 3) := by decide +kernel
theorem d4_43 : decode prog_1_method_2_code 43 = .ok (.iconst 1, 1) := by decide +kernel
theorem d4_44 : decode prog_1_method_2_code 44 = .ok (.goto 4, 3) := by decide +kernel
theorem d4_47 : decode prog_1_method_2_code 47 = .ok (.iconst 0, 1) := by decide +kernel
theorem d4_48 : decode prog_1_method_2_code 48 = .ok (.istore_n 3, 1) := by decide +kernel
theorem d4_49 : decode prog_1_method_2_code 49 = .ok (.aload_n 0, 1) := by decide +kernel
theorem d4_50 : decode prog_1_method_2_code 50 = .ok (.getfield 17, 3) := by decide +kernel
theorem d4_53 : decode prog_1_method_2_code 53 = .ok (.aload_n 0, 1) := by decide +kernel
theorem d4_54 : decode prog_1_method_2_code 54 = .ok (.getfield 25, 3) := by decide +kernel
theorem d4_57 : decode prog_1_method_2_code 57 = .ok (.lload_n 1, 1) := by decide +kernel
theorem d4_58 : decode prog_1_method_2_code 58 = .ok (.lastore, 1) := by decide +kernel
theorem d4_59 : decode prog_1_method_2_code 59 = .ok (.aload_n 0, 1) := by decide +kernel
theorem d4_60 : decode prog_1_method_2_code 60 = .ok (.aload_n 0, 1) := by decide +kernel
theorem d4_61 : decode prog_1_method_2_code 61 = .ok (.getfield 25, 3) := by decide +kernel
theorem d4_64 : decode prog_1_method_2_code 64 = .ok (.iconst 1, 1) := by decide +kernel
theorem d4_65 : decode prog_1_method_2_code 65 = .ok (.iadd, 1) := by decide +kernel
theorem d4_66 : decode prog_1_method_2_code 66 = .ok (.aload_n 0, 1) := by decide +kernel
theorem d4_67 : decode prog_1_method_2_code 67 = .ok (.getfield 7, 3) := by decide +kernel
theorem d4_70 : decode prog_1_method_2_code 70 = .ok (.irem, 1) := by decide +kernel
theorem d4_71 : decode prog_1_method_2_code 71 = .ok (.putfield 25, 3) := by decide +kernel
theorem d4_74 : decode prog_1_method_2_code 74 = .ok (.aload_n 0, 1) := by decide +kernel
theorem d4_75 : decode prog_1_method_2_code 75 = .ok (.aload_n 0, 1) := by decide +kernel
theorem d4_76 : decode prog_1_method_2_code 76 = .ok (.getfield 21, 3) := by decide +kernel
theorem d4_79 : decode prog_1_method_2_code 79 = .ok (.ifCond .ne 10, 3) := by decide +kernel
theorem d4_82 : decode prog_1_method_2_code 82 = .ok (.aload_n 0, 1) := by decide +kernel
theorem d4_83 : decode prog_1_method_2_code 83 = .ok (.getfield 25, 3) := by decide +kernel
theorem d4_86 : decode prog_1_method_2_code 86 = .ok (.ifCond .ne 7, 3) := by decide +kernel
theorem d4_89 : decode prog_1_method_2_code 89 = .ok (.iconst 1, 1) := by decide +kernel
theorem d4_90 : decode prog_1_method_2_code 90 = .ok (.goto 4, 3) := by decide +kernel
theorem d4_93 : decode prog_1_method_2_code 93 = .ok (.iconst 0, 1) := by decide +kernel
theorem d4_94 : decode prog_1_method_2_code 94 = .ok (.putfield 21, 3) := by decide +kernel
theorem d4_97 : decode prog_1_method_2_code 97 = .ok (.iload_n 3, 1) := by decide +kernel
theorem d4_98 : decode prog_1_method_2_code 98 = .ok (.ireturn, 1) := by decide +kernel
theorem own_pl4 : plainFor (⟨"com/example/trailwire/trailwire/http2/BurstLimit", "exceededBy", "(J)Z"⟩ : MethodName) = true := plainFor_of_name (by first | (simp [plainName, overriddenIn]; done) | decide +kernel)
theorem own_pd2 : parseMethodDescriptor "(J)Z" = some ⟨[.long], some .boolean⟩ := by decide +kernel
set_option maxHeartbeats 4000000 in
theorem rmX1_0_0f (l : Launch) (Z : State) (a0 : Array Value) (hw : ∀ (i : Nat) (d : Jvm.Cond), tables_1[i]? = some d → d.before a0 Z = true) (h0 : Heap) (n0 : Nat) (a : Addr) (now : Int64) (per : Int64) (hZ0 : n0 ≤ h0.size) (hE : Exa Z h0 a "com/example/trailwire/trailwire/http2/BurstLimit") (hF1 : Fld Z h0 a "com/example/trailwire/trailwire/http2/BurstLimit" "events" "I" (.int (1 : Int32))) (hF2 : Fld Z h0 a "com/example/trailwire/trailwire/http2/BurstLimit" "period" "J" (.long per)) (hF3 : Fld Z h0 a "com/example/trailwire/trailwire/http2/BurstLimit" "times" "[J" .null) (hF4 : Fld Z h0 a "com/example/trailwire/trailwire/http2/BurstLimit" "next" "I" (.int (0 : Int32))) (hF5 : Fld Z h0 a "com/example/trailwire/trailwire/http2/BurstLimit" "full" "Z" (.int (0 : Int32))) (hA_a : n0 ≤ a) :
    own_C l Z (⟨"com/example/trailwire/trailwire/http2/BurstLimit", "exceededBy", "(J)Z"⟩ : MethodName) prog_1_method_2_code 4 (some .boolean) ({ frames := 0, cells := 1, slots := 1, locals := 0 } : Room) #[(.ref a), (.long now)] h0 n0 (fun v h' => ∃ (a2 : Addr) (kA3 : ClassId), v = some (.int (0 : Int32)) ∧ Keep h0 h' [a] ∧ n0 ≤ a2 ∧ h0.size ≤ a2 ∧ a2 < h'.size ∧ Exa Z h' a "com/example/trailwire/trailwire/http2/BurstLimit" ∧ Fld Z h' a "com/example/trailwire/trailwire/http2/BurstLimit" "events" "I" (.int (1 : Int32)) ∧ Fld Z h' a "com/example/trailwire/trailwire/http2/BurstLimit" "period" "J" (.long per) ∧ Fld Z h' a "com/example/trailwire/trailwire/http2/BurstLimit" "times" "[J" (.ref a2) ∧ Fld Z h' a "com/example/trailwire/trailwire/http2/BurstLimit" "next" "I" (.int (0 : Int32)) ∧ Fld Z h' a "com/example/trailwire/trailwire/http2/BurstLimit" "full" "Z" (.int (1 : Int32)) ∧ Arv Z h' a2 kA3 .long (1 : Int32) [(.long now)] (.long 0)) := by
  refine own_met (Ls := #[.val (.ref a), .val (.long now), .second, .unset]) hw own_pl4 (fun m => by first | (simp [entryFrame, mkF, argsToLocals, Value.category]; done) | rfl) ?_
  intro B H
  have hK : Keep h0 h0 [a] := Keep.refl _ _
  refine own_aload_n H rfl rfl d4_0 ?_
  refine own_getfield H (w := 24) rfl hF3 d4_1 ?_
  refine own_ifnonnull_f H d4_4 rfl rfl ?_
  refine own_aload_n H rfl rfl d4_7 ?_
  refine own_aload_n H rfl rfl d4_8 ?_
  refine own_getfield H (w := 15) rfl hF1 d4_9 ?_
  refine own_newarray H (w := 0) (n := (1 : Int32)) rfl (by decide) 1 (by decide) (by decide) d4_12 (by decide) (by decide) ?_
  intro h1 a2 kA3 ha4 E5 V6
  have f7 : a ≠ a2 := Nat.ne_of_lt (by rw [ha4]; exact hE.lt)
  have f8 : n0 ≤ a2 := by rw [ha4]; exact hZ0
  have f9 : h0.size ≤ a2 := by rw [ha4]; exact hK.1
  have f10 : Exa Z h1 a "com/example/trailwire/trailwire/http2/BurstLimit" := hE.ext E5
  have f11 : Fld Z h1 a "com/example/trailwire/trailwire/http2/BurstLimit" "events" "I" (.int (1 : Int32)) := hF1.ext E5
  have f12 : Fld Z h1 a "com/example/trailwire/trailwire/http2/BurstLimit" "period" "J" (.long per) := hF2.ext E5
  have f13 : Fld Z h1 a "com/example/trailwire/trailwire/http2/BurstLimit" "times" "[J" .null := hF3.ext E5
  have f14 : Fld Z h1 a "com/example/trailwire/trailwire/http2/BurstLimit" "next" "I" (.int (0 : Int32)) := hF4.ext E5
  have f15 : Fld Z h1 a "com/example/trailwire/trailwire/http2/BurstLimit" "full" "Z" (.int (0 : Int32)) := hF5.ext E5
  have f16 : n0 ≤ h1.size := Nat.le_trans hZ0 E5.1
  have f17 : Keep h0 h1 [a] := hK.ext E5
  have f18 : Arv Z h1 a2 kA3 .long (1 : Int32) [(.long 0)] (.long 0) := V6.pad (pad_rep [] (.long 0) 1)
  show own_G _ _ _ _ _ _ _ _ 14 #[.val (.ref a), .val (.long now), .second, .unset] [(.ref a2), (.ref a)]
  refine own_putfield H (w := 24) (wi := 7) rfl f13 f10 hA_a (Or.inl (own_w H (i := 25) rfl)) rfl (ty := (.array .long)) (by decide) rfl rfl d4_14 ?_
  intro h19 W20
  have f21 : Exa Z h19 a "com/example/trailwire/trailwire/http2/BurstLimit" := f10.wr W20
  have f22 : Fld Z h19 a "com/example/trailwire/trailwire/http2/BurstLimit" "events" "I" (.int (1 : Int32)) := f11.other W20 (Or.inr (slot_ne (Or.inr (own_w H (i := 16) rfl)) (Or.inl (own_w H (i := 25) rfl)) (by decide) (t := .int) (t' := (.array .long)) (by decide) (by decide)))
  have f23 : Fld Z h19 a "com/example/trailwire/trailwire/http2/BurstLimit" "period" "J" (.long per) := f12.other W20 (Or.inr (slot_ne (Or.inr (own_w H (i := 18) rfl)) (Or.inl (own_w H (i := 25) rfl)) (by decide) (t := .long) (t' := (.array .long)) (by decide) (by decide)))
  have f24 : Fld Z h19 a "com/example/trailwire/trailwire/http2/BurstLimit" "times" "[J" (.ref a2) := f13.same W20
  have f25 : Fld Z h19 a "com/example/trailwire/trailwire/http2/BurstLimit" "next" "I" (.int (0 : Int32)) := f14.other W20 (Or.inr (slot_ne (Or.inl (own_w H (i := 29) rfl)) (Or.inl (own_w H (i := 25) rfl)) (by decide) (t := .int) (t' := (.array .long)) (by decide) (by decide)))
  have f26 : Fld Z h19 a "com/example/trailwire/trailwire/http2/BurstLimit" "full" "Z" (.int (0 : Int32)) := f15.other W20 (Or.inr (slot_ne (Or.inl (own_w H (i := 27) rfl)) (Or.inl (own_w H (i := 25) rfl)) (by decide) (t := .boolean) (t' := (.array .long)) (by decide) (by decide)))
  have f27 : n0 ≤ h19.size := by rw [W20.size]; exact f16
  have f28 : Keep h0 h19 [a] := f17.wr W20 (Or.inl (by simp))
  have f29 : Arv Z h19 a2 kA3 .long (1 : Int32) [(.long 0)] (.long 0) := f18.other W20 f7.symm
  refine own_aload_n H rfl rfl d4_17 ?_
  refine own_getfield H (w := 26) rfl f26 d4_18 ?_
  refine own_ifeq_t H (pc' := 47) d4_21 (by decide) (by decide) (by decide) ?_
  refine own_iconst H (0 : Int32) (by decide) d4_47 ?_
  refine own_istore_n H #[.val (.ref a), .val (.long now), .second, .val (.int (0 : Int32))] rfl d4_48 ?_
  refine own_aload_n H rfl rfl d4_49 ?_
  refine own_getfield H (w := 24) rfl f24 d4_50 ?_
  refine own_aload_n H rfl rfl d4_53 ?_
  refine own_getfield H (w := 28) rfl f25 d4_54 ?_
  refine own_lload_n H rfl d4_57 ?_
  refine own_lastoreV H f29 (by decide) (by decide) 0 (by decide) (Nat.le_of_ble_eq_true rfl) f8 rfl d4_58 ?_
  intro h30 W31 V32
  have f33 : Exa Z h30 a "com/example/trailwire/trailwire/http2/BurstLimit" := f21.wr W31
  have f34 : Fld Z h30 a "com/example/trailwire/trailwire/http2/BurstLimit" "events" "I" (.int (1 : Int32)) := f22.other W31 (Or.inl f7)
  have f35 : Fld Z h30 a "com/example/trailwire/trailwire/http2/BurstLimit" "period" "J" (.long per) := f23.other W31 (Or.inl f7)
  have f36 : Fld Z h30 a "com/example/trailwire/trailwire/http2/BurstLimit" "times" "[J" (.ref a2) := f24.other W31 (Or.inl f7)
  have f37 : Fld Z h30 a "com/example/trailwire/trailwire/http2/BurstLimit" "next" "I" (.int (0 : Int32)) := f25.other W31 (Or.inl f7)
  have f38 : Fld Z h30 a "com/example/trailwire/trailwire/http2/BurstLimit" "full" "Z" (.int (0 : Int32)) := f26.other W31 (Or.inl f7)
  have f39 : n0 ≤ h30.size := by rw [W31.size]; exact f27
  have f40 : Keep h0 h30 [a] := f28.wr W31 (Or.inr f9)
  have f41 : Arv Z h30 a2 kA3 .long (1 : Int32) [(.long now)] (.long 0) := V32
  refine own_aload_n H rfl rfl d4_59 ?_
  refine own_aload_n H rfl rfl d4_60 ?_
  refine own_getfield H (w := 28) rfl f37 d4_61 ?_
  refine own_iconst H (1 : Int32) (by decide) d4_64 ?_
  refine own_iadd (v := (1 : Int32)) H (by decide) d4_65 ?_
  refine own_aload_n H rfl rfl d4_66 ?_
  refine own_getfield H (w := 15) rfl f34 d4_67 ?_
  refine own_irem (v := (0 : Int32)) H (by decide) d4_70 (by decide) ?_
  refine own_putfield H (w := 28) (wi := 7) rfl f37 f33 hA_a (Or.inl (own_w H (i := 29) rfl)) rfl (ty := .int) (by decide) rfl rfl d4_71 ?_
  intro h42 W43
  have f44 : Exa Z h42 a "com/example/trailwire/trailwire/http2/BurstLimit" := f33.wr W43
  have f45 : Fld Z h42 a "com/example/trailwire/trailwire/http2/BurstLimit" "events" "I" (.int (1 : Int32)) := f34.other W43 (Or.inr (slot_ne (Or.inr (own_w H (i := 16) rfl)) (Or.inl (own_w H (i := 29) rfl)) (by decide) (t := .int) (t' := .int) (by decide) (by decide)))
  have f46 : Fld Z h42 a "com/example/trailwire/trailwire/http2/BurstLimit" "period" "J" (.long per) := f35.other W43 (Or.inr (slot_ne (Or.inr (own_w H (i := 18) rfl)) (Or.inl (own_w H (i := 29) rfl)) (by decide) (t := .long) (t' := .int) (by decide) (by decide)))
  have f47 : Fld Z h42 a "com/example/trailwire/trailwire/http2/BurstLimit" "times" "[J" (.ref a2) := f36.other W43 (Or.inr (slot_ne (Or.inl (own_w H (i := 25) rfl)) (Or.inl (own_w H (i := 29) rfl)) (by decide) (t := (.array .long)) (t' := .int) (by decide) (by decide)))
  have f48 : Fld Z h42 a "com/example/trailwire/trailwire/http2/BurstLimit" "next" "I" (.int (0 : Int32)) := f37.same W43
  have f49 : Fld Z h42 a "com/example/trailwire/trailwire/http2/BurstLimit" "full" "Z" (.int (0 : Int32)) := f38.other W43 (Or.inr (slot_ne (Or.inl (own_w H (i := 27) rfl)) (Or.inl (own_w H (i := 29) rfl)) (by decide) (t := .boolean) (t' := .int) (by decide) (by decide)))
  have f50 : n0 ≤ h42.size := by rw [W43.size]; exact f39
  have f51 : Keep h0 h42 [a] := f40.wr W43 (Or.inl (by simp))
  have f52 : Arv Z h42 a2 kA3 .long (1 : Int32) [(.long now)] (.long 0) := f41.other W43 f7.symm
  refine own_aload_n H rfl rfl d4_74 ?_
  refine own_aload_n H rfl rfl d4_75 ?_
  refine own_getfield H (w := 26) rfl f49 d4_76 ?_
  refine own_ifne_f H d4_79 (by decide) ?_
  refine own_aload_n H rfl rfl d4_82 ?_
  refine own_getfield H (w := 28) rfl f48 d4_83 ?_
  refine own_ifne_f H d4_86 (by decide) ?_
  refine own_iconst H (1 : Int32) (by decide) d4_89 ?_
  refine own_goto H (pc' := 94) d4_90 (by decide) (by decide) ?_
  refine own_putfield H (w := 26) (wi := 7) rfl f49 f44 hA_a (Or.inl (own_w H (i := 27) rfl)) rfl (ty := .boolean) (by decide) rfl rfl d4_94 ?_
  intro h53 W54
  have f55 : Exa Z h53 a "com/example/trailwire/trailwire/http2/BurstLimit" := f44.wr W54
  have f56 : Fld Z h53 a "com/example/trailwire/trailwire/http2/BurstLimit" "events" "I" (.int (1 : Int32)) := f45.other W54 (Or.inr (slot_ne (Or.inr (own_w H (i := 16) rfl)) (Or.inl (own_w H (i := 27) rfl)) (by decide) (t := .int) (t' := .boolean) (by decide) (by decide)))
  have f57 : Fld Z h53 a "com/example/trailwire/trailwire/http2/BurstLimit" "period" "J" (.long per) := f46.other W54 (Or.inr (slot_ne (Or.inr (own_w H (i := 18) rfl)) (Or.inl (own_w H (i := 27) rfl)) (by decide) (t := .long) (t' := .boolean) (by decide) (by decide)))
  have f58 : Fld Z h53 a "com/example/trailwire/trailwire/http2/BurstLimit" "times" "[J" (.ref a2) := f47.other W54 (Or.inr (slot_ne (Or.inl (own_w H (i := 25) rfl)) (Or.inl (own_w H (i := 27) rfl)) (by decide) (t := (.array .long)) (t' := .boolean) (by decide) (by decide)))
  have f59 : Fld Z h53 a "com/example/trailwire/trailwire/http2/BurstLimit" "next" "I" (.int (0 : Int32)) := f48.other W54 (Or.inr (slot_ne (Or.inl (own_w H (i := 29) rfl)) (Or.inl (own_w H (i := 27) rfl)) (by decide) (t := .int) (t' := .boolean) (by decide) (by decide)))
  have f60 : Fld Z h53 a "com/example/trailwire/trailwire/http2/BurstLimit" "full" "Z" (.int (1 : Int32)) := f49.same W54
  have f61 : n0 ≤ h53.size := by rw [W54.size]; exact f50
  have f62 : Keep h0 h53 [a] := f51.wr W54 (Or.inl (by simp))
  have f63 : Arv Z h53 a2 kA3 .long (1 : Int32) [(.long now)] (.long 0) := f52.other W54 f7.symm
  refine own_iload_n H rfl d4_97 ?_
  exact own_ireturn H (by simp) (by decide) d4_98 (by decide) (by decide) ⟨a2, kA3, rfl, f62, f8, f9, f63.lt, f55, f56, f57, f58, f59, f60, f63⟩
set_option maxHeartbeats 4000000 in
theorem rmX1_0_1 (l : Launch) (Z : State) (a0 : Array Value) (hw : ∀ (i : Nat) (d : Jvm.Cond), tables_1[i]? = some d → d.before a0 Z = true) (h0 : Heap) (n0 : Nat) (a : Addr) (now : Int64) (per : Int64) (t : Addr) (kA : ClassId) (t0 : Int64) (hZ0 : n0 ≤ h0.size) (hE : Exa Z h0 a "com/example/trailwire/trailwire/http2/BurstLimit") (hF1 : Fld Z h0 a "com/example/trailwire/trailwire/http2/BurstLimit" "events" "I" (.int (1 : Int32))) (hF2 : Fld Z h0 a "com/example/trailwire/trailwire/http2/BurstLimit" "period" "J" (.long per)) (hF3 : Fld Z h0 a "com/example/trailwire/trailwire/http2/BurstLimit" "times" "[J" (.ref t)) (hF4 : Fld Z h0 a "com/example/trailwire/trailwire/http2/BurstLimit" "next" "I" (.int (0 : Int32))) (hF5 : Fld Z h0 a "com/example/trailwire/trailwire/http2/BurstLimit" "full" "Z" (.int (1 : Int32))) (hV : Arv Z h0 t kA .long (1 : Int32) [(.long t0)] (.long 0)) (hne : a ≠ t) (hA_a : n0 ≤ a) (hA_t : n0 ≤ t) :
    own_C l Z (⟨"com/example/trailwire/trailwire/http2/BurstLimit", "exceededBy", "(J)Z"⟩ : MethodName) prog_1_method_2_code 4 (some .boolean) ({ frames := 0, cells := 0, slots := 0, locals := 0 } : Room) #[(.ref a), (.long now)] h0 n0 (fun v h' => v = some (.int (if (now - t0) < per then (1 : Int32) else (0 : Int32))) ∧ Keep h0 h' [a, t] ∧ Exa Z h' a "com/example/trailwire/trailwire/http2/BurstLimit" ∧ Fld Z h' a "com/example/trailwire/trailwire/http2/BurstLimit" "events" "I" (.int (1 : Int32)) ∧ Fld Z h' a "com/example/trailwire/trailwire/http2/BurstLimit" "period" "J" (.long per) ∧ Fld Z h' a "com/example/trailwire/trailwire/http2/BurstLimit" "times" "[J" (.ref t) ∧ Fld Z h' a "com/example/trailwire/trailwire/http2/BurstLimit" "next" "I" (.int (0 : Int32)) ∧ Fld Z h' a "com/example/trailwire/trailwire/http2/BurstLimit" "full" "Z" (.int (1 : Int32)) ∧ Arv Z h' t kA .long (1 : Int32) [(.long now)] (.long 0)) := by
  refine own_met (Ls := #[.val (.ref a), .val (.long now), .second, .unset]) hw own_pl4 (fun m => by first | (simp [entryFrame, mkF, argsToLocals, Value.category]; done) | rfl) ?_
  intro B H
  have hK : Keep h0 h0 [a, t] := Keep.refl _ _
  refine own_aload_n H rfl rfl d4_0 ?_
  refine own_getfield H (w := 24) rfl hF3 d4_1 ?_
  refine own_ifnonnull_t H (pc' := 17) d4_4 (by decide) (by decide) rfl (fun h => nomatch h) ?_
  refine own_aload_n H rfl rfl d4_17 ?_
  refine own_getfield H (w := 26) rfl hF5 d4_18 ?_
  refine own_ifeq_f H d4_21 (by decide) ?_
  refine own_lload_n H rfl d4_24 ?_
  refine own_aload_n H rfl rfl d4_25 ?_
  refine own_getfield H (w := 24) rfl hF3 d4_26 ?_
  refine own_aload_n H rfl rfl d4_29 ?_
  refine own_getfield H (w := 28) rfl hF4 d4_30 ?_
  refine own_laloadV H hV (by decide) (by decide) rfl d4_33 ?_
  refine own_lsub H rfl d4_34 ?_
  refine own_aload_n H rfl rfl d4_35 ?_
  refine own_getfield H (w := 17) rfl hF2 d4_36 ?_
  refine own_cut 48 #[.val (.ref a), .val (.long now), .second, .unset] [(.int (if (now - t0) < per then (1 : Int32) else (0 : Int32)))] (fun k2 => ?_) ?_
  ·
    by_cases c1 : (now - t0) < per
    ·
      refine own_lcmpge_f H d4_39 d4_40 c1 ?_
      refine own_iconst H (1 : Int32) (by decide) d4_43 ?_
      refine own_goto H (pc' := 48) d4_44 (by decide) (by decide) ?_
      exact own_cast (by simp only [if_pos c1]) (by simp only [if_pos c1]) k2
    ·
      refine own_lcmpge_t H (pc' := 47) d4_39 d4_40 (by decide) (by decide) c1 ?_
      refine own_iconst H (0 : Int32) (by decide) d4_47 ?_
      exact own_cast (by simp only [if_neg c1]) (by simp only [if_neg c1]) k2
  refine own_istore_n H #[.val (.ref a), .val (.long now), .second, .val (.int (if (now - t0) < per then (1 : Int32) else (0 : Int32)))] rfl d4_48 ?_
  refine own_aload_n H rfl rfl d4_49 ?_
  refine own_getfield H (w := 24) rfl hF3 d4_50 ?_
  refine own_aload_n H rfl rfl d4_53 ?_
  refine own_getfield H (w := 28) rfl hF4 d4_54 ?_
  refine own_lload_n H rfl d4_57 ?_
  refine own_lastoreV H hV (by decide) (by decide) 0 (by decide) (Nat.le_of_ble_eq_true rfl) hA_t rfl d4_58 ?_
  intro h3 W4 V5
  have f6 : Exa Z h3 a "com/example/trailwire/trailwire/http2/BurstLimit" := hE.wr W4
  have f7 : Fld Z h3 a "com/example/trailwire/trailwire/http2/BurstLimit" "events" "I" (.int (1 : Int32)) := hF1.other W4 (Or.inl hne)
  have f8 : Fld Z h3 a "com/example/trailwire/trailwire/http2/BurstLimit" "period" "J" (.long per) := hF2.other W4 (Or.inl hne)
  have f9 : Fld Z h3 a "com/example/trailwire/trailwire/http2/BurstLimit" "times" "[J" (.ref t) := hF3.other W4 (Or.inl hne)
  have f10 : Fld Z h3 a "com/example/trailwire/trailwire/http2/BurstLimit" "next" "I" (.int (0 : Int32)) := hF4.other W4 (Or.inl hne)
  have f11 : Fld Z h3 a "com/example/trailwire/trailwire/http2/BurstLimit" "full" "Z" (.int (1 : Int32)) := hF5.other W4 (Or.inl hne)
  have f12 : n0 ≤ h3.size := by rw [W4.size]; exact hZ0
  have f13 : Keep h0 h3 [a, t] := hK.wr W4 (Or.inl (by simp))
  have f14 : Arv Z h3 t kA .long (1 : Int32) [(.long now)] (.long 0) := V5
  refine own_aload_n H rfl rfl d4_59 ?_
  refine own_aload_n H rfl rfl d4_60 ?_
  refine own_getfield H (w := 28) rfl f10 d4_61 ?_
  refine own_iconst H (1 : Int32) (by decide) d4_64 ?_
  refine own_iadd (v := (1 : Int32)) H (by decide) d4_65 ?_
  refine own_aload_n H rfl rfl d4_66 ?_
  refine own_getfield H (w := 15) rfl f7 d4_67 ?_
  refine own_irem (v := (0 : Int32)) H (by decide) d4_70 (by decide) ?_
  refine own_putfield H (w := 28) (wi := 7) rfl f10 f6 hA_a (Or.inl (own_w H (i := 29) rfl)) rfl (ty := .int) (by decide) rfl rfl d4_71 ?_
  intro h15 W16
  have f17 : Exa Z h15 a "com/example/trailwire/trailwire/http2/BurstLimit" := f6.wr W16
  have f18 : Fld Z h15 a "com/example/trailwire/trailwire/http2/BurstLimit" "events" "I" (.int (1 : Int32)) := f7.other W16 (Or.inr (slot_ne (Or.inr (own_w H (i := 16) rfl)) (Or.inl (own_w H (i := 29) rfl)) (by decide) (t := .int) (t' := .int) (by decide) (by decide)))
  have f19 : Fld Z h15 a "com/example/trailwire/trailwire/http2/BurstLimit" "period" "J" (.long per) := f8.other W16 (Or.inr (slot_ne (Or.inr (own_w H (i := 18) rfl)) (Or.inl (own_w H (i := 29) rfl)) (by decide) (t := .long) (t' := .int) (by decide) (by decide)))
  have f20 : Fld Z h15 a "com/example/trailwire/trailwire/http2/BurstLimit" "times" "[J" (.ref t) := f9.other W16 (Or.inr (slot_ne (Or.inl (own_w H (i := 25) rfl)) (Or.inl (own_w H (i := 29) rfl)) (by decide) (t := (.array .long)) (t' := .int) (by decide) (by decide)))
  have f21 : Fld Z h15 a "com/example/trailwire/trailwire/http2/BurstLimit" "next" "I" (.int (0 : Int32)) := f10.same W16
  have f22 : Fld Z h15 a "com/example/trailwire/trailwire/http2/BurstLimit" "full" "Z" (.int (1 : Int32)) := f11.other W16 (Or.inr (slot_ne (Or.inl (own_w H (i := 27) rfl)) (Or.inl (own_w H (i := 29) rfl)) (by decide) (t := .boolean) (t' := .int) (by decide) (by decide)))
  have f23 : Arv Z h15 t kA .long (1 : Int32) [(.long now)] (.long 0) := f14.other W16 hne.symm
  have f24 : n0 ≤ h15.size := by rw [W16.size]; exact f12
  have f25 : Keep h0 h15 [a, t] := f13.wr W16 (Or.inl (by simp))
  refine own_aload_n H rfl rfl d4_74 ?_
  refine own_aload_n H rfl rfl d4_75 ?_
  refine own_getfield H (w := 26) rfl f22 d4_76 ?_
  refine own_ifne_t H (pc' := 89) d4_79 (by decide) (by decide) (by decide) ?_
  refine own_iconst H (1 : Int32) (by decide) d4_89 ?_
  refine own_goto H (pc' := 94) d4_90 (by decide) (by decide) ?_
  refine own_putfield H (w := 26) (wi := 7) rfl f22 f17 hA_a (Or.inl (own_w H (i := 27) rfl)) rfl (ty := .boolean) (by decide) rfl rfl d4_94 ?_
  intro h26 W27
  have f28 : Exa Z h26 a "com/example/trailwire/trailwire/http2/BurstLimit" := f17.wr W27
  have f29 : Fld Z h26 a "com/example/trailwire/trailwire/http2/BurstLimit" "events" "I" (.int (1 : Int32)) := f18.other W27 (Or.inr (slot_ne (Or.inr (own_w H (i := 16) rfl)) (Or.inl (own_w H (i := 27) rfl)) (by decide) (t := .int) (t' := .boolean) (by decide) (by decide)))
  have f30 : Fld Z h26 a "com/example/trailwire/trailwire/http2/BurstLimit" "period" "J" (.long per) := f19.other W27 (Or.inr (slot_ne (Or.inr (own_w H (i := 18) rfl)) (Or.inl (own_w H (i := 27) rfl)) (by decide) (t := .long) (t' := .boolean) (by decide) (by decide)))
  have f31 : Fld Z h26 a "com/example/trailwire/trailwire/http2/BurstLimit" "times" "[J" (.ref t) := f20.other W27 (Or.inr (slot_ne (Or.inl (own_w H (i := 25) rfl)) (Or.inl (own_w H (i := 27) rfl)) (by decide) (t := (.array .long)) (t' := .boolean) (by decide) (by decide)))
  have f32 : Fld Z h26 a "com/example/trailwire/trailwire/http2/BurstLimit" "next" "I" (.int (0 : Int32)) := f21.other W27 (Or.inr (slot_ne (Or.inl (own_w H (i := 29) rfl)) (Or.inl (own_w H (i := 27) rfl)) (by decide) (t := .int) (t' := .boolean) (by decide) (by decide)))
  have f33 : Fld Z h26 a "com/example/trailwire/trailwire/http2/BurstLimit" "full" "Z" (.int (1 : Int32)) := f22.same W27
  have f34 : Arv Z h26 t kA .long (1 : Int32) [(.long now)] (.long 0) := f23.other W27 hne.symm
  have f35 : n0 ≤ h26.size := by rw [W27.size]; exact f24
  have f36 : Keep h0 h26 [a, t] := f25.wr W27 (Or.inl (by simp))
  refine own_iload_n H rfl d4_97 ?_
  exact own_ireturn H (by simp) (by first | rfl | (split <;> rfl) | (split <;> (try split) <;> rfl)) d4_98 (by decide) (by decide) ⟨rfl, f36, f28, f29, f30, f31, f32, f33, f34⟩
theorem d5_0 : decode method_4_code 0 = .ok (.iload_n 0, 1) := by decide +kernel
theorem d5_1 : decode method_4_code 1 = .ok (.iload_n 1, 1) := by decide +kernel
theorem d5_2 : decode method_4_code 2 = .ok (.if_icmp .ge 5, 3) := by decide +kernel
theorem d5_5 : decode method_4_code 5 = .ok (.iconst 0, 1) := by decide +kernel
theorem d5_6 : decode method_4_code 6 = .ok (.ireturn, 1) := by decide +kernel
theorem d5_7 : decode method_4_code 7 = .ok (.aload_n 2, 1) := by decide +kernel
theorem d5_8 : decode method_4_code 8 = .ok (.iload_n 0, 1) := by decide +kernel
theorem d5_9 : decode method_4_code 9 = .ok (.laload, 1) := by decide +kernel
theorem d5_10 : decode method_4_code 10 = .ok (.aload_n 2, 1) := by decide +kernel
theorem d5_11 : decode method_4_code 11 = .ok (.iload_n 0, 1) := by decide +kernel
theorem d5_12 : decode method_4_code 12 = .ok (.iload_n 1, 1) := by decide +kernel
theorem d5_13 : decode method_4_code 13 = .ok (.isub, 1) := by decide +kernel
theorem d5_14 : decode method_4_code 14 = .ok (.laload, 1) := by decide +kernel
theorem d5_15 : decode method_4_code 15 = .ok (.lsub, 1) := by decide +kernel
theorem d5_16 : decode method_4_code 16 = .ok (.lstore 5, 2) := by decide +kernel
theorem d5_18 : decode method_4_code 18 = .ok (.lload 5, 2) := by decide +kernel
theorem d5_20 : decode method_4_code 20 = .ok (.lload_n 3, 1) := by decide +kernel
theorem d5_21 : decode method_4_code 21 = .ok (.lcmp, 1) := by decide +kernel
theorem d5_22 : decode method_4_code 22 = .ok (.ifCond .ge 7, 3) := by decide +kernel
theorem d5_25 : decode method_4_code 25 = .ok (.iconst 1, 1) := by decide +kernel
theorem d5_26 : decode method_4_code 26 = .ok (.goto 4, 3) := by decide +kernel
theorem d5_29 : decode method_4_code 29 = .ok (.iconst 0, 1) := by decide +kernel
theorem d5_30 : decode method_4_code 30 = .ok (.ireturn, 1) := by decide +kernel
theorem own_pl5 : plainFor (⟨"com/example/trailwire/trailwire/http2/BurstLimitExceededByPinLaw", "expected", "(II[JJ)Z"⟩ : MethodName) = true := plainFor_of_name (by first | (simp [plainName, overriddenIn]; done) | decide +kernel)
theorem own_pd3 : parseMethodDescriptor "(II[JJ)Z" = some ⟨[.int, .int, (.array .long), .long], some .boolean⟩ := by decide +kernel
set_option maxHeartbeats 4000000 in
theorem rmE0_1 (l : Launch) (Z : State) (a0 : Array Value) (hw : ∀ (i : Nat) (d : Jvm.Cond), tables_1[i]? = some d → d.before a0 Z = true) (h0 : Heap) (n0 : Nat) (t : Addr) (per : Int64) (kA : ClassId) (s0 : Int64) (s1 : Int64) (s2 : Int64) (s3 : Int64) (s4 : Int64) (s5 : Int64) (s6 : Int64) (hV : Arv Z h0 t kA .long (7 : Int32) [(.long s0), (.long s1), (.long s2), (.long s3), (.long s4), (.long s5), (.long s6)] (.long 0)) :
    own_C l Z (⟨"com/example/trailwire/trailwire/http2/BurstLimitExceededByPinLaw", "expected", "(II[JJ)Z"⟩ : MethodName) method_4_code 7 (some .boolean) ({ frames := 0, cells := 0, slots := 0, locals := 0 } : Room) #[(.int (0 : Int32)), (.int (1 : Int32)), (.ref t), (.long per)] h0 n0 (fun v h' => v = some (.int (0 : Int32)) ∧ h0 = h') := by
  refine own_met (Ls := #[.val (.int (0 : Int32)), .val (.int (1 : Int32)), .val (.ref t), .val (.long per), .second, .unset, .unset]) hw own_pl5 (fun m => by first | (simp [entryFrame, mkF, argsToLocals, Value.category]; done) | rfl) ?_
  intro B H
  refine own_iload_n H rfl d5_0 ?_
  refine own_iload_n H rfl d5_1 ?_
  refine own_icmpge_f H d5_2 (by decide) ?_
  refine own_iconst H (0 : Int32) (by decide) d5_5 ?_
  exact own_ireturn H (by simp) (by decide) d5_6 (by decide) (by decide) ⟨rfl, rfl⟩
set_option maxHeartbeats 4000000 in
theorem rmE1_1 (l : Launch) (Z : State) (a0 : Array Value) (hw : ∀ (i : Nat) (d : Jvm.Cond), tables_1[i]? = some d → d.before a0 Z = true) (h0 : Heap) (n0 : Nat) (t : Addr) (per : Int64) (kA : ClassId) (s0 : Int64) (s1 : Int64) (s2 : Int64) (s3 : Int64) (s4 : Int64) (s5 : Int64) (s6 : Int64) (hV : Arv Z h0 t kA .long (7 : Int32) [(.long s0), (.long s1), (.long s2), (.long s3), (.long s4), (.long s5), (.long s6)] (.long 0)) :
    own_C l Z (⟨"com/example/trailwire/trailwire/http2/BurstLimitExceededByPinLaw", "expected", "(II[JJ)Z"⟩ : MethodName) method_4_code 7 (some .boolean) ({ frames := 0, cells := 0, slots := 0, locals := 0 } : Room) #[(.int (1 : Int32)), (.int (1 : Int32)), (.ref t), (.long per)] h0 n0 (fun v h' => v = some (.int (if (s1 - s0) < per then (1 : Int32) else (0 : Int32))) ∧ h0 = h') := by
  refine own_met (Ls := #[.val (.int (1 : Int32)), .val (.int (1 : Int32)), .val (.ref t), .val (.long per), .second, .unset, .unset]) hw own_pl5 (fun m => by first | (simp [entryFrame, mkF, argsToLocals, Value.category]; done) | rfl) ?_
  intro B H
  refine own_iload_n H rfl d5_0 ?_
  refine own_iload_n H rfl d5_1 ?_
  refine own_icmpge_t H (pc' := 7) d5_2 (by decide) (by decide) (by decide) ?_
  refine own_aload_n H rfl rfl d5_7 ?_
  refine own_iload_n H rfl d5_8 ?_
  refine own_laloadV H hV (by decide) (by decide) rfl d5_9 ?_
  refine own_aload_n H rfl rfl d5_10 ?_
  refine own_iload_n H rfl d5_11 ?_
  refine own_iload_n H rfl d5_12 ?_
  refine own_isub (v := (0 : Int32)) H (by decide) d5_13 ?_
  refine own_laloadV H hV (by decide) (by decide) rfl d5_14 ?_
  refine own_lsub H rfl d5_15 ?_
  refine own_lstore H #[.val (.int (1 : Int32)), .val (.int (1 : Int32)), .val (.ref t), .val (.long per), .second, .val (.long (s1 - s0)), .second] rfl d5_16 ?_
  refine own_lload H rfl d5_18 ?_
  refine own_lload_n H rfl d5_20 ?_
  refine own_cut 30 #[.val (.int (1 : Int32)), .val (.int (1 : Int32)), .val (.ref t), .val (.long per), .second, .val (.long (s1 - s0)), .second] [(.int (if (s1 - s0) < per then (1 : Int32) else (0 : Int32)))] (fun k2 => ?_) ?_
  ·
    by_cases c1 : (s1 - s0) < per
    ·
      refine own_lcmpge_f H d5_21 d5_22 c1 ?_
      refine own_iconst H (1 : Int32) (by decide) d5_25 ?_
      refine own_goto H (pc' := 30) d5_26 (by decide) (by decide) ?_
      exact own_cast (by simp only [if_pos c1]) (by simp only [if_pos c1]) k2
    ·
      refine own_lcmpge_t H (pc' := 29) d5_21 d5_22 (by decide) (by decide) c1 ?_
      refine own_iconst H (0 : Int32) (by decide) d5_29 ?_
      exact own_cast (by simp only [if_neg c1]) (by simp only [if_neg c1]) k2
  exact own_ireturn H (by simp) (by first | rfl | (split <;> rfl) | (split <;> (try split) <;> rfl)) d5_30 (by decide) (by decide) ⟨rfl, rfl⟩
set_option maxHeartbeats 4000000 in
theorem rmE2_1 (l : Launch) (Z : State) (a0 : Array Value) (hw : ∀ (i : Nat) (d : Jvm.Cond), tables_1[i]? = some d → d.before a0 Z = true) (h0 : Heap) (n0 : Nat) (t : Addr) (per : Int64) (kA : ClassId) (s0 : Int64) (s1 : Int64) (s2 : Int64) (s3 : Int64) (s4 : Int64) (s5 : Int64) (s6 : Int64) (hV : Arv Z h0 t kA .long (7 : Int32) [(.long s0), (.long s1), (.long s2), (.long s3), (.long s4), (.long s5), (.long s6)] (.long 0)) :
    own_C l Z (⟨"com/example/trailwire/trailwire/http2/BurstLimitExceededByPinLaw", "expected", "(II[JJ)Z"⟩ : MethodName) method_4_code 7 (some .boolean) ({ frames := 0, cells := 0, slots := 0, locals := 0 } : Room) #[(.int (2 : Int32)), (.int (1 : Int32)), (.ref t), (.long per)] h0 n0 (fun v h' => v = some (.int (if (s2 - s1) < per then (1 : Int32) else (0 : Int32))) ∧ h0 = h') := by
  refine own_met (Ls := #[.val (.int (2 : Int32)), .val (.int (1 : Int32)), .val (.ref t), .val (.long per), .second, .unset, .unset]) hw own_pl5 (fun m => by first | (simp [entryFrame, mkF, argsToLocals, Value.category]; done) | rfl) ?_
  intro B H
  refine own_iload_n H rfl d5_0 ?_
  refine own_iload_n H rfl d5_1 ?_
  refine own_icmpge_t H (pc' := 7) d5_2 (by decide) (by decide) (by decide) ?_
  refine own_aload_n H rfl rfl d5_7 ?_
  refine own_iload_n H rfl d5_8 ?_
  refine own_laloadV H hV (by decide) (by decide) rfl d5_9 ?_
  refine own_aload_n H rfl rfl d5_10 ?_
  refine own_iload_n H rfl d5_11 ?_
  refine own_iload_n H rfl d5_12 ?_
  refine own_isub (v := (1 : Int32)) H (by decide) d5_13 ?_
  refine own_laloadV H hV (by decide) (by decide) rfl d5_14 ?_
  refine own_lsub H rfl d5_15 ?_
  refine own_lstore H #[.val (.int (2 : Int32)), .val (.int (1 : Int32)), .val (.ref t), .val (.long per), .second, .val (.long (s2 - s1)), .second] rfl d5_16 ?_
  refine own_lload H rfl d5_18 ?_
  refine own_lload_n H rfl d5_20 ?_
  refine own_cut 30 #[.val (.int (2 : Int32)), .val (.int (1 : Int32)), .val (.ref t), .val (.long per), .second, .val (.long (s2 - s1)), .second] [(.int (if (s2 - s1) < per then (1 : Int32) else (0 : Int32)))] (fun k2 => ?_) ?_
  ·
    by_cases c1 : (s2 - s1) < per
    ·
      refine own_lcmpge_f H d5_21 d5_22 c1 ?_
      refine own_iconst H (1 : Int32) (by decide) d5_25 ?_
      refine own_goto H (pc' := 30) d5_26 (by decide) (by decide) ?_
      exact own_cast (by simp only [if_pos c1]) (by simp only [if_pos c1]) k2
    ·
      refine own_lcmpge_t H (pc' := 29) d5_21 d5_22 (by decide) (by decide) c1 ?_
      refine own_iconst H (0 : Int32) (by decide) d5_29 ?_
      exact own_cast (by simp only [if_neg c1]) (by simp only [if_neg c1]) k2
  exact own_ireturn H (by simp) (by first | rfl | (split <;> rfl) | (split <;> (try split) <;> rfl)) d5_30 (by decide) (by decide) ⟨rfl, rfl⟩
set_option maxHeartbeats 4000000 in
theorem rmE3_1 (l : Launch) (Z : State) (a0 : Array Value) (hw : ∀ (i : Nat) (d : Jvm.Cond), tables_1[i]? = some d → d.before a0 Z = true) (h0 : Heap) (n0 : Nat) (t : Addr) (per : Int64) (kA : ClassId) (s0 : Int64) (s1 : Int64) (s2 : Int64) (s3 : Int64) (s4 : Int64) (s5 : Int64) (s6 : Int64) (hV : Arv Z h0 t kA .long (7 : Int32) [(.long s0), (.long s1), (.long s2), (.long s3), (.long s4), (.long s5), (.long s6)] (.long 0)) :
    own_C l Z (⟨"com/example/trailwire/trailwire/http2/BurstLimitExceededByPinLaw", "expected", "(II[JJ)Z"⟩ : MethodName) method_4_code 7 (some .boolean) ({ frames := 0, cells := 0, slots := 0, locals := 0 } : Room) #[(.int (3 : Int32)), (.int (1 : Int32)), (.ref t), (.long per)] h0 n0 (fun v h' => v = some (.int (if (s3 - s2) < per then (1 : Int32) else (0 : Int32))) ∧ h0 = h') := by
  refine own_met (Ls := #[.val (.int (3 : Int32)), .val (.int (1 : Int32)), .val (.ref t), .val (.long per), .second, .unset, .unset]) hw own_pl5 (fun m => by first | (simp [entryFrame, mkF, argsToLocals, Value.category]; done) | rfl) ?_
  intro B H
  refine own_iload_n H rfl d5_0 ?_
  refine own_iload_n H rfl d5_1 ?_
  refine own_icmpge_t H (pc' := 7) d5_2 (by decide) (by decide) (by decide) ?_
  refine own_aload_n H rfl rfl d5_7 ?_
  refine own_iload_n H rfl d5_8 ?_
  refine own_laloadV H hV (by decide) (by decide) rfl d5_9 ?_
  refine own_aload_n H rfl rfl d5_10 ?_
  refine own_iload_n H rfl d5_11 ?_
  refine own_iload_n H rfl d5_12 ?_
  refine own_isub (v := (2 : Int32)) H (by decide) d5_13 ?_
  refine own_laloadV H hV (by decide) (by decide) rfl d5_14 ?_
  refine own_lsub H rfl d5_15 ?_
  refine own_lstore H #[.val (.int (3 : Int32)), .val (.int (1 : Int32)), .val (.ref t), .val (.long per), .second, .val (.long (s3 - s2)), .second] rfl d5_16 ?_
  refine own_lload H rfl d5_18 ?_
  refine own_lload_n H rfl d5_20 ?_
  refine own_cut 30 #[.val (.int (3 : Int32)), .val (.int (1 : Int32)), .val (.ref t), .val (.long per), .second, .val (.long (s3 - s2)), .second] [(.int (if (s3 - s2) < per then (1 : Int32) else (0 : Int32)))] (fun k2 => ?_) ?_
  ·
    by_cases c1 : (s3 - s2) < per
    ·
      refine own_lcmpge_f H d5_21 d5_22 c1 ?_
      refine own_iconst H (1 : Int32) (by decide) d5_25 ?_
      refine own_goto H (pc' := 30) d5_26 (by decide) (by decide) ?_
      exact own_cast (by simp only [if_pos c1]) (by simp only [if_pos c1]) k2
    ·
      refine own_lcmpge_t H (pc' := 29) d5_21 d5_22 (by decide) (by decide) c1 ?_
      refine own_iconst H (0 : Int32) (by decide) d5_29 ?_
      exact own_cast (by simp only [if_neg c1]) (by simp only [if_neg c1]) k2
  exact own_ireturn H (by simp) (by first | rfl | (split <;> rfl) | (split <;> (try split) <;> rfl)) d5_30 (by decide) (by decide) ⟨rfl, rfl⟩
set_option maxHeartbeats 4000000 in
theorem rmE4_1 (l : Launch) (Z : State) (a0 : Array Value) (hw : ∀ (i : Nat) (d : Jvm.Cond), tables_1[i]? = some d → d.before a0 Z = true) (h0 : Heap) (n0 : Nat) (t : Addr) (per : Int64) (kA : ClassId) (s0 : Int64) (s1 : Int64) (s2 : Int64) (s3 : Int64) (s4 : Int64) (s5 : Int64) (s6 : Int64) (hV : Arv Z h0 t kA .long (7 : Int32) [(.long s0), (.long s1), (.long s2), (.long s3), (.long s4), (.long s5), (.long s6)] (.long 0)) :
    own_C l Z (⟨"com/example/trailwire/trailwire/http2/BurstLimitExceededByPinLaw", "expected", "(II[JJ)Z"⟩ : MethodName) method_4_code 7 (some .boolean) ({ frames := 0, cells := 0, slots := 0, locals := 0 } : Room) #[(.int (4 : Int32)), (.int (1 : Int32)), (.ref t), (.long per)] h0 n0 (fun v h' => v = some (.int (if (s4 - s3) < per then (1 : Int32) else (0 : Int32))) ∧ h0 = h') := by
  refine own_met (Ls := #[.val (.int (4 : Int32)), .val (.int (1 : Int32)), .val (.ref t), .val (.long per), .second, .unset, .unset]) hw own_pl5 (fun m => by first | (simp [entryFrame, mkF, argsToLocals, Value.category]; done) | rfl) ?_
  intro B H
  refine own_iload_n H rfl d5_0 ?_
  refine own_iload_n H rfl d5_1 ?_
  refine own_icmpge_t H (pc' := 7) d5_2 (by decide) (by decide) (by decide) ?_
  refine own_aload_n H rfl rfl d5_7 ?_
  refine own_iload_n H rfl d5_8 ?_
  refine own_laloadV H hV (by decide) (by decide) rfl d5_9 ?_
  refine own_aload_n H rfl rfl d5_10 ?_
  refine own_iload_n H rfl d5_11 ?_
  refine own_iload_n H rfl d5_12 ?_
  refine own_isub (v := (3 : Int32)) H (by decide) d5_13 ?_
  refine own_laloadV H hV (by decide) (by decide) rfl d5_14 ?_
  refine own_lsub H rfl d5_15 ?_
  refine own_lstore H #[.val (.int (4 : Int32)), .val (.int (1 : Int32)), .val (.ref t), .val (.long per), .second, .val (.long (s4 - s3)), .second] rfl d5_16 ?_
  refine own_lload H rfl d5_18 ?_
  refine own_lload_n H rfl d5_20 ?_
  refine own_cut 30 #[.val (.int (4 : Int32)), .val (.int (1 : Int32)), .val (.ref t), .val (.long per), .second, .val (.long (s4 - s3)), .second] [(.int (if (s4 - s3) < per then (1 : Int32) else (0 : Int32)))] (fun k2 => ?_) ?_
  ·
    by_cases c1 : (s4 - s3) < per
    ·
      refine own_lcmpge_f H d5_21 d5_22 c1 ?_
      refine own_iconst H (1 : Int32) (by decide) d5_25 ?_
      refine own_goto H (pc' := 30) d5_26 (by decide) (by decide) ?_
      exact own_cast (by simp only [if_pos c1]) (by simp only [if_pos c1]) k2
    ·
      refine own_lcmpge_t H (pc' := 29) d5_21 d5_22 (by decide) (by decide) c1 ?_
      refine own_iconst H (0 : Int32) (by decide) d5_29 ?_
      exact own_cast (by simp only [if_neg c1]) (by simp only [if_neg c1]) k2
  exact own_ireturn H (by simp) (by first | rfl | (split <;> rfl) | (split <;> (try split) <;> rfl)) d5_30 (by decide) (by decide) ⟨rfl, rfl⟩
set_option maxHeartbeats 4000000 in
theorem rmE5_1 (l : Launch) (Z : State) (a0 : Array Value) (hw : ∀ (i : Nat) (d : Jvm.Cond), tables_1[i]? = some d → d.before a0 Z = true) (h0 : Heap) (n0 : Nat) (t : Addr) (per : Int64) (kA : ClassId) (s0 : Int64) (s1 : Int64) (s2 : Int64) (s3 : Int64) (s4 : Int64) (s5 : Int64) (s6 : Int64) (hV : Arv Z h0 t kA .long (7 : Int32) [(.long s0), (.long s1), (.long s2), (.long s3), (.long s4), (.long s5), (.long s6)] (.long 0)) :
    own_C l Z (⟨"com/example/trailwire/trailwire/http2/BurstLimitExceededByPinLaw", "expected", "(II[JJ)Z"⟩ : MethodName) method_4_code 7 (some .boolean) ({ frames := 0, cells := 0, slots := 0, locals := 0 } : Room) #[(.int (5 : Int32)), (.int (1 : Int32)), (.ref t), (.long per)] h0 n0 (fun v h' => v = some (.int (if (s5 - s4) < per then (1 : Int32) else (0 : Int32))) ∧ h0 = h') := by
  refine own_met (Ls := #[.val (.int (5 : Int32)), .val (.int (1 : Int32)), .val (.ref t), .val (.long per), .second, .unset, .unset]) hw own_pl5 (fun m => by first | (simp [entryFrame, mkF, argsToLocals, Value.category]; done) | rfl) ?_
  intro B H
  refine own_iload_n H rfl d5_0 ?_
  refine own_iload_n H rfl d5_1 ?_
  refine own_icmpge_t H (pc' := 7) d5_2 (by decide) (by decide) (by decide) ?_
  refine own_aload_n H rfl rfl d5_7 ?_
  refine own_iload_n H rfl d5_8 ?_
  refine own_laloadV H hV (by decide) (by decide) rfl d5_9 ?_
  refine own_aload_n H rfl rfl d5_10 ?_
  refine own_iload_n H rfl d5_11 ?_
  refine own_iload_n H rfl d5_12 ?_
  refine own_isub (v := (4 : Int32)) H (by decide) d5_13 ?_
  refine own_laloadV H hV (by decide) (by decide) rfl d5_14 ?_
  refine own_lsub H rfl d5_15 ?_
  refine own_lstore H #[.val (.int (5 : Int32)), .val (.int (1 : Int32)), .val (.ref t), .val (.long per), .second, .val (.long (s5 - s4)), .second] rfl d5_16 ?_
  refine own_lload H rfl d5_18 ?_
  refine own_lload_n H rfl d5_20 ?_
  refine own_cut 30 #[.val (.int (5 : Int32)), .val (.int (1 : Int32)), .val (.ref t), .val (.long per), .second, .val (.long (s5 - s4)), .second] [(.int (if (s5 - s4) < per then (1 : Int32) else (0 : Int32)))] (fun k2 => ?_) ?_
  ·
    by_cases c1 : (s5 - s4) < per
    ·
      refine own_lcmpge_f H d5_21 d5_22 c1 ?_
      refine own_iconst H (1 : Int32) (by decide) d5_25 ?_
      refine own_goto H (pc' := 30) d5_26 (by decide) (by decide) ?_
      exact own_cast (by simp only [if_pos c1]) (by simp only [if_pos c1]) k2
    ·
      refine own_lcmpge_t H (pc' := 29) d5_21 d5_22 (by decide) (by decide) c1 ?_
      refine own_iconst H (0 : Int32) (by decide) d5_29 ?_
      exact own_cast (by simp only [if_neg c1]) (by simp only [if_neg c1]) k2
  exact own_ireturn H (by simp) (by first | rfl | (split <;> rfl) | (split <;> (try split) <;> rfl)) d5_30 (by decide) (by decide) ⟨rfl, rfl⟩
set_option maxHeartbeats 4000000 in
theorem rmE6_1 (l : Launch) (Z : State) (a0 : Array Value) (hw : ∀ (i : Nat) (d : Jvm.Cond), tables_1[i]? = some d → d.before a0 Z = true) (h0 : Heap) (n0 : Nat) (t : Addr) (per : Int64) (kA : ClassId) (s0 : Int64) (s1 : Int64) (s2 : Int64) (s3 : Int64) (s4 : Int64) (s5 : Int64) (s6 : Int64) (hV : Arv Z h0 t kA .long (7 : Int32) [(.long s0), (.long s1), (.long s2), (.long s3), (.long s4), (.long s5), (.long s6)] (.long 0)) :
    own_C l Z (⟨"com/example/trailwire/trailwire/http2/BurstLimitExceededByPinLaw", "expected", "(II[JJ)Z"⟩ : MethodName) method_4_code 7 (some .boolean) ({ frames := 0, cells := 0, slots := 0, locals := 0 } : Room) #[(.int (6 : Int32)), (.int (1 : Int32)), (.ref t), (.long per)] h0 n0 (fun v h' => v = some (.int (if (s6 - s5) < per then (1 : Int32) else (0 : Int32))) ∧ h0 = h') := by
  refine own_met (Ls := #[.val (.int (6 : Int32)), .val (.int (1 : Int32)), .val (.ref t), .val (.long per), .second, .unset, .unset]) hw own_pl5 (fun m => by first | (simp [entryFrame, mkF, argsToLocals, Value.category]; done) | rfl) ?_
  intro B H
  refine own_iload_n H rfl d5_0 ?_
  refine own_iload_n H rfl d5_1 ?_
  refine own_icmpge_t H (pc' := 7) d5_2 (by decide) (by decide) (by decide) ?_
  refine own_aload_n H rfl rfl d5_7 ?_
  refine own_iload_n H rfl d5_8 ?_
  refine own_laloadV H hV (by decide) (by decide) rfl d5_9 ?_
  refine own_aload_n H rfl rfl d5_10 ?_
  refine own_iload_n H rfl d5_11 ?_
  refine own_iload_n H rfl d5_12 ?_
  refine own_isub (v := (5 : Int32)) H (by decide) d5_13 ?_
  refine own_laloadV H hV (by decide) (by decide) rfl d5_14 ?_
  refine own_lsub H rfl d5_15 ?_
  refine own_lstore H #[.val (.int (6 : Int32)), .val (.int (1 : Int32)), .val (.ref t), .val (.long per), .second, .val (.long (s6 - s5)), .second] rfl d5_16 ?_
  refine own_lload H rfl d5_18 ?_
  refine own_lload_n H rfl d5_20 ?_
  refine own_cut 30 #[.val (.int (6 : Int32)), .val (.int (1 : Int32)), .val (.ref t), .val (.long per), .second, .val (.long (s6 - s5)), .second] [(.int (if (s6 - s5) < per then (1 : Int32) else (0 : Int32)))] (fun k2 => ?_) ?_
  ·
    by_cases c1 : (s6 - s5) < per
    ·
      refine own_lcmpge_f H d5_21 d5_22 c1 ?_
      refine own_iconst H (1 : Int32) (by decide) d5_25 ?_
      refine own_goto H (pc' := 30) d5_26 (by decide) (by decide) ?_
      exact own_cast (by simp only [if_pos c1]) (by simp only [if_pos c1]) k2
    ·
      refine own_lcmpge_t H (pc' := 29) d5_21 d5_22 (by decide) (by decide) c1 ?_
      refine own_iconst H (0 : Int32) (by decide) d5_29 ?_
      exact own_cast (by simp only [if_neg c1]) (by simp only [if_neg c1]) k2
  exact own_ireturn H (by simp) (by first | rfl | (split <;> rfl) | (split <;> (try split) <;> rfl)) d5_30 (by decide) (by decide) ⟨rfl, rfl⟩
set_option maxHeartbeats 4000000 in
theorem rmX2_0_0f (l : Launch) (Z : State) (a0 : Array Value) (hw : ∀ (i : Nat) (d : Jvm.Cond), tables_1[i]? = some d → d.before a0 Z = true) (h0 : Heap) (n0 : Nat) (a : Addr) (now : Int64) (per : Int64) (hZ0 : n0 ≤ h0.size) (hE : Exa Z h0 a "com/example/trailwire/trailwire/http2/BurstLimit") (hF1 : Fld Z h0 a "com/example/trailwire/trailwire/http2/BurstLimit" "events" "I" (.int (2 : Int32))) (hF2 : Fld Z h0 a "com/example/trailwire/trailwire/http2/BurstLimit" "period" "J" (.long per)) (hF3 : Fld Z h0 a "com/example/trailwire/trailwire/http2/BurstLimit" "times" "[J" .null) (hF4 : Fld Z h0 a "com/example/trailwire/trailwire/http2/BurstLimit" "next" "I" (.int (0 : Int32))) (hF5 : Fld Z h0 a "com/example/trailwire/trailwire/http2/BurstLimit" "full" "Z" (.int (0 : Int32))) (hA_a : n0 ≤ a) :
    own_C l Z (⟨"com/example/trailwire/trailwire/http2/BurstLimit", "exceededBy", "(J)Z"⟩ : MethodName) prog_1_method_2_code 4 (some .boolean) ({ frames := 0, cells := 1, slots := 2, locals := 0 } : Room) #[(.ref a), (.long now)] h0 n0 (fun v h' => ∃ (a2 : Addr) (kA3 : ClassId), v = some (.int (0 : Int32)) ∧ Keep h0 h' [a] ∧ n0 ≤ a2 ∧ h0.size ≤ a2 ∧ a2 < h'.size ∧ Exa Z h' a "com/example/trailwire/trailwire/http2/BurstLimit" ∧ Fld Z h' a "com/example/trailwire/trailwire/http2/BurstLimit" "events" "I" (.int (2 : Int32)) ∧ Fld Z h' a "com/example/trailwire/trailwire/http2/BurstLimit" "period" "J" (.long per) ∧ Fld Z h' a "com/example/trailwire/trailwire/http2/BurstLimit" "times" "[J" (.ref a2) ∧ Fld Z h' a "com/example/trailwire/trailwire/http2/BurstLimit" "next" "I" (.int (1 : Int32)) ∧ Fld Z h' a "com/example/trailwire/trailwire/http2/BurstLimit" "full" "Z" (.int (0 : Int32)) ∧ Arv Z h' a2 kA3 .long (2 : Int32) [(.long now), (.long 0)] (.long 0)) := by
  refine own_met (Ls := #[.val (.ref a), .val (.long now), .second, .unset]) hw own_pl4 (fun m => by first | (simp [entryFrame, mkF, argsToLocals, Value.category]; done) | rfl) ?_
  intro B H
  have hK : Keep h0 h0 [a] := Keep.refl _ _
  refine own_aload_n H rfl rfl d4_0 ?_
  refine own_getfield H (w := 24) rfl hF3 d4_1 ?_
  refine own_ifnonnull_f H d4_4 rfl rfl ?_
  refine own_aload_n H rfl rfl d4_7 ?_
  refine own_aload_n H rfl rfl d4_8 ?_
  refine own_getfield H (w := 15) rfl hF1 d4_9 ?_
  refine own_newarray H (w := 0) (n := (2 : Int32)) rfl (by decide) 2 (by decide) (by decide) d4_12 (by decide) (by decide) ?_
  intro h1 a2 kA3 ha4 E5 V6
  have f7 : a ≠ a2 := Nat.ne_of_lt (by rw [ha4]; exact hE.lt)
  have f8 : n0 ≤ a2 := by rw [ha4]; exact hZ0
  have f9 : h0.size ≤ a2 := by rw [ha4]; exact hK.1
  have f10 : Exa Z h1 a "com/example/trailwire/trailwire/http2/BurstLimit" := hE.ext E5
  have f11 : Fld Z h1 a "com/example/trailwire/trailwire/http2/BurstLimit" "events" "I" (.int (2 : Int32)) := hF1.ext E5
  have f12 : Fld Z h1 a "com/example/trailwire/trailwire/http2/BurstLimit" "period" "J" (.long per) := hF2.ext E5
  have f13 : Fld Z h1 a "com/example/trailwire/trailwire/http2/BurstLimit" "times" "[J" .null := hF3.ext E5
  have f14 : Fld Z h1 a "com/example/trailwire/trailwire/http2/BurstLimit" "next" "I" (.int (0 : Int32)) := hF4.ext E5
  have f15 : Fld Z h1 a "com/example/trailwire/trailwire/http2/BurstLimit" "full" "Z" (.int (0 : Int32)) := hF5.ext E5
  have f16 : n0 ≤ h1.size := Nat.le_trans hZ0 E5.1
  have f17 : Keep h0 h1 [a] := hK.ext E5
  have f18 : Arv Z h1 a2 kA3 .long (2 : Int32) [(.long 0), (.long 0)] (.long 0) := V6.pad (pad_rep [] (.long 0) 2)
  show own_G _ _ _ _ _ _ _ _ 14 #[.val (.ref a), .val (.long now), .second, .unset] [(.ref a2), (.ref a)]
  refine own_putfield H (w := 24) (wi := 7) rfl f13 f10 hA_a (Or.inl (own_w H (i := 25) rfl)) rfl (ty := (.array .long)) (by decide) rfl rfl d4_14 ?_
  intro h19 W20
  have f21 : Exa Z h19 a "com/example/trailwire/trailwire/http2/BurstLimit" := f10.wr W20
  have f22 : Fld Z h19 a "com/example/trailwire/trailwire/http2/BurstLimit" "events" "I" (.int (2 : Int32)) := f11.other W20 (Or.inr (slot_ne (Or.inr (own_w H (i := 16) rfl)) (Or.inl (own_w H (i := 25) rfl)) (by decide) (t := .int) (t' := (.array .long)) (by decide) (by decide)))
  have f23 : Fld Z h19 a "com/example/trailwire/trailwire/http2/BurstLimit" "period" "J" (.long per) := f12.other W20 (Or.inr (slot_ne (Or.inr (own_w H (i := 18) rfl)) (Or.inl (own_w H (i := 25) rfl)) (by decide) (t := .long) (t' := (.array .long)) (by decide) (by decide)))
  have f24 : Fld Z h19 a "com/example/trailwire/trailwire/http2/BurstLimit" "times" "[J" (.ref a2) := f13.same W20
  have f25 : Fld Z h19 a "com/example/trailwire/trailwire/http2/BurstLimit" "next" "I" (.int (0 : Int32)) := f14.other W20 (Or.inr (slot_ne (Or.inl (own_w H (i := 29) rfl)) (Or.inl (own_w H (i := 25) rfl)) (by decide) (t := .int) (t' := (.array .long)) (by decide) (by decide)))
  have f26 : Fld Z h19 a "com/example/trailwire/trailwire/http2/BurstLimit" "full" "Z" (.int (0 : Int32)) := f15.other W20 (Or.inr (slot_ne (Or.inl (own_w H (i := 27) rfl)) (Or.inl (own_w H (i := 25) rfl)) (by decide) (t := .boolean) (t' := (.array .long)) (by decide) (by decide)))
  have f27 : n0 ≤ h19.size := by rw [W20.size]; exact f16
  have f28 : Keep h0 h19 [a] := f17.wr W20 (Or.inl (by simp))
  have f29 : Arv Z h19 a2 kA3 .long (2 : Int32) [(.long 0), (.long 0)] (.long 0) := f18.other W20 f7.symm
  refine own_aload_n H rfl rfl d4_17 ?_
  refine own_getfield H (w := 26) rfl f26 d4_18 ?_
  refine own_ifeq_t H (pc' := 47) d4_21 (by decide) (by decide) (by decide) ?_
  refine own_iconst H (0 : Int32) (by decide) d4_47 ?_
  refine own_istore_n H #[.val (.ref a), .val (.long now), .second, .val (.int (0 : Int32))] rfl d4_48 ?_
  refine own_aload_n H rfl rfl d4_49 ?_
  refine own_getfield H (w := 24) rfl f24 d4_50 ?_
  refine own_aload_n H rfl rfl d4_53 ?_
  refine own_getfield H (w := 28) rfl f25 d4_54 ?_
  refine own_lload_n H rfl d4_57 ?_
  refine own_lastoreV H f29 (by decide) (by decide) 0 (by decide) (Nat.le_of_ble_eq_true rfl) f8 rfl d4_58 ?_
  intro h30 W31 V32
  have f33 : Exa Z h30 a "com/example/trailwire/trailwire/http2/BurstLimit" := f21.wr W31
  have f34 : Fld Z h30 a "com/example/trailwire/trailwire/http2/BurstLimit" "events" "I" (.int (2 : Int32)) := f22.other W31 (Or.inl f7)
  have f35 : Fld Z h30 a "com/example/trailwire/trailwire/http2/BurstLimit" "period" "J" (.long per) := f23.other W31 (Or.inl f7)
  have f36 : Fld Z h30 a "com/example/trailwire/trailwire/http2/BurstLimit" "times" "[J" (.ref a2) := f24.other W31 (Or.inl f7)
  have f37 : Fld Z h30 a "com/example/trailwire/trailwire/http2/BurstLimit" "next" "I" (.int (0 : Int32)) := f25.other W31 (Or.inl f7)
  have f38 : Fld Z h30 a "com/example/trailwire/trailwire/http2/BurstLimit" "full" "Z" (.int (0 : Int32)) := f26.other W31 (Or.inl f7)
  have f39 : n0 ≤ h30.size := by rw [W31.size]; exact f27
  have f40 : Keep h0 h30 [a] := f28.wr W31 (Or.inr f9)
  have f41 : Arv Z h30 a2 kA3 .long (2 : Int32) [(.long now), (.long 0)] (.long 0) := V32
  refine own_aload_n H rfl rfl d4_59 ?_
  refine own_aload_n H rfl rfl d4_60 ?_
  refine own_getfield H (w := 28) rfl f37 d4_61 ?_
  refine own_iconst H (1 : Int32) (by decide) d4_64 ?_
  refine own_iadd (v := (1 : Int32)) H (by decide) d4_65 ?_
  refine own_aload_n H rfl rfl d4_66 ?_
  refine own_getfield H (w := 15) rfl f34 d4_67 ?_
  refine own_irem (v := (1 : Int32)) H (by decide) d4_70 (by decide) ?_
  refine own_putfield H (w := 28) (wi := 7) rfl f37 f33 hA_a (Or.inl (own_w H (i := 29) rfl)) rfl (ty := .int) (by decide) rfl rfl d4_71 ?_
  intro h42 W43
  have f44 : Exa Z h42 a "com/example/trailwire/trailwire/http2/BurstLimit" := f33.wr W43
  have f45 : Fld Z h42 a "com/example/trailwire/trailwire/http2/BurstLimit" "events" "I" (.int (2 : Int32)) := f34.other W43 (Or.inr (slot_ne (Or.inr (own_w H (i := 16) rfl)) (Or.inl (own_w H (i := 29) rfl)) (by decide) (t := .int) (t' := .int) (by decide) (by decide)))
  have f46 : Fld Z h42 a "com/example/trailwire/trailwire/http2/BurstLimit" "period" "J" (.long per) := f35.other W43 (Or.inr (slot_ne (Or.inr (own_w H (i := 18) rfl)) (Or.inl (own_w H (i := 29) rfl)) (by decide) (t := .long) (t' := .int) (by decide) (by decide)))
  have f47 : Fld Z h42 a "com/example/trailwire/trailwire/http2/BurstLimit" "times" "[J" (.ref a2) := f36.other W43 (Or.inr (slot_ne (Or.inl (own_w H (i := 25) rfl)) (Or.inl (own_w H (i := 29) rfl)) (by decide) (t := (.array .long)) (t' := .int) (by decide) (by decide)))
  have f48 : Fld Z h42 a "com/example/trailwire/trailwire/http2/BurstLimit" "next" "I" (.int (1 : Int32)) := f37.same W43
  have f49 : Fld Z h42 a "com/example/trailwire/trailwire/http2/BurstLimit" "full" "Z" (.int (0 : Int32)) := f38.other W43 (Or.inr (slot_ne (Or.inl (own_w H (i := 27) rfl)) (Or.inl (own_w H (i := 29) rfl)) (by decide) (t := .boolean) (t' := .int) (by decide) (by decide)))
  have f50 : n0 ≤ h42.size := by rw [W43.size]; exact f39
  have f51 : Keep h0 h42 [a] := f40.wr W43 (Or.inl (by simp))
  have f52 : Arv Z h42 a2 kA3 .long (2 : Int32) [(.long now), (.long 0)] (.long 0) := f41.other W43 f7.symm
  refine own_aload_n H rfl rfl d4_74 ?_
  refine own_aload_n H rfl rfl d4_75 ?_
  refine own_getfield H (w := 26) rfl f49 d4_76 ?_
  refine own_ifne_f H d4_79 (by decide) ?_
  refine own_aload_n H rfl rfl d4_82 ?_
  refine own_getfield H (w := 28) rfl f48 d4_83 ?_
  refine own_ifne_t H (pc' := 93) d4_86 (by decide) (by decide) (by decide) ?_
  refine own_iconst H (0 : Int32) (by decide) d4_93 ?_
  refine own_putfield H (w := 26) (wi := 7) rfl f49 f44 hA_a (Or.inl (own_w H (i := 27) rfl)) rfl (ty := .boolean) (by decide) rfl rfl d4_94 ?_
  intro h53 W54
  have f55 : Exa Z h53 a "com/example/trailwire/trailwire/http2/BurstLimit" := f44.wr W54
  have f56 : Fld Z h53 a "com/example/trailwire/trailwire/http2/BurstLimit" "events" "I" (.int (2 : Int32)) := f45.other W54 (Or.inr (slot_ne (Or.inr (own_w H (i := 16) rfl)) (Or.inl (own_w H (i := 27) rfl)) (by decide) (t := .int) (t' := .boolean) (by decide) (by decide)))
  have f57 : Fld Z h53 a "com/example/trailwire/trailwire/http2/BurstLimit" "period" "J" (.long per) := f46.other W54 (Or.inr (slot_ne (Or.inr (own_w H (i := 18) rfl)) (Or.inl (own_w H (i := 27) rfl)) (by decide) (t := .long) (t' := .boolean) (by decide) (by decide)))
  have f58 : Fld Z h53 a "com/example/trailwire/trailwire/http2/BurstLimit" "times" "[J" (.ref a2) := f47.other W54 (Or.inr (slot_ne (Or.inl (own_w H (i := 25) rfl)) (Or.inl (own_w H (i := 27) rfl)) (by decide) (t := (.array .long)) (t' := .boolean) (by decide) (by decide)))
  have f59 : Fld Z h53 a "com/example/trailwire/trailwire/http2/BurstLimit" "next" "I" (.int (1 : Int32)) := f48.other W54 (Or.inr (slot_ne (Or.inl (own_w H (i := 29) rfl)) (Or.inl (own_w H (i := 27) rfl)) (by decide) (t := .int) (t' := .boolean) (by decide) (by decide)))
  have f60 : Fld Z h53 a "com/example/trailwire/trailwire/http2/BurstLimit" "full" "Z" (.int (0 : Int32)) := f49.same W54
  have f61 : n0 ≤ h53.size := by rw [W54.size]; exact f50
  have f62 : Keep h0 h53 [a] := f51.wr W54 (Or.inl (by simp))
  have f63 : Arv Z h53 a2 kA3 .long (2 : Int32) [(.long now), (.long 0)] (.long 0) := f52.other W54 f7.symm
  refine own_iload_n H rfl d4_97 ?_
  exact own_ireturn H (by simp) (by decide) d4_98 (by decide) (by decide) ⟨a2, kA3, rfl, f62, f8, f9, f63.lt, f55, f56, f57, f58, f59, f60, f63⟩
set_option maxHeartbeats 4000000 in
theorem rmX2_1_0 (l : Launch) (Z : State) (a0 : Array Value) (hw : ∀ (i : Nat) (d : Jvm.Cond), tables_1[i]? = some d → d.before a0 Z = true) (h0 : Heap) (n0 : Nat) (a : Addr) (now : Int64) (per : Int64) (t : Addr) (kA : ClassId) (t0 : Int64) (t1 : Int64) (hZ0 : n0 ≤ h0.size) (hE : Exa Z h0 a "com/example/trailwire/trailwire/http2/BurstLimit") (hF1 : Fld Z h0 a "com/example/trailwire/trailwire/http2/BurstLimit" "events" "I" (.int (2 : Int32))) (hF2 : Fld Z h0 a "com/example/trailwire/trailwire/http2/BurstLimit" "period" "J" (.long per)) (hF3 : Fld Z h0 a "com/example/trailwire/trailwire/http2/BurstLimit" "times" "[J" (.ref t)) (hF4 : Fld Z h0 a "com/example/trailwire/trailwire/http2/BurstLimit" "next" "I" (.int (1 : Int32))) (hF5 : Fld Z h0 a "com/example/trailwire/trailwire/http2/BurstLimit" "full" "Z" (.int (0 : Int32))) (hV : Arv Z h0 t kA .long (2 : Int32) [(.long t0), (.long t1)] (.long 0)) (hne : a ≠ t) (hA_a : n0 ≤ a) (hA_t : n0 ≤ t) :
    own_C l Z (⟨"com/example/trailwire/trailwire/http2/BurstLimit", "exceededBy", "(J)Z"⟩ : MethodName) prog_1_method_2_code 4 (some .boolean) ({ frames := 0, cells := 0, slots := 0, locals := 0 } : Room) #[(.ref a), (.long now)] h0 n0 (fun v h' => v = some (.int (0 : Int32)) ∧ Keep h0 h' [a, t] ∧ Exa Z h' a "com/example/trailwire/trailwire/http2/BurstLimit" ∧ Fld Z h' a "com/example/trailwire/trailwire/http2/BurstLimit" "events" "I" (.int (2 : Int32)) ∧ Fld Z h' a "com/example/trailwire/trailwire/http2/BurstLimit" "period" "J" (.long per) ∧ Fld Z h' a "com/example/trailwire/trailwire/http2/BurstLimit" "times" "[J" (.ref t) ∧ Fld Z h' a "com/example/trailwire/trailwire/http2/BurstLimit" "next" "I" (.int (0 : Int32)) ∧ Fld Z h' a "com/example/trailwire/trailwire/http2/BurstLimit" "full" "Z" (.int (1 : Int32)) ∧ Arv Z h' t kA .long (2 : Int32) [(.long t0), (.long now)] (.long 0)) := by
  refine own_met (Ls := #[.val (.ref a), .val (.long now), .second, .unset]) hw own_pl4 (fun m => by first | (simp [entryFrame, mkF, argsToLocals, Value.category]; done) | rfl) ?_
  intro B H
  have hK : Keep h0 h0 [a, t] := Keep.refl _ _
  refine own_aload_n H rfl rfl d4_0 ?_
  refine own_getfield H (w := 24) rfl hF3 d4_1 ?_
  refine own_ifnonnull_t H (pc' := 17) d4_4 (by decide) (by decide) rfl (fun h => nomatch h) ?_
  refine own_aload_n H rfl rfl d4_17 ?_
  refine own_getfield H (w := 26) rfl hF5 d4_18 ?_
  refine own_ifeq_t H (pc' := 47) d4_21 (by decide) (by decide) (by decide) ?_
  refine own_iconst H (0 : Int32) (by decide) d4_47 ?_
  refine own_istore_n H #[.val (.ref a), .val (.long now), .second, .val (.int (0 : Int32))] rfl d4_48 ?_
  refine own_aload_n H rfl rfl d4_49 ?_
  refine own_getfield H (w := 24) rfl hF3 d4_50 ?_
  refine own_aload_n H rfl rfl d4_53 ?_
  refine own_getfield H (w := 28) rfl hF4 d4_54 ?_
  refine own_lload_n H rfl d4_57 ?_
  refine own_lastoreV H hV (by decide) (by decide) 1 (by decide) (Nat.le_of_ble_eq_true rfl) hA_t rfl d4_58 ?_
  intro h1 W2 V3
  have f4 : Exa Z h1 a "com/example/trailwire/trailwire/http2/BurstLimit" := hE.wr W2
  have f5 : Fld Z h1 a "com/example/trailwire/trailwire/http2/BurstLimit" "events" "I" (.int (2 : Int32)) := hF1.other W2 (Or.inl hne)
  have f6 : Fld Z h1 a "com/example/trailwire/trailwire/http2/BurstLimit" "period" "J" (.long per) := hF2.other W2 (Or.inl hne)
  have f7 : Fld Z h1 a "com/example/trailwire/trailwire/http2/BurstLimit" "times" "[J" (.ref t) := hF3.other W2 (Or.inl hne)
  have f8 : Fld Z h1 a "com/example/trailwire/trailwire/http2/BurstLimit" "next" "I" (.int (1 : Int32)) := hF4.other W2 (Or.inl hne)
  have f9 : Fld Z h1 a "com/example/trailwire/trailwire/http2/BurstLimit" "full" "Z" (.int (0 : Int32)) := hF5.other W2 (Or.inl hne)
  have f10 : n0 ≤ h1.size := by rw [W2.size]; exact hZ0
  have f11 : Keep h0 h1 [a, t] := hK.wr W2 (Or.inl (by simp))
  have f12 : Arv Z h1 t kA .long (2 : Int32) [(.long t0), (.long now)] (.long 0) := V3
  refine own_aload_n H rfl rfl d4_59 ?_
  refine own_aload_n H rfl rfl d4_60 ?_
  refine own_getfield H (w := 28) rfl f8 d4_61 ?_
  refine own_iconst H (1 : Int32) (by decide) d4_64 ?_
  refine own_iadd (v := (2 : Int32)) H (by decide) d4_65 ?_
  refine own_aload_n H rfl rfl d4_66 ?_
  refine own_getfield H (w := 15) rfl f5 d4_67 ?_
  refine own_irem (v := (0 : Int32)) H (by decide) d4_70 (by decide) ?_
  refine own_putfield H (w := 28) (wi := 7) rfl f8 f4 hA_a (Or.inl (own_w H (i := 29) rfl)) rfl (ty := .int) (by decide) rfl rfl d4_71 ?_
  intro h13 W14
  have f15 : Exa Z h13 a "com/example/trailwire/trailwire/http2/BurstLimit" := f4.wr W14
  have f16 : Fld Z h13 a "com/example/trailwire/trailwire/http2/BurstLimit" "events" "I" (.int (2 : Int32)) := f5.other W14 (Or.inr (slot_ne (Or.inr (own_w H (i := 16) rfl)) (Or.inl (own_w H (i := 29) rfl)) (by decide) (t := .int) (t' := .int) (by decide) (by decide)))
  have f17 : Fld Z h13 a "com/example/trailwire/trailwire/http2/BurstLimit" "period" "J" (.long per) := f6.other W14 (Or.inr (slot_ne (Or.inr (own_w H (i := 18) rfl)) (Or.inl (own_w H (i := 29) rfl)) (by decide) (t := .long) (t' := .int) (by decide) (by decide)))
  have f18 : Fld Z h13 a "com/example/trailwire/trailwire/http2/BurstLimit" "times" "[J" (.ref t) := f7.other W14 (Or.inr (slot_ne (Or.inl (own_w H (i := 25) rfl)) (Or.inl (own_w H (i := 29) rfl)) (by decide) (t := (.array .long)) (t' := .int) (by decide) (by decide)))
  have f19 : Fld Z h13 a "com/example/trailwire/trailwire/http2/BurstLimit" "next" "I" (.int (0 : Int32)) := f8.same W14
  have f20 : Fld Z h13 a "com/example/trailwire/trailwire/http2/BurstLimit" "full" "Z" (.int (0 : Int32)) := f9.other W14 (Or.inr (slot_ne (Or.inl (own_w H (i := 27) rfl)) (Or.inl (own_w H (i := 29) rfl)) (by decide) (t := .boolean) (t' := .int) (by decide) (by decide)))
  have f21 : Arv Z h13 t kA .long (2 : Int32) [(.long t0), (.long now)] (.long 0) := f12.other W14 hne.symm
  have f22 : n0 ≤ h13.size := by rw [W14.size]; exact f10
  have f23 : Keep h0 h13 [a, t] := f11.wr W14 (Or.inl (by simp))
  refine own_aload_n H rfl rfl d4_74 ?_
  refine own_aload_n H rfl rfl d4_75 ?_
  refine own_getfield H (w := 26) rfl f20 d4_76 ?_
  refine own_ifne_f H d4_79 (by decide) ?_
  refine own_aload_n H rfl rfl d4_82 ?_
  refine own_getfield H (w := 28) rfl f19 d4_83 ?_
  refine own_ifne_f H d4_86 (by decide) ?_
  refine own_iconst H (1 : Int32) (by decide) d4_89 ?_
  refine own_goto H (pc' := 94) d4_90 (by decide) (by decide) ?_
  refine own_putfield H (w := 26) (wi := 7) rfl f20 f15 hA_a (Or.inl (own_w H (i := 27) rfl)) rfl (ty := .boolean) (by decide) rfl rfl d4_94 ?_
  intro h24 W25
  have f26 : Exa Z h24 a "com/example/trailwire/trailwire/http2/BurstLimit" := f15.wr W25
  have f27 : Fld Z h24 a "com/example/trailwire/trailwire/http2/BurstLimit" "events" "I" (.int (2 : Int32)) := f16.other W25 (Or.inr (slot_ne (Or.inr (own_w H (i := 16) rfl)) (Or.inl (own_w H (i := 27) rfl)) (by decide) (t := .int) (t' := .boolean) (by decide) (by decide)))
  have f28 : Fld Z h24 a "com/example/trailwire/trailwire/http2/BurstLimit" "period" "J" (.long per) := f17.other W25 (Or.inr (slot_ne (Or.inr (own_w H (i := 18) rfl)) (Or.inl (own_w H (i := 27) rfl)) (by decide) (t := .long) (t' := .boolean) (by decide) (by decide)))
  have f29 : Fld Z h24 a "com/example/trailwire/trailwire/http2/BurstLimit" "times" "[J" (.ref t) := f18.other W25 (Or.inr (slot_ne (Or.inl (own_w H (i := 25) rfl)) (Or.inl (own_w H (i := 27) rfl)) (by decide) (t := (.array .long)) (t' := .boolean) (by decide) (by decide)))
  have f30 : Fld Z h24 a "com/example/trailwire/trailwire/http2/BurstLimit" "next" "I" (.int (0 : Int32)) := f19.other W25 (Or.inr (slot_ne (Or.inl (own_w H (i := 29) rfl)) (Or.inl (own_w H (i := 27) rfl)) (by decide) (t := .int) (t' := .boolean) (by decide) (by decide)))
  have f31 : Fld Z h24 a "com/example/trailwire/trailwire/http2/BurstLimit" "full" "Z" (.int (1 : Int32)) := f20.same W25
  have f32 : Arv Z h24 t kA .long (2 : Int32) [(.long t0), (.long now)] (.long 0) := f21.other W25 hne.symm
  have f33 : n0 ≤ h24.size := by rw [W25.size]; exact f22
  have f34 : Keep h0 h24 [a, t] := f23.wr W25 (Or.inl (by simp))
  refine own_iload_n H rfl d4_97 ?_
  exact own_ireturn H (by simp) (by decide) d4_98 (by decide) (by decide) ⟨rfl, f34, f26, f27, f28, f29, f30, f31, f32⟩
set_option maxHeartbeats 4000000 in
theorem rmX2_0_1 (l : Launch) (Z : State) (a0 : Array Value) (hw : ∀ (i : Nat) (d : Jvm.Cond), tables_1[i]? = some d → d.before a0 Z = true) (h0 : Heap) (n0 : Nat) (a : Addr) (now : Int64) (per : Int64) (t : Addr) (kA : ClassId) (t0 : Int64) (t1 : Int64) (hZ0 : n0 ≤ h0.size) (hE : Exa Z h0 a "com/example/trailwire/trailwire/http2/BurstLimit") (hF1 : Fld Z h0 a "com/example/trailwire/trailwire/http2/BurstLimit" "events" "I" (.int (2 : Int32))) (hF2 : Fld Z h0 a "com/example/trailwire/trailwire/http2/BurstLimit" "period" "J" (.long per)) (hF3 : Fld Z h0 a "com/example/trailwire/trailwire/http2/BurstLimit" "times" "[J" (.ref t)) (hF4 : Fld Z h0 a "com/example/trailwire/trailwire/http2/BurstLimit" "next" "I" (.int (0 : Int32))) (hF5 : Fld Z h0 a "com/example/trailwire/trailwire/http2/BurstLimit" "full" "Z" (.int (1 : Int32))) (hV : Arv Z h0 t kA .long (2 : Int32) [(.long t0), (.long t1)] (.long 0)) (hne : a ≠ t) (hA_a : n0 ≤ a) (hA_t : n0 ≤ t) :
    own_C l Z (⟨"com/example/trailwire/trailwire/http2/BurstLimit", "exceededBy", "(J)Z"⟩ : MethodName) prog_1_method_2_code 4 (some .boolean) ({ frames := 0, cells := 0, slots := 0, locals := 0 } : Room) #[(.ref a), (.long now)] h0 n0 (fun v h' => v = some (.int (if (now - t0) < per then (1 : Int32) else (0 : Int32))) ∧ Keep h0 h' [a, t] ∧ Exa Z h' a "com/example/trailwire/trailwire/http2/BurstLimit" ∧ Fld Z h' a "com/example/trailwire/trailwire/http2/BurstLimit" "events" "I" (.int (2 : Int32)) ∧ Fld Z h' a "com/example/trailwire/trailwire/http2/BurstLimit" "period" "J" (.long per) ∧ Fld Z h' a "com/example/trailwire/trailwire/http2/BurstLimit" "times" "[J" (.ref t) ∧ Fld Z h' a "com/example/trailwire/trailwire/http2/BurstLimit" "next" "I" (.int (1 : Int32)) ∧ Fld Z h' a "com/example/trailwire/trailwire/http2/BurstLimit" "full" "Z" (.int (1 : Int32)) ∧ Arv Z h' t kA .long (2 : Int32) [(.long now), (.long t1)] (.long 0)) := by
  refine own_met (Ls := #[.val (.ref a), .val (.long now), .second, .unset]) hw own_pl4 (fun m => by first | (simp [entryFrame, mkF, argsToLocals, Value.category]; done) | rfl) ?_
  intro B H
  have hK : Keep h0 h0 [a, t] := Keep.refl _ _
  refine own_aload_n H rfl rfl d4_0 ?_
  refine own_getfield H (w := 24) rfl hF3 d4_1 ?_
  refine own_ifnonnull_t H (pc' := 17) d4_4 (by decide) (by decide) rfl (fun h => nomatch h) ?_
  refine own_aload_n H rfl rfl d4_17 ?_
  refine own_getfield H (w := 26) rfl hF5 d4_18 ?_
  refine own_ifeq_f H d4_21 (by decide) ?_
  refine own_lload_n H rfl d4_24 ?_
  refine own_aload_n H rfl rfl d4_25 ?_
  refine own_getfield H (w := 24) rfl hF3 d4_26 ?_
  refine own_aload_n H rfl rfl d4_29 ?_
  refine own_getfield H (w := 28) rfl hF4 d4_30 ?_
  refine own_laloadV H hV (by decide) (by decide) rfl d4_33 ?_
  refine own_lsub H rfl d4_34 ?_
  refine own_aload_n H rfl rfl d4_35 ?_
  refine own_getfield H (w := 17) rfl hF2 d4_36 ?_
  refine own_cut 48 #[.val (.ref a), .val (.long now), .second, .unset] [(.int (if (now - t0) < per then (1 : Int32) else (0 : Int32)))] (fun k2 => ?_) ?_
  ·
    by_cases c1 : (now - t0) < per
    ·
      refine own_lcmpge_f H d4_39 d4_40 c1 ?_
      refine own_iconst H (1 : Int32) (by decide) d4_43 ?_
      refine own_goto H (pc' := 48) d4_44 (by decide) (by decide) ?_
      exact own_cast (by simp only [if_pos c1]) (by simp only [if_pos c1]) k2
    ·
      refine own_lcmpge_t H (pc' := 47) d4_39 d4_40 (by decide) (by decide) c1 ?_
      refine own_iconst H (0 : Int32) (by decide) d4_47 ?_
      exact own_cast (by simp only [if_neg c1]) (by simp only [if_neg c1]) k2
  refine own_istore_n H #[.val (.ref a), .val (.long now), .second, .val (.int (if (now - t0) < per then (1 : Int32) else (0 : Int32)))] rfl d4_48 ?_
  refine own_aload_n H rfl rfl d4_49 ?_
  refine own_getfield H (w := 24) rfl hF3 d4_50 ?_
  refine own_aload_n H rfl rfl d4_53 ?_
  refine own_getfield H (w := 28) rfl hF4 d4_54 ?_
  refine own_lload_n H rfl d4_57 ?_
  refine own_lastoreV H hV (by decide) (by decide) 0 (by decide) (Nat.le_of_ble_eq_true rfl) hA_t rfl d4_58 ?_
  intro h3 W4 V5
  have f6 : Exa Z h3 a "com/example/trailwire/trailwire/http2/BurstLimit" := hE.wr W4
  have f7 : Fld Z h3 a "com/example/trailwire/trailwire/http2/BurstLimit" "events" "I" (.int (2 : Int32)) := hF1.other W4 (Or.inl hne)
  have f8 : Fld Z h3 a "com/example/trailwire/trailwire/http2/BurstLimit" "period" "J" (.long per) := hF2.other W4 (Or.inl hne)
  have f9 : Fld Z h3 a "com/example/trailwire/trailwire/http2/BurstLimit" "times" "[J" (.ref t) := hF3.other W4 (Or.inl hne)
  have f10 : Fld Z h3 a "com/example/trailwire/trailwire/http2/BurstLimit" "next" "I" (.int (0 : Int32)) := hF4.other W4 (Or.inl hne)
  have f11 : Fld Z h3 a "com/example/trailwire/trailwire/http2/BurstLimit" "full" "Z" (.int (1 : Int32)) := hF5.other W4 (Or.inl hne)
  have f12 : n0 ≤ h3.size := by rw [W4.size]; exact hZ0
  have f13 : Keep h0 h3 [a, t] := hK.wr W4 (Or.inl (by simp))
  have f14 : Arv Z h3 t kA .long (2 : Int32) [(.long now), (.long t1)] (.long 0) := V5
  refine own_aload_n H rfl rfl d4_59 ?_
  refine own_aload_n H rfl rfl d4_60 ?_
  refine own_getfield H (w := 28) rfl f10 d4_61 ?_
  refine own_iconst H (1 : Int32) (by decide) d4_64 ?_
  refine own_iadd (v := (1 : Int32)) H (by decide) d4_65 ?_
  refine own_aload_n H rfl rfl d4_66 ?_
  refine own_getfield H (w := 15) rfl f7 d4_67 ?_
  refine own_irem (v := (1 : Int32)) H (by decide) d4_70 (by decide) ?_
  refine own_putfield H (w := 28) (wi := 7) rfl f10 f6 hA_a (Or.inl (own_w H (i := 29) rfl)) rfl (ty := .int) (by decide) rfl rfl d4_71 ?_
  intro h15 W16
  have f17 : Exa Z h15 a "com/example/trailwire/trailwire/http2/BurstLimit" := f6.wr W16
  have f18 : Fld Z h15 a "com/example/trailwire/trailwire/http2/BurstLimit" "events" "I" (.int (2 : Int32)) := f7.other W16 (Or.inr (slot_ne (Or.inr (own_w H (i := 16) rfl)) (Or.inl (own_w H (i := 29) rfl)) (by decide) (t := .int) (t' := .int) (by decide) (by decide)))
  have f19 : Fld Z h15 a "com/example/trailwire/trailwire/http2/BurstLimit" "period" "J" (.long per) := f8.other W16 (Or.inr (slot_ne (Or.inr (own_w H (i := 18) rfl)) (Or.inl (own_w H (i := 29) rfl)) (by decide) (t := .long) (t' := .int) (by decide) (by decide)))
  have f20 : Fld Z h15 a "com/example/trailwire/trailwire/http2/BurstLimit" "times" "[J" (.ref t) := f9.other W16 (Or.inr (slot_ne (Or.inl (own_w H (i := 25) rfl)) (Or.inl (own_w H (i := 29) rfl)) (by decide) (t := (.array .long)) (t' := .int) (by decide) (by decide)))
  have f21 : Fld Z h15 a "com/example/trailwire/trailwire/http2/BurstLimit" "next" "I" (.int (1 : Int32)) := f10.same W16
  have f22 : Fld Z h15 a "com/example/trailwire/trailwire/http2/BurstLimit" "full" "Z" (.int (1 : Int32)) := f11.other W16 (Or.inr (slot_ne (Or.inl (own_w H (i := 27) rfl)) (Or.inl (own_w H (i := 29) rfl)) (by decide) (t := .boolean) (t' := .int) (by decide) (by decide)))
  have f23 : Arv Z h15 t kA .long (2 : Int32) [(.long now), (.long t1)] (.long 0) := f14.other W16 hne.symm
  have f24 : n0 ≤ h15.size := by rw [W16.size]; exact f12
  have f25 : Keep h0 h15 [a, t] := f13.wr W16 (Or.inl (by simp))
  refine own_aload_n H rfl rfl d4_74 ?_
  refine own_aload_n H rfl rfl d4_75 ?_
  refine own_getfield H (w := 26) rfl f22 d4_76 ?_
  refine own_ifne_t H (pc' := 89) d4_79 (by decide) (by decide) (by decide) ?_
  refine own_iconst H (1 : Int32) (by decide) d4_89 ?_
  refine own_goto H (pc' := 94) d4_90 (by decide) (by decide) ?_
  refine own_putfield H (w := 26) (wi := 7) rfl f22 f17 hA_a (Or.inl (own_w H (i := 27) rfl)) rfl (ty := .boolean) (by decide) rfl rfl d4_94 ?_
  intro h26 W27
  have f28 : Exa Z h26 a "com/example/trailwire/trailwire/http2/BurstLimit" := f17.wr W27
  have f29 : Fld Z h26 a "com/example/trailwire/trailwire/http2/BurstLimit" "events" "I" (.int (2 : Int32)) := f18.other W27 (Or.inr (slot_ne (Or.inr (own_w H (i := 16) rfl)) (Or.inl (own_w H (i := 27) rfl)) (by decide) (t := .int) (t' := .boolean) (by decide) (by decide)))
  have f30 : Fld Z h26 a "com/example/trailwire/trailwire/http2/BurstLimit" "period" "J" (.long per) := f19.other W27 (Or.inr (slot_ne (Or.inr (own_w H (i := 18) rfl)) (Or.inl (own_w H (i := 27) rfl)) (by decide) (t := .long) (t' := .boolean) (by decide) (by decide)))
  have f31 : Fld Z h26 a "com/example/trailwire/trailwire/http2/BurstLimit" "times" "[J" (.ref t) := f20.other W27 (Or.inr (slot_ne (Or.inl (own_w H (i := 25) rfl)) (Or.inl (own_w H (i := 27) rfl)) (by decide) (t := (.array .long)) (t' := .boolean) (by decide) (by decide)))
  have f32 : Fld Z h26 a "com/example/trailwire/trailwire/http2/BurstLimit" "next" "I" (.int (1 : Int32)) := f21.other W27 (Or.inr (slot_ne (Or.inl (own_w H (i := 29) rfl)) (Or.inl (own_w H (i := 27) rfl)) (by decide) (t := .int) (t' := .boolean) (by decide) (by decide)))
  have f33 : Fld Z h26 a "com/example/trailwire/trailwire/http2/BurstLimit" "full" "Z" (.int (1 : Int32)) := f22.same W27
  have f34 : Arv Z h26 t kA .long (2 : Int32) [(.long now), (.long t1)] (.long 0) := f23.other W27 hne.symm
  have f35 : n0 ≤ h26.size := by rw [W27.size]; exact f24
  have f36 : Keep h0 h26 [a, t] := f25.wr W27 (Or.inl (by simp))
  refine own_iload_n H rfl d4_97 ?_
  exact own_ireturn H (by simp) (by first | rfl | (split <;> rfl) | (split <;> (try split) <;> rfl)) d4_98 (by decide) (by decide) ⟨rfl, f36, f28, f29, f30, f31, f32, f33, f34⟩
set_option maxHeartbeats 4000000 in
theorem rmX2_1_1 (l : Launch) (Z : State) (a0 : Array Value) (hw : ∀ (i : Nat) (d : Jvm.Cond), tables_1[i]? = some d → d.before a0 Z = true) (h0 : Heap) (n0 : Nat) (a : Addr) (now : Int64) (per : Int64) (t : Addr) (kA : ClassId) (t0 : Int64) (t1 : Int64) (hZ0 : n0 ≤ h0.size) (hE : Exa Z h0 a "com/example/trailwire/trailwire/http2/BurstLimit") (hF1 : Fld Z h0 a "com/example/trailwire/trailwire/http2/BurstLimit" "events" "I" (.int (2 : Int32))) (hF2 : Fld Z h0 a "com/example/trailwire/trailwire/http2/BurstLimit" "period" "J" (.long per)) (hF3 : Fld Z h0 a "com/example/trailwire/trailwire/http2/BurstLimit" "times" "[J" (.ref t)) (hF4 : Fld Z h0 a "com/example/trailwire/trailwire/http2/BurstLimit" "next" "I" (.int (1 : Int32))) (hF5 : Fld Z h0 a "com/example/trailwire/trailwire/http2/BurstLimit" "full" "Z" (.int (1 : Int32))) (hV : Arv Z h0 t kA .long (2 : Int32) [(.long t0), (.long t1)] (.long 0)) (hne : a ≠ t) (hA_a : n0 ≤ a) (hA_t : n0 ≤ t) :
    own_C l Z (⟨"com/example/trailwire/trailwire/http2/BurstLimit", "exceededBy", "(J)Z"⟩ : MethodName) prog_1_method_2_code 4 (some .boolean) ({ frames := 0, cells := 0, slots := 0, locals := 0 } : Room) #[(.ref a), (.long now)] h0 n0 (fun v h' => v = some (.int (if (now - t1) < per then (1 : Int32) else (0 : Int32))) ∧ Keep h0 h' [a, t] ∧ Exa Z h' a "com/example/trailwire/trailwire/http2/BurstLimit" ∧ Fld Z h' a "com/example/trailwire/trailwire/http2/BurstLimit" "events" "I" (.int (2 : Int32)) ∧ Fld Z h' a "com/example/trailwire/trailwire/http2/BurstLimit" "period" "J" (.long per) ∧ Fld Z h' a "com/example/trailwire/trailwire/http2/BurstLimit" "times" "[J" (.ref t) ∧ Fld Z h' a "com/example/trailwire/trailwire/http2/BurstLimit" "next" "I" (.int (0 : Int32)) ∧ Fld Z h' a "com/example/trailwire/trailwire/http2/BurstLimit" "full" "Z" (.int (1 : Int32)) ∧ Arv Z h' t kA .long (2 : Int32) [(.long t0), (.long now)] (.long 0)) := by
  refine own_met (Ls := #[.val (.ref a), .val (.long now), .second, .unset]) hw own_pl4 (fun m => by first | (simp [entryFrame, mkF, argsToLocals, Value.category]; done) | rfl) ?_
  intro B H
  have hK : Keep h0 h0 [a, t] := Keep.refl _ _
  refine own_aload_n H rfl rfl d4_0 ?_
  refine own_getfield H (w := 24) rfl hF3 d4_1 ?_
  refine own_ifnonnull_t H (pc' := 17) d4_4 (by decide) (by decide) rfl (fun h => nomatch h) ?_
  refine own_aload_n H rfl rfl d4_17 ?_
  refine own_getfield H (w := 26) rfl hF5 d4_18 ?_
  refine own_ifeq_f H d4_21 (by decide) ?_
  refine own_lload_n H rfl d4_24 ?_
  refine own_aload_n H rfl rfl d4_25 ?_
  refine own_getfield H (w := 24) rfl hF3 d4_26 ?_
  refine own_aload_n H rfl rfl d4_29 ?_
  refine own_getfield H (w := 28) rfl hF4 d4_30 ?_
  refine own_laloadV H hV (by decide) (by decide) rfl d4_33 ?_
  refine own_lsub H rfl d4_34 ?_
  refine own_aload_n H rfl rfl d4_35 ?_
  refine own_getfield H (w := 17) rfl hF2 d4_36 ?_
  refine own_cut 48 #[.val (.ref a), .val (.long now), .second, .unset] [(.int (if (now - t1) < per then (1 : Int32) else (0 : Int32)))] (fun k2 => ?_) ?_
  ·
    by_cases c1 : (now - t1) < per
    ·
      refine own_lcmpge_f H d4_39 d4_40 c1 ?_
      refine own_iconst H (1 : Int32) (by decide) d4_43 ?_
      refine own_goto H (pc' := 48) d4_44 (by decide) (by decide) ?_
      exact own_cast (by simp only [if_pos c1]) (by simp only [if_pos c1]) k2
    ·
      refine own_lcmpge_t H (pc' := 47) d4_39 d4_40 (by decide) (by decide) c1 ?_
      refine own_iconst H (0 : Int32) (by decide) d4_47 ?_
      exact own_cast (by simp only [if_neg c1]) (by simp only [if_neg c1]) k2
  refine own_istore_n H #[.val (.ref a), .val (.long now), .second, .val (.int (if (now - t1) < per then (1 : Int32) else (0 : Int32)))] rfl d4_48 ?_
  refine own_aload_n H rfl rfl d4_49 ?_
  refine own_getfield H (w := 24) rfl hF3 d4_50 ?_
  refine own_aload_n H rfl rfl d4_53 ?_
  refine own_getfield H (w := 28) rfl hF4 d4_54 ?_
  refine own_lload_n H rfl d4_57 ?_
  refine own_lastoreV H hV (by decide) (by decide) 1 (by decide) (Nat.le_of_ble_eq_true rfl) hA_t rfl d4_58 ?_
  intro h3 W4 V5
  have f6 : Exa Z h3 a "com/example/trailwire/trailwire/http2/BurstLimit" := hE.wr W4
  have f7 : Fld Z h3 a "com/example/trailwire/trailwire/http2/BurstLimit" "events" "I" (.int (2 : Int32)) := hF1.other W4 (Or.inl hne)
  have f8 : Fld Z h3 a "com/example/trailwire/trailwire/http2/BurstLimit" "period" "J" (.long per) := hF2.other W4 (Or.inl hne)
  have f9 : Fld Z h3 a "com/example/trailwire/trailwire/http2/BurstLimit" "times" "[J" (.ref t) := hF3.other W4 (Or.inl hne)
  have f10 : Fld Z h3 a "com/example/trailwire/trailwire/http2/BurstLimit" "next" "I" (.int (1 : Int32)) := hF4.other W4 (Or.inl hne)
  have f11 : Fld Z h3 a "com/example/trailwire/trailwire/http2/BurstLimit" "full" "Z" (.int (1 : Int32)) := hF5.other W4 (Or.inl hne)
  have f12 : n0 ≤ h3.size := by rw [W4.size]; exact hZ0
  have f13 : Keep h0 h3 [a, t] := hK.wr W4 (Or.inl (by simp))
  have f14 : Arv Z h3 t kA .long (2 : Int32) [(.long t0), (.long now)] (.long 0) := V5
  refine own_aload_n H rfl rfl d4_59 ?_
  refine own_aload_n H rfl rfl d4_60 ?_
  refine own_getfield H (w := 28) rfl f10 d4_61 ?_
  refine own_iconst H (1 : Int32) (by decide) d4_64 ?_
  refine own_iadd (v := (2 : Int32)) H (by decide) d4_65 ?_
  refine own_aload_n H rfl rfl d4_66 ?_
  refine own_getfield H (w := 15) rfl f7 d4_67 ?_
  refine own_irem (v := (0 : Int32)) H (by decide) d4_70 (by decide) ?_
  refine own_putfield H (w := 28) (wi := 7) rfl f10 f6 hA_a (Or.inl (own_w H (i := 29) rfl)) rfl (ty := .int) (by decide) rfl rfl d4_71 ?_
  intro h15 W16
  have f17 : Exa Z h15 a "com/example/trailwire/trailwire/http2/BurstLimit" := f6.wr W16
  have f18 : Fld Z h15 a "com/example/trailwire/trailwire/http2/BurstLimit" "events" "I" (.int (2 : Int32)) := f7.other W16 (Or.inr (slot_ne (Or.inr (own_w H (i := 16) rfl)) (Or.inl (own_w H (i := 29) rfl)) (by decide) (t := .int) (t' := .int) (by decide) (by decide)))
  have f19 : Fld Z h15 a "com/example/trailwire/trailwire/http2/BurstLimit" "period" "J" (.long per) := f8.other W16 (Or.inr (slot_ne (Or.inr (own_w H (i := 18) rfl)) (Or.inl (own_w H (i := 29) rfl)) (by decide) (t := .long) (t' := .int) (by decide) (by decide)))
  have f20 : Fld Z h15 a "com/example/trailwire/trailwire/http2/BurstLimit" "times" "[J" (.ref t) := f9.other W16 (Or.inr (slot_ne (Or.inl (own_w H (i := 25) rfl)) (Or.inl (own_w H (i := 29) rfl)) (by decide) (t := (.array .long)) (t' := .int) (by decide) (by decide)))
  have f21 : Fld Z h15 a "com/example/trailwire/trailwire/http2/BurstLimit" "next" "I" (.int (0 : Int32)) := f10.same W16
  have f22 : Fld Z h15 a "com/example/trailwire/trailwire/http2/BurstLimit" "full" "Z" (.int (1 : Int32)) := f11.other W16 (Or.inr (slot_ne (Or.inl (own_w H (i := 27) rfl)) (Or.inl (own_w H (i := 29) rfl)) (by decide) (t := .boolean) (t' := .int) (by decide) (by decide)))
  have f23 : Arv Z h15 t kA .long (2 : Int32) [(.long t0), (.long now)] (.long 0) := f14.other W16 hne.symm
  have f24 : n0 ≤ h15.size := by rw [W16.size]; exact f12
  have f25 : Keep h0 h15 [a, t] := f13.wr W16 (Or.inl (by simp))
  refine own_aload_n H rfl rfl d4_74 ?_
  refine own_aload_n H rfl rfl d4_75 ?_
  refine own_getfield H (w := 26) rfl f22 d4_76 ?_
  refine own_ifne_t H (pc' := 89) d4_79 (by decide) (by decide) (by decide) ?_
  refine own_iconst H (1 : Int32) (by decide) d4_89 ?_
  refine own_goto H (pc' := 94) d4_90 (by decide) (by decide) ?_
  refine own_putfield H (w := 26) (wi := 7) rfl f22 f17 hA_a (Or.inl (own_w H (i := 27) rfl)) rfl (ty := .boolean) (by decide) rfl rfl d4_94 ?_
  intro h26 W27
  have f28 : Exa Z h26 a "com/example/trailwire/trailwire/http2/BurstLimit" := f17.wr W27
  have f29 : Fld Z h26 a "com/example/trailwire/trailwire/http2/BurstLimit" "events" "I" (.int (2 : Int32)) := f18.other W27 (Or.inr (slot_ne (Or.inr (own_w H (i := 16) rfl)) (Or.inl (own_w H (i := 27) rfl)) (by decide) (t := .int) (t' := .boolean) (by decide) (by decide)))
  have f30 : Fld Z h26 a "com/example/trailwire/trailwire/http2/BurstLimit" "period" "J" (.long per) := f19.other W27 (Or.inr (slot_ne (Or.inr (own_w H (i := 18) rfl)) (Or.inl (own_w H (i := 27) rfl)) (by decide) (t := .long) (t' := .boolean) (by decide) (by decide)))
  have f31 : Fld Z h26 a "com/example/trailwire/trailwire/http2/BurstLimit" "times" "[J" (.ref t) := f20.other W27 (Or.inr (slot_ne (Or.inl (own_w H (i := 25) rfl)) (Or.inl (own_w H (i := 27) rfl)) (by decide) (t := (.array .long)) (t' := .boolean) (by decide) (by decide)))
  have f32 : Fld Z h26 a "com/example/trailwire/trailwire/http2/BurstLimit" "next" "I" (.int (0 : Int32)) := f21.other W27 (Or.inr (slot_ne (Or.inl (own_w H (i := 29) rfl)) (Or.inl (own_w H (i := 27) rfl)) (by decide) (t := .int) (t' := .boolean) (by decide) (by decide)))
  have f33 : Fld Z h26 a "com/example/trailwire/trailwire/http2/BurstLimit" "full" "Z" (.int (1 : Int32)) := f22.same W27
  have f34 : Arv Z h26 t kA .long (2 : Int32) [(.long t0), (.long now)] (.long 0) := f23.other W27 hne.symm
  have f35 : n0 ≤ h26.size := by rw [W27.size]; exact f24
  have f36 : Keep h0 h26 [a, t] := f25.wr W27 (Or.inl (by simp))
  refine own_iload_n H rfl d4_97 ?_
  exact own_ireturn H (by simp) (by first | rfl | (split <;> rfl) | (split <;> (try split) <;> rfl)) d4_98 (by decide) (by decide) ⟨rfl, f36, f28, f29, f30, f31, f32, f33, f34⟩
set_option maxHeartbeats 4000000 in
theorem rmE0_2 (l : Launch) (Z : State) (a0 : Array Value) (hw : ∀ (i : Nat) (d : Jvm.Cond), tables_1[i]? = some d → d.before a0 Z = true) (h0 : Heap) (n0 : Nat) (t : Addr) (per : Int64) (kA : ClassId) (s0 : Int64) (s1 : Int64) (s2 : Int64) (s3 : Int64) (s4 : Int64) (s5 : Int64) (s6 : Int64) (hV : Arv Z h0 t kA .long (7 : Int32) [(.long s0), (.long s1), (.long s2), (.long s3), (.long s4), (.long s5), (.long s6)] (.long 0)) :
    own_C l Z (⟨"com/example/trailwire/trailwire/http2/BurstLimitExceededByPinLaw", "expected", "(II[JJ)Z"⟩ : MethodName) method_4_code 7 (some .boolean) ({ frames := 0, cells := 0, slots := 0, locals := 0 } : Room) #[(.int (0 : Int32)), (.int (2 : Int32)), (.ref t), (.long per)] h0 n0 (fun v h' => v = some (.int (0 : Int32)) ∧ h0 = h') := by
  refine own_met (Ls := #[.val (.int (0 : Int32)), .val (.int (2 : Int32)), .val (.ref t), .val (.long per), .second, .unset, .unset]) hw own_pl5 (fun m => by first | (simp [entryFrame, mkF, argsToLocals, Value.category]; done) | rfl) ?_
  intro B H
  refine own_iload_n H rfl d5_0 ?_
  refine own_iload_n H rfl d5_1 ?_
  refine own_icmpge_f H d5_2 (by decide) ?_
  refine own_iconst H (0 : Int32) (by decide) d5_5 ?_
  exact own_ireturn H (by simp) (by decide) d5_6 (by decide) (by decide) ⟨rfl, rfl⟩
set_option maxHeartbeats 4000000 in
theorem rmE1_2 (l : Launch) (Z : State) (a0 : Array Value) (hw : ∀ (i : Nat) (d : Jvm.Cond), tables_1[i]? = some d → d.before a0 Z = true) (h0 : Heap) (n0 : Nat) (t : Addr) (per : Int64) (kA : ClassId) (s0 : Int64) (s1 : Int64) (s2 : Int64) (s3 : Int64) (s4 : Int64) (s5 : Int64) (s6 : Int64) (hV : Arv Z h0 t kA .long (7 : Int32) [(.long s0), (.long s1), (.long s2), (.long s3), (.long s4), (.long s5), (.long s6)] (.long 0)) :
    own_C l Z (⟨"com/example/trailwire/trailwire/http2/BurstLimitExceededByPinLaw", "expected", "(II[JJ)Z"⟩ : MethodName) method_4_code 7 (some .boolean) ({ frames := 0, cells := 0, slots := 0, locals := 0 } : Room) #[(.int (1 : Int32)), (.int (2 : Int32)), (.ref t), (.long per)] h0 n0 (fun v h' => v = some (.int (0 : Int32)) ∧ h0 = h') := by
  refine own_met (Ls := #[.val (.int (1 : Int32)), .val (.int (2 : Int32)), .val (.ref t), .val (.long per), .second, .unset, .unset]) hw own_pl5 (fun m => by first | (simp [entryFrame, mkF, argsToLocals, Value.category]; done) | rfl) ?_
  intro B H
  refine own_iload_n H rfl d5_0 ?_
  refine own_iload_n H rfl d5_1 ?_
  refine own_icmpge_f H d5_2 (by decide) ?_
  refine own_iconst H (0 : Int32) (by decide) d5_5 ?_
  exact own_ireturn H (by simp) (by decide) d5_6 (by decide) (by decide) ⟨rfl, rfl⟩
set_option maxHeartbeats 4000000 in
theorem rmE2_2 (l : Launch) (Z : State) (a0 : Array Value) (hw : ∀ (i : Nat) (d : Jvm.Cond), tables_1[i]? = some d → d.before a0 Z = true) (h0 : Heap) (n0 : Nat) (t : Addr) (per : Int64) (kA : ClassId) (s0 : Int64) (s1 : Int64) (s2 : Int64) (s3 : Int64) (s4 : Int64) (s5 : Int64) (s6 : Int64) (hV : Arv Z h0 t kA .long (7 : Int32) [(.long s0), (.long s1), (.long s2), (.long s3), (.long s4), (.long s5), (.long s6)] (.long 0)) :
    own_C l Z (⟨"com/example/trailwire/trailwire/http2/BurstLimitExceededByPinLaw", "expected", "(II[JJ)Z"⟩ : MethodName) method_4_code 7 (some .boolean) ({ frames := 0, cells := 0, slots := 0, locals := 0 } : Room) #[(.int (2 : Int32)), (.int (2 : Int32)), (.ref t), (.long per)] h0 n0 (fun v h' => v = some (.int (if (s2 - s0) < per then (1 : Int32) else (0 : Int32))) ∧ h0 = h') := by
  refine own_met (Ls := #[.val (.int (2 : Int32)), .val (.int (2 : Int32)), .val (.ref t), .val (.long per), .second, .unset, .unset]) hw own_pl5 (fun m => by first | (simp [entryFrame, mkF, argsToLocals, Value.category]; done) | rfl) ?_
  intro B H
  refine own_iload_n H rfl d5_0 ?_
  refine own_iload_n H rfl d5_1 ?_
  refine own_icmpge_t H (pc' := 7) d5_2 (by decide) (by decide) (by decide) ?_
  refine own_aload_n H rfl rfl d5_7 ?_
  refine own_iload_n H rfl d5_8 ?_
  refine own_laloadV H hV (by decide) (by decide) rfl d5_9 ?_
  refine own_aload_n H rfl rfl d5_10 ?_
  refine own_iload_n H rfl d5_11 ?_
  refine own_iload_n H rfl d5_12 ?_
  refine own_isub (v := (0 : Int32)) H (by decide) d5_13 ?_
  refine own_laloadV H hV (by decide) (by decide) rfl d5_14 ?_
  refine own_lsub H rfl d5_15 ?_
  refine own_lstore H #[.val (.int (2 : Int32)), .val (.int (2 : Int32)), .val (.ref t), .val (.long per), .second, .val (.long (s2 - s0)), .second] rfl d5_16 ?_
  refine own_lload H rfl d5_18 ?_
  refine own_lload_n H rfl d5_20 ?_
  refine own_cut 30 #[.val (.int (2 : Int32)), .val (.int (2 : Int32)), .val (.ref t), .val (.long per), .second, .val (.long (s2 - s0)), .second] [(.int (if (s2 - s0) < per then (1 : Int32) else (0 : Int32)))] (fun k2 => ?_) ?_
  ·
    by_cases c1 : (s2 - s0) < per
    ·
      refine own_lcmpge_f H d5_21 d5_22 c1 ?_
      refine own_iconst H (1 : Int32) (by decide) d5_25 ?_
      refine own_goto H (pc' := 30) d5_26 (by decide) (by decide) ?_
      exact own_cast (by simp only [if_pos c1]) (by simp only [if_pos c1]) k2
    ·
      refine own_lcmpge_t H (pc' := 29) d5_21 d5_22 (by decide) (by decide) c1 ?_
      refine own_iconst H (0 : Int32) (by decide) d5_29 ?_
      exact own_cast (by simp only [if_neg c1]) (by simp only [if_neg c1]) k2
  exact own_ireturn H (by simp) (by first | rfl | (split <;> rfl) | (split <;> (try split) <;> rfl)) d5_30 (by decide) (by decide) ⟨rfl, rfl⟩
set_option maxHeartbeats 4000000 in
theorem rmE3_2 (l : Launch) (Z : State) (a0 : Array Value) (hw : ∀ (i : Nat) (d : Jvm.Cond), tables_1[i]? = some d → d.before a0 Z = true) (h0 : Heap) (n0 : Nat) (t : Addr) (per : Int64) (kA : ClassId) (s0 : Int64) (s1 : Int64) (s2 : Int64) (s3 : Int64) (s4 : Int64) (s5 : Int64) (s6 : Int64) (hV : Arv Z h0 t kA .long (7 : Int32) [(.long s0), (.long s1), (.long s2), (.long s3), (.long s4), (.long s5), (.long s6)] (.long 0)) :
    own_C l Z (⟨"com/example/trailwire/trailwire/http2/BurstLimitExceededByPinLaw", "expected", "(II[JJ)Z"⟩ : MethodName) method_4_code 7 (some .boolean) ({ frames := 0, cells := 0, slots := 0, locals := 0 } : Room) #[(.int (3 : Int32)), (.int (2 : Int32)), (.ref t), (.long per)] h0 n0 (fun v h' => v = some (.int (if (s3 - s1) < per then (1 : Int32) else (0 : Int32))) ∧ h0 = h') := by
  refine own_met (Ls := #[.val (.int (3 : Int32)), .val (.int (2 : Int32)), .val (.ref t), .val (.long per), .second, .unset, .unset]) hw own_pl5 (fun m => by first | (simp [entryFrame, mkF, argsToLocals, Value.category]; done) | rfl) ?_
  intro B H
  refine own_iload_n H rfl d5_0 ?_
  refine own_iload_n H rfl d5_1 ?_
  refine own_icmpge_t H (pc' := 7) d5_2 (by decide) (by decide) (by decide) ?_
  refine own_aload_n H rfl rfl d5_7 ?_
  refine own_iload_n H rfl d5_8 ?_
  refine own_laloadV H hV (by decide) (by decide) rfl d5_9 ?_
  refine own_aload_n H rfl rfl d5_10 ?_
  refine own_iload_n H rfl d5_11 ?_
  refine own_iload_n H rfl d5_12 ?_
  refine own_isub (v := (1 : Int32)) H (by decide) d5_13 ?_
  refine own_laloadV H hV (by decide) (by decide) rfl d5_14 ?_
  refine own_lsub H rfl d5_15 ?_
  refine own_lstore H #[.val (.int (3 : Int32)), .val (.int (2 : Int32)), .val (.ref t), .val (.long per), .second, .val (.long (s3 - s1)), .second] rfl d5_16 ?_
  refine own_lload H rfl d5_18 ?_
  refine own_lload_n H rfl d5_20 ?_
  refine own_cut 30 #[.val (.int (3 : Int32)), .val (.int (2 : Int32)), .val (.ref t), .val (.long per), .second, .val (.long (s3 - s1)), .second] [(.int (if (s3 - s1) < per then (1 : Int32) else (0 : Int32)))] (fun k2 => ?_) ?_
  ·
    by_cases c1 : (s3 - s1) < per
    ·
      refine own_lcmpge_f H d5_21 d5_22 c1 ?_
      refine own_iconst H (1 : Int32) (by decide) d5_25 ?_
      refine own_goto H (pc' := 30) d5_26 (by decide) (by decide) ?_
      exact own_cast (by simp only [if_pos c1]) (by simp only [if_pos c1]) k2
    ·
      refine own_lcmpge_t H (pc' := 29) d5_21 d5_22 (by decide) (by decide) c1 ?_
      refine own_iconst H (0 : Int32) (by decide) d5_29 ?_
      exact own_cast (by simp only [if_neg c1]) (by simp only [if_neg c1]) k2
  exact own_ireturn H (by simp) (by first | rfl | (split <;> rfl) | (split <;> (try split) <;> rfl)) d5_30 (by decide) (by decide) ⟨rfl, rfl⟩
set_option maxHeartbeats 4000000 in
theorem rmE4_2 (l : Launch) (Z : State) (a0 : Array Value) (hw : ∀ (i : Nat) (d : Jvm.Cond), tables_1[i]? = some d → d.before a0 Z = true) (h0 : Heap) (n0 : Nat) (t : Addr) (per : Int64) (kA : ClassId) (s0 : Int64) (s1 : Int64) (s2 : Int64) (s3 : Int64) (s4 : Int64) (s5 : Int64) (s6 : Int64) (hV : Arv Z h0 t kA .long (7 : Int32) [(.long s0), (.long s1), (.long s2), (.long s3), (.long s4), (.long s5), (.long s6)] (.long 0)) :
    own_C l Z (⟨"com/example/trailwire/trailwire/http2/BurstLimitExceededByPinLaw", "expected", "(II[JJ)Z"⟩ : MethodName) method_4_code 7 (some .boolean) ({ frames := 0, cells := 0, slots := 0, locals := 0 } : Room) #[(.int (4 : Int32)), (.int (2 : Int32)), (.ref t), (.long per)] h0 n0 (fun v h' => v = some (.int (if (s4 - s2) < per then (1 : Int32) else (0 : Int32))) ∧ h0 = h') := by
  refine own_met (Ls := #[.val (.int (4 : Int32)), .val (.int (2 : Int32)), .val (.ref t), .val (.long per), .second, .unset, .unset]) hw own_pl5 (fun m => by first | (simp [entryFrame, mkF, argsToLocals, Value.category]; done) | rfl) ?_
  intro B H
  refine own_iload_n H rfl d5_0 ?_
  refine own_iload_n H rfl d5_1 ?_
  refine own_icmpge_t H (pc' := 7) d5_2 (by decide) (by decide) (by decide) ?_
  refine own_aload_n H rfl rfl d5_7 ?_
  refine own_iload_n H rfl d5_8 ?_
  refine own_laloadV H hV (by decide) (by decide) rfl d5_9 ?_
  refine own_aload_n H rfl rfl d5_10 ?_
  refine own_iload_n H rfl d5_11 ?_
  refine own_iload_n H rfl d5_12 ?_
  refine own_isub (v := (2 : Int32)) H (by decide) d5_13 ?_
  refine own_laloadV H hV (by decide) (by decide) rfl d5_14 ?_
  refine own_lsub H rfl d5_15 ?_
  refine own_lstore H #[.val (.int (4 : Int32)), .val (.int (2 : Int32)), .val (.ref t), .val (.long per), .second, .val (.long (s4 - s2)), .second] rfl d5_16 ?_
  refine own_lload H rfl d5_18 ?_
  refine own_lload_n H rfl d5_20 ?_
  refine own_cut 30 #[.val (.int (4 : Int32)), .val (.int (2 : Int32)), .val (.ref t), .val (.long per), .second, .val (.long (s4 - s2)), .second] [(.int (if (s4 - s2) < per then (1 : Int32) else (0 : Int32)))] (fun k2 => ?_) ?_
  ·
    by_cases c1 : (s4 - s2) < per
    ·
      refine own_lcmpge_f H d5_21 d5_22 c1 ?_
      refine own_iconst H (1 : Int32) (by decide) d5_25 ?_
      refine own_goto H (pc' := 30) d5_26 (by decide) (by decide) ?_
      exact own_cast (by simp only [if_pos c1]) (by simp only [if_pos c1]) k2
    ·
      refine own_lcmpge_t H (pc' := 29) d5_21 d5_22 (by decide) (by decide) c1 ?_
      refine own_iconst H (0 : Int32) (by decide) d5_29 ?_
      exact own_cast (by simp only [if_neg c1]) (by simp only [if_neg c1]) k2
  exact own_ireturn H (by simp) (by first | rfl | (split <;> rfl) | (split <;> (try split) <;> rfl)) d5_30 (by decide) (by decide) ⟨rfl, rfl⟩
set_option maxHeartbeats 4000000 in
theorem rmE5_2 (l : Launch) (Z : State) (a0 : Array Value) (hw : ∀ (i : Nat) (d : Jvm.Cond), tables_1[i]? = some d → d.before a0 Z = true) (h0 : Heap) (n0 : Nat) (t : Addr) (per : Int64) (kA : ClassId) (s0 : Int64) (s1 : Int64) (s2 : Int64) (s3 : Int64) (s4 : Int64) (s5 : Int64) (s6 : Int64) (hV : Arv Z h0 t kA .long (7 : Int32) [(.long s0), (.long s1), (.long s2), (.long s3), (.long s4), (.long s5), (.long s6)] (.long 0)) :
    own_C l Z (⟨"com/example/trailwire/trailwire/http2/BurstLimitExceededByPinLaw", "expected", "(II[JJ)Z"⟩ : MethodName) method_4_code 7 (some .boolean) ({ frames := 0, cells := 0, slots := 0, locals := 0 } : Room) #[(.int (5 : Int32)), (.int (2 : Int32)), (.ref t), (.long per)] h0 n0 (fun v h' => v = some (.int (if (s5 - s3) < per then (1 : Int32) else (0 : Int32))) ∧ h0 = h') := by
  refine own_met (Ls := #[.val (.int (5 : Int32)), .val (.int (2 : Int32)), .val (.ref t), .val (.long per), .second, .unset, .unset]) hw own_pl5 (fun m => by first | (simp [entryFrame, mkF, argsToLocals, Value.category]; done) | rfl) ?_
  intro B H
  refine own_iload_n H rfl d5_0 ?_
  refine own_iload_n H rfl d5_1 ?_
  refine own_icmpge_t H (pc' := 7) d5_2 (by decide) (by decide) (by decide) ?_
  refine own_aload_n H rfl rfl d5_7 ?_
  refine own_iload_n H rfl d5_8 ?_
  refine own_laloadV H hV (by decide) (by decide) rfl d5_9 ?_
  refine own_aload_n H rfl rfl d5_10 ?_
  refine own_iload_n H rfl d5_11 ?_
  refine own_iload_n H rfl d5_12 ?_
  refine own_isub (v := (3 : Int32)) H (by decide) d5_13 ?_
  refine own_laloadV H hV (by decide) (by decide) rfl d5_14 ?_
  refine own_lsub H rfl d5_15 ?_
  refine own_lstore H #[.val (.int (5 : Int32)), .val (.int (2 : Int32)), .val (.ref t), .val (.long per), .second, .val (.long (s5 - s3)), .second] rfl d5_16 ?_
  refine own_lload H rfl d5_18 ?_
  refine own_lload_n H rfl d5_20 ?_
  refine own_cut 30 #[.val (.int (5 : Int32)), .val (.int (2 : Int32)), .val (.ref t), .val (.long per), .second, .val (.long (s5 - s3)), .second] [(.int (if (s5 - s3) < per then (1 : Int32) else (0 : Int32)))] (fun k2 => ?_) ?_
  ·
    by_cases c1 : (s5 - s3) < per
    ·
      refine own_lcmpge_f H d5_21 d5_22 c1 ?_
      refine own_iconst H (1 : Int32) (by decide) d5_25 ?_
      refine own_goto H (pc' := 30) d5_26 (by decide) (by decide) ?_
      exact own_cast (by simp only [if_pos c1]) (by simp only [if_pos c1]) k2
    ·
      refine own_lcmpge_t H (pc' := 29) d5_21 d5_22 (by decide) (by decide) c1 ?_
      refine own_iconst H (0 : Int32) (by decide) d5_29 ?_
      exact own_cast (by simp only [if_neg c1]) (by simp only [if_neg c1]) k2
  exact own_ireturn H (by simp) (by first | rfl | (split <;> rfl) | (split <;> (try split) <;> rfl)) d5_30 (by decide) (by decide) ⟨rfl, rfl⟩
set_option maxHeartbeats 4000000 in
theorem rmE6_2 (l : Launch) (Z : State) (a0 : Array Value) (hw : ∀ (i : Nat) (d : Jvm.Cond), tables_1[i]? = some d → d.before a0 Z = true) (h0 : Heap) (n0 : Nat) (t : Addr) (per : Int64) (kA : ClassId) (s0 : Int64) (s1 : Int64) (s2 : Int64) (s3 : Int64) (s4 : Int64) (s5 : Int64) (s6 : Int64) (hV : Arv Z h0 t kA .long (7 : Int32) [(.long s0), (.long s1), (.long s2), (.long s3), (.long s4), (.long s5), (.long s6)] (.long 0)) :
    own_C l Z (⟨"com/example/trailwire/trailwire/http2/BurstLimitExceededByPinLaw", "expected", "(II[JJ)Z"⟩ : MethodName) method_4_code 7 (some .boolean) ({ frames := 0, cells := 0, slots := 0, locals := 0 } : Room) #[(.int (6 : Int32)), (.int (2 : Int32)), (.ref t), (.long per)] h0 n0 (fun v h' => v = some (.int (if (s6 - s4) < per then (1 : Int32) else (0 : Int32))) ∧ h0 = h') := by
  refine own_met (Ls := #[.val (.int (6 : Int32)), .val (.int (2 : Int32)), .val (.ref t), .val (.long per), .second, .unset, .unset]) hw own_pl5 (fun m => by first | (simp [entryFrame, mkF, argsToLocals, Value.category]; done) | rfl) ?_
  intro B H
  refine own_iload_n H rfl d5_0 ?_
  refine own_iload_n H rfl d5_1 ?_
  refine own_icmpge_t H (pc' := 7) d5_2 (by decide) (by decide) (by decide) ?_
  refine own_aload_n H rfl rfl d5_7 ?_
  refine own_iload_n H rfl d5_8 ?_
  refine own_laloadV H hV (by decide) (by decide) rfl d5_9 ?_
  refine own_aload_n H rfl rfl d5_10 ?_
  refine own_iload_n H rfl d5_11 ?_
  refine own_iload_n H rfl d5_12 ?_
  refine own_isub (v := (4 : Int32)) H (by decide) d5_13 ?_
  refine own_laloadV H hV (by decide) (by decide) rfl d5_14 ?_
  refine own_lsub H rfl d5_15 ?_
  refine own_lstore H #[.val (.int (6 : Int32)), .val (.int (2 : Int32)), .val (.ref t), .val (.long per), .second, .val (.long (s6 - s4)), .second] rfl d5_16 ?_
  refine own_lload H rfl d5_18 ?_
  refine own_lload_n H rfl d5_20 ?_
  refine own_cut 30 #[.val (.int (6 : Int32)), .val (.int (2 : Int32)), .val (.ref t), .val (.long per), .second, .val (.long (s6 - s4)), .second] [(.int (if (s6 - s4) < per then (1 : Int32) else (0 : Int32)))] (fun k2 => ?_) ?_
  ·
    by_cases c1 : (s6 - s4) < per
    ·
      refine own_lcmpge_f H d5_21 d5_22 c1 ?_
      refine own_iconst H (1 : Int32) (by decide) d5_25 ?_
      refine own_goto H (pc' := 30) d5_26 (by decide) (by decide) ?_
      exact own_cast (by simp only [if_pos c1]) (by simp only [if_pos c1]) k2
    ·
      refine own_lcmpge_t H (pc' := 29) d5_21 d5_22 (by decide) (by decide) c1 ?_
      refine own_iconst H (0 : Int32) (by decide) d5_29 ?_
      exact own_cast (by simp only [if_neg c1]) (by simp only [if_neg c1]) k2
  exact own_ireturn H (by simp) (by first | rfl | (split <;> rfl) | (split <;> (try split) <;> rfl)) d5_30 (by decide) (by decide) ⟨rfl, rfl⟩
set_option maxHeartbeats 4000000 in
theorem rmX3_0_0f (l : Launch) (Z : State) (a0 : Array Value) (hw : ∀ (i : Nat) (d : Jvm.Cond), tables_1[i]? = some d → d.before a0 Z = true) (h0 : Heap) (n0 : Nat) (a : Addr) (now : Int64) (per : Int64) (hZ0 : n0 ≤ h0.size) (hE : Exa Z h0 a "com/example/trailwire/trailwire/http2/BurstLimit") (hF1 : Fld Z h0 a "com/example/trailwire/trailwire/http2/BurstLimit" "events" "I" (.int (3 : Int32))) (hF2 : Fld Z h0 a "com/example/trailwire/trailwire/http2/BurstLimit" "period" "J" (.long per)) (hF3 : Fld Z h0 a "com/example/trailwire/trailwire/http2/BurstLimit" "times" "[J" .null) (hF4 : Fld Z h0 a "com/example/trailwire/trailwire/http2/BurstLimit" "next" "I" (.int (0 : Int32))) (hF5 : Fld Z h0 a "com/example/trailwire/trailwire/http2/BurstLimit" "full" "Z" (.int (0 : Int32))) (hA_a : n0 ≤ a) :
    own_C l Z (⟨"com/example/trailwire/trailwire/http2/BurstLimit", "exceededBy", "(J)Z"⟩ : MethodName) prog_1_method_2_code 4 (some .boolean) ({ frames := 0, cells := 1, slots := 3, locals := 0 } : Room) #[(.ref a), (.long now)] h0 n0 (fun v h' => ∃ (a2 : Addr) (kA3 : ClassId), v = some (.int (0 : Int32)) ∧ Keep h0 h' [a] ∧ n0 ≤ a2 ∧ h0.size ≤ a2 ∧ a2 < h'.size ∧ Exa Z h' a "com/example/trailwire/trailwire/http2/BurstLimit" ∧ Fld Z h' a "com/example/trailwire/trailwire/http2/BurstLimit" "events" "I" (.int (3 : Int32)) ∧ Fld Z h' a "com/example/trailwire/trailwire/http2/BurstLimit" "period" "J" (.long per) ∧ Fld Z h' a "com/example/trailwire/trailwire/http2/BurstLimit" "times" "[J" (.ref a2) ∧ Fld Z h' a "com/example/trailwire/trailwire/http2/BurstLimit" "next" "I" (.int (1 : Int32)) ∧ Fld Z h' a "com/example/trailwire/trailwire/http2/BurstLimit" "full" "Z" (.int (0 : Int32)) ∧ Arv Z h' a2 kA3 .long (3 : Int32) [(.long now), (.long 0), (.long 0)] (.long 0)) := by
  refine own_met (Ls := #[.val (.ref a), .val (.long now), .second, .unset]) hw own_pl4 (fun m => by first | (simp [entryFrame, mkF, argsToLocals, Value.category]; done) | rfl) ?_
  intro B H
  have hK : Keep h0 h0 [a] := Keep.refl _ _
  refine own_aload_n H rfl rfl d4_0 ?_
  refine own_getfield H (w := 24) rfl hF3 d4_1 ?_
  refine own_ifnonnull_f H d4_4 rfl rfl ?_
  refine own_aload_n H rfl rfl d4_7 ?_
  refine own_aload_n H rfl rfl d4_8 ?_
  refine own_getfield H (w := 15) rfl hF1 d4_9 ?_
  refine own_newarray H (w := 0) (n := (3 : Int32)) rfl (by decide) 3 (by decide) (by decide) d4_12 (by decide) (by decide) ?_
  intro h1 a2 kA3 ha4 E5 V6
  have f7 : a ≠ a2 := Nat.ne_of_lt (by rw [ha4]; exact hE.lt)
  have f8 : n0 ≤ a2 := by rw [ha4]; exact hZ0
  have f9 : h0.size ≤ a2 := by rw [ha4]; exact hK.1
  have f10 : Exa Z h1 a "com/example/trailwire/trailwire/http2/BurstLimit" := hE.ext E5
  have f11 : Fld Z h1 a "com/example/trailwire/trailwire/http2/BurstLimit" "events" "I" (.int (3 : Int32)) := hF1.ext E5
  have f12 : Fld Z h1 a "com/example/trailwire/trailwire/http2/BurstLimit" "period" "J" (.long per) := hF2.ext E5
  have f13 : Fld Z h1 a "com/example/trailwire/trailwire/http2/BurstLimit" "times" "[J" .null := hF3.ext E5
  have f14 : Fld Z h1 a "com/example/trailwire/trailwire/http2/BurstLimit" "next" "I" (.int (0 : Int32)) := hF4.ext E5
  have f15 : Fld Z h1 a "com/example/trailwire/trailwire/http2/BurstLimit" "full" "Z" (.int (0 : Int32)) := hF5.ext E5
  have f16 : n0 ≤ h1.size := Nat.le_trans hZ0 E5.1
  have f17 : Keep h0 h1 [a] := hK.ext E5
  have f18 : Arv Z h1 a2 kA3 .long (3 : Int32) [(.long 0), (.long 0), (.long 0)] (.long 0) := V6.pad (pad_rep [] (.long 0) 3)
  show own_G _ _ _ _ _ _ _ _ 14 #[.val (.ref a), .val (.long now), .second, .unset] [(.ref a2), (.ref a)]
  refine own_putfield H (w := 24) (wi := 7) rfl f13 f10 hA_a (Or.inl (own_w H (i := 25) rfl)) rfl (ty := (.array .long)) (by decide) rfl rfl d4_14 ?_
  intro h19 W20
  have f21 : Exa Z h19 a "com/example/trailwire/trailwire/http2/BurstLimit" := f10.wr W20
  have f22 : Fld Z h19 a "com/example/trailwire/trailwire/http2/BurstLimit" "events" "I" (.int (3 : Int32)) := f11.other W20 (Or.inr (slot_ne (Or.inr (own_w H (i := 16) rfl)) (Or.inl (own_w H (i := 25) rfl)) (by decide) (t := .int) (t' := (.array .long)) (by decide) (by decide)))
  have f23 : Fld Z h19 a "com/example/trailwire/trailwire/http2/BurstLimit" "period" "J" (.long per) := f12.other W20 (Or.inr (slot_ne (Or.inr (own_w H (i := 18) rfl)) (Or.inl (own_w H (i := 25) rfl)) (by decide) (t := .long) (t' := (.array .long)) (by decide) (by decide)))
  have f24 : Fld Z h19 a "com/example/trailwire/trailwire/http2/BurstLimit" "times" "[J" (.ref a2) := f13.same W20
  have f25 : Fld Z h19 a "com/example/trailwire/trailwire/http2/BurstLimit" "next" "I" (.int (0 : Int32)) := f14.other W20 (Or.inr (slot_ne (Or.inl (own_w H (i := 29) rfl)) (Or.inl (own_w H (i := 25) rfl)) (by decide) (t := .int) (t' := (.array .long)) (by decide) (by decide)))
  have f26 : Fld Z h19 a "com/example/trailwire/trailwire/http2/BurstLimit" "full" "Z" (.int (0 : Int32)) := f15.other W20 (Or.inr (slot_ne (Or.inl (own_w H (i := 27) rfl)) (Or.inl (own_w H (i := 25) rfl)) (by decide) (t := .boolean) (t' := (.array .long)) (by decide) (by decide)))
  have f27 : n0 ≤ h19.size := by rw [W20.size]; exact f16
  have f28 : Keep h0 h19 [a] := f17.wr W20 (Or.inl (by simp))
  have f29 : Arv Z h19 a2 kA3 .long (3 : Int32) [(.long 0), (.long 0), (.long 0)] (.long 0) := f18.other W20 f7.symm
  refine own_aload_n H rfl rfl d4_17 ?_
  refine own_getfield H (w := 26) rfl f26 d4_18 ?_
  refine own_ifeq_t H (pc' := 47) d4_21 (by decide) (by decide) (by decide) ?_
  refine own_iconst H (0 : Int32) (by decide) d4_47 ?_
  refine own_istore_n H #[.val (.ref a), .val (.long now), .second, .val (.int (0 : Int32))] rfl d4_48 ?_
  refine own_aload_n H rfl rfl d4_49 ?_
  refine own_getfield H (w := 24) rfl f24 d4_50 ?_
  refine own_aload_n H rfl rfl d4_53 ?_
  refine own_getfield H (w := 28) rfl f25 d4_54 ?_
  refine own_lload_n H rfl d4_57 ?_
  refine own_lastoreV H f29 (by decide) (by decide) 0 (by decide) (Nat.le_of_ble_eq_true rfl) f8 rfl d4_58 ?_
  intro h30 W31 V32
  have f33 : Exa Z h30 a "com/example/trailwire/trailwire/http2/BurstLimit" := f21.wr W31
  have f34 : Fld Z h30 a "com/example/trailwire/trailwire/http2/BurstLimit" "events" "I" (.int (3 : Int32)) := f22.other W31 (Or.inl f7)
  have f35 : Fld Z h30 a "com/example/trailwire/trailwire/http2/BurstLimit" "period" "J" (.long per) := f23.other W31 (Or.inl f7)
  have f36 : Fld Z h30 a "com/example/trailwire/trailwire/http2/BurstLimit" "times" "[J" (.ref a2) := f24.other W31 (Or.inl f7)
  have f37 : Fld Z h30 a "com/example/trailwire/trailwire/http2/BurstLimit" "next" "I" (.int (0 : Int32)) := f25.other W31 (Or.inl f7)
  have f38 : Fld Z h30 a "com/example/trailwire/trailwire/http2/BurstLimit" "full" "Z" (.int (0 : Int32)) := f26.other W31 (Or.inl f7)
  have f39 : n0 ≤ h30.size := by rw [W31.size]; exact f27
  have f40 : Keep h0 h30 [a] := f28.wr W31 (Or.inr f9)
  have f41 : Arv Z h30 a2 kA3 .long (3 : Int32) [(.long now), (.long 0), (.long 0)] (.long 0) := V32
  refine own_aload_n H rfl rfl d4_59 ?_
  refine own_aload_n H rfl rfl d4_60 ?_
  refine own_getfield H (w := 28) rfl f37 d4_61 ?_
  refine own_iconst H (1 : Int32) (by decide) d4_64 ?_
  refine own_iadd (v := (1 : Int32)) H (by decide) d4_65 ?_
  refine own_aload_n H rfl rfl d4_66 ?_
  refine own_getfield H (w := 15) rfl f34 d4_67 ?_
  refine own_irem (v := (1 : Int32)) H (by decide) d4_70 (by decide) ?_
  refine own_putfield H (w := 28) (wi := 7) rfl f37 f33 hA_a (Or.inl (own_w H (i := 29) rfl)) rfl (ty := .int) (by decide) rfl rfl d4_71 ?_
  intro h42 W43
  have f44 : Exa Z h42 a "com/example/trailwire/trailwire/http2/BurstLimit" := f33.wr W43
  have f45 : Fld Z h42 a "com/example/trailwire/trailwire/http2/BurstLimit" "events" "I" (.int (3 : Int32)) := f34.other W43 (Or.inr (slot_ne (Or.inr (own_w H (i := 16) rfl)) (Or.inl (own_w H (i := 29) rfl)) (by decide) (t := .int) (t' := .int) (by decide) (by decide)))
  have f46 : Fld Z h42 a "com/example/trailwire/trailwire/http2/BurstLimit" "period" "J" (.long per) := f35.other W43 (Or.inr (slot_ne (Or.inr (own_w H (i := 18) rfl)) (Or.inl (own_w H (i := 29) rfl)) (by decide) (t := .long) (t' := .int) (by decide) (by decide)))
  have f47 : Fld Z h42 a "com/example/trailwire/trailwire/http2/BurstLimit" "times" "[J" (.ref a2) := f36.other W43 (Or.inr (slot_ne (Or.inl (own_w H (i := 25) rfl)) (Or.inl (own_w H (i := 29) rfl)) (by decide) (t := (.array .long)) (t' := .int) (by decide) (by decide)))
  have f48 : Fld Z h42 a "com/example/trailwire/trailwire/http2/BurstLimit" "next" "I" (.int (1 : Int32)) := f37.same W43
  have f49 : Fld Z h42 a "com/example/trailwire/trailwire/http2/BurstLimit" "full" "Z" (.int (0 : Int32)) := f38.other W43 (Or.inr (slot_ne (Or.inl (own_w H (i := 27) rfl)) (Or.inl (own_w H (i := 29) rfl)) (by decide) (t := .boolean) (t' := .int) (by decide) (by decide)))
  have f50 : n0 ≤ h42.size := by rw [W43.size]; exact f39
  have f51 : Keep h0 h42 [a] := f40.wr W43 (Or.inl (by simp))
  have f52 : Arv Z h42 a2 kA3 .long (3 : Int32) [(.long now), (.long 0), (.long 0)] (.long 0) := f41.other W43 f7.symm
  refine own_aload_n H rfl rfl d4_74 ?_
  refine own_aload_n H rfl rfl d4_75 ?_
  refine own_getfield H (w := 26) rfl f49 d4_76 ?_
  refine own_ifne_f H d4_79 (by decide) ?_
  refine own_aload_n H rfl rfl d4_82 ?_
  refine own_getfield H (w := 28) rfl f48 d4_83 ?_
  refine own_ifne_t H (pc' := 93) d4_86 (by decide) (by decide) (by decide) ?_
  refine own_iconst H (0 : Int32) (by decide) d4_93 ?_
  refine own_putfield H (w := 26) (wi := 7) rfl f49 f44 hA_a (Or.inl (own_w H (i := 27) rfl)) rfl (ty := .boolean) (by decide) rfl rfl d4_94 ?_
  intro h53 W54
  have f55 : Exa Z h53 a "com/example/trailwire/trailwire/http2/BurstLimit" := f44.wr W54
  have f56 : Fld Z h53 a "com/example/trailwire/trailwire/http2/BurstLimit" "events" "I" (.int (3 : Int32)) := f45.other W54 (Or.inr (slot_ne (Or.inr (own_w H (i := 16) rfl)) (Or.inl (own_w H (i := 27) rfl)) (by decide) (t := .int) (t' := .boolean) (by decide) (by decide)))
  have f57 : Fld Z h53 a "com/example/trailwire/trailwire/http2/BurstLimit" "period" "J" (.long per) := f46.other W54 (Or.inr (slot_ne (Or.inr (own_w H (i := 18) rfl)) (Or.inl (own_w H (i := 27) rfl)) (by decide) (t := .long) (t' := .boolean) (by decide) (by decide)))
  have f58 : Fld Z h53 a "com/example/trailwire/trailwire/http2/BurstLimit" "times" "[J" (.ref a2) := f47.other W54 (Or.inr (slot_ne (Or.inl (own_w H (i := 25) rfl)) (Or.inl (own_w H (i := 27) rfl)) (by decide) (t := (.array .long)) (t' := .boolean) (by decide) (by decide)))
  have f59 : Fld Z h53 a "com/example/trailwire/trailwire/http2/BurstLimit" "next" "I" (.int (1 : Int32)) := f48.other W54 (Or.inr (slot_ne (Or.inl (own_w H (i := 29) rfl)) (Or.inl (own_w H (i := 27) rfl)) (by decide) (t := .int) (t' := .boolean) (by decide) (by decide)))
  have f60 : Fld Z h53 a "com/example/trailwire/trailwire/http2/BurstLimit" "full" "Z" (.int (0 : Int32)) := f49.same W54
  have f61 : n0 ≤ h53.size := by rw [W54.size]; exact f50
  have f62 : Keep h0 h53 [a] := f51.wr W54 (Or.inl (by simp))
  have f63 : Arv Z h53 a2 kA3 .long (3 : Int32) [(.long now), (.long 0), (.long 0)] (.long 0) := f52.other W54 f7.symm
  refine own_iload_n H rfl d4_97 ?_
  exact own_ireturn H (by simp) (by decide) d4_98 (by decide) (by decide) ⟨a2, kA3, rfl, f62, f8, f9, f63.lt, f55, f56, f57, f58, f59, f60, f63⟩
set_option maxHeartbeats 4000000 in
theorem rmX3_1_0 (l : Launch) (Z : State) (a0 : Array Value) (hw : ∀ (i : Nat) (d : Jvm.Cond), tables_1[i]? = some d → d.before a0 Z = true) (h0 : Heap) (n0 : Nat) (a : Addr) (now : Int64) (per : Int64) (t : Addr) (kA : ClassId) (t0 : Int64) (t1 : Int64) (t2 : Int64) (hZ0 : n0 ≤ h0.size) (hE : Exa Z h0 a "com/example/trailwire/trailwire/http2/BurstLimit") (hF1 : Fld Z h0 a "com/example/trailwire/trailwire/http2/BurstLimit" "events" "I" (.int (3 : Int32))) (hF2 : Fld Z h0 a "com/example/trailwire/trailwire/http2/BurstLimit" "period" "J" (.long per)) (hF3 : Fld Z h0 a "com/example/trailwire/trailwire/http2/BurstLimit" "times" "[J" (.ref t)) (hF4 : Fld Z h0 a "com/example/trailwire/trailwire/http2/BurstLimit" "next" "I" (.int (1 : Int32))) (hF5 : Fld Z h0 a "com/example/trailwire/trailwire/http2/BurstLimit" "full" "Z" (.int (0 : Int32))) (hV : Arv Z h0 t kA .long (3 : Int32) [(.long t0), (.long t1), (.long t2)] (.long 0)) (hne : a ≠ t) (hA_a : n0 ≤ a) (hA_t : n0 ≤ t) :
    own_C l Z (⟨"com/example/trailwire/trailwire/http2/BurstLimit", "exceededBy", "(J)Z"⟩ : MethodName) prog_1_method_2_code 4 (some .boolean) ({ frames := 0, cells := 0, slots := 0, locals := 0 } : Room) #[(.ref a), (.long now)] h0 n0 (fun v h' => v = some (.int (0 : Int32)) ∧ Keep h0 h' [a, t] ∧ Exa Z h' a "com/example/trailwire/trailwire/http2/BurstLimit" ∧ Fld Z h' a "com/example/trailwire/trailwire/http2/BurstLimit" "events" "I" (.int (3 : Int32)) ∧ Fld Z h' a "com/example/trailwire/trailwire/http2/BurstLimit" "period" "J" (.long per) ∧ Fld Z h' a "com/example/trailwire/trailwire/http2/BurstLimit" "times" "[J" (.ref t) ∧ Fld Z h' a "com/example/trailwire/trailwire/http2/BurstLimit" "next" "I" (.int (2 : Int32)) ∧ Fld Z h' a "com/example/trailwire/trailwire/http2/BurstLimit" "full" "Z" (.int (0 : Int32)) ∧ Arv Z h' t kA .long (3 : Int32) [(.long t0), (.long now), (.long t2)] (.long 0)) := by
  refine own_met (Ls := #[.val (.ref a), .val (.long now), .second, .unset]) hw own_pl4 (fun m => by first | (simp [entryFrame, mkF, argsToLocals, Value.category]; done) | rfl) ?_
  intro B H
  have hK : Keep h0 h0 [a, t] := Keep.refl _ _
  refine own_aload_n H rfl rfl d4_0 ?_
  refine own_getfield H (w := 24) rfl hF3 d4_1 ?_
  refine own_ifnonnull_t H (pc' := 17) d4_4 (by decide) (by decide) rfl (fun h => nomatch h) ?_
  refine own_aload_n H rfl rfl d4_17 ?_
  refine own_getfield H (w := 26) rfl hF5 d4_18 ?_
  refine own_ifeq_t H (pc' := 47) d4_21 (by decide) (by decide) (by decide) ?_
  refine own_iconst H (0 : Int32) (by decide) d4_47 ?_
  refine own_istore_n H #[.val (.ref a), .val (.long now), .second, .val (.int (0 : Int32))] rfl d4_48 ?_
  refine own_aload_n H rfl rfl d4_49 ?_
  refine own_getfield H (w := 24) rfl hF3 d4_50 ?_
  refine own_aload_n H rfl rfl d4_53 ?_
  refine own_getfield H (w := 28) rfl hF4 d4_54 ?_
  refine own_lload_n H rfl d4_57 ?_
  refine own_lastoreV H hV (by decide) (by decide) 1 (by decide) (Nat.le_of_ble_eq_true rfl) hA_t rfl d4_58 ?_
  intro h1 W2 V3
  have f4 : Exa Z h1 a "com/example/trailwire/trailwire/http2/BurstLimit" := hE.wr W2
  have f5 : Fld Z h1 a "com/example/trailwire/trailwire/http2/BurstLimit" "events" "I" (.int (3 : Int32)) := hF1.other W2 (Or.inl hne)
  have f6 : Fld Z h1 a "com/example/trailwire/trailwire/http2/BurstLimit" "period" "J" (.long per) := hF2.other W2 (Or.inl hne)
  have f7 : Fld Z h1 a "com/example/trailwire/trailwire/http2/BurstLimit" "times" "[J" (.ref t) := hF3.other W2 (Or.inl hne)
  have f8 : Fld Z h1 a "com/example/trailwire/trailwire/http2/BurstLimit" "next" "I" (.int (1 : Int32)) := hF4.other W2 (Or.inl hne)
  have f9 : Fld Z h1 a "com/example/trailwire/trailwire/http2/BurstLimit" "full" "Z" (.int (0 : Int32)) := hF5.other W2 (Or.inl hne)
  have f10 : n0 ≤ h1.size := by rw [W2.size]; exact hZ0
  have f11 : Keep h0 h1 [a, t] := hK.wr W2 (Or.inl (by simp))
  have f12 : Arv Z h1 t kA .long (3 : Int32) [(.long t0), (.long now), (.long t2)] (.long 0) := V3
  refine own_aload_n H rfl rfl d4_59 ?_
  refine own_aload_n H rfl rfl d4_60 ?_
  refine own_getfield H (w := 28) rfl f8 d4_61 ?_
  refine own_iconst H (1 : Int32) (by decide) d4_64 ?_
  refine own_iadd (v := (2 : Int32)) H (by decide) d4_65 ?_
  refine own_aload_n H rfl rfl d4_66 ?_
  refine own_getfield H (w := 15) rfl f5 d4_67 ?_
  refine own_irem (v := (2 : Int32)) H (by decide) d4_70 (by decide) ?_
  refine own_putfield H (w := 28) (wi := 7) rfl f8 f4 hA_a (Or.inl (own_w H (i := 29) rfl)) rfl (ty := .int) (by decide) rfl rfl d4_71 ?_
  intro h13 W14
  have f15 : Exa Z h13 a "com/example/trailwire/trailwire/http2/BurstLimit" := f4.wr W14
  have f16 : Fld Z h13 a "com/example/trailwire/trailwire/http2/BurstLimit" "events" "I" (.int (3 : Int32)) := f5.other W14 (Or.inr (slot_ne (Or.inr (own_w H (i := 16) rfl)) (Or.inl (own_w H (i := 29) rfl)) (by decide) (t := .int) (t' := .int) (by decide) (by decide)))
  have f17 : Fld Z h13 a "com/example/trailwire/trailwire/http2/BurstLimit" "period" "J" (.long per) := f6.other W14 (Or.inr (slot_ne (Or.inr (own_w H (i := 18) rfl)) (Or.inl (own_w H (i := 29) rfl)) (by decide) (t := .long) (t' := .int) (by decide) (by decide)))
  have f18 : Fld Z h13 a "com/example/trailwire/trailwire/http2/BurstLimit" "times" "[J" (.ref t) := f7.other W14 (Or.inr (slot_ne (Or.inl (own_w H (i := 25) rfl)) (Or.inl (own_w H (i := 29) rfl)) (by decide) (t := (.array .long)) (t' := .int) (by decide) (by decide)))
  have f19 : Fld Z h13 a "com/example/trailwire/trailwire/http2/BurstLimit" "next" "I" (.int (2 : Int32)) := f8.same W14
  have f20 : Fld Z h13 a "com/example/trailwire/trailwire/http2/BurstLimit" "full" "Z" (.int (0 : Int32)) := f9.other W14 (Or.inr (slot_ne (Or.inl (own_w H (i := 27) rfl)) (Or.inl (own_w H (i := 29) rfl)) (by decide) (t := .boolean) (t' := .int) (by decide) (by decide)))
  have f21 : Arv Z h13 t kA .long (3 : Int32) [(.long t0), (.long now), (.long t2)] (.long 0) := f12.other W14 hne.symm
  have f22 : n0 ≤ h13.size := by rw [W14.size]; exact f10
  have f23 : Keep h0 h13 [a, t] := f11.wr W14 (Or.inl (by simp))
  refine own_aload_n H rfl rfl d4_74 ?_
  refine own_aload_n H rfl rfl d4_75 ?_
  refine own_getfield H (w := 26) rfl f20 d4_76 ?_
  refine own_ifne_f H d4_79 (by decide) ?_
  refine own_aload_n H rfl rfl d4_82 ?_
  refine own_getfield H (w := 28) rfl f19 d4_83 ?_
  refine own_ifne_t H (pc' := 93) d4_86 (by decide) (by decide) (by decide) ?_
  refine own_iconst H (0 : Int32) (by decide) d4_93 ?_
  refine own_putfield H (w := 26) (wi := 7) rfl f20 f15 hA_a (Or.inl (own_w H (i := 27) rfl)) rfl (ty := .boolean) (by decide) rfl rfl d4_94 ?_
  intro h24 W25
  have f26 : Exa Z h24 a "com/example/trailwire/trailwire/http2/BurstLimit" := f15.wr W25
  have f27 : Fld Z h24 a "com/example/trailwire/trailwire/http2/BurstLimit" "events" "I" (.int (3 : Int32)) := f16.other W25 (Or.inr (slot_ne (Or.inr (own_w H (i := 16) rfl)) (Or.inl (own_w H (i := 27) rfl)) (by decide) (t := .int) (t' := .boolean) (by decide) (by decide)))
  have f28 : Fld Z h24 a "com/example/trailwire/trailwire/http2/BurstLimit" "period" "J" (.long per) := f17.other W25 (Or.inr (slot_ne (Or.inr (own_w H (i := 18) rfl)) (Or.inl (own_w H (i := 27) rfl)) (by decide) (t := .long) (t' := .boolean) (by decide) (by decide)))
  have f29 : Fld Z h24 a "com/example/trailwire/trailwire/http2/BurstLimit" "times" "[J" (.ref t) := f18.other W25 (Or.inr (slot_ne (Or.inl (own_w H (i := 25) rfl)) (Or.inl (own_w H (i := 27) rfl)) (by decide) (t := (.array .long)) (t' := .boolean) (by decide) (by decide)))
  have f30 : Fld Z h24 a "com/example/trailwire/trailwire/http2/BurstLimit" "next" "I" (.int (2 : Int32)) := f19.other W25 (Or.inr (slot_ne (Or.inl (own_w H (i := 29) rfl)) (Or.inl (own_w H (i := 27) rfl)) (by decide) (t := .int) (t' := .boolean) (by decide) (by decide)))
  have f31 : Fld Z h24 a "com/example/trailwire/trailwire/http2/BurstLimit" "full" "Z" (.int (0 : Int32)) := f20.same W25
  have f32 : Arv Z h24 t kA .long (3 : Int32) [(.long t0), (.long now), (.long t2)] (.long 0) := f21.other W25 hne.symm
  have f33 : n0 ≤ h24.size := by rw [W25.size]; exact f22
  have f34 : Keep h0 h24 [a, t] := f23.wr W25 (Or.inl (by simp))
  refine own_iload_n H rfl d4_97 ?_
  exact own_ireturn H (by simp) (by decide) d4_98 (by decide) (by decide) ⟨rfl, f34, f26, f27, f28, f29, f30, f31, f32⟩
set_option maxHeartbeats 4000000 in
theorem rmX3_2_0 (l : Launch) (Z : State) (a0 : Array Value) (hw : ∀ (i : Nat) (d : Jvm.Cond), tables_1[i]? = some d → d.before a0 Z = true) (h0 : Heap) (n0 : Nat) (a : Addr) (now : Int64) (per : Int64) (t : Addr) (kA : ClassId) (t0 : Int64) (t1 : Int64) (t2 : Int64) (hZ0 : n0 ≤ h0.size) (hE : Exa Z h0 a "com/example/trailwire/trailwire/http2/BurstLimit") (hF1 : Fld Z h0 a "com/example/trailwire/trailwire/http2/BurstLimit" "events" "I" (.int (3 : Int32))) (hF2 : Fld Z h0 a "com/example/trailwire/trailwire/http2/BurstLimit" "period" "J" (.long per)) (hF3 : Fld Z h0 a "com/example/trailwire/trailwire/http2/BurstLimit" "times" "[J" (.ref t)) (hF4 : Fld Z h0 a "com/example/trailwire/trailwire/http2/BurstLimit" "next" "I" (.int (2 : Int32))) (hF5 : Fld Z h0 a "com/example/trailwire/trailwire/http2/BurstLimit" "full" "Z" (.int (0 : Int32))) (hV : Arv Z h0 t kA .long (3 : Int32) [(.long t0), (.long t1), (.long t2)] (.long 0)) (hne : a ≠ t) (hA_a : n0 ≤ a) (hA_t : n0 ≤ t) :
    own_C l Z (⟨"com/example/trailwire/trailwire/http2/BurstLimit", "exceededBy", "(J)Z"⟩ : MethodName) prog_1_method_2_code 4 (some .boolean) ({ frames := 0, cells := 0, slots := 0, locals := 0 } : Room) #[(.ref a), (.long now)] h0 n0 (fun v h' => v = some (.int (0 : Int32)) ∧ Keep h0 h' [a, t] ∧ Exa Z h' a "com/example/trailwire/trailwire/http2/BurstLimit" ∧ Fld Z h' a "com/example/trailwire/trailwire/http2/BurstLimit" "events" "I" (.int (3 : Int32)) ∧ Fld Z h' a "com/example/trailwire/trailwire/http2/BurstLimit" "period" "J" (.long per) ∧ Fld Z h' a "com/example/trailwire/trailwire/http2/BurstLimit" "times" "[J" (.ref t) ∧ Fld Z h' a "com/example/trailwire/trailwire/http2/BurstLimit" "next" "I" (.int (0 : Int32)) ∧ Fld Z h' a "com/example/trailwire/trailwire/http2/BurstLimit" "full" "Z" (.int (1 : Int32)) ∧ Arv Z h' t kA .long (3 : Int32) [(.long t0), (.long t1), (.long now)] (.long 0)) := by
  refine own_met (Ls := #[.val (.ref a), .val (.long now), .second, .unset]) hw own_pl4 (fun m => by first | (simp [entryFrame, mkF, argsToLocals, Value.category]; done) | rfl) ?_
  intro B H
  have hK : Keep h0 h0 [a, t] := Keep.refl _ _
  refine own_aload_n H rfl rfl d4_0 ?_
  refine own_getfield H (w := 24) rfl hF3 d4_1 ?_
  refine own_ifnonnull_t H (pc' := 17) d4_4 (by decide) (by decide) rfl (fun h => nomatch h) ?_
  refine own_aload_n H rfl rfl d4_17 ?_
  refine own_getfield H (w := 26) rfl hF5 d4_18 ?_
  refine own_ifeq_t H (pc' := 47) d4_21 (by decide) (by decide) (by decide) ?_
  refine own_iconst H (0 : Int32) (by decide) d4_47 ?_
  refine own_istore_n H #[.val (.ref a), .val (.long now), .second, .val (.int (0 : Int32))] rfl d4_48 ?_
  refine own_aload_n H rfl rfl d4_49 ?_
  refine own_getfield H (w := 24) rfl hF3 d4_50 ?_
  refine own_aload_n H rfl rfl d4_53 ?_
  refine own_getfield H (w := 28) rfl hF4 d4_54 ?_
  refine own_lload_n H rfl d4_57 ?_
  refine own_lastoreV H hV (by decide) (by decide) 2 (by decide) (Nat.le_of_ble_eq_true rfl) hA_t rfl d4_58 ?_
  intro h1 W2 V3
  have f4 : Exa Z h1 a "com/example/trailwire/trailwire/http2/BurstLimit" := hE.wr W2
  have f5 : Fld Z h1 a "com/example/trailwire/trailwire/http2/BurstLimit" "events" "I" (.int (3 : Int32)) := hF1.other W2 (Or.inl hne)
  have f6 : Fld Z h1 a "com/example/trailwire/trailwire/http2/BurstLimit" "period" "J" (.long per) := hF2.other W2 (Or.inl hne)
  have f7 : Fld Z h1 a "com/example/trailwire/trailwire/http2/BurstLimit" "times" "[J" (.ref t) := hF3.other W2 (Or.inl hne)
  have f8 : Fld Z h1 a "com/example/trailwire/trailwire/http2/BurstLimit" "next" "I" (.int (2 : Int32)) := hF4.other W2 (Or.inl hne)
  have f9 : Fld Z h1 a "com/example/trailwire/trailwire/http2/BurstLimit" "full" "Z" (.int (0 : Int32)) := hF5.other W2 (Or.inl hne)
  have f10 : n0 ≤ h1.size := by rw [W2.size]; exact hZ0
  have f11 : Keep h0 h1 [a, t] := hK.wr W2 (Or.inl (by simp))
  have f12 : Arv Z h1 t kA .long (3 : Int32) [(.long t0), (.long t1), (.long now)] (.long 0) := V3
  refine own_aload_n H rfl rfl d4_59 ?_
  refine own_aload_n H rfl rfl d4_60 ?_
  refine own_getfield H (w := 28) rfl f8 d4_61 ?_
  refine own_iconst H (1 : Int32) (by decide) d4_64 ?_
  refine own_iadd (v := (3 : Int32)) H (by decide) d4_65 ?_
  refine own_aload_n H rfl rfl d4_66 ?_
  refine own_getfield H (w := 15) rfl f5 d4_67 ?_
  refine own_irem (v := (0 : Int32)) H (by decide) d4_70 (by decide) ?_
  refine own_putfield H (w := 28) (wi := 7) rfl f8 f4 hA_a (Or.inl (own_w H (i := 29) rfl)) rfl (ty := .int) (by decide) rfl rfl d4_71 ?_
  intro h13 W14
  have f15 : Exa Z h13 a "com/example/trailwire/trailwire/http2/BurstLimit" := f4.wr W14
  have f16 : Fld Z h13 a "com/example/trailwire/trailwire/http2/BurstLimit" "events" "I" (.int (3 : Int32)) := f5.other W14 (Or.inr (slot_ne (Or.inr (own_w H (i := 16) rfl)) (Or.inl (own_w H (i := 29) rfl)) (by decide) (t := .int) (t' := .int) (by decide) (by decide)))
  have f17 : Fld Z h13 a "com/example/trailwire/trailwire/http2/BurstLimit" "period" "J" (.long per) := f6.other W14 (Or.inr (slot_ne (Or.inr (own_w H (i := 18) rfl)) (Or.inl (own_w H (i := 29) rfl)) (by decide) (t := .long) (t' := .int) (by decide) (by decide)))
  have f18 : Fld Z h13 a "com/example/trailwire/trailwire/http2/BurstLimit" "times" "[J" (.ref t) := f7.other W14 (Or.inr (slot_ne (Or.inl (own_w H (i := 25) rfl)) (Or.inl (own_w H (i := 29) rfl)) (by decide) (t := (.array .long)) (t' := .int) (by decide) (by decide)))
  have f19 : Fld Z h13 a "com/example/trailwire/trailwire/http2/BurstLimit" "next" "I" (.int (0 : Int32)) := f8.same W14
  have f20 : Fld Z h13 a "com/example/trailwire/trailwire/http2/BurstLimit" "full" "Z" (.int (0 : Int32)) := f9.other W14 (Or.inr (slot_ne (Or.inl (own_w H (i := 27) rfl)) (Or.inl (own_w H (i := 29) rfl)) (by decide) (t := .boolean) (t' := .int) (by decide) (by decide)))
  have f21 : Arv Z h13 t kA .long (3 : Int32) [(.long t0), (.long t1), (.long now)] (.long 0) := f12.other W14 hne.symm
  have f22 : n0 ≤ h13.size := by rw [W14.size]; exact f10
  have f23 : Keep h0 h13 [a, t] := f11.wr W14 (Or.inl (by simp))
  refine own_aload_n H rfl rfl d4_74 ?_
  refine own_aload_n H rfl rfl d4_75 ?_
  refine own_getfield H (w := 26) rfl f20 d4_76 ?_
  refine own_ifne_f H d4_79 (by decide) ?_
  refine own_aload_n H rfl rfl d4_82 ?_
  refine own_getfield H (w := 28) rfl f19 d4_83 ?_
  refine own_ifne_f H d4_86 (by decide) ?_
  refine own_iconst H (1 : Int32) (by decide) d4_89 ?_
  refine own_goto H (pc' := 94) d4_90 (by decide) (by decide) ?_
  refine own_putfield H (w := 26) (wi := 7) rfl f20 f15 hA_a (Or.inl (own_w H (i := 27) rfl)) rfl (ty := .boolean) (by decide) rfl rfl d4_94 ?_
  intro h24 W25
  have f26 : Exa Z h24 a "com/example/trailwire/trailwire/http2/BurstLimit" := f15.wr W25
  have f27 : Fld Z h24 a "com/example/trailwire/trailwire/http2/BurstLimit" "events" "I" (.int (3 : Int32)) := f16.other W25 (Or.inr (slot_ne (Or.inr (own_w H (i := 16) rfl)) (Or.inl (own_w H (i := 27) rfl)) (by decide) (t := .int) (t' := .boolean) (by decide) (by decide)))
  have f28 : Fld Z h24 a "com/example/trailwire/trailwire/http2/BurstLimit" "period" "J" (.long per) := f17.other W25 (Or.inr (slot_ne (Or.inr (own_w H (i := 18) rfl)) (Or.inl (own_w H (i := 27) rfl)) (by decide) (t := .long) (t' := .boolean) (by decide) (by decide)))
  have f29 : Fld Z h24 a "com/example/trailwire/trailwire/http2/BurstLimit" "times" "[J" (.ref t) := f18.other W25 (Or.inr (slot_ne (Or.inl (own_w H (i := 25) rfl)) (Or.inl (own_w H (i := 27) rfl)) (by decide) (t := (.array .long)) (t' := .boolean) (by decide) (by decide)))
  have f30 : Fld Z h24 a "com/example/trailwire/trailwire/http2/BurstLimit" "next" "I" (.int (0 : Int32)) := f19.other W25 (Or.inr (slot_ne (Or.inl (own_w H (i := 29) rfl)) (Or.inl (own_w H (i := 27) rfl)) (by decide) (t := .int) (t' := .boolean) (by decide) (by decide)))
  have f31 : Fld Z h24 a "com/example/trailwire/trailwire/http2/BurstLimit" "full" "Z" (.int (1 : Int32)) := f20.same W25
  have f32 : Arv Z h24 t kA .long (3 : Int32) [(.long t0), (.long t1), (.long now)] (.long 0) := f21.other W25 hne.symm
  have f33 : n0 ≤ h24.size := by rw [W25.size]; exact f22
  have f34 : Keep h0 h24 [a, t] := f23.wr W25 (Or.inl (by simp))
  refine own_iload_n H rfl d4_97 ?_
  exact own_ireturn H (by simp) (by decide) d4_98 (by decide) (by decide) ⟨rfl, f34, f26, f27, f28, f29, f30, f31, f32⟩
set_option maxHeartbeats 4000000 in
theorem rmX3_0_1 (l : Launch) (Z : State) (a0 : Array Value) (hw : ∀ (i : Nat) (d : Jvm.Cond), tables_1[i]? = some d → d.before a0 Z = true) (h0 : Heap) (n0 : Nat) (a : Addr) (now : Int64) (per : Int64) (t : Addr) (kA : ClassId) (t0 : Int64) (t1 : Int64) (t2 : Int64) (hZ0 : n0 ≤ h0.size) (hE : Exa Z h0 a "com/example/trailwire/trailwire/http2/BurstLimit") (hF1 : Fld Z h0 a "com/example/trailwire/trailwire/http2/BurstLimit" "events" "I" (.int (3 : Int32))) (hF2 : Fld Z h0 a "com/example/trailwire/trailwire/http2/BurstLimit" "period" "J" (.long per)) (hF3 : Fld Z h0 a "com/example/trailwire/trailwire/http2/BurstLimit" "times" "[J" (.ref t)) (hF4 : Fld Z h0 a "com/example/trailwire/trailwire/http2/BurstLimit" "next" "I" (.int (0 : Int32))) (hF5 : Fld Z h0 a "com/example/trailwire/trailwire/http2/BurstLimit" "full" "Z" (.int (1 : Int32))) (hV : Arv Z h0 t kA .long (3 : Int32) [(.long t0), (.long t1), (.long t2)] (.long 0)) (hne : a ≠ t) (hA_a : n0 ≤ a) (hA_t : n0 ≤ t) :
    own_C l Z (⟨"com/example/trailwire/trailwire/http2/BurstLimit", "exceededBy", "(J)Z"⟩ : MethodName) prog_1_method_2_code 4 (some .boolean) ({ frames := 0, cells := 0, slots := 0, locals := 0 } : Room) #[(.ref a), (.long now)] h0 n0 (fun v h' => v = some (.int (if (now - t0) < per then (1 : Int32) else (0 : Int32))) ∧ Keep h0 h' [a, t] ∧ Exa Z h' a "com/example/trailwire/trailwire/http2/BurstLimit" ∧ Fld Z h' a "com/example/trailwire/trailwire/http2/BurstLimit" "events" "I" (.int (3 : Int32)) ∧ Fld Z h' a "com/example/trailwire/trailwire/http2/BurstLimit" "period" "J" (.long per) ∧ Fld Z h' a "com/example/trailwire/trailwire/http2/BurstLimit" "times" "[J" (.ref t) ∧ Fld Z h' a "com/example/trailwire/trailwire/http2/BurstLimit" "next" "I" (.int (1 : Int32)) ∧ Fld Z h' a "com/example/trailwire/trailwire/http2/BurstLimit" "full" "Z" (.int (1 : Int32)) ∧ Arv Z h' t kA .long (3 : Int32) [(.long now), (.long t1), (.long t2)] (.long 0)) := by
  refine own_met (Ls := #[.val (.ref a), .val (.long now), .second, .unset]) hw own_pl4 (fun m => by first | (simp [entryFrame, mkF, argsToLocals, Value.category]; done) | rfl) ?_
  intro B H
  have hK : Keep h0 h0 [a, t] := Keep.refl _ _
  refine own_aload_n H rfl rfl d4_0 ?_
  refine own_getfield H (w := 24) rfl hF3 d4_1 ?_
  refine own_ifnonnull_t H (pc' := 17) d4_4 (by decide) (by decide) rfl (fun h => nomatch h) ?_
  refine own_aload_n H rfl rfl d4_17 ?_
  refine own_getfield H (w := 26) rfl hF5 d4_18 ?_
  refine own_ifeq_f H d4_21 (by decide) ?_
  refine own_lload_n H rfl d4_24 ?_
  refine own_aload_n H rfl rfl d4_25 ?_
  refine own_getfield H (w := 24) rfl hF3 d4_26 ?_
  refine own_aload_n H rfl rfl d4_29 ?_
  refine own_getfield H (w := 28) rfl hF4 d4_30 ?_
  refine own_laloadV H hV (by decide) (by decide) rfl d4_33 ?_
  refine own_lsub H rfl d4_34 ?_
  refine own_aload_n H rfl rfl d4_35 ?_
  refine own_getfield H (w := 17) rfl hF2 d4_36 ?_
  refine own_cut 48 #[.val (.ref a), .val (.long now), .second, .unset] [(.int (if (now - t0) < per then (1 : Int32) else (0 : Int32)))] (fun k2 => ?_) ?_
  ·
    by_cases c1 : (now - t0) < per
    ·
      refine own_lcmpge_f H d4_39 d4_40 c1 ?_
      refine own_iconst H (1 : Int32) (by decide) d4_43 ?_
      refine own_goto H (pc' := 48) d4_44 (by decide) (by decide) ?_
      exact own_cast (by simp only [if_pos c1]) (by simp only [if_pos c1]) k2
    ·
      refine own_lcmpge_t H (pc' := 47) d4_39 d4_40 (by decide) (by decide) c1 ?_
      refine own_iconst H (0 : Int32) (by decide) d4_47 ?_
      exact own_cast (by simp only [if_neg c1]) (by simp only [if_neg c1]) k2
  refine own_istore_n H #[.val (.ref a), .val (.long now), .second, .val (.int (if (now - t0) < per then (1 : Int32) else (0 : Int32)))] rfl d4_48 ?_
  refine own_aload_n H rfl rfl d4_49 ?_
  refine own_getfield H (w := 24) rfl hF3 d4_50 ?_
  refine own_aload_n H rfl rfl d4_53 ?_
  refine own_getfield H (w := 28) rfl hF4 d4_54 ?_
  refine own_lload_n H rfl d4_57 ?_
  refine own_lastoreV H hV (by decide) (by decide) 0 (by decide) (Nat.le_of_ble_eq_true rfl) hA_t rfl d4_58 ?_
  intro h3 W4 V5
  have f6 : Exa Z h3 a "com/example/trailwire/trailwire/http2/BurstLimit" := hE.wr W4
  have f7 : Fld Z h3 a "com/example/trailwire/trailwire/http2/BurstLimit" "events" "I" (.int (3 : Int32)) := hF1.other W4 (Or.inl hne)
  have f8 : Fld Z h3 a "com/example/trailwire/trailwire/http2/BurstLimit" "period" "J" (.long per) := hF2.other W4 (Or.inl hne)
  have f9 : Fld Z h3 a "com/example/trailwire/trailwire/http2/BurstLimit" "times" "[J" (.ref t) := hF3.other W4 (Or.inl hne)
  have f10 : Fld Z h3 a "com/example/trailwire/trailwire/http2/BurstLimit" "next" "I" (.int (0 : Int32)) := hF4.other W4 (Or.inl hne)
  have f11 : Fld Z h3 a "com/example/trailwire/trailwire/http2/BurstLimit" "full" "Z" (.int (1 : Int32)) := hF5.other W4 (Or.inl hne)
  have f12 : n0 ≤ h3.size := by rw [W4.size]; exact hZ0
  have f13 : Keep h0 h3 [a, t] := hK.wr W4 (Or.inl (by simp))
  have f14 : Arv Z h3 t kA .long (3 : Int32) [(.long now), (.long t1), (.long t2)] (.long 0) := V5
  refine own_aload_n H rfl rfl d4_59 ?_
  refine own_aload_n H rfl rfl d4_60 ?_
  refine own_getfield H (w := 28) rfl f10 d4_61 ?_
  refine own_iconst H (1 : Int32) (by decide) d4_64 ?_
  refine own_iadd (v := (1 : Int32)) H (by decide) d4_65 ?_
  refine own_aload_n H rfl rfl d4_66 ?_
  refine own_getfield H (w := 15) rfl f7 d4_67 ?_
  refine own_irem (v := (1 : Int32)) H (by decide) d4_70 (by decide) ?_
  refine own_putfield H (w := 28) (wi := 7) rfl f10 f6 hA_a (Or.inl (own_w H (i := 29) rfl)) rfl (ty := .int) (by decide) rfl rfl d4_71 ?_
  intro h15 W16
  have f17 : Exa Z h15 a "com/example/trailwire/trailwire/http2/BurstLimit" := f6.wr W16
  have f18 : Fld Z h15 a "com/example/trailwire/trailwire/http2/BurstLimit" "events" "I" (.int (3 : Int32)) := f7.other W16 (Or.inr (slot_ne (Or.inr (own_w H (i := 16) rfl)) (Or.inl (own_w H (i := 29) rfl)) (by decide) (t := .int) (t' := .int) (by decide) (by decide)))
  have f19 : Fld Z h15 a "com/example/trailwire/trailwire/http2/BurstLimit" "period" "J" (.long per) := f8.other W16 (Or.inr (slot_ne (Or.inr (own_w H (i := 18) rfl)) (Or.inl (own_w H (i := 29) rfl)) (by decide) (t := .long) (t' := .int) (by decide) (by decide)))
  have f20 : Fld Z h15 a "com/example/trailwire/trailwire/http2/BurstLimit" "times" "[J" (.ref t) := f9.other W16 (Or.inr (slot_ne (Or.inl (own_w H (i := 25) rfl)) (Or.inl (own_w H (i := 29) rfl)) (by decide) (t := (.array .long)) (t' := .int) (by decide) (by decide)))
  have f21 : Fld Z h15 a "com/example/trailwire/trailwire/http2/BurstLimit" "next" "I" (.int (1 : Int32)) := f10.same W16
  have f22 : Fld Z h15 a "com/example/trailwire/trailwire/http2/BurstLimit" "full" "Z" (.int (1 : Int32)) := f11.other W16 (Or.inr (slot_ne (Or.inl (own_w H (i := 27) rfl)) (Or.inl (own_w H (i := 29) rfl)) (by decide) (t := .boolean) (t' := .int) (by decide) (by decide)))
  have f23 : Arv Z h15 t kA .long (3 : Int32) [(.long now), (.long t1), (.long t2)] (.long 0) := f14.other W16 hne.symm
  have f24 : n0 ≤ h15.size := by rw [W16.size]; exact f12
  have f25 : Keep h0 h15 [a, t] := f13.wr W16 (Or.inl (by simp))
  refine own_aload_n H rfl rfl d4_74 ?_
  refine own_aload_n H rfl rfl d4_75 ?_
  refine own_getfield H (w := 26) rfl f22 d4_76 ?_
  refine own_ifne_t H (pc' := 89) d4_79 (by decide) (by decide) (by decide) ?_
  refine own_iconst H (1 : Int32) (by decide) d4_89 ?_
  refine own_goto H (pc' := 94) d4_90 (by decide) (by decide) ?_
  refine own_putfield H (w := 26) (wi := 7) rfl f22 f17 hA_a (Or.inl (own_w H (i := 27) rfl)) rfl (ty := .boolean) (by decide) rfl rfl d4_94 ?_
  intro h26 W27
  have f28 : Exa Z h26 a "com/example/trailwire/trailwire/http2/BurstLimit" := f17.wr W27
  have f29 : Fld Z h26 a "com/example/trailwire/trailwire/http2/BurstLimit" "events" "I" (.int (3 : Int32)) := f18.other W27 (Or.inr (slot_ne (Or.inr (own_w H (i := 16) rfl)) (Or.inl (own_w H (i := 27) rfl)) (by decide) (t := .int) (t' := .boolean) (by decide) (by decide)))
  have f30 : Fld Z h26 a "com/example/trailwire/trailwire/http2/BurstLimit" "period" "J" (.long per) := f19.other W27 (Or.inr (slot_ne (Or.inr (own_w H (i := 18) rfl)) (Or.inl (own_w H (i := 27) rfl)) (by decide) (t := .long) (t' := .boolean) (by decide) (by decide)))
  have f31 : Fld Z h26 a "com/example/trailwire/trailwire/http2/BurstLimit" "times" "[J" (.ref t) := f20.other W27 (Or.inr (slot_ne (Or.inl (own_w H (i := 25) rfl)) (Or.inl (own_w H (i := 27) rfl)) (by decide) (t := (.array .long)) (t' := .boolean) (by decide) (by decide)))
  have f32 : Fld Z h26 a "com/example/trailwire/trailwire/http2/BurstLimit" "next" "I" (.int (1 : Int32)) := f21.other W27 (Or.inr (slot_ne (Or.inl (own_w H (i := 29) rfl)) (Or.inl (own_w H (i := 27) rfl)) (by decide) (t := .int) (t' := .boolean) (by decide) (by decide)))
  have f33 : Fld Z h26 a "com/example/trailwire/trailwire/http2/BurstLimit" "full" "Z" (.int (1 : Int32)) := f22.same W27
  have f34 : Arv Z h26 t kA .long (3 : Int32) [(.long now), (.long t1), (.long t2)] (.long 0) := f23.other W27 hne.symm
  have f35 : n0 ≤ h26.size := by rw [W27.size]; exact f24
  have f36 : Keep h0 h26 [a, t] := f25.wr W27 (Or.inl (by simp))
  refine own_iload_n H rfl d4_97 ?_
  exact own_ireturn H (by simp) (by first | rfl | (split <;> rfl) | (split <;> (try split) <;> rfl)) d4_98 (by decide) (by decide) ⟨rfl, f36, f28, f29, f30, f31, f32, f33, f34⟩
set_option maxHeartbeats 4000000 in
theorem rmX3_1_1 (l : Launch) (Z : State) (a0 : Array Value) (hw : ∀ (i : Nat) (d : Jvm.Cond), tables_1[i]? = some d → d.before a0 Z = true) (h0 : Heap) (n0 : Nat) (a : Addr) (now : Int64) (per : Int64) (t : Addr) (kA : ClassId) (t0 : Int64) (t1 : Int64) (t2 : Int64) (hZ0 : n0 ≤ h0.size) (hE : Exa Z h0 a "com/example/trailwire/trailwire/http2/BurstLimit") (hF1 : Fld Z h0 a "com/example/trailwire/trailwire/http2/BurstLimit" "events" "I" (.int (3 : Int32))) (hF2 : Fld Z h0 a "com/example/trailwire/trailwire/http2/BurstLimit" "period" "J" (.long per)) (hF3 : Fld Z h0 a "com/example/trailwire/trailwire/http2/BurstLimit" "times" "[J" (.ref t)) (hF4 : Fld Z h0 a "com/example/trailwire/trailwire/http2/BurstLimit" "next" "I" (.int (1 : Int32))) (hF5 : Fld Z h0 a "com/example/trailwire/trailwire/http2/BurstLimit" "full" "Z" (.int (1 : Int32))) (hV : Arv Z h0 t kA .long (3 : Int32) [(.long t0), (.long t1), (.long t2)] (.long 0)) (hne : a ≠ t) (hA_a : n0 ≤ a) (hA_t : n0 ≤ t) :
    own_C l Z (⟨"com/example/trailwire/trailwire/http2/BurstLimit", "exceededBy", "(J)Z"⟩ : MethodName) prog_1_method_2_code 4 (some .boolean) ({ frames := 0, cells := 0, slots := 0, locals := 0 } : Room) #[(.ref a), (.long now)] h0 n0 (fun v h' => v = some (.int (if (now - t1) < per then (1 : Int32) else (0 : Int32))) ∧ Keep h0 h' [a, t] ∧ Exa Z h' a "com/example/trailwire/trailwire/http2/BurstLimit" ∧ Fld Z h' a "com/example/trailwire/trailwire/http2/BurstLimit" "events" "I" (.int (3 : Int32)) ∧ Fld Z h' a "com/example/trailwire/trailwire/http2/BurstLimit" "period" "J" (.long per) ∧ Fld Z h' a "com/example/trailwire/trailwire/http2/BurstLimit" "times" "[J" (.ref t) ∧ Fld Z h' a "com/example/trailwire/trailwire/http2/BurstLimit" "next" "I" (.int (2 : Int32)) ∧ Fld Z h' a "com/example/trailwire/trailwire/http2/BurstLimit" "full" "Z" (.int (1 : Int32)) ∧ Arv Z h' t kA .long (3 : Int32) [(.long t0), (.long now), (.long t2)] (.long 0)) := by
  refine own_met (Ls := #[.val (.ref a), .val (.long now), .second, .unset]) hw own_pl4 (fun m => by first | (simp [entryFrame, mkF, argsToLocals, Value.category]; done) | rfl) ?_
  intro B H
  have hK : Keep h0 h0 [a, t] := Keep.refl _ _
  refine own_aload_n H rfl rfl d4_0 ?_
  refine own_getfield H (w := 24) rfl hF3 d4_1 ?_
  refine own_ifnonnull_t H (pc' := 17) d4_4 (by decide) (by decide) rfl (fun h => nomatch h) ?_
  refine own_aload_n H rfl rfl d4_17 ?_
  refine own_getfield H (w := 26) rfl hF5 d4_18 ?_
  refine own_ifeq_f H d4_21 (by decide) ?_
  refine own_lload_n H rfl d4_24 ?_
  refine own_aload_n H rfl rfl d4_25 ?_
  refine own_getfield H (w := 24) rfl hF3 d4_26 ?_
  refine own_aload_n H rfl rfl d4_29 ?_
  refine own_getfield H (w := 28) rfl hF4 d4_30 ?_
  refine own_laloadV H hV (by decide) (by decide) rfl d4_33 ?_
  refine own_lsub H rfl d4_34 ?_
  refine own_aload_n H rfl rfl d4_35 ?_
  refine own_getfield H (w := 17) rfl hF2 d4_36 ?_
  refine own_cut 48 #[.val (.ref a), .val (.long now), .second, .unset] [(.int (if (now - t1) < per then (1 : Int32) else (0 : Int32)))] (fun k2 => ?_) ?_
  ·
    by_cases c1 : (now - t1) < per
    ·
      refine own_lcmpge_f H d4_39 d4_40 c1 ?_
      refine own_iconst H (1 : Int32) (by decide) d4_43 ?_
      refine own_goto H (pc' := 48) d4_44 (by decide) (by decide) ?_
      exact own_cast (by simp only [if_pos c1]) (by simp only [if_pos c1]) k2
    ·
      refine own_lcmpge_t H (pc' := 47) d4_39 d4_40 (by decide) (by decide) c1 ?_
      refine own_iconst H (0 : Int32) (by decide) d4_47 ?_
      exact own_cast (by simp only [if_neg c1]) (by simp only [if_neg c1]) k2
  refine own_istore_n H #[.val (.ref a), .val (.long now), .second, .val (.int (if (now - t1) < per then (1 : Int32) else (0 : Int32)))] rfl d4_48 ?_
  refine own_aload_n H rfl rfl d4_49 ?_
  refine own_getfield H (w := 24) rfl hF3 d4_50 ?_
  refine own_aload_n H rfl rfl d4_53 ?_
  refine own_getfield H (w := 28) rfl hF4 d4_54 ?_
  refine own_lload_n H rfl d4_57 ?_
  refine own_lastoreV H hV (by decide) (by decide) 1 (by decide) (Nat.le_of_ble_eq_true rfl) hA_t rfl d4_58 ?_
  intro h3 W4 V5
  have f6 : Exa Z h3 a "com/example/trailwire/trailwire/http2/BurstLimit" := hE.wr W4
  have f7 : Fld Z h3 a "com/example/trailwire/trailwire/http2/BurstLimit" "events" "I" (.int (3 : Int32)) := hF1.other W4 (Or.inl hne)
  have f8 : Fld Z h3 a "com/example/trailwire/trailwire/http2/BurstLimit" "period" "J" (.long per) := hF2.other W4 (Or.inl hne)
  have f9 : Fld Z h3 a "com/example/trailwire/trailwire/http2/BurstLimit" "times" "[J" (.ref t) := hF3.other W4 (Or.inl hne)
  have f10 : Fld Z h3 a "com/example/trailwire/trailwire/http2/BurstLimit" "next" "I" (.int (1 : Int32)) := hF4.other W4 (Or.inl hne)
  have f11 : Fld Z h3 a "com/example/trailwire/trailwire/http2/BurstLimit" "full" "Z" (.int (1 : Int32)) := hF5.other W4 (Or.inl hne)
  have f12 : n0 ≤ h3.size := by rw [W4.size]; exact hZ0
  have f13 : Keep h0 h3 [a, t] := hK.wr W4 (Or.inl (by simp))
  have f14 : Arv Z h3 t kA .long (3 : Int32) [(.long t0), (.long now), (.long t2)] (.long 0) := V5
  refine own_aload_n H rfl rfl d4_59 ?_
  refine own_aload_n H rfl rfl d4_60 ?_
  refine own_getfield H (w := 28) rfl f10 d4_61 ?_
  refine own_iconst H (1 : Int32) (by decide) d4_64 ?_
  refine own_iadd (v := (2 : Int32)) H (by decide) d4_65 ?_
  refine own_aload_n H rfl rfl d4_66 ?_
  refine own_getfield H (w := 15) rfl f7 d4_67 ?_
  refine own_irem (v := (2 : Int32)) H (by decide) d4_70 (by decide) ?_
  refine own_putfield H (w := 28) (wi := 7) rfl f10 f6 hA_a (Or.inl (own_w H (i := 29) rfl)) rfl (ty := .int) (by decide) rfl rfl d4_71 ?_
  intro h15 W16
  have f17 : Exa Z h15 a "com/example/trailwire/trailwire/http2/BurstLimit" := f6.wr W16
  have f18 : Fld Z h15 a "com/example/trailwire/trailwire/http2/BurstLimit" "events" "I" (.int (3 : Int32)) := f7.other W16 (Or.inr (slot_ne (Or.inr (own_w H (i := 16) rfl)) (Or.inl (own_w H (i := 29) rfl)) (by decide) (t := .int) (t' := .int) (by decide) (by decide)))
  have f19 : Fld Z h15 a "com/example/trailwire/trailwire/http2/BurstLimit" "period" "J" (.long per) := f8.other W16 (Or.inr (slot_ne (Or.inr (own_w H (i := 18) rfl)) (Or.inl (own_w H (i := 29) rfl)) (by decide) (t := .long) (t' := .int) (by decide) (by decide)))
  have f20 : Fld Z h15 a "com/example/trailwire/trailwire/http2/BurstLimit" "times" "[J" (.ref t) := f9.other W16 (Or.inr (slot_ne (Or.inl (own_w H (i := 25) rfl)) (Or.inl (own_w H (i := 29) rfl)) (by decide) (t := (.array .long)) (t' := .int) (by decide) (by decide)))
  have f21 : Fld Z h15 a "com/example/trailwire/trailwire/http2/BurstLimit" "next" "I" (.int (2 : Int32)) := f10.same W16
  have f22 : Fld Z h15 a "com/example/trailwire/trailwire/http2/BurstLimit" "full" "Z" (.int (1 : Int32)) := f11.other W16 (Or.inr (slot_ne (Or.inl (own_w H (i := 27) rfl)) (Or.inl (own_w H (i := 29) rfl)) (by decide) (t := .boolean) (t' := .int) (by decide) (by decide)))
  have f23 : Arv Z h15 t kA .long (3 : Int32) [(.long t0), (.long now), (.long t2)] (.long 0) := f14.other W16 hne.symm
  have f24 : n0 ≤ h15.size := by rw [W16.size]; exact f12
  have f25 : Keep h0 h15 [a, t] := f13.wr W16 (Or.inl (by simp))
  refine own_aload_n H rfl rfl d4_74 ?_
  refine own_aload_n H rfl rfl d4_75 ?_
  refine own_getfield H (w := 26) rfl f22 d4_76 ?_
  refine own_ifne_t H (pc' := 89) d4_79 (by decide) (by decide) (by decide) ?_
  refine own_iconst H (1 : Int32) (by decide) d4_89 ?_
  refine own_goto H (pc' := 94) d4_90 (by decide) (by decide) ?_
  refine own_putfield H (w := 26) (wi := 7) rfl f22 f17 hA_a (Or.inl (own_w H (i := 27) rfl)) rfl (ty := .boolean) (by decide) rfl rfl d4_94 ?_
  intro h26 W27
  have f28 : Exa Z h26 a "com/example/trailwire/trailwire/http2/BurstLimit" := f17.wr W27
  have f29 : Fld Z h26 a "com/example/trailwire/trailwire/http2/BurstLimit" "events" "I" (.int (3 : Int32)) := f18.other W27 (Or.inr (slot_ne (Or.inr (own_w H (i := 16) rfl)) (Or.inl (own_w H (i := 27) rfl)) (by decide) (t := .int) (t' := .boolean) (by decide) (by decide)))
  have f30 : Fld Z h26 a "com/example/trailwire/trailwire/http2/BurstLimit" "period" "J" (.long per) := f19.other W27 (Or.inr (slot_ne (Or.inr (own_w H (i := 18) rfl)) (Or.inl (own_w H (i := 27) rfl)) (by decide) (t := .long) (t' := .boolean) (by decide) (by decide)))
  have f31 : Fld Z h26 a "com/example/trailwire/trailwire/http2/BurstLimit" "times" "[J" (.ref t) := f20.other W27 (Or.inr (slot_ne (Or.inl (own_w H (i := 25) rfl)) (Or.inl (own_w H (i := 27) rfl)) (by decide) (t := (.array .long)) (t' := .boolean) (by decide) (by decide)))
  have f32 : Fld Z h26 a "com/example/trailwire/trailwire/http2/BurstLimit" "next" "I" (.int (2 : Int32)) := f21.other W27 (Or.inr (slot_ne (Or.inl (own_w H (i := 29) rfl)) (Or.inl (own_w H (i := 27) rfl)) (by decide) (t := .int) (t' := .boolean) (by decide) (by decide)))
  have f33 : Fld Z h26 a "com/example/trailwire/trailwire/http2/BurstLimit" "full" "Z" (.int (1 : Int32)) := f22.same W27
  have f34 : Arv Z h26 t kA .long (3 : Int32) [(.long t0), (.long now), (.long t2)] (.long 0) := f23.other W27 hne.symm
  have f35 : n0 ≤ h26.size := by rw [W27.size]; exact f24
  have f36 : Keep h0 h26 [a, t] := f25.wr W27 (Or.inl (by simp))
  refine own_iload_n H rfl d4_97 ?_
  exact own_ireturn H (by simp) (by first | rfl | (split <;> rfl) | (split <;> (try split) <;> rfl)) d4_98 (by decide) (by decide) ⟨rfl, f36, f28, f29, f30, f31, f32, f33, f34⟩
set_option maxHeartbeats 4000000 in
theorem rmX3_2_1 (l : Launch) (Z : State) (a0 : Array Value) (hw : ∀ (i : Nat) (d : Jvm.Cond), tables_1[i]? = some d → d.before a0 Z = true) (h0 : Heap) (n0 : Nat) (a : Addr) (now : Int64) (per : Int64) (t : Addr) (kA : ClassId) (t0 : Int64) (t1 : Int64) (t2 : Int64) (hZ0 : n0 ≤ h0.size) (hE : Exa Z h0 a "com/example/trailwire/trailwire/http2/BurstLimit") (hF1 : Fld Z h0 a "com/example/trailwire/trailwire/http2/BurstLimit" "events" "I" (.int (3 : Int32))) (hF2 : Fld Z h0 a "com/example/trailwire/trailwire/http2/BurstLimit" "period" "J" (.long per)) (hF3 : Fld Z h0 a "com/example/trailwire/trailwire/http2/BurstLimit" "times" "[J" (.ref t)) (hF4 : Fld Z h0 a "com/example/trailwire/trailwire/http2/BurstLimit" "next" "I" (.int (2 : Int32))) (hF5 : Fld Z h0 a "com/example/trailwire/trailwire/http2/BurstLimit" "full" "Z" (.int (1 : Int32))) (hV : Arv Z h0 t kA .long (3 : Int32) [(.long t0), (.long t1), (.long t2)] (.long 0)) (hne : a ≠ t) (hA_a : n0 ≤ a) (hA_t : n0 ≤ t) :
    own_C l Z (⟨"com/example/trailwire/trailwire/http2/BurstLimit", "exceededBy", "(J)Z"⟩ : MethodName) prog_1_method_2_code 4 (some .boolean) ({ frames := 0, cells := 0, slots := 0, locals := 0 } : Room) #[(.ref a), (.long now)] h0 n0 (fun v h' => v = some (.int (if (now - t2) < per then (1 : Int32) else (0 : Int32))) ∧ Keep h0 h' [a, t] ∧ Exa Z h' a "com/example/trailwire/trailwire/http2/BurstLimit" ∧ Fld Z h' a "com/example/trailwire/trailwire/http2/BurstLimit" "events" "I" (.int (3 : Int32)) ∧ Fld Z h' a "com/example/trailwire/trailwire/http2/BurstLimit" "period" "J" (.long per) ∧ Fld Z h' a "com/example/trailwire/trailwire/http2/BurstLimit" "times" "[J" (.ref t) ∧ Fld Z h' a "com/example/trailwire/trailwire/http2/BurstLimit" "next" "I" (.int (0 : Int32)) ∧ Fld Z h' a "com/example/trailwire/trailwire/http2/BurstLimit" "full" "Z" (.int (1 : Int32)) ∧ Arv Z h' t kA .long (3 : Int32) [(.long t0), (.long t1), (.long now)] (.long 0)) := by
  refine own_met (Ls := #[.val (.ref a), .val (.long now), .second, .unset]) hw own_pl4 (fun m => by first | (simp [entryFrame, mkF, argsToLocals, Value.category]; done) | rfl) ?_
  intro B H
  have hK : Keep h0 h0 [a, t] := Keep.refl _ _
  refine own_aload_n H rfl rfl d4_0 ?_
  refine own_getfield H (w := 24) rfl hF3 d4_1 ?_
  refine own_ifnonnull_t H (pc' := 17) d4_4 (by decide) (by decide) rfl (fun h => nomatch h) ?_
  refine own_aload_n H rfl rfl d4_17 ?_
  refine own_getfield H (w := 26) rfl hF5 d4_18 ?_
  refine own_ifeq_f H d4_21 (by decide) ?_
  refine own_lload_n H rfl d4_24 ?_
  refine own_aload_n H rfl rfl d4_25 ?_
  refine own_getfield H (w := 24) rfl hF3 d4_26 ?_
  refine own_aload_n H rfl rfl d4_29 ?_
  refine own_getfield H (w := 28) rfl hF4 d4_30 ?_
  refine own_laloadV H hV (by decide) (by decide) rfl d4_33 ?_
  refine own_lsub H rfl d4_34 ?_
  refine own_aload_n H rfl rfl d4_35 ?_
  refine own_getfield H (w := 17) rfl hF2 d4_36 ?_
  refine own_cut 48 #[.val (.ref a), .val (.long now), .second, .unset] [(.int (if (now - t2) < per then (1 : Int32) else (0 : Int32)))] (fun k2 => ?_) ?_
  ·
    by_cases c1 : (now - t2) < per
    ·
      refine own_lcmpge_f H d4_39 d4_40 c1 ?_
      refine own_iconst H (1 : Int32) (by decide) d4_43 ?_
      refine own_goto H (pc' := 48) d4_44 (by decide) (by decide) ?_
      exact own_cast (by simp only [if_pos c1]) (by simp only [if_pos c1]) k2
    ·
      refine own_lcmpge_t H (pc' := 47) d4_39 d4_40 (by decide) (by decide) c1 ?_
      refine own_iconst H (0 : Int32) (by decide) d4_47 ?_
      exact own_cast (by simp only [if_neg c1]) (by simp only [if_neg c1]) k2
  refine own_istore_n H #[.val (.ref a), .val (.long now), .second, .val (.int (if (now - t2) < per then (1 : Int32) else (0 : Int32)))] rfl d4_48 ?_
  refine own_aload_n H rfl rfl d4_49 ?_
  refine own_getfield H (w := 24) rfl hF3 d4_50 ?_
  refine own_aload_n H rfl rfl d4_53 ?_
  refine own_getfield H (w := 28) rfl hF4 d4_54 ?_
  refine own_lload_n H rfl d4_57 ?_
  refine own_lastoreV H hV (by decide) (by decide) 2 (by decide) (Nat.le_of_ble_eq_true rfl) hA_t rfl d4_58 ?_
  intro h3 W4 V5
  have f6 : Exa Z h3 a "com/example/trailwire/trailwire/http2/BurstLimit" := hE.wr W4
  have f7 : Fld Z h3 a "com/example/trailwire/trailwire/http2/BurstLimit" "events" "I" (.int (3 : Int32)) := hF1.other W4 (Or.inl hne)
  have f8 : Fld Z h3 a "com/example/trailwire/trailwire/http2/BurstLimit" "period" "J" (.long per) := hF2.other W4 (Or.inl hne)
  have f9 : Fld Z h3 a "com/example/trailwire/trailwire/http2/BurstLimit" "times" "[J" (.ref t) := hF3.other W4 (Or.inl hne)
  have f10 : Fld Z h3 a "com/example/trailwire/trailwire/http2/BurstLimit" "next" "I" (.int (2 : Int32)) := hF4.other W4 (Or.inl hne)
  have f11 : Fld Z h3 a "com/example/trailwire/trailwire/http2/BurstLimit" "full" "Z" (.int (1 : Int32)) := hF5.other W4 (Or.inl hne)
  have f12 : n0 ≤ h3.size := by rw [W4.size]; exact hZ0
  have f13 : Keep h0 h3 [a, t] := hK.wr W4 (Or.inl (by simp))
  have f14 : Arv Z h3 t kA .long (3 : Int32) [(.long t0), (.long t1), (.long now)] (.long 0) := V5
  refine own_aload_n H rfl rfl d4_59 ?_
  refine own_aload_n H rfl rfl d4_60 ?_
  refine own_getfield H (w := 28) rfl f10 d4_61 ?_
  refine own_iconst H (1 : Int32) (by decide) d4_64 ?_
  refine own_iadd (v := (3 : Int32)) H (by decide) d4_65 ?_
  refine own_aload_n H rfl rfl d4_66 ?_
  refine own_getfield H (w := 15) rfl f7 d4_67 ?_
  refine own_irem (v := (0 : Int32)) H (by decide) d4_70 (by decide) ?_
  refine own_putfield H (w := 28) (wi := 7) rfl f10 f6 hA_a (Or.inl (own_w H (i := 29) rfl)) rfl (ty := .int) (by decide) rfl rfl d4_71 ?_
  intro h15 W16
  have f17 : Exa Z h15 a "com/example/trailwire/trailwire/http2/BurstLimit" := f6.wr W16
  have f18 : Fld Z h15 a "com/example/trailwire/trailwire/http2/BurstLimit" "events" "I" (.int (3 : Int32)) := f7.other W16 (Or.inr (slot_ne (Or.inr (own_w H (i := 16) rfl)) (Or.inl (own_w H (i := 29) rfl)) (by decide) (t := .int) (t' := .int) (by decide) (by decide)))
  have f19 : Fld Z h15 a "com/example/trailwire/trailwire/http2/BurstLimit" "period" "J" (.long per) := f8.other W16 (Or.inr (slot_ne (Or.inr (own_w H (i := 18) rfl)) (Or.inl (own_w H (i := 29) rfl)) (by decide) (t := .long) (t' := .int) (by decide) (by decide)))
  have f20 : Fld Z h15 a "com/example/trailwire/trailwire/http2/BurstLimit" "times" "[J" (.ref t) := f9.other W16 (Or.inr (slot_ne (Or.inl (own_w H (i := 25) rfl)) (Or.inl (own_w H (i := 29) rfl)) (by decide) (t := (.array .long)) (t' := .int) (by decide) (by decide)))
  have f21 : Fld Z h15 a "com/example/trailwire/trailwire/http2/BurstLimit" "next" "I" (.int (0 : Int32)) := f10.same W16
  have f22 : Fld Z h15 a "com/example/trailwire/trailwire/http2/BurstLimit" "full" "Z" (.int (1 : Int32)) := f11.other W16 (Or.inr (slot_ne (Or.inl (own_w H (i := 27) rfl)) (Or.inl (own_w H (i := 29) rfl)) (by decide) (t := .boolean) (t' := .int) (by decide) (by decide)))
  have f23 : Arv Z h15 t kA .long (3 : Int32) [(.long t0), (.long t1), (.long now)] (.long 0) := f14.other W16 hne.symm
  have f24 : n0 ≤ h15.size := by rw [W16.size]; exact f12
  have f25 : Keep h0 h15 [a, t] := f13.wr W16 (Or.inl (by simp))
  refine own_aload_n H rfl rfl d4_74 ?_
  refine own_aload_n H rfl rfl d4_75 ?_
  refine own_getfield H (w := 26) rfl f22 d4_76 ?_
  refine own_ifne_t H (pc' := 89) d4_79 (by decide) (by decide) (by decide) ?_
  refine own_iconst H (1 : Int32) (by decide) d4_89 ?_
  refine own_goto H (pc' := 94) d4_90 (by decide) (by decide) ?_
  refine own_putfield H (w := 26) (wi := 7) rfl f22 f17 hA_a (Or.inl (own_w H (i := 27) rfl)) rfl (ty := .boolean) (by decide) rfl rfl d4_94 ?_
  intro h26 W27
  have f28 : Exa Z h26 a "com/example/trailwire/trailwire/http2/BurstLimit" := f17.wr W27
  have f29 : Fld Z h26 a "com/example/trailwire/trailwire/http2/BurstLimit" "events" "I" (.int (3 : Int32)) := f18.other W27 (Or.inr (slot_ne (Or.inr (own_w H (i := 16) rfl)) (Or.inl (own_w H (i := 27) rfl)) (by decide) (t := .int) (t' := .boolean) (by decide) (by decide)))
  have f30 : Fld Z h26 a "com/example/trailwire/trailwire/http2/BurstLimit" "period" "J" (.long per) := f19.other W27 (Or.inr (slot_ne (Or.inr (own_w H (i := 18) rfl)) (Or.inl (own_w H (i := 27) rfl)) (by decide) (t := .long) (t' := .boolean) (by decide) (by decide)))
  have f31 : Fld Z h26 a "com/example/trailwire/trailwire/http2/BurstLimit" "times" "[J" (.ref t) := f20.other W27 (Or.inr (slot_ne (Or.inl (own_w H (i := 25) rfl)) (Or.inl (own_w H (i := 27) rfl)) (by decide) (t := (.array .long)) (t' := .boolean) (by decide) (by decide)))
  have f32 : Fld Z h26 a "com/example/trailwire/trailwire/http2/BurstLimit" "next" "I" (.int (0 : Int32)) := f21.other W27 (Or.inr (slot_ne (Or.inl (own_w H (i := 29) rfl)) (Or.inl (own_w H (i := 27) rfl)) (by decide) (t := .int) (t' := .boolean) (by decide) (by decide)))
  have f33 : Fld Z h26 a "com/example/trailwire/trailwire/http2/BurstLimit" "full" "Z" (.int (1 : Int32)) := f22.same W27
  have f34 : Arv Z h26 t kA .long (3 : Int32) [(.long t0), (.long t1), (.long now)] (.long 0) := f23.other W27 hne.symm
  have f35 : n0 ≤ h26.size := by rw [W27.size]; exact f24
  have f36 : Keep h0 h26 [a, t] := f25.wr W27 (Or.inl (by simp))
  refine own_iload_n H rfl d4_97 ?_
  exact own_ireturn H (by simp) (by first | rfl | (split <;> rfl) | (split <;> (try split) <;> rfl)) d4_98 (by decide) (by decide) ⟨rfl, f36, f28, f29, f30, f31, f32, f33, f34⟩
set_option maxHeartbeats 4000000 in
theorem rmE0_3 (l : Launch) (Z : State) (a0 : Array Value) (hw : ∀ (i : Nat) (d : Jvm.Cond), tables_1[i]? = some d → d.before a0 Z = true) (h0 : Heap) (n0 : Nat) (t : Addr) (per : Int64) (kA : ClassId) (s0 : Int64) (s1 : Int64) (s2 : Int64) (s3 : Int64) (s4 : Int64) (s5 : Int64) (s6 : Int64) (hV : Arv Z h0 t kA .long (7 : Int32) [(.long s0), (.long s1), (.long s2), (.long s3), (.long s4), (.long s5), (.long s6)] (.long 0)) :
    own_C l Z (⟨"com/example/trailwire/trailwire/http2/BurstLimitExceededByPinLaw", "expected", "(II[JJ)Z"⟩ : MethodName) method_4_code 7 (some .boolean) ({ frames := 0, cells := 0, slots := 0, locals := 0 } : Room) #[(.int (0 : Int32)), (.int (3 : Int32)), (.ref t), (.long per)] h0 n0 (fun v h' => v = some (.int (0 : Int32)) ∧ h0 = h') := by
  refine own_met (Ls := #[.val (.int (0 : Int32)), .val (.int (3 : Int32)), .val (.ref t), .val (.long per), .second, .unset, .unset]) hw own_pl5 (fun m => by first | (simp [entryFrame, mkF, argsToLocals, Value.category]; done) | rfl) ?_
  intro B H
  refine own_iload_n H rfl d5_0 ?_
  refine own_iload_n H rfl d5_1 ?_
  refine own_icmpge_f H d5_2 (by decide) ?_
  refine own_iconst H (0 : Int32) (by decide) d5_5 ?_
  exact own_ireturn H (by simp) (by decide) d5_6 (by decide) (by decide) ⟨rfl, rfl⟩
set_option maxHeartbeats 4000000 in
theorem rmE1_3 (l : Launch) (Z : State) (a0 : Array Value) (hw : ∀ (i : Nat) (d : Jvm.Cond), tables_1[i]? = some d → d.before a0 Z = true) (h0 : Heap) (n0 : Nat) (t : Addr) (per : Int64) (kA : ClassId) (s0 : Int64) (s1 : Int64) (s2 : Int64) (s3 : Int64) (s4 : Int64) (s5 : Int64) (s6 : Int64) (hV : Arv Z h0 t kA .long (7 : Int32) [(.long s0), (.long s1), (.long s2), (.long s3), (.long s4), (.long s5), (.long s6)] (.long 0)) :
    own_C l Z (⟨"com/example/trailwire/trailwire/http2/BurstLimitExceededByPinLaw", "expected", "(II[JJ)Z"⟩ : MethodName) method_4_code 7 (some .boolean) ({ frames := 0, cells := 0, slots := 0, locals := 0 } : Room) #[(.int (1 : Int32)), (.int (3 : Int32)), (.ref t), (.long per)] h0 n0 (fun v h' => v = some (.int (0 : Int32)) ∧ h0 = h') := by
  refine own_met (Ls := #[.val (.int (1 : Int32)), .val (.int (3 : Int32)), .val (.ref t), .val (.long per), .second, .unset, .unset]) hw own_pl5 (fun m => by first | (simp [entryFrame, mkF, argsToLocals, Value.category]; done) | rfl) ?_
  intro B H
  refine own_iload_n H rfl d5_0 ?_
  refine own_iload_n H rfl d5_1 ?_
  refine own_icmpge_f H d5_2 (by decide) ?_
  refine own_iconst H (0 : Int32) (by decide) d5_5 ?_
  exact own_ireturn H (by simp) (by decide) d5_6 (by decide) (by decide) ⟨rfl, rfl⟩
set_option maxHeartbeats 4000000 in
theorem rmE2_3 (l : Launch) (Z : State) (a0 : Array Value) (hw : ∀ (i : Nat) (d : Jvm.Cond), tables_1[i]? = some d → d.before a0 Z = true) (h0 : Heap) (n0 : Nat) (t : Addr) (per : Int64) (kA : ClassId) (s0 : Int64) (s1 : Int64) (s2 : Int64) (s3 : Int64) (s4 : Int64) (s5 : Int64) (s6 : Int64) (hV : Arv Z h0 t kA .long (7 : Int32) [(.long s0), (.long s1), (.long s2), (.long s3), (.long s4), (.long s5), (.long s6)] (.long 0)) :
    own_C l Z (⟨"com/example/trailwire/trailwire/http2/BurstLimitExceededByPinLaw", "expected", "(II[JJ)Z"⟩ : MethodName) method_4_code 7 (some .boolean) ({ frames := 0, cells := 0, slots := 0, locals := 0 } : Room) #[(.int (2 : Int32)), (.int (3 : Int32)), (.ref t), (.long per)] h0 n0 (fun v h' => v = some (.int (0 : Int32)) ∧ h0 = h') := by
  refine own_met (Ls := #[.val (.int (2 : Int32)), .val (.int (3 : Int32)), .val (.ref t), .val (.long per), .second, .unset, .unset]) hw own_pl5 (fun m => by first | (simp [entryFrame, mkF, argsToLocals, Value.category]; done) | rfl) ?_
  intro B H
  refine own_iload_n H rfl d5_0 ?_
  refine own_iload_n H rfl d5_1 ?_
  refine own_icmpge_f H d5_2 (by decide) ?_
  refine own_iconst H (0 : Int32) (by decide) d5_5 ?_
  exact own_ireturn H (by simp) (by decide) d5_6 (by decide) (by decide) ⟨rfl, rfl⟩
set_option maxHeartbeats 4000000 in
theorem rmE3_3 (l : Launch) (Z : State) (a0 : Array Value) (hw : ∀ (i : Nat) (d : Jvm.Cond), tables_1[i]? = some d → d.before a0 Z = true) (h0 : Heap) (n0 : Nat) (t : Addr) (per : Int64) (kA : ClassId) (s0 : Int64) (s1 : Int64) (s2 : Int64) (s3 : Int64) (s4 : Int64) (s5 : Int64) (s6 : Int64) (hV : Arv Z h0 t kA .long (7 : Int32) [(.long s0), (.long s1), (.long s2), (.long s3), (.long s4), (.long s5), (.long s6)] (.long 0)) :
    own_C l Z (⟨"com/example/trailwire/trailwire/http2/BurstLimitExceededByPinLaw", "expected", "(II[JJ)Z"⟩ : MethodName) method_4_code 7 (some .boolean) ({ frames := 0, cells := 0, slots := 0, locals := 0 } : Room) #[(.int (3 : Int32)), (.int (3 : Int32)), (.ref t), (.long per)] h0 n0 (fun v h' => v = some (.int (if (s3 - s0) < per then (1 : Int32) else (0 : Int32))) ∧ h0 = h') := by
  refine own_met (Ls := #[.val (.int (3 : Int32)), .val (.int (3 : Int32)), .val (.ref t), .val (.long per), .second, .unset, .unset]) hw own_pl5 (fun m => by first | (simp [entryFrame, mkF, argsToLocals, Value.category]; done) | rfl) ?_
  intro B H
  refine own_iload_n H rfl d5_0 ?_
  refine own_iload_n H rfl d5_1 ?_
  refine own_icmpge_t H (pc' := 7) d5_2 (by decide) (by decide) (by decide) ?_
  refine own_aload_n H rfl rfl d5_7 ?_
  refine own_iload_n H rfl d5_8 ?_
  refine own_laloadV H hV (by decide) (by decide) rfl d5_9 ?_
  refine own_aload_n H rfl rfl d5_10 ?_
  refine own_iload_n H rfl d5_11 ?_
  refine own_iload_n H rfl d5_12 ?_
  refine own_isub (v := (0 : Int32)) H (by decide) d5_13 ?_
  refine own_laloadV H hV (by decide) (by decide) rfl d5_14 ?_
  refine own_lsub H rfl d5_15 ?_
  refine own_lstore H #[.val (.int (3 : Int32)), .val (.int (3 : Int32)), .val (.ref t), .val (.long per), .second, .val (.long (s3 - s0)), .second] rfl d5_16 ?_
  refine own_lload H rfl d5_18 ?_
  refine own_lload_n H rfl d5_20 ?_
  refine own_cut 30 #[.val (.int (3 : Int32)), .val (.int (3 : Int32)), .val (.ref t), .val (.long per), .second, .val (.long (s3 - s0)), .second] [(.int (if (s3 - s0) < per then (1 : Int32) else (0 : Int32)))] (fun k2 => ?_) ?_
  ·
    by_cases c1 : (s3 - s0) < per
    ·
      refine own_lcmpge_f H d5_21 d5_22 c1 ?_
      refine own_iconst H (1 : Int32) (by decide) d5_25 ?_
      refine own_goto H (pc' := 30) d5_26 (by decide) (by decide) ?_
      exact own_cast (by simp only [if_pos c1]) (by simp only [if_pos c1]) k2
    ·
      refine own_lcmpge_t H (pc' := 29) d5_21 d5_22 (by decide) (by decide) c1 ?_
      refine own_iconst H (0 : Int32) (by decide) d5_29 ?_
      exact own_cast (by simp only [if_neg c1]) (by simp only [if_neg c1]) k2
  exact own_ireturn H (by simp) (by first | rfl | (split <;> rfl) | (split <;> (try split) <;> rfl)) d5_30 (by decide) (by decide) ⟨rfl, rfl⟩
set_option maxHeartbeats 4000000 in
theorem rmE4_3 (l : Launch) (Z : State) (a0 : Array Value) (hw : ∀ (i : Nat) (d : Jvm.Cond), tables_1[i]? = some d → d.before a0 Z = true) (h0 : Heap) (n0 : Nat) (t : Addr) (per : Int64) (kA : ClassId) (s0 : Int64) (s1 : Int64) (s2 : Int64) (s3 : Int64) (s4 : Int64) (s5 : Int64) (s6 : Int64) (hV : Arv Z h0 t kA .long (7 : Int32) [(.long s0), (.long s1), (.long s2), (.long s3), (.long s4), (.long s5), (.long s6)] (.long 0)) :
    own_C l Z (⟨"com/example/trailwire/trailwire/http2/BurstLimitExceededByPinLaw", "expected", "(II[JJ)Z"⟩ : MethodName) method_4_code 7 (some .boolean) ({ frames := 0, cells := 0, slots := 0, locals := 0 } : Room) #[(.int (4 : Int32)), (.int (3 : Int32)), (.ref t), (.long per)] h0 n0 (fun v h' => v = some (.int (if (s4 - s1) < per then (1 : Int32) else (0 : Int32))) ∧ h0 = h') := by
  refine own_met (Ls := #[.val (.int (4 : Int32)), .val (.int (3 : Int32)), .val (.ref t), .val (.long per), .second, .unset, .unset]) hw own_pl5 (fun m => by first | (simp [entryFrame, mkF, argsToLocals, Value.category]; done) | rfl) ?_
  intro B H
  refine own_iload_n H rfl d5_0 ?_
  refine own_iload_n H rfl d5_1 ?_
  refine own_icmpge_t H (pc' := 7) d5_2 (by decide) (by decide) (by decide) ?_
  refine own_aload_n H rfl rfl d5_7 ?_
  refine own_iload_n H rfl d5_8 ?_
  refine own_laloadV H hV (by decide) (by decide) rfl d5_9 ?_
  refine own_aload_n H rfl rfl d5_10 ?_
  refine own_iload_n H rfl d5_11 ?_
  refine own_iload_n H rfl d5_12 ?_
  refine own_isub (v := (1 : Int32)) H (by decide) d5_13 ?_
  refine own_laloadV H hV (by decide) (by decide) rfl d5_14 ?_
  refine own_lsub H rfl d5_15 ?_
  refine own_lstore H #[.val (.int (4 : Int32)), .val (.int (3 : Int32)), .val (.ref t), .val (.long per), .second, .val (.long (s4 - s1)), .second] rfl d5_16 ?_
  refine own_lload H rfl d5_18 ?_
  refine own_lload_n H rfl d5_20 ?_
  refine own_cut 30 #[.val (.int (4 : Int32)), .val (.int (3 : Int32)), .val (.ref t), .val (.long per), .second, .val (.long (s4 - s1)), .second] [(.int (if (s4 - s1) < per then (1 : Int32) else (0 : Int32)))] (fun k2 => ?_) ?_
  ·
    by_cases c1 : (s4 - s1) < per
    ·
      refine own_lcmpge_f H d5_21 d5_22 c1 ?_
      refine own_iconst H (1 : Int32) (by decide) d5_25 ?_
      refine own_goto H (pc' := 30) d5_26 (by decide) (by decide) ?_
      exact own_cast (by simp only [if_pos c1]) (by simp only [if_pos c1]) k2
    ·
      refine own_lcmpge_t H (pc' := 29) d5_21 d5_22 (by decide) (by decide) c1 ?_
      refine own_iconst H (0 : Int32) (by decide) d5_29 ?_
      exact own_cast (by simp only [if_neg c1]) (by simp only [if_neg c1]) k2
  exact own_ireturn H (by simp) (by first | rfl | (split <;> rfl) | (split <;> (try split) <;> rfl)) d5_30 (by decide) (by decide) ⟨rfl, rfl⟩
set_option maxHeartbeats 4000000 in
theorem rmE5_3 (l : Launch) (Z : State) (a0 : Array Value) (hw : ∀ (i : Nat) (d : Jvm.Cond), tables_1[i]? = some d → d.before a0 Z = true) (h0 : Heap) (n0 : Nat) (t : Addr) (per : Int64) (kA : ClassId) (s0 : Int64) (s1 : Int64) (s2 : Int64) (s3 : Int64) (s4 : Int64) (s5 : Int64) (s6 : Int64) (hV : Arv Z h0 t kA .long (7 : Int32) [(.long s0), (.long s1), (.long s2), (.long s3), (.long s4), (.long s5), (.long s6)] (.long 0)) :
    own_C l Z (⟨"com/example/trailwire/trailwire/http2/BurstLimitExceededByPinLaw", "expected", "(II[JJ)Z"⟩ : MethodName) method_4_code 7 (some .boolean) ({ frames := 0, cells := 0, slots := 0, locals := 0 } : Room) #[(.int (5 : Int32)), (.int (3 : Int32)), (.ref t), (.long per)] h0 n0 (fun v h' => v = some (.int (if (s5 - s2) < per then (1 : Int32) else (0 : Int32))) ∧ h0 = h') := by
  refine own_met (Ls := #[.val (.int (5 : Int32)), .val (.int (3 : Int32)), .val (.ref t), .val (.long per), .second, .unset, .unset]) hw own_pl5 (fun m => by first | (simp [entryFrame, mkF, argsToLocals, Value.category]; done) | rfl) ?_
  intro B H
  refine own_iload_n H rfl d5_0 ?_
  refine own_iload_n H rfl d5_1 ?_
  refine own_icmpge_t H (pc' := 7) d5_2 (by decide) (by decide) (by decide) ?_
  refine own_aload_n H rfl rfl d5_7 ?_
  refine own_iload_n H rfl d5_8 ?_
  refine own_laloadV H hV (by decide) (by decide) rfl d5_9 ?_
  refine own_aload_n H rfl rfl d5_10 ?_
  refine own_iload_n H rfl d5_11 ?_
  refine own_iload_n H rfl d5_12 ?_
  refine own_isub (v := (2 : Int32)) H (by decide) d5_13 ?_
  refine own_laloadV H hV (by decide) (by decide) rfl d5_14 ?_
  refine own_lsub H rfl d5_15 ?_
  refine own_lstore H #[.val (.int (5 : Int32)), .val (.int (3 : Int32)), .val (.ref t), .val (.long per), .second, .val (.long (s5 - s2)), .second] rfl d5_16 ?_
  refine own_lload H rfl d5_18 ?_
  refine own_lload_n H rfl d5_20 ?_
  refine own_cut 30 #[.val (.int (5 : Int32)), .val (.int (3 : Int32)), .val (.ref t), .val (.long per), .second, .val (.long (s5 - s2)), .second] [(.int (if (s5 - s2) < per then (1 : Int32) else (0 : Int32)))] (fun k2 => ?_) ?_
  ·
    by_cases c1 : (s5 - s2) < per
    ·
      refine own_lcmpge_f H d5_21 d5_22 c1 ?_
      refine own_iconst H (1 : Int32) (by decide) d5_25 ?_
      refine own_goto H (pc' := 30) d5_26 (by decide) (by decide) ?_
      exact own_cast (by simp only [if_pos c1]) (by simp only [if_pos c1]) k2
    ·
      refine own_lcmpge_t H (pc' := 29) d5_21 d5_22 (by decide) (by decide) c1 ?_
      refine own_iconst H (0 : Int32) (by decide) d5_29 ?_
      exact own_cast (by simp only [if_neg c1]) (by simp only [if_neg c1]) k2
  exact own_ireturn H (by simp) (by first | rfl | (split <;> rfl) | (split <;> (try split) <;> rfl)) d5_30 (by decide) (by decide) ⟨rfl, rfl⟩
set_option maxHeartbeats 4000000 in
theorem rmE6_3 (l : Launch) (Z : State) (a0 : Array Value) (hw : ∀ (i : Nat) (d : Jvm.Cond), tables_1[i]? = some d → d.before a0 Z = true) (h0 : Heap) (n0 : Nat) (t : Addr) (per : Int64) (kA : ClassId) (s0 : Int64) (s1 : Int64) (s2 : Int64) (s3 : Int64) (s4 : Int64) (s5 : Int64) (s6 : Int64) (hV : Arv Z h0 t kA .long (7 : Int32) [(.long s0), (.long s1), (.long s2), (.long s3), (.long s4), (.long s5), (.long s6)] (.long 0)) :
    own_C l Z (⟨"com/example/trailwire/trailwire/http2/BurstLimitExceededByPinLaw", "expected", "(II[JJ)Z"⟩ : MethodName) method_4_code 7 (some .boolean) ({ frames := 0, cells := 0, slots := 0, locals := 0 } : Room) #[(.int (6 : Int32)), (.int (3 : Int32)), (.ref t), (.long per)] h0 n0 (fun v h' => v = some (.int (if (s6 - s3) < per then (1 : Int32) else (0 : Int32))) ∧ h0 = h') := by
  refine own_met (Ls := #[.val (.int (6 : Int32)), .val (.int (3 : Int32)), .val (.ref t), .val (.long per), .second, .unset, .unset]) hw own_pl5 (fun m => by first | (simp [entryFrame, mkF, argsToLocals, Value.category]; done) | rfl) ?_
  intro B H
  refine own_iload_n H rfl d5_0 ?_
  refine own_iload_n H rfl d5_1 ?_
  refine own_icmpge_t H (pc' := 7) d5_2 (by decide) (by decide) (by decide) ?_
  refine own_aload_n H rfl rfl d5_7 ?_
  refine own_iload_n H rfl d5_8 ?_
  refine own_laloadV H hV (by decide) (by decide) rfl d5_9 ?_
  refine own_aload_n H rfl rfl d5_10 ?_
  refine own_iload_n H rfl d5_11 ?_
  refine own_iload_n H rfl d5_12 ?_
  refine own_isub (v := (3 : Int32)) H (by decide) d5_13 ?_
  refine own_laloadV H hV (by decide) (by decide) rfl d5_14 ?_
  refine own_lsub H rfl d5_15 ?_
  refine own_lstore H #[.val (.int (6 : Int32)), .val (.int (3 : Int32)), .val (.ref t), .val (.long per), .second, .val (.long (s6 - s3)), .second] rfl d5_16 ?_
  refine own_lload H rfl d5_18 ?_
  refine own_lload_n H rfl d5_20 ?_
  refine own_cut 30 #[.val (.int (6 : Int32)), .val (.int (3 : Int32)), .val (.ref t), .val (.long per), .second, .val (.long (s6 - s3)), .second] [(.int (if (s6 - s3) < per then (1 : Int32) else (0 : Int32)))] (fun k2 => ?_) ?_
  ·
    by_cases c1 : (s6 - s3) < per
    ·
      refine own_lcmpge_f H d5_21 d5_22 c1 ?_
      refine own_iconst H (1 : Int32) (by decide) d5_25 ?_
      refine own_goto H (pc' := 30) d5_26 (by decide) (by decide) ?_
      exact own_cast (by simp only [if_pos c1]) (by simp only [if_pos c1]) k2
    ·
      refine own_lcmpge_t H (pc' := 29) d5_21 d5_22 (by decide) (by decide) c1 ?_
      refine own_iconst H (0 : Int32) (by decide) d5_29 ?_
      exact own_cast (by simp only [if_neg c1]) (by simp only [if_neg c1]) k2
  exact own_ireturn H (by simp) (by first | rfl | (split <;> rfl) | (split <;> (try split) <;> rfl)) d5_30 (by decide) (by decide) ⟨rfl, rfl⟩
set_option maxHeartbeats 4000000 in
theorem rmX4_0_0f (l : Launch) (Z : State) (a0 : Array Value) (hw : ∀ (i : Nat) (d : Jvm.Cond), tables_1[i]? = some d → d.before a0 Z = true) (h0 : Heap) (n0 : Nat) (a : Addr) (now : Int64) (per : Int64) (hZ0 : n0 ≤ h0.size) (hE : Exa Z h0 a "com/example/trailwire/trailwire/http2/BurstLimit") (hF1 : Fld Z h0 a "com/example/trailwire/trailwire/http2/BurstLimit" "events" "I" (.int (4 : Int32))) (hF2 : Fld Z h0 a "com/example/trailwire/trailwire/http2/BurstLimit" "period" "J" (.long per)) (hF3 : Fld Z h0 a "com/example/trailwire/trailwire/http2/BurstLimit" "times" "[J" .null) (hF4 : Fld Z h0 a "com/example/trailwire/trailwire/http2/BurstLimit" "next" "I" (.int (0 : Int32))) (hF5 : Fld Z h0 a "com/example/trailwire/trailwire/http2/BurstLimit" "full" "Z" (.int (0 : Int32))) (hA_a : n0 ≤ a) :
    own_C l Z (⟨"com/example/trailwire/trailwire/http2/BurstLimit", "exceededBy", "(J)Z"⟩ : MethodName) prog_1_method_2_code 4 (some .boolean) ({ frames := 0, cells := 1, slots := 4, locals := 0 } : Room) #[(.ref a), (.long now)] h0 n0 (fun v h' => ∃ (a2 : Addr) (kA3 : ClassId), v = some (.int (0 : Int32)) ∧ Keep h0 h' [a] ∧ n0 ≤ a2 ∧ h0.size ≤ a2 ∧ a2 < h'.size ∧ Exa Z h' a "com/example/trailwire/trailwire/http2/BurstLimit" ∧ Fld Z h' a "com/example/trailwire/trailwire/http2/BurstLimit" "events" "I" (.int (4 : Int32)) ∧ Fld Z h' a "com/example/trailwire/trailwire/http2/BurstLimit" "period" "J" (.long per) ∧ Fld Z h' a "com/example/trailwire/trailwire/http2/BurstLimit" "times" "[J" (.ref a2) ∧ Fld Z h' a "com/example/trailwire/trailwire/http2/BurstLimit" "next" "I" (.int (1 : Int32)) ∧ Fld Z h' a "com/example/trailwire/trailwire/http2/BurstLimit" "full" "Z" (.int (0 : Int32)) ∧ Arv Z h' a2 kA3 .long (4 : Int32) [(.long now), (.long 0), (.long 0), (.long 0)] (.long 0)) := by
  refine own_met (Ls := #[.val (.ref a), .val (.long now), .second, .unset]) hw own_pl4 (fun m => by first | (simp [entryFrame, mkF, argsToLocals, Value.category]; done) | rfl) ?_
  intro B H
  have hK : Keep h0 h0 [a] := Keep.refl _ _
  refine own_aload_n H rfl rfl d4_0 ?_
  refine own_getfield H (w := 24) rfl hF3 d4_1 ?_
  refine own_ifnonnull_f H d4_4 rfl rfl ?_
  refine own_aload_n H rfl rfl d4_7 ?_
  refine own_aload_n H rfl rfl d4_8 ?_
  refine own_getfield H (w := 15) rfl hF1 d4_9 ?_
  refine own_newarray H (w := 0) (n := (4 : Int32)) rfl (by decide) 4 (by decide) (by decide) d4_12 (by decide) (by decide) ?_
  intro h1 a2 kA3 ha4 E5 V6
  have f7 : a ≠ a2 := Nat.ne_of_lt (by rw [ha4]; exact hE.lt)
  have f8 : n0 ≤ a2 := by rw [ha4]; exact hZ0
  have f9 : h0.size ≤ a2 := by rw [ha4]; exact hK.1
  have f10 : Exa Z h1 a "com/example/trailwire/trailwire/http2/BurstLimit" := hE.ext E5
  have f11 : Fld Z h1 a "com/example/trailwire/trailwire/http2/BurstLimit" "events" "I" (.int (4 : Int32)) := hF1.ext E5
  have f12 : Fld Z h1 a "com/example/trailwire/trailwire/http2/BurstLimit" "period" "J" (.long per) := hF2.ext E5
  have f13 : Fld Z h1 a "com/example/trailwire/trailwire/http2/BurstLimit" "times" "[J" .null := hF3.ext E5
  have f14 : Fld Z h1 a "com/example/trailwire/trailwire/http2/BurstLimit" "next" "I" (.int (0 : Int32)) := hF4.ext E5
  have f15 : Fld Z h1 a "com/example/trailwire/trailwire/http2/BurstLimit" "full" "Z" (.int (0 : Int32)) := hF5.ext E5
  have f16 : n0 ≤ h1.size := Nat.le_trans hZ0 E5.1
  have f17 : Keep h0 h1 [a] := hK.ext E5
  have f18 : Arv Z h1 a2 kA3 .long (4 : Int32) [(.long 0), (.long 0), (.long 0), (.long 0)] (.long 0) := V6.pad (pad_rep [] (.long 0) 4)
  show own_G _ _ _ _ _ _ _ _ 14 #[.val (.ref a), .val (.long now), .second, .unset] [(.ref a2), (.ref a)]
  refine own_putfield H (w := 24) (wi := 7) rfl f13 f10 hA_a (Or.inl (own_w H (i := 25) rfl)) rfl (ty := (.array .long)) (by decide) rfl rfl d4_14 ?_
  intro h19 W20
  have f21 : Exa Z h19 a "com/example/trailwire/trailwire/http2/BurstLimit" := f10.wr W20
  have f22 : Fld Z h19 a "com/example/trailwire/trailwire/http2/BurstLimit" "events" "I" (.int (4 : Int32)) := f11.other W20 (Or.inr (slot_ne (Or.inr (own_w H (i := 16) rfl)) (Or.inl (own_w H (i := 25) rfl)) (by decide) (t := .int) (t' := (.array .long)) (by decide) (by decide)))
  have f23 : Fld Z h19 a "com/example/trailwire/trailwire/http2/BurstLimit" "period" "J" (.long per) := f12.other W20 (Or.inr (slot_ne (Or.inr (own_w H (i := 18) rfl)) (Or.inl (own_w H (i := 25) rfl)) (by decide) (t := .long) (t' := (.array .long)) (by decide) (by decide)))
  have f24 : Fld Z h19 a "com/example/trailwire/trailwire/http2/BurstLimit" "times" "[J" (.ref a2) := f13.same W20
  have f25 : Fld Z h19 a "com/example/trailwire/trailwire/http2/BurstLimit" "next" "I" (.int (0 : Int32)) := f14.other W20 (Or.inr (slot_ne (Or.inl (own_w H (i := 29) rfl)) (Or.inl (own_w H (i := 25) rfl)) (by decide) (t := .int) (t' := (.array .long)) (by decide) (by decide)))
  have f26 : Fld Z h19 a "com/example/trailwire/trailwire/http2/BurstLimit" "full" "Z" (.int (0 : Int32)) := f15.other W20 (Or.inr (slot_ne (Or.inl (own_w H (i := 27) rfl)) (Or.inl (own_w H (i := 25) rfl)) (by decide) (t := .boolean) (t' := (.array .long)) (by decide) (by decide)))
  have f27 : n0 ≤ h19.size := by rw [W20.size]; exact f16
  have f28 : Keep h0 h19 [a] := f17.wr W20 (Or.inl (by simp))
  have f29 : Arv Z h19 a2 kA3 .long (4 : Int32) [(.long 0), (.long 0), (.long 0), (.long 0)] (.long 0) := f18.other W20 f7.symm
  refine own_aload_n H rfl rfl d4_17 ?_
  refine own_getfield H (w := 26) rfl f26 d4_18 ?_
  refine own_ifeq_t H (pc' := 47) d4_21 (by decide) (by decide) (by decide) ?_
  refine own_iconst H (0 : Int32) (by decide) d4_47 ?_
  refine own_istore_n H #[.val (.ref a), .val (.long now), .second, .val (.int (0 : Int32))] rfl d4_48 ?_
  refine own_aload_n H rfl rfl d4_49 ?_
  refine own_getfield H (w := 24) rfl f24 d4_50 ?_
  refine own_aload_n H rfl rfl d4_53 ?_
  refine own_getfield H (w := 28) rfl f25 d4_54 ?_
  refine own_lload_n H rfl d4_57 ?_
  refine own_lastoreV H f29 (by decide) (by decide) 0 (by decide) (Nat.le_of_ble_eq_true rfl) f8 rfl d4_58 ?_
  intro h30 W31 V32
  have f33 : Exa Z h30 a "com/example/trailwire/trailwire/http2/BurstLimit" := f21.wr W31
  have f34 : Fld Z h30 a "com/example/trailwire/trailwire/http2/BurstLimit" "events" "I" (.int (4 : Int32)) := f22.other W31 (Or.inl f7)
  have f35 : Fld Z h30 a "com/example/trailwire/trailwire/http2/BurstLimit" "period" "J" (.long per) := f23.other W31 (Or.inl f7)
  have f36 : Fld Z h30 a "com/example/trailwire/trailwire/http2/BurstLimit" "times" "[J" (.ref a2) := f24.other W31 (Or.inl f7)
  have f37 : Fld Z h30 a "com/example/trailwire/trailwire/http2/BurstLimit" "next" "I" (.int (0 : Int32)) := f25.other W31 (Or.inl f7)
  have f38 : Fld Z h30 a "com/example/trailwire/trailwire/http2/BurstLimit" "full" "Z" (.int (0 : Int32)) := f26.other W31 (Or.inl f7)
  have f39 : n0 ≤ h30.size := by rw [W31.size]; exact f27
  have f40 : Keep h0 h30 [a] := f28.wr W31 (Or.inr f9)
  have f41 : Arv Z h30 a2 kA3 .long (4 : Int32) [(.long now), (.long 0), (.long 0), (.long 0)] (.long 0) := V32
  refine own_aload_n H rfl rfl d4_59 ?_
  refine own_aload_n H rfl rfl d4_60 ?_
  refine own_getfield H (w := 28) rfl f37 d4_61 ?_
  refine own_iconst H (1 : Int32) (by decide) d4_64 ?_
  refine own_iadd (v := (1 : Int32)) H (by decide) d4_65 ?_
  refine own_aload_n H rfl rfl d4_66 ?_
  refine own_getfield H (w := 15) rfl f34 d4_67 ?_
  refine own_irem (v := (1 : Int32)) H (by decide) d4_70 (by decide) ?_
  refine own_putfield H (w := 28) (wi := 7) rfl f37 f33 hA_a (Or.inl (own_w H (i := 29) rfl)) rfl (ty := .int) (by decide) rfl rfl d4_71 ?_
  intro h42 W43
  have f44 : Exa Z h42 a "com/example/trailwire/trailwire/http2/BurstLimit" := f33.wr W43
  have f45 : Fld Z h42 a "com/example/trailwire/trailwire/http2/BurstLimit" "events" "I" (.int (4 : Int32)) := f34.other W43 (Or.inr (slot_ne (Or.inr (own_w H (i := 16) rfl)) (Or.inl (own_w H (i := 29) rfl)) (by decide) (t := .int) (t' := .int) (by decide) (by decide)))
  have f46 : Fld Z h42 a "com/example/trailwire/trailwire/http2/BurstLimit" "period" "J" (.long per) := f35.other W43 (Or.inr (slot_ne (Or.inr (own_w H (i := 18) rfl)) (Or.inl (own_w H (i := 29) rfl)) (by decide) (t := .long) (t' := .int) (by decide) (by decide)))
  have f47 : Fld Z h42 a "com/example/trailwire/trailwire/http2/BurstLimit" "times" "[J" (.ref a2) := f36.other W43 (Or.inr (slot_ne (Or.inl (own_w H (i := 25) rfl)) (Or.inl (own_w H (i := 29) rfl)) (by decide) (t := (.array .long)) (t' := .int) (by decide) (by decide)))
  have f48 : Fld Z h42 a "com/example/trailwire/trailwire/http2/BurstLimit" "next" "I" (.int (1 : Int32)) := f37.same W43
  have f49 : Fld Z h42 a "com/example/trailwire/trailwire/http2/BurstLimit" "full" "Z" (.int (0 : Int32)) := f38.other W43 (Or.inr (slot_ne (Or.inl (own_w H (i := 27) rfl)) (Or.inl (own_w H (i := 29) rfl)) (by decide) (t := .boolean) (t' := .int) (by decide) (by decide)))
  have f50 : n0 ≤ h42.size := by rw [W43.size]; exact f39
  have f51 : Keep h0 h42 [a] := f40.wr W43 (Or.inl (by simp))
  have f52 : Arv Z h42 a2 kA3 .long (4 : Int32) [(.long now), (.long 0), (.long 0), (.long 0)] (.long 0) := f41.other W43 f7.symm
  refine own_aload_n H rfl rfl d4_74 ?_
  refine own_aload_n H rfl rfl d4_75 ?_
  refine own_getfield H (w := 26) rfl f49 d4_76 ?_
  refine own_ifne_f H d4_79 (by decide) ?_
  refine own_aload_n H rfl rfl d4_82 ?_
  refine own_getfield H (w := 28) rfl f48 d4_83 ?_
  refine own_ifne_t H (pc' := 93) d4_86 (by decide) (by decide) (by decide) ?_
  refine own_iconst H (0 : Int32) (by decide) d4_93 ?_
  refine own_putfield H (w := 26) (wi := 7) rfl f49 f44 hA_a (Or.inl (own_w H (i := 27) rfl)) rfl (ty := .boolean) (by decide) rfl rfl d4_94 ?_
  intro h53 W54
  have f55 : Exa Z h53 a "com/example/trailwire/trailwire/http2/BurstLimit" := f44.wr W54
  have f56 : Fld Z h53 a "com/example/trailwire/trailwire/http2/BurstLimit" "events" "I" (.int (4 : Int32)) := f45.other W54 (Or.inr (slot_ne (Or.inr (own_w H (i := 16) rfl)) (Or.inl (own_w H (i := 27) rfl)) (by decide) (t := .int) (t' := .boolean) (by decide) (by decide)))
  have f57 : Fld Z h53 a "com/example/trailwire/trailwire/http2/BurstLimit" "period" "J" (.long per) := f46.other W54 (Or.inr (slot_ne (Or.inr (own_w H (i := 18) rfl)) (Or.inl (own_w H (i := 27) rfl)) (by decide) (t := .long) (t' := .boolean) (by decide) (by decide)))
  have f58 : Fld Z h53 a "com/example/trailwire/trailwire/http2/BurstLimit" "times" "[J" (.ref a2) := f47.other W54 (Or.inr (slot_ne (Or.inl (own_w H (i := 25) rfl)) (Or.inl (own_w H (i := 27) rfl)) (by decide) (t := (.array .long)) (t' := .boolean) (by decide) (by decide)))
  have f59 : Fld Z h53 a "com/example/trailwire/trailwire/http2/BurstLimit" "next" "I" (.int (1 : Int32)) := f48.other W54 (Or.inr (slot_ne (Or.inl (own_w H (i := 29) rfl)) (Or.inl (own_w H (i := 27) rfl)) (by decide) (t := .int) (t' := .boolean) (by decide) (by decide)))
  have f60 : Fld Z h53 a "com/example/trailwire/trailwire/http2/BurstLimit" "full" "Z" (.int (0 : Int32)) := f49.same W54
  have f61 : n0 ≤ h53.size := by rw [W54.size]; exact f50
  have f62 : Keep h0 h53 [a] := f51.wr W54 (Or.inl (by simp))
  have f63 : Arv Z h53 a2 kA3 .long (4 : Int32) [(.long now), (.long 0), (.long 0), (.long 0)] (.long 0) := f52.other W54 f7.symm
  refine own_iload_n H rfl d4_97 ?_
  exact own_ireturn H (by simp) (by decide) d4_98 (by decide) (by decide) ⟨a2, kA3, rfl, f62, f8, f9, f63.lt, f55, f56, f57, f58, f59, f60, f63⟩
set_option maxHeartbeats 4000000 in
theorem rmX4_1_0 (l : Launch) (Z : State) (a0 : Array Value) (hw : ∀ (i : Nat) (d : Jvm.Cond), tables_1[i]? = some d → d.before a0 Z = true) (h0 : Heap) (n0 : Nat) (a : Addr) (now : Int64) (per : Int64) (t : Addr) (kA : ClassId) (t0 : Int64) (t1 : Int64) (t2 : Int64) (t3 : Int64) (hZ0 : n0 ≤ h0.size) (hE : Exa Z h0 a "com/example/trailwire/trailwire/http2/BurstLimit") (hF1 : Fld Z h0 a "com/example/trailwire/trailwire/http2/BurstLimit" "events" "I" (.int (4 : Int32))) (hF2 : Fld Z h0 a "com/example/trailwire/trailwire/http2/BurstLimit" "period" "J" (.long per)) (hF3 : Fld Z h0 a "com/example/trailwire/trailwire/http2/BurstLimit" "times" "[J" (.ref t)) (hF4 : Fld Z h0 a "com/example/trailwire/trailwire/http2/BurstLimit" "next" "I" (.int (1 : Int32))) (hF5 : Fld Z h0 a "com/example/trailwire/trailwire/http2/BurstLimit" "full" "Z" (.int (0 : Int32))) (hV : Arv Z h0 t kA .long (4 : Int32) [(.long t0), (.long t1), (.long t2), (.long t3)] (.long 0)) (hne : a ≠ t) (hA_a : n0 ≤ a) (hA_t : n0 ≤ t) :
    own_C l Z (⟨"com/example/trailwire/trailwire/http2/BurstLimit", "exceededBy", "(J)Z"⟩ : MethodName) prog_1_method_2_code 4 (some .boolean) ({ frames := 0, cells := 0, slots := 0, locals := 0 } : Room) #[(.ref a), (.long now)] h0 n0 (fun v h' => v = some (.int (0 : Int32)) ∧ Keep h0 h' [a, t] ∧ Exa Z h' a "com/example/trailwire/trailwire/http2/BurstLimit" ∧ Fld Z h' a "com/example/trailwire/trailwire/http2/BurstLimit" "events" "I" (.int (4 : Int32)) ∧ Fld Z h' a "com/example/trailwire/trailwire/http2/BurstLimit" "period" "J" (.long per) ∧ Fld Z h' a "com/example/trailwire/trailwire/http2/BurstLimit" "times" "[J" (.ref t) ∧ Fld Z h' a "com/example/trailwire/trailwire/http2/BurstLimit" "next" "I" (.int (2 : Int32)) ∧ Fld Z h' a "com/example/trailwire/trailwire/http2/BurstLimit" "full" "Z" (.int (0 : Int32)) ∧ Arv Z h' t kA .long (4 : Int32) [(.long t0), (.long now), (.long t2), (.long t3)] (.long 0)) := by
  refine own_met (Ls := #[.val (.ref a), .val (.long now), .second, .unset]) hw own_pl4 (fun m => by first | (simp [entryFrame, mkF, argsToLocals, Value.category]; done) | rfl) ?_
  intro B H
  have hK : Keep h0 h0 [a, t] := Keep.refl _ _
  refine own_aload_n H rfl rfl d4_0 ?_
  refine own_getfield H (w := 24) rfl hF3 d4_1 ?_
  refine own_ifnonnull_t H (pc' := 17) d4_4 (by decide) (by decide) rfl (fun h => nomatch h) ?_
  refine own_aload_n H rfl rfl d4_17 ?_
  refine own_getfield H (w := 26) rfl hF5 d4_18 ?_
  refine own_ifeq_t H (pc' := 47) d4_21 (by decide) (by decide) (by decide) ?_
  refine own_iconst H (0 : Int32) (by decide) d4_47 ?_
  refine own_istore_n H #[.val (.ref a), .val (.long now), .second, .val (.int (0 : Int32))] rfl d4_48 ?_
  refine own_aload_n H rfl rfl d4_49 ?_
  refine own_getfield H (w := 24) rfl hF3 d4_50 ?_
  refine own_aload_n H rfl rfl d4_53 ?_
  refine own_getfield H (w := 28) rfl hF4 d4_54 ?_
  refine own_lload_n H rfl d4_57 ?_
  refine own_lastoreV H hV (by decide) (by decide) 1 (by decide) (Nat.le_of_ble_eq_true rfl) hA_t rfl d4_58 ?_
  intro h1 W2 V3
  have f4 : Exa Z h1 a "com/example/trailwire/trailwire/http2/BurstLimit" := hE.wr W2
  have f5 : Fld Z h1 a "com/example/trailwire/trailwire/http2/BurstLimit" "events" "I" (.int (4 : Int32)) := hF1.other W2 (Or.inl hne)
  have f6 : Fld Z h1 a "com/example/trailwire/trailwire/http2/BurstLimit" "period" "J" (.long per) := hF2.other W2 (Or.inl hne)
  have f7 : Fld Z h1 a "com/example/trailwire/trailwire/http2/BurstLimit" "times" "[J" (.ref t) := hF3.other W2 (Or.inl hne)
  have f8 : Fld Z h1 a "com/example/trailwire/trailwire/http2/BurstLimit" "next" "I" (.int (1 : Int32)) := hF4.other W2 (Or.inl hne)
  have f9 : Fld Z h1 a "com/example/trailwire/trailwire/http2/BurstLimit" "full" "Z" (.int (0 : Int32)) := hF5.other W2 (Or.inl hne)
  have f10 : n0 ≤ h1.size := by rw [W2.size]; exact hZ0
  have f11 : Keep h0 h1 [a, t] := hK.wr W2 (Or.inl (by simp))
  have f12 : Arv Z h1 t kA .long (4 : Int32) [(.long t0), (.long now), (.long t2), (.long t3)] (.long 0) := V3
  refine own_aload_n H rfl rfl d4_59 ?_
  refine own_aload_n H rfl rfl d4_60 ?_
  refine own_getfield H (w := 28) rfl f8 d4_61 ?_
  refine own_iconst H (1 : Int32) (by decide) d4_64 ?_
  refine own_iadd (v := (2 : Int32)) H (by decide) d4_65 ?_
  refine own_aload_n H rfl rfl d4_66 ?_
  refine own_getfield H (w := 15) rfl f5 d4_67 ?_
  refine own_irem (v := (2 : Int32)) H (by decide) d4_70 (by decide) ?_
  refine own_putfield H (w := 28) (wi := 7) rfl f8 f4 hA_a (Or.inl (own_w H (i := 29) rfl)) rfl (ty := .int) (by decide) rfl rfl d4_71 ?_
  intro h13 W14
  have f15 : Exa Z h13 a "com/example/trailwire/trailwire/http2/BurstLimit" := f4.wr W14
  have f16 : Fld Z h13 a "com/example/trailwire/trailwire/http2/BurstLimit" "events" "I" (.int (4 : Int32)) := f5.other W14 (Or.inr (slot_ne (Or.inr (own_w H (i := 16) rfl)) (Or.inl (own_w H (i := 29) rfl)) (by decide) (t := .int) (t' := .int) (by decide) (by decide)))
  have f17 : Fld Z h13 a "com/example/trailwire/trailwire/http2/BurstLimit" "period" "J" (.long per) := f6.other W14 (Or.inr (slot_ne (Or.inr (own_w H (i := 18) rfl)) (Or.inl (own_w H (i := 29) rfl)) (by decide) (t := .long) (t' := .int) (by decide) (by decide)))
  have f18 : Fld Z h13 a "com/example/trailwire/trailwire/http2/BurstLimit" "times" "[J" (.ref t) := f7.other W14 (Or.inr (slot_ne (Or.inl (own_w H (i := 25) rfl)) (Or.inl (own_w H (i := 29) rfl)) (by decide) (t := (.array .long)) (t' := .int) (by decide) (by decide)))
  have f19 : Fld Z h13 a "com/example/trailwire/trailwire/http2/BurstLimit" "next" "I" (.int (2 : Int32)) := f8.same W14
  have f20 : Fld Z h13 a "com/example/trailwire/trailwire/http2/BurstLimit" "full" "Z" (.int (0 : Int32)) := f9.other W14 (Or.inr (slot_ne (Or.inl (own_w H (i := 27) rfl)) (Or.inl (own_w H (i := 29) rfl)) (by decide) (t := .boolean) (t' := .int) (by decide) (by decide)))
  have f21 : Arv Z h13 t kA .long (4 : Int32) [(.long t0), (.long now), (.long t2), (.long t3)] (.long 0) := f12.other W14 hne.symm
  have f22 : n0 ≤ h13.size := by rw [W14.size]; exact f10
  have f23 : Keep h0 h13 [a, t] := f11.wr W14 (Or.inl (by simp))
  refine own_aload_n H rfl rfl d4_74 ?_
  refine own_aload_n H rfl rfl d4_75 ?_
  refine own_getfield H (w := 26) rfl f20 d4_76 ?_
  refine own_ifne_f H d4_79 (by decide) ?_
  refine own_aload_n H rfl rfl d4_82 ?_
  refine own_getfield H (w := 28) rfl f19 d4_83 ?_
  refine own_ifne_t H (pc' := 93) d4_86 (by decide) (by decide) (by decide) ?_
  refine own_iconst H (0 : Int32) (by decide) d4_93 ?_
  refine own_putfield H (w := 26) (wi := 7) rfl f20 f15 hA_a (Or.inl (own_w H (i := 27) rfl)) rfl (ty := .boolean) (by decide) rfl rfl d4_94 ?_
  intro h24 W25
  have f26 : Exa Z h24 a "com/example/trailwire/trailwire/http2/BurstLimit" := f15.wr W25
  have f27 : Fld Z h24 a "com/example/trailwire/trailwire/http2/BurstLimit" "events" "I" (.int (4 : Int32)) := f16.other W25 (Or.inr (slot_ne (Or.inr (own_w H (i := 16) rfl)) (Or.inl (own_w H (i := 27) rfl)) (by decide) (t := .int) (t' := .boolean) (by decide) (by decide)))
  have f28 : Fld Z h24 a "com/example/trailwire/trailwire/http2/BurstLimit" "period" "J" (.long per) := f17.other W25 (Or.inr (slot_ne (Or.inr (own_w H (i := 18) rfl)) (Or.inl (own_w H (i := 27) rfl)) (by decide) (t := .long) (t' := .boolean) (by decide) (by decide)))
  have f29 : Fld Z h24 a "com/example/trailwire/trailwire/http2/BurstLimit" "times" "[J" (.ref t) := f18.other W25 (Or.inr (slot_ne (Or.inl (own_w H (i := 25) rfl)) (Or.inl (own_w H (i := 27) rfl)) (by decide) (t := (.array .long)) (t' := .boolean) (by decide) (by decide)))
  have f30 : Fld Z h24 a "com/example/trailwire/trailwire/http2/BurstLimit" "next" "I" (.int (2 : Int32)) := f19.other W25 (Or.inr (slot_ne (Or.inl (own_w H (i := 29) rfl)) (Or.inl (own_w H (i := 27) rfl)) (by decide) (t := .int) (t' := .boolean) (by decide) (by decide)))
  have f31 : Fld Z h24 a "com/example/trailwire/trailwire/http2/BurstLimit" "full" "Z" (.int (0 : Int32)) := f20.same W25
  have f32 : Arv Z h24 t kA .long (4 : Int32) [(.long t0), (.long now), (.long t2), (.long t3)] (.long 0) := f21.other W25 hne.symm
  have f33 : n0 ≤ h24.size := by rw [W25.size]; exact f22
  have f34 : Keep h0 h24 [a, t] := f23.wr W25 (Or.inl (by simp))
  refine own_iload_n H rfl d4_97 ?_
  exact own_ireturn H (by simp) (by decide) d4_98 (by decide) (by decide) ⟨rfl, f34, f26, f27, f28, f29, f30, f31, f32⟩
set_option maxHeartbeats 4000000 in
theorem rmX4_2_0 (l : Launch) (Z : State) (a0 : Array Value) (hw : ∀ (i : Nat) (d : Jvm.Cond), tables_1[i]? = some d → d.before a0 Z = true) (h0 : Heap) (n0 : Nat) (a : Addr) (now : Int64) (per : Int64) (t : Addr) (kA : ClassId) (t0 : Int64) (t1 : Int64) (t2 : Int64) (t3 : Int64) (hZ0 : n0 ≤ h0.size) (hE : Exa Z h0 a "com/example/trailwire/trailwire/http2/BurstLimit") (hF1 : Fld Z h0 a "com/example/trailwire/trailwire/http2/BurstLimit" "events" "I" (.int (4 : Int32))) (hF2 : Fld Z h0 a "com/example/trailwire/trailwire/http2/BurstLimit" "period" "J" (.long per)) (hF3 : Fld Z h0 a "com/example/trailwire/trailwire/http2/BurstLimit" "times" "[J" (.ref t)) (hF4 : Fld Z h0 a "com/example/trailwire/trailwire/http2/BurstLimit" "next" "I" (.int (2 : Int32))) (hF5 : Fld Z h0 a "com/example/trailwire/trailwire/http2/BurstLimit" "full" "Z" (.int (0 : Int32))) (hV : Arv Z h0 t kA .long (4 : Int32) [(.long t0), (.long t1), (.long t2), (.long t3)] (.long 0)) (hne : a ≠ t) (hA_a : n0 ≤ a) (hA_t : n0 ≤ t) :
    own_C l Z (⟨"com/example/trailwire/trailwire/http2/BurstLimit", "exceededBy", "(J)Z"⟩ : MethodName) prog_1_method_2_code 4 (some .boolean) ({ frames := 0, cells := 0, slots := 0, locals := 0 } : Room) #[(.ref a), (.long now)] h0 n0 (fun v h' => v = some (.int (0 : Int32)) ∧ Keep h0 h' [a, t] ∧ Exa Z h' a "com/example/trailwire/trailwire/http2/BurstLimit" ∧ Fld Z h' a "com/example/trailwire/trailwire/http2/BurstLimit" "events" "I" (.int (4 : Int32)) ∧ Fld Z h' a "com/example/trailwire/trailwire/http2/BurstLimit" "period" "J" (.long per) ∧ Fld Z h' a "com/example/trailwire/trailwire/http2/BurstLimit" "times" "[J" (.ref t) ∧ Fld Z h' a "com/example/trailwire/trailwire/http2/BurstLimit" "next" "I" (.int (3 : Int32)) ∧ Fld Z h' a "com/example/trailwire/trailwire/http2/BurstLimit" "full" "Z" (.int (0 : Int32)) ∧ Arv Z h' t kA .long (4 : Int32) [(.long t0), (.long t1), (.long now), (.long t3)] (.long 0)) := by
  refine own_met (Ls := #[.val (.ref a), .val (.long now), .second, .unset]) hw own_pl4 (fun m => by first | (simp [entryFrame, mkF, argsToLocals, Value.category]; done) | rfl) ?_
  intro B H
  have hK : Keep h0 h0 [a, t] := Keep.refl _ _
  refine own_aload_n H rfl rfl d4_0 ?_
  refine own_getfield H (w := 24) rfl hF3 d4_1 ?_
  refine own_ifnonnull_t H (pc' := 17) d4_4 (by decide) (by decide) rfl (fun h => nomatch h) ?_
  refine own_aload_n H rfl rfl d4_17 ?_
  refine own_getfield H (w := 26) rfl hF5 d4_18 ?_
  refine own_ifeq_t H (pc' := 47) d4_21 (by decide) (by decide) (by decide) ?_
  refine own_iconst H (0 : Int32) (by decide) d4_47 ?_
  refine own_istore_n H #[.val (.ref a), .val (.long now), .second, .val (.int (0 : Int32))] rfl d4_48 ?_
  refine own_aload_n H rfl rfl d4_49 ?_
  refine own_getfield H (w := 24) rfl hF3 d4_50 ?_
  refine own_aload_n H rfl rfl d4_53 ?_
  refine own_getfield H (w := 28) rfl hF4 d4_54 ?_
  refine own_lload_n H rfl d4_57 ?_
  refine own_lastoreV H hV (by decide) (by decide) 2 (by decide) (Nat.le_of_ble_eq_true rfl) hA_t rfl d4_58 ?_
  intro h1 W2 V3
  have f4 : Exa Z h1 a "com/example/trailwire/trailwire/http2/BurstLimit" := hE.wr W2
  have f5 : Fld Z h1 a "com/example/trailwire/trailwire/http2/BurstLimit" "events" "I" (.int (4 : Int32)) := hF1.other W2 (Or.inl hne)
  have f6 : Fld Z h1 a "com/example/trailwire/trailwire/http2/BurstLimit" "period" "J" (.long per) := hF2.other W2 (Or.inl hne)
  have f7 : Fld Z h1 a "com/example/trailwire/trailwire/http2/BurstLimit" "times" "[J" (.ref t) := hF3.other W2 (Or.inl hne)
  have f8 : Fld Z h1 a "com/example/trailwire/trailwire/http2/BurstLimit" "next" "I" (.int (2 : Int32)) := hF4.other W2 (Or.inl hne)
  have f9 : Fld Z h1 a "com/example/trailwire/trailwire/http2/BurstLimit" "full" "Z" (.int (0 : Int32)) := hF5.other W2 (Or.inl hne)
  have f10 : n0 ≤ h1.size := by rw [W2.size]; exact hZ0
  have f11 : Keep h0 h1 [a, t] := hK.wr W2 (Or.inl (by simp))
  have f12 : Arv Z h1 t kA .long (4 : Int32) [(.long t0), (.long t1), (.long now), (.long t3)] (.long 0) := V3
  refine own_aload_n H rfl rfl d4_59 ?_
  refine own_aload_n H rfl rfl d4_60 ?_
  refine own_getfield H (w := 28) rfl f8 d4_61 ?_
  refine own_iconst H (1 : Int32) (by decide) d4_64 ?_
  refine own_iadd (v := (3 : Int32)) H (by decide) d4_65 ?_
  refine own_aload_n H rfl rfl d4_66 ?_
  refine own_getfield H (w := 15) rfl f5 d4_67 ?_
  refine own_irem (v := (3 : Int32)) H (by decide) d4_70 (by decide) ?_
  refine own_putfield H (w := 28) (wi := 7) rfl f8 f4 hA_a (Or.inl (own_w H (i := 29) rfl)) rfl (ty := .int) (by decide) rfl rfl d4_71 ?_
  intro h13 W14
  have f15 : Exa Z h13 a "com/example/trailwire/trailwire/http2/BurstLimit" := f4.wr W14
  have f16 : Fld Z h13 a "com/example/trailwire/trailwire/http2/BurstLimit" "events" "I" (.int (4 : Int32)) := f5.other W14 (Or.inr (slot_ne (Or.inr (own_w H (i := 16) rfl)) (Or.inl (own_w H (i := 29) rfl)) (by decide) (t := .int) (t' := .int) (by decide) (by decide)))
  have f17 : Fld Z h13 a "com/example/trailwire/trailwire/http2/BurstLimit" "period" "J" (.long per) := f6.other W14 (Or.inr (slot_ne (Or.inr (own_w H (i := 18) rfl)) (Or.inl (own_w H (i := 29) rfl)) (by decide) (t := .long) (t' := .int) (by decide) (by decide)))
  have f18 : Fld Z h13 a "com/example/trailwire/trailwire/http2/BurstLimit" "times" "[J" (.ref t) := f7.other W14 (Or.inr (slot_ne (Or.inl (own_w H (i := 25) rfl)) (Or.inl (own_w H (i := 29) rfl)) (by decide) (t := (.array .long)) (t' := .int) (by decide) (by decide)))
  have f19 : Fld Z h13 a "com/example/trailwire/trailwire/http2/BurstLimit" "next" "I" (.int (3 : Int32)) := f8.same W14
  have f20 : Fld Z h13 a "com/example/trailwire/trailwire/http2/BurstLimit" "full" "Z" (.int (0 : Int32)) := f9.other W14 (Or.inr (slot_ne (Or.inl (own_w H (i := 27) rfl)) (Or.inl (own_w H (i := 29) rfl)) (by decide) (t := .boolean) (t' := .int) (by decide) (by decide)))
  have f21 : Arv Z h13 t kA .long (4 : Int32) [(.long t0), (.long t1), (.long now), (.long t3)] (.long 0) := f12.other W14 hne.symm
  have f22 : n0 ≤ h13.size := by rw [W14.size]; exact f10
  have f23 : Keep h0 h13 [a, t] := f11.wr W14 (Or.inl (by simp))
  refine own_aload_n H rfl rfl d4_74 ?_
  refine own_aload_n H rfl rfl d4_75 ?_
  refine own_getfield H (w := 26) rfl f20 d4_76 ?_
  refine own_ifne_f H d4_79 (by decide) ?_
  refine own_aload_n H rfl rfl d4_82 ?_
  refine own_getfield H (w := 28) rfl f19 d4_83 ?_
  refine own_ifne_t H (pc' := 93) d4_86 (by decide) (by decide) (by decide) ?_
  refine own_iconst H (0 : Int32) (by decide) d4_93 ?_
  refine own_putfield H (w := 26) (wi := 7) rfl f20 f15 hA_a (Or.inl (own_w H (i := 27) rfl)) rfl (ty := .boolean) (by decide) rfl rfl d4_94 ?_
  intro h24 W25
  have f26 : Exa Z h24 a "com/example/trailwire/trailwire/http2/BurstLimit" := f15.wr W25
  have f27 : Fld Z h24 a "com/example/trailwire/trailwire/http2/BurstLimit" "events" "I" (.int (4 : Int32)) := f16.other W25 (Or.inr (slot_ne (Or.inr (own_w H (i := 16) rfl)) (Or.inl (own_w H (i := 27) rfl)) (by decide) (t := .int) (t' := .boolean) (by decide) (by decide)))
  have f28 : Fld Z h24 a "com/example/trailwire/trailwire/http2/BurstLimit" "period" "J" (.long per) := f17.other W25 (Or.inr (slot_ne (Or.inr (own_w H (i := 18) rfl)) (Or.inl (own_w H (i := 27) rfl)) (by decide) (t := .long) (t' := .boolean) (by decide) (by decide)))
  have f29 : Fld Z h24 a "com/example/trailwire/trailwire/http2/BurstLimit" "times" "[J" (.ref t) := f18.other W25 (Or.inr (slot_ne (Or.inl (own_w H (i := 25) rfl)) (Or.inl (own_w H (i := 27) rfl)) (by decide) (t := (.array .long)) (t' := .boolean) (by decide) (by decide)))
  have f30 : Fld Z h24 a "com/example/trailwire/trailwire/http2/BurstLimit" "next" "I" (.int (3 : Int32)) := f19.other W25 (Or.inr (slot_ne (Or.inl (own_w H (i := 29) rfl)) (Or.inl (own_w H (i := 27) rfl)) (by decide) (t := .int) (t' := .boolean) (by decide) (by decide)))
  have f31 : Fld Z h24 a "com/example/trailwire/trailwire/http2/BurstLimit" "full" "Z" (.int (0 : Int32)) := f20.same W25
  have f32 : Arv Z h24 t kA .long (4 : Int32) [(.long t0), (.long t1), (.long now), (.long t3)] (.long 0) := f21.other W25 hne.symm
  have f33 : n0 ≤ h24.size := by rw [W25.size]; exact f22
  have f34 : Keep h0 h24 [a, t] := f23.wr W25 (Or.inl (by simp))
  refine own_iload_n H rfl d4_97 ?_
  exact own_ireturn H (by simp) (by decide) d4_98 (by decide) (by decide) ⟨rfl, f34, f26, f27, f28, f29, f30, f31, f32⟩
set_option maxHeartbeats 4000000 in
theorem rmX4_3_0 (l : Launch) (Z : State) (a0 : Array Value) (hw : ∀ (i : Nat) (d : Jvm.Cond), tables_1[i]? = some d → d.before a0 Z = true) (h0 : Heap) (n0 : Nat) (a : Addr) (now : Int64) (per : Int64) (t : Addr) (kA : ClassId) (t0 : Int64) (t1 : Int64) (t2 : Int64) (t3 : Int64) (hZ0 : n0 ≤ h0.size) (hE : Exa Z h0 a "com/example/trailwire/trailwire/http2/BurstLimit") (hF1 : Fld Z h0 a "com/example/trailwire/trailwire/http2/BurstLimit" "events" "I" (.int (4 : Int32))) (hF2 : Fld Z h0 a "com/example/trailwire/trailwire/http2/BurstLimit" "period" "J" (.long per)) (hF3 : Fld Z h0 a "com/example/trailwire/trailwire/http2/BurstLimit" "times" "[J" (.ref t)) (hF4 : Fld Z h0 a "com/example/trailwire/trailwire/http2/BurstLimit" "next" "I" (.int (3 : Int32))) (hF5 : Fld Z h0 a "com/example/trailwire/trailwire/http2/BurstLimit" "full" "Z" (.int (0 : Int32))) (hV : Arv Z h0 t kA .long (4 : Int32) [(.long t0), (.long t1), (.long t2), (.long t3)] (.long 0)) (hne : a ≠ t) (hA_a : n0 ≤ a) (hA_t : n0 ≤ t) :
    own_C l Z (⟨"com/example/trailwire/trailwire/http2/BurstLimit", "exceededBy", "(J)Z"⟩ : MethodName) prog_1_method_2_code 4 (some .boolean) ({ frames := 0, cells := 0, slots := 0, locals := 0 } : Room) #[(.ref a), (.long now)] h0 n0 (fun v h' => v = some (.int (0 : Int32)) ∧ Keep h0 h' [a, t] ∧ Exa Z h' a "com/example/trailwire/trailwire/http2/BurstLimit" ∧ Fld Z h' a "com/example/trailwire/trailwire/http2/BurstLimit" "events" "I" (.int (4 : Int32)) ∧ Fld Z h' a "com/example/trailwire/trailwire/http2/BurstLimit" "period" "J" (.long per) ∧ Fld Z h' a "com/example/trailwire/trailwire/http2/BurstLimit" "times" "[J" (.ref t) ∧ Fld Z h' a "com/example/trailwire/trailwire/http2/BurstLimit" "next" "I" (.int (0 : Int32)) ∧ Fld Z h' a "com/example/trailwire/trailwire/http2/BurstLimit" "full" "Z" (.int (1 : Int32)) ∧ Arv Z h' t kA .long (4 : Int32) [(.long t0), (.long t1), (.long t2), (.long now)] (.long 0)) := by
  refine own_met (Ls := #[.val (.ref a), .val (.long now), .second, .unset]) hw own_pl4 (fun m => by first | (simp [entryFrame, mkF, argsToLocals, Value.category]; done) | rfl) ?_
  intro B H
  have hK : Keep h0 h0 [a, t] := Keep.refl _ _
  refine own_aload_n H rfl rfl d4_0 ?_
  refine own_getfield H (w := 24) rfl hF3 d4_1 ?_
  refine own_ifnonnull_t H (pc' := 17) d4_4 (by decide) (by decide) rfl (fun h => nomatch h) ?_
  refine own_aload_n H rfl rfl d4_17 ?_
  refine own_getfield H (w := 26) rfl hF5 d4_18 ?_
  refine own_ifeq_t H (pc' := 47) d4_21 (by decide) (by decide) (by decide) ?_
  refine own_iconst H (0 : Int32) (by decide) d4_47 ?_
  refine own_istore_n H #[.val (.ref a), .val (.long now), .second, .val (.int (0 : Int32))] rfl d4_48 ?_
  refine own_aload_n H rfl rfl d4_49 ?_
  refine own_getfield H (w := 24) rfl hF3 d4_50 ?_
  refine own_aload_n H rfl rfl d4_53 ?_
  refine own_getfield H (w := 28) rfl hF4 d4_54 ?_
  refine own_lload_n H rfl d4_57 ?_
  refine own_lastoreV H hV (by decide) (by decide) 3 (by decide) (Nat.le_of_ble_eq_true rfl) hA_t rfl d4_58 ?_
  intro h1 W2 V3
  have f4 : Exa Z h1 a "com/example/trailwire/trailwire/http2/BurstLimit" := hE.wr W2
  have f5 : Fld Z h1 a "com/example/trailwire/trailwire/http2/BurstLimit" "events" "I" (.int (4 : Int32)) := hF1.other W2 (Or.inl hne)
  have f6 : Fld Z h1 a "com/example/trailwire/trailwire/http2/BurstLimit" "period" "J" (.long per) := hF2.other W2 (Or.inl hne)
  have f7 : Fld Z h1 a "com/example/trailwire/trailwire/http2/BurstLimit" "times" "[J" (.ref t) := hF3.other W2 (Or.inl hne)
  have f8 : Fld Z h1 a "com/example/trailwire/trailwire/http2/BurstLimit" "next" "I" (.int (3 : Int32)) := hF4.other W2 (Or.inl hne)
  have f9 : Fld Z h1 a "com/example/trailwire/trailwire/http2/BurstLimit" "full" "Z" (.int (0 : Int32)) := hF5.other W2 (Or.inl hne)
  have f10 : n0 ≤ h1.size := by rw [W2.size]; exact hZ0
  have f11 : Keep h0 h1 [a, t] := hK.wr W2 (Or.inl (by simp))
  have f12 : Arv Z h1 t kA .long (4 : Int32) [(.long t0), (.long t1), (.long t2), (.long now)] (.long 0) := V3
  refine own_aload_n H rfl rfl d4_59 ?_
  refine own_aload_n H rfl rfl d4_60 ?_
  refine own_getfield H (w := 28) rfl f8 d4_61 ?_
  refine own_iconst H (1 : Int32) (by decide) d4_64 ?_
  refine own_iadd (v := (4 : Int32)) H (by decide) d4_65 ?_
  refine own_aload_n H rfl rfl d4_66 ?_
  refine own_getfield H (w := 15) rfl f5 d4_67 ?_
  refine own_irem (v := (0 : Int32)) H (by decide) d4_70 (by decide) ?_
  refine own_putfield H (w := 28) (wi := 7) rfl f8 f4 hA_a (Or.inl (own_w H (i := 29) rfl)) rfl (ty := .int) (by decide) rfl rfl d4_71 ?_
  intro h13 W14
  have f15 : Exa Z h13 a "com/example/trailwire/trailwire/http2/BurstLimit" := f4.wr W14
  have f16 : Fld Z h13 a "com/example/trailwire/trailwire/http2/BurstLimit" "events" "I" (.int (4 : Int32)) := f5.other W14 (Or.inr (slot_ne (Or.inr (own_w H (i := 16) rfl)) (Or.inl (own_w H (i := 29) rfl)) (by decide) (t := .int) (t' := .int) (by decide) (by decide)))
  have f17 : Fld Z h13 a "com/example/trailwire/trailwire/http2/BurstLimit" "period" "J" (.long per) := f6.other W14 (Or.inr (slot_ne (Or.inr (own_w H (i := 18) rfl)) (Or.inl (own_w H (i := 29) rfl)) (by decide) (t := .long) (t' := .int) (by decide) (by decide)))
  have f18 : Fld Z h13 a "com/example/trailwire/trailwire/http2/BurstLimit" "times" "[J" (.ref t) := f7.other W14 (Or.inr (slot_ne (Or.inl (own_w H (i := 25) rfl)) (Or.inl (own_w H (i := 29) rfl)) (by decide) (t := (.array .long)) (t' := .int) (by decide) (by decide)))
  have f19 : Fld Z h13 a "com/example/trailwire/trailwire/http2/BurstLimit" "next" "I" (.int (0 : Int32)) := f8.same W14
  have f20 : Fld Z h13 a "com/example/trailwire/trailwire/http2/BurstLimit" "full" "Z" (.int (0 : Int32)) := f9.other W14 (Or.inr (slot_ne (Or.inl (own_w H (i := 27) rfl)) (Or.inl (own_w H (i := 29) rfl)) (by decide) (t := .boolean) (t' := .int) (by decide) (by decide)))
  have f21 : Arv Z h13 t kA .long (4 : Int32) [(.long t0), (.long t1), (.long t2), (.long now)] (.long 0) := f12.other W14 hne.symm
  have f22 : n0 ≤ h13.size := by rw [W14.size]; exact f10
  have f23 : Keep h0 h13 [a, t] := f11.wr W14 (Or.inl (by simp))
  refine own_aload_n H rfl rfl d4_74 ?_
  refine own_aload_n H rfl rfl d4_75 ?_
  refine own_getfield H (w := 26) rfl f20 d4_76 ?_
  refine own_ifne_f H d4_79 (by decide) ?_
  refine own_aload_n H rfl rfl d4_82 ?_
  refine own_getfield H (w := 28) rfl f19 d4_83 ?_
  refine own_ifne_f H d4_86 (by decide) ?_
  refine own_iconst H (1 : Int32) (by decide) d4_89 ?_
  refine own_goto H (pc' := 94) d4_90 (by decide) (by decide) ?_
  refine own_putfield H (w := 26) (wi := 7) rfl f20 f15 hA_a (Or.inl (own_w H (i := 27) rfl)) rfl (ty := .boolean) (by decide) rfl rfl d4_94 ?_
  intro h24 W25
  have f26 : Exa Z h24 a "com/example/trailwire/trailwire/http2/BurstLimit" := f15.wr W25
  have f27 : Fld Z h24 a "com/example/trailwire/trailwire/http2/BurstLimit" "events" "I" (.int (4 : Int32)) := f16.other W25 (Or.inr (slot_ne (Or.inr (own_w H (i := 16) rfl)) (Or.inl (own_w H (i := 27) rfl)) (by decide) (t := .int) (t' := .boolean) (by decide) (by decide)))
  have f28 : Fld Z h24 a "com/example/trailwire/trailwire/http2/BurstLimit" "period" "J" (.long per) := f17.other W25 (Or.inr (slot_ne (Or.inr (own_w H (i := 18) rfl)) (Or.inl (own_w H (i := 27) rfl)) (by decide) (t := .long) (t' := .boolean) (by decide) (by decide)))
  have f29 : Fld Z h24 a "com/example/trailwire/trailwire/http2/BurstLimit" "times" "[J" (.ref t) := f18.other W25 (Or.inr (slot_ne (Or.inl (own_w H (i := 25) rfl)) (Or.inl (own_w H (i := 27) rfl)) (by decide) (t := (.array .long)) (t' := .boolean) (by decide) (by decide)))
  have f30 : Fld Z h24 a "com/example/trailwire/trailwire/http2/BurstLimit" "next" "I" (.int (0 : Int32)) := f19.other W25 (Or.inr (slot_ne (Or.inl (own_w H (i := 29) rfl)) (Or.inl (own_w H (i := 27) rfl)) (by decide) (t := .int) (t' := .boolean) (by decide) (by decide)))
  have f31 : Fld Z h24 a "com/example/trailwire/trailwire/http2/BurstLimit" "full" "Z" (.int (1 : Int32)) := f20.same W25
  have f32 : Arv Z h24 t kA .long (4 : Int32) [(.long t0), (.long t1), (.long t2), (.long now)] (.long 0) := f21.other W25 hne.symm
  have f33 : n0 ≤ h24.size := by rw [W25.size]; exact f22
  have f34 : Keep h0 h24 [a, t] := f23.wr W25 (Or.inl (by simp))
  refine own_iload_n H rfl d4_97 ?_
  exact own_ireturn H (by simp) (by decide) d4_98 (by decide) (by decide) ⟨rfl, f34, f26, f27, f28, f29, f30, f31, f32⟩
set_option maxHeartbeats 4000000 in
theorem rmX4_0_1 (l : Launch) (Z : State) (a0 : Array Value) (hw : ∀ (i : Nat) (d : Jvm.Cond), tables_1[i]? = some d → d.before a0 Z = true) (h0 : Heap) (n0 : Nat) (a : Addr) (now : Int64) (per : Int64) (t : Addr) (kA : ClassId) (t0 : Int64) (t1 : Int64) (t2 : Int64) (t3 : Int64) (hZ0 : n0 ≤ h0.size) (hE : Exa Z h0 a "com/example/trailwire/trailwire/http2/BurstLimit") (hF1 : Fld Z h0 a "com/example/trailwire/trailwire/http2/BurstLimit" "events" "I" (.int (4 : Int32))) (hF2 : Fld Z h0 a "com/example/trailwire/trailwire/http2/BurstLimit" "period" "J" (.long per)) (hF3 : Fld Z h0 a "com/example/trailwire/trailwire/http2/BurstLimit" "times" "[J" (.ref t)) (hF4 : Fld Z h0 a "com/example/trailwire/trailwire/http2/BurstLimit" "next" "I" (.int (0 : Int32))) (hF5 : Fld Z h0 a "com/example/trailwire/trailwire/http2/BurstLimit" "full" "Z" (.int (1 : Int32))) (hV : Arv Z h0 t kA .long (4 : Int32) [(.long t0), (.long t1), (.long t2), (.long t3)] (.long 0)) (hne : a ≠ t) (hA_a : n0 ≤ a) (hA_t : n0 ≤ t) :
    own_C l Z (⟨"com/example/trailwire/trailwire/http2/BurstLimit", "exceededBy", "(J)Z"⟩ : MethodName) prog_1_method_2_code 4 (some .boolean) ({ frames := 0, cells := 0, slots := 0, locals := 0 } : Room) #[(.ref a), (.long now)] h0 n0 (fun v h' => v = some (.int (if (now - t0) < per then (1 : Int32) else (0 : Int32))) ∧ Keep h0 h' [a, t] ∧ Exa Z h' a "com/example/trailwire/trailwire/http2/BurstLimit" ∧ Fld Z h' a "com/example/trailwire/trailwire/http2/BurstLimit" "events" "I" (.int (4 : Int32)) ∧ Fld Z h' a "com/example/trailwire/trailwire/http2/BurstLimit" "period" "J" (.long per) ∧ Fld Z h' a "com/example/trailwire/trailwire/http2/BurstLimit" "times" "[J" (.ref t) ∧ Fld Z h' a "com/example/trailwire/trailwire/http2/BurstLimit" "next" "I" (.int (1 : Int32)) ∧ Fld Z h' a "com/example/trailwire/trailwire/http2/BurstLimit" "full" "Z" (.int (1 : Int32)) ∧ Arv Z h' t kA .long (4 : Int32) [(.long now), (.long t1), (.long t2), (.long t3)] (.long 0)) := by
  refine own_met (Ls := #[.val (.ref a), .val (.long now), .second, .unset]) hw own_pl4 (fun m => by first | (simp [entryFrame, mkF, argsToLocals, Value.category]; done) | rfl) ?_
  intro B H
  have hK : Keep h0 h0 [a, t] := Keep.refl _ _
  refine own_aload_n H rfl rfl d4_0 ?_
  refine own_getfield H (w := 24) rfl hF3 d4_1 ?_
  refine own_ifnonnull_t H (pc' := 17) d4_4 (by decide) (by decide) rfl (fun h => nomatch h) ?_
  refine own_aload_n H rfl rfl d4_17 ?_
  refine own_getfield H (w := 26) rfl hF5 d4_18 ?_
  refine own_ifeq_f H d4_21 (by decide) ?_
  refine own_lload_n H rfl d4_24 ?_
  refine own_aload_n H rfl rfl d4_25 ?_
  refine own_getfield H (w := 24) rfl hF3 d4_26 ?_
  refine own_aload_n H rfl rfl d4_29 ?_
  refine own_getfield H (w := 28) rfl hF4 d4_30 ?_
  refine own_laloadV H hV (by decide) (by decide) rfl d4_33 ?_
  refine own_lsub H rfl d4_34 ?_
  refine own_aload_n H rfl rfl d4_35 ?_
  refine own_getfield H (w := 17) rfl hF2 d4_36 ?_
  refine own_cut 48 #[.val (.ref a), .val (.long now), .second, .unset] [(.int (if (now - t0) < per then (1 : Int32) else (0 : Int32)))] (fun k2 => ?_) ?_
  ·
    by_cases c1 : (now - t0) < per
    ·
      refine own_lcmpge_f H d4_39 d4_40 c1 ?_
      refine own_iconst H (1 : Int32) (by decide) d4_43 ?_
      refine own_goto H (pc' := 48) d4_44 (by decide) (by decide) ?_
      exact own_cast (by simp only [if_pos c1]) (by simp only [if_pos c1]) k2
    ·
      refine own_lcmpge_t H (pc' := 47) d4_39 d4_40 (by decide) (by decide) c1 ?_
      refine own_iconst H (0 : Int32) (by decide) d4_47 ?_
      exact own_cast (by simp only [if_neg c1]) (by simp only [if_neg c1]) k2
  refine own_istore_n H #[.val (.ref a), .val (.long now), .second, .val (.int (if (now - t0) < per then (1 : Int32) else (0 : Int32)))] rfl d4_48 ?_
  refine own_aload_n H rfl rfl d4_49 ?_
  refine own_getfield H (w := 24) rfl hF3 d4_50 ?_
  refine own_aload_n H rfl rfl d4_53 ?_
  refine own_getfield H (w := 28) rfl hF4 d4_54 ?_
  refine own_lload_n H rfl d4_57 ?_
  refine own_lastoreV H hV (by decide) (by decide) 0 (by decide) (Nat.le_of_ble_eq_true rfl) hA_t rfl d4_58 ?_
  intro h3 W4 V5
  have f6 : Exa Z h3 a "com/example/trailwire/trailwire/http2/BurstLimit" := hE.wr W4
  have f7 : Fld Z h3 a "com/example/trailwire/trailwire/http2/BurstLimit" "events" "I" (.int (4 : Int32)) := hF1.other W4 (Or.inl hne)
  have f8 : Fld Z h3 a "com/example/trailwire/trailwire/http2/BurstLimit" "period" "J" (.long per) := hF2.other W4 (Or.inl hne)
  have f9 : Fld Z h3 a "com/example/trailwire/trailwire/http2/BurstLimit" "times" "[J" (.ref t) := hF3.other W4 (Or.inl hne)
  have f10 : Fld Z h3 a "com/example/trailwire/trailwire/http2/BurstLimit" "next" "I" (.int (0 : Int32)) := hF4.other W4 (Or.inl hne)
  have f11 : Fld Z h3 a "com/example/trailwire/trailwire/http2/BurstLimit" "full" "Z" (.int (1 : Int32)) := hF5.other W4 (Or.inl hne)
  have f12 : n0 ≤ h3.size := by rw [W4.size]; exact hZ0
  have f13 : Keep h0 h3 [a, t] := hK.wr W4 (Or.inl (by simp))
  have f14 : Arv Z h3 t kA .long (4 : Int32) [(.long now), (.long t1), (.long t2), (.long t3)] (.long 0) := V5
  refine own_aload_n H rfl rfl d4_59 ?_
  refine own_aload_n H rfl rfl d4_60 ?_
  refine own_getfield H (w := 28) rfl f10 d4_61 ?_
  refine own_iconst H (1 : Int32) (by decide) d4_64 ?_
  refine own_iadd (v := (1 : Int32)) H (by decide) d4_65 ?_
  refine own_aload_n H rfl rfl d4_66 ?_
  refine own_getfield H (w := 15) rfl f7 d4_67 ?_
  refine own_irem (v := (1 : Int32)) H (by decide) d4_70 (by decide) ?_
  refine own_putfield H (w := 28) (wi := 7) rfl f10 f6 hA_a (Or.inl (own_w H (i := 29) rfl)) rfl (ty := .int) (by decide) rfl rfl d4_71 ?_
  intro h15 W16
  have f17 : Exa Z h15 a "com/example/trailwire/trailwire/http2/BurstLimit" := f6.wr W16
  have f18 : Fld Z h15 a "com/example/trailwire/trailwire/http2/BurstLimit" "events" "I" (.int (4 : Int32)) := f7.other W16 (Or.inr (slot_ne (Or.inr (own_w H (i := 16) rfl)) (Or.inl (own_w H (i := 29) rfl)) (by decide) (t := .int) (t' := .int) (by decide) (by decide)))
  have f19 : Fld Z h15 a "com/example/trailwire/trailwire/http2/BurstLimit" "period" "J" (.long per) := f8.other W16 (Or.inr (slot_ne (Or.inr (own_w H (i := 18) rfl)) (Or.inl (own_w H (i := 29) rfl)) (by decide) (t := .long) (t' := .int) (by decide) (by decide)))
  have f20 : Fld Z h15 a "com/example/trailwire/trailwire/http2/BurstLimit" "times" "[J" (.ref t) := f9.other W16 (Or.inr (slot_ne (Or.inl (own_w H (i := 25) rfl)) (Or.inl (own_w H (i := 29) rfl)) (by decide) (t := (.array .long)) (t' := .int) (by decide) (by decide)))
  have f21 : Fld Z h15 a "com/example/trailwire/trailwire/http2/BurstLimit" "next" "I" (.int (1 : Int32)) := f10.same W16
  have f22 : Fld Z h15 a "com/example/trailwire/trailwire/http2/BurstLimit" "full" "Z" (.int (1 : Int32)) := f11.other W16 (Or.inr (slot_ne (Or.inl (own_w H (i := 27) rfl)) (Or.inl (own_w H (i := 29) rfl)) (by decide) (t := .boolean) (t' := .int) (by decide) (by decide)))
  have f23 : Arv Z h15 t kA .long (4 : Int32) [(.long now), (.long t1), (.long t2), (.long t3)] (.long 0) := f14.other W16 hne.symm
  have f24 : n0 ≤ h15.size := by rw [W16.size]; exact f12
  have f25 : Keep h0 h15 [a, t] := f13.wr W16 (Or.inl (by simp))
  refine own_aload_n H rfl rfl d4_74 ?_
  refine own_aload_n H rfl rfl d4_75 ?_
  refine own_getfield H (w := 26) rfl f22 d4_76 ?_
  refine own_ifne_t H (pc' := 89) d4_79 (by decide) (by decide) (by decide) ?_
  refine own_iconst H (1 : Int32) (by decide) d4_89 ?_
  refine own_goto H (pc' := 94) d4_90 (by decide) (by decide) ?_
  refine own_putfield H (w := 26) (wi := 7) rfl f22 f17 hA_a (Or.inl (own_w H (i := 27) rfl)) rfl (ty := .boolean) (by decide) rfl rfl d4_94 ?_
  intro h26 W27
  have f28 : Exa Z h26 a "com/example/trailwire/trailwire/http2/BurstLimit" := f17.wr W27
  have f29 : Fld Z h26 a "com/example/trailwire/trailwire/http2/BurstLimit" "events" "I" (.int (4 : Int32)) := f18.other W27 (Or.inr (slot_ne (Or.inr (own_w H (i := 16) rfl)) (Or.inl (own_w H (i := 27) rfl)) (by decide) (t := .int) (t' := .boolean) (by decide) (by decide)))
  have f30 : Fld Z h26 a "com/example/trailwire/trailwire/http2/BurstLimit" "period" "J" (.long per) := f19.other W27 (Or.inr (slot_ne (Or.inr (own_w H (i := 18) rfl)) (Or.inl (own_w H (i := 27) rfl)) (by decide) (t := .long) (t' := .boolean) (by decide) (by decide)))
  have f31 : Fld Z h26 a "com/example/trailwire/trailwire/http2/BurstLimit" "times" "[J" (.ref t) := f20.other W27 (Or.inr (slot_ne (Or.inl (own_w H (i := 25) rfl)) (Or.inl (own_w H (i := 27) rfl)) (by decide) (t := (.array .long)) (t' := .boolean) (by decide) (by decide)))
  have f32 : Fld Z h26 a "com/example/trailwire/trailwire/http2/BurstLimit" "next" "I" (.int (1 : Int32)) := f21.other W27 (Or.inr (slot_ne (Or.inl (own_w H (i := 29) rfl)) (Or.inl (own_w H (i := 27) rfl)) (by decide) (t := .int) (t' := .boolean) (by decide) (by decide)))
  have f33 : Fld Z h26 a "com/example/trailwire/trailwire/http2/BurstLimit" "full" "Z" (.int (1 : Int32)) := f22.same W27
  have f34 : Arv Z h26 t kA .long (4 : Int32) [(.long now), (.long t1), (.long t2), (.long t3)] (.long 0) := f23.other W27 hne.symm
  have f35 : n0 ≤ h26.size := by rw [W27.size]; exact f24
  have f36 : Keep h0 h26 [a, t] := f25.wr W27 (Or.inl (by simp))
  refine own_iload_n H rfl d4_97 ?_
  exact own_ireturn H (by simp) (by first | rfl | (split <;> rfl) | (split <;> (try split) <;> rfl)) d4_98 (by decide) (by decide) ⟨rfl, f36, f28, f29, f30, f31, f32, f33, f34⟩
set_option maxHeartbeats 4000000 in
theorem rmX4_1_1 (l : Launch) (Z : State) (a0 : Array Value) (hw : ∀ (i : Nat) (d : Jvm.Cond), tables_1[i]? = some d → d.before a0 Z = true) (h0 : Heap) (n0 : Nat) (a : Addr) (now : Int64) (per : Int64) (t : Addr) (kA : ClassId) (t0 : Int64) (t1 : Int64) (t2 : Int64) (t3 : Int64) (hZ0 : n0 ≤ h0.size) (hE : Exa Z h0 a "com/example/trailwire/trailwire/http2/BurstLimit") (hF1 : Fld Z h0 a "com/example/trailwire/trailwire/http2/BurstLimit" "events" "I" (.int (4 : Int32))) (hF2 : Fld Z h0 a "com/example/trailwire/trailwire/http2/BurstLimit" "period" "J" (.long per)) (hF3 : Fld Z h0 a "com/example/trailwire/trailwire/http2/BurstLimit" "times" "[J" (.ref t)) (hF4 : Fld Z h0 a "com/example/trailwire/trailwire/http2/BurstLimit" "next" "I" (.int (1 : Int32))) (hF5 : Fld Z h0 a "com/example/trailwire/trailwire/http2/BurstLimit" "full" "Z" (.int (1 : Int32))) (hV : Arv Z h0 t kA .long (4 : Int32) [(.long t0), (.long t1), (.long t2), (.long t3)] (.long 0)) (hne : a ≠ t) (hA_a : n0 ≤ a) (hA_t : n0 ≤ t) :
    own_C l Z (⟨"com/example/trailwire/trailwire/http2/BurstLimit", "exceededBy", "(J)Z"⟩ : MethodName) prog_1_method_2_code 4 (some .boolean) ({ frames := 0, cells := 0, slots := 0, locals := 0 } : Room) #[(.ref a), (.long now)] h0 n0 (fun v h' => v = some (.int (if (now - t1) < per then (1 : Int32) else (0 : Int32))) ∧ Keep h0 h' [a, t] ∧ Exa Z h' a "com/example/trailwire/trailwire/http2/BurstLimit" ∧ Fld Z h' a "com/example/trailwire/trailwire/http2/BurstLimit" "events" "I" (.int (4 : Int32)) ∧ Fld Z h' a "com/example/trailwire/trailwire/http2/BurstLimit" "period" "J" (.long per) ∧ Fld Z h' a "com/example/trailwire/trailwire/http2/BurstLimit" "times" "[J" (.ref t) ∧ Fld Z h' a "com/example/trailwire/trailwire/http2/BurstLimit" "next" "I" (.int (2 : Int32)) ∧ Fld Z h' a "com/example/trailwire/trailwire/http2/BurstLimit" "full" "Z" (.int (1 : Int32)) ∧ Arv Z h' t kA .long (4 : Int32) [(.long t0), (.long now), (.long t2), (.long t3)] (.long 0)) := by
  refine own_met (Ls := #[.val (.ref a), .val (.long now), .second, .unset]) hw own_pl4 (fun m => by first | (simp [entryFrame, mkF, argsToLocals, Value.category]; done) | rfl) ?_
  intro B H
  have hK : Keep h0 h0 [a, t] := Keep.refl _ _
  refine own_aload_n H rfl rfl d4_0 ?_
  refine own_getfield H (w := 24) rfl hF3 d4_1 ?_
  refine own_ifnonnull_t H (pc' := 17) d4_4 (by decide) (by decide) rfl (fun h => nomatch h) ?_
  refine own_aload_n H rfl rfl d4_17 ?_
  refine own_getfield H (w := 26) rfl hF5 d4_18 ?_
  refine own_ifeq_f H d4_21 (by decide) ?_
  refine own_lload_n H rfl d4_24 ?_
  refine own_aload_n H rfl rfl d4_25 ?_
  refine own_getfield H (w := 24) rfl hF3 d4_26 ?_
  refine own_aload_n H rfl rfl d4_29 ?_
  refine own_getfield H (w := 28) rfl hF4 d4_30 ?_
  refine own_laloadV H hV (by decide) (by decide) rfl d4_33 ?_
  refine own_lsub H rfl d4_34 ?_
  refine own_aload_n H rfl rfl d4_35 ?_
  refine own_getfield H (w := 17) rfl hF2 d4_36 ?_
  refine own_cut 48 #[.val (.ref a), .val (.long now), .second, .unset] [(.int (if (now - t1) < per then (1 : Int32) else (0 : Int32)))] (fun k2 => ?_) ?_
  ·
    by_cases c1 : (now - t1) < per
    ·
      refine own_lcmpge_f H d4_39 d4_40 c1 ?_
      refine own_iconst H (1 : Int32) (by decide) d4_43 ?_
      refine own_goto H (pc' := 48) d4_44 (by decide) (by decide) ?_
      exact own_cast (by simp only [if_pos c1]) (by simp only [if_pos c1]) k2
    ·
      refine own_lcmpge_t H (pc' := 47) d4_39 d4_40 (by decide) (by decide) c1 ?_
      refine own_iconst H (0 : Int32) (by decide) d4_47 ?_
      exact own_cast (by simp only [if_neg c1]) (by simp only [if_neg c1]) k2
  refine own_istore_n H #[.val (.ref a), .val (.long now), .second, .val (.int (if (now - t1) < per then (1 : Int32) else (0 : Int32)))] rfl d4_48 ?_
  refine own_aload_n H rfl rfl d4_49 ?_
  refine own_getfield H (w := 24) rfl hF3 d4_50 ?_
  refine own_aload_n H rfl rfl d4_53 ?_
  refine own_getfield H (w := 28) rfl hF4 d4_54 ?_
  refine own_lload_n H rfl d4_57 ?_
  refine own_lastoreV H hV (by decide) (by decide) 1 (by decide) (Nat.le_of_ble_eq_true rfl) hA_t rfl d4_58 ?_
  intro h3 W4 V5
  have f6 : Exa Z h3 a "com/example/trailwire/trailwire/http2/BurstLimit" := hE.wr W4
  have f7 : Fld Z h3 a "com/example/trailwire/trailwire/http2/BurstLimit" "events" "I" (.int (4 : Int32)) := hF1.other W4 (Or.inl hne)
  have f8 : Fld Z h3 a "com/example/trailwire/trailwire/http2/BurstLimit" "period" "J" (.long per) := hF2.other W4 (Or.inl hne)
  have f9 : Fld Z h3 a "com/example/trailwire/trailwire/http2/BurstLimit" "times" "[J" (.ref t) := hF3.other W4 (Or.inl hne)
  have f10 : Fld Z h3 a "com/example/trailwire/trailwire/http2/BurstLimit" "next" "I" (.int (1 : Int32)) := hF4.other W4 (Or.inl hne)
  have f11 : Fld Z h3 a "com/example/trailwire/trailwire/http2/BurstLimit" "full" "Z" (.int (1 : Int32)) := hF5.other W4 (Or.inl hne)
  have f12 : n0 ≤ h3.size := by rw [W4.size]; exact hZ0
  have f13 : Keep h0 h3 [a, t] := hK.wr W4 (Or.inl (by simp))
  have f14 : Arv Z h3 t kA .long (4 : Int32) [(.long t0), (.long now), (.long t2), (.long t3)] (.long 0) := V5
  refine own_aload_n H rfl rfl d4_59 ?_
  refine own_aload_n H rfl rfl d4_60 ?_
  refine own_getfield H (w := 28) rfl f10 d4_61 ?_
  refine own_iconst H (1 : Int32) (by decide) d4_64 ?_
  refine own_iadd (v := (2 : Int32)) H (by decide) d4_65 ?_
  refine own_aload_n H rfl rfl d4_66 ?_
  refine own_getfield H (w := 15) rfl f7 d4_67 ?_
  refine own_irem (v := (2 : Int32)) H (by decide) d4_70 (by decide) ?_
  refine own_putfield H (w := 28) (wi := 7) rfl f10 f6 hA_a (Or.inl (own_w H (i := 29) rfl)) rfl (ty := .int) (by decide) rfl rfl d4_71 ?_
  intro h15 W16
  have f17 : Exa Z h15 a "com/example/trailwire/trailwire/http2/BurstLimit" := f6.wr W16
  have f18 : Fld Z h15 a "com/example/trailwire/trailwire/http2/BurstLimit" "events" "I" (.int (4 : Int32)) := f7.other W16 (Or.inr (slot_ne (Or.inr (own_w H (i := 16) rfl)) (Or.inl (own_w H (i := 29) rfl)) (by decide) (t := .int) (t' := .int) (by decide) (by decide)))
  have f19 : Fld Z h15 a "com/example/trailwire/trailwire/http2/BurstLimit" "period" "J" (.long per) := f8.other W16 (Or.inr (slot_ne (Or.inr (own_w H (i := 18) rfl)) (Or.inl (own_w H (i := 29) rfl)) (by decide) (t := .long) (t' := .int) (by decide) (by decide)))
  have f20 : Fld Z h15 a "com/example/trailwire/trailwire/http2/BurstLimit" "times" "[J" (.ref t) := f9.other W16 (Or.inr (slot_ne (Or.inl (own_w H (i := 25) rfl)) (Or.inl (own_w H (i := 29) rfl)) (by decide) (t := (.array .long)) (t' := .int) (by decide) (by decide)))
  have f21 : Fld Z h15 a "com/example/trailwire/trailwire/http2/BurstLimit" "next" "I" (.int (2 : Int32)) := f10.same W16
  have f22 : Fld Z h15 a "com/example/trailwire/trailwire/http2/BurstLimit" "full" "Z" (.int (1 : Int32)) := f11.other W16 (Or.inr (slot_ne (Or.inl (own_w H (i := 27) rfl)) (Or.inl (own_w H (i := 29) rfl)) (by decide) (t := .boolean) (t' := .int) (by decide) (by decide)))
  have f23 : Arv Z h15 t kA .long (4 : Int32) [(.long t0), (.long now), (.long t2), (.long t3)] (.long 0) := f14.other W16 hne.symm
  have f24 : n0 ≤ h15.size := by rw [W16.size]; exact f12
  have f25 : Keep h0 h15 [a, t] := f13.wr W16 (Or.inl (by simp))
  refine own_aload_n H rfl rfl d4_74 ?_
  refine own_aload_n H rfl rfl d4_75 ?_
  refine own_getfield H (w := 26) rfl f22 d4_76 ?_
  refine own_ifne_t H (pc' := 89) d4_79 (by decide) (by decide) (by decide) ?_
  refine own_iconst H (1 : Int32) (by decide) d4_89 ?_
  refine own_goto H (pc' := 94) d4_90 (by decide) (by decide) ?_
  refine own_putfield H (w := 26) (wi := 7) rfl f22 f17 hA_a (Or.inl (own_w H (i := 27) rfl)) rfl (ty := .boolean) (by decide) rfl rfl d4_94 ?_
  intro h26 W27
  have f28 : Exa Z h26 a "com/example/trailwire/trailwire/http2/BurstLimit" := f17.wr W27
  have f29 : Fld Z h26 a "com/example/trailwire/trailwire/http2/BurstLimit" "events" "I" (.int (4 : Int32)) := f18.other W27 (Or.inr (slot_ne (Or.inr (own_w H (i := 16) rfl)) (Or.inl (own_w H (i := 27) rfl)) (by decide) (t := .int) (t' := .boolean) (by decide) (by decide)))
  have f30 : Fld Z h26 a "com/example/trailwire/trailwire/http2/BurstLimit" "period" "J" (.long per) := f19.other W27 (Or.inr (slot_ne (Or.inr (own_w H (i := 18) rfl)) (Or.inl (own_w H (i := 27) rfl)) (by decide) (t := .long) (t' := .boolean) (by decide) (by decide)))
  have f31 : Fld Z h26 a "com/example/trailwire/trailwire/http2/BurstLimit" "times" "[J" (.ref t) := f20.other W27 (Or.inr (slot_ne (Or.inl (own_w H (i := 25) rfl)) (Or.inl (own_w H (i := 27) rfl)) (by decide) (t := (.array .long)) (t' := .boolean) (by decide) (by decide)))
  have f32 : Fld Z h26 a "com/example/trailwire/trailwire/http2/BurstLimit" "next" "I" (.int (2 : Int32)) := f21.other W27 (Or.inr (slot_ne (Or.inl (own_w H (i := 29) rfl)) (Or.inl (own_w H (i := 27) rfl)) (by decide) (t := .int) (t' := .boolean) (by decide) (by decide)))
  have f33 : Fld Z h26 a "com/example/trailwire/trailwire/http2/BurstLimit" "full" "Z" (.int (1 : Int32)) := f22.same W27
  have f34 : Arv Z h26 t kA .long (4 : Int32) [(.long t0), (.long now), (.long t2), (.long t3)] (.long 0) := f23.other W27 hne.symm
  have f35 : n0 ≤ h26.size := by rw [W27.size]; exact f24
  have f36 : Keep h0 h26 [a, t] := f25.wr W27 (Or.inl (by simp))
  refine own_iload_n H rfl d4_97 ?_
  exact own_ireturn H (by simp) (by first | rfl | (split <;> rfl) | (split <;> (try split) <;> rfl)) d4_98 (by decide) (by decide) ⟨rfl, f36, f28, f29, f30, f31, f32, f33, f34⟩
set_option maxHeartbeats 4000000 in
theorem rmX4_2_1 (l : Launch) (Z : State) (a0 : Array Value) (hw : ∀ (i : Nat) (d : Jvm.Cond), tables_1[i]? = some d → d.before a0 Z = true) (h0 : Heap) (n0 : Nat) (a : Addr) (now : Int64) (per : Int64) (t : Addr) (kA : ClassId) (t0 : Int64) (t1 : Int64) (t2 : Int64) (t3 : Int64) (hZ0 : n0 ≤ h0.size) (hE : Exa Z h0 a "com/example/trailwire/trailwire/http2/BurstLimit") (hF1 : Fld Z h0 a "com/example/trailwire/trailwire/http2/BurstLimit" "events" "I" (.int (4 : Int32))) (hF2 : Fld Z h0 a "com/example/trailwire/trailwire/http2/BurstLimit" "period" "J" (.long per)) (hF3 : Fld Z h0 a "com/example/trailwire/trailwire/http2/BurstLimit" "times" "[J" (.ref t)) (hF4 : Fld Z h0 a "com/example/trailwire/trailwire/http2/BurstLimit" "next" "I" (.int (2 : Int32))) (hF5 : Fld Z h0 a "com/example/trailwire/trailwire/http2/BurstLimit" "full" "Z" (.int (1 : Int32))) (hV : Arv Z h0 t kA .long (4 : Int32) [(.long t0), (.long t1), (.long t2), (.long t3)] (.long 0)) (hne : a ≠ t) (hA_a : n0 ≤ a) (hA_t : n0 ≤ t) :
    own_C l Z (⟨"com/example/trailwire/trailwire/http2/BurstLimit", "exceededBy", "(J)Z"⟩ : MethodName) prog_1_method_2_code 4 (some .boolean) ({ frames := 0, cells := 0, slots := 0, locals := 0 } : Room) #[(.ref a), (.long now)] h0 n0 (fun v h' => v = some (.int (if (now - t2) < per then (1 : Int32) else (0 : Int32))) ∧ Keep h0 h' [a, t] ∧ Exa Z h' a "com/example/trailwire/trailwire/http2/BurstLimit" ∧ Fld Z h' a "com/example/trailwire/trailwire/http2/BurstLimit" "events" "I" (.int (4 : Int32)) ∧ Fld Z h' a "com/example/trailwire/trailwire/http2/BurstLimit" "period" "J" (.long per) ∧ Fld Z h' a "com/example/trailwire/trailwire/http2/BurstLimit" "times" "[J" (.ref t) ∧ Fld Z h' a "com/example/trailwire/trailwire/http2/BurstLimit" "next" "I" (.int (3 : Int32)) ∧ Fld Z h' a "com/example/trailwire/trailwire/http2/BurstLimit" "full" "Z" (.int (1 : Int32)) ∧ Arv Z h' t kA .long (4 : Int32) [(.long t0), (.long t1), (.long now), (.long t3)] (.long 0)) := by
  refine own_met (Ls := #[.val (.ref a), .val (.long now), .second, .unset]) hw own_pl4 (fun m => by first | (simp [entryFrame, mkF, argsToLocals, Value.category]; done) | rfl) ?_
  intro B H
  have hK : Keep h0 h0 [a, t] := Keep.refl _ _
  refine own_aload_n H rfl rfl d4_0 ?_
  refine own_getfield H (w := 24) rfl hF3 d4_1 ?_
  refine own_ifnonnull_t H (pc' := 17) d4_4 (by decide) (by decide) rfl (fun h => nomatch h) ?_
  refine own_aload_n H rfl rfl d4_17 ?_
  refine own_getfield H (w := 26) rfl hF5 d4_18 ?_
  refine own_ifeq_f H d4_21 (by decide) ?_
  refine own_lload_n H rfl d4_24 ?_
  refine own_aload_n H rfl rfl d4_25 ?_
  refine own_getfield H (w := 24) rfl hF3 d4_26 ?_
  refine own_aload_n H rfl rfl d4_29 ?_
  refine own_getfield H (w := 28) rfl hF4 d4_30 ?_
  refine own_laloadV H hV (by decide) (by decide) rfl d4_33 ?_
  refine own_lsub H rfl d4_34 ?_
  refine own_aload_n H rfl rfl d4_35 ?_
  refine own_getfield H (w := 17) rfl hF2 d4_36 ?_
  refine own_cut 48 #[.val (.ref a), .val (.long now), .second, .unset] [(.int (if (now - t2) < per then (1 : Int32) else (0 : Int32)))] (fun k2 => ?_) ?_
  ·
    by_cases c1 : (now - t2) < per
    ·
      refine own_lcmpge_f H d4_39 d4_40 c1 ?_
      refine own_iconst H (1 : Int32) (by decide) d4_43 ?_
      refine own_goto H (pc' := 48) d4_44 (by decide) (by decide) ?_
      exact own_cast (by simp only [if_pos c1]) (by simp only [if_pos c1]) k2
    ·
      refine own_lcmpge_t H (pc' := 47) d4_39 d4_40 (by decide) (by decide) c1 ?_
      refine own_iconst H (0 : Int32) (by decide) d4_47 ?_
      exact own_cast (by simp only [if_neg c1]) (by simp only [if_neg c1]) k2
  refine own_istore_n H #[.val (.ref a), .val (.long now), .second, .val (.int (if (now - t2) < per then (1 : Int32) else (0 : Int32)))] rfl d4_48 ?_
  refine own_aload_n H rfl rfl d4_49 ?_
  refine own_getfield H (w := 24) rfl hF3 d4_50 ?_
  refine own_aload_n H rfl rfl d4_53 ?_
  refine own_getfield H (w := 28) rfl hF4 d4_54 ?_
  refine own_lload_n H rfl d4_57 ?_
  refine own_lastoreV H hV (by decide) (by decide) 2 (by decide) (Nat.le_of_ble_eq_true rfl) hA_t rfl d4_58 ?_
  intro h3 W4 V5
  have f6 : Exa Z h3 a "com/example/trailwire/trailwire/http2/BurstLimit" := hE.wr W4
  have f7 : Fld Z h3 a "com/example/trailwire/trailwire/http2/BurstLimit" "events" "I" (.int (4 : Int32)) := hF1.other W4 (Or.inl hne)
  have f8 : Fld Z h3 a "com/example/trailwire/trailwire/http2/BurstLimit" "period" "J" (.long per) := hF2.other W4 (Or.inl hne)
  have f9 : Fld Z h3 a "com/example/trailwire/trailwire/http2/BurstLimit" "times" "[J" (.ref t) := hF3.other W4 (Or.inl hne)
  have f10 : Fld Z h3 a "com/example/trailwire/trailwire/http2/BurstLimit" "next" "I" (.int (2 : Int32)) := hF4.other W4 (Or.inl hne)
  have f11 : Fld Z h3 a "com/example/trailwire/trailwire/http2/BurstLimit" "full" "Z" (.int (1 : Int32)) := hF5.other W4 (Or.inl hne)
  have f12 : n0 ≤ h3.size := by rw [W4.size]; exact hZ0
  have f13 : Keep h0 h3 [a, t] := hK.wr W4 (Or.inl (by simp))
  have f14 : Arv Z h3 t kA .long (4 : Int32) [(.long t0), (.long t1), (.long now), (.long t3)] (.long 0) := V5
  refine own_aload_n H rfl rfl d4_59 ?_
  refine own_aload_n H rfl rfl d4_60 ?_
  refine own_getfield H (w := 28) rfl f10 d4_61 ?_
  refine own_iconst H (1 : Int32) (by decide) d4_64 ?_
  refine own_iadd (v := (3 : Int32)) H (by decide) d4_65 ?_
  refine own_aload_n H rfl rfl d4_66 ?_
  refine own_getfield H (w := 15) rfl f7 d4_67 ?_
  refine own_irem (v := (3 : Int32)) H (by decide) d4_70 (by decide) ?_
  refine own_putfield H (w := 28) (wi := 7) rfl f10 f6 hA_a (Or.inl (own_w H (i := 29) rfl)) rfl (ty := .int) (by decide) rfl rfl d4_71 ?_
  intro h15 W16
  have f17 : Exa Z h15 a "com/example/trailwire/trailwire/http2/BurstLimit" := f6.wr W16
  have f18 : Fld Z h15 a "com/example/trailwire/trailwire/http2/BurstLimit" "events" "I" (.int (4 : Int32)) := f7.other W16 (Or.inr (slot_ne (Or.inr (own_w H (i := 16) rfl)) (Or.inl (own_w H (i := 29) rfl)) (by decide) (t := .int) (t' := .int) (by decide) (by decide)))
  have f19 : Fld Z h15 a "com/example/trailwire/trailwire/http2/BurstLimit" "period" "J" (.long per) := f8.other W16 (Or.inr (slot_ne (Or.inr (own_w H (i := 18) rfl)) (Or.inl (own_w H (i := 29) rfl)) (by decide) (t := .long) (t' := .int) (by decide) (by decide)))
  have f20 : Fld Z h15 a "com/example/trailwire/trailwire/http2/BurstLimit" "times" "[J" (.ref t) := f9.other W16 (Or.inr (slot_ne (Or.inl (own_w H (i := 25) rfl)) (Or.inl (own_w H (i := 29) rfl)) (by decide) (t := (.array .long)) (t' := .int) (by decide) (by decide)))
  have f21 : Fld Z h15 a "com/example/trailwire/trailwire/http2/BurstLimit" "next" "I" (.int (3 : Int32)) := f10.same W16
  have f22 : Fld Z h15 a "com/example/trailwire/trailwire/http2/BurstLimit" "full" "Z" (.int (1 : Int32)) := f11.other W16 (Or.inr (slot_ne (Or.inl (own_w H (i := 27) rfl)) (Or.inl (own_w H (i := 29) rfl)) (by decide) (t := .boolean) (t' := .int) (by decide) (by decide)))
  have f23 : Arv Z h15 t kA .long (4 : Int32) [(.long t0), (.long t1), (.long now), (.long t3)] (.long 0) := f14.other W16 hne.symm
  have f24 : n0 ≤ h15.size := by rw [W16.size]; exact f12
  have f25 : Keep h0 h15 [a, t] := f13.wr W16 (Or.inl (by simp))
  refine own_aload_n H rfl rfl d4_74 ?_
  refine own_aload_n H rfl rfl d4_75 ?_
  refine own_getfield H (w := 26) rfl f22 d4_76 ?_
  refine own_ifne_t H (pc' := 89) d4_79 (by decide) (by decide) (by decide) ?_
  refine own_iconst H (1 : Int32) (by decide) d4_89 ?_
  refine own_goto H (pc' := 94) d4_90 (by decide) (by decide) ?_
  refine own_putfield H (w := 26) (wi := 7) rfl f22 f17 hA_a (Or.inl (own_w H (i := 27) rfl)) rfl (ty := .boolean) (by decide) rfl rfl d4_94 ?_
  intro h26 W27
  have f28 : Exa Z h26 a "com/example/trailwire/trailwire/http2/BurstLimit" := f17.wr W27
  have f29 : Fld Z h26 a "com/example/trailwire/trailwire/http2/BurstLimit" "events" "I" (.int (4 : Int32)) := f18.other W27 (Or.inr (slot_ne (Or.inr (own_w H (i := 16) rfl)) (Or.inl (own_w H (i := 27) rfl)) (by decide) (t := .int) (t' := .boolean) (by decide) (by decide)))
  have f30 : Fld Z h26 a "com/example/trailwire/trailwire/http2/BurstLimit" "period" "J" (.long per) := f19.other W27 (Or.inr (slot_ne (Or.inr (own_w H (i := 18) rfl)) (Or.inl (own_w H (i := 27) rfl)) (by decide) (t := .long) (t' := .boolean) (by decide) (by decide)))
  have f31 : Fld Z h26 a "com/example/trailwire/trailwire/http2/BurstLimit" "times" "[J" (.ref t) := f20.other W27 (Or.inr (slot_ne (Or.inl (own_w H (i := 25) rfl)) (Or.inl (own_w H (i := 27) rfl)) (by decide) (t := (.array .long)) (t' := .boolean) (by decide) (by decide)))
  have f32 : Fld Z h26 a "com/example/trailwire/trailwire/http2/BurstLimit" "next" "I" (.int (3 : Int32)) := f21.other W27 (Or.inr (slot_ne (Or.inl (own_w H (i := 29) rfl)) (Or.inl (own_w H (i := 27) rfl)) (by decide) (t := .int) (t' := .boolean) (by decide) (by decide)))
  have f33 : Fld Z h26 a "com/example/trailwire/trailwire/http2/BurstLimit" "full" "Z" (.int (1 : Int32)) := f22.same W27
  have f34 : Arv Z h26 t kA .long (4 : Int32) [(.long t0), (.long t1), (.long now), (.long t3)] (.long 0) := f23.other W27 hne.symm
  have f35 : n0 ≤ h26.size := by rw [W27.size]; exact f24
  have f36 : Keep h0 h26 [a, t] := f25.wr W27 (Or.inl (by simp))
  refine own_iload_n H rfl d4_97 ?_
  exact own_ireturn H (by simp) (by first | rfl | (split <;> rfl) | (split <;> (try split) <;> rfl)) d4_98 (by decide) (by decide) ⟨rfl, f36, f28, f29, f30, f31, f32, f33, f34⟩
set_option maxHeartbeats 4000000 in
theorem rmX4_3_1 (l : Launch) (Z : State) (a0 : Array Value) (hw : ∀ (i : Nat) (d : Jvm.Cond), tables_1[i]? = some d → d.before a0 Z = true) (h0 : Heap) (n0 : Nat) (a : Addr) (now : Int64) (per : Int64) (t : Addr) (kA : ClassId) (t0 : Int64) (t1 : Int64) (t2 : Int64) (t3 : Int64) (hZ0 : n0 ≤ h0.size) (hE : Exa Z h0 a "com/example/trailwire/trailwire/http2/BurstLimit") (hF1 : Fld Z h0 a "com/example/trailwire/trailwire/http2/BurstLimit" "events" "I" (.int (4 : Int32))) (hF2 : Fld Z h0 a "com/example/trailwire/trailwire/http2/BurstLimit" "period" "J" (.long per)) (hF3 : Fld Z h0 a "com/example/trailwire/trailwire/http2/BurstLimit" "times" "[J" (.ref t)) (hF4 : Fld Z h0 a "com/example/trailwire/trailwire/http2/BurstLimit" "next" "I" (.int (3 : Int32))) (hF5 : Fld Z h0 a "com/example/trailwire/trailwire/http2/BurstLimit" "full" "Z" (.int (1 : Int32))) (hV : Arv Z h0 t kA .long (4 : Int32) [(.long t0), (.long t1), (.long t2), (.long t3)] (.long 0)) (hne : a ≠ t) (hA_a : n0 ≤ a) (hA_t : n0 ≤ t) :
    own_C l Z (⟨"com/example/trailwire/trailwire/http2/BurstLimit", "exceededBy", "(J)Z"⟩ : MethodName) prog_1_method_2_code 4 (some .boolean) ({ frames := 0, cells := 0, slots := 0, locals := 0 } : Room) #[(.ref a), (.long now)] h0 n0 (fun v h' => v = some (.int (if (now - t3) < per then (1 : Int32) else (0 : Int32))) ∧ Keep h0 h' [a, t] ∧ Exa Z h' a "com/example/trailwire/trailwire/http2/BurstLimit" ∧ Fld Z h' a "com/example/trailwire/trailwire/http2/BurstLimit" "events" "I" (.int (4 : Int32)) ∧ Fld Z h' a "com/example/trailwire/trailwire/http2/BurstLimit" "period" "J" (.long per) ∧ Fld Z h' a "com/example/trailwire/trailwire/http2/BurstLimit" "times" "[J" (.ref t) ∧ Fld Z h' a "com/example/trailwire/trailwire/http2/BurstLimit" "next" "I" (.int (0 : Int32)) ∧ Fld Z h' a "com/example/trailwire/trailwire/http2/BurstLimit" "full" "Z" (.int (1 : Int32)) ∧ Arv Z h' t kA .long (4 : Int32) [(.long t0), (.long t1), (.long t2), (.long now)] (.long 0)) := by
  refine own_met (Ls := #[.val (.ref a), .val (.long now), .second, .unset]) hw own_pl4 (fun m => by first | (simp [entryFrame, mkF, argsToLocals, Value.category]; done) | rfl) ?_
  intro B H
  have hK : Keep h0 h0 [a, t] := Keep.refl _ _
  refine own_aload_n H rfl rfl d4_0 ?_
  refine own_getfield H (w := 24) rfl hF3 d4_1 ?_
  refine own_ifnonnull_t H (pc' := 17) d4_4 (by decide) (by decide) rfl (fun h => nomatch h) ?_
  refine own_aload_n H rfl rfl d4_17 ?_
  refine own_getfield H (w := 26) rfl hF5 d4_18 ?_
  refine own_ifeq_f H d4_21 (by decide) ?_
  refine own_lload_n H rfl d4_24 ?_
  refine own_aload_n H rfl rfl d4_25 ?_
  refine own_getfield H (w := 24) rfl hF3 d4_26 ?_
  refine own_aload_n H rfl rfl d4_29 ?_
  refine own_getfield H (w := 28) rfl hF4 d4_30 ?_
  refine own_laloadV H hV (by decide) (by decide) rfl d4_33 ?_
  refine own_lsub H rfl d4_34 ?_
  refine own_aload_n H rfl rfl d4_35 ?_
  refine own_getfield H (w := 17) rfl hF2 d4_36 ?_
  refine own_cut 48 #[.val (.ref a), .val (.long now), .second, .unset] [(.int (if (now - t3) < per then (1 : Int32) else (0 : Int32)))] (fun k2 => ?_) ?_
  ·
    by_cases c1 : (now - t3) < per
    ·
      refine own_lcmpge_f H d4_39 d4_40 c1 ?_
      refine own_iconst H (1 : Int32) (by decide) d4_43 ?_
      refine own_goto H (pc' := 48) d4_44 (by decide) (by decide) ?_
      exact own_cast (by simp only [if_pos c1]) (by simp only [if_pos c1]) k2
    ·
      refine own_lcmpge_t H (pc' := 47) d4_39 d4_40 (by decide) (by decide) c1 ?_
      refine own_iconst H (0 : Int32) (by decide) d4_47 ?_
      exact own_cast (by simp only [if_neg c1]) (by simp only [if_neg c1]) k2
  refine own_istore_n H #[.val (.ref a), .val (.long now), .second, .val (.int (if (now - t3) < per then (1 : Int32) else (0 : Int32)))] rfl d4_48 ?_
  refine own_aload_n H rfl rfl d4_49 ?_
  refine own_getfield H (w := 24) rfl hF3 d4_50 ?_
  refine own_aload_n H rfl rfl d4_53 ?_
  refine own_getfield H (w := 28) rfl hF4 d4_54 ?_
  refine own_lload_n H rfl d4_57 ?_
  refine own_lastoreV H hV (by decide) (by decide) 3 (by decide) (Nat.le_of_ble_eq_true rfl) hA_t rfl d4_58 ?_
  intro h3 W4 V5
  have f6 : Exa Z h3 a "com/example/trailwire/trailwire/http2/BurstLimit" := hE.wr W4
  have f7 : Fld Z h3 a "com/example/trailwire/trailwire/http2/BurstLimit" "events" "I" (.int (4 : Int32)) := hF1.other W4 (Or.inl hne)
  have f8 : Fld Z h3 a "com/example/trailwire/trailwire/http2/BurstLimit" "period" "J" (.long per) := hF2.other W4 (Or.inl hne)
  have f9 : Fld Z h3 a "com/example/trailwire/trailwire/http2/BurstLimit" "times" "[J" (.ref t) := hF3.other W4 (Or.inl hne)
  have f10 : Fld Z h3 a "com/example/trailwire/trailwire/http2/BurstLimit" "next" "I" (.int (3 : Int32)) := hF4.other W4 (Or.inl hne)
  have f11 : Fld Z h3 a "com/example/trailwire/trailwire/http2/BurstLimit" "full" "Z" (.int (1 : Int32)) := hF5.other W4 (Or.inl hne)
  have f12 : n0 ≤ h3.size := by rw [W4.size]; exact hZ0
  have f13 : Keep h0 h3 [a, t] := hK.wr W4 (Or.inl (by simp))
  have f14 : Arv Z h3 t kA .long (4 : Int32) [(.long t0), (.long t1), (.long t2), (.long now)] (.long 0) := V5
  refine own_aload_n H rfl rfl d4_59 ?_
  refine own_aload_n H rfl rfl d4_60 ?_
  refine own_getfield H (w := 28) rfl f10 d4_61 ?_
  refine own_iconst H (1 : Int32) (by decide) d4_64 ?_
  refine own_iadd (v := (4 : Int32)) H (by decide) d4_65 ?_
  refine own_aload_n H rfl rfl d4_66 ?_
  refine own_getfield H (w := 15) rfl f7 d4_67 ?_
  refine own_irem (v := (0 : Int32)) H (by decide) d4_70 (by decide) ?_
  refine own_putfield H (w := 28) (wi := 7) rfl f10 f6 hA_a (Or.inl (own_w H (i := 29) rfl)) rfl (ty := .int) (by decide) rfl rfl d4_71 ?_
  intro h15 W16
  have f17 : Exa Z h15 a "com/example/trailwire/trailwire/http2/BurstLimit" := f6.wr W16
  have f18 : Fld Z h15 a "com/example/trailwire/trailwire/http2/BurstLimit" "events" "I" (.int (4 : Int32)) := f7.other W16 (Or.inr (slot_ne (Or.inr (own_w H (i := 16) rfl)) (Or.inl (own_w H (i := 29) rfl)) (by decide) (t := .int) (t' := .int) (by decide) (by decide)))
  have f19 : Fld Z h15 a "com/example/trailwire/trailwire/http2/BurstLimit" "period" "J" (.long per) := f8.other W16 (Or.inr (slot_ne (Or.inr (own_w H (i := 18) rfl)) (Or.inl (own_w H (i := 29) rfl)) (by decide) (t := .long) (t' := .int) (by decide) (by decide)))
  have f20 : Fld Z h15 a "com/example/trailwire/trailwire/http2/BurstLimit" "times" "[J" (.ref t) := f9.other W16 (Or.inr (slot_ne (Or.inl (own_w H (i := 25) rfl)) (Or.inl (own_w H (i := 29) rfl)) (by decide) (t := (.array .long)) (t' := .int) (by decide) (by decide)))
  have f21 : Fld Z h15 a "com/example/trailwire/trailwire/http2/BurstLimit" "next" "I" (.int (0 : Int32)) := f10.same W16
  have f22 : Fld Z h15 a "com/example/trailwire/trailwire/http2/BurstLimit" "full" "Z" (.int (1 : Int32)) := f11.other W16 (Or.inr (slot_ne (Or.inl (own_w H (i := 27) rfl)) (Or.inl (own_w H (i := 29) rfl)) (by decide) (t := .boolean) (t' := .int) (by decide) (by decide)))
  have f23 : Arv Z h15 t kA .long (4 : Int32) [(.long t0), (.long t1), (.long t2), (.long now)] (.long 0) := f14.other W16 hne.symm
  have f24 : n0 ≤ h15.size := by rw [W16.size]; exact f12
  have f25 : Keep h0 h15 [a, t] := f13.wr W16 (Or.inl (by simp))
  refine own_aload_n H rfl rfl d4_74 ?_
  refine own_aload_n H rfl rfl d4_75 ?_
  refine own_getfield H (w := 26) rfl f22 d4_76 ?_
  refine own_ifne_t H (pc' := 89) d4_79 (by decide) (by decide) (by decide) ?_
  refine own_iconst H (1 : Int32) (by decide) d4_89 ?_
  refine own_goto H (pc' := 94) d4_90 (by decide) (by decide) ?_
  refine own_putfield H (w := 26) (wi := 7) rfl f22 f17 hA_a (Or.inl (own_w H (i := 27) rfl)) rfl (ty := .boolean) (by decide) rfl rfl d4_94 ?_
  intro h26 W27
  have f28 : Exa Z h26 a "com/example/trailwire/trailwire/http2/BurstLimit" := f17.wr W27
  have f29 : Fld Z h26 a "com/example/trailwire/trailwire/http2/BurstLimit" "events" "I" (.int (4 : Int32)) := f18.other W27 (Or.inr (slot_ne (Or.inr (own_w H (i := 16) rfl)) (Or.inl (own_w H (i := 27) rfl)) (by decide) (t := .int) (t' := .boolean) (by decide) (by decide)))
  have f30 : Fld Z h26 a "com/example/trailwire/trailwire/http2/BurstLimit" "period" "J" (.long per) := f19.other W27 (Or.inr (slot_ne (Or.inr (own_w H (i := 18) rfl)) (Or.inl (own_w H (i := 27) rfl)) (by decide) (t := .long) (t' := .boolean) (by decide) (by decide)))
  have f31 : Fld Z h26 a "com/example/trailwire/trailwire/http2/BurstLimit" "times" "[J" (.ref t) := f20.other W27 (Or.inr (slot_ne (Or.inl (own_w H (i := 25) rfl)) (Or.inl (own_w H (i := 27) rfl)) (by decide) (t := (.array .long)) (t' := .boolean) (by decide) (by decide)))
  have f32 : Fld Z h26 a "com/example/trailwire/trailwire/http2/BurstLimit" "next" "I" (.int (0 : Int32)) := f21.other W27 (Or.inr (slot_ne (Or.inl (own_w H (i := 29) rfl)) (Or.inl (own_w H (i := 27) rfl)) (by decide) (t := .int) (t' := .boolean) (by decide) (by decide)))
  have f33 : Fld Z h26 a "com/example/trailwire/trailwire/http2/BurstLimit" "full" "Z" (.int (1 : Int32)) := f22.same W27
  have f34 : Arv Z h26 t kA .long (4 : Int32) [(.long t0), (.long t1), (.long t2), (.long now)] (.long 0) := f23.other W27 hne.symm
  have f35 : n0 ≤ h26.size := by rw [W27.size]; exact f24
  have f36 : Keep h0 h26 [a, t] := f25.wr W27 (Or.inl (by simp))
  refine own_iload_n H rfl d4_97 ?_
  exact own_ireturn H (by simp) (by first | rfl | (split <;> rfl) | (split <;> (try split) <;> rfl)) d4_98 (by decide) (by decide) ⟨rfl, f36, f28, f29, f30, f31, f32, f33, f34⟩
set_option maxHeartbeats 4000000 in
theorem rmE0_4 (l : Launch) (Z : State) (a0 : Array Value) (hw : ∀ (i : Nat) (d : Jvm.Cond), tables_1[i]? = some d → d.before a0 Z = true) (h0 : Heap) (n0 : Nat) (t : Addr) (per : Int64) (kA : ClassId) (s0 : Int64) (s1 : Int64) (s2 : Int64) (s3 : Int64) (s4 : Int64) (s5 : Int64) (s6 : Int64) (hV : Arv Z h0 t kA .long (7 : Int32) [(.long s0), (.long s1), (.long s2), (.long s3), (.long s4), (.long s5), (.long s6)] (.long 0)) :
    own_C l Z (⟨"com/example/trailwire/trailwire/http2/BurstLimitExceededByPinLaw", "expected", "(II[JJ)Z"⟩ : MethodName) method_4_code 7 (some .boolean) ({ frames := 0, cells := 0, slots := 0, locals := 0 } : Room) #[(.int (0 : Int32)), (.int (4 : Int32)), (.ref t), (.long per)] h0 n0 (fun v h' => v = some (.int (0 : Int32)) ∧ h0 = h') := by
  refine own_met (Ls := #[.val (.int (0 : Int32)), .val (.int (4 : Int32)), .val (.ref t), .val (.long per), .second, .unset, .unset]) hw own_pl5 (fun m => by first | (simp [entryFrame, mkF, argsToLocals, Value.category]; done) | rfl) ?_
  intro B H
  refine own_iload_n H rfl d5_0 ?_
  refine own_iload_n H rfl d5_1 ?_
  refine own_icmpge_f H d5_2 (by decide) ?_
  refine own_iconst H (0 : Int32) (by decide) d5_5 ?_
  exact own_ireturn H (by simp) (by decide) d5_6 (by decide) (by decide) ⟨rfl, rfl⟩
set_option maxHeartbeats 4000000 in
theorem rmE1_4 (l : Launch) (Z : State) (a0 : Array Value) (hw : ∀ (i : Nat) (d : Jvm.Cond), tables_1[i]? = some d → d.before a0 Z = true) (h0 : Heap) (n0 : Nat) (t : Addr) (per : Int64) (kA : ClassId) (s0 : Int64) (s1 : Int64) (s2 : Int64) (s3 : Int64) (s4 : Int64) (s5 : Int64) (s6 : Int64) (hV : Arv Z h0 t kA .long (7 : Int32) [(.long s0), (.long s1), (.long s2), (.long s3), (.long s4), (.long s5), (.long s6)] (.long 0)) :
    own_C l Z (⟨"com/example/trailwire/trailwire/http2/BurstLimitExceededByPinLaw", "expected", "(II[JJ)Z"⟩ : MethodName) method_4_code 7 (some .boolean) ({ frames := 0, cells := 0, slots := 0, locals := 0 } : Room) #[(.int (1 : Int32)), (.int (4 : Int32)), (.ref t), (.long per)] h0 n0 (fun v h' => v = some (.int (0 : Int32)) ∧ h0 = h') := by
  refine own_met (Ls := #[.val (.int (1 : Int32)), .val (.int (4 : Int32)), .val (.ref t), .val (.long per), .second, .unset, .unset]) hw own_pl5 (fun m => by first | (simp [entryFrame, mkF, argsToLocals, Value.category]; done) | rfl) ?_
  intro B H
  refine own_iload_n H rfl d5_0 ?_
  refine own_iload_n H rfl d5_1 ?_
  refine own_icmpge_f H d5_2 (by decide) ?_
  refine own_iconst H (0 : Int32) (by decide) d5_5 ?_
  exact own_ireturn H (by simp) (by decide) d5_6 (by decide) (by decide) ⟨rfl, rfl⟩
set_option maxHeartbeats 4000000 in
theorem rmE2_4 (l : Launch) (Z : State) (a0 : Array Value) (hw : ∀ (i : Nat) (d : Jvm.Cond), tables_1[i]? = some d → d.before a0 Z = true) (h0 : Heap) (n0 : Nat) (t : Addr) (per : Int64) (kA : ClassId) (s0 : Int64) (s1 : Int64) (s2 : Int64) (s3 : Int64) (s4 : Int64) (s5 : Int64) (s6 : Int64) (hV : Arv Z h0 t kA .long (7 : Int32) [(.long s0), (.long s1), (.long s2), (.long s3), (.long s4), (.long s5), (.long s6)] (.long 0)) :
    own_C l Z (⟨"com/example/trailwire/trailwire/http2/BurstLimitExceededByPinLaw", "expected", "(II[JJ)Z"⟩ : MethodName) method_4_code 7 (some .boolean) ({ frames := 0, cells := 0, slots := 0, locals := 0 } : Room) #[(.int (2 : Int32)), (.int (4 : Int32)), (.ref t), (.long per)] h0 n0 (fun v h' => v = some (.int (0 : Int32)) ∧ h0 = h') := by
  refine own_met (Ls := #[.val (.int (2 : Int32)), .val (.int (4 : Int32)), .val (.ref t), .val (.long per), .second, .unset, .unset]) hw own_pl5 (fun m => by first | (simp [entryFrame, mkF, argsToLocals, Value.category]; done) | rfl) ?_
  intro B H
  refine own_iload_n H rfl d5_0 ?_
  refine own_iload_n H rfl d5_1 ?_
  refine own_icmpge_f H d5_2 (by decide) ?_
  refine own_iconst H (0 : Int32) (by decide) d5_5 ?_
  exact own_ireturn H (by simp) (by decide) d5_6 (by decide) (by decide) ⟨rfl, rfl⟩
set_option maxHeartbeats 4000000 in
theorem rmE3_4 (l : Launch) (Z : State) (a0 : Array Value) (hw : ∀ (i : Nat) (d : Jvm.Cond), tables_1[i]? = some d → d.before a0 Z = true) (h0 : Heap) (n0 : Nat) (t : Addr) (per : Int64) (kA : ClassId) (s0 : Int64) (s1 : Int64) (s2 : Int64) (s3 : Int64) (s4 : Int64) (s5 : Int64) (s6 : Int64) (hV : Arv Z h0 t kA .long (7 : Int32) [(.long s0), (.long s1), (.long s2), (.long s3), (.long s4), (.long s5), (.long s6)] (.long 0)) :
    own_C l Z (⟨"com/example/trailwire/trailwire/http2/BurstLimitExceededByPinLaw", "expected", "(II[JJ)Z"⟩ : MethodName) method_4_code 7 (some .boolean) ({ frames := 0, cells := 0, slots := 0, locals := 0 } : Room) #[(.int (3 : Int32)), (.int (4 : Int32)), (.ref t), (.long per)] h0 n0 (fun v h' => v = some (.int (0 : Int32)) ∧ h0 = h') := by
  refine own_met (Ls := #[.val (.int (3 : Int32)), .val (.int (4 : Int32)), .val (.ref t), .val (.long per), .second, .unset, .unset]) hw own_pl5 (fun m => by first | (simp [entryFrame, mkF, argsToLocals, Value.category]; done) | rfl) ?_
  intro B H
  refine own_iload_n H rfl d5_0 ?_
  refine own_iload_n H rfl d5_1 ?_
  refine own_icmpge_f H d5_2 (by decide) ?_
  refine own_iconst H (0 : Int32) (by decide) d5_5 ?_
  exact own_ireturn H (by simp) (by decide) d5_6 (by decide) (by decide) ⟨rfl, rfl⟩
set_option maxHeartbeats 4000000 in
theorem rmE4_4 (l : Launch) (Z : State) (a0 : Array Value) (hw : ∀ (i : Nat) (d : Jvm.Cond), tables_1[i]? = some d → d.before a0 Z = true) (h0 : Heap) (n0 : Nat) (t : Addr) (per : Int64) (kA : ClassId) (s0 : Int64) (s1 : Int64) (s2 : Int64) (s3 : Int64) (s4 : Int64) (s5 : Int64) (s6 : Int64) (hV : Arv Z h0 t kA .long (7 : Int32) [(.long s0), (.long s1), (.long s2), (.long s3), (.long s4), (.long s5), (.long s6)] (.long 0)) :
    own_C l Z (⟨"com/example/trailwire/trailwire/http2/BurstLimitExceededByPinLaw", "expected", "(II[JJ)Z"⟩ : MethodName) method_4_code 7 (some .boolean) ({ frames := 0, cells := 0, slots := 0, locals := 0 } : Room) #[(.int (4 : Int32)), (.int (4 : Int32)), (.ref t), (.long per)] h0 n0 (fun v h' => v = some (.int (if (s4 - s0) < per then (1 : Int32) else (0 : Int32))) ∧ h0 = h') := by
  refine own_met (Ls := #[.val (.int (4 : Int32)), .val (.int (4 : Int32)), .val (.ref t), .val (.long per), .second, .unset, .unset]) hw own_pl5 (fun m => by first | (simp [entryFrame, mkF, argsToLocals, Value.category]; done) | rfl) ?_
  intro B H
  refine own_iload_n H rfl d5_0 ?_
  refine own_iload_n H rfl d5_1 ?_
  refine own_icmpge_t H (pc' := 7) d5_2 (by decide) (by decide) (by decide) ?_
  refine own_aload_n H rfl rfl d5_7 ?_
  refine own_iload_n H rfl d5_8 ?_
  refine own_laloadV H hV (by decide) (by decide) rfl d5_9 ?_
  refine own_aload_n H rfl rfl d5_10 ?_
  refine own_iload_n H rfl d5_11 ?_
  refine own_iload_n H rfl d5_12 ?_
  refine own_isub (v := (0 : Int32)) H (by decide) d5_13 ?_
  refine own_laloadV H hV (by decide) (by decide) rfl d5_14 ?_
  refine own_lsub H rfl d5_15 ?_
  refine own_lstore H #[.val (.int (4 : Int32)), .val (.int (4 : Int32)), .val (.ref t), .val (.long per), .second, .val (.long (s4 - s0)), .second] rfl d5_16 ?_
  refine own_lload H rfl d5_18 ?_
  refine own_lload_n H rfl d5_20 ?_
  refine own_cut 30 #[.val (.int (4 : Int32)), .val (.int (4 : Int32)), .val (.ref t), .val (.long per), .second, .val (.long (s4 - s0)), .second] [(.int (if (s4 - s0) < per then (1 : Int32) else (0 : Int32)))] (fun k2 => ?_) ?_
  ·
    by_cases c1 : (s4 - s0) < per
    ·
      refine own_lcmpge_f H d5_21 d5_22 c1 ?_
      refine own_iconst H (1 : Int32) (by decide) d5_25 ?_
      refine own_goto H (pc' := 30) d5_26 (by decide) (by decide) ?_
      exact own_cast (by simp only [if_pos c1]) (by simp only [if_pos c1]) k2
    ·
      refine own_lcmpge_t H (pc' := 29) d5_21 d5_22 (by decide) (by decide) c1 ?_
      refine own_iconst H (0 : Int32) (by decide) d5_29 ?_
      exact own_cast (by simp only [if_neg c1]) (by simp only [if_neg c1]) k2
  exact own_ireturn H (by simp) (by first | rfl | (split <;> rfl) | (split <;> (try split) <;> rfl)) d5_30 (by decide) (by decide) ⟨rfl, rfl⟩
set_option maxHeartbeats 4000000 in
theorem rmE5_4 (l : Launch) (Z : State) (a0 : Array Value) (hw : ∀ (i : Nat) (d : Jvm.Cond), tables_1[i]? = some d → d.before a0 Z = true) (h0 : Heap) (n0 : Nat) (t : Addr) (per : Int64) (kA : ClassId) (s0 : Int64) (s1 : Int64) (s2 : Int64) (s3 : Int64) (s4 : Int64) (s5 : Int64) (s6 : Int64) (hV : Arv Z h0 t kA .long (7 : Int32) [(.long s0), (.long s1), (.long s2), (.long s3), (.long s4), (.long s5), (.long s6)] (.long 0)) :
    own_C l Z (⟨"com/example/trailwire/trailwire/http2/BurstLimitExceededByPinLaw", "expected", "(II[JJ)Z"⟩ : MethodName) method_4_code 7 (some .boolean) ({ frames := 0, cells := 0, slots := 0, locals := 0 } : Room) #[(.int (5 : Int32)), (.int (4 : Int32)), (.ref t), (.long per)] h0 n0 (fun v h' => v = some (.int (if (s5 - s1) < per then (1 : Int32) else (0 : Int32))) ∧ h0 = h') := by
  refine own_met (Ls := #[.val (.int (5 : Int32)), .val (.int (4 : Int32)), .val (.ref t), .val (.long per), .second, .unset, .unset]) hw own_pl5 (fun m => by first | (simp [entryFrame, mkF, argsToLocals, Value.category]; done) | rfl) ?_
  intro B H
  refine own_iload_n H rfl d5_0 ?_
  refine own_iload_n H rfl d5_1 ?_
  refine own_icmpge_t H (pc' := 7) d5_2 (by decide) (by decide) (by decide) ?_
  refine own_aload_n H rfl rfl d5_7 ?_
  refine own_iload_n H rfl d5_8 ?_
  refine own_laloadV H hV (by decide) (by decide) rfl d5_9 ?_
  refine own_aload_n H rfl rfl d5_10 ?_
  refine own_iload_n H rfl d5_11 ?_
  refine own_iload_n H rfl d5_12 ?_
  refine own_isub (v := (1 : Int32)) H (by decide) d5_13 ?_
  refine own_laloadV H hV (by decide) (by decide) rfl d5_14 ?_
  refine own_lsub H rfl d5_15 ?_
  refine own_lstore H #[.val (.int (5 : Int32)), .val (.int (4 : Int32)), .val (.ref t), .val (.long per), .second, .val (.long (s5 - s1)), .second] rfl d5_16 ?_
  refine own_lload H rfl d5_18 ?_
  refine own_lload_n H rfl d5_20 ?_
  refine own_cut 30 #[.val (.int (5 : Int32)), .val (.int (4 : Int32)), .val (.ref t), .val (.long per), .second, .val (.long (s5 - s1)), .second] [(.int (if (s5 - s1) < per then (1 : Int32) else (0 : Int32)))] (fun k2 => ?_) ?_
  ·
    by_cases c1 : (s5 - s1) < per
    ·
      refine own_lcmpge_f H d5_21 d5_22 c1 ?_
      refine own_iconst H (1 : Int32) (by decide) d5_25 ?_
      refine own_goto H (pc' := 30) d5_26 (by decide) (by decide) ?_
      exact own_cast (by simp only [if_pos c1]) (by simp only [if_pos c1]) k2
    ·
      refine own_lcmpge_t H (pc' := 29) d5_21 d5_22 (by decide) (by decide) c1 ?_
      refine own_iconst H (0 : Int32) (by decide) d5_29 ?_
      exact own_cast (by simp only [if_neg c1]) (by simp only [if_neg c1]) k2
  exact own_ireturn H (by simp) (by first | rfl | (split <;> rfl) | (split <;> (try split) <;> rfl)) d5_30 (by decide) (by decide) ⟨rfl, rfl⟩
set_option maxHeartbeats 4000000 in
theorem rmE6_4 (l : Launch) (Z : State) (a0 : Array Value) (hw : ∀ (i : Nat) (d : Jvm.Cond), tables_1[i]? = some d → d.before a0 Z = true) (h0 : Heap) (n0 : Nat) (t : Addr) (per : Int64) (kA : ClassId) (s0 : Int64) (s1 : Int64) (s2 : Int64) (s3 : Int64) (s4 : Int64) (s5 : Int64) (s6 : Int64) (hV : Arv Z h0 t kA .long (7 : Int32) [(.long s0), (.long s1), (.long s2), (.long s3), (.long s4), (.long s5), (.long s6)] (.long 0)) :
    own_C l Z (⟨"com/example/trailwire/trailwire/http2/BurstLimitExceededByPinLaw", "expected", "(II[JJ)Z"⟩ : MethodName) method_4_code 7 (some .boolean) ({ frames := 0, cells := 0, slots := 0, locals := 0 } : Room) #[(.int (6 : Int32)), (.int (4 : Int32)), (.ref t), (.long per)] h0 n0 (fun v h' => v = some (.int (if (s6 - s2) < per then (1 : Int32) else (0 : Int32))) ∧ h0 = h') := by
  refine own_met (Ls := #[.val (.int (6 : Int32)), .val (.int (4 : Int32)), .val (.ref t), .val (.long per), .second, .unset, .unset]) hw own_pl5 (fun m => by first | (simp [entryFrame, mkF, argsToLocals, Value.category]; done) | rfl) ?_
  intro B H
  refine own_iload_n H rfl d5_0 ?_
  refine own_iload_n H rfl d5_1 ?_
  refine own_icmpge_t H (pc' := 7) d5_2 (by decide) (by decide) (by decide) ?_
  refine own_aload_n H rfl rfl d5_7 ?_
  refine own_iload_n H rfl d5_8 ?_
  refine own_laloadV H hV (by decide) (by decide) rfl d5_9 ?_
  refine own_aload_n H rfl rfl d5_10 ?_
  refine own_iload_n H rfl d5_11 ?_
  refine own_iload_n H rfl d5_12 ?_
  refine own_isub (v := (2 : Int32)) H (by decide) d5_13 ?_
  refine own_laloadV H hV (by decide) (by decide) rfl d5_14 ?_
  refine own_lsub H rfl d5_15 ?_
  refine own_lstore H #[.val (.int (6 : Int32)), .val (.int (4 : Int32)), .val (.ref t), .val (.long per), .second, .val (.long (s6 - s2)), .second] rfl d5_16 ?_
  refine own_lload H rfl d5_18 ?_
  refine own_lload_n H rfl d5_20 ?_
  refine own_cut 30 #[.val (.int (6 : Int32)), .val (.int (4 : Int32)), .val (.ref t), .val (.long per), .second, .val (.long (s6 - s2)), .second] [(.int (if (s6 - s2) < per then (1 : Int32) else (0 : Int32)))] (fun k2 => ?_) ?_
  ·
    by_cases c1 : (s6 - s2) < per
    ·
      refine own_lcmpge_f H d5_21 d5_22 c1 ?_
      refine own_iconst H (1 : Int32) (by decide) d5_25 ?_
      refine own_goto H (pc' := 30) d5_26 (by decide) (by decide) ?_
      exact own_cast (by simp only [if_pos c1]) (by simp only [if_pos c1]) k2
    ·
      refine own_lcmpge_t H (pc' := 29) d5_21 d5_22 (by decide) (by decide) c1 ?_
      refine own_iconst H (0 : Int32) (by decide) d5_29 ?_
      exact own_cast (by simp only [if_neg c1]) (by simp only [if_neg c1]) k2
  exact own_ireturn H (by simp) (by first | rfl | (split <;> rfl) | (split <;> (try split) <;> rfl)) d5_30 (by decide) (by decide) ⟨rfl, rfl⟩
theorem own_k4 (p : Int32) (c0 : ¬ (1 : Int32) + (p &&& (3 : Int32)) = (1 : Int32)) (c1 : ¬ (1 : Int32) + (p &&& (3 : Int32)) = (2 : Int32)) (c2 : ¬ (1 : Int32) + (p &&& (3 : Int32)) = (3 : Int32)) : (1 : Int32) + (p &&& (3 : Int32)) = (4 : Int32) := by
  have h : (p &&& (3 : Int32)).toBitVec.toNat = p.toBitVec.toNat % 4 := by
    have : (p &&& (3 : Int32)).toBitVec.toNat = p.toBitVec.toNat &&& 3 := by
      rw [Int32.toBitVec_and, BitVec.toNat_and]; rfl
    rw [this]
    exact Nat.and_two_pow_sub_one_eq_mod _ 2
  have q : p &&& (3 : Int32) = 0 ∨ p &&& (3 : Int32) = 1 ∨ p &&& (3 : Int32) = 2 ∨ p &&& (3 : Int32) = 3 := by
    simp only [← Int32.toBitVec_inj, ← BitVec.toNat_inj, h]
    have e0 : (0 : Int32).toBitVec.toNat = 0 := rfl
    have e1 : (1 : Int32).toBitVec.toNat = 1 := by decide
    have e2 : (2 : Int32).toBitVec.toNat = 2 := by decide
    have e3 : (3 : Int32).toBitVec.toNat = 3 := by decide
    omega
  rcases q with q | q | q | q
  · exact absurd (by rw [q]; decide) c0
  · exact absurd (by rw [q]; decide) c1
  · exact absurd (by rw [q]; decide) c2
  · rw [q]; decide
theorem own_sub (b x y : Int64) : (b + x) - (b + y) = x - y := by grind
theorem own_pl0 : plainFor x = true := plainFor_of_name (by first | (simp [plainName, overriddenIn]; done) | decide +kernel)
def F0 (p1 : Int32) (p2 : Int64) (p3 : Int64) (p4 : Int64) (p5 : Int64) (p6 : Int64) : Int32 := if ((1 : Int32) + (p1 &&& (3 : Int32))) = (1 : Int32) then (1 : Int32) else if ((1 : Int32) + (p1 &&& (3 : Int32))) = (2 : Int32) then (1 : Int32) else if ((1 : Int32) + (p1 &&& (3 : Int32))) = (3 : Int32) then (1 : Int32) else (1 : Int32)
set_option maxHeartbeats 40000000 in
theorem rm0 (l : Launch) (Z : State) (a0 : Array Value) (hw : ∀ (i : Nat) (d : Jvm.Cond), tables_1[i]? = some d → d.before a0 Z = true) (ws : List Jvm.Cond) (h0 : Heap) (n0 : Nat) (p1 : Int32) (p2 : Int64) (p3 : Int64) (p4 : Int64) (p5 : Int64) (p6 : Int64) (hZ0 : n0 ≤ h0.size) :
    own_Met l Z ws x code maxLocals ret room_1 #[(.int p1), (.long p2), (.long p3), (.long p4), (.long p5), (.long p6)] h0 n0 16 128 (fun v h' => v = some (.int (F0 p1 p2 p3 p4 p5 p6))) := by
  refine own_met (Ls := #[.val (.int p1), .val (.long p2), .second, .val (.long p3), .second, .val (.long p4), .second, .val (.long p5), .second, .val (.long p6), .second, .unset, .unset, .unset, .unset]) hw own_pl0 (fun m => by first | (simp [entryFrame, mkF, argsToLocals, Value.category, maxLocals]; done) | rfl) ?_
  intro B H

  refine own_iconst H (1 : Int32) (by decide) at_0 ?_
  refine own_iload_n H rfl at_1 ?_
  refine own_iconst H (3 : Int32) (by decide) at_2 ?_
  refine own_iand H rfl at_3 ?_
  refine own_iadd H rfl at_4 ?_
  refine own_istore H #[.val (.int p1), .val (.long p2), .second, .val (.long p3), .second, .val (.long p4), .second, .val (.long p5), .second, .val (.long p6), .second, .val (.int ((1 : Int32) + (p1 &&& (3 : Int32)))), .unset, .unset, .unset] rfl at_5 ?_
  refine own_bipush H (7 : Int32) (by decide) at_7 ?_
  refine own_newarray H (w := 0) (n := (7 : Int32)) rfl (by decide) 7 (by decide) (by decide) at_9 (by decide) (by decide) ?_
  intro h1 a2 kA3 ha4 E5 V6
  have f7 : n0 ≤ a2 := by rw [ha4]; exact hZ0
  have f8 : n0 ≤ h1.size := Nat.le_trans hZ0 E5.1
  have f9 : Arv Z h1 a2 kA3 .long (7 : Int32) [(.long 0), (.long 0), (.long 0), (.long 0), (.long 0), (.long 0), (.long 0)] (.long 0) := V6.pad (pad_rep [] (.long 0) 7)
  show own_G _ _ _ _ _ _ _ _ 11 #[.val (.int p1), .val (.long p2), .second, .val (.long p3), .second, .val (.long p4), .second, .val (.long p5), .second, .val (.long p6), .second, .val (.int ((1 : Int32) + (p1 &&& (3 : Int32)))), .unset, .unset, .unset] [(.ref a2)]
  refine own_astore H rfl #[.val (.int p1), .val (.long p2), .second, .val (.long p3), .second, .val (.long p4), .second, .val (.long p5), .second, .val (.long p6), .second, .val (.int ((1 : Int32) + (p1 &&& (3 : Int32)))), .val (.ref a2), .unset, .unset] rfl at_11 ?_
  refine own_aload H rfl rfl at_13 ?_
  refine own_iconst H (0 : Int32) (by decide) at_15 ?_
  refine own_lconst H (0 : Int64) (by decide) at_16 ?_
  refine own_lastoreV H f9 (by decide) (by decide) 0 (by decide) (Nat.le_of_ble_eq_true rfl) f7 rfl at_17 ?_
  intro h10 W11 V12
  have f13 : n0 ≤ h10.size := by rw [W11.size]; exact f8
  have f14 : Arv Z h10 a2 kA3 .long (7 : Int32) [(.long (0 : Int64)), (.long 0), (.long 0), (.long 0), (.long 0), (.long 0), (.long 0)] (.long 0) := V12
  refine own_aload H rfl rfl at_18 ?_
  refine own_iconst H (1 : Int32) (by decide) at_20 ?_
  refine own_aload H rfl rfl at_21 ?_
  refine own_iconst H (0 : Int32) (by decide) at_23 ?_
  refine own_laloadV H f14 (by decide) (by decide) rfl at_24 ?_
  refine own_lload H rfl at_25 ?_
  refine own_iconst H (0 : Int32) (by decide) at_27 ?_
  refine own_invokestatic H (argsL := [(.long p4), (.int (0 : Int32))]) (rest := [(.long (0 : Int64)), (.int (1 : Int32)), (.ref a2)]) (rmGap l Z a0 (own_hw H) h10 n0 p4 (0 : Int32)) (w1 := 1) (w2 := 2) (w3 := 3) (w4 := 4) rfl rfl rfl rfl own_pd0 rfl 4 (by decide) rfl (by decide) (Nat.le_of_eq rfl) (by decide) (by decide) (by decide) rfl at_28 ?_
  rintro _ _ ⟨rfl, rfl⟩
  show own_G _ _ _ _ _ _ _ _ 31 #[.val (.int p1), .val (.long p2), .second, .val (.long p3), .second, .val (.long p4), .second, .val (.long p5), .second, .val (.long p6), .second, .val (.int ((1 : Int32) + (p1 &&& (3 : Int32)))), .val (.ref a2), .unset, .unset] [(.long (FGap p4 (0 : Int32))), (.long (0 : Int64)), (.int (1 : Int32)), (.ref a2)]
  refine own_ladd H rfl at_31 ?_
  refine own_lastoreV H f14 (by decide) (by decide) 1 (by decide) (Nat.le_of_ble_eq_true rfl) f7 rfl at_32 ?_
  intro h15 W16 V17
  have f18 : n0 ≤ h15.size := by rw [W16.size]; exact f13
  have f19 : Arv Z h15 a2 kA3 .long (7 : Int32) [(.long (0 : Int64)), (.long ((0 : Int64) + (FGap p4 (0 : Int32)))), (.long 0), (.long 0), (.long 0), (.long 0), (.long 0)] (.long 0) := V17
  refine own_aload H rfl rfl at_33 ?_
  refine own_iconst H (2 : Int32) (by decide) at_35 ?_
  refine own_aload H rfl rfl at_36 ?_
  refine own_iconst H (1 : Int32) (by decide) at_38 ?_
  refine own_laloadV H f19 (by decide) (by decide) rfl at_39 ?_
  refine own_lload H rfl at_40 ?_
  refine own_bipush H (32 : Int32) (by decide) at_42 ?_
  refine own_invokestatic H (argsL := [(.long p4), (.int (32 : Int32))]) (rest := [(.long ((0 : Int64) + (FGap p4 (0 : Int32)))), (.int (2 : Int32)), (.ref a2)]) (rmGap l Z a0 (own_hw H) h15 n0 p4 (32 : Int32)) (w1 := 1) (w2 := 2) (w3 := 3) (w4 := 4) rfl rfl rfl rfl own_pd0 rfl 4 (by decide) rfl (by decide) (Nat.le_of_eq rfl) (by decide) (by decide) (by decide) rfl at_44 ?_
  rintro _ _ ⟨rfl, rfl⟩
  show own_G _ _ _ _ _ _ _ _ 47 #[.val (.int p1), .val (.long p2), .second, .val (.long p3), .second, .val (.long p4), .second, .val (.long p5), .second, .val (.long p6), .second, .val (.int ((1 : Int32) + (p1 &&& (3 : Int32)))), .val (.ref a2), .unset, .unset] [(.long (FGap p4 (32 : Int32))), (.long ((0 : Int64) + (FGap p4 (0 : Int32)))), (.int (2 : Int32)), (.ref a2)]
  refine own_ladd H rfl at_47 ?_
  refine own_lastoreV H f19 (by decide) (by decide) 2 (by decide) (Nat.le_of_ble_eq_true rfl) f7 rfl at_48 ?_
  intro h20 W21 V22
  have f23 : n0 ≤ h20.size := by rw [W21.size]; exact f18
  have f24 : Arv Z h20 a2 kA3 .long (7 : Int32) [(.long (0 : Int64)), (.long ((0 : Int64) + (FGap p4 (0 : Int32)))), (.long (((0 : Int64) + (FGap p4 (0 : Int32))) + (FGap p4 (32 : Int32)))), (.long 0), (.long 0), (.long 0), (.long 0)] (.long 0) := V22
  refine own_aload H rfl rfl at_49 ?_
  refine own_iconst H (3 : Int32) (by decide) at_51 ?_
  refine own_aload H rfl rfl at_52 ?_
  refine own_iconst H (2 : Int32) (by decide) at_54 ?_
  refine own_laloadV H f24 (by decide) (by decide) rfl at_55 ?_
  refine own_lload H rfl at_56 ?_
  refine own_iconst H (0 : Int32) (by decide) at_58 ?_
  refine own_invokestatic H (argsL := [(.long p5), (.int (0 : Int32))]) (rest := [(.long (((0 : Int64) + (FGap p4 (0 : Int32))) + (FGap p4 (32 : Int32)))), (.int (3 : Int32)), (.ref a2)]) (rmGap l Z a0 (own_hw H) h20 n0 p5 (0 : Int32)) (w1 := 1) (w2 := 2) (w3 := 3) (w4 := 4) rfl rfl rfl rfl own_pd0 rfl 4 (by decide) rfl (by decide) (Nat.le_of_eq rfl) (by decide) (by decide) (by decide) rfl at_59 ?_
  rintro _ _ ⟨rfl, rfl⟩
  show own_G _ _ _ _ _ _ _ _ 62 #[.val (.int p1), .val (.long p2), .second, .val (.long p3), .second, .val (.long p4), .second, .val (.long p5), .second, .val (.long p6), .second, .val (.int ((1 : Int32) + (p1 &&& (3 : Int32)))), .val (.ref a2), .unset, .unset] [(.long (FGap p5 (0 : Int32))), (.long (((0 : Int64) + (FGap p4 (0 : Int32))) + (FGap p4 (32 : Int32)))), (.int (3 : Int32)), (.ref a2)]
  refine own_ladd H rfl at_62 ?_
  refine own_lastoreV H f24 (by decide) (by decide) 3 (by decide) (Nat.le_of_ble_eq_true rfl) f7 rfl at_63 ?_
  intro h25 W26 V27
  have f28 : n0 ≤ h25.size := by rw [W26.size]; exact f23
  have f29 : Arv Z h25 a2 kA3 .long (7 : Int32) [(.long (0 : Int64)), (.long ((0 : Int64) + (FGap p4 (0 : Int32)))), (.long (((0 : Int64) + (FGap p4 (0 : Int32))) + (FGap p4 (32 : Int32)))), (.long ((((0 : Int64) + (FGap p4 (0 : Int32))) + (FGap p4 (32 : Int32))) + (FGap p5 (0 : Int32)))), (.long 0), (.long 0), (.long 0)] (.long 0) := V27
  refine own_aload H rfl rfl at_64 ?_
  refine own_iconst H (4 : Int32) (by decide) at_66 ?_
  refine own_aload H rfl rfl at_67 ?_
  refine own_iconst H (3 : Int32) (by decide) at_69 ?_
  refine own_laloadV H f29 (by decide) (by decide) rfl at_70 ?_
  refine own_lload H rfl at_71 ?_
  refine own_bipush H (32 : Int32) (by decide) at_73 ?_
  refine own_invokestatic H (argsL := [(.long p5), (.int (32 : Int32))]) (rest := [(.long ((((0 : Int64) + (FGap p4 (0 : Int32))) + (FGap p4 (32 : Int32))) + (FGap p5 (0 : Int32)))), (.int (4 : Int32)), (.ref a2)]) (rmGap l Z a0 (own_hw H) h25 n0 p5 (32 : Int32)) (w1 := 1) (w2 := 2) (w3 := 3) (w4 := 4) rfl rfl rfl rfl own_pd0 rfl 4 (by decide) rfl (by decide) (Nat.le_of_eq rfl) (by decide) (by decide) (by decide) rfl at_75 ?_
  rintro _ _ ⟨rfl, rfl⟩
  show own_G _ _ _ _ _ _ _ _ 78 #[.val (.int p1), .val (.long p2), .second, .val (.long p3), .second, .val (.long p4), .second, .val (.long p5), .second, .val (.long p6), .second, .val (.int ((1 : Int32) + (p1 &&& (3 : Int32)))), .val (.ref a2), .unset, .unset] [(.long (FGap p5 (32 : Int32))), (.long ((((0 : Int64) + (FGap p4 (0 : Int32))) + (FGap p4 (32 : Int32))) + (FGap p5 (0 : Int32)))), (.int (4 : Int32)), (.ref a2)]
  refine own_ladd H rfl at_78 ?_
  refine own_lastoreV H f29 (by decide) (by decide) 4 (by decide) (Nat.le_of_ble_eq_true rfl) f7 rfl at_79 ?_
  intro h30 W31 V32
  have f33 : n0 ≤ h30.size := by rw [W31.size]; exact f28
  have f34 : Arv Z h30 a2 kA3 .long (7 : Int32) [(.long (0 : Int64)), (.long ((0 : Int64) + (FGap p4 (0 : Int32)))), (.long (((0 : Int64) + (FGap p4 (0 : Int32))) + (FGap p4 (32 : Int32)))), (.long ((((0 : Int64) + (FGap p4 (0 : Int32))) + (FGap p4 (32 : Int32))) + (FGap p5 (0 : Int32)))), (.long (((((0 : Int64) + (FGap p4 (0 : Int32))) + (FGap p4 (32 : Int32))) + (FGap p5 (0 : Int32))) + (FGap p5 (32 : Int32)))), (.long 0), (.long 0)] (.long 0) := V32
  refine own_aload H rfl rfl at_80 ?_
  refine own_iconst H (5 : Int32) (by decide) at_82 ?_
  refine own_aload H rfl rfl at_83 ?_
  refine own_iconst H (4 : Int32) (by decide) at_85 ?_
  refine own_laloadV H f34 (by decide) (by decide) rfl at_86 ?_
  refine own_lload H rfl at_87 ?_
  refine own_iconst H (0 : Int32) (by decide) at_89 ?_
  refine own_invokestatic H (argsL := [(.long p6), (.int (0 : Int32))]) (rest := [(.long (((((0 : Int64) + (FGap p4 (0 : Int32))) + (FGap p4 (32 : Int32))) + (FGap p5 (0 : Int32))) + (FGap p5 (32 : Int32)))), (.int (5 : Int32)), (.ref a2)]) (rmGap l Z a0 (own_hw H) h30 n0 p6 (0 : Int32)) (w1 := 1) (w2 := 2) (w3 := 3) (w4 := 4) rfl rfl rfl rfl own_pd0 rfl 4 (by decide) rfl (by decide) (Nat.le_of_eq rfl) (by decide) (by decide) (by decide) rfl at_90 ?_
  rintro _ _ ⟨rfl, rfl⟩
  show own_G _ _ _ _ _ _ _ _ 93 #[.val (.int p1), .val (.long p2), .second, .val (.long p3), .second, .val (.long p4), .second, .val (.long p5), .second, .val (.long p6), .second, .val (.int ((1 : Int32) + (p1 &&& (3 : Int32)))), .val (.ref a2), .unset, .unset] [(.long (FGap p6 (0 : Int32))), (.long (((((0 : Int64) + (FGap p4 (0 : Int32))) + (FGap p4 (32 : Int32))) + (FGap p5 (0 : Int32))) + (FGap p5 (32 : Int32)))), (.int (5 : Int32)), (.ref a2)]
  refine own_ladd H rfl at_93 ?_
  refine own_lastoreV H f34 (by decide) (by decide) 5 (by decide) (Nat.le_of_ble_eq_true rfl) f7 rfl at_94 ?_
  intro h35 W36 V37
  have f38 : n0 ≤ h35.size := by rw [W36.size]; exact f33
  have f39 : Arv Z h35 a2 kA3 .long (7 : Int32) [(.long (0 : Int64)), (.long ((0 : Int64) + (FGap p4 (0 : Int32)))), (.long (((0 : Int64) + (FGap p4 (0 : Int32))) + (FGap p4 (32 : Int32)))), (.long ((((0 : Int64) + (FGap p4 (0 : Int32))) + (FGap p4 (32 : Int32))) + (FGap p5 (0 : Int32)))), (.long (((((0 : Int64) + (FGap p4 (0 : Int32))) + (FGap p4 (32 : Int32))) + (FGap p5 (0 : Int32))) + (FGap p5 (32 : Int32)))), (.long ((((((0 : Int64) + (FGap p4 (0 : Int32))) + (FGap p4 (32 : Int32))) + (FGap p5 (0 : Int32))) + (FGap p5 (32 : Int32))) + (FGap p6 (0 : Int32)))), (.long 0)] (.long 0) := V37
  refine own_aload H rfl rfl at_95 ?_
  refine own_bipush H (6 : Int32) (by decide) at_97 ?_
  refine own_aload H rfl rfl at_99 ?_
  refine own_iconst H (5 : Int32) (by decide) at_101 ?_
  refine own_laloadV H f39 (by decide) (by decide) rfl at_102 ?_
  refine own_lload H rfl at_103 ?_
  refine own_bipush H (32 : Int32) (by decide) at_105 ?_
  refine own_invokestatic H (argsL := [(.long p6), (.int (32 : Int32))]) (rest := [(.long ((((((0 : Int64) + (FGap p4 (0 : Int32))) + (FGap p4 (32 : Int32))) + (FGap p5 (0 : Int32))) + (FGap p5 (32 : Int32))) + (FGap p6 (0 : Int32)))), (.int (6 : Int32)), (.ref a2)]) (rmGap l Z a0 (own_hw H) h35 n0 p6 (32 : Int32)) (w1 := 1) (w2 := 2) (w3 := 3) (w4 := 4) rfl rfl rfl rfl own_pd0 rfl 4 (by decide) rfl (by decide) (Nat.le_of_eq rfl) (by decide) (by decide) (by decide) rfl at_107 ?_
  rintro _ _ ⟨rfl, rfl⟩
  show own_G _ _ _ _ _ _ _ _ 110 #[.val (.int p1), .val (.long p2), .second, .val (.long p3), .second, .val (.long p4), .second, .val (.long p5), .second, .val (.long p6), .second, .val (.int ((1 : Int32) + (p1 &&& (3 : Int32)))), .val (.ref a2), .unset, .unset] [(.long (FGap p6 (32 : Int32))), (.long ((((((0 : Int64) + (FGap p4 (0 : Int32))) + (FGap p4 (32 : Int32))) + (FGap p5 (0 : Int32))) + (FGap p5 (32 : Int32))) + (FGap p6 (0 : Int32)))), (.int (6 : Int32)), (.ref a2)]
  refine own_ladd H rfl at_110 ?_
  refine own_lastoreV H f39 (by decide) (by decide) 6 (by decide) (Nat.le_of_ble_eq_true rfl) f7 rfl at_111 ?_
  intro h40 W41 V42
  have f43 : n0 ≤ h40.size := by rw [W41.size]; exact f38
  have f44 : Arv Z h40 a2 kA3 .long (7 : Int32) [(.long (0 : Int64)), (.long ((0 : Int64) + (FGap p4 (0 : Int32)))), (.long (((0 : Int64) + (FGap p4 (0 : Int32))) + (FGap p4 (32 : Int32)))), (.long ((((0 : Int64) + (FGap p4 (0 : Int32))) + (FGap p4 (32 : Int32))) + (FGap p5 (0 : Int32)))), (.long (((((0 : Int64) + (FGap p4 (0 : Int32))) + (FGap p4 (32 : Int32))) + (FGap p5 (0 : Int32))) + (FGap p5 (32 : Int32)))), (.long ((((((0 : Int64) + (FGap p4 (0 : Int32))) + (FGap p4 (32 : Int32))) + (FGap p5 (0 : Int32))) + (FGap p5 (32 : Int32))) + (FGap p6 (0 : Int32)))), (.long (((((((0 : Int64) + (FGap p4 (0 : Int32))) + (FGap p4 (32 : Int32))) + (FGap p5 (0 : Int32))) + (FGap p5 (32 : Int32))) + (FGap p6 (0 : Int32))) + (FGap p6 (32 : Int32))))] (.long 0) := V42
  by_cases c45 : ((1 : Int32) + (p1 &&& (3 : Int32))) = (1 : Int32)
  ·
    rw [c45]
    show own_G _ _ _ _ _ _ _ _ 112 #[.val (.int p1), .val (.long p2), .second, .val (.long p3), .second, .val (.long p4), .second, .val (.long p5), .second, .val (.long p6), .second, .val (.int (1 : Int32)), .val (.ref a2), .unset, .unset] []
    refine own_new H (w := 6) (wi := 7) (wz := 8) rfl rfl rfl at_112 (by decide) (by decide) ?_
    intro h46 a47 ha48 E49 X50 D51
    have f52 : a2 ≠ a47 := Nat.ne_of_lt (by rw [ha48]; exact f44.lt)
    have f53 : n0 ≤ a47 := by rw [ha48]; exact f43
    have f54 : n0 ≤ h46.size := Nat.le_trans f43 E49.1
    have f55 : Arv Z h46 a2 kA3 .long (7 : Int32) [(.long (0 : Int64)), (.long ((0 : Int64) + (FGap p4 (0 : Int32)))), (.long (((0 : Int64) + (FGap p4 (0 : Int32))) + (FGap p4 (32 : Int32)))), (.long ((((0 : Int64) + (FGap p4 (0 : Int32))) + (FGap p4 (32 : Int32))) + (FGap p5 (0 : Int32)))), (.long (((((0 : Int64) + (FGap p4 (0 : Int32))) + (FGap p4 (32 : Int32))) + (FGap p5 (0 : Int32))) + (FGap p5 (32 : Int32)))), (.long ((((((0 : Int64) + (FGap p4 (0 : Int32))) + (FGap p4 (32 : Int32))) + (FGap p5 (0 : Int32))) + (FGap p5 (32 : Int32))) + (FGap p6 (0 : Int32)))), (.long (((((((0 : Int64) + (FGap p4 (0 : Int32))) + (FGap p4 (32 : Int32))) + (FGap p5 (0 : Int32))) + (FGap p5 (32 : Int32))) + (FGap p6 (0 : Int32))) + (FGap p6 (32 : Int32))))] (.long 0) := f44.ext E49
    have f56 : Fld Z h46 a47 "com/example/trailwire/trailwire/http2/BurstLimit" "events" "I" (.int (0 : Int32)) := D51 (Or.inr (own_w H (i := 16) rfl)) (ty := .int) (by decide)
    have f57 : Fld Z h46 a47 "com/example/trailwire/trailwire/http2/BurstLimit" "period" "J" (.long (0 : Int64)) := D51 (Or.inr (own_w H (i := 18) rfl)) (ty := .long) (by decide)
    have f58 : Fld Z h46 a47 "com/example/trailwire/trailwire/http2/BurstLimit" "times" "[J" .null := D51 (Or.inl (own_w H (i := 25) rfl)) (ty := (.array .long)) (by decide)
    have f59 : Fld Z h46 a47 "com/example/trailwire/trailwire/http2/BurstLimit" "full" "Z" (.int (0 : Int32)) := D51 (Or.inl (own_w H (i := 27) rfl)) (ty := .boolean) (by decide)
    have f60 : Fld Z h46 a47 "com/example/trailwire/trailwire/http2/BurstLimit" "next" "I" (.int (0 : Int32)) := D51 (Or.inl (own_w H (i := 29) rfl)) (ty := .int) (by decide)
    show own_G _ _ _ _ _ _ _ _ 115 #[.val (.int p1), .val (.long p2), .second, .val (.long p3), .second, .val (.long p4), .second, .val (.long p5), .second, .val (.long p6), .second, .val (.int (1 : Int32)), .val (.ref a2), .unset, .unset] [(.ref a47)]
    refine own_dup H rfl at_115 ?_
    refine own_iload H rfl at_116 ?_
    refine own_lload_n H rfl at_118 ?_
    refine own_invokespecial H (a := a47) (argsL := [(.int (1 : Int32)), (.long p2)]) (rest := [(.ref a47)]) (rm1 l Z a0 (own_hw H) h46 n0 a47 (1 : Int32) p2 f54 f53 X50 f56 f57 f58 f60 f59) rfl (w1 := 9) (w2 := 10) (w3 := 8) (w4 := 11) rfl rfl rfl rfl own_pd1 rfl 1 (by decide) rfl (by decide) (Nat.le_of_eq rfl) (by decide) (by decide) (by decide) rfl at_119 ?_
    rintro _ h61 ⟨rfl, K62, f63, f64, f65, f66, f67⟩
    have f68 : n0 ≤ h61.size := Nat.le_trans f54 K62.1
    have f69 : Arv Z h61 a2 kA3 .long (7 : Int32) [(.long (0 : Int64)), (.long ((0 : Int64) + (FGap p4 (0 : Int32)))), (.long (((0 : Int64) + (FGap p4 (0 : Int32))) + (FGap p4 (32 : Int32)))), (.long ((((0 : Int64) + (FGap p4 (0 : Int32))) + (FGap p4 (32 : Int32))) + (FGap p5 (0 : Int32)))), (.long (((((0 : Int64) + (FGap p4 (0 : Int32))) + (FGap p4 (32 : Int32))) + (FGap p5 (0 : Int32))) + (FGap p5 (32 : Int32)))), (.long ((((((0 : Int64) + (FGap p4 (0 : Int32))) + (FGap p4 (32 : Int32))) + (FGap p5 (0 : Int32))) + (FGap p5 (32 : Int32))) + (FGap p6 (0 : Int32)))), (.long (((((((0 : Int64) + (FGap p4 (0 : Int32))) + (FGap p4 (32 : Int32))) + (FGap p5 (0 : Int32))) + (FGap p5 (32 : Int32))) + (FGap p6 (0 : Int32))) + (FGap p6 (32 : Int32))))] (.long 0) := f55.keep K62 (ninS f52 nin0)
    have f70 : Exa Z h61 a47 "com/example/trailwire/trailwire/http2/BurstLimit" := X50.keep K62
    show own_G _ _ _ _ _ _ _ _ 122 #[.val (.int p1), .val (.long p2), .second, .val (.long p3), .second, .val (.long p4), .second, .val (.long p5), .second, .val (.long p6), .second, .val (.int (1 : Int32)), .val (.ref a2), .unset, .unset] [(.ref a47)]
    refine own_astore H rfl #[.val (.int p1), .val (.long p2), .second, .val (.long p3), .second, .val (.long p4), .second, .val (.long p5), .second, .val (.long p6), .second, .val (.int (1 : Int32)), .val (.ref a2), .val (.ref a47), .unset] rfl at_122 ?_
    refine own_iconst H (1 : Int32) (by decide) at_124 ?_
    refine own_istore H #[.val (.int p1), .val (.long p2), .second, .val (.long p3), .second, .val (.long p4), .second, .val (.long p5), .second, .val (.long p6), .second, .val (.int (1 : Int32)), .val (.ref a2), .val (.ref a47), .val (.int (1 : Int32))] rfl at_125 ?_
    refine own_iload H rfl at_127 ?_
    refine own_aload H rfl rfl at_129 ?_
    refine own_lload_n H rfl at_131 ?_
    refine own_aload H rfl rfl at_132 ?_
    refine own_iconst H (0 : Int32) (by decide) at_134 ?_
    refine own_laloadV H f69 (by decide) (by decide) rfl at_135 ?_
    refine own_ladd H rfl at_136 ?_
    refine own_invokevirtual H (a := a47) (argsL := [(.long (p3 + (0 : Int64)))]) (rest := [(.int (1 : Int32))]) (rmX1_0_0f l Z a0 (own_hw H) h61 n0 a47 (p3 + (0 : Int64)) p2 f68 f70 f63 f64 f65 f66 f67 f53) f70 (w1 := 19) (w0 := 20) (w5 := 22) (w2 := 21) (w3 := 8) (w4 := 23) rfl rfl rfl rfl rfl rfl own_pd2 rfl 1 (by decide) rfl (by decide) (Nat.le_of_eq rfl) (by decide) (by decide) (by decide) rfl at_137 ?_
    rintro _ h71 ⟨a73, kA74, rfl, K72, f75, f76, f77, f78, f79, f80, f81, f82, f83, f84⟩
    have f85 : a2 ≠ a73 := Nat.ne_of_lt (Nat.lt_of_lt_of_le f69.lt f76)
    have f86 : a47 ≠ a73 := Nat.ne_of_lt (Nat.lt_of_lt_of_le f70.lt f76)
    have f87 : n0 ≤ h71.size := Nat.le_trans f68 K72.1
    have f88 : Arv Z h71 a2 kA3 .long (7 : Int32) [(.long (0 : Int64)), (.long ((0 : Int64) + (FGap p4 (0 : Int32)))), (.long (((0 : Int64) + (FGap p4 (0 : Int32))) + (FGap p4 (32 : Int32)))), (.long ((((0 : Int64) + (FGap p4 (0 : Int32))) + (FGap p4 (32 : Int32))) + (FGap p5 (0 : Int32)))), (.long (((((0 : Int64) + (FGap p4 (0 : Int32))) + (FGap p4 (32 : Int32))) + (FGap p5 (0 : Int32))) + (FGap p5 (32 : Int32)))), (.long ((((((0 : Int64) + (FGap p4 (0 : Int32))) + (FGap p4 (32 : Int32))) + (FGap p5 (0 : Int32))) + (FGap p5 (32 : Int32))) + (FGap p6 (0 : Int32)))), (.long (((((((0 : Int64) + (FGap p4 (0 : Int32))) + (FGap p4 (32 : Int32))) + (FGap p5 (0 : Int32))) + (FGap p5 (32 : Int32))) + (FGap p6 (0 : Int32))) + (FGap p6 (32 : Int32))))] (.long 0) := f69.keep K72 (ninS f52 nin0)
    have f89 : Exa Z h71 a47 "com/example/trailwire/trailwire/http2/BurstLimit" := f70.keep K72
    show own_G _ _ _ _ _ _ _ _ 140 #[.val (.int p1), .val (.long p2), .second, .val (.long p3), .second, .val (.long p4), .second, .val (.long p5), .second, .val (.long p6), .second, .val (.int (1 : Int32)), .val (.ref a2), .val (.ref a47), .val (.int (1 : Int32))] [(.int (0 : Int32)), (.int (1 : Int32))]
    refine own_iconst H (0 : Int32) (by decide) at_140 ?_
    refine own_iload H rfl at_141 ?_
    refine own_aload H rfl rfl at_143 ?_
    refine own_lload_n H rfl at_145 ?_
    refine own_invokestatic H (argsL := [(.int (0 : Int32)), (.int (1 : Int32)), (.ref a2), (.long p2)]) (rest := [(.int (0 : Int32)), (.int (1 : Int32))]) (rmE0_1 l Z a0 (own_hw H) h71 n0 a2 p2 kA3 (0 : Int64) ((0 : Int64) + (FGap p4 (0 : Int32))) (((0 : Int64) + (FGap p4 (0 : Int32))) + (FGap p4 (32 : Int32))) ((((0 : Int64) + (FGap p4 (0 : Int32))) + (FGap p4 (32 : Int32))) + (FGap p5 (0 : Int32))) (((((0 : Int64) + (FGap p4 (0 : Int32))) + (FGap p4 (32 : Int32))) + (FGap p5 (0 : Int32))) + (FGap p5 (32 : Int32))) ((((((0 : Int64) + (FGap p4 (0 : Int32))) + (FGap p4 (32 : Int32))) + (FGap p5 (0 : Int32))) + (FGap p5 (32 : Int32))) + (FGap p6 (0 : Int32))) (((((((0 : Int64) + (FGap p4 (0 : Int32))) + (FGap p4 (32 : Int32))) + (FGap p5 (0 : Int32))) + (FGap p5 (32 : Int32))) + (FGap p6 (0 : Int32))) + (FGap p6 (32 : Int32))) f88) (w1 := 30) (w2 := 31) (w3 := 3) (w4 := 32) rfl rfl rfl rfl own_pd3 rfl 2 (by decide) rfl (by decide) (Nat.le_of_eq rfl) (by decide) (by decide) (by decide) rfl at_146 ?_
    rintro _ _ ⟨rfl, rfl⟩
    show own_G _ _ _ _ _ _ _ _ 149 #[.val (.int p1), .val (.long p2), .second, .val (.long p3), .second, .val (.long p4), .second, .val (.long p5), .second, .val (.long p6), .second, .val (.int (1 : Int32)), .val (.ref a2), .val (.ref a47), .val (.int (1 : Int32))] [(.int (0 : Int32)), (.int (0 : Int32)), (.int (1 : Int32))]
    refine own_icmpne_f H at_149 (by decide) ?_
    refine own_iconst H (1 : Int32) (by decide) at_152 ?_
    refine own_goto H (pc' := 157) at_153 (by decide) (by decide) ?_
    refine own_iand (v := (1 : Int32)) H (by decide) at_157 ?_
    refine own_istore H #[.val (.int p1), .val (.long p2), .second, .val (.long p3), .second, .val (.long p4), .second, .val (.long p5), .second, .val (.long p6), .second, .val (.int (1 : Int32)), .val (.ref a2), .val (.ref a47), .val (.int (1 : Int32))] rfl at_158 ?_
    refine own_iload H rfl at_160 ?_
    refine own_aload H rfl rfl at_162 ?_
    refine own_lload_n H rfl at_164 ?_
    refine own_aload H rfl rfl at_165 ?_
    refine own_iconst H (1 : Int32) (by decide) at_167 ?_
    refine own_laloadV H f88 (by decide) (by decide) rfl at_168 ?_
    refine own_ladd H rfl at_169 ?_
    refine own_invokevirtual H (a := a47) (argsL := [(.long (p3 + ((0 : Int64) + (FGap p4 (0 : Int32)))))]) (rest := [(.int (1 : Int32))]) (rmX1_0_1 l Z a0 (own_hw H) h71 n0 a47 (p3 + ((0 : Int64) + (FGap p4 (0 : Int32)))) p2 a73 kA74 (p3 + (0 : Int64)) f87 f78 f79 f80 f81 f82 f83 f84 f86 f53 f75) f78 (w1 := 19) (w0 := 20) (w5 := 22) (w2 := 21) (w3 := 8) (w4 := 23) rfl rfl rfl rfl rfl rfl own_pd2 rfl 1 (by decide) rfl (by decide) (Nat.le_of_eq rfl) (by decide) (by decide) (by decide) rfl at_170 ?_
    rintro _ h90 ⟨rfl, K91, f92, f93, f94, f95, f96, f97, f98⟩
    have f99 : n0 ≤ h90.size := Nat.le_trans f87 K91.1
    have f100 : Arv Z h90 a2 kA3 .long (7 : Int32) [(.long (0 : Int64)), (.long ((0 : Int64) + (FGap p4 (0 : Int32)))), (.long (((0 : Int64) + (FGap p4 (0 : Int32))) + (FGap p4 (32 : Int32)))), (.long ((((0 : Int64) + (FGap p4 (0 : Int32))) + (FGap p4 (32 : Int32))) + (FGap p5 (0 : Int32)))), (.long (((((0 : Int64) + (FGap p4 (0 : Int32))) + (FGap p4 (32 : Int32))) + (FGap p5 (0 : Int32))) + (FGap p5 (32 : Int32)))), (.long ((((((0 : Int64) + (FGap p4 (0 : Int32))) + (FGap p4 (32 : Int32))) + (FGap p5 (0 : Int32))) + (FGap p5 (32 : Int32))) + (FGap p6 (0 : Int32)))), (.long (((((((0 : Int64) + (FGap p4 (0 : Int32))) + (FGap p4 (32 : Int32))) + (FGap p5 (0 : Int32))) + (FGap p5 (32 : Int32))) + (FGap p6 (0 : Int32))) + (FGap p6 (32 : Int32))))] (.long 0) := f88.keep K91 (ninS f52 (ninS f85 nin0))
    have f101 : Exa Z h90 a47 "com/example/trailwire/trailwire/http2/BurstLimit" := f78.keep K91
    show own_G _ _ _ _ _ _ _ _ 173 #[.val (.int p1), .val (.long p2), .second, .val (.long p3), .second, .val (.long p4), .second, .val (.long p5), .second, .val (.long p6), .second, .val (.int (1 : Int32)), .val (.ref a2), .val (.ref a47), .val (.int (1 : Int32))] [(.int (if ((p3 + ((0 : Int64) + (FGap p4 (0 : Int32)))) - (p3 + (0 : Int64))) < p2 then (1 : Int32) else (0 : Int32))), (.int (1 : Int32))]
    refine own_iconst H (1 : Int32) (by decide) at_173 ?_
    refine own_iload H rfl at_174 ?_
    refine own_aload H rfl rfl at_176 ?_
    refine own_lload_n H rfl at_178 ?_
    refine own_invokestatic H (argsL := [(.int (1 : Int32)), (.int (1 : Int32)), (.ref a2), (.long p2)]) (rest := [(.int (if ((p3 + ((0 : Int64) + (FGap p4 (0 : Int32)))) - (p3 + (0 : Int64))) < p2 then (1 : Int32) else (0 : Int32))), (.int (1 : Int32))]) (rmE1_1 l Z a0 (own_hw H) h90 n0 a2 p2 kA3 (0 : Int64) ((0 : Int64) + (FGap p4 (0 : Int32))) (((0 : Int64) + (FGap p4 (0 : Int32))) + (FGap p4 (32 : Int32))) ((((0 : Int64) + (FGap p4 (0 : Int32))) + (FGap p4 (32 : Int32))) + (FGap p5 (0 : Int32))) (((((0 : Int64) + (FGap p4 (0 : Int32))) + (FGap p4 (32 : Int32))) + (FGap p5 (0 : Int32))) + (FGap p5 (32 : Int32))) ((((((0 : Int64) + (FGap p4 (0 : Int32))) + (FGap p4 (32 : Int32))) + (FGap p5 (0 : Int32))) + (FGap p5 (32 : Int32))) + (FGap p6 (0 : Int32))) (((((((0 : Int64) + (FGap p4 (0 : Int32))) + (FGap p4 (32 : Int32))) + (FGap p5 (0 : Int32))) + (FGap p5 (32 : Int32))) + (FGap p6 (0 : Int32))) + (FGap p6 (32 : Int32))) f100) (w1 := 30) (w2 := 31) (w3 := 3) (w4 := 32) rfl rfl rfl rfl own_pd3 rfl 2 (by decide) rfl (by decide) (Nat.le_of_eq rfl) (by decide) (by decide) (by decide) rfl at_179 ?_
    rintro _ _ ⟨rfl, rfl⟩
    show own_G _ _ _ _ _ _ _ _ 182 #[.val (.int p1), .val (.long p2), .second, .val (.long p3), .second, .val (.long p4), .second, .val (.long p5), .second, .val (.long p6), .second, .val (.int (1 : Int32)), .val (.ref a2), .val (.ref a47), .val (.int (1 : Int32))] [(.int (if (((0 : Int64) + (FGap p4 (0 : Int32))) - (0 : Int64)) < p2 then (1 : Int32) else (0 : Int32))), (.int (if ((p3 + ((0 : Int64) + (FGap p4 (0 : Int32)))) - (p3 + (0 : Int64))) < p2 then (1 : Int32) else (0 : Int32))), (.int (1 : Int32))]
    refine own_icmpne_f H at_182 (by simp only [own_sub]) ?_
    refine own_iconst H (1 : Int32) (by decide) at_185 ?_
    refine own_goto H (pc' := 190) at_186 (by decide) (by decide) ?_
    refine own_iand (v := (1 : Int32)) H (by decide) at_190 ?_
    refine own_istore H #[.val (.int p1), .val (.long p2), .second, .val (.long p3), .second, .val (.long p4), .second, .val (.long p5), .second, .val (.long p6), .second, .val (.int (1 : Int32)), .val (.ref a2), .val (.ref a47), .val (.int (1 : Int32))] rfl at_191 ?_
    refine own_iload H rfl at_193 ?_
    refine own_aload H rfl rfl at_195 ?_
    refine own_lload_n H rfl at_197 ?_
    refine own_aload H rfl rfl at_198 ?_
    refine own_iconst H (2 : Int32) (by decide) at_200 ?_
    refine own_laloadV H f100 (by decide) (by decide) rfl at_201 ?_
    refine own_ladd H rfl at_202 ?_
    refine own_invokevirtual H (a := a47) (argsL := [(.long (p3 + (((0 : Int64) + (FGap p4 (0 : Int32))) + (FGap p4 (32 : Int32)))))]) (rest := [(.int (1 : Int32))]) (rmX1_0_1 l Z a0 (own_hw H) h90 n0 a47 (p3 + (((0 : Int64) + (FGap p4 (0 : Int32))) + (FGap p4 (32 : Int32)))) p2 a73 kA74 (p3 + ((0 : Int64) + (FGap p4 (0 : Int32)))) f99 f92 f93 f94 f95 f96 f97 f98 f86 f53 f75) f92 (w1 := 19) (w0 := 20) (w5 := 22) (w2 := 21) (w3 := 8) (w4 := 23) rfl rfl rfl rfl rfl rfl own_pd2 rfl 1 (by decide) rfl (by decide) (Nat.le_of_eq rfl) (by decide) (by decide) (by decide) rfl at_203 ?_
    rintro _ h102 ⟨rfl, K103, f104, f105, f106, f107, f108, f109, f110⟩
    have f111 : n0 ≤ h102.size := Nat.le_trans f99 K103.1
    have f112 : Arv Z h102 a2 kA3 .long (7 : Int32) [(.long (0 : Int64)), (.long ((0 : Int64) + (FGap p4 (0 : Int32)))), (.long (((0 : Int64) + (FGap p4 (0 : Int32))) + (FGap p4 (32 : Int32)))), (.long ((((0 : Int64) + (FGap p4 (0 : Int32))) + (FGap p4 (32 : Int32))) + (FGap p5 (0 : Int32)))), (.long (((((0 : Int64) + (FGap p4 (0 : Int32))) + (FGap p4 (32 : Int32))) + (FGap p5 (0 : Int32))) + (FGap p5 (32 : Int32)))), (.long ((((((0 : Int64) + (FGap p4 (0 : Int32))) + (FGap p4 (32 : Int32))) + (FGap p5 (0 : Int32))) + (FGap p5 (32 : Int32))) + (FGap p6 (0 : Int32)))), (.long (((((((0 : Int64) + (FGap p4 (0 : Int32))) + (FGap p4 (32 : Int32))) + (FGap p5 (0 : Int32))) + (FGap p5 (32 : Int32))) + (FGap p6 (0 : Int32))) + (FGap p6 (32 : Int32))))] (.long 0) := f100.keep K103 (ninS f52 (ninS f85 nin0))
    have f113 : Exa Z h102 a47 "com/example/trailwire/trailwire/http2/BurstLimit" := f92.keep K103
    show own_G _ _ _ _ _ _ _ _ 206 #[.val (.int p1), .val (.long p2), .second, .val (.long p3), .second, .val (.long p4), .second, .val (.long p5), .second, .val (.long p6), .second, .val (.int (1 : Int32)), .val (.ref a2), .val (.ref a47), .val (.int (1 : Int32))] [(.int (if ((p3 + (((0 : Int64) + (FGap p4 (0 : Int32))) + (FGap p4 (32 : Int32)))) - (p3 + ((0 : Int64) + (FGap p4 (0 : Int32))))) < p2 then (1 : Int32) else (0 : Int32))), (.int (1 : Int32))]
    refine own_iconst H (2 : Int32) (by decide) at_206 ?_
    refine own_iload H rfl at_207 ?_
    refine own_aload H rfl rfl at_209 ?_
    refine own_lload_n H rfl at_211 ?_
    refine own_invokestatic H (argsL := [(.int (2 : Int32)), (.int (1 : Int32)), (.ref a2), (.long p2)]) (rest := [(.int (if ((p3 + (((0 : Int64) + (FGap p4 (0 : Int32))) + (FGap p4 (32 : Int32)))) - (p3 + ((0 : Int64) + (FGap p4 (0 : Int32))))) < p2 then (1 : Int32) else (0 : Int32))), (.int (1 : Int32))]) (rmE2_1 l Z a0 (own_hw H) h102 n0 a2 p2 kA3 (0 : Int64) ((0 : Int64) + (FGap p4 (0 : Int32))) (((0 : Int64) + (FGap p4 (0 : Int32))) + (FGap p4 (32 : Int32))) ((((0 : Int64) + (FGap p4 (0 : Int32))) + (FGap p4 (32 : Int32))) + (FGap p5 (0 : Int32))) (((((0 : Int64) + (FGap p4 (0 : Int32))) + (FGap p4 (32 : Int32))) + (FGap p5 (0 : Int32))) + (FGap p5 (32 : Int32))) ((((((0 : Int64) + (FGap p4 (0 : Int32))) + (FGap p4 (32 : Int32))) + (FGap p5 (0 : Int32))) + (FGap p5 (32 : Int32))) + (FGap p6 (0 : Int32))) (((((((0 : Int64) + (FGap p4 (0 : Int32))) + (FGap p4 (32 : Int32))) + (FGap p5 (0 : Int32))) + (FGap p5 (32 : Int32))) + (FGap p6 (0 : Int32))) + (FGap p6 (32 : Int32))) f112) (w1 := 30) (w2 := 31) (w3 := 3) (w4 := 32) rfl rfl rfl rfl own_pd3 rfl 2 (by decide) rfl (by decide) (Nat.le_of_eq rfl) (by decide) (by decide) (by decide) rfl at_212 ?_
    rintro _ _ ⟨rfl, rfl⟩
    show own_G _ _ _ _ _ _ _ _ 215 #[.val (.int p1), .val (.long p2), .second, .val (.long p3), .second, .val (.long p4), .second, .val (.long p5), .second, .val (.long p6), .second, .val (.int (1 : Int32)), .val (.ref a2), .val (.ref a47), .val (.int (1 : Int32))] [(.int (if ((((0 : Int64) + (FGap p4 (0 : Int32))) + (FGap p4 (32 : Int32))) - ((0 : Int64) + (FGap p4 (0 : Int32)))) < p2 then (1 : Int32) else (0 : Int32))), (.int (if ((p3 + (((0 : Int64) + (FGap p4 (0 : Int32))) + (FGap p4 (32 : Int32)))) - (p3 + ((0 : Int64) + (FGap p4 (0 : Int32))))) < p2 then (1 : Int32) else (0 : Int32))), (.int (1 : Int32))]
    refine own_icmpne_f H at_215 (by simp only [own_sub]) ?_
    refine own_iconst H (1 : Int32) (by decide) at_218 ?_
    refine own_goto H (pc' := 223) at_219 (by decide) (by decide) ?_
    refine own_iand (v := (1 : Int32)) H (by decide) at_223 ?_
    refine own_istore H #[.val (.int p1), .val (.long p2), .second, .val (.long p3), .second, .val (.long p4), .second, .val (.long p5), .second, .val (.long p6), .second, .val (.int (1 : Int32)), .val (.ref a2), .val (.ref a47), .val (.int (1 : Int32))] rfl at_224 ?_
    refine own_iload H rfl at_226 ?_
    refine own_aload H rfl rfl at_228 ?_
    refine own_lload_n H rfl at_230 ?_
    refine own_aload H rfl rfl at_231 ?_
    refine own_iconst H (3 : Int32) (by decide) at_233 ?_
    refine own_laloadV H f112 (by decide) (by decide) rfl at_234 ?_
    refine own_ladd H rfl at_235 ?_
    refine own_invokevirtual H (a := a47) (argsL := [(.long (p3 + ((((0 : Int64) + (FGap p4 (0 : Int32))) + (FGap p4 (32 : Int32))) + (FGap p5 (0 : Int32)))))]) (rest := [(.int (1 : Int32))]) (rmX1_0_1 l Z a0 (own_hw H) h102 n0 a47 (p3 + ((((0 : Int64) + (FGap p4 (0 : Int32))) + (FGap p4 (32 : Int32))) + (FGap p5 (0 : Int32)))) p2 a73 kA74 (p3 + (((0 : Int64) + (FGap p4 (0 : Int32))) + (FGap p4 (32 : Int32)))) f111 f104 f105 f106 f107 f108 f109 f110 f86 f53 f75) f104 (w1 := 19) (w0 := 20) (w5 := 22) (w2 := 21) (w3 := 8) (w4 := 23) rfl rfl rfl rfl rfl rfl own_pd2 rfl 1 (by decide) rfl (by decide) (Nat.le_of_eq rfl) (by decide) (by decide) (by decide) rfl at_236 ?_
    rintro _ h114 ⟨rfl, K115, f116, f117, f118, f119, f120, f121, f122⟩
    have f123 : n0 ≤ h114.size := Nat.le_trans f111 K115.1
    have f124 : Arv Z h114 a2 kA3 .long (7 : Int32) [(.long (0 : Int64)), (.long ((0 : Int64) + (FGap p4 (0 : Int32)))), (.long (((0 : Int64) + (FGap p4 (0 : Int32))) + (FGap p4 (32 : Int32)))), (.long ((((0 : Int64) + (FGap p4 (0 : Int32))) + (FGap p4 (32 : Int32))) + (FGap p5 (0 : Int32)))), (.long (((((0 : Int64) + (FGap p4 (0 : Int32))) + (FGap p4 (32 : Int32))) + (FGap p5 (0 : Int32))) + (FGap p5 (32 : Int32)))), (.long ((((((0 : Int64) + (FGap p4 (0 : Int32))) + (FGap p4 (32 : Int32))) + (FGap p5 (0 : Int32))) + (FGap p5 (32 : Int32))) + (FGap p6 (0 : Int32)))), (.long (((((((0 : Int64) + (FGap p4 (0 : Int32))) + (FGap p4 (32 : Int32))) + (FGap p5 (0 : Int32))) + (FGap p5 (32 : Int32))) + (FGap p6 (0 : Int32))) + (FGap p6 (32 : Int32))))] (.long 0) := f112.keep K115 (ninS f52 (ninS f85 nin0))
    have f125 : Exa Z h114 a47 "com/example/trailwire/trailwire/http2/BurstLimit" := f104.keep K115
    show own_G _ _ _ _ _ _ _ _ 239 #[.val (.int p1), .val (.long p2), .second, .val (.long p3), .second, .val (.long p4), .second, .val (.long p5), .second, .val (.long p6), .second, .val (.int (1 : Int32)), .val (.ref a2), .val (.ref a47), .val (.int (1 : Int32))] [(.int (if ((p3 + ((((0 : Int64) + (FGap p4 (0 : Int32))) + (FGap p4 (32 : Int32))) + (FGap p5 (0 : Int32)))) - (p3 + (((0 : Int64) + (FGap p4 (0 : Int32))) + (FGap p4 (32 : Int32))))) < p2 then (1 : Int32) else (0 : Int32))), (.int (1 : Int32))]
    refine own_iconst H (3 : Int32) (by decide) at_239 ?_
    refine own_iload H rfl at_240 ?_
    refine own_aload H rfl rfl at_242 ?_
    refine own_lload_n H rfl at_244 ?_
    refine own_invokestatic H (argsL := [(.int (3 : Int32)), (.int (1 : Int32)), (.ref a2), (.long p2)]) (rest := [(.int (if ((p3 + ((((0 : Int64) + (FGap p4 (0 : Int32))) + (FGap p4 (32 : Int32))) + (FGap p5 (0 : Int32)))) - (p3 + (((0 : Int64) + (FGap p4 (0 : Int32))) + (FGap p4 (32 : Int32))))) < p2 then (1 : Int32) else (0 : Int32))), (.int (1 : Int32))]) (rmE3_1 l Z a0 (own_hw H) h114 n0 a2 p2 kA3 (0 : Int64) ((0 : Int64) + (FGap p4 (0 : Int32))) (((0 : Int64) + (FGap p4 (0 : Int32))) + (FGap p4 (32 : Int32))) ((((0 : Int64) + (FGap p4 (0 : Int32))) + (FGap p4 (32 : Int32))) + (FGap p5 (0 : Int32))) (((((0 : Int64) + (FGap p4 (0 : Int32))) + (FGap p4 (32 : Int32))) + (FGap p5 (0 : Int32))) + (FGap p5 (32 : Int32))) ((((((0 : Int64) + (FGap p4 (0 : Int32))) + (FGap p4 (32 : Int32))) + (FGap p5 (0 : Int32))) + (FGap p5 (32 : Int32))) + (FGap p6 (0 : Int32))) (((((((0 : Int64) + (FGap p4 (0 : Int32))) + (FGap p4 (32 : Int32))) + (FGap p5 (0 : Int32))) + (FGap p5 (32 : Int32))) + (FGap p6 (0 : Int32))) + (FGap p6 (32 : Int32))) f124) (w1 := 30) (w2 := 31) (w3 := 3) (w4 := 32) rfl rfl rfl rfl own_pd3 rfl 2 (by decide) rfl (by decide) (Nat.le_of_eq rfl) (by decide) (by decide) (by decide) rfl at_245 ?_
    rintro _ _ ⟨rfl, rfl⟩
    show own_G _ _ _ _ _ _ _ _ 248 #[.val (.int p1), .val (.long p2), .second, .val (.long p3), .second, .val (.long p4), .second, .val (.long p5), .second, .val (.long p6), .second, .val (.int (1 : Int32)), .val (.ref a2), .val (.ref a47), .val (.int (1 : Int32))] [(.int (if (((((0 : Int64) + (FGap p4 (0 : Int32))) + (FGap p4 (32 : Int32))) + (FGap p5 (0 : Int32))) - (((0 : Int64) + (FGap p4 (0 : Int32))) + (FGap p4 (32 : Int32)))) < p2 then (1 : Int32) else (0 : Int32))), (.int (if ((p3 + ((((0 : Int64) + (FGap p4 (0 : Int32))) + (FGap p4 (32 : Int32))) + (FGap p5 (0 : Int32)))) - (p3 + (((0 : Int64) + (FGap p4 (0 : Int32))) + (FGap p4 (32 : Int32))))) < p2 then (1 : Int32) else (0 : Int32))), (.int (1 : Int32))]
    refine own_icmpne_f H at_248 (by simp only [own_sub]) ?_
    refine own_iconst H (1 : Int32) (by decide) at_251 ?_
    refine own_goto H (pc' := 256) at_252 (by decide) (by decide) ?_
    refine own_iand (v := (1 : Int32)) H (by decide) at_256 ?_
    refine own_istore H #[.val (.int p1), .val (.long p2), .second, .val (.long p3), .second, .val (.long p4), .second, .val (.long p5), .second, .val (.long p6), .second, .val (.int (1 : Int32)), .val (.ref a2), .val (.ref a47), .val (.int (1 : Int32))] rfl at_257 ?_
    refine own_iload H rfl at_259 ?_
    refine own_aload H rfl rfl at_261 ?_
    refine own_lload_n H rfl at_263 ?_
    refine own_aload H rfl rfl at_264 ?_
    refine own_iconst H (4 : Int32) (by decide) at_266 ?_
    refine own_laloadV H f124 (by decide) (by decide) rfl at_267 ?_
    refine own_ladd H rfl at_268 ?_
    refine own_invokevirtual H (a := a47) (argsL := [(.long (p3 + (((((0 : Int64) + (FGap p4 (0 : Int32))) + (FGap p4 (32 : Int32))) + (FGap p5 (0 : Int32))) + (FGap p5 (32 : Int32)))))]) (rest := [(.int (1 : Int32))]) (rmX1_0_1 l Z a0 (own_hw H) h114 n0 a47 (p3 + (((((0 : Int64) + (FGap p4 (0 : Int32))) + (FGap p4 (32 : Int32))) + (FGap p5 (0 : Int32))) + (FGap p5 (32 : Int32)))) p2 a73 kA74 (p3 + ((((0 : Int64) + (FGap p4 (0 : Int32))) + (FGap p4 (32 : Int32))) + (FGap p5 (0 : Int32)))) f123 f116 f117 f118 f119 f120 f121 f122 f86 f53 f75) f116 (w1 := 19) (w0 := 20) (w5 := 22) (w2 := 21) (w3 := 8) (w4 := 23) rfl rfl rfl rfl rfl rfl own_pd2 rfl 1 (by decide) rfl (by decide) (Nat.le_of_eq rfl) (by decide) (by decide) (by decide) rfl at_269 ?_
    rintro _ h126 ⟨rfl, K127, f128, f129, f130, f131, f132, f133, f134⟩
    have f135 : n0 ≤ h126.size := Nat.le_trans f123 K127.1
    have f136 : Arv Z h126 a2 kA3 .long (7 : Int32) [(.long (0 : Int64)), (.long ((0 : Int64) + (FGap p4 (0 : Int32)))), (.long (((0 : Int64) + (FGap p4 (0 : Int32))) + (FGap p4 (32 : Int32)))), (.long ((((0 : Int64) + (FGap p4 (0 : Int32))) + (FGap p4 (32 : Int32))) + (FGap p5 (0 : Int32)))), (.long (((((0 : Int64) + (FGap p4 (0 : Int32))) + (FGap p4 (32 : Int32))) + (FGap p5 (0 : Int32))) + (FGap p5 (32 : Int32)))), (.long ((((((0 : Int64) + (FGap p4 (0 : Int32))) + (FGap p4 (32 : Int32))) + (FGap p5 (0 : Int32))) + (FGap p5 (32 : Int32))) + (FGap p6 (0 : Int32)))), (.long (((((((0 : Int64) + (FGap p4 (0 : Int32))) + (FGap p4 (32 : Int32))) + (FGap p5 (0 : Int32))) + (FGap p5 (32 : Int32))) + (FGap p6 (0 : Int32))) + (FGap p6 (32 : Int32))))] (.long 0) := f124.keep K127 (ninS f52 (ninS f85 nin0))
    have f137 : Exa Z h126 a47 "com/example/trailwire/trailwire/http2/BurstLimit" := f116.keep K127
    show own_G _ _ _ _ _ _ _ _ 272 #[.val (.int p1), .val (.long p2), .second, .val (.long p3), .second, .val (.long p4), .second, .val (.long p5), .second, .val (.long p6), .second, .val (.int (1 : Int32)), .val (.ref a2), .val (.ref a47), .val (.int (1 : Int32))] [(.int (if ((p3 + (((((0 : Int64) + (FGap p4 (0 : Int32))) + (FGap p4 (32 : Int32))) + (FGap p5 (0 : Int32))) + (FGap p5 (32 : Int32)))) - (p3 + ((((0 : Int64) + (FGap p4 (0 : Int32))) + (FGap p4 (32 : Int32))) + (FGap p5 (0 : Int32))))) < p2 then (1 : Int32) else (0 : Int32))), (.int (1 : Int32))]
    refine own_iconst H (4 : Int32) (by decide) at_272 ?_
    refine own_iload H rfl at_273 ?_
    refine own_aload H rfl rfl at_275 ?_
    refine own_lload_n H rfl at_277 ?_
    refine own_invokestatic H (argsL := [(.int (4 : Int32)), (.int (1 : Int32)), (.ref a2), (.long p2)]) (rest := [(.int (if ((p3 + (((((0 : Int64) + (FGap p4 (0 : Int32))) + (FGap p4 (32 : Int32))) + (FGap p5 (0 : Int32))) + (FGap p5 (32 : Int32)))) - (p3 + ((((0 : Int64) + (FGap p4 (0 : Int32))) + (FGap p4 (32 : Int32))) + (FGap p5 (0 : Int32))))) < p2 then (1 : Int32) else (0 : Int32))), (.int (1 : Int32))]) (rmE4_1 l Z a0 (own_hw H) h126 n0 a2 p2 kA3 (0 : Int64) ((0 : Int64) + (FGap p4 (0 : Int32))) (((0 : Int64) + (FGap p4 (0 : Int32))) + (FGap p4 (32 : Int32))) ((((0 : Int64) + (FGap p4 (0 : Int32))) + (FGap p4 (32 : Int32))) + (FGap p5 (0 : Int32))) (((((0 : Int64) + (FGap p4 (0 : Int32))) + (FGap p4 (32 : Int32))) + (FGap p5 (0 : Int32))) + (FGap p5 (32 : Int32))) ((((((0 : Int64) + (FGap p4 (0 : Int32))) + (FGap p4 (32 : Int32))) + (FGap p5 (0 : Int32))) + (FGap p5 (32 : Int32))) + (FGap p6 (0 : Int32))) (((((((0 : Int64) + (FGap p4 (0 : Int32))) + (FGap p4 (32 : Int32))) + (FGap p5 (0 : Int32))) + (FGap p5 (32 : Int32))) + (FGap p6 (0 : Int32))) + (FGap p6 (32 : Int32))) f136) (w1 := 30) (w2 := 31) (w3 := 3) (w4 := 32) rfl rfl rfl rfl own_pd3 rfl 2 (by decide) rfl (by decide) (Nat.le_of_eq rfl) (by decide) (by decide) (by decide) rfl at_278 ?_
    rintro _ _ ⟨rfl, rfl⟩
    show own_G _ _ _ _ _ _ _ _ 281 #[.val (.int p1), .val (.long p2), .second, .val (.long p3), .second, .val (.long p4), .second, .val (.long p5), .second, .val (.long p6), .second, .val (.int (1 : Int32)), .val (.ref a2), .val (.ref a47), .val (.int (1 : Int32))] [(.int (if ((((((0 : Int64) + (FGap p4 (0 : Int32))) + (FGap p4 (32 : Int32))) + (FGap p5 (0 : Int32))) + (FGap p5 (32 : Int32))) - ((((0 : Int64) + (FGap p4 (0 : Int32))) + (FGap p4 (32 : Int32))) + (FGap p5 (0 : Int32)))) < p2 then (1 : Int32) else (0 : Int32))), (.int (if ((p3 + (((((0 : Int64) + (FGap p4 (0 : Int32))) + (FGap p4 (32 : Int32))) + (FGap p5 (0 : Int32))) + (FGap p5 (32 : Int32)))) - (p3 + ((((0 : Int64) + (FGap p4 (0 : Int32))) + (FGap p4 (32 : Int32))) + (FGap p5 (0 : Int32))))) < p2 then (1 : Int32) else (0 : Int32))), (.int (1 : Int32))]
    refine own_icmpne_f H at_281 (by simp only [own_sub]) ?_
    refine own_iconst H (1 : Int32) (by decide) at_284 ?_
    refine own_goto H (pc' := 289) at_285 (by decide) (by decide) ?_
    refine own_iand (v := (1 : Int32)) H (by decide) at_289 ?_
    refine own_istore H #[.val (.int p1), .val (.long p2), .second, .val (.long p3), .second, .val (.long p4), .second, .val (.long p5), .second, .val (.long p6), .second, .val (.int (1 : Int32)), .val (.ref a2), .val (.ref a47), .val (.int (1 : Int32))] rfl at_290 ?_
    refine own_iload H rfl at_292 ?_
    refine own_aload H rfl rfl at_294 ?_
    refine own_lload_n H rfl at_296 ?_
    refine own_aload H rfl rfl at_297 ?_
    refine own_iconst H (5 : Int32) (by decide) at_299 ?_
    refine own_laloadV H f136 (by decide) (by decide) rfl at_300 ?_
    refine own_ladd H rfl at_301 ?_
    refine own_invokevirtual H (a := a47) (argsL := [(.long (p3 + ((((((0 : Int64) + (FGap p4 (0 : Int32))) + (FGap p4 (32 : Int32))) + (FGap p5 (0 : Int32))) + (FGap p5 (32 : Int32))) + (FGap p6 (0 : Int32)))))]) (rest := [(.int (1 : Int32))]) (rmX1_0_1 l Z a0 (own_hw H) h126 n0 a47 (p3 + ((((((0 : Int64) + (FGap p4 (0 : Int32))) + (FGap p4 (32 : Int32))) + (FGap p5 (0 : Int32))) + (FGap p5 (32 : Int32))) + (FGap p6 (0 : Int32)))) p2 a73 kA74 (p3 + (((((0 : Int64) + (FGap p4 (0 : Int32))) + (FGap p4 (32 : Int32))) + (FGap p5 (0 : Int32))) + (FGap p5 (32 : Int32)))) f135 f128 f129 f130 f131 f132 f133 f134 f86 f53 f75) f128 (w1 := 19) (w0 := 20) (w5 := 22) (w2 := 21) (w3 := 8) (w4 := 23) rfl rfl rfl rfl rfl rfl own_pd2 rfl 1 (by decide) rfl (by decide) (Nat.le_of_eq rfl) (by decide) (by decide) (by decide) rfl at_302 ?_
    rintro _ h138 ⟨rfl, K139, f140, f141, f142, f143, f144, f145, f146⟩
    have f147 : n0 ≤ h138.size := Nat.le_trans f135 K139.1
    have f148 : Arv Z h138 a2 kA3 .long (7 : Int32) [(.long (0 : Int64)), (.long ((0 : Int64) + (FGap p4 (0 : Int32)))), (.long (((0 : Int64) + (FGap p4 (0 : Int32))) + (FGap p4 (32 : Int32)))), (.long ((((0 : Int64) + (FGap p4 (0 : Int32))) + (FGap p4 (32 : Int32))) + (FGap p5 (0 : Int32)))), (.long (((((0 : Int64) + (FGap p4 (0 : Int32))) + (FGap p4 (32 : Int32))) + (FGap p5 (0 : Int32))) + (FGap p5 (32 : Int32)))), (.long ((((((0 : Int64) + (FGap p4 (0 : Int32))) + (FGap p4 (32 : Int32))) + (FGap p5 (0 : Int32))) + (FGap p5 (32 : Int32))) + (FGap p6 (0 : Int32)))), (.long (((((((0 : Int64) + (FGap p4 (0 : Int32))) + (FGap p4 (32 : Int32))) + (FGap p5 (0 : Int32))) + (FGap p5 (32 : Int32))) + (FGap p6 (0 : Int32))) + (FGap p6 (32 : Int32))))] (.long 0) := f136.keep K139 (ninS f52 (ninS f85 nin0))
    have f149 : Exa Z h138 a47 "com/example/trailwire/trailwire/http2/BurstLimit" := f128.keep K139
    show own_G _ _ _ _ _ _ _ _ 305 #[.val (.int p1), .val (.long p2), .second, .val (.long p3), .second, .val (.long p4), .second, .val (.long p5), .second, .val (.long p6), .second, .val (.int (1 : Int32)), .val (.ref a2), .val (.ref a47), .val (.int (1 : Int32))] [(.int (if ((p3 + ((((((0 : Int64) + (FGap p4 (0 : Int32))) + (FGap p4 (32 : Int32))) + (FGap p5 (0 : Int32))) + (FGap p5 (32 : Int32))) + (FGap p6 (0 : Int32)))) - (p3 + (((((0 : Int64) + (FGap p4 (0 : Int32))) + (FGap p4 (32 : Int32))) + (FGap p5 (0 : Int32))) + (FGap p5 (32 : Int32))))) < p2 then (1 : Int32) else (0 : Int32))), (.int (1 : Int32))]
    refine own_iconst H (5 : Int32) (by decide) at_305 ?_
    refine own_iload H rfl at_306 ?_
    refine own_aload H rfl rfl at_308 ?_
    refine own_lload_n H rfl at_310 ?_
    refine own_invokestatic H (argsL := [(.int (5 : Int32)), (.int (1 : Int32)), (.ref a2), (.long p2)]) (rest := [(.int (if ((p3 + ((((((0 : Int64) + (FGap p4 (0 : Int32))) + (FGap p4 (32 : Int32))) + (FGap p5 (0 : Int32))) + (FGap p5 (32 : Int32))) + (FGap p6 (0 : Int32)))) - (p3 + (((((0 : Int64) + (FGap p4 (0 : Int32))) + (FGap p4 (32 : Int32))) + (FGap p5 (0 : Int32))) + (FGap p5 (32 : Int32))))) < p2 then (1 : Int32) else (0 : Int32))), (.int (1 : Int32))]) (rmE5_1 l Z a0 (own_hw H) h138 n0 a2 p2 kA3 (0 : Int64) ((0 : Int64) + (FGap p4 (0 : Int32))) (((0 : Int64) + (FGap p4 (0 : Int32))) + (FGap p4 (32 : Int32))) ((((0 : Int64) + (FGap p4 (0 : Int32))) + (FGap p4 (32 : Int32))) + (FGap p5 (0 : Int32))) (((((0 : Int64) + (FGap p4 (0 : Int32))) + (FGap p4 (32 : Int32))) + (FGap p5 (0 : Int32))) + (FGap p5 (32 : Int32))) ((((((0 : Int64) + (FGap p4 (0 : Int32))) + (FGap p4 (32 : Int32))) + (FGap p5 (0 : Int32))) + (FGap p5 (32 : Int32))) + (FGap p6 (0 : Int32))) (((((((0 : Int64) + (FGap p4 (0 : Int32))) + (FGap p4 (32 : Int32))) + (FGap p5 (0 : Int32))) + (FGap p5 (32 : Int32))) + (FGap p6 (0 : Int32))) + (FGap p6 (32 : Int32))) f148) (w1 := 30) (w2 := 31) (w3 := 3) (w4 := 32) rfl rfl rfl rfl own_pd3 rfl 2 (by decide) rfl (by decide) (Nat.le_of_eq rfl) (by decide) (by decide) (by decide) rfl at_311 ?_
    rintro _ _ ⟨rfl, rfl⟩
    show own_G _ _ _ _ _ _ _ _ 314 #[.val (.int p1), .val (.long p2), .second, .val (.long p3), .second, .val (.long p4), .second, .val (.long p5), .second, .val (.long p6), .second, .val (.int (1 : Int32)), .val (.ref a2), .val (.ref a47), .val (.int (1 : Int32))] [(.int (if (((((((0 : Int64) + (FGap p4 (0 : Int32))) + (FGap p4 (32 : Int32))) + (FGap p5 (0 : Int32))) + (FGap p5 (32 : Int32))) + (FGap p6 (0 : Int32))) - (((((0 : Int64) + (FGap p4 (0 : Int32))) + (FGap p4 (32 : Int32))) + (FGap p5 (0 : Int32))) + (FGap p5 (32 : Int32)))) < p2 then (1 : Int32) else (0 : Int32))), (.int (if ((p3 + ((((((0 : Int64) + (FGap p4 (0 : Int32))) + (FGap p4 (32 : Int32))) + (FGap p5 (0 : Int32))) + (FGap p5 (32 : Int32))) + (FGap p6 (0 : Int32)))) - (p3 + (((((0 : Int64) + (FGap p4 (0 : Int32))) + (FGap p4 (32 : Int32))) + (FGap p5 (0 : Int32))) + (FGap p5 (32 : Int32))))) < p2 then (1 : Int32) else (0 : Int32))), (.int (1 : Int32))]
    refine own_icmpne_f H at_314 (by simp only [own_sub]) ?_
    refine own_iconst H (1 : Int32) (by decide) at_317 ?_
    refine own_goto H (pc' := 322) at_318 (by decide) (by decide) ?_
    refine own_iand (v := (1 : Int32)) H (by decide) at_322 ?_
    refine own_istore H #[.val (.int p1), .val (.long p2), .second, .val (.long p3), .second, .val (.long p4), .second, .val (.long p5), .second, .val (.long p6), .second, .val (.int (1 : Int32)), .val (.ref a2), .val (.ref a47), .val (.int (1 : Int32))] rfl at_323 ?_
    refine own_iload H rfl at_325 ?_
    refine own_aload H rfl rfl at_327 ?_
    refine own_lload_n H rfl at_329 ?_
    refine own_aload H rfl rfl at_330 ?_
    refine own_bipush H (6 : Int32) (by decide) at_332 ?_
    refine own_laloadV H f148 (by decide) (by decide) rfl at_334 ?_
    refine own_ladd H rfl at_335 ?_
    refine own_invokevirtual H (a := a47) (argsL := [(.long (p3 + (((((((0 : Int64) + (FGap p4 (0 : Int32))) + (FGap p4 (32 : Int32))) + (FGap p5 (0 : Int32))) + (FGap p5 (32 : Int32))) + (FGap p6 (0 : Int32))) + (FGap p6 (32 : Int32)))))]) (rest := [(.int (1 : Int32))]) (rmX1_0_1 l Z a0 (own_hw H) h138 n0 a47 (p3 + (((((((0 : Int64) + (FGap p4 (0 : Int32))) + (FGap p4 (32 : Int32))) + (FGap p5 (0 : Int32))) + (FGap p5 (32 : Int32))) + (FGap p6 (0 : Int32))) + (FGap p6 (32 : Int32)))) p2 a73 kA74 (p3 + ((((((0 : Int64) + (FGap p4 (0 : Int32))) + (FGap p4 (32 : Int32))) + (FGap p5 (0 : Int32))) + (FGap p5 (32 : Int32))) + (FGap p6 (0 : Int32)))) f147 f140 f141 f142 f143 f144 f145 f146 f86 f53 f75) f140 (w1 := 19) (w0 := 20) (w5 := 22) (w2 := 21) (w3 := 8) (w4 := 23) rfl rfl rfl rfl rfl rfl own_pd2 rfl 1 (by decide) rfl (by decide) (Nat.le_of_eq rfl) (by decide) (by decide) (by decide) rfl at_336 ?_
    rintro _ h150 ⟨rfl, K151, f152, f153, f154, f155, f156, f157, f158⟩
    have f159 : n0 ≤ h150.size := Nat.le_trans f147 K151.1
    have f160 : Arv Z h150 a2 kA3 .long (7 : Int32) [(.long (0 : Int64)), (.long ((0 : Int64) + (FGap p4 (0 : Int32)))), (.long (((0 : Int64) + (FGap p4 (0 : Int32))) + (FGap p4 (32 : Int32)))), (.long ((((0 : Int64) + (FGap p4 (0 : Int32))) + (FGap p4 (32 : Int32))) + (FGap p5 (0 : Int32)))), (.long (((((0 : Int64) + (FGap p4 (0 : Int32))) + (FGap p4 (32 : Int32))) + (FGap p5 (0 : Int32))) + (FGap p5 (32 : Int32)))), (.long ((((((0 : Int64) + (FGap p4 (0 : Int32))) + (FGap p4 (32 : Int32))) + (FGap p5 (0 : Int32))) + (FGap p5 (32 : Int32))) + (FGap p6 (0 : Int32)))), (.long (((((((0 : Int64) + (FGap p4 (0 : Int32))) + (FGap p4 (32 : Int32))) + (FGap p5 (0 : Int32))) + (FGap p5 (32 : Int32))) + (FGap p6 (0 : Int32))) + (FGap p6 (32 : Int32))))] (.long 0) := f148.keep K151 (ninS f52 (ninS f85 nin0))
    have f161 : Exa Z h150 a47 "com/example/trailwire/trailwire/http2/BurstLimit" := f140.keep K151
    show own_G _ _ _ _ _ _ _ _ 339 #[.val (.int p1), .val (.long p2), .second, .val (.long p3), .second, .val (.long p4), .second, .val (.long p5), .second, .val (.long p6), .second, .val (.int (1 : Int32)), .val (.ref a2), .val (.ref a47), .val (.int (1 : Int32))] [(.int (if ((p3 + (((((((0 : Int64) + (FGap p4 (0 : Int32))) + (FGap p4 (32 : Int32))) + (FGap p5 (0 : Int32))) + (FGap p5 (32 : Int32))) + (FGap p6 (0 : Int32))) + (FGap p6 (32 : Int32)))) - (p3 + ((((((0 : Int64) + (FGap p4 (0 : Int32))) + (FGap p4 (32 : Int32))) + (FGap p5 (0 : Int32))) + (FGap p5 (32 : Int32))) + (FGap p6 (0 : Int32))))) < p2 then (1 : Int32) else (0 : Int32))), (.int (1 : Int32))]
    refine own_bipush H (6 : Int32) (by decide) at_339 ?_
    refine own_iload H rfl at_341 ?_
    refine own_aload H rfl rfl at_343 ?_
    refine own_lload_n H rfl at_345 ?_
    refine own_invokestatic H (argsL := [(.int (6 : Int32)), (.int (1 : Int32)), (.ref a2), (.long p2)]) (rest := [(.int (if ((p3 + (((((((0 : Int64) + (FGap p4 (0 : Int32))) + (FGap p4 (32 : Int32))) + (FGap p5 (0 : Int32))) + (FGap p5 (32 : Int32))) + (FGap p6 (0 : Int32))) + (FGap p6 (32 : Int32)))) - (p3 + ((((((0 : Int64) + (FGap p4 (0 : Int32))) + (FGap p4 (32 : Int32))) + (FGap p5 (0 : Int32))) + (FGap p5 (32 : Int32))) + (FGap p6 (0 : Int32))))) < p2 then (1 : Int32) else (0 : Int32))), (.int (1 : Int32))]) (rmE6_1 l Z a0 (own_hw H) h150 n0 a2 p2 kA3 (0 : Int64) ((0 : Int64) + (FGap p4 (0 : Int32))) (((0 : Int64) + (FGap p4 (0 : Int32))) + (FGap p4 (32 : Int32))) ((((0 : Int64) + (FGap p4 (0 : Int32))) + (FGap p4 (32 : Int32))) + (FGap p5 (0 : Int32))) (((((0 : Int64) + (FGap p4 (0 : Int32))) + (FGap p4 (32 : Int32))) + (FGap p5 (0 : Int32))) + (FGap p5 (32 : Int32))) ((((((0 : Int64) + (FGap p4 (0 : Int32))) + (FGap p4 (32 : Int32))) + (FGap p5 (0 : Int32))) + (FGap p5 (32 : Int32))) + (FGap p6 (0 : Int32))) (((((((0 : Int64) + (FGap p4 (0 : Int32))) + (FGap p4 (32 : Int32))) + (FGap p5 (0 : Int32))) + (FGap p5 (32 : Int32))) + (FGap p6 (0 : Int32))) + (FGap p6 (32 : Int32))) f160) (w1 := 30) (w2 := 31) (w3 := 3) (w4 := 32) rfl rfl rfl rfl own_pd3 rfl 2 (by decide) rfl (by decide) (Nat.le_of_eq rfl) (by decide) (by decide) (by decide) rfl at_346 ?_
    rintro _ _ ⟨rfl, rfl⟩
    show own_G _ _ _ _ _ _ _ _ 349 #[.val (.int p1), .val (.long p2), .second, .val (.long p3), .second, .val (.long p4), .second, .val (.long p5), .second, .val (.long p6), .second, .val (.int (1 : Int32)), .val (.ref a2), .val (.ref a47), .val (.int (1 : Int32))] [(.int (if ((((((((0 : Int64) + (FGap p4 (0 : Int32))) + (FGap p4 (32 : Int32))) + (FGap p5 (0 : Int32))) + (FGap p5 (32 : Int32))) + (FGap p6 (0 : Int32))) + (FGap p6 (32 : Int32))) - ((((((0 : Int64) + (FGap p4 (0 : Int32))) + (FGap p4 (32 : Int32))) + (FGap p5 (0 : Int32))) + (FGap p5 (32 : Int32))) + (FGap p6 (0 : Int32)))) < p2 then (1 : Int32) else (0 : Int32))), (.int (if ((p3 + (((((((0 : Int64) + (FGap p4 (0 : Int32))) + (FGap p4 (32 : Int32))) + (FGap p5 (0 : Int32))) + (FGap p5 (32 : Int32))) + (FGap p6 (0 : Int32))) + (FGap p6 (32 : Int32)))) - (p3 + ((((((0 : Int64) + (FGap p4 (0 : Int32))) + (FGap p4 (32 : Int32))) + (FGap p5 (0 : Int32))) + (FGap p5 (32 : Int32))) + (FGap p6 (0 : Int32))))) < p2 then (1 : Int32) else (0 : Int32))), (.int (1 : Int32))]
    refine own_icmpne_f H at_349 (by simp only [own_sub]) ?_
    refine own_iconst H (1 : Int32) (by decide) at_352 ?_
    refine own_goto H (pc' := 357) at_353 (by decide) (by decide) ?_
    refine own_iand (v := (1 : Int32)) H (by decide) at_357 ?_
    refine own_istore H #[.val (.int p1), .val (.long p2), .second, .val (.long p3), .second, .val (.long p4), .second, .val (.long p5), .second, .val (.long p6), .second, .val (.int (1 : Int32)), .val (.ref a2), .val (.ref a47), .val (.int (1 : Int32))] rfl at_358 ?_
    refine own_iload H rfl at_360 ?_
    exact own_ireturn H (by simp) (by decide) at_362 (by decide) (by decide) (by show some _ = some _; rw [F0, if_pos c45])
  ·
    by_cases c162 : ((1 : Int32) + (p1 &&& (3 : Int32))) = (2 : Int32)
    ·
      rw [c162]
      show own_G _ _ _ _ _ _ _ _ 112 #[.val (.int p1), .val (.long p2), .second, .val (.long p3), .second, .val (.long p4), .second, .val (.long p5), .second, .val (.long p6), .second, .val (.int (2 : Int32)), .val (.ref a2), .unset, .unset] []
      refine own_new H (w := 6) (wi := 7) (wz := 8) rfl rfl rfl at_112 (by decide) (by decide) ?_
      intro h163 a164 ha165 E166 X167 D168
      have f169 : a2 ≠ a164 := Nat.ne_of_lt (by rw [ha165]; exact f44.lt)
      have f170 : n0 ≤ a164 := by rw [ha165]; exact f43
      have f171 : n0 ≤ h163.size := Nat.le_trans f43 E166.1
      have f172 : Arv Z h163 a2 kA3 .long (7 : Int32) [(.long (0 : Int64)), (.long ((0 : Int64) + (FGap p4 (0 : Int32)))), (.long (((0 : Int64) + (FGap p4 (0 : Int32))) + (FGap p4 (32 : Int32)))), (.long ((((0 : Int64) + (FGap p4 (0 : Int32))) + (FGap p4 (32 : Int32))) + (FGap p5 (0 : Int32)))), (.long (((((0 : Int64) + (FGap p4 (0 : Int32))) + (FGap p4 (32 : Int32))) + (FGap p5 (0 : Int32))) + (FGap p5 (32 : Int32)))), (.long ((((((0 : Int64) + (FGap p4 (0 : Int32))) + (FGap p4 (32 : Int32))) + (FGap p5 (0 : Int32))) + (FGap p5 (32 : Int32))) + (FGap p6 (0 : Int32)))), (.long (((((((0 : Int64) + (FGap p4 (0 : Int32))) + (FGap p4 (32 : Int32))) + (FGap p5 (0 : Int32))) + (FGap p5 (32 : Int32))) + (FGap p6 (0 : Int32))) + (FGap p6 (32 : Int32))))] (.long 0) := f44.ext E166
      have f173 : Fld Z h163 a164 "com/example/trailwire/trailwire/http2/BurstLimit" "events" "I" (.int (0 : Int32)) := D168 (Or.inr (own_w H (i := 16) rfl)) (ty := .int) (by decide)
      have f174 : Fld Z h163 a164 "com/example/trailwire/trailwire/http2/BurstLimit" "period" "J" (.long (0 : Int64)) := D168 (Or.inr (own_w H (i := 18) rfl)) (ty := .long) (by decide)
      have f175 : Fld Z h163 a164 "com/example/trailwire/trailwire/http2/BurstLimit" "times" "[J" .null := D168 (Or.inl (own_w H (i := 25) rfl)) (ty := (.array .long)) (by decide)
      have f176 : Fld Z h163 a164 "com/example/trailwire/trailwire/http2/BurstLimit" "full" "Z" (.int (0 : Int32)) := D168 (Or.inl (own_w H (i := 27) rfl)) (ty := .boolean) (by decide)
      have f177 : Fld Z h163 a164 "com/example/trailwire/trailwire/http2/BurstLimit" "next" "I" (.int (0 : Int32)) := D168 (Or.inl (own_w H (i := 29) rfl)) (ty := .int) (by decide)
      show own_G _ _ _ _ _ _ _ _ 115 #[.val (.int p1), .val (.long p2), .second, .val (.long p3), .second, .val (.long p4), .second, .val (.long p5), .second, .val (.long p6), .second, .val (.int (2 : Int32)), .val (.ref a2), .unset, .unset] [(.ref a164)]
      refine own_dup H rfl at_115 ?_
      refine own_iload H rfl at_116 ?_
      refine own_lload_n H rfl at_118 ?_
      refine own_invokespecial H (a := a164) (argsL := [(.int (2 : Int32)), (.long p2)]) (rest := [(.ref a164)]) (rm1 l Z a0 (own_hw H) h163 n0 a164 (2 : Int32) p2 f171 f170 X167 f173 f174 f175 f177 f176) rfl (w1 := 9) (w2 := 10) (w3 := 8) (w4 := 11) rfl rfl rfl rfl own_pd1 rfl 1 (by decide) rfl (by decide) (Nat.le_of_eq rfl) (by decide) (by decide) (by decide) rfl at_119 ?_
      rintro _ h178 ⟨rfl, K179, f180, f181, f182, f183, f184⟩
      have f185 : n0 ≤ h178.size := Nat.le_trans f171 K179.1
      have f186 : Arv Z h178 a2 kA3 .long (7 : Int32) [(.long (0 : Int64)), (.long ((0 : Int64) + (FGap p4 (0 : Int32)))), (.long (((0 : Int64) + (FGap p4 (0 : Int32))) + (FGap p4 (32 : Int32)))), (.long ((((0 : Int64) + (FGap p4 (0 : Int32))) + (FGap p4 (32 : Int32))) + (FGap p5 (0 : Int32)))), (.long (((((0 : Int64) + (FGap p4 (0 : Int32))) + (FGap p4 (32 : Int32))) + (FGap p5 (0 : Int32))) + (FGap p5 (32 : Int32)))), (.long ((((((0 : Int64) + (FGap p4 (0 : Int32))) + (FGap p4 (32 : Int32))) + (FGap p5 (0 : Int32))) + (FGap p5 (32 : Int32))) + (FGap p6 (0 : Int32)))), (.long (((((((0 : Int64) + (FGap p4 (0 : Int32))) + (FGap p4 (32 : Int32))) + (FGap p5 (0 : Int32))) + (FGap p5 (32 : Int32))) + (FGap p6 (0 : Int32))) + (FGap p6 (32 : Int32))))] (.long 0) := f172.keep K179 (ninS f169 nin0)
      have f187 : Exa Z h178 a164 "com/example/trailwire/trailwire/http2/BurstLimit" := X167.keep K179
      show own_G _ _ _ _ _ _ _ _ 122 #[.val (.int p1), .val (.long p2), .second, .val (.long p3), .second, .val (.long p4), .second, .val (.long p5), .second, .val (.long p6), .second, .val (.int (2 : Int32)), .val (.ref a2), .unset, .unset] [(.ref a164)]
      refine own_astore H rfl #[.val (.int p1), .val (.long p2), .second, .val (.long p3), .second, .val (.long p4), .second, .val (.long p5), .second, .val (.long p6), .second, .val (.int (2 : Int32)), .val (.ref a2), .val (.ref a164), .unset] rfl at_122 ?_
      refine own_iconst H (1 : Int32) (by decide) at_124 ?_
      refine own_istore H #[.val (.int p1), .val (.long p2), .second, .val (.long p3), .second, .val (.long p4), .second, .val (.long p5), .second, .val (.long p6), .second, .val (.int (2 : Int32)), .val (.ref a2), .val (.ref a164), .val (.int (1 : Int32))] rfl at_125 ?_
      refine own_iload H rfl at_127 ?_
      refine own_aload H rfl rfl at_129 ?_
      refine own_lload_n H rfl at_131 ?_
      refine own_aload H rfl rfl at_132 ?_
      refine own_iconst H (0 : Int32) (by decide) at_134 ?_
      refine own_laloadV H f186 (by decide) (by decide) rfl at_135 ?_
      refine own_ladd H rfl at_136 ?_
      refine own_invokevirtual H (a := a164) (argsL := [(.long (p3 + (0 : Int64)))]) (rest := [(.int (1 : Int32))]) (rmX2_0_0f l Z a0 (own_hw H) h178 n0 a164 (p3 + (0 : Int64)) p2 f185 f187 f180 f181 f182 f183 f184 f170) f187 (w1 := 19) (w0 := 20) (w5 := 22) (w2 := 21) (w3 := 8) (w4 := 23) rfl rfl rfl rfl rfl rfl own_pd2 rfl 1 (by decide) rfl (by decide) (Nat.le_of_eq rfl) (by decide) (by decide) (by decide) rfl at_137 ?_
      rintro _ h188 ⟨a190, kA191, rfl, K189, f192, f193, f194, f195, f196, f197, f198, f199, f200, f201⟩
      have f202 : a164 ≠ a190 := Nat.ne_of_lt (Nat.lt_of_lt_of_le f187.lt f193)
      have f203 : a2 ≠ a190 := Nat.ne_of_lt (Nat.lt_of_lt_of_le f186.lt f193)
      have f204 : n0 ≤ h188.size := Nat.le_trans f185 K189.1
      have f205 : Arv Z h188 a2 kA3 .long (7 : Int32) [(.long (0 : Int64)), (.long ((0 : Int64) + (FGap p4 (0 : Int32)))), (.long (((0 : Int64) + (FGap p4 (0 : Int32))) + (FGap p4 (32 : Int32)))), (.long ((((0 : Int64) + (FGap p4 (0 : Int32))) + (FGap p4 (32 : Int32))) + (FGap p5 (0 : Int32)))), (.long (((((0 : Int64) + (FGap p4 (0 : Int32))) + (FGap p4 (32 : Int32))) + (FGap p5 (0 : Int32))) + (FGap p5 (32 : Int32)))), (.long ((((((0 : Int64) + (FGap p4 (0 : Int32))) + (FGap p4 (32 : Int32))) + (FGap p5 (0 : Int32))) + (FGap p5 (32 : Int32))) + (FGap p6 (0 : Int32)))), (.long (((((((0 : Int64) + (FGap p4 (0 : Int32))) + (FGap p4 (32 : Int32))) + (FGap p5 (0 : Int32))) + (FGap p5 (32 : Int32))) + (FGap p6 (0 : Int32))) + (FGap p6 (32 : Int32))))] (.long 0) := f186.keep K189 (ninS f169 nin0)
      have f206 : Exa Z h188 a164 "com/example/trailwire/trailwire/http2/BurstLimit" := f187.keep K189
      show own_G _ _ _ _ _ _ _ _ 140 #[.val (.int p1), .val (.long p2), .second, .val (.long p3), .second, .val (.long p4), .second, .val (.long p5), .second, .val (.long p6), .second, .val (.int (2 : Int32)), .val (.ref a2), .val (.ref a164), .val (.int (1 : Int32))] [(.int (0 : Int32)), (.int (1 : Int32))]
      refine own_iconst H (0 : Int32) (by decide) at_140 ?_
      refine own_iload H rfl at_141 ?_
      refine own_aload H rfl rfl at_143 ?_
      refine own_lload_n H rfl at_145 ?_
      refine own_invokestatic H (argsL := [(.int (0 : Int32)), (.int (2 : Int32)), (.ref a2), (.long p2)]) (rest := [(.int (0 : Int32)), (.int (1 : Int32))]) (rmE0_2 l Z a0 (own_hw H) h188 n0 a2 p2 kA3 (0 : Int64) ((0 : Int64) + (FGap p4 (0 : Int32))) (((0 : Int64) + (FGap p4 (0 : Int32))) + (FGap p4 (32 : Int32))) ((((0 : Int64) + (FGap p4 (0 : Int32))) + (FGap p4 (32 : Int32))) + (FGap p5 (0 : Int32))) (((((0 : Int64) + (FGap p4 (0 : Int32))) + (FGap p4 (32 : Int32))) + (FGap p5 (0 : Int32))) + (FGap p5 (32 : Int32))) ((((((0 : Int64) + (FGap p4 (0 : Int32))) + (FGap p4 (32 : Int32))) + (FGap p5 (0 : Int32))) + (FGap p5 (32 : Int32))) + (FGap p6 (0 : Int32))) (((((((0 : Int64) + (FGap p4 (0 : Int32))) + (FGap p4 (32 : Int32))) + (FGap p5 (0 : Int32))) + (FGap p5 (32 : Int32))) + (FGap p6 (0 : Int32))) + (FGap p6 (32 : Int32))) f205) (w1 := 30) (w2 := 31) (w3 := 3) (w4 := 32) rfl rfl rfl rfl own_pd3 rfl 2 (by decide) rfl (by decide) (Nat.le_of_eq rfl) (by decide) (by decide) (by decide) rfl at_146 ?_
      rintro _ _ ⟨rfl, rfl⟩
      show own_G _ _ _ _ _ _ _ _ 149 #[.val (.int p1), .val (.long p2), .second, .val (.long p3), .second, .val (.long p4), .second, .val (.long p5), .second, .val (.long p6), .second, .val (.int (2 : Int32)), .val (.ref a2), .val (.ref a164), .val (.int (1 : Int32))] [(.int (0 : Int32)), (.int (0 : Int32)), (.int (1 : Int32))]
      refine own_icmpne_f H at_149 (by decide) ?_
      refine own_iconst H (1 : Int32) (by decide) at_152 ?_
      refine own_goto H (pc' := 157) at_153 (by decide) (by decide) ?_
      refine own_iand (v := (1 : Int32)) H (by decide) at_157 ?_
      refine own_istore H #[.val (.int p1), .val (.long p2), .second, .val (.long p3), .second, .val (.long p4), .second, .val (.long p5), .second, .val (.long p6), .second, .val (.int (2 : Int32)), .val (.ref a2), .val (.ref a164), .val (.int (1 : Int32))] rfl at_158 ?_
      refine own_iload H rfl at_160 ?_
      refine own_aload H rfl rfl at_162 ?_
      refine own_lload_n H rfl at_164 ?_
      refine own_aload H rfl rfl at_165 ?_
      refine own_iconst H (1 : Int32) (by decide) at_167 ?_
      refine own_laloadV H f205 (by decide) (by decide) rfl at_168 ?_
      refine own_ladd H rfl at_169 ?_
      refine own_invokevirtual H (a := a164) (argsL := [(.long (p3 + ((0 : Int64) + (FGap p4 (0 : Int32)))))]) (rest := [(.int (1 : Int32))]) (rmX2_1_0 l Z a0 (own_hw H) h188 n0 a164 (p3 + ((0 : Int64) + (FGap p4 (0 : Int32)))) p2 a190 kA191 (p3 + (0 : Int64)) 0 f204 f195 f196 f197 f198 f199 f200 f201 f202 f170 f192) f195 (w1 := 19) (w0 := 20) (w5 := 22) (w2 := 21) (w3 := 8) (w4 := 23) rfl rfl rfl rfl rfl rfl own_pd2 rfl 1 (by decide) rfl (by decide) (Nat.le_of_eq rfl) (by decide) (by decide) (by decide) rfl at_170 ?_
      rintro _ h207 ⟨rfl, K208, f209, f210, f211, f212, f213, f214, f215⟩
      have f216 : n0 ≤ h207.size := Nat.le_trans f204 K208.1
      have f217 : Arv Z h207 a2 kA3 .long (7 : Int32) [(.long (0 : Int64)), (.long ((0 : Int64) + (FGap p4 (0 : Int32)))), (.long (((0 : Int64) + (FGap p4 (0 : Int32))) + (FGap p4 (32 : Int32)))), (.long ((((0 : Int64) + (FGap p4 (0 : Int32))) + (FGap p4 (32 : Int32))) + (FGap p5 (0 : Int32)))), (.long (((((0 : Int64) + (FGap p4 (0 : Int32))) + (FGap p4 (32 : Int32))) + (FGap p5 (0 : Int32))) + (FGap p5 (32 : Int32)))), (.long ((((((0 : Int64) + (FGap p4 (0 : Int32))) + (FGap p4 (32 : Int32))) + (FGap p5 (0 : Int32))) + (FGap p5 (32 : Int32))) + (FGap p6 (0 : Int32)))), (.long (((((((0 : Int64) + (FGap p4 (0 : Int32))) + (FGap p4 (32 : Int32))) + (FGap p5 (0 : Int32))) + (FGap p5 (32 : Int32))) + (FGap p6 (0 : Int32))) + (FGap p6 (32 : Int32))))] (.long 0) := f205.keep K208 (ninS f169 (ninS f203 nin0))
      have f218 : Exa Z h207 a164 "com/example/trailwire/trailwire/http2/BurstLimit" := f195.keep K208
      show own_G _ _ _ _ _ _ _ _ 173 #[.val (.int p1), .val (.long p2), .second, .val (.long p3), .second, .val (.long p4), .second, .val (.long p5), .second, .val (.long p6), .second, .val (.int (2 : Int32)), .val (.ref a2), .val (.ref a164), .val (.int (1 : Int32))] [(.int (0 : Int32)), (.int (1 : Int32))]
      refine own_iconst H (1 : Int32) (by decide) at_173 ?_
      refine own_iload H rfl at_174 ?_
      refine own_aload H rfl rfl at_176 ?_
      refine own_lload_n H rfl at_178 ?_
      refine own_invokestatic H (argsL := [(.int (1 : Int32)), (.int (2 : Int32)), (.ref a2), (.long p2)]) (rest := [(.int (0 : Int32)), (.int (1 : Int32))]) (rmE1_2 l Z a0 (own_hw H) h207 n0 a2 p2 kA3 (0 : Int64) ((0 : Int64) + (FGap p4 (0 : Int32))) (((0 : Int64) + (FGap p4 (0 : Int32))) + (FGap p4 (32 : Int32))) ((((0 : Int64) + (FGap p4 (0 : Int32))) + (FGap p4 (32 : Int32))) + (FGap p5 (0 : Int32))) (((((0 : Int64) + (FGap p4 (0 : Int32))) + (FGap p4 (32 : Int32))) + (FGap p5 (0 : Int32))) + (FGap p5 (32 : Int32))) ((((((0 : Int64) + (FGap p4 (0 : Int32))) + (FGap p4 (32 : Int32))) + (FGap p5 (0 : Int32))) + (FGap p5 (32 : Int32))) + (FGap p6 (0 : Int32))) (((((((0 : Int64) + (FGap p4 (0 : Int32))) + (FGap p4 (32 : Int32))) + (FGap p5 (0 : Int32))) + (FGap p5 (32 : Int32))) + (FGap p6 (0 : Int32))) + (FGap p6 (32 : Int32))) f217) (w1 := 30) (w2 := 31) (w3 := 3) (w4 := 32) rfl rfl rfl rfl own_pd3 rfl 2 (by decide) rfl (by decide) (Nat.le_of_eq rfl) (by decide) (by decide) (by decide) rfl at_179 ?_
      rintro _ _ ⟨rfl, rfl⟩
      show own_G _ _ _ _ _ _ _ _ 182 #[.val (.int p1), .val (.long p2), .second, .val (.long p3), .second, .val (.long p4), .second, .val (.long p5), .second, .val (.long p6), .second, .val (.int (2 : Int32)), .val (.ref a2), .val (.ref a164), .val (.int (1 : Int32))] [(.int (0 : Int32)), (.int (0 : Int32)), (.int (1 : Int32))]
      refine own_icmpne_f H at_182 (by decide) ?_
      refine own_iconst H (1 : Int32) (by decide) at_185 ?_
      refine own_goto H (pc' := 190) at_186 (by decide) (by decide) ?_
      refine own_iand (v := (1 : Int32)) H (by decide) at_190 ?_
      refine own_istore H #[.val (.int p1), .val (.long p2), .second, .val (.long p3), .second, .val (.long p4), .second, .val (.long p5), .second, .val (.long p6), .second, .val (.int (2 : Int32)), .val (.ref a2), .val (.ref a164), .val (.int (1 : Int32))] rfl at_191 ?_
      refine own_iload H rfl at_193 ?_
      refine own_aload H rfl rfl at_195 ?_
      refine own_lload_n H rfl at_197 ?_
      refine own_aload H rfl rfl at_198 ?_
      refine own_iconst H (2 : Int32) (by decide) at_200 ?_
      refine own_laloadV H f217 (by decide) (by decide) rfl at_201 ?_
      refine own_ladd H rfl at_202 ?_
      refine own_invokevirtual H (a := a164) (argsL := [(.long (p3 + (((0 : Int64) + (FGap p4 (0 : Int32))) + (FGap p4 (32 : Int32)))))]) (rest := [(.int (1 : Int32))]) (rmX2_0_1 l Z a0 (own_hw H) h207 n0 a164 (p3 + (((0 : Int64) + (FGap p4 (0 : Int32))) + (FGap p4 (32 : Int32)))) p2 a190 kA191 (p3 + (0 : Int64)) (p3 + ((0 : Int64) + (FGap p4 (0 : Int32)))) f216 f209 f210 f211 f212 f213 f214 f215 f202 f170 f192) f209 (w1 := 19) (w0 := 20) (w5 := 22) (w2 := 21) (w3 := 8) (w4 := 23) rfl rfl rfl rfl rfl rfl own_pd2 rfl 1 (by decide) rfl (by decide) (Nat.le_of_eq rfl) (by decide) (by decide) (by decide) rfl at_203 ?_
      rintro _ h219 ⟨rfl, K220, f221, f222, f223, f224, f225, f226, f227⟩
      have f228 : n0 ≤ h219.size := Nat.le_trans f216 K220.1
      have f229 : Arv Z h219 a2 kA3 .long (7 : Int32) [(.long (0 : Int64)), (.long ((0 : Int64) + (FGap p4 (0 : Int32)))), (.long (((0 : Int64) + (FGap p4 (0 : Int32))) + (FGap p4 (32 : Int32)))), (.long ((((0 : Int64) + (FGap p4 (0 : Int32))) + (FGap p4 (32 : Int32))) + (FGap p5 (0 : Int32)))), (.long (((((0 : Int64) + (FGap p4 (0 : Int32))) + (FGap p4 (32 : Int32))) + (FGap p5 (0 : Int32))) + (FGap p5 (32 : Int32)))), (.long ((((((0 : Int64) + (FGap p4 (0 : Int32))) + (FGap p4 (32 : Int32))) + (FGap p5 (0 : Int32))) + (FGap p5 (32 : Int32))) + (FGap p6 (0 : Int32)))), (.long (((((((0 : Int64) + (FGap p4 (0 : Int32))) + (FGap p4 (32 : Int32))) + (FGap p5 (0 : Int32))) + (FGap p5 (32 : Int32))) + (FGap p6 (0 : Int32))) + (FGap p6 (32 : Int32))))] (.long 0) := f217.keep K220 (ninS f169 (ninS f203 nin0))
      have f230 : Exa Z h219 a164 "com/example/trailwire/trailwire/http2/BurstLimit" := f209.keep K220
      show own_G _ _ _ _ _ _ _ _ 206 #[.val (.int p1), .val (.long p2), .second, .val (.long p3), .second, .val (.long p4), .second, .val (.long p5), .second, .val (.long p6), .second, .val (.int (2 : Int32)), .val (.ref a2), .val (.ref a164), .val (.int (1 : Int32))] [(.int (if ((p3 + (((0 : Int64) + (FGap p4 (0 : Int32))) + (FGap p4 (32 : Int32)))) - (p3 + (0 : Int64))) < p2 then (1 : Int32) else (0 : Int32))), (.int (1 : Int32))]
      refine own_iconst H (2 : Int32) (by decide) at_206 ?_
      refine own_iload H rfl at_207 ?_
      refine own_aload H rfl rfl at_209 ?_
      refine own_lload_n H rfl at_211 ?_
      refine own_invokestatic H (argsL := [(.int (2 : Int32)), (.int (2 : Int32)), (.ref a2), (.long p2)]) (rest := [(.int (if ((p3 + (((0 : Int64) + (FGap p4 (0 : Int32))) + (FGap p4 (32 : Int32)))) - (p3 + (0 : Int64))) < p2 then (1 : Int32) else (0 : Int32))), (.int (1 : Int32))]) (rmE2_2 l Z a0 (own_hw H) h219 n0 a2 p2 kA3 (0 : Int64) ((0 : Int64) + (FGap p4 (0 : Int32))) (((0 : Int64) + (FGap p4 (0 : Int32))) + (FGap p4 (32 : Int32))) ((((0 : Int64) + (FGap p4 (0 : Int32))) + (FGap p4 (32 : Int32))) + (FGap p5 (0 : Int32))) (((((0 : Int64) + (FGap p4 (0 : Int32))) + (FGap p4 (32 : Int32))) + (FGap p5 (0 : Int32))) + (FGap p5 (32 : Int32))) ((((((0 : Int64) + (FGap p4 (0 : Int32))) + (FGap p4 (32 : Int32))) + (FGap p5 (0 : Int32))) + (FGap p5 (32 : Int32))) + (FGap p6 (0 : Int32))) (((((((0 : Int64) + (FGap p4 (0 : Int32))) + (FGap p4 (32 : Int32))) + (FGap p5 (0 : Int32))) + (FGap p5 (32 : Int32))) + (FGap p6 (0 : Int32))) + (FGap p6 (32 : Int32))) f229) (w1 := 30) (w2 := 31) (w3 := 3) (w4 := 32) rfl rfl rfl rfl own_pd3 rfl 2 (by decide) rfl (by decide) (Nat.le_of_eq rfl) (by decide) (by decide) (by decide) rfl at_212 ?_
      rintro _ _ ⟨rfl, rfl⟩
      show own_G _ _ _ _ _ _ _ _ 215 #[.val (.int p1), .val (.long p2), .second, .val (.long p3), .second, .val (.long p4), .second, .val (.long p5), .second, .val (.long p6), .second, .val (.int (2 : Int32)), .val (.ref a2), .val (.ref a164), .val (.int (1 : Int32))] [(.int (if ((((0 : Int64) + (FGap p4 (0 : Int32))) + (FGap p4 (32 : Int32))) - (0 : Int64)) < p2 then (1 : Int32) else (0 : Int32))), (.int (if ((p3 + (((0 : Int64) + (FGap p4 (0 : Int32))) + (FGap p4 (32 : Int32)))) - (p3 + (0 : Int64))) < p2 then (1 : Int32) else (0 : Int32))), (.int (1 : Int32))]
      refine own_icmpne_f H at_215 (by simp only [own_sub]) ?_
      refine own_iconst H (1 : Int32) (by decide) at_218 ?_
      refine own_goto H (pc' := 223) at_219 (by decide) (by decide) ?_
      refine own_iand (v := (1 : Int32)) H (by decide) at_223 ?_
      refine own_istore H #[.val (.int p1), .val (.long p2), .second, .val (.long p3), .second, .val (.long p4), .second, .val (.long p5), .second, .val (.long p6), .second, .val (.int (2 : Int32)), .val (.ref a2), .val (.ref a164), .val (.int (1 : Int32))] rfl at_224 ?_
      refine own_iload H rfl at_226 ?_
      refine own_aload H rfl rfl at_228 ?_
      refine own_lload_n H rfl at_230 ?_
      refine own_aload H rfl rfl at_231 ?_
      refine own_iconst H (3 : Int32) (by decide) at_233 ?_
      refine own_laloadV H f229 (by decide) (by decide) rfl at_234 ?_
      refine own_ladd H rfl at_235 ?_
      refine own_invokevirtual H (a := a164) (argsL := [(.long (p3 + ((((0 : Int64) + (FGap p4 (0 : Int32))) + (FGap p4 (32 : Int32))) + (FGap p5 (0 : Int32)))))]) (rest := [(.int (1 : Int32))]) (rmX2_1_1 l Z a0 (own_hw H) h219 n0 a164 (p3 + ((((0 : Int64) + (FGap p4 (0 : Int32))) + (FGap p4 (32 : Int32))) + (FGap p5 (0 : Int32)))) p2 a190 kA191 (p3 + (((0 : Int64) + (FGap p4 (0 : Int32))) + (FGap p4 (32 : Int32)))) (p3 + ((0 : Int64) + (FGap p4 (0 : Int32)))) f228 f221 f222 f223 f224 f225 f226 f227 f202 f170 f192) f221 (w1 := 19) (w0 := 20) (w5 := 22) (w2 := 21) (w3 := 8) (w4 := 23) rfl rfl rfl rfl rfl rfl own_pd2 rfl 1 (by decide) rfl (by decide) (Nat.le_of_eq rfl) (by decide) (by decide) (by decide) rfl at_236 ?_
      rintro _ h231 ⟨rfl, K232, f233, f234, f235, f236, f237, f238, f239⟩
      have f240 : n0 ≤ h231.size := Nat.le_trans f228 K232.1
      have f241 : Arv Z h231 a2 kA3 .long (7 : Int32) [(.long (0 : Int64)), (.long ((0 : Int64) + (FGap p4 (0 : Int32)))), (.long (((0 : Int64) + (FGap p4 (0 : Int32))) + (FGap p4 (32 : Int32)))), (.long ((((0 : Int64) + (FGap p4 (0 : Int32))) + (FGap p4 (32 : Int32))) + (FGap p5 (0 : Int32)))), (.long (((((0 : Int64) + (FGap p4 (0 : Int32))) + (FGap p4 (32 : Int32))) + (FGap p5 (0 : Int32))) + (FGap p5 (32 : Int32)))), (.long ((((((0 : Int64) + (FGap p4 (0 : Int32))) + (FGap p4 (32 : Int32))) + (FGap p5 (0 : Int32))) + (FGap p5 (32 : Int32))) + (FGap p6 (0 : Int32)))), (.long (((((((0 : Int64) + (FGap p4 (0 : Int32))) + (FGap p4 (32 : Int32))) + (FGap p5 (0 : Int32))) + (FGap p5 (32 : Int32))) + (FGap p6 (0 : Int32))) + (FGap p6 (32 : Int32))))] (.long 0) := f229.keep K232 (ninS f169 (ninS f203 nin0))
      have f242 : Exa Z h231 a164 "com/example/trailwire/trailwire/http2/BurstLimit" := f221.keep K232
      show own_G _ _ _ _ _ _ _ _ 239 #[.val (.int p1), .val (.long p2), .second, .val (.long p3), .second, .val (.long p4), .second, .val (.long p5), .second, .val (.long p6), .second, .val (.int (2 : Int32)), .val (.ref a2), .val (.ref a164), .val (.int (1 : Int32))] [(.int (if ((p3 + ((((0 : Int64) + (FGap p4 (0 : Int32))) + (FGap p4 (32 : Int32))) + (FGap p5 (0 : Int32)))) - (p3 + ((0 : Int64) + (FGap p4 (0 : Int32))))) < p2 then (1 : Int32) else (0 : Int32))), (.int (1 : Int32))]
      refine own_iconst H (3 : Int32) (by decide) at_239 ?_
      refine own_iload H rfl at_240 ?_
      refine own_aload H rfl rfl at_242 ?_
      refine own_lload_n H rfl at_244 ?_
      refine own_invokestatic H (argsL := [(.int (3 : Int32)), (.int (2 : Int32)), (.ref a2), (.long p2)]) (rest := [(.int (if ((p3 + ((((0 : Int64) + (FGap p4 (0 : Int32))) + (FGap p4 (32 : Int32))) + (FGap p5 (0 : Int32)))) - (p3 + ((0 : Int64) + (FGap p4 (0 : Int32))))) < p2 then (1 : Int32) else (0 : Int32))), (.int (1 : Int32))]) (rmE3_2 l Z a0 (own_hw H) h231 n0 a2 p2 kA3 (0 : Int64) ((0 : Int64) + (FGap p4 (0 : Int32))) (((0 : Int64) + (FGap p4 (0 : Int32))) + (FGap p4 (32 : Int32))) ((((0 : Int64) + (FGap p4 (0 : Int32))) + (FGap p4 (32 : Int32))) + (FGap p5 (0 : Int32))) (((((0 : Int64) + (FGap p4 (0 : Int32))) + (FGap p4 (32 : Int32))) + (FGap p5 (0 : Int32))) + (FGap p5 (32 : Int32))) ((((((0 : Int64) + (FGap p4 (0 : Int32))) + (FGap p4 (32 : Int32))) + (FGap p5 (0 : Int32))) + (FGap p5 (32 : Int32))) + (FGap p6 (0 : Int32))) (((((((0 : Int64) + (FGap p4 (0 : Int32))) + (FGap p4 (32 : Int32))) + (FGap p5 (0 : Int32))) + (FGap p5 (32 : Int32))) + (FGap p6 (0 : Int32))) + (FGap p6 (32 : Int32))) f241) (w1 := 30) (w2 := 31) (w3 := 3) (w4 := 32) rfl rfl rfl rfl own_pd3 rfl 2 (by decide) rfl (by decide) (Nat.le_of_eq rfl) (by decide) (by decide) (by decide) rfl at_245 ?_
      rintro _ _ ⟨rfl, rfl⟩
      show own_G _ _ _ _ _ _ _ _ 248 #[.val (.int p1), .val (.long p2), .second, .val (.long p3), .second, .val (.long p4), .second, .val (.long p5), .second, .val (.long p6), .second, .val (.int (2 : Int32)), .val (.ref a2), .val (.ref a164), .val (.int (1 : Int32))] [(.int (if (((((0 : Int64) + (FGap p4 (0 : Int32))) + (FGap p4 (32 : Int32))) + (FGap p5 (0 : Int32))) - ((0 : Int64) + (FGap p4 (0 : Int32)))) < p2 then (1 : Int32) else (0 : Int32))), (.int (if ((p3 + ((((0 : Int64) + (FGap p4 (0 : Int32))) + (FGap p4 (32 : Int32))) + (FGap p5 (0 : Int32)))) - (p3 + ((0 : Int64) + (FGap p4 (0 : Int32))))) < p2 then (1 : Int32) else (0 : Int32))), (.int (1 : Int32))]
      refine own_icmpne_f H at_248 (by simp only [own_sub]) ?_
      refine own_iconst H (1 : Int32) (by decide) at_251 ?_
      refine own_goto H (pc' := 256) at_252 (by decide) (by decide) ?_
      refine own_iand (v := (1 : Int32)) H (by decide) at_256 ?_
      refine own_istore H #[.val (.int p1), .val (.long p2), .second, .val (.long p3), .second, .val (.long p4), .second, .val (.long p5), .second, .val (.long p6), .second, .val (.int (2 : Int32)), .val (.ref a2), .val (.ref a164), .val (.int (1 : Int32))] rfl at_257 ?_
      refine own_iload H rfl at_259 ?_
      refine own_aload H rfl rfl at_261 ?_
      refine own_lload_n H rfl at_263 ?_
      refine own_aload H rfl rfl at_264 ?_
      refine own_iconst H (4 : Int32) (by decide) at_266 ?_
      refine own_laloadV H f241 (by decide) (by decide) rfl at_267 ?_
      refine own_ladd H rfl at_268 ?_
      refine own_invokevirtual H (a := a164) (argsL := [(.long (p3 + (((((0 : Int64) + (FGap p4 (0 : Int32))) + (FGap p4 (32 : Int32))) + (FGap p5 (0 : Int32))) + (FGap p5 (32 : Int32)))))]) (rest := [(.int (1 : Int32))]) (rmX2_0_1 l Z a0 (own_hw H) h231 n0 a164 (p3 + (((((0 : Int64) + (FGap p4 (0 : Int32))) + (FGap p4 (32 : Int32))) + (FGap p5 (0 : Int32))) + (FGap p5 (32 : Int32)))) p2 a190 kA191 (p3 + (((0 : Int64) + (FGap p4 (0 : Int32))) + (FGap p4 (32 : Int32)))) (p3 + ((((0 : Int64) + (FGap p4 (0 : Int32))) + (FGap p4 (32 : Int32))) + (FGap p5 (0 : Int32)))) f240 f233 f234 f235 f236 f237 f238 f239 f202 f170 f192) f233 (w1 := 19) (w0 := 20) (w5 := 22) (w2 := 21) (w3 := 8) (w4 := 23) rfl rfl rfl rfl rfl rfl own_pd2 rfl 1 (by decide) rfl (by decide) (Nat.le_of_eq rfl) (by decide) (by decide) (by decide) rfl at_269 ?_
      rintro _ h243 ⟨rfl, K244, f245, f246, f247, f248, f249, f250, f251⟩
      have f252 : n0 ≤ h243.size := Nat.le_trans f240 K244.1
      have f253 : Arv Z h243 a2 kA3 .long (7 : Int32) [(.long (0 : Int64)), (.long ((0 : Int64) + (FGap p4 (0 : Int32)))), (.long (((0 : Int64) + (FGap p4 (0 : Int32))) + (FGap p4 (32 : Int32)))), (.long ((((0 : Int64) + (FGap p4 (0 : Int32))) + (FGap p4 (32 : Int32))) + (FGap p5 (0 : Int32)))), (.long (((((0 : Int64) + (FGap p4 (0 : Int32))) + (FGap p4 (32 : Int32))) + (FGap p5 (0 : Int32))) + (FGap p5 (32 : Int32)))), (.long ((((((0 : Int64) + (FGap p4 (0 : Int32))) + (FGap p4 (32 : Int32))) + (FGap p5 (0 : Int32))) + (FGap p5 (32 : Int32))) + (FGap p6 (0 : Int32)))), (.long (((((((0 : Int64) + (FGap p4 (0 : Int32))) + (FGap p4 (32 : Int32))) + (FGap p5 (0 : Int32))) + (FGap p5 (32 : Int32))) + (FGap p6 (0 : Int32))) + (FGap p6 (32 : Int32))))] (.long 0) := f241.keep K244 (ninS f169 (ninS f203 nin0))
      have f254 : Exa Z h243 a164 "com/example/trailwire/trailwire/http2/BurstLimit" := f233.keep K244
      show own_G _ _ _ _ _ _ _ _ 272 #[.val (.int p1), .val (.long p2), .second, .val (.long p3), .second, .val (.long p4), .second, .val (.long p5), .second, .val (.long p6), .second, .val (.int (2 : Int32)), .val (.ref a2), .val (.ref a164), .val (.int (1 : Int32))] [(.int (if ((p3 + (((((0 : Int64) + (FGap p4 (0 : Int32))) + (FGap p4 (32 : Int32))) + (FGap p5 (0 : Int32))) + (FGap p5 (32 : Int32)))) - (p3 + (((0 : Int64) + (FGap p4 (0 : Int32))) + (FGap p4 (32 : Int32))))) < p2 then (1 : Int32) else (0 : Int32))), (.int (1 : Int32))]
      refine own_iconst H (4 : Int32) (by decide) at_272 ?_
      refine own_iload H rfl at_273 ?_
      refine own_aload H rfl rfl at_275 ?_
      refine own_lload_n H rfl at_277 ?_
      refine own_invokestatic H (argsL := [(.int (4 : Int32)), (.int (2 : Int32)), (.ref a2), (.long p2)]) (rest := [(.int (if ((p3 + (((((0 : Int64) + (FGap p4 (0 : Int32))) + (FGap p4 (32 : Int32))) + (FGap p5 (0 : Int32))) + (FGap p5 (32 : Int32)))) - (p3 + (((0 : Int64) + (FGap p4 (0 : Int32))) + (FGap p4 (32 : Int32))))) < p2 then (1 : Int32) else (0 : Int32))), (.int (1 : Int32))]) (rmE4_2 l Z a0 (own_hw H) h243 n0 a2 p2 kA3 (0 : Int64) ((0 : Int64) + (FGap p4 (0 : Int32))) (((0 : Int64) + (FGap p4 (0 : Int32))) + (FGap p4 (32 : Int32))) ((((0 : Int64) + (FGap p4 (0 : Int32))) + (FGap p4 (32 : Int32))) + (FGap p5 (0 : Int32))) (((((0 : Int64) + (FGap p4 (0 : Int32))) + (FGap p4 (32 : Int32))) + (FGap p5 (0 : Int32))) + (FGap p5 (32 : Int32))) ((((((0 : Int64) + (FGap p4 (0 : Int32))) + (FGap p4 (32 : Int32))) + (FGap p5 (0 : Int32))) + (FGap p5 (32 : Int32))) + (FGap p6 (0 : Int32))) (((((((0 : Int64) + (FGap p4 (0 : Int32))) + (FGap p4 (32 : Int32))) + (FGap p5 (0 : Int32))) + (FGap p5 (32 : Int32))) + (FGap p6 (0 : Int32))) + (FGap p6 (32 : Int32))) f253) (w1 := 30) (w2 := 31) (w3 := 3) (w4 := 32) rfl rfl rfl rfl own_pd3 rfl 2 (by decide) rfl (by decide) (Nat.le_of_eq rfl) (by decide) (by decide) (by decide) rfl at_278 ?_
      rintro _ _ ⟨rfl, rfl⟩
      show own_G _ _ _ _ _ _ _ _ 281 #[.val (.int p1), .val (.long p2), .second, .val (.long p3), .second, .val (.long p4), .second, .val (.long p5), .second, .val (.long p6), .second, .val (.int (2 : Int32)), .val (.ref a2), .val (.ref a164), .val (.int (1 : Int32))] [(.int (if ((((((0 : Int64) + (FGap p4 (0 : Int32))) + (FGap p4 (32 : Int32))) + (FGap p5 (0 : Int32))) + (FGap p5 (32 : Int32))) - (((0 : Int64) + (FGap p4 (0 : Int32))) + (FGap p4 (32 : Int32)))) < p2 then (1 : Int32) else (0 : Int32))), (.int (if ((p3 + (((((0 : Int64) + (FGap p4 (0 : Int32))) + (FGap p4 (32 : Int32))) + (FGap p5 (0 : Int32))) + (FGap p5 (32 : Int32)))) - (p3 + (((0 : Int64) + (FGap p4 (0 : Int32))) + (FGap p4 (32 : Int32))))) < p2 then (1 : Int32) else (0 : Int32))), (.int (1 : Int32))]
      refine own_icmpne_f H at_281 (by simp only [own_sub]) ?_
      refine own_iconst H (1 : Int32) (by decide) at_284 ?_
      refine own_goto H (pc' := 289) at_285 (by decide) (by decide) ?_
      refine own_iand (v := (1 : Int32)) H (by decide) at_289 ?_
      refine own_istore H #[.val (.int p1), .val (.long p2), .second, .val (.long p3), .second, .val (.long p4), .second, .val (.long p5), .second, .val (.long p6), .second, .val (.int (2 : Int32)), .val (.ref a2), .val (.ref a164), .val (.int (1 : Int32))] rfl at_290 ?_
      refine own_iload H rfl at_292 ?_
      refine own_aload H rfl rfl at_294 ?_
      refine own_lload_n H rfl at_296 ?_
      refine own_aload H rfl rfl at_297 ?_
      refine own_iconst H (5 : Int32) (by decide) at_299 ?_
      refine own_laloadV H f253 (by decide) (by decide) rfl at_300 ?_
      refine own_ladd H rfl at_301 ?_
      refine own_invokevirtual H (a := a164) (argsL := [(.long (p3 + ((((((0 : Int64) + (FGap p4 (0 : Int32))) + (FGap p4 (32 : Int32))) + (FGap p5 (0 : Int32))) + (FGap p5 (32 : Int32))) + (FGap p6 (0 : Int32)))))]) (rest := [(.int (1 : Int32))]) (rmX2_1_1 l Z a0 (own_hw H) h243 n0 a164 (p3 + ((((((0 : Int64) + (FGap p4 (0 : Int32))) + (FGap p4 (32 : Int32))) + (FGap p5 (0 : Int32))) + (FGap p5 (32 : Int32))) + (FGap p6 (0 : Int32)))) p2 a190 kA191 (p3 + (((((0 : Int64) + (FGap p4 (0 : Int32))) + (FGap p4 (32 : Int32))) + (FGap p5 (0 : Int32))) + (FGap p5 (32 : Int32)))) (p3 + ((((0 : Int64) + (FGap p4 (0 : Int32))) + (FGap p4 (32 : Int32))) + (FGap p5 (0 : Int32)))) f252 f245 f246 f247 f248 f249 f250 f251 f202 f170 f192) f245 (w1 := 19) (w0 := 20) (w5 := 22) (w2 := 21) (w3 := 8) (w4 := 23) rfl rfl rfl rfl rfl rfl own_pd2 rfl 1 (by decide) rfl (by decide) (Nat.le_of_eq rfl) (by decide) (by decide) (by decide) rfl at_302 ?_
      rintro _ h255 ⟨rfl, K256, f257, f258, f259, f260, f261, f262, f263⟩
      have f264 : n0 ≤ h255.size := Nat.le_trans f252 K256.1
      have f265 : Arv Z h255 a2 kA3 .long (7 : Int32) [(.long (0 : Int64)), (.long ((0 : Int64) + (FGap p4 (0 : Int32)))), (.long (((0 : Int64) + (FGap p4 (0 : Int32))) + (FGap p4 (32 : Int32)))), (.long ((((0 : Int64) + (FGap p4 (0 : Int32))) + (FGap p4 (32 : Int32))) + (FGap p5 (0 : Int32)))), (.long (((((0 : Int64) + (FGap p4 (0 : Int32))) + (FGap p4 (32 : Int32))) + (FGap p5 (0 : Int32))) + (FGap p5 (32 : Int32)))), (.long ((((((0 : Int64) + (FGap p4 (0 : Int32))) + (FGap p4 (32 : Int32))) + (FGap p5 (0 : Int32))) + (FGap p5 (32 : Int32))) + (FGap p6 (0 : Int32)))), (.long (((((((0 : Int64) + (FGap p4 (0 : Int32))) + (FGap p4 (32 : Int32))) + (FGap p5 (0 : Int32))) + (FGap p5 (32 : Int32))) + (FGap p6 (0 : Int32))) + (FGap p6 (32 : Int32))))] (.long 0) := f253.keep K256 (ninS f169 (ninS f203 nin0))
      have f266 : Exa Z h255 a164 "com/example/trailwire/trailwire/http2/BurstLimit" := f245.keep K256
      show own_G _ _ _ _ _ _ _ _ 305 #[.val (.int p1), .val (.long p2), .second, .val (.long p3), .second, .val (.long p4), .second, .val (.long p5), .second, .val (.long p6), .second, .val (.int (2 : Int32)), .val (.ref a2), .val (.ref a164), .val (.int (1 : Int32))] [(.int (if ((p3 + ((((((0 : Int64) + (FGap p4 (0 : Int32))) + (FGap p4 (32 : Int32))) + (FGap p5 (0 : Int32))) + (FGap p5 (32 : Int32))) + (FGap p6 (0 : Int32)))) - (p3 + ((((0 : Int64) + (FGap p4 (0 : Int32))) + (FGap p4 (32 : Int32))) + (FGap p5 (0 : Int32))))) < p2 then (1 : Int32) else (0 : Int32))), (.int (1 : Int32))]
      refine own_iconst H (5 : Int32) (by decide) at_305 ?_
      refine own_iload H rfl at_306 ?_
      refine own_aload H rfl rfl at_308 ?_
      refine own_lload_n H rfl at_310 ?_
      refine own_invokestatic H (argsL := [(.int (5 : Int32)), (.int (2 : Int32)), (.ref a2), (.long p2)]) (rest := [(.int (if ((p3 + ((((((0 : Int64) + (FGap p4 (0 : Int32))) + (FGap p4 (32 : Int32))) + (FGap p5 (0 : Int32))) + (FGap p5 (32 : Int32))) + (FGap p6 (0 : Int32)))) - (p3 + ((((0 : Int64) + (FGap p4 (0 : Int32))) + (FGap p4 (32 : Int32))) + (FGap p5 (0 : Int32))))) < p2 then (1 : Int32) else (0 : Int32))), (.int (1 : Int32))]) (rmE5_2 l Z a0 (own_hw H) h255 n0 a2 p2 kA3 (0 : Int64) ((0 : Int64) + (FGap p4 (0 : Int32))) (((0 : Int64) + (FGap p4 (0 : Int32))) + (FGap p4 (32 : Int32))) ((((0 : Int64) + (FGap p4 (0 : Int32))) + (FGap p4 (32 : Int32))) + (FGap p5 (0 : Int32))) (((((0 : Int64) + (FGap p4 (0 : Int32))) + (FGap p4 (32 : Int32))) + (FGap p5 (0 : Int32))) + (FGap p5 (32 : Int32))) ((((((0 : Int64) + (FGap p4 (0 : Int32))) + (FGap p4 (32 : Int32))) + (FGap p5 (0 : Int32))) + (FGap p5 (32 : Int32))) + (FGap p6 (0 : Int32))) (((((((0 : Int64) + (FGap p4 (0 : Int32))) + (FGap p4 (32 : Int32))) + (FGap p5 (0 : Int32))) + (FGap p5 (32 : Int32))) + (FGap p6 (0 : Int32))) + (FGap p6 (32 : Int32))) f265) (w1 := 30) (w2 := 31) (w3 := 3) (w4 := 32) rfl rfl rfl rfl own_pd3 rfl 2 (by decide) rfl (by decide) (Nat.le_of_eq rfl) (by decide) (by decide) (by decide) rfl at_311 ?_
      rintro _ _ ⟨rfl, rfl⟩
      show own_G _ _ _ _ _ _ _ _ 314 #[.val (.int p1), .val (.long p2), .second, .val (.long p3), .second, .val (.long p4), .second, .val (.long p5), .second, .val (.long p6), .second, .val (.int (2 : Int32)), .val (.ref a2), .val (.ref a164), .val (.int (1 : Int32))] [(.int (if (((((((0 : Int64) + (FGap p4 (0 : Int32))) + (FGap p4 (32 : Int32))) + (FGap p5 (0 : Int32))) + (FGap p5 (32 : Int32))) + (FGap p6 (0 : Int32))) - ((((0 : Int64) + (FGap p4 (0 : Int32))) + (FGap p4 (32 : Int32))) + (FGap p5 (0 : Int32)))) < p2 then (1 : Int32) else (0 : Int32))), (.int (if ((p3 + ((((((0 : Int64) + (FGap p4 (0 : Int32))) + (FGap p4 (32 : Int32))) + (FGap p5 (0 : Int32))) + (FGap p5 (32 : Int32))) + (FGap p6 (0 : Int32)))) - (p3 + ((((0 : Int64) + (FGap p4 (0 : Int32))) + (FGap p4 (32 : Int32))) + (FGap p5 (0 : Int32))))) < p2 then (1 : Int32) else (0 : Int32))), (.int (1 : Int32))]
      refine own_icmpne_f H at_314 (by simp only [own_sub]) ?_
      refine own_iconst H (1 : Int32) (by decide) at_317 ?_
      refine own_goto H (pc' := 322) at_318 (by decide) (by decide) ?_
      refine own_iand (v := (1 : Int32)) H (by decide) at_322 ?_
      refine own_istore H #[.val (.int p1), .val (.long p2), .second, .val (.long p3), .second, .val (.long p4), .second, .val (.long p5), .second, .val (.long p6), .second, .val (.int (2 : Int32)), .val (.ref a2), .val (.ref a164), .val (.int (1 : Int32))] rfl at_323 ?_
      refine own_iload H rfl at_325 ?_
      refine own_aload H rfl rfl at_327 ?_
      refine own_lload_n H rfl at_329 ?_
      refine own_aload H rfl rfl at_330 ?_
      refine own_bipush H (6 : Int32) (by decide) at_332 ?_
      refine own_laloadV H f265 (by decide) (by decide) rfl at_334 ?_
      refine own_ladd H rfl at_335 ?_
      refine own_invokevirtual H (a := a164) (argsL := [(.long (p3 + (((((((0 : Int64) + (FGap p4 (0 : Int32))) + (FGap p4 (32 : Int32))) + (FGap p5 (0 : Int32))) + (FGap p5 (32 : Int32))) + (FGap p6 (0 : Int32))) + (FGap p6 (32 : Int32)))))]) (rest := [(.int (1 : Int32))]) (rmX2_0_1 l Z a0 (own_hw H) h255 n0 a164 (p3 + (((((((0 : Int64) + (FGap p4 (0 : Int32))) + (FGap p4 (32 : Int32))) + (FGap p5 (0 : Int32))) + (FGap p5 (32 : Int32))) + (FGap p6 (0 : Int32))) + (FGap p6 (32 : Int32)))) p2 a190 kA191 (p3 + (((((0 : Int64) + (FGap p4 (0 : Int32))) + (FGap p4 (32 : Int32))) + (FGap p5 (0 : Int32))) + (FGap p5 (32 : Int32)))) (p3 + ((((((0 : Int64) + (FGap p4 (0 : Int32))) + (FGap p4 (32 : Int32))) + (FGap p5 (0 : Int32))) + (FGap p5 (32 : Int32))) + (FGap p6 (0 : Int32)))) f264 f257 f258 f259 f260 f261 f262 f263 f202 f170 f192) f257 (w1 := 19) (w0 := 20) (w5 := 22) (w2 := 21) (w3 := 8) (w4 := 23) rfl rfl rfl rfl rfl rfl own_pd2 rfl 1 (by decide) rfl (by decide) (Nat.le_of_eq rfl) (by decide) (by decide) (by decide) rfl at_336 ?_
      rintro _ h267 ⟨rfl, K268, f269, f270, f271, f272, f273, f274, f275⟩
      have f276 : n0 ≤ h267.size := Nat.le_trans f264 K268.1
      have f277 : Arv Z h267 a2 kA3 .long (7 : Int32) [(.long (0 : Int64)), (.long ((0 : Int64) + (FGap p4 (0 : Int32)))), (.long (((0 : Int64) + (FGap p4 (0 : Int32))) + (FGap p4 (32 : Int32)))), (.long ((((0 : Int64) + (FGap p4 (0 : Int32))) + (FGap p4 (32 : Int32))) + (FGap p5 (0 : Int32)))), (.long (((((0 : Int64) + (FGap p4 (0 : Int32))) + (FGap p4 (32 : Int32))) + (FGap p5 (0 : Int32))) + (FGap p5 (32 : Int32)))), (.long ((((((0 : Int64) + (FGap p4 (0 : Int32))) + (FGap p4 (32 : Int32))) + (FGap p5 (0 : Int32))) + (FGap p5 (32 : Int32))) + (FGap p6 (0 : Int32)))), (.long (((((((0 : Int64) + (FGap p4 (0 : Int32))) + (FGap p4 (32 : Int32))) + (FGap p5 (0 : Int32))) + (FGap p5 (32 : Int32))) + (FGap p6 (0 : Int32))) + (FGap p6 (32 : Int32))))] (.long 0) := f265.keep K268 (ninS f169 (ninS f203 nin0))
      have f278 : Exa Z h267 a164 "com/example/trailwire/trailwire/http2/BurstLimit" := f257.keep K268
      show own_G _ _ _ _ _ _ _ _ 339 #[.val (.int p1), .val (.long p2), .second, .val (.long p3), .second, .val (.long p4), .second, .val (.long p5), .second, .val (.long p6), .second, .val (.int (2 : Int32)), .val (.ref a2), .val (.ref a164), .val (.int (1 : Int32))] [(.int (if ((p3 + (((((((0 : Int64) + (FGap p4 (0 : Int32))) + (FGap p4 (32 : Int32))) + (FGap p5 (0 : Int32))) + (FGap p5 (32 : Int32))) + (FGap p6 (0 : Int32))) + (FGap p6 (32 : Int32)))) - (p3 + (((((0 : Int64) + (FGap p4 (0 : Int32))) + (FGap p4 (32 : Int32))) + (FGap p5 (0 : Int32))) + (FGap p5 (32 : Int32))))) < p2 then (1 : Int32) else (0 : Int32))), (.int (1 : Int32))]
      refine own_bipush H (6 : Int32) (by decide) at_339 ?_
      refine own_iload H rfl at_341 ?_
      refine own_aload H rfl rfl at_343 ?_
      refine own_lload_n H rfl at_345 ?_
      refine own_invokestatic H (argsL := [(.int (6 : Int32)), (.int (2 : Int32)), (.ref a2), (.long p2)]) (rest := [(.int (if ((p3 + (((((((0 : Int64) + (FGap p4 (0 : Int32))) + (FGap p4 (32 : Int32))) + (FGap p5 (0 : Int32))) + (FGap p5 (32 : Int32))) + (FGap p6 (0 : Int32))) + (FGap p6 (32 : Int32)))) - (p3 + (((((0 : Int64) + (FGap p4 (0 : Int32))) + (FGap p4 (32 : Int32))) + (FGap p5 (0 : Int32))) + (FGap p5 (32 : Int32))))) < p2 then (1 : Int32) else (0 : Int32))), (.int (1 : Int32))]) (rmE6_2 l Z a0 (own_hw H) h267 n0 a2 p2 kA3 (0 : Int64) ((0 : Int64) + (FGap p4 (0 : Int32))) (((0 : Int64) + (FGap p4 (0 : Int32))) + (FGap p4 (32 : Int32))) ((((0 : Int64) + (FGap p4 (0 : Int32))) + (FGap p4 (32 : Int32))) + (FGap p5 (0 : Int32))) (((((0 : Int64) + (FGap p4 (0 : Int32))) + (FGap p4 (32 : Int32))) + (FGap p5 (0 : Int32))) + (FGap p5 (32 : Int32))) ((((((0 : Int64) + (FGap p4 (0 : Int32))) + (FGap p4 (32 : Int32))) + (FGap p5 (0 : Int32))) + (FGap p5 (32 : Int32))) + (FGap p6 (0 : Int32))) (((((((0 : Int64) + (FGap p4 (0 : Int32))) + (FGap p4 (32 : Int32))) + (FGap p5 (0 : Int32))) + (FGap p5 (32 : Int32))) + (FGap p6 (0 : Int32))) + (FGap p6 (32 : Int32))) f277) (w1 := 30) (w2 := 31) (w3 := 3) (w4 := 32) rfl rfl rfl rfl own_pd3 rfl 2 (by decide) rfl (by decide) (Nat.le_of_eq rfl) (by decide) (by decide) (by decide) rfl at_346 ?_
      rintro _ _ ⟨rfl, rfl⟩
      show own_G _ _ _ _ _ _ _ _ 349 #[.val (.int p1), .val (.long p2), .second, .val (.long p3), .second, .val (.long p4), .second, .val (.long p5), .second, .val (.long p6), .second, .val (.int (2 : Int32)), .val (.ref a2), .val (.ref a164), .val (.int (1 : Int32))] [(.int (if ((((((((0 : Int64) + (FGap p4 (0 : Int32))) + (FGap p4 (32 : Int32))) + (FGap p5 (0 : Int32))) + (FGap p5 (32 : Int32))) + (FGap p6 (0 : Int32))) + (FGap p6 (32 : Int32))) - (((((0 : Int64) + (FGap p4 (0 : Int32))) + (FGap p4 (32 : Int32))) + (FGap p5 (0 : Int32))) + (FGap p5 (32 : Int32)))) < p2 then (1 : Int32) else (0 : Int32))), (.int (if ((p3 + (((((((0 : Int64) + (FGap p4 (0 : Int32))) + (FGap p4 (32 : Int32))) + (FGap p5 (0 : Int32))) + (FGap p5 (32 : Int32))) + (FGap p6 (0 : Int32))) + (FGap p6 (32 : Int32)))) - (p3 + (((((0 : Int64) + (FGap p4 (0 : Int32))) + (FGap p4 (32 : Int32))) + (FGap p5 (0 : Int32))) + (FGap p5 (32 : Int32))))) < p2 then (1 : Int32) else (0 : Int32))), (.int (1 : Int32))]
      refine own_icmpne_f H at_349 (by simp only [own_sub]) ?_
      refine own_iconst H (1 : Int32) (by decide) at_352 ?_
      refine own_goto H (pc' := 357) at_353 (by decide) (by decide) ?_
      refine own_iand (v := (1 : Int32)) H (by decide) at_357 ?_
      refine own_istore H #[.val (.int p1), .val (.long p2), .second, .val (.long p3), .second, .val (.long p4), .second, .val (.long p5), .second, .val (.long p6), .second, .val (.int (2 : Int32)), .val (.ref a2), .val (.ref a164), .val (.int (1 : Int32))] rfl at_358 ?_
      refine own_iload H rfl at_360 ?_
      exact own_ireturn H (by simp) (by decide) at_362 (by decide) (by decide) (by show some _ = some _; rw [F0, if_neg c45, if_pos c162])
    ·
      by_cases c279 : ((1 : Int32) + (p1 &&& (3 : Int32))) = (3 : Int32)
      ·
        rw [c279]
        show own_G _ _ _ _ _ _ _ _ 112 #[.val (.int p1), .val (.long p2), .second, .val (.long p3), .second, .val (.long p4), .second, .val (.long p5), .second, .val (.long p6), .second, .val (.int (3 : Int32)), .val (.ref a2), .unset, .unset] []
        refine own_new H (w := 6) (wi := 7) (wz := 8) rfl rfl rfl at_112 (by decide) (by decide) ?_
        intro h280 a281 ha282 E283 X284 D285
        have f286 : a2 ≠ a281 := Nat.ne_of_lt (by rw [ha282]; exact f44.lt)
        have f287 : n0 ≤ a281 := by rw [ha282]; exact f43
        have f288 : n0 ≤ h280.size := Nat.le_trans f43 E283.1
        have f289 : Arv Z h280 a2 kA3 .long (7 : Int32) [(.long (0 : Int64)), (.long ((0 : Int64) + (FGap p4 (0 : Int32)))), (.long (((0 : Int64) + (FGap p4 (0 : Int32))) + (FGap p4 (32 : Int32)))), (.long ((((0 : Int64) + (FGap p4 (0 : Int32))) + (FGap p4 (32 : Int32))) + (FGap p5 (0 : Int32)))), (.long (((((0 : Int64) + (FGap p4 (0 : Int32))) + (FGap p4 (32 : Int32))) + (FGap p5 (0 : Int32))) + (FGap p5 (32 : Int32)))), (.long ((((((0 : Int64) + (FGap p4 (0 : Int32))) + (FGap p4 (32 : Int32))) + (FGap p5 (0 : Int32))) + (FGap p5 (32 : Int32))) + (FGap p6 (0 : Int32)))), (.long (((((((0 : Int64) + (FGap p4 (0 : Int32))) + (FGap p4 (32 : Int32))) + (FGap p5 (0 : Int32))) + (FGap p5 (32 : Int32))) + (FGap p6 (0 : Int32))) + (FGap p6 (32 : Int32))))] (.long 0) := f44.ext E283
        have f290 : Fld Z h280 a281 "com/example/trailwire/trailwire/http2/BurstLimit" "events" "I" (.int (0 : Int32)) := D285 (Or.inr (own_w H (i := 16) rfl)) (ty := .int) (by decide)
        have f291 : Fld Z h280 a281 "com/example/trailwire/trailwire/http2/BurstLimit" "period" "J" (.long (0 : Int64)) := D285 (Or.inr (own_w H (i := 18) rfl)) (ty := .long) (by decide)
        have f292 : Fld Z h280 a281 "com/example/trailwire/trailwire/http2/BurstLimit" "times" "[J" .null := D285 (Or.inl (own_w H (i := 25) rfl)) (ty := (.array .long)) (by decide)
        have f293 : Fld Z h280 a281 "com/example/trailwire/trailwire/http2/BurstLimit" "full" "Z" (.int (0 : Int32)) := D285 (Or.inl (own_w H (i := 27) rfl)) (ty := .boolean) (by decide)
        have f294 : Fld Z h280 a281 "com/example/trailwire/trailwire/http2/BurstLimit" "next" "I" (.int (0 : Int32)) := D285 (Or.inl (own_w H (i := 29) rfl)) (ty := .int) (by decide)
        show own_G _ _ _ _ _ _ _ _ 115 #[.val (.int p1), .val (.long p2), .second, .val (.long p3), .second, .val (.long p4), .second, .val (.long p5), .second, .val (.long p6), .second, .val (.int (3 : Int32)), .val (.ref a2), .unset, .unset] [(.ref a281)]
        refine own_dup H rfl at_115 ?_
        refine own_iload H rfl at_116 ?_
        refine own_lload_n H rfl at_118 ?_
        refine own_invokespecial H (a := a281) (argsL := [(.int (3 : Int32)), (.long p2)]) (rest := [(.ref a281)]) (rm1 l Z a0 (own_hw H) h280 n0 a281 (3 : Int32) p2 f288 f287 X284 f290 f291 f292 f294 f293) rfl (w1 := 9) (w2 := 10) (w3 := 8) (w4 := 11) rfl rfl rfl rfl own_pd1 rfl 1 (by decide) rfl (by decide) (Nat.le_of_eq rfl) (by decide) (by decide) (by decide) rfl at_119 ?_
        rintro _ h295 ⟨rfl, K296, f297, f298, f299, f300, f301⟩
        have f302 : n0 ≤ h295.size := Nat.le_trans f288 K296.1
        have f303 : Arv Z h295 a2 kA3 .long (7 : Int32) [(.long (0 : Int64)), (.long ((0 : Int64) + (FGap p4 (0 : Int32)))), (.long (((0 : Int64) + (FGap p4 (0 : Int32))) + (FGap p4 (32 : Int32)))), (.long ((((0 : Int64) + (FGap p4 (0 : Int32))) + (FGap p4 (32 : Int32))) + (FGap p5 (0 : Int32)))), (.long (((((0 : Int64) + (FGap p4 (0 : Int32))) + (FGap p4 (32 : Int32))) + (FGap p5 (0 : Int32))) + (FGap p5 (32 : Int32)))), (.long ((((((0 : Int64) + (FGap p4 (0 : Int32))) + (FGap p4 (32 : Int32))) + (FGap p5 (0 : Int32))) + (FGap p5 (32 : Int32))) + (FGap p6 (0 : Int32)))), (.long (((((((0 : Int64) + (FGap p4 (0 : Int32))) + (FGap p4 (32 : Int32))) + (FGap p5 (0 : Int32))) + (FGap p5 (32 : Int32))) + (FGap p6 (0 : Int32))) + (FGap p6 (32 : Int32))))] (.long 0) := f289.keep K296 (ninS f286 nin0)
        have f304 : Exa Z h295 a281 "com/example/trailwire/trailwire/http2/BurstLimit" := X284.keep K296
        show own_G _ _ _ _ _ _ _ _ 122 #[.val (.int p1), .val (.long p2), .second, .val (.long p3), .second, .val (.long p4), .second, .val (.long p5), .second, .val (.long p6), .second, .val (.int (3 : Int32)), .val (.ref a2), .unset, .unset] [(.ref a281)]
        refine own_astore H rfl #[.val (.int p1), .val (.long p2), .second, .val (.long p3), .second, .val (.long p4), .second, .val (.long p5), .second, .val (.long p6), .second, .val (.int (3 : Int32)), .val (.ref a2), .val (.ref a281), .unset] rfl at_122 ?_
        refine own_iconst H (1 : Int32) (by decide) at_124 ?_
        refine own_istore H #[.val (.int p1), .val (.long p2), .second, .val (.long p3), .second, .val (.long p4), .second, .val (.long p5), .second, .val (.long p6), .second, .val (.int (3 : Int32)), .val (.ref a2), .val (.ref a281), .val (.int (1 : Int32))] rfl at_125 ?_
        refine own_iload H rfl at_127 ?_
        refine own_aload H rfl rfl at_129 ?_
        refine own_lload_n H rfl at_131 ?_
        refine own_aload H rfl rfl at_132 ?_
        refine own_iconst H (0 : Int32) (by decide) at_134 ?_
        refine own_laloadV H f303 (by decide) (by decide) rfl at_135 ?_
        refine own_ladd H rfl at_136 ?_
        refine own_invokevirtual H (a := a281) (argsL := [(.long (p3 + (0 : Int64)))]) (rest := [(.int (1 : Int32))]) (rmX3_0_0f l Z a0 (own_hw H) h295 n0 a281 (p3 + (0 : Int64)) p2 f302 f304 f297 f298 f299 f300 f301 f287) f304 (w1 := 19) (w0 := 20) (w5 := 22) (w2 := 21) (w3 := 8) (w4 := 23) rfl rfl rfl rfl rfl rfl own_pd2 rfl 1 (by decide) rfl (by decide) (Nat.le_of_eq rfl) (by decide) (by decide) (by decide) rfl at_137 ?_
        rintro _ h305 ⟨a307, kA308, rfl, K306, f309, f310, f311, f312, f313, f314, f315, f316, f317, f318⟩
        have f319 : a2 ≠ a307 := Nat.ne_of_lt (Nat.lt_of_lt_of_le f303.lt f310)
        have f320 : a281 ≠ a307 := Nat.ne_of_lt (Nat.lt_of_lt_of_le f304.lt f310)
        have f321 : n0 ≤ h305.size := Nat.le_trans f302 K306.1
        have f322 : Arv Z h305 a2 kA3 .long (7 : Int32) [(.long (0 : Int64)), (.long ((0 : Int64) + (FGap p4 (0 : Int32)))), (.long (((0 : Int64) + (FGap p4 (0 : Int32))) + (FGap p4 (32 : Int32)))), (.long ((((0 : Int64) + (FGap p4 (0 : Int32))) + (FGap p4 (32 : Int32))) + (FGap p5 (0 : Int32)))), (.long (((((0 : Int64) + (FGap p4 (0 : Int32))) + (FGap p4 (32 : Int32))) + (FGap p5 (0 : Int32))) + (FGap p5 (32 : Int32)))), (.long ((((((0 : Int64) + (FGap p4 (0 : Int32))) + (FGap p4 (32 : Int32))) + (FGap p5 (0 : Int32))) + (FGap p5 (32 : Int32))) + (FGap p6 (0 : Int32)))), (.long (((((((0 : Int64) + (FGap p4 (0 : Int32))) + (FGap p4 (32 : Int32))) + (FGap p5 (0 : Int32))) + (FGap p5 (32 : Int32))) + (FGap p6 (0 : Int32))) + (FGap p6 (32 : Int32))))] (.long 0) := f303.keep K306 (ninS f286 nin0)
        have f323 : Exa Z h305 a281 "com/example/trailwire/trailwire/http2/BurstLimit" := f304.keep K306
        show own_G _ _ _ _ _ _ _ _ 140 #[.val (.int p1), .val (.long p2), .second, .val (.long p3), .second, .val (.long p4), .second, .val (.long p5), .second, .val (.long p6), .second, .val (.int (3 : Int32)), .val (.ref a2), .val (.ref a281), .val (.int (1 : Int32))] [(.int (0 : Int32)), (.int (1 : Int32))]
        refine own_iconst H (0 : Int32) (by decide) at_140 ?_
        refine own_iload H rfl at_141 ?_
        refine own_aload H rfl rfl at_143 ?_
        refine own_lload_n H rfl at_145 ?_
        refine own_invokestatic H (argsL := [(.int (0 : Int32)), (.int (3 : Int32)), (.ref a2), (.long p2)]) (rest := [(.int (0 : Int32)), (.int (1 : Int32))]) (rmE0_3 l Z a0 (own_hw H) h305 n0 a2 p2 kA3 (0 : Int64) ((0 : Int64) + (FGap p4 (0 : Int32))) (((0 : Int64) + (FGap p4 (0 : Int32))) + (FGap p4 (32 : Int32))) ((((0 : Int64) + (FGap p4 (0 : Int32))) + (FGap p4 (32 : Int32))) + (FGap p5 (0 : Int32))) (((((0 : Int64) + (FGap p4 (0 : Int32))) + (FGap p4 (32 : Int32))) + (FGap p5 (0 : Int32))) + (FGap p5 (32 : Int32))) ((((((0 : Int64) + (FGap p4 (0 : Int32))) + (FGap p4 (32 : Int32))) + (FGap p5 (0 : Int32))) + (FGap p5 (32 : Int32))) + (FGap p6 (0 : Int32))) (((((((0 : Int64) + (FGap p4 (0 : Int32))) + (FGap p4 (32 : Int32))) + (FGap p5 (0 : Int32))) + (FGap p5 (32 : Int32))) + (FGap p6 (0 : Int32))) + (FGap p6 (32 : Int32))) f322) (w1 := 30) (w2 := 31) (w3 := 3) (w4 := 32) rfl rfl rfl rfl own_pd3 rfl 2 (by decide) rfl (by decide) (Nat.le_of_eq rfl) (by decide) (by decide) (by decide) rfl at_146 ?_
        rintro _ _ ⟨rfl, rfl⟩
        show own_G _ _ _ _ _ _ _ _ 149 #[.val (.int p1), .val (.long p2), .second, .val (.long p3), .second, .val (.long p4), .second, .val (.long p5), .second, .val (.long p6), .second, .val (.int (3 : Int32)), .val (.ref a2), .val (.ref a281), .val (.int (1 : Int32))] [(.int (0 : Int32)), (.int (0 : Int32)), (.int (1 : Int32))]
        refine own_icmpne_f H at_149 (by decide) ?_
        refine own_iconst H (1 : Int32) (by decide) at_152 ?_
        refine own_goto H (pc' := 157) at_153 (by decide) (by decide) ?_
        refine own_iand (v := (1 : Int32)) H (by decide) at_157 ?_
        refine own_istore H #[.val (.int p1), .val (.long p2), .second, .val (.long p3), .second, .val (.long p4), .second, .val (.long p5), .second, .val (.long p6), .second, .val (.int (3 : Int32)), .val (.ref a2), .val (.ref a281), .val (.int (1 : Int32))] rfl at_158 ?_
        refine own_iload H rfl at_160 ?_
        refine own_aload H rfl rfl at_162 ?_
        refine own_lload_n H rfl at_164 ?_
        refine own_aload H rfl rfl at_165 ?_
        refine own_iconst H (1 : Int32) (by decide) at_167 ?_
        refine own_laloadV H f322 (by decide) (by decide) rfl at_168 ?_
        refine own_ladd H rfl at_169 ?_
        refine own_invokevirtual H (a := a281) (argsL := [(.long (p3 + ((0 : Int64) + (FGap p4 (0 : Int32)))))]) (rest := [(.int (1 : Int32))]) (rmX3_1_0 l Z a0 (own_hw H) h305 n0 a281 (p3 + ((0 : Int64) + (FGap p4 (0 : Int32)))) p2 a307 kA308 (p3 + (0 : Int64)) 0 0 f321 f312 f313 f314 f315 f316 f317 f318 f320 f287 f309) f312 (w1 := 19) (w0 := 20) (w5 := 22) (w2 := 21) (w3 := 8) (w4 := 23) rfl rfl rfl rfl rfl rfl own_pd2 rfl 1 (by decide) rfl (by decide) (Nat.le_of_eq rfl) (by decide) (by decide) (by decide) rfl at_170 ?_
        rintro _ h324 ⟨rfl, K325, f326, f327, f328, f329, f330, f331, f332⟩
        have f333 : n0 ≤ h324.size := Nat.le_trans f321 K325.1
        have f334 : Arv Z h324 a2 kA3 .long (7 : Int32) [(.long (0 : Int64)), (.long ((0 : Int64) + (FGap p4 (0 : Int32)))), (.long (((0 : Int64) + (FGap p4 (0 : Int32))) + (FGap p4 (32 : Int32)))), (.long ((((0 : Int64) + (FGap p4 (0 : Int32))) + (FGap p4 (32 : Int32))) + (FGap p5 (0 : Int32)))), (.long (((((0 : Int64) + (FGap p4 (0 : Int32))) + (FGap p4 (32 : Int32))) + (FGap p5 (0 : Int32))) + (FGap p5 (32 : Int32)))), (.long ((((((0 : Int64) + (FGap p4 (0 : Int32))) + (FGap p4 (32 : Int32))) + (FGap p5 (0 : Int32))) + (FGap p5 (32 : Int32))) + (FGap p6 (0 : Int32)))), (.long (((((((0 : Int64) + (FGap p4 (0 : Int32))) + (FGap p4 (32 : Int32))) + (FGap p5 (0 : Int32))) + (FGap p5 (32 : Int32))) + (FGap p6 (0 : Int32))) + (FGap p6 (32 : Int32))))] (.long 0) := f322.keep K325 (ninS f286 (ninS f319 nin0))
        have f335 : Exa Z h324 a281 "com/example/trailwire/trailwire/http2/BurstLimit" := f312.keep K325
        show own_G _ _ _ _ _ _ _ _ 173 #[.val (.int p1), .val (.long p2), .second, .val (.long p3), .second, .val (.long p4), .second, .val (.long p5), .second, .val (.long p6), .second, .val (.int (3 : Int32)), .val (.ref a2), .val (.ref a281), .val (.int (1 : Int32))] [(.int (0 : Int32)), (.int (1 : Int32))]
        refine own_iconst H (1 : Int32) (by decide) at_173 ?_
        refine own_iload H rfl at_174 ?_
        refine own_aload H rfl rfl at_176 ?_
        refine own_lload_n H rfl at_178 ?_
        refine own_invokestatic H (argsL := [(.int (1 : Int32)), (.int (3 : Int32)), (.ref a2), (.long p2)]) (rest := [(.int (0 : Int32)), (.int (1 : Int32))]) (rmE1_3 l Z a0 (own_hw H) h324 n0 a2 p2 kA3 (0 : Int64) ((0 : Int64) + (FGap p4 (0 : Int32))) (((0 : Int64) + (FGap p4 (0 : Int32))) + (FGap p4 (32 : Int32))) ((((0 : Int64) + (FGap p4 (0 : Int32))) + (FGap p4 (32 : Int32))) + (FGap p5 (0 : Int32))) (((((0 : Int64) + (FGap p4 (0 : Int32))) + (FGap p4 (32 : Int32))) + (FGap p5 (0 : Int32))) + (FGap p5 (32 : Int32))) ((((((0 : Int64) + (FGap p4 (0 : Int32))) + (FGap p4 (32 : Int32))) + (FGap p5 (0 : Int32))) + (FGap p5 (32 : Int32))) + (FGap p6 (0 : Int32))) (((((((0 : Int64) + (FGap p4 (0 : Int32))) + (FGap p4 (32 : Int32))) + (FGap p5 (0 : Int32))) + (FGap p5 (32 : Int32))) + (FGap p6 (0 : Int32))) + (FGap p6 (32 : Int32))) f334) (w1 := 30) (w2 := 31) (w3 := 3) (w4 := 32) rfl rfl rfl rfl own_pd3 rfl 2 (by decide) rfl (by decide) (Nat.le_of_eq rfl) (by decide) (by decide) (by decide) rfl at_179 ?_
        rintro _ _ ⟨rfl, rfl⟩
        show own_G _ _ _ _ _ _ _ _ 182 #[.val (.int p1), .val (.long p2), .second, .val (.long p3), .second, .val (.long p4), .second, .val (.long p5), .second, .val (.long p6), .second, .val (.int (3 : Int32)), .val (.ref a2), .val (.ref a281), .val (.int (1 : Int32))] [(.int (0 : Int32)), (.int (0 : Int32)), (.int (1 : Int32))]
        refine own_icmpne_f H at_182 (by decide) ?_
        refine own_iconst H (1 : Int32) (by decide) at_185 ?_
        refine own_goto H (pc' := 190) at_186 (by decide) (by decide) ?_
        refine own_iand (v := (1 : Int32)) H (by decide) at_190 ?_
        refine own_istore H #[.val (.int p1), .val (.long p2), .second, .val (.long p3), .second, .val (.long p4), .second, .val (.long p5), .second, .val (.long p6), .second, .val (.int (3 : Int32)), .val (.ref a2), .val (.ref a281), .val (.int (1 : Int32))] rfl at_191 ?_
        refine own_iload H rfl at_193 ?_
        refine own_aload H rfl rfl at_195 ?_
        refine own_lload_n H rfl at_197 ?_
        refine own_aload H rfl rfl at_198 ?_
        refine own_iconst H (2 : Int32) (by decide) at_200 ?_
        refine own_laloadV H f334 (by decide) (by decide) rfl at_201 ?_
        refine own_ladd H rfl at_202 ?_
        refine own_invokevirtual H (a := a281) (argsL := [(.long (p3 + (((0 : Int64) + (FGap p4 (0 : Int32))) + (FGap p4 (32 : Int32)))))]) (rest := [(.int (1 : Int32))]) (rmX3_2_0 l Z a0 (own_hw H) h324 n0 a281 (p3 + (((0 : Int64) + (FGap p4 (0 : Int32))) + (FGap p4 (32 : Int32)))) p2 a307 kA308 (p3 + (0 : Int64)) (p3 + ((0 : Int64) + (FGap p4 (0 : Int32)))) 0 f333 f326 f327 f328 f329 f330 f331 f332 f320 f287 f309) f326 (w1 := 19) (w0 := 20) (w5 := 22) (w2 := 21) (w3 := 8) (w4 := 23) rfl rfl rfl rfl rfl rfl own_pd2 rfl 1 (by decide) rfl (by decide) (Nat.le_of_eq rfl) (by decide) (by decide) (by decide) rfl at_203 ?_
        rintro _ h336 ⟨rfl, K337, f338, f339, f340, f341, f342, f343, f344⟩
        have f345 : n0 ≤ h336.size := Nat.le_trans f333 K337.1
        have f346 : Arv Z h336 a2 kA3 .long (7 : Int32) [(.long (0 : Int64)), (.long ((0 : Int64) + (FGap p4 (0 : Int32)))), (.long (((0 : Int64) + (FGap p4 (0 : Int32))) + (FGap p4 (32 : Int32)))), (.long ((((0 : Int64) + (FGap p4 (0 : Int32))) + (FGap p4 (32 : Int32))) + (FGap p5 (0 : Int32)))), (.long (((((0 : Int64) + (FGap p4 (0 : Int32))) + (FGap p4 (32 : Int32))) + (FGap p5 (0 : Int32))) + (FGap p5 (32 : Int32)))), (.long ((((((0 : Int64) + (FGap p4 (0 : Int32))) + (FGap p4 (32 : Int32))) + (FGap p5 (0 : Int32))) + (FGap p5 (32 : Int32))) + (FGap p6 (0 : Int32)))), (.long (((((((0 : Int64) + (FGap p4 (0 : Int32))) + (FGap p4 (32 : Int32))) + (FGap p5 (0 : Int32))) + (FGap p5 (32 : Int32))) + (FGap p6 (0 : Int32))) + (FGap p6 (32 : Int32))))] (.long 0) := f334.keep K337 (ninS f286 (ninS f319 nin0))
        have f347 : Exa Z h336 a281 "com/example/trailwire/trailwire/http2/BurstLimit" := f326.keep K337
        show own_G _ _ _ _ _ _ _ _ 206 #[.val (.int p1), .val (.long p2), .second, .val (.long p3), .second, .val (.long p4), .second, .val (.long p5), .second, .val (.long p6), .second, .val (.int (3 : Int32)), .val (.ref a2), .val (.ref a281), .val (.int (1 : Int32))] [(.int (0 : Int32)), (.int (1 : Int32))]
        refine own_iconst H (2 : Int32) (by decide) at_206 ?_
        refine own_iload H rfl at_207 ?_
        refine own_aload H rfl rfl at_209 ?_
        refine own_lload_n H rfl at_211 ?_
        refine own_invokestatic H (argsL := [(.int (2 : Int32)), (.int (3 : Int32)), (.ref a2), (.long p2)]) (rest := [(.int (0 : Int32)), (.int (1 : Int32))]) (rmE2_3 l Z a0 (own_hw H) h336 n0 a2 p2 kA3 (0 : Int64) ((0 : Int64) + (FGap p4 (0 : Int32))) (((0 : Int64) + (FGap p4 (0 : Int32))) + (FGap p4 (32 : Int32))) ((((0 : Int64) + (FGap p4 (0 : Int32))) + (FGap p4 (32 : Int32))) + (FGap p5 (0 : Int32))) (((((0 : Int64) + (FGap p4 (0 : Int32))) + (FGap p4 (32 : Int32))) + (FGap p5 (0 : Int32))) + (FGap p5 (32 : Int32))) ((((((0 : Int64) + (FGap p4 (0 : Int32))) + (FGap p4 (32 : Int32))) + (FGap p5 (0 : Int32))) + (FGap p5 (32 : Int32))) + (FGap p6 (0 : Int32))) (((((((0 : Int64) + (FGap p4 (0 : Int32))) + (FGap p4 (32 : Int32))) + (FGap p5 (0 : Int32))) + (FGap p5 (32 : Int32))) + (FGap p6 (0 : Int32))) + (FGap p6 (32 : Int32))) f346) (w1 := 30) (w2 := 31) (w3 := 3) (w4 := 32) rfl rfl rfl rfl own_pd3 rfl 2 (by decide) rfl (by decide) (Nat.le_of_eq rfl) (by decide) (by decide) (by decide) rfl at_212 ?_
        rintro _ _ ⟨rfl, rfl⟩
        show own_G _ _ _ _ _ _ _ _ 215 #[.val (.int p1), .val (.long p2), .second, .val (.long p3), .second, .val (.long p4), .second, .val (.long p5), .second, .val (.long p6), .second, .val (.int (3 : Int32)), .val (.ref a2), .val (.ref a281), .val (.int (1 : Int32))] [(.int (0 : Int32)), (.int (0 : Int32)), (.int (1 : Int32))]
        refine own_icmpne_f H at_215 (by decide) ?_
        refine own_iconst H (1 : Int32) (by decide) at_218 ?_
        refine own_goto H (pc' := 223) at_219 (by decide) (by decide) ?_
        refine own_iand (v := (1 : Int32)) H (by decide) at_223 ?_
        refine own_istore H #[.val (.int p1), .val (.long p2), .second, .val (.long p3), .second, .val (.long p4), .second, .val (.long p5), .second, .val (.long p6), .second, .val (.int (3 : Int32)), .val (.ref a2), .val (.ref a281), .val (.int (1 : Int32))] rfl at_224 ?_
        refine own_iload H rfl at_226 ?_
        refine own_aload H rfl rfl at_228 ?_
        refine own_lload_n H rfl at_230 ?_
        refine own_aload H rfl rfl at_231 ?_
        refine own_iconst H (3 : Int32) (by decide) at_233 ?_
        refine own_laloadV H f346 (by decide) (by decide) rfl at_234 ?_
        refine own_ladd H rfl at_235 ?_
        refine own_invokevirtual H (a := a281) (argsL := [(.long (p3 + ((((0 : Int64) + (FGap p4 (0 : Int32))) + (FGap p4 (32 : Int32))) + (FGap p5 (0 : Int32)))))]) (rest := [(.int (1 : Int32))]) (rmX3_0_1 l Z a0 (own_hw H) h336 n0 a281 (p3 + ((((0 : Int64) + (FGap p4 (0 : Int32))) + (FGap p4 (32 : Int32))) + (FGap p5 (0 : Int32)))) p2 a307 kA308 (p3 + (0 : Int64)) (p3 + ((0 : Int64) + (FGap p4 (0 : Int32)))) (p3 + (((0 : Int64) + (FGap p4 (0 : Int32))) + (FGap p4 (32 : Int32)))) f345 f338 f339 f340 f341 f342 f343 f344 f320 f287 f309) f338 (w1 := 19) (w0 := 20) (w5 := 22) (w2 := 21) (w3 := 8) (w4 := 23) rfl rfl rfl rfl rfl rfl own_pd2 rfl 1 (by decide) rfl (by decide) (Nat.le_of_eq rfl) (by decide) (by decide) (by decide) rfl at_236 ?_
        rintro _ h348 ⟨rfl, K349, f350, f351, f352, f353, f354, f355, f356⟩
        have f357 : n0 ≤ h348.size := Nat.le_trans f345 K349.1
        have f358 : Arv Z h348 a2 kA3 .long (7 : Int32) [(.long (0 : Int64)), (.long ((0 : Int64) + (FGap p4 (0 : Int32)))), (.long (((0 : Int64) + (FGap p4 (0 : Int32))) + (FGap p4 (32 : Int32)))), (.long ((((0 : Int64) + (FGap p4 (0 : Int32))) + (FGap p4 (32 : Int32))) + (FGap p5 (0 : Int32)))), (.long (((((0 : Int64) + (FGap p4 (0 : Int32))) + (FGap p4 (32 : Int32))) + (FGap p5 (0 : Int32))) + (FGap p5 (32 : Int32)))), (.long ((((((0 : Int64) + (FGap p4 (0 : Int32))) + (FGap p4 (32 : Int32))) + (FGap p5 (0 : Int32))) + (FGap p5 (32 : Int32))) + (FGap p6 (0 : Int32)))), (.long (((((((0 : Int64) + (FGap p4 (0 : Int32))) + (FGap p4 (32 : Int32))) + (FGap p5 (0 : Int32))) + (FGap p5 (32 : Int32))) + (FGap p6 (0 : Int32))) + (FGap p6 (32 : Int32))))] (.long 0) := f346.keep K349 (ninS f286 (ninS f319 nin0))
        have f359 : Exa Z h348 a281 "com/example/trailwire/trailwire/http2/BurstLimit" := f338.keep K349
        show own_G _ _ _ _ _ _ _ _ 239 #[.val (.int p1), .val (.long p2), .second, .val (.long p3), .second, .val (.long p4), .second, .val (.long p5), .second, .val (.long p6), .second, .val (.int (3 : Int32)), .val (.ref a2), .val (.ref a281), .val (.int (1 : Int32))] [(.int (if ((p3 + ((((0 : Int64) + (FGap p4 (0 : Int32))) + (FGap p4 (32 : Int32))) + (FGap p5 (0 : Int32)))) - (p3 + (0 : Int64))) < p2 then (1 : Int32) else (0 : Int32))), (.int (1 : Int32))]
        refine own_iconst H (3 : Int32) (by decide) at_239 ?_
        refine own_iload H rfl at_240 ?_
        refine own_aload H rfl rfl at_242 ?_
        refine own_lload_n H rfl at_244 ?_
        refine own_invokestatic H (argsL := [(.int (3 : Int32)), (.int (3 : Int32)), (.ref a2), (.long p2)]) (rest := [(.int (if ((p3 + ((((0 : Int64) + (FGap p4 (0 : Int32))) + (FGap p4 (32 : Int32))) + (FGap p5 (0 : Int32)))) - (p3 + (0 : Int64))) < p2 then (1 : Int32) else (0 : Int32))), (.int (1 : Int32))]) (rmE3_3 l Z a0 (own_hw H) h348 n0 a2 p2 kA3 (0 : Int64) ((0 : Int64) + (FGap p4 (0 : Int32))) (((0 : Int64) + (FGap p4 (0 : Int32))) + (FGap p4 (32 : Int32))) ((((0 : Int64) + (FGap p4 (0 : Int32))) + (FGap p4 (32 : Int32))) + (FGap p5 (0 : Int32))) (((((0 : Int64) + (FGap p4 (0 : Int32))) + (FGap p4 (32 : Int32))) + (FGap p5 (0 : Int32))) + (FGap p5 (32 : Int32))) ((((((0 : Int64) + (FGap p4 (0 : Int32))) + (FGap p4 (32 : Int32))) + (FGap p5 (0 : Int32))) + (FGap p5 (32 : Int32))) + (FGap p6 (0 : Int32))) (((((((0 : Int64) + (FGap p4 (0 : Int32))) + (FGap p4 (32 : Int32))) + (FGap p5 (0 : Int32))) + (FGap p5 (32 : Int32))) + (FGap p6 (0 : Int32))) + (FGap p6 (32 : Int32))) f358) (w1 := 30) (w2 := 31) (w3 := 3) (w4 := 32) rfl rfl rfl rfl own_pd3 rfl 2 (by decide) rfl (by decide) (Nat.le_of_eq rfl) (by decide) (by decide) (by decide) rfl at_245 ?_
        rintro _ _ ⟨rfl, rfl⟩
        show own_G _ _ _ _ _ _ _ _ 248 #[.val (.int p1), .val (.long p2), .second, .val (.long p3), .second, .val (.long p4), .second, .val (.long p5), .second, .val (.long p6), .second, .val (.int (3 : Int32)), .val (.ref a2), .val (.ref a281), .val (.int (1 : Int32))] [(.int (if (((((0 : Int64) + (FGap p4 (0 : Int32))) + (FGap p4 (32 : Int32))) + (FGap p5 (0 : Int32))) - (0 : Int64)) < p2 then (1 : Int32) else (0 : Int32))), (.int (if ((p3 + ((((0 : Int64) + (FGap p4 (0 : Int32))) + (FGap p4 (32 : Int32))) + (FGap p5 (0 : Int32)))) - (p3 + (0 : Int64))) < p2 then (1 : Int32) else (0 : Int32))), (.int (1 : Int32))]
        refine own_icmpne_f H at_248 (by simp only [own_sub]) ?_
        refine own_iconst H (1 : Int32) (by decide) at_251 ?_
        refine own_goto H (pc' := 256) at_252 (by decide) (by decide) ?_
        refine own_iand (v := (1 : Int32)) H (by decide) at_256 ?_
        refine own_istore H #[.val (.int p1), .val (.long p2), .second, .val (.long p3), .second, .val (.long p4), .second, .val (.long p5), .second, .val (.long p6), .second, .val (.int (3 : Int32)), .val (.ref a2), .val (.ref a281), .val (.int (1 : Int32))] rfl at_257 ?_
        refine own_iload H rfl at_259 ?_
        refine own_aload H rfl rfl at_261 ?_
        refine own_lload_n H rfl at_263 ?_
        refine own_aload H rfl rfl at_264 ?_
        refine own_iconst H (4 : Int32) (by decide) at_266 ?_
        refine own_laloadV H f358 (by decide) (by decide) rfl at_267 ?_
        refine own_ladd H rfl at_268 ?_
        refine own_invokevirtual H (a := a281) (argsL := [(.long (p3 + (((((0 : Int64) + (FGap p4 (0 : Int32))) + (FGap p4 (32 : Int32))) + (FGap p5 (0 : Int32))) + (FGap p5 (32 : Int32)))))]) (rest := [(.int (1 : Int32))]) (rmX3_1_1 l Z a0 (own_hw H) h348 n0 a281 (p3 + (((((0 : Int64) + (FGap p4 (0 : Int32))) + (FGap p4 (32 : Int32))) + (FGap p5 (0 : Int32))) + (FGap p5 (32 : Int32)))) p2 a307 kA308 (p3 + ((((0 : Int64) + (FGap p4 (0 : Int32))) + (FGap p4 (32 : Int32))) + (FGap p5 (0 : Int32)))) (p3 + ((0 : Int64) + (FGap p4 (0 : Int32)))) (p3 + (((0 : Int64) + (FGap p4 (0 : Int32))) + (FGap p4 (32 : Int32)))) f357 f350 f351 f352 f353 f354 f355 f356 f320 f287 f309) f350 (w1 := 19) (w0 := 20) (w5 := 22) (w2 := 21) (w3 := 8) (w4 := 23) rfl rfl rfl rfl rfl rfl own_pd2 rfl 1 (by decide) rfl (by decide) (Nat.le_of_eq rfl) (by decide) (by decide) (by decide) rfl at_269 ?_
        rintro _ h360 ⟨rfl, K361, f362, f363, f364, f365, f366, f367, f368⟩
        have f369 : n0 ≤ h360.size := Nat.le_trans f357 K361.1
        have f370 : Arv Z h360 a2 kA3 .long (7 : Int32) [(.long (0 : Int64)), (.long ((0 : Int64) + (FGap p4 (0 : Int32)))), (.long (((0 : Int64) + (FGap p4 (0 : Int32))) + (FGap p4 (32 : Int32)))), (.long ((((0 : Int64) + (FGap p4 (0 : Int32))) + (FGap p4 (32 : Int32))) + (FGap p5 (0 : Int32)))), (.long (((((0 : Int64) + (FGap p4 (0 : Int32))) + (FGap p4 (32 : Int32))) + (FGap p5 (0 : Int32))) + (FGap p5 (32 : Int32)))), (.long ((((((0 : Int64) + (FGap p4 (0 : Int32))) + (FGap p4 (32 : Int32))) + (FGap p5 (0 : Int32))) + (FGap p5 (32 : Int32))) + (FGap p6 (0 : Int32)))), (.long (((((((0 : Int64) + (FGap p4 (0 : Int32))) + (FGap p4 (32 : Int32))) + (FGap p5 (0 : Int32))) + (FGap p5 (32 : Int32))) + (FGap p6 (0 : Int32))) + (FGap p6 (32 : Int32))))] (.long 0) := f358.keep K361 (ninS f286 (ninS f319 nin0))
        have f371 : Exa Z h360 a281 "com/example/trailwire/trailwire/http2/BurstLimit" := f350.keep K361
        show own_G _ _ _ _ _ _ _ _ 272 #[.val (.int p1), .val (.long p2), .second, .val (.long p3), .second, .val (.long p4), .second, .val (.long p5), .second, .val (.long p6), .second, .val (.int (3 : Int32)), .val (.ref a2), .val (.ref a281), .val (.int (1 : Int32))] [(.int (if ((p3 + (((((0 : Int64) + (FGap p4 (0 : Int32))) + (FGap p4 (32 : Int32))) + (FGap p5 (0 : Int32))) + (FGap p5 (32 : Int32)))) - (p3 + ((0 : Int64) + (FGap p4 (0 : Int32))))) < p2 then (1 : Int32) else (0 : Int32))), (.int (1 : Int32))]
        refine own_iconst H (4 : Int32) (by decide) at_272 ?_
        refine own_iload H rfl at_273 ?_
        refine own_aload H rfl rfl at_275 ?_
        refine own_lload_n H rfl at_277 ?_
        refine own_invokestatic H (argsL := [(.int (4 : Int32)), (.int (3 : Int32)), (.ref a2), (.long p2)]) (rest := [(.int (if ((p3 + (((((0 : Int64) + (FGap p4 (0 : Int32))) + (FGap p4 (32 : Int32))) + (FGap p5 (0 : Int32))) + (FGap p5 (32 : Int32)))) - (p3 + ((0 : Int64) + (FGap p4 (0 : Int32))))) < p2 then (1 : Int32) else (0 : Int32))), (.int (1 : Int32))]) (rmE4_3 l Z a0 (own_hw H) h360 n0 a2 p2 kA3 (0 : Int64) ((0 : Int64) + (FGap p4 (0 : Int32))) (((0 : Int64) + (FGap p4 (0 : Int32))) + (FGap p4 (32 : Int32))) ((((0 : Int64) + (FGap p4 (0 : Int32))) + (FGap p4 (32 : Int32))) + (FGap p5 (0 : Int32))) (((((0 : Int64) + (FGap p4 (0 : Int32))) + (FGap p4 (32 : Int32))) + (FGap p5 (0 : Int32))) + (FGap p5 (32 : Int32))) ((((((0 : Int64) + (FGap p4 (0 : Int32))) + (FGap p4 (32 : Int32))) + (FGap p5 (0 : Int32))) + (FGap p5 (32 : Int32))) + (FGap p6 (0 : Int32))) (((((((0 : Int64) + (FGap p4 (0 : Int32))) + (FGap p4 (32 : Int32))) + (FGap p5 (0 : Int32))) + (FGap p5 (32 : Int32))) + (FGap p6 (0 : Int32))) + (FGap p6 (32 : Int32))) f370) (w1 := 30) (w2 := 31) (w3 := 3) (w4 := 32) rfl rfl rfl rfl own_pd3 rfl 2 (by decide) rfl (by decide) (Nat.le_of_eq rfl) (by decide) (by decide) (by decide) rfl at_278 ?_
        rintro _ _ ⟨rfl, rfl⟩
        show own_G _ _ _ _ _ _ _ _ 281 #[.val (.int p1), .val (.long p2), .second, .val (.long p3), .second, .val (.long p4), .second, .val (.long p5), .second, .val (.long p6), .second, .val (.int (3 : Int32)), .val (.ref a2), .val (.ref a281), .val (.int (1 : Int32))] [(.int (if ((((((0 : Int64) + (FGap p4 (0 : Int32))) + (FGap p4 (32 : Int32))) + (FGap p5 (0 : Int32))) + (FGap p5 (32 : Int32))) - ((0 : Int64) + (FGap p4 (0 : Int32)))) < p2 then (1 : Int32) else (0 : Int32))), (.int (if ((p3 + (((((0 : Int64) + (FGap p4 (0 : Int32))) + (FGap p4 (32 : Int32))) + (FGap p5 (0 : Int32))) + (FGap p5 (32 : Int32)))) - (p3 + ((0 : Int64) + (FGap p4 (0 : Int32))))) < p2 then (1 : Int32) else (0 : Int32))), (.int (1 : Int32))]
        refine own_icmpne_f H at_281 (by simp only [own_sub]) ?_
        refine own_iconst H (1 : Int32) (by decide) at_284 ?_
        refine own_goto H (pc' := 289) at_285 (by decide) (by decide) ?_
        refine own_iand (v := (1 : Int32)) H (by decide) at_289 ?_
        refine own_istore H #[.val (.int p1), .val (.long p2), .second, .val (.long p3), .second, .val (.long p4), .second, .val (.long p5), .second, .val (.long p6), .second, .val (.int (3 : Int32)), .val (.ref a2), .val (.ref a281), .val (.int (1 : Int32))] rfl at_290 ?_
        refine own_iload H rfl at_292 ?_
        refine own_aload H rfl rfl at_294 ?_
        refine own_lload_n H rfl at_296 ?_
        refine own_aload H rfl rfl at_297 ?_
        refine own_iconst H (5 : Int32) (by decide) at_299 ?_
        refine own_laloadV H f370 (by decide) (by decide) rfl at_300 ?_
        refine own_ladd H rfl at_301 ?_
        refine own_invokevirtual H (a := a281) (argsL := [(.long (p3 + ((((((0 : Int64) + (FGap p4 (0 : Int32))) + (FGap p4 (32 : Int32))) + (FGap p5 (0 : Int32))) + (FGap p5 (32 : Int32))) + (FGap p6 (0 : Int32)))))]) (rest := [(.int (1 : Int32))]) (rmX3_2_1 l Z a0 (own_hw H) h360 n0 a281 (p3 + ((((((0 : Int64) + (FGap p4 (0 : Int32))) + (FGap p4 (32 : Int32))) + (FGap p5 (0 : Int32))) + (FGap p5 (32 : Int32))) + (FGap p6 (0 : Int32)))) p2 a307 kA308 (p3 + ((((0 : Int64) + (FGap p4 (0 : Int32))) + (FGap p4 (32 : Int32))) + (FGap p5 (0 : Int32)))) (p3 + (((((0 : Int64) + (FGap p4 (0 : Int32))) + (FGap p4 (32 : Int32))) + (FGap p5 (0 : Int32))) + (FGap p5 (32 : Int32)))) (p3 + (((0 : Int64) + (FGap p4 (0 : Int32))) + (FGap p4 (32 : Int32)))) f369 f362 f363 f364 f365 f366 f367 f368 f320 f287 f309) f362 (w1 := 19) (w0 := 20) (w5 := 22) (w2 := 21) (w3 := 8) (w4 := 23) rfl rfl rfl rfl rfl rfl own_pd2 rfl 1 (by decide) rfl (by decide) (Nat.le_of_eq rfl) (by decide) (by decide) (by decide) rfl at_302 ?_
        rintro _ h372 ⟨rfl, K373, f374, f375, f376, f377, f378, f379, f380⟩
        have f381 : n0 ≤ h372.size := Nat.le_trans f369 K373.1
        have f382 : Arv Z h372 a2 kA3 .long (7 : Int32) [(.long (0 : Int64)), (.long ((0 : Int64) + (FGap p4 (0 : Int32)))), (.long (((0 : Int64) + (FGap p4 (0 : Int32))) + (FGap p4 (32 : Int32)))), (.long ((((0 : Int64) + (FGap p4 (0 : Int32))) + (FGap p4 (32 : Int32))) + (FGap p5 (0 : Int32)))), (.long (((((0 : Int64) + (FGap p4 (0 : Int32))) + (FGap p4 (32 : Int32))) + (FGap p5 (0 : Int32))) + (FGap p5 (32 : Int32)))), (.long ((((((0 : Int64) + (FGap p4 (0 : Int32))) + (FGap p4 (32 : Int32))) + (FGap p5 (0 : Int32))) + (FGap p5 (32 : Int32))) + (FGap p6 (0 : Int32)))), (.long (((((((0 : Int64) + (FGap p4 (0 : Int32))) + (FGap p4 (32 : Int32))) + (FGap p5 (0 : Int32))) + (FGap p5 (32 : Int32))) + (FGap p6 (0 : Int32))) + (FGap p6 (32 : Int32))))] (.long 0) := f370.keep K373 (ninS f286 (ninS f319 nin0))
        have f383 : Exa Z h372 a281 "com/example/trailwire/trailwire/http2/BurstLimit" := f362.keep K373
        show own_G _ _ _ _ _ _ _ _ 305 #[.val (.int p1), .val (.long p2), .second, .val (.long p3), .second, .val (.long p4), .second, .val (.long p5), .second, .val (.long p6), .second, .val (.int (3 : Int32)), .val (.ref a2), .val (.ref a281), .val (.int (1 : Int32))] [(.int (if ((p3 + ((((((0 : Int64) + (FGap p4 (0 : Int32))) + (FGap p4 (32 : Int32))) + (FGap p5 (0 : Int32))) + (FGap p5 (32 : Int32))) + (FGap p6 (0 : Int32)))) - (p3 + (((0 : Int64) + (FGap p4 (0 : Int32))) + (FGap p4 (32 : Int32))))) < p2 then (1 : Int32) else (0 : Int32))), (.int (1 : Int32))]
        refine own_iconst H (5 : Int32) (by decide) at_305 ?_
        refine own_iload H rfl at_306 ?_
        refine own_aload H rfl rfl at_308 ?_
        refine own_lload_n H rfl at_310 ?_
        refine own_invokestatic H (argsL := [(.int (5 : Int32)), (.int (3 : Int32)), (.ref a2), (.long p2)]) (rest := [(.int (if ((p3 + ((((((0 : Int64) + (FGap p4 (0 : Int32))) + (FGap p4 (32 : Int32))) + (FGap p5 (0 : Int32))) + (FGap p5 (32 : Int32))) + (FGap p6 (0 : Int32)))) - (p3 + (((0 : Int64) + (FGap p4 (0 : Int32))) + (FGap p4 (32 : Int32))))) < p2 then (1 : Int32) else (0 : Int32))), (.int (1 : Int32))]) (rmE5_3 l Z a0 (own_hw H) h372 n0 a2 p2 kA3 (0 : Int64) ((0 : Int64) + (FGap p4 (0 : Int32))) (((0 : Int64) + (FGap p4 (0 : Int32))) + (FGap p4 (32 : Int32))) ((((0 : Int64) + (FGap p4 (0 : Int32))) + (FGap p4 (32 : Int32))) + (FGap p5 (0 : Int32))) (((((0 : Int64) + (FGap p4 (0 : Int32))) + (FGap p4 (32 : Int32))) + (FGap p5 (0 : Int32))) + (FGap p5 (32 : Int32))) ((((((0 : Int64) + (FGap p4 (0 : Int32))) + (FGap p4 (32 : Int32))) + (FGap p5 (0 : Int32))) + (FGap p5 (32 : Int32))) + (FGap p6 (0 : Int32))) (((((((0 : Int64) + (FGap p4 (0 : Int32))) + (FGap p4 (32 : Int32))) + (FGap p5 (0 : Int32))) + (FGap p5 (32 : Int32))) + (FGap p6 (0 : Int32))) + (FGap p6 (32 : Int32))) f382) (w1 := 30) (w2 := 31) (w3 := 3) (w4 := 32) rfl rfl rfl rfl own_pd3 rfl 2 (by decide) rfl (by decide) (Nat.le_of_eq rfl) (by decide) (by decide) (by decide) rfl at_311 ?_
        rintro _ _ ⟨rfl, rfl⟩
        show own_G _ _ _ _ _ _ _ _ 314 #[.val (.int p1), .val (.long p2), .second, .val (.long p3), .second, .val (.long p4), .second, .val (.long p5), .second, .val (.long p6), .second, .val (.int (3 : Int32)), .val (.ref a2), .val (.ref a281), .val (.int (1 : Int32))] [(.int (if (((((((0 : Int64) + (FGap p4 (0 : Int32))) + (FGap p4 (32 : Int32))) + (FGap p5 (0 : Int32))) + (FGap p5 (32 : Int32))) + (FGap p6 (0 : Int32))) - (((0 : Int64) + (FGap p4 (0 : Int32))) + (FGap p4 (32 : Int32)))) < p2 then (1 : Int32) else (0 : Int32))), (.int (if ((p3 + ((((((0 : Int64) + (FGap p4 (0 : Int32))) + (FGap p4 (32 : Int32))) + (FGap p5 (0 : Int32))) + (FGap p5 (32 : Int32))) + (FGap p6 (0 : Int32)))) - (p3 + (((0 : Int64) + (FGap p4 (0 : Int32))) + (FGap p4 (32 : Int32))))) < p2 then (1 : Int32) else (0 : Int32))), (.int (1 : Int32))]
        refine own_icmpne_f H at_314 (by simp only [own_sub]) ?_
        refine own_iconst H (1 : Int32) (by decide) at_317 ?_
        refine own_goto H (pc' := 322) at_318 (by decide) (by decide) ?_
        refine own_iand (v := (1 : Int32)) H (by decide) at_322 ?_
        refine own_istore H #[.val (.int p1), .val (.long p2), .second, .val (.long p3), .second, .val (.long p4), .second, .val (.long p5), .second, .val (.long p6), .second, .val (.int (3 : Int32)), .val (.ref a2), .val (.ref a281), .val (.int (1 : Int32))] rfl at_323 ?_
        refine own_iload H rfl at_325 ?_
        refine own_aload H rfl rfl at_327 ?_
        refine own_lload_n H rfl at_329 ?_
        refine own_aload H rfl rfl at_330 ?_
        refine own_bipush H (6 : Int32) (by decide) at_332 ?_
        refine own_laloadV H f382 (by decide) (by decide) rfl at_334 ?_
        refine own_ladd H rfl at_335 ?_
        refine own_invokevirtual H (a := a281) (argsL := [(.long (p3 + (((((((0 : Int64) + (FGap p4 (0 : Int32))) + (FGap p4 (32 : Int32))) + (FGap p5 (0 : Int32))) + (FGap p5 (32 : Int32))) + (FGap p6 (0 : Int32))) + (FGap p6 (32 : Int32)))))]) (rest := [(.int (1 : Int32))]) (rmX3_0_1 l Z a0 (own_hw H) h372 n0 a281 (p3 + (((((((0 : Int64) + (FGap p4 (0 : Int32))) + (FGap p4 (32 : Int32))) + (FGap p5 (0 : Int32))) + (FGap p5 (32 : Int32))) + (FGap p6 (0 : Int32))) + (FGap p6 (32 : Int32)))) p2 a307 kA308 (p3 + ((((0 : Int64) + (FGap p4 (0 : Int32))) + (FGap p4 (32 : Int32))) + (FGap p5 (0 : Int32)))) (p3 + (((((0 : Int64) + (FGap p4 (0 : Int32))) + (FGap p4 (32 : Int32))) + (FGap p5 (0 : Int32))) + (FGap p5 (32 : Int32)))) (p3 + ((((((0 : Int64) + (FGap p4 (0 : Int32))) + (FGap p4 (32 : Int32))) + (FGap p5 (0 : Int32))) + (FGap p5 (32 : Int32))) + (FGap p6 (0 : Int32)))) f381 f374 f375 f376 f377 f378 f379 f380 f320 f287 f309) f374 (w1 := 19) (w0 := 20) (w5 := 22) (w2 := 21) (w3 := 8) (w4 := 23) rfl rfl rfl rfl rfl rfl own_pd2 rfl 1 (by decide) rfl (by decide) (Nat.le_of_eq rfl) (by decide) (by decide) (by decide) rfl at_336 ?_
        rintro _ h384 ⟨rfl, K385, f386, f387, f388, f389, f390, f391, f392⟩
        have f393 : n0 ≤ h384.size := Nat.le_trans f381 K385.1
        have f394 : Arv Z h384 a2 kA3 .long (7 : Int32) [(.long (0 : Int64)), (.long ((0 : Int64) + (FGap p4 (0 : Int32)))), (.long (((0 : Int64) + (FGap p4 (0 : Int32))) + (FGap p4 (32 : Int32)))), (.long ((((0 : Int64) + (FGap p4 (0 : Int32))) + (FGap p4 (32 : Int32))) + (FGap p5 (0 : Int32)))), (.long (((((0 : Int64) + (FGap p4 (0 : Int32))) + (FGap p4 (32 : Int32))) + (FGap p5 (0 : Int32))) + (FGap p5 (32 : Int32)))), (.long ((((((0 : Int64) + (FGap p4 (0 : Int32))) + (FGap p4 (32 : Int32))) + (FGap p5 (0 : Int32))) + (FGap p5 (32 : Int32))) + (FGap p6 (0 : Int32)))), (.long (((((((0 : Int64) + (FGap p4 (0 : Int32))) + (FGap p4 (32 : Int32))) + (FGap p5 (0 : Int32))) + (FGap p5 (32 : Int32))) + (FGap p6 (0 : Int32))) + (FGap p6 (32 : Int32))))] (.long 0) := f382.keep K385 (ninS f286 (ninS f319 nin0))
        have f395 : Exa Z h384 a281 "com/example/trailwire/trailwire/http2/BurstLimit" := f374.keep K385
        show own_G _ _ _ _ _ _ _ _ 339 #[.val (.int p1), .val (.long p2), .second, .val (.long p3), .second, .val (.long p4), .second, .val (.long p5), .second, .val (.long p6), .second, .val (.int (3 : Int32)), .val (.ref a2), .val (.ref a281), .val (.int (1 : Int32))] [(.int (if ((p3 + (((((((0 : Int64) + (FGap p4 (0 : Int32))) + (FGap p4 (32 : Int32))) + (FGap p5 (0 : Int32))) + (FGap p5 (32 : Int32))) + (FGap p6 (0 : Int32))) + (FGap p6 (32 : Int32)))) - (p3 + ((((0 : Int64) + (FGap p4 (0 : Int32))) + (FGap p4 (32 : Int32))) + (FGap p5 (0 : Int32))))) < p2 then (1 : Int32) else (0 : Int32))), (.int (1 : Int32))]
        refine own_bipush H (6 : Int32) (by decide) at_339 ?_
        refine own_iload H rfl at_341 ?_
        refine own_aload H rfl rfl at_343 ?_
        refine own_lload_n H rfl at_345 ?_
        refine own_invokestatic H (argsL := [(.int (6 : Int32)), (.int (3 : Int32)), (.ref a2), (.long p2)]) (rest := [(.int (if ((p3 + (((((((0 : Int64) + (FGap p4 (0 : Int32))) + (FGap p4 (32 : Int32))) + (FGap p5 (0 : Int32))) + (FGap p5 (32 : Int32))) + (FGap p6 (0 : Int32))) + (FGap p6 (32 : Int32)))) - (p3 + ((((0 : Int64) + (FGap p4 (0 : Int32))) + (FGap p4 (32 : Int32))) + (FGap p5 (0 : Int32))))) < p2 then (1 : Int32) else (0 : Int32))), (.int (1 : Int32))]) (rmE6_3 l Z a0 (own_hw H) h384 n0 a2 p2 kA3 (0 : Int64) ((0 : Int64) + (FGap p4 (0 : Int32))) (((0 : Int64) + (FGap p4 (0 : Int32))) + (FGap p4 (32 : Int32))) ((((0 : Int64) + (FGap p4 (0 : Int32))) + (FGap p4 (32 : Int32))) + (FGap p5 (0 : Int32))) (((((0 : Int64) + (FGap p4 (0 : Int32))) + (FGap p4 (32 : Int32))) + (FGap p5 (0 : Int32))) + (FGap p5 (32 : Int32))) ((((((0 : Int64) + (FGap p4 (0 : Int32))) + (FGap p4 (32 : Int32))) + (FGap p5 (0 : Int32))) + (FGap p5 (32 : Int32))) + (FGap p6 (0 : Int32))) (((((((0 : Int64) + (FGap p4 (0 : Int32))) + (FGap p4 (32 : Int32))) + (FGap p5 (0 : Int32))) + (FGap p5 (32 : Int32))) + (FGap p6 (0 : Int32))) + (FGap p6 (32 : Int32))) f394) (w1 := 30) (w2 := 31) (w3 := 3) (w4 := 32) rfl rfl rfl rfl own_pd3 rfl 2 (by decide) rfl (by decide) (Nat.le_of_eq rfl) (by decide) (by decide) (by decide) rfl at_346 ?_
        rintro _ _ ⟨rfl, rfl⟩
        show own_G _ _ _ _ _ _ _ _ 349 #[.val (.int p1), .val (.long p2), .second, .val (.long p3), .second, .val (.long p4), .second, .val (.long p5), .second, .val (.long p6), .second, .val (.int (3 : Int32)), .val (.ref a2), .val (.ref a281), .val (.int (1 : Int32))] [(.int (if ((((((((0 : Int64) + (FGap p4 (0 : Int32))) + (FGap p4 (32 : Int32))) + (FGap p5 (0 : Int32))) + (FGap p5 (32 : Int32))) + (FGap p6 (0 : Int32))) + (FGap p6 (32 : Int32))) - ((((0 : Int64) + (FGap p4 (0 : Int32))) + (FGap p4 (32 : Int32))) + (FGap p5 (0 : Int32)))) < p2 then (1 : Int32) else (0 : Int32))), (.int (if ((p3 + (((((((0 : Int64) + (FGap p4 (0 : Int32))) + (FGap p4 (32 : Int32))) + (FGap p5 (0 : Int32))) + (FGap p5 (32 : Int32))) + (FGap p6 (0 : Int32))) + (FGap p6 (32 : Int32)))) - (p3 + ((((0 : Int64) + (FGap p4 (0 : Int32))) + (FGap p4 (32 : Int32))) + (FGap p5 (0 : Int32))))) < p2 then (1 : Int32) else (0 : Int32))), (.int (1 : Int32))]
        refine own_icmpne_f H at_349 (by simp only [own_sub]) ?_
        refine own_iconst H (1 : Int32) (by decide) at_352 ?_
        refine own_goto H (pc' := 357) at_353 (by decide) (by decide) ?_
        refine own_iand (v := (1 : Int32)) H (by decide) at_357 ?_
        refine own_istore H #[.val (.int p1), .val (.long p2), .second, .val (.long p3), .second, .val (.long p4), .second, .val (.long p5), .second, .val (.long p6), .second, .val (.int (3 : Int32)), .val (.ref a2), .val (.ref a281), .val (.int (1 : Int32))] rfl at_358 ?_
        refine own_iload H rfl at_360 ?_
        exact own_ireturn H (by simp) (by decide) at_362 (by decide) (by decide) (by show some _ = some _; rw [F0, if_neg c45, if_neg c162, if_pos c279])
      ·
        have c396 : ((1 : Int32) + (p1 &&& (3 : Int32))) = (4 : Int32) := own_k4 p1 c45 c162 c279
        rw [c396]
        show own_G _ _ _ _ _ _ _ _ 112 #[.val (.int p1), .val (.long p2), .second, .val (.long p3), .second, .val (.long p4), .second, .val (.long p5), .second, .val (.long p6), .second, .val (.int (4 : Int32)), .val (.ref a2), .unset, .unset] []
        refine own_new H (w := 6) (wi := 7) (wz := 8) rfl rfl rfl at_112 (by decide) (by decide) ?_
        intro h397 a398 ha399 E400 X401 D402
        have f403 : a2 ≠ a398 := Nat.ne_of_lt (by rw [ha399]; exact f44.lt)
        have f404 : n0 ≤ a398 := by rw [ha399]; exact f43
        have f405 : n0 ≤ h397.size := Nat.le_trans f43 E400.1
        have f406 : Arv Z h397 a2 kA3 .long (7 : Int32) [(.long (0 : Int64)), (.long ((0 : Int64) + (FGap p4 (0 : Int32)))), (.long (((0 : Int64) + (FGap p4 (0 : Int32))) + (FGap p4 (32 : Int32)))), (.long ((((0 : Int64) + (FGap p4 (0 : Int32))) + (FGap p4 (32 : Int32))) + (FGap p5 (0 : Int32)))), (.long (((((0 : Int64) + (FGap p4 (0 : Int32))) + (FGap p4 (32 : Int32))) + (FGap p5 (0 : Int32))) + (FGap p5 (32 : Int32)))), (.long ((((((0 : Int64) + (FGap p4 (0 : Int32))) + (FGap p4 (32 : Int32))) + (FGap p5 (0 : Int32))) + (FGap p5 (32 : Int32))) + (FGap p6 (0 : Int32)))), (.long (((((((0 : Int64) + (FGap p4 (0 : Int32))) + (FGap p4 (32 : Int32))) + (FGap p5 (0 : Int32))) + (FGap p5 (32 : Int32))) + (FGap p6 (0 : Int32))) + (FGap p6 (32 : Int32))))] (.long 0) := f44.ext E400
        have f407 : Fld Z h397 a398 "com/example/trailwire/trailwire/http2/BurstLimit" "events" "I" (.int (0 : Int32)) := D402 (Or.inr (own_w H (i := 16) rfl)) (ty := .int) (by decide)
        have f408 : Fld Z h397 a398 "com/example/trailwire/trailwire/http2/BurstLimit" "period" "J" (.long (0 : Int64)) := D402 (Or.inr (own_w H (i := 18) rfl)) (ty := .long) (by decide)
        have f409 : Fld Z h397 a398 "com/example/trailwire/trailwire/http2/BurstLimit" "times" "[J" .null := D402 (Or.inl (own_w H (i := 25) rfl)) (ty := (.array .long)) (by decide)
        have f410 : Fld Z h397 a398 "com/example/trailwire/trailwire/http2/BurstLimit" "full" "Z" (.int (0 : Int32)) := D402 (Or.inl (own_w H (i := 27) rfl)) (ty := .boolean) (by decide)
        have f411 : Fld Z h397 a398 "com/example/trailwire/trailwire/http2/BurstLimit" "next" "I" (.int (0 : Int32)) := D402 (Or.inl (own_w H (i := 29) rfl)) (ty := .int) (by decide)
        show own_G _ _ _ _ _ _ _ _ 115 #[.val (.int p1), .val (.long p2), .second, .val (.long p3), .second, .val (.long p4), .second, .val (.long p5), .second, .val (.long p6), .second, .val (.int (4 : Int32)), .val (.ref a2), .unset, .unset] [(.ref a398)]
        refine own_dup H rfl at_115 ?_
        refine own_iload H rfl at_116 ?_
        refine own_lload_n H rfl at_118 ?_
        refine own_invokespecial H (a := a398) (argsL := [(.int (4 : Int32)), (.long p2)]) (rest := [(.ref a398)]) (rm1 l Z a0 (own_hw H) h397 n0 a398 (4 : Int32) p2 f405 f404 X401 f407 f408 f409 f411 f410) rfl (w1 := 9) (w2 := 10) (w3 := 8) (w4 := 11) rfl rfl rfl rfl own_pd1 rfl 1 (by decide) rfl (by decide) (Nat.le_of_eq rfl) (by decide) (by decide) (by decide) rfl at_119 ?_
        rintro _ h412 ⟨rfl, K413, f414, f415, f416, f417, f418⟩
        have f419 : n0 ≤ h412.size := Nat.le_trans f405 K413.1
        have f420 : Arv Z h412 a2 kA3 .long (7 : Int32) [(.long (0 : Int64)), (.long ((0 : Int64) + (FGap p4 (0 : Int32)))), (.long (((0 : Int64) + (FGap p4 (0 : Int32))) + (FGap p4 (32 : Int32)))), (.long ((((0 : Int64) + (FGap p4 (0 : Int32))) + (FGap p4 (32 : Int32))) + (FGap p5 (0 : Int32)))), (.long (((((0 : Int64) + (FGap p4 (0 : Int32))) + (FGap p4 (32 : Int32))) + (FGap p5 (0 : Int32))) + (FGap p5 (32 : Int32)))), (.long ((((((0 : Int64) + (FGap p4 (0 : Int32))) + (FGap p4 (32 : Int32))) + (FGap p5 (0 : Int32))) + (FGap p5 (32 : Int32))) + (FGap p6 (0 : Int32)))), (.long (((((((0 : Int64) + (FGap p4 (0 : Int32))) + (FGap p4 (32 : Int32))) + (FGap p5 (0 : Int32))) + (FGap p5 (32 : Int32))) + (FGap p6 (0 : Int32))) + (FGap p6 (32 : Int32))))] (.long 0) := f406.keep K413 (ninS f403 nin0)
        have f421 : Exa Z h412 a398 "com/example/trailwire/trailwire/http2/BurstLimit" := X401.keep K413
        show own_G _ _ _ _ _ _ _ _ 122 #[.val (.int p1), .val (.long p2), .second, .val (.long p3), .second, .val (.long p4), .second, .val (.long p5), .second, .val (.long p6), .second, .val (.int (4 : Int32)), .val (.ref a2), .unset, .unset] [(.ref a398)]
        refine own_astore H rfl #[.val (.int p1), .val (.long p2), .second, .val (.long p3), .second, .val (.long p4), .second, .val (.long p5), .second, .val (.long p6), .second, .val (.int (4 : Int32)), .val (.ref a2), .val (.ref a398), .unset] rfl at_122 ?_
        refine own_iconst H (1 : Int32) (by decide) at_124 ?_
        refine own_istore H #[.val (.int p1), .val (.long p2), .second, .val (.long p3), .second, .val (.long p4), .second, .val (.long p5), .second, .val (.long p6), .second, .val (.int (4 : Int32)), .val (.ref a2), .val (.ref a398), .val (.int (1 : Int32))] rfl at_125 ?_
        refine own_iload H rfl at_127 ?_
        refine own_aload H rfl rfl at_129 ?_
        refine own_lload_n H rfl at_131 ?_
        refine own_aload H rfl rfl at_132 ?_
        refine own_iconst H (0 : Int32) (by decide) at_134 ?_
        refine own_laloadV H f420 (by decide) (by decide) rfl at_135 ?_
        refine own_ladd H rfl at_136 ?_
        refine own_invokevirtual H (a := a398) (argsL := [(.long (p3 + (0 : Int64)))]) (rest := [(.int (1 : Int32))]) (rmX4_0_0f l Z a0 (own_hw H) h412 n0 a398 (p3 + (0 : Int64)) p2 f419 f421 f414 f415 f416 f417 f418 f404) f421 (w1 := 19) (w0 := 20) (w5 := 22) (w2 := 21) (w3 := 8) (w4 := 23) rfl rfl rfl rfl rfl rfl own_pd2 rfl 1 (by decide) rfl (by decide) (Nat.le_of_eq rfl) (by decide) (by decide) (by decide) rfl at_137 ?_
        rintro _ h422 ⟨a424, kA425, rfl, K423, f426, f427, f428, f429, f430, f431, f432, f433, f434, f435⟩
        have f436 : a2 ≠ a424 := Nat.ne_of_lt (Nat.lt_of_lt_of_le f420.lt f427)
        have f437 : a398 ≠ a424 := Nat.ne_of_lt (Nat.lt_of_lt_of_le f421.lt f427)
        have f438 : n0 ≤ h422.size := Nat.le_trans f419 K423.1
        have f439 : Arv Z h422 a2 kA3 .long (7 : Int32) [(.long (0 : Int64)), (.long ((0 : Int64) + (FGap p4 (0 : Int32)))), (.long (((0 : Int64) + (FGap p4 (0 : Int32))) + (FGap p4 (32 : Int32)))), (.long ((((0 : Int64) + (FGap p4 (0 : Int32))) + (FGap p4 (32 : Int32))) + (FGap p5 (0 : Int32)))), (.long (((((0 : Int64) + (FGap p4 (0 : Int32))) + (FGap p4 (32 : Int32))) + (FGap p5 (0 : Int32))) + (FGap p5 (32 : Int32)))), (.long ((((((0 : Int64) + (FGap p4 (0 : Int32))) + (FGap p4 (32 : Int32))) + (FGap p5 (0 : Int32))) + (FGap p5 (32 : Int32))) + (FGap p6 (0 : Int32)))), (.long (((((((0 : Int64) + (FGap p4 (0 : Int32))) + (FGap p4 (32 : Int32))) + (FGap p5 (0 : Int32))) + (FGap p5 (32 : Int32))) + (FGap p6 (0 : Int32))) + (FGap p6 (32 : Int32))))] (.long 0) := f420.keep K423 (ninS f403 nin0)
        have f440 : Exa Z h422 a398 "com/example/trailwire/trailwire/http2/BurstLimit" := f421.keep K423
        show own_G _ _ _ _ _ _ _ _ 140 #[.val (.int p1), .val (.long p2), .second, .val (.long p3), .second, .val (.long p4), .second, .val (.long p5), .second, .val (.long p6), .second, .val (.int (4 : Int32)), .val (.ref a2), .val (.ref a398), .val (.int (1 : Int32))] [(.int (0 : Int32)), (.int (1 : Int32))]
        refine own_iconst H (0 : Int32) (by decide) at_140 ?_
        refine own_iload H rfl at_141 ?_
        refine own_aload H rfl rfl at_143 ?_
        refine own_lload_n H rfl at_145 ?_
        refine own_invokestatic H (argsL := [(.int (0 : Int32)), (.int (4 : Int32)), (.ref a2), (.long p2)]) (rest := [(.int (0 : Int32)), (.int (1 : Int32))]) (rmE0_4 l Z a0 (own_hw H) h422 n0 a2 p2 kA3 (0 : Int64) ((0 : Int64) + (FGap p4 (0 : Int32))) (((0 : Int64) + (FGap p4 (0 : Int32))) + (FGap p4 (32 : Int32))) ((((0 : Int64) + (FGap p4 (0 : Int32))) + (FGap p4 (32 : Int32))) + (FGap p5 (0 : Int32))) (((((0 : Int64) + (FGap p4 (0 : Int32))) + (FGap p4 (32 : Int32))) + (FGap p5 (0 : Int32))) + (FGap p5 (32 : Int32))) ((((((0 : Int64) + (FGap p4 (0 : Int32))) + (FGap p4 (32 : Int32))) + (FGap p5 (0 : Int32))) + (FGap p5 (32 : Int32))) + (FGap p6 (0 : Int32))) (((((((0 : Int64) + (FGap p4 (0 : Int32))) + (FGap p4 (32 : Int32))) + (FGap p5 (0 : Int32))) + (FGap p5 (32 : Int32))) + (FGap p6 (0 : Int32))) + (FGap p6 (32 : Int32))) f439) (w1 := 30) (w2 := 31) (w3 := 3) (w4 := 32) rfl rfl rfl rfl own_pd3 rfl 2 (by decide) rfl (by decide) (Nat.le_of_eq rfl) (by decide) (by decide) (by decide) rfl at_146 ?_
        rintro _ _ ⟨rfl, rfl⟩
        show own_G _ _ _ _ _ _ _ _ 149 #[.val (.int p1), .val (.long p2), .second, .val (.long p3), .second, .val (.long p4), .second, .val (.long p5), .second, .val (.long p6), .second, .val (.int (4 : Int32)), .val (.ref a2), .val (.ref a398), .val (.int (1 : Int32))] [(.int (0 : Int32)), (.int (0 : Int32)), (.int (1 : Int32))]
        refine own_icmpne_f H at_149 (by decide) ?_
        refine own_iconst H (1 : Int32) (by decide) at_152 ?_
        refine own_goto H (pc' := 157) at_153 (by decide) (by decide) ?_
        refine own_iand (v := (1 : Int32)) H (by decide) at_157 ?_
        refine own_istore H #[.val (.int p1), .val (.long p2), .second, .val (.long p3), .second, .val (.long p4), .second, .val (.long p5), .second, .val (.long p6), .second, .val (.int (4 : Int32)), .val (.ref a2), .val (.ref a398), .val (.int (1 : Int32))] rfl at_158 ?_
        refine own_iload H rfl at_160 ?_
        refine own_aload H rfl rfl at_162 ?_
        refine own_lload_n H rfl at_164 ?_
        refine own_aload H rfl rfl at_165 ?_
        refine own_iconst H (1 : Int32) (by decide) at_167 ?_
        refine own_laloadV H f439 (by decide) (by decide) rfl at_168 ?_
        refine own_ladd H rfl at_169 ?_
        refine own_invokevirtual H (a := a398) (argsL := [(.long (p3 + ((0 : Int64) + (FGap p4 (0 : Int32)))))]) (rest := [(.int (1 : Int32))]) (rmX4_1_0 l Z a0 (own_hw H) h422 n0 a398 (p3 + ((0 : Int64) + (FGap p4 (0 : Int32)))) p2 a424 kA425 (p3 + (0 : Int64)) 0 0 0 f438 f429 f430 f431 f432 f433 f434 f435 f437 f404 f426) f429 (w1 := 19) (w0 := 20) (w5 := 22) (w2 := 21) (w3 := 8) (w4 := 23) rfl rfl rfl rfl rfl rfl own_pd2 rfl 1 (by decide) rfl (by decide) (Nat.le_of_eq rfl) (by decide) (by decide) (by decide) rfl at_170 ?_
        rintro _ h441 ⟨rfl, K442, f443, f444, f445, f446, f447, f448, f449⟩
        have f450 : n0 ≤ h441.size := Nat.le_trans f438 K442.1
        have f451 : Arv Z h441 a2 kA3 .long (7 : Int32) [(.long (0 : Int64)), (.long ((0 : Int64) + (FGap p4 (0 : Int32)))), (.long (((0 : Int64) + (FGap p4 (0 : Int32))) + (FGap p4 (32 : Int32)))), (.long ((((0 : Int64) + (FGap p4 (0 : Int32))) + (FGap p4 (32 : Int32))) + (FGap p5 (0 : Int32)))), (.long (((((0 : Int64) + (FGap p4 (0 : Int32))) + (FGap p4 (32 : Int32))) + (FGap p5 (0 : Int32))) + (FGap p5 (32 : Int32)))), (.long ((((((0 : Int64) + (FGap p4 (0 : Int32))) + (FGap p4 (32 : Int32))) + (FGap p5 (0 : Int32))) + (FGap p5 (32 : Int32))) + (FGap p6 (0 : Int32)))), (.long (((((((0 : Int64) + (FGap p4 (0 : Int32))) + (FGap p4 (32 : Int32))) + (FGap p5 (0 : Int32))) + (FGap p5 (32 : Int32))) + (FGap p6 (0 : Int32))) + (FGap p6 (32 : Int32))))] (.long 0) := f439.keep K442 (ninS f403 (ninS f436 nin0))
        have f452 : Exa Z h441 a398 "com/example/trailwire/trailwire/http2/BurstLimit" := f429.keep K442
        show own_G _ _ _ _ _ _ _ _ 173 #[.val (.int p1), .val (.long p2), .second, .val (.long p3), .second, .val (.long p4), .second, .val (.long p5), .second, .val (.long p6), .second, .val (.int (4 : Int32)), .val (.ref a2), .val (.ref a398), .val (.int (1 : Int32))] [(.int (0 : Int32)), (.int (1 : Int32))]
        refine own_iconst H (1 : Int32) (by decide) at_173 ?_
        refine own_iload H rfl at_174 ?_
        refine own_aload H rfl rfl at_176 ?_
        refine own_lload_n H rfl at_178 ?_
        refine own_invokestatic H (argsL := [(.int (1 : Int32)), (.int (4 : Int32)), (.ref a2), (.long p2)]) (rest := [(.int (0 : Int32)), (.int (1 : Int32))]) (rmE1_4 l Z a0 (own_hw H) h441 n0 a2 p2 kA3 (0 : Int64) ((0 : Int64) + (FGap p4 (0 : Int32))) (((0 : Int64) + (FGap p4 (0 : Int32))) + (FGap p4 (32 : Int32))) ((((0 : Int64) + (FGap p4 (0 : Int32))) + (FGap p4 (32 : Int32))) + (FGap p5 (0 : Int32))) (((((0 : Int64) + (FGap p4 (0 : Int32))) + (FGap p4 (32 : Int32))) + (FGap p5 (0 : Int32))) + (FGap p5 (32 : Int32))) ((((((0 : Int64) + (FGap p4 (0 : Int32))) + (FGap p4 (32 : Int32))) + (FGap p5 (0 : Int32))) + (FGap p5 (32 : Int32))) + (FGap p6 (0 : Int32))) (((((((0 : Int64) + (FGap p4 (0 : Int32))) + (FGap p4 (32 : Int32))) + (FGap p5 (0 : Int32))) + (FGap p5 (32 : Int32))) + (FGap p6 (0 : Int32))) + (FGap p6 (32 : Int32))) f451) (w1 := 30) (w2 := 31) (w3 := 3) (w4 := 32) rfl rfl rfl rfl own_pd3 rfl 2 (by decide) rfl (by decide) (Nat.le_of_eq rfl) (by decide) (by decide) (by decide) rfl at_179 ?_
        rintro _ _ ⟨rfl, rfl⟩
        show own_G _ _ _ _ _ _ _ _ 182 #[.val (.int p1), .val (.long p2), .second, .val (.long p3), .second, .val (.long p4), .second, .val (.long p5), .second, .val (.long p6), .second, .val (.int (4 : Int32)), .val (.ref a2), .val (.ref a398), .val (.int (1 : Int32))] [(.int (0 : Int32)), (.int (0 : Int32)), (.int (1 : Int32))]
        refine own_icmpne_f H at_182 (by decide) ?_
        refine own_iconst H (1 : Int32) (by decide) at_185 ?_
        refine own_goto H (pc' := 190) at_186 (by decide) (by decide) ?_
        refine own_iand (v := (1 : Int32)) H (by decide) at_190 ?_
        refine own_istore H #[.val (.int p1), .val (.long p2), .second, .val (.long p3), .second, .val (.long p4), .second, .val (.long p5), .second, .val (.long p6), .second, .val (.int (4 : Int32)), .val (.ref a2), .val (.ref a398), .val (.int (1 : Int32))] rfl at_191 ?_
        refine own_iload H rfl at_193 ?_
        refine own_aload H rfl rfl at_195 ?_
        refine own_lload_n H rfl at_197 ?_
        refine own_aload H rfl rfl at_198 ?_
        refine own_iconst H (2 : Int32) (by decide) at_200 ?_
        refine own_laloadV H f451 (by decide) (by decide) rfl at_201 ?_
        refine own_ladd H rfl at_202 ?_
        refine own_invokevirtual H (a := a398) (argsL := [(.long (p3 + (((0 : Int64) + (FGap p4 (0 : Int32))) + (FGap p4 (32 : Int32)))))]) (rest := [(.int (1 : Int32))]) (rmX4_2_0 l Z a0 (own_hw H) h441 n0 a398 (p3 + (((0 : Int64) + (FGap p4 (0 : Int32))) + (FGap p4 (32 : Int32)))) p2 a424 kA425 (p3 + (0 : Int64)) (p3 + ((0 : Int64) + (FGap p4 (0 : Int32)))) 0 0 f450 f443 f444 f445 f446 f447 f448 f449 f437 f404 f426) f443 (w1 := 19) (w0 := 20) (w5 := 22) (w2 := 21) (w3 := 8) (w4 := 23) rfl rfl rfl rfl rfl rfl own_pd2 rfl 1 (by decide) rfl (by decide) (Nat.le_of_eq rfl) (by decide) (by decide) (by decide) rfl at_203 ?_
        rintro _ h453 ⟨rfl, K454, f455, f456, f457, f458, f459, f460, f461⟩
        have f462 : n0 ≤ h453.size := Nat.le_trans f450 K454.1
        have f463 : Arv Z h453 a2 kA3 .long (7 : Int32) [(.long (0 : Int64)), (.long ((0 : Int64) + (FGap p4 (0 : Int32)))), (.long (((0 : Int64) + (FGap p4 (0 : Int32))) + (FGap p4 (32 : Int32)))), (.long ((((0 : Int64) + (FGap p4 (0 : Int32))) + (FGap p4 (32 : Int32))) + (FGap p5 (0 : Int32)))), (.long (((((0 : Int64) + (FGap p4 (0 : Int32))) + (FGap p4 (32 : Int32))) + (FGap p5 (0 : Int32))) + (FGap p5 (32 : Int32)))), (.long ((((((0 : Int64) + (FGap p4 (0 : Int32))) + (FGap p4 (32 : Int32))) + (FGap p5 (0 : Int32))) + (FGap p5 (32 : Int32))) + (FGap p6 (0 : Int32)))), (.long (((((((0 : Int64) + (FGap p4 (0 : Int32))) + (FGap p4 (32 : Int32))) + (FGap p5 (0 : Int32))) + (FGap p5 (32 : Int32))) + (FGap p6 (0 : Int32))) + (FGap p6 (32 : Int32))))] (.long 0) := f451.keep K454 (ninS f403 (ninS f436 nin0))
        have f464 : Exa Z h453 a398 "com/example/trailwire/trailwire/http2/BurstLimit" := f443.keep K454
        show own_G _ _ _ _ _ _ _ _ 206 #[.val (.int p1), .val (.long p2), .second, .val (.long p3), .second, .val (.long p4), .second, .val (.long p5), .second, .val (.long p6), .second, .val (.int (4 : Int32)), .val (.ref a2), .val (.ref a398), .val (.int (1 : Int32))] [(.int (0 : Int32)), (.int (1 : Int32))]
        refine own_iconst H (2 : Int32) (by decide) at_206 ?_
        refine own_iload H rfl at_207 ?_
        refine own_aload H rfl rfl at_209 ?_
        refine own_lload_n H rfl at_211 ?_
        refine own_invokestatic H (argsL := [(.int (2 : Int32)), (.int (4 : Int32)), (.ref a2), (.long p2)]) (rest := [(.int (0 : Int32)), (.int (1 : Int32))]) (rmE2_4 l Z a0 (own_hw H) h453 n0 a2 p2 kA3 (0 : Int64) ((0 : Int64) + (FGap p4 (0 : Int32))) (((0 : Int64) + (FGap p4 (0 : Int32))) + (FGap p4 (32 : Int32))) ((((0 : Int64) + (FGap p4 (0 : Int32))) + (FGap p4 (32 : Int32))) + (FGap p5 (0 : Int32))) (((((0 : Int64) + (FGap p4 (0 : Int32))) + (FGap p4 (32 : Int32))) + (FGap p5 (0 : Int32))) + (FGap p5 (32 : Int32))) ((((((0 : Int64) + (FGap p4 (0 : Int32))) + (FGap p4 (32 : Int32))) + (FGap p5 (0 : Int32))) + (FGap p5 (32 : Int32))) + (FGap p6 (0 : Int32))) (((((((0 : Int64) + (FGap p4 (0 : Int32))) + (FGap p4 (32 : Int32))) + (FGap p5 (0 : Int32))) + (FGap p5 (32 : Int32))) + (FGap p6 (0 : Int32))) + (FGap p6 (32 : Int32))) f463) (w1 := 30) (w2 := 31) (w3 := 3) (w4 := 32) rfl rfl rfl rfl own_pd3 rfl 2 (by decide) rfl (by decide) (Nat.le_of_eq rfl) (by decide) (by decide) (by decide) rfl at_212 ?_
        rintro _ _ ⟨rfl, rfl⟩
        show own_G _ _ _ _ _ _ _ _ 215 #[.val (.int p1), .val (.long p2), .second, .val (.long p3), .second, .val (.long p4), .second, .val (.long p5), .second, .val (.long p6), .second, .val (.int (4 : Int32)), .val (.ref a2), .val (.ref a398), .val (.int (1 : Int32))] [(.int (0 : Int32)), (.int (0 : Int32)), (.int (1 : Int32))]
        refine own_icmpne_f H at_215 (by decide) ?_
        refine own_iconst H (1 : Int32) (by decide) at_218 ?_
        refine own_goto H (pc' := 223) at_219 (by decide) (by decide) ?_
        refine own_iand (v := (1 : Int32)) H (by decide) at_223 ?_
        refine own_istore H #[.val (.int p1), .val (.long p2), .second, .val (.long p3), .second, .val (.long p4), .second, .val (.long p5), .second, .val (.long p6), .second, .val (.int (4 : Int32)), .val (.ref a2), .val (.ref a398), .val (.int (1 : Int32))] rfl at_224 ?_
        refine own_iload H rfl at_226 ?_
        refine own_aload H rfl rfl at_228 ?_
        refine own_lload_n H rfl at_230 ?_
        refine own_aload H rfl rfl at_231 ?_
        refine own_iconst H (3 : Int32) (by decide) at_233 ?_
        refine own_laloadV H f463 (by decide) (by decide) rfl at_234 ?_
        refine own_ladd H rfl at_235 ?_
        refine own_invokevirtual H (a := a398) (argsL := [(.long (p3 + ((((0 : Int64) + (FGap p4 (0 : Int32))) + (FGap p4 (32 : Int32))) + (FGap p5 (0 : Int32)))))]) (rest := [(.int (1 : Int32))]) (rmX4_3_0 l Z a0 (own_hw H) h453 n0 a398 (p3 + ((((0 : Int64) + (FGap p4 (0 : Int32))) + (FGap p4 (32 : Int32))) + (FGap p5 (0 : Int32)))) p2 a424 kA425 (p3 + (0 : Int64)) (p3 + ((0 : Int64) + (FGap p4 (0 : Int32)))) (p3 + (((0 : Int64) + (FGap p4 (0 : Int32))) + (FGap p4 (32 : Int32)))) 0 f462 f455 f456 f457 f458 f459 f460 f461 f437 f404 f426) f455 (w1 := 19) (w0 := 20) (w5 := 22) (w2 := 21) (w3 := 8) (w4 := 23) rfl rfl rfl rfl rfl rfl own_pd2 rfl 1 (by decide) rfl (by decide) (Nat.le_of_eq rfl) (by decide) (by decide) (by decide) rfl at_236 ?_
        rintro _ h465 ⟨rfl, K466, f467, f468, f469, f470, f471, f472, f473⟩
        have f474 : n0 ≤ h465.size := Nat.le_trans f462 K466.1
        have f475 : Arv Z h465 a2 kA3 .long (7 : Int32) [(.long (0 : Int64)), (.long ((0 : Int64) + (FGap p4 (0 : Int32)))), (.long (((0 : Int64) + (FGap p4 (0 : Int32))) + (FGap p4 (32 : Int32)))), (.long ((((0 : Int64) + (FGap p4 (0 : Int32))) + (FGap p4 (32 : Int32))) + (FGap p5 (0 : Int32)))), (.long (((((0 : Int64) + (FGap p4 (0 : Int32))) + (FGap p4 (32 : Int32))) + (FGap p5 (0 : Int32))) + (FGap p5 (32 : Int32)))), (.long ((((((0 : Int64) + (FGap p4 (0 : Int32))) + (FGap p4 (32 : Int32))) + (FGap p5 (0 : Int32))) + (FGap p5 (32 : Int32))) + (FGap p6 (0 : Int32)))), (.long (((((((0 : Int64) + (FGap p4 (0 : Int32))) + (FGap p4 (32 : Int32))) + (FGap p5 (0 : Int32))) + (FGap p5 (32 : Int32))) + (FGap p6 (0 : Int32))) + (FGap p6 (32 : Int32))))] (.long 0) := f463.keep K466 (ninS f403 (ninS f436 nin0))
        have f476 : Exa Z h465 a398 "com/example/trailwire/trailwire/http2/BurstLimit" := f455.keep K466
        show own_G _ _ _ _ _ _ _ _ 239 #[.val (.int p1), .val (.long p2), .second, .val (.long p3), .second, .val (.long p4), .second, .val (.long p5), .second, .val (.long p6), .second, .val (.int (4 : Int32)), .val (.ref a2), .val (.ref a398), .val (.int (1 : Int32))] [(.int (0 : Int32)), (.int (1 : Int32))]
        refine own_iconst H (3 : Int32) (by decide) at_239 ?_
        refine own_iload H rfl at_240 ?_
        refine own_aload H rfl rfl at_242 ?_
        refine own_lload_n H rfl at_244 ?_
        refine own_invokestatic H (argsL := [(.int (3 : Int32)), (.int (4 : Int32)), (.ref a2), (.long p2)]) (rest := [(.int (0 : Int32)), (.int (1 : Int32))]) (rmE3_4 l Z a0 (own_hw H) h465 n0 a2 p2 kA3 (0 : Int64) ((0 : Int64) + (FGap p4 (0 : Int32))) (((0 : Int64) + (FGap p4 (0 : Int32))) + (FGap p4 (32 : Int32))) ((((0 : Int64) + (FGap p4 (0 : Int32))) + (FGap p4 (32 : Int32))) + (FGap p5 (0 : Int32))) (((((0 : Int64) + (FGap p4 (0 : Int32))) + (FGap p4 (32 : Int32))) + (FGap p5 (0 : Int32))) + (FGap p5 (32 : Int32))) ((((((0 : Int64) + (FGap p4 (0 : Int32))) + (FGap p4 (32 : Int32))) + (FGap p5 (0 : Int32))) + (FGap p5 (32 : Int32))) + (FGap p6 (0 : Int32))) (((((((0 : Int64) + (FGap p4 (0 : Int32))) + (FGap p4 (32 : Int32))) + (FGap p5 (0 : Int32))) + (FGap p5 (32 : Int32))) + (FGap p6 (0 : Int32))) + (FGap p6 (32 : Int32))) f475) (w1 := 30) (w2 := 31) (w3 := 3) (w4 := 32) rfl rfl rfl rfl own_pd3 rfl 2 (by decide) rfl (by decide) (Nat.le_of_eq rfl) (by decide) (by decide) (by decide) rfl at_245 ?_
        rintro _ _ ⟨rfl, rfl⟩
        show own_G _ _ _ _ _ _ _ _ 248 #[.val (.int p1), .val (.long p2), .second, .val (.long p3), .second, .val (.long p4), .second, .val (.long p5), .second, .val (.long p6), .second, .val (.int (4 : Int32)), .val (.ref a2), .val (.ref a398), .val (.int (1 : Int32))] [(.int (0 : Int32)), (.int (0 : Int32)), (.int (1 : Int32))]
        refine own_icmpne_f H at_248 (by decide) ?_
        refine own_iconst H (1 : Int32) (by decide) at_251 ?_
        refine own_goto H (pc' := 256) at_252 (by decide) (by decide) ?_
        refine own_iand (v := (1 : Int32)) H (by decide) at_256 ?_
        refine own_istore H #[.val (.int p1), .val (.long p2), .second, .val (.long p3), .second, .val (.long p4), .second, .val (.long p5), .second, .val (.long p6), .second, .val (.int (4 : Int32)), .val (.ref a2), .val (.ref a398), .val (.int (1 : Int32))] rfl at_257 ?_
        refine own_iload H rfl at_259 ?_
        refine own_aload H rfl rfl at_261 ?_
        refine own_lload_n H rfl at_263 ?_
        refine own_aload H rfl rfl at_264 ?_
        refine own_iconst H (4 : Int32) (by decide) at_266 ?_
        refine own_laloadV H f475 (by decide) (by decide) rfl at_267 ?_
        refine own_ladd H rfl at_268 ?_
        refine own_invokevirtual H (a := a398) (argsL := [(.long (p3 + (((((0 : Int64) + (FGap p4 (0 : Int32))) + (FGap p4 (32 : Int32))) + (FGap p5 (0 : Int32))) + (FGap p5 (32 : Int32)))))]) (rest := [(.int (1 : Int32))]) (rmX4_0_1 l Z a0 (own_hw H) h465 n0 a398 (p3 + (((((0 : Int64) + (FGap p4 (0 : Int32))) + (FGap p4 (32 : Int32))) + (FGap p5 (0 : Int32))) + (FGap p5 (32 : Int32)))) p2 a424 kA425 (p3 + (0 : Int64)) (p3 + ((0 : Int64) + (FGap p4 (0 : Int32)))) (p3 + (((0 : Int64) + (FGap p4 (0 : Int32))) + (FGap p4 (32 : Int32)))) (p3 + ((((0 : Int64) + (FGap p4 (0 : Int32))) + (FGap p4 (32 : Int32))) + (FGap p5 (0 : Int32)))) f474 f467 f468 f469 f470 f471 f472 f473 f437 f404 f426) f467 (w1 := 19) (w0 := 20) (w5 := 22) (w2 := 21) (w3 := 8) (w4 := 23) rfl rfl rfl rfl rfl rfl own_pd2 rfl 1 (by decide) rfl (by decide) (Nat.le_of_eq rfl) (by decide) (by decide) (by decide) rfl at_269 ?_
        rintro _ h477 ⟨rfl, K478, f479, f480, f481, f482, f483, f484, f485⟩
        have f486 : n0 ≤ h477.size := Nat.le_trans f474 K478.1
        have f487 : Arv Z h477 a2 kA3 .long (7 : Int32) [(.long (0 : Int64)), (.long ((0 : Int64) + (FGap p4 (0 : Int32)))), (.long (((0 : Int64) + (FGap p4 (0 : Int32))) + (FGap p4 (32 : Int32)))), (.long ((((0 : Int64) + (FGap p4 (0 : Int32))) + (FGap p4 (32 : Int32))) + (FGap p5 (0 : Int32)))), (.long (((((0 : Int64) + (FGap p4 (0 : Int32))) + (FGap p4 (32 : Int32))) + (FGap p5 (0 : Int32))) + (FGap p5 (32 : Int32)))), (.long ((((((0 : Int64) + (FGap p4 (0 : Int32))) + (FGap p4 (32 : Int32))) + (FGap p5 (0 : Int32))) + (FGap p5 (32 : Int32))) + (FGap p6 (0 : Int32)))), (.long (((((((0 : Int64) + (FGap p4 (0 : Int32))) + (FGap p4 (32 : Int32))) + (FGap p5 (0 : Int32))) + (FGap p5 (32 : Int32))) + (FGap p6 (0 : Int32))) + (FGap p6 (32 : Int32))))] (.long 0) := f475.keep K478 (ninS f403 (ninS f436 nin0))
        have f488 : Exa Z h477 a398 "com/example/trailwire/trailwire/http2/BurstLimit" := f467.keep K478
        show own_G _ _ _ _ _ _ _ _ 272 #[.val (.int p1), .val (.long p2), .second, .val (.long p3), .second, .val (.long p4), .second, .val (.long p5), .second, .val (.long p6), .second, .val (.int (4 : Int32)), .val (.ref a2), .val (.ref a398), .val (.int (1 : Int32))] [(.int (if ((p3 + (((((0 : Int64) + (FGap p4 (0 : Int32))) + (FGap p4 (32 : Int32))) + (FGap p5 (0 : Int32))) + (FGap p5 (32 : Int32)))) - (p3 + (0 : Int64))) < p2 then (1 : Int32) else (0 : Int32))), (.int (1 : Int32))]
        refine own_iconst H (4 : Int32) (by decide) at_272 ?_
        refine own_iload H rfl at_273 ?_
        refine own_aload H rfl rfl at_275 ?_
        refine own_lload_n H rfl at_277 ?_
        refine own_invokestatic H (argsL := [(.int (4 : Int32)), (.int (4 : Int32)), (.ref a2), (.long p2)]) (rest := [(.int (if ((p3 + (((((0 : Int64) + (FGap p4 (0 : Int32))) + (FGap p4 (32 : Int32))) + (FGap p5 (0 : Int32))) + (FGap p5 (32 : Int32)))) - (p3 + (0 : Int64))) < p2 then (1 : Int32) else (0 : Int32))), (.int (1 : Int32))]) (rmE4_4 l Z a0 (own_hw H) h477 n0 a2 p2 kA3 (0 : Int64) ((0 : Int64) + (FGap p4 (0 : Int32))) (((0 : Int64) + (FGap p4 (0 : Int32))) + (FGap p4 (32 : Int32))) ((((0 : Int64) + (FGap p4 (0 : Int32))) + (FGap p4 (32 : Int32))) + (FGap p5 (0 : Int32))) (((((0 : Int64) + (FGap p4 (0 : Int32))) + (FGap p4 (32 : Int32))) + (FGap p5 (0 : Int32))) + (FGap p5 (32 : Int32))) ((((((0 : Int64) + (FGap p4 (0 : Int32))) + (FGap p4 (32 : Int32))) + (FGap p5 (0 : Int32))) + (FGap p5 (32 : Int32))) + (FGap p6 (0 : Int32))) (((((((0 : Int64) + (FGap p4 (0 : Int32))) + (FGap p4 (32 : Int32))) + (FGap p5 (0 : Int32))) + (FGap p5 (32 : Int32))) + (FGap p6 (0 : Int32))) + (FGap p6 (32 : Int32))) f487) (w1 := 30) (w2 := 31) (w3 := 3) (w4 := 32) rfl rfl rfl rfl own_pd3 rfl 2 (by decide) rfl (by decide) (Nat.le_of_eq rfl) (by decide) (by decide) (by decide) rfl at_278 ?_
        rintro _ _ ⟨rfl, rfl⟩
        show own_G _ _ _ _ _ _ _ _ 281 #[.val (.int p1), .val (.long p2), .second, .val (.long p3), .second, .val (.long p4), .second, .val (.long p5), .second, .val (.long p6), .second, .val (.int (4 : Int32)), .val (.ref a2), .val (.ref a398), .val (.int (1 : Int32))] [(.int (if ((((((0 : Int64) + (FGap p4 (0 : Int32))) + (FGap p4 (32 : Int32))) + (FGap p5 (0 : Int32))) + (FGap p5 (32 : Int32))) - (0 : Int64)) < p2 then (1 : Int32) else (0 : Int32))), (.int (if ((p3 + (((((0 : Int64) + (FGap p4 (0 : Int32))) + (FGap p4 (32 : Int32))) + (FGap p5 (0 : Int32))) + (FGap p5 (32 : Int32)))) - (p3 + (0 : Int64))) < p2 then (1 : Int32) else (0 : Int32))), (.int (1 : Int32))]
        refine own_icmpne_f H at_281 (by simp only [own_sub]) ?_
        refine own_iconst H (1 : Int32) (by decide) at_284 ?_
        refine own_goto H (pc' := 289) at_285 (by decide) (by decide) ?_
        refine own_iand (v := (1 : Int32)) H (by decide) at_289 ?_
        refine own_istore H #[.val (.int p1), .val (.long p2), .second, .val (.long p3), .second, .val (.long p4), .second, .val (.long p5), .second, .val (.long p6), .second, .val (.int (4 : Int32)), .val (.ref a2), .val (.ref a398), .val (.int (1 : Int32))] rfl at_290 ?_
        refine own_iload H rfl at_292 ?_
        refine own_aload H rfl rfl at_294 ?_
        refine own_lload_n H rfl at_296 ?_
        refine own_aload H rfl rfl at_297 ?_
        refine own_iconst H (5 : Int32) (by decide) at_299 ?_
        refine own_laloadV H f487 (by decide) (by decide) rfl at_300 ?_
        refine own_ladd H rfl at_301 ?_
        refine own_invokevirtual H (a := a398) (argsL := [(.long (p3 + ((((((0 : Int64) + (FGap p4 (0 : Int32))) + (FGap p4 (32 : Int32))) + (FGap p5 (0 : Int32))) + (FGap p5 (32 : Int32))) + (FGap p6 (0 : Int32)))))]) (rest := [(.int (1 : Int32))]) (rmX4_1_1 l Z a0 (own_hw H) h477 n0 a398 (p3 + ((((((0 : Int64) + (FGap p4 (0 : Int32))) + (FGap p4 (32 : Int32))) + (FGap p5 (0 : Int32))) + (FGap p5 (32 : Int32))) + (FGap p6 (0 : Int32)))) p2 a424 kA425 (p3 + (((((0 : Int64) + (FGap p4 (0 : Int32))) + (FGap p4 (32 : Int32))) + (FGap p5 (0 : Int32))) + (FGap p5 (32 : Int32)))) (p3 + ((0 : Int64) + (FGap p4 (0 : Int32)))) (p3 + (((0 : Int64) + (FGap p4 (0 : Int32))) + (FGap p4 (32 : Int32)))) (p3 + ((((0 : Int64) + (FGap p4 (0 : Int32))) + (FGap p4 (32 : Int32))) + (FGap p5 (0 : Int32)))) f486 f479 f480 f481 f482 f483 f484 f485 f437 f404 f426) f479 (w1 := 19) (w0 := 20) (w5 := 22) (w2 := 21) (w3 := 8) (w4 := 23) rfl rfl rfl rfl rfl rfl own_pd2 rfl 1 (by decide) rfl (by decide) (Nat.le_of_eq rfl) (by decide) (by decide) (by decide) rfl at_302 ?_
        rintro _ h489 ⟨rfl, K490, f491, f492, f493, f494, f495, f496, f497⟩
        have f498 : n0 ≤ h489.size := Nat.le_trans f486 K490.1
        have f499 : Arv Z h489 a2 kA3 .long (7 : Int32) [(.long (0 : Int64)), (.long ((0 : Int64) + (FGap p4 (0 : Int32)))), (.long (((0 : Int64) + (FGap p4 (0 : Int32))) + (FGap p4 (32 : Int32)))), (.long ((((0 : Int64) + (FGap p4 (0 : Int32))) + (FGap p4 (32 : Int32))) + (FGap p5 (0 : Int32)))), (.long (((((0 : Int64) + (FGap p4 (0 : Int32))) + (FGap p4 (32 : Int32))) + (FGap p5 (0 : Int32))) + (FGap p5 (32 : Int32)))), (.long ((((((0 : Int64) + (FGap p4 (0 : Int32))) + (FGap p4 (32 : Int32))) + (FGap p5 (0 : Int32))) + (FGap p5 (32 : Int32))) + (FGap p6 (0 : Int32)))), (.long (((((((0 : Int64) + (FGap p4 (0 : Int32))) + (FGap p4 (32 : Int32))) + (FGap p5 (0 : Int32))) + (FGap p5 (32 : Int32))) + (FGap p6 (0 : Int32))) + (FGap p6 (32 : Int32))))] (.long 0) := f487.keep K490 (ninS f403 (ninS f436 nin0))
        have f500 : Exa Z h489 a398 "com/example/trailwire/trailwire/http2/BurstLimit" := f479.keep K490
        show own_G _ _ _ _ _ _ _ _ 305 #[.val (.int p1), .val (.long p2), .second, .val (.long p3), .second, .val (.long p4), .second, .val (.long p5), .second, .val (.long p6), .second, .val (.int (4 : Int32)), .val (.ref a2), .val (.ref a398), .val (.int (1 : Int32))] [(.int (if ((p3 + ((((((0 : Int64) + (FGap p4 (0 : Int32))) + (FGap p4 (32 : Int32))) + (FGap p5 (0 : Int32))) + (FGap p5 (32 : Int32))) + (FGap p6 (0 : Int32)))) - (p3 + ((0 : Int64) + (FGap p4 (0 : Int32))))) < p2 then (1 : Int32) else (0 : Int32))), (.int (1 : Int32))]
        refine own_iconst H (5 : Int32) (by decide) at_305 ?_
        refine own_iload H rfl at_306 ?_
        refine own_aload H rfl rfl at_308 ?_
        refine own_lload_n H rfl at_310 ?_
        refine own_invokestatic H (argsL := [(.int (5 : Int32)), (.int (4 : Int32)), (.ref a2), (.long p2)]) (rest := [(.int (if ((p3 + ((((((0 : Int64) + (FGap p4 (0 : Int32))) + (FGap p4 (32 : Int32))) + (FGap p5 (0 : Int32))) + (FGap p5 (32 : Int32))) + (FGap p6 (0 : Int32)))) - (p3 + ((0 : Int64) + (FGap p4 (0 : Int32))))) < p2 then (1 : Int32) else (0 : Int32))), (.int (1 : Int32))]) (rmE5_4 l Z a0 (own_hw H) h489 n0 a2 p2 kA3 (0 : Int64) ((0 : Int64) + (FGap p4 (0 : Int32))) (((0 : Int64) + (FGap p4 (0 : Int32))) + (FGap p4 (32 : Int32))) ((((0 : Int64) + (FGap p4 (0 : Int32))) + (FGap p4 (32 : Int32))) + (FGap p5 (0 : Int32))) (((((0 : Int64) + (FGap p4 (0 : Int32))) + (FGap p4 (32 : Int32))) + (FGap p5 (0 : Int32))) + (FGap p5 (32 : Int32))) ((((((0 : Int64) + (FGap p4 (0 : Int32))) + (FGap p4 (32 : Int32))) + (FGap p5 (0 : Int32))) + (FGap p5 (32 : Int32))) + (FGap p6 (0 : Int32))) (((((((0 : Int64) + (FGap p4 (0 : Int32))) + (FGap p4 (32 : Int32))) + (FGap p5 (0 : Int32))) + (FGap p5 (32 : Int32))) + (FGap p6 (0 : Int32))) + (FGap p6 (32 : Int32))) f499) (w1 := 30) (w2 := 31) (w3 := 3) (w4 := 32) rfl rfl rfl rfl own_pd3 rfl 2 (by decide) rfl (by decide) (Nat.le_of_eq rfl) (by decide) (by decide) (by decide) rfl at_311 ?_
        rintro _ _ ⟨rfl, rfl⟩
        show own_G _ _ _ _ _ _ _ _ 314 #[.val (.int p1), .val (.long p2), .second, .val (.long p3), .second, .val (.long p4), .second, .val (.long p5), .second, .val (.long p6), .second, .val (.int (4 : Int32)), .val (.ref a2), .val (.ref a398), .val (.int (1 : Int32))] [(.int (if (((((((0 : Int64) + (FGap p4 (0 : Int32))) + (FGap p4 (32 : Int32))) + (FGap p5 (0 : Int32))) + (FGap p5 (32 : Int32))) + (FGap p6 (0 : Int32))) - ((0 : Int64) + (FGap p4 (0 : Int32)))) < p2 then (1 : Int32) else (0 : Int32))), (.int (if ((p3 + ((((((0 : Int64) + (FGap p4 (0 : Int32))) + (FGap p4 (32 : Int32))) + (FGap p5 (0 : Int32))) + (FGap p5 (32 : Int32))) + (FGap p6 (0 : Int32)))) - (p3 + ((0 : Int64) + (FGap p4 (0 : Int32))))) < p2 then (1 : Int32) else (0 : Int32))), (.int (1 : Int32))]
        refine own_icmpne_f H at_314 (by simp only [own_sub]) ?_
        refine own_iconst H (1 : Int32) (by decide) at_317 ?_
        refine own_goto H (pc' := 322) at_318 (by decide) (by decide) ?_
        refine own_iand (v := (1 : Int32)) H (by decide) at_322 ?_
        refine own_istore H #[.val (.int p1), .val (.long p2), .second, .val (.long p3), .second, .val (.long p4), .second, .val (.long p5), .second, .val (.long p6), .second, .val (.int (4 : Int32)), .val (.ref a2), .val (.ref a398), .val (.int (1 : Int32))] rfl at_323 ?_
        refine own_iload H rfl at_325 ?_
        refine own_aload H rfl rfl at_327 ?_
        refine own_lload_n H rfl at_329 ?_
        refine own_aload H rfl rfl at_330 ?_
        refine own_bipush H (6 : Int32) (by decide) at_332 ?_
        refine own_laloadV H f499 (by decide) (by decide) rfl at_334 ?_
        refine own_ladd H rfl at_335 ?_
        refine own_invokevirtual H (a := a398) (argsL := [(.long (p3 + (((((((0 : Int64) + (FGap p4 (0 : Int32))) + (FGap p4 (32 : Int32))) + (FGap p5 (0 : Int32))) + (FGap p5 (32 : Int32))) + (FGap p6 (0 : Int32))) + (FGap p6 (32 : Int32)))))]) (rest := [(.int (1 : Int32))]) (rmX4_2_1 l Z a0 (own_hw H) h489 n0 a398 (p3 + (((((((0 : Int64) + (FGap p4 (0 : Int32))) + (FGap p4 (32 : Int32))) + (FGap p5 (0 : Int32))) + (FGap p5 (32 : Int32))) + (FGap p6 (0 : Int32))) + (FGap p6 (32 : Int32)))) p2 a424 kA425 (p3 + (((((0 : Int64) + (FGap p4 (0 : Int32))) + (FGap p4 (32 : Int32))) + (FGap p5 (0 : Int32))) + (FGap p5 (32 : Int32)))) (p3 + ((((((0 : Int64) + (FGap p4 (0 : Int32))) + (FGap p4 (32 : Int32))) + (FGap p5 (0 : Int32))) + (FGap p5 (32 : Int32))) + (FGap p6 (0 : Int32)))) (p3 + (((0 : Int64) + (FGap p4 (0 : Int32))) + (FGap p4 (32 : Int32)))) (p3 + ((((0 : Int64) + (FGap p4 (0 : Int32))) + (FGap p4 (32 : Int32))) + (FGap p5 (0 : Int32)))) f498 f491 f492 f493 f494 f495 f496 f497 f437 f404 f426) f491 (w1 := 19) (w0 := 20) (w5 := 22) (w2 := 21) (w3 := 8) (w4 := 23) rfl rfl rfl rfl rfl rfl own_pd2 rfl 1 (by decide) rfl (by decide) (Nat.le_of_eq rfl) (by decide) (by decide) (by decide) rfl at_336 ?_
        rintro _ h501 ⟨rfl, K502, f503, f504, f505, f506, f507, f508, f509⟩
        have f510 : n0 ≤ h501.size := Nat.le_trans f498 K502.1
        have f511 : Arv Z h501 a2 kA3 .long (7 : Int32) [(.long (0 : Int64)), (.long ((0 : Int64) + (FGap p4 (0 : Int32)))), (.long (((0 : Int64) + (FGap p4 (0 : Int32))) + (FGap p4 (32 : Int32)))), (.long ((((0 : Int64) + (FGap p4 (0 : Int32))) + (FGap p4 (32 : Int32))) + (FGap p5 (0 : Int32)))), (.long (((((0 : Int64) + (FGap p4 (0 : Int32))) + (FGap p4 (32 : Int32))) + (FGap p5 (0 : Int32))) + (FGap p5 (32 : Int32)))), (.long ((((((0 : Int64) + (FGap p4 (0 : Int32))) + (FGap p4 (32 : Int32))) + (FGap p5 (0 : Int32))) + (FGap p5 (32 : Int32))) + (FGap p6 (0 : Int32)))), (.long (((((((0 : Int64) + (FGap p4 (0 : Int32))) + (FGap p4 (32 : Int32))) + (FGap p5 (0 : Int32))) + (FGap p5 (32 : Int32))) + (FGap p6 (0 : Int32))) + (FGap p6 (32 : Int32))))] (.long 0) := f499.keep K502 (ninS f403 (ninS f436 nin0))
        have f512 : Exa Z h501 a398 "com/example/trailwire/trailwire/http2/BurstLimit" := f491.keep K502
        show own_G _ _ _ _ _ _ _ _ 339 #[.val (.int p1), .val (.long p2), .second, .val (.long p3), .second, .val (.long p4), .second, .val (.long p5), .second, .val (.long p6), .second, .val (.int (4 : Int32)), .val (.ref a2), .val (.ref a398), .val (.int (1 : Int32))] [(.int (if ((p3 + (((((((0 : Int64) + (FGap p4 (0 : Int32))) + (FGap p4 (32 : Int32))) + (FGap p5 (0 : Int32))) + (FGap p5 (32 : Int32))) + (FGap p6 (0 : Int32))) + (FGap p6 (32 : Int32)))) - (p3 + (((0 : Int64) + (FGap p4 (0 : Int32))) + (FGap p4 (32 : Int32))))) < p2 then (1 : Int32) else (0 : Int32))), (.int (1 : Int32))]
        refine own_bipush H (6 : Int32) (by decide) at_339 ?_
        refine own_iload H rfl at_341 ?_
        refine own_aload H rfl rfl at_343 ?_
        refine own_lload_n H rfl at_345 ?_
        refine own_invokestatic H (argsL := [(.int (6 : Int32)), (.int (4 : Int32)), (.ref a2), (.long p2)]) (rest := [(.int (if ((p3 + (((((((0 : Int64) + (FGap p4 (0 : Int32))) + (FGap p4 (32 : Int32))) + (FGap p5 (0 : Int32))) + (FGap p5 (32 : Int32))) + (FGap p6 (0 : Int32))) + (FGap p6 (32 : Int32)))) - (p3 + (((0 : Int64) + (FGap p4 (0 : Int32))) + (FGap p4 (32 : Int32))))) < p2 then (1 : Int32) else (0 : Int32))), (.int (1 : Int32))]) (rmE6_4 l Z a0 (own_hw H) h501 n0 a2 p2 kA3 (0 : Int64) ((0 : Int64) + (FGap p4 (0 : Int32))) (((0 : Int64) + (FGap p4 (0 : Int32))) + (FGap p4 (32 : Int32))) ((((0 : Int64) + (FGap p4 (0 : Int32))) + (FGap p4 (32 : Int32))) + (FGap p5 (0 : Int32))) (((((0 : Int64) + (FGap p4 (0 : Int32))) + (FGap p4 (32 : Int32))) + (FGap p5 (0 : Int32))) + (FGap p5 (32 : Int32))) ((((((0 : Int64) + (FGap p4 (0 : Int32))) + (FGap p4 (32 : Int32))) + (FGap p5 (0 : Int32))) + (FGap p5 (32 : Int32))) + (FGap p6 (0 : Int32))) (((((((0 : Int64) + (FGap p4 (0 : Int32))) + (FGap p4 (32 : Int32))) + (FGap p5 (0 : Int32))) + (FGap p5 (32 : Int32))) + (FGap p6 (0 : Int32))) + (FGap p6 (32 : Int32))) f511) (w1 := 30) (w2 := 31) (w3 := 3) (w4 := 32) rfl rfl rfl rfl own_pd3 rfl 2 (by decide) rfl (by decide) (Nat.le_of_eq rfl) (by decide) (by decide) (by decide) rfl at_346 ?_
        rintro _ _ ⟨rfl, rfl⟩
        show own_G _ _ _ _ _ _ _ _ 349 #[.val (.int p1), .val (.long p2), .second, .val (.long p3), .second, .val (.long p4), .second, .val (.long p5), .second, .val (.long p6), .second, .val (.int (4 : Int32)), .val (.ref a2), .val (.ref a398), .val (.int (1 : Int32))] [(.int (if ((((((((0 : Int64) + (FGap p4 (0 : Int32))) + (FGap p4 (32 : Int32))) + (FGap p5 (0 : Int32))) + (FGap p5 (32 : Int32))) + (FGap p6 (0 : Int32))) + (FGap p6 (32 : Int32))) - (((0 : Int64) + (FGap p4 (0 : Int32))) + (FGap p4 (32 : Int32)))) < p2 then (1 : Int32) else (0 : Int32))), (.int (if ((p3 + (((((((0 : Int64) + (FGap p4 (0 : Int32))) + (FGap p4 (32 : Int32))) + (FGap p5 (0 : Int32))) + (FGap p5 (32 : Int32))) + (FGap p6 (0 : Int32))) + (FGap p6 (32 : Int32)))) - (p3 + (((0 : Int64) + (FGap p4 (0 : Int32))) + (FGap p4 (32 : Int32))))) < p2 then (1 : Int32) else (0 : Int32))), (.int (1 : Int32))]
        refine own_icmpne_f H at_349 (by simp only [own_sub]) ?_
        refine own_iconst H (1 : Int32) (by decide) at_352 ?_
        refine own_goto H (pc' := 357) at_353 (by decide) (by decide) ?_
        refine own_iand (v := (1 : Int32)) H (by decide) at_357 ?_
        refine own_istore H #[.val (.int p1), .val (.long p2), .second, .val (.long p3), .second, .val (.long p4), .second, .val (.long p5), .second, .val (.long p6), .second, .val (.int (4 : Int32)), .val (.ref a2), .val (.ref a398), .val (.int (1 : Int32))] rfl at_358 ?_
        refine own_iload H rfl at_360 ?_
        exact own_ireturn H (by simp) (by decide) at_362 (by decide) (by decide) (by show some _ = some _; rw [F0, if_neg c45, if_neg c162, if_neg c279])
theorem own_law (p1 : Int32) (p2 p3 p4 p5 p6 : Int64) : F0 p1 p2 p3 p4 p5 p6 = 1 := by
  unfold F0
  repeat' split
  all_goals rfl
set_option maxHeartbeats 40000000 in
theorem comes_1 {Post : Tables → Env → Array Value → State → Outcome → State → Prop} (hpost : ∀ tb e args s v u, (limb_1_1.after args s (.returned v) u = true ∧ limb_1_2.after args s (.returned v) u = true ∧ True) → FrameEnd s (.returned v) u (Jvm.fieldLocs frame_1_writes args s ++ Jvm.arrayLocs frame_1_arrays args s ++ Jvm.staticLocs frame_1_statics s) 16 128 → Post tb e args s (.returned v) u) :
    ArmFor flags0 classFile x code maxLocals ret World_1 tables_1 room_1 Calls_1 rest_1 Pre_1 Post := by
  intro l hfl _ _ p e ha hc hk s m args below hf hA hF happ hP
  obtain ⟨hcalls, hrest, hpre⟩ := hP
  obtain ⟨-, -, -, hnamed, -, -, -, hat⟩ := (Spec.applies_iff hf).mp happ
  obtain ⟨hg, hn⟩ := and_e (Cond.before_iff.mp (show (Jvm.Cond.and given_1 narrow_1).before args s = true from hpre))
  obtain ⟨h1, g0⟩ := and_e hg
  obtain ⟨w0, w1, w2, w3, w4, w5, rfl⟩ : ∃ w0 w1 w2 w3 w4 w5 : Value, args = #[w0, w1, w2, w3, w4, w5] := by
    have hs : args.size = 6 := by simpa [Cond.value, given_1] using h1
    obtain ⟨L⟩ := args
    match L, hs with
    | [w0, w1, w2, w3, w4, w5], _ => exact ⟨w0, w1, w2, w3, w4, w5, rfl⟩
  have hw := fun d (hd : d ∈ tables_1) => atoms_spec (ws := Jvm.Cond.code x code maxLocals ret :: tables_1) hat d (List.mem_cons_of_mem _ hd)
  have hw' : ∀ (i : Nat) (d : Jvm.Cond), tables_1[i]? = some d → d.before _ s = true := fun i d q => hw d (List.mem_of_getElem? q)
  obtain ⟨u0, g1⟩ := and_e g0
  obtain ⟨i0, e0⟩ := is_v u0
  obtain rfl : w0 = (.int i0) := Option.some.inj e0
  obtain ⟨u1, g2⟩ := and_e g1
  obtain ⟨i1, e1⟩ := isL_v u1
  obtain rfl : w1 = (.long i1) := Option.some.inj e1
  obtain ⟨u2, g3⟩ := and_e g2
  obtain ⟨i2, e2⟩ := isL_v u2
  obtain rfl : w2 = (.long i2) := Option.some.inj e2
  obtain ⟨u3, g4⟩ := and_e g3
  obtain ⟨i3, e3⟩ := isL_v u3
  obtain rfl : w3 = (.long i3) := Option.some.inj e3
  obtain ⟨u4, g5⟩ := and_e g4
  obtain ⟨i4, e4⟩ := isL_v u4
  obtain rfl : w4 = (.long i4) := Option.some.inj e4
  obtain ⟨i5, e5⟩ := isL_v g5
  obtain rfl : w5 = (.long i5) := Option.some.inj e5
  obtain ⟨n, o, h1, h2, h3, _, L, rfl, ⟨rfl, N⟩, hq⟩ := rm0 l s _ hw' tables_1 s.heap s.heap.size i0 i1 i2 i3 i4 i5 (Nat.le_refl _) p e ha hc hk s m _ below hf ((Spec.applies_iff_loose hf).mp happ).1 ⟨rfl, State.Warmed39.refl s, rfl⟩ trivial
  refine ⟨n, _, h1, h2, h3, hpost _ _ _ _ _ _ ⟨Cond.after_iff.mpr rfl, Cond.after_iff.mpr (eq_i res_at (Term.int_eval (1)) (by rw [own_law])), trivial⟩ ⟨hq.1, hq.2.1, (hq.2.2.sift fun y hy => Or.inr (N y hy)).mono (by decide) (by decide)⟩⟩
theorem main_1_1 : Claimed_1_1 := comes_1 fun _ _ _ _ _ _ h hF => ⟨h.1, hF⟩
theorem main_1_2 : Claimed_1_2 := comes_1 fun _ _ _ _ _ _ h hF => ⟨h.2.1, hF⟩
end Jvm.Pilot.@@N@@
namespace Jvm.Pilot.@@N@@
open Jvm Jvm.ClassFile Sem Op Lib Jvm.Free Jvm.Stand Jvm.Pilot.@@N@@.Jvm.D
/-! MADE BY PROGRAM (witnessworld.py) out of the Statement's table words and the real class files: 11 classes; the members and pool entries that the words name. The judged class is class 1, her method 1. -/
namespace start1
open Jvm.ClassFile
def u (s : String) : CpInfo := .utf8 (stringToUtf16 s)
/-- a pool by its gaps: so many unusable entries, then the entry; so many at the end -/
def gap : Nat → List CpInfo → List CpInfo
  | 0, r => r
  | n + 1, r => .unusable :: gap n r
def poolList (es : List (Nat × CpInfo)) (last : Nat) : List CpInfo := es.foldr (fun e r => gap e.1 (e.2 :: r)) (gap last [])
def pool (es : List (Nat × CpInfo)) (last : Nat) : Array CpInfo := ⟨poolList es last⟩
def fileOf (pool : Array CpInfo) (this : Nat) (attrs : Array Attribute := #[]) (ms : Array MethodInfo := #[]) (fl : Nat := 33) (sup : Nat := 0) (ifs : Array Nat := #[]) (fds : Array FieldInfo := #[]) : ClassFile where
  minorVersion := 0
  majorVersion := 65
  constantPool := pool
  accessFlags := fl
  thisClass := this
  superClass := sup
  interfaces := ifs
  fields := fds
  methods := ms
  attributes := attrs
def plain (name : String) (sup : Option ClassId) : Class where
  name := name
  kind := .ordinary
  loader := none
  accessFlags := 33
  super := sup
  interfaces := #[]
  cf := none
  fields := #[]
  methods := #[]
  instanceTypes := #[]
  staticTypes := #[]
  resolved := #[]
  callSites := []
  init := .initialized
  statics := none
  mirror := none

def pool0 : Array CpInfo := pool [(5, u "<init>"), (0, u "()V"), (1, .class_ 10), (1, u "java/lang/Object")] 113

def k0c0 : Code := { maxStack := 0, maxLocals := 1, code := object_method_1_code, exceptionTable := #[], attributes := #[] }
def k0m0 : Method := { name := "<init>", desc := "()V", sig := { parameters := [], returnType := none }, accessFlags := 1, code := some k0c0 }
/-- java/lang/Object -/
def k0 : Class := { plain "java/lang/Object" none with
  accessFlags := 33
  interfaces := #[]
  cf := some (fileOf pool0 8 #[] #[{ accessFlags := 1, nameIndex := 5, descriptorIndex := 6, attributes := #[] }] 33 0 #[] #[])
  fields := #[]
  methods := #[k0m0]
  instanceTypes := #[]
  staticTypes := #[]
  resolved := Array.replicate 124 none
  statics := none }

def pool1 : Array CpInfo := pool [(2, .class_ 4), (1, u "java/lang/Object"), (0, u "<init>"), (0, u "()V"), (0, .methodref 8 9), (0, .class_ 10), (0, .nameAndType 11 12), (0, u "com/example/trailwire/trailwire/http2/BurstLimitExceededByPinLaw"), (0, u "gap"), (0, u "(JI)J"), (0, .class_ 14), (0, u "com/example/trailwire/trailwire/http2/BurstLimit"), (0, .methodref 13 16), (0, .nameAndType 5 17), (0, u "(IJ)V"), (0, .methodref 13 19), (0, .nameAndType 20 21), (0, u "exceededBy"), (0, u "(J)Z"), (0, .methodref 8 23), (0, .nameAndType 24 25), (0, u "expected"), (0, u "(II[JJ)Z"), (0, .long 2147483647), (3, u "law"), (0, u "(IJJJJJ)Z")] 5

def k1m0 : Method := { name := "<init>", desc := "()V", sig := { parameters := [], returnType := none }, accessFlags := 1, code := none }
def k1c1 : Code := { maxStack := 7, maxLocals := 15, code := code, exceptionTable := #[], attributes := #[] }
def k1m1 : Method := { name := "law", desc := "(IJJJJJ)Z", sig := { parameters := [.int, .long, .long, .long, .long, .long], returnType := some .boolean }, accessFlags := 9, code := some k1c1 }
def k1c2 : Code := { maxStack := 4, maxLocals := 3, code := method_3_code, exceptionTable := #[], attributes := #[] }
def k1m2 : Method := { name := "gap", desc := "(JI)J", sig := { parameters := [.long, .int], returnType := some .long }, accessFlags := 10, code := some k1c2 }
def k1c3 : Code := { maxStack := 5, maxLocals := 7, code := method_4_code, exceptionTable := #[], attributes := #[] }
def k1m3 : Method := { name := "expected", desc := "(II[JJ)Z", sig := { parameters := [.int, .int, (.array .long), .long], returnType := some .boolean }, accessFlags := 10, code := some k1c3 }
/-- com/example/trailwire/trailwire/http2/BurstLimitExceededByPinLaw -/
def k1 : Class := { plain "com/example/trailwire/trailwire/http2/BurstLimitExceededByPinLaw" (some 0) with
  accessFlags := 49
  interfaces := #[]
  cf := some (fileOf pool1 8 #[] #[{ accessFlags := 1, nameIndex := 5, descriptorIndex := 6, attributes := #[] }, { accessFlags := 9, nameIndex := 30, descriptorIndex := 31, attributes := #[] }, { accessFlags := 10, nameIndex := 11, descriptorIndex := 12, attributes := #[] }, { accessFlags := 10, nameIndex := 24, descriptorIndex := 25, attributes := #[] }] 49 2 #[] #[])
  fields := #[]
  methods := #[k1m0, k1m1, k1m2, k1m3]
  instanceTypes := #[]
  staticTypes := #[]
  resolved := Array.replicate 37 none
  statics := none }

def pool2 : Array CpInfo := pool [(1, .methodref 2 3), (0, .class_ 4), (0, .nameAndType 5 6), (0, u "java/lang/Object"), (0, u "<init>"), (0, u "()V"), (0, .fieldref 8 9), (0, .class_ 10), (0, .nameAndType 11 12), (0, u "com/example/trailwire/trailwire/http2/BurstLimit"), (0, u "events"), (0, u "I"), (0, .fieldref 8 14), (0, .nameAndType 15 16), (0, u "period"), (0, u "J"), (0, .fieldref 8 18), (0, .nameAndType 19 20), (0, u "times"), (0, u "[J"), (0, .fieldref 8 22), (0, .nameAndType 23 24), (0, u "full"), (0, u "Z"), (0, .fieldref 8 26), (0, .nameAndType 27 12), (0, u "next"), (0, u "(IJ)V"), (2, u "exceededBy"), (0, u "(J)Z")] 3

def k2c0 : Code := { maxStack := 3, maxLocals := 4, code := prog_1_method_1_code, exceptionTable := #[], attributes := #[] }
def k2m0 : Method := { name := "<init>", desc := "(IJ)V", sig := { parameters := [.int, .long], returnType := none }, accessFlags := 0, code := some k2c0 }
def k2c1 : Code := { maxStack := 4, maxLocals := 4, code := prog_1_method_2_code, exceptionTable := #[], attributes := #[] }
def k2m1 : Method := { name := "exceededBy", desc := "(J)Z", sig := { parameters := [.long], returnType := some .boolean }, accessFlags := 0, code := some k2c1 }
/-- com/example/trailwire/trailwire/http2/BurstLimit -/
def k2 : Class := { plain "com/example/trailwire/trailwire/http2/BurstLimit" (some 0) with
  accessFlags := 32
  interfaces := #[]
  cf := some (fileOf pool2 8 #[] #[{ accessFlags := 0, nameIndex := 5, descriptorIndex := 28, attributes := #[] }, { accessFlags := 0, nameIndex := 31, descriptorIndex := 32, attributes := #[] }] 32 2 #[] #[{ accessFlags := 18, nameIndex := 11, descriptorIndex := 12, attributes := #[] }, { accessFlags := 18, nameIndex := 15, descriptorIndex := 16, attributes := #[] }, { accessFlags := 2, nameIndex := 19, descriptorIndex := 20, attributes := #[] }, { accessFlags := 2, nameIndex := 27, descriptorIndex := 12, attributes := #[] }, { accessFlags := 2, nameIndex := 23, descriptorIndex := 24, attributes := #[] }])
  fields := #[{ name := "events", type := .int, accessFlags := 18, slot := 0, constantValue := 0 }, { name := "period", type := .long, accessFlags := 18, slot := 1, constantValue := 0 }, { name := "times", type := (.array .long), accessFlags := 2, slot := 2, constantValue := 0 }, { name := "next", type := .int, accessFlags := 2, slot := 3, constantValue := 0 }, { name := "full", type := .boolean, accessFlags := 2, slot := 4, constantValue := 0 }]
  methods := #[k2m0, k2m1]
  instanceTypes := #[.int, .long, (.array .long), .int, .boolean]
  staticTypes := #[]
  resolved := Array.replicate 36 none
  statics := none }

def pool3 : Array CpInfo := pool [(1, u "java/lang/Cloneable"), (0, .class_ 1), (0, u "java/lang/Object"), (0, .class_ 3)] 3

/-- java/lang/Cloneable -/
def k3 : Class := { plain "java/lang/Cloneable" (some 0) with
  accessFlags := 1537
  interfaces := #[]
  cf := some (fileOf pool3 2 #[] #[] 1537 4 #[] #[])
  fields := #[]
  methods := #[]
  instanceTypes := #[]
  staticTypes := #[]
  resolved := Array.replicate 8 none
  statics := none }

def pool4 : Array CpInfo := pool [(1, u "java/io/Serializable"), (0, .class_ 1), (0, u "java/lang/Object"), (0, .class_ 3)] 3

/-- java/io/Serializable -/
def k4 : Class := { plain "java/io/Serializable" (some 0) with
  accessFlags := 1537
  interfaces := #[]
  cf := some (fileOf pool4 2 #[] #[] 1537 4 #[] #[])
  fields := #[]
  methods := #[]
  instanceTypes := #[]
  staticTypes := #[]
  resolved := Array.replicate 8 none
  statics := none }

/-- the primitive byte -/
def k5 : Class := { plain "byte" none with kind := .primitive 'B', accessFlags := 0x411 }
/-- [B -/
def k6 : Class := { plain "[B" (some 0) with kind := .array 5 .byte, interfaces := #[3, 4], accessFlags := 1041 }

/-- the primitive int -/
def k7 : Class := { plain "int" none with kind := .primitive 'I', accessFlags := 0x411 }
/-- [I -/
def k8 : Class := { plain "[I" (some 0) with kind := .array 7 .int, interfaces := #[3, 4], accessFlags := 1041 }

/-- the primitive long -/
def k9 : Class := { plain "long" none with kind := .primitive 'J', accessFlags := 0x411 }
/-- [J -/
def k10 : Class := { plain "[J" (some 0) with kind := .array 9 .long, interfaces := #[3, 4], accessFlags := 1041 }

def heap : Heap := #[]
def classes : Array Class := #[k0, k1, k2, k3, k4, k5, k6, k7, k8, k9, k10]
def interned : List (Array UInt16 × Addr) := []
def slotsUsed : Nat := 0
def theMethod : MethodId := ⟨1, 1⟩
def args0 : Array Value := #[.int 5, .long 9, .long 7, .long 2, .long 3, .long 8]
def aboutOver (below : List Frame) : State where
  vm := { classes := classes, interned := interned.toArray }
  heap := heap
  slotsUsed := slotsUsed
  threads := #[{ frames := .invoking theMethod args0 :: below }]
def below0 : List Frame := [.native { method := ⟨0, 0⟩, args := #[] }]
def about1 : State := aboutOver below0
def p0 : Program := .bare "" "" ""
def e0 : Env := launch0.env 0 0 0
theorem w_frames : about1.frames = Frame.invoking theMethod args0 :: below0 := rfl
set_option maxRecDepth 65536 in
theorem w_args : argsFit about1.vm theMethod args0 = true := by decide +kernel
set_option maxRecDepth 65536 in
theorem w_heap : heapFits about1 = true := by decide +kernel
set_option maxRecDepth 65536 in
theorem w_runnable : about1.curStatus? = some .runnable := by decide +kernel
set_option maxRecDepth 65536 in
theorem w_alone : about1.alone = true := by decide +kernel
set_option maxRecDepth 65536 in
theorem w_named : about1.methodNamed? x = some theMethod := by decide +kernel
set_option maxRecDepth 65536 in
theorem w_hears : about1.hears theMethod below0 = true := by decide +kernel
set_option maxRecDepth 65536 in
theorem w_ripe : about1.ripe theMethod args0 below0 = true := by decide +kernel
theorem w_running : about1.status = .running := rfl
set_option maxRecDepth 65536 in
theorem w_room : about1.hasRoom e0.platform room_1 = true :=
  launch0.hasRoom_least _ room_1 (by decide +kernel) (by decide +kernel) (by decide +kernel) (by decide +kernel) (by decide +kernel) (by decide +kernel)
theorem allAtoms_all (ts : List Jvm.Cond) (a : Array Jvm.Value) (st : Jvm.State) : (allAtoms ts).before a st = ts.all (fun c => c.before a st) := by
  induction ts with
  | nil => rfl
  | cons c t ih =>
    show (Jvm.Cond.and c (allAtoms t)).before a st = _
    rw [Jvm.Cond.before_and, ih, List.all_cons]
def words1 : List Jvm.Cond := Jvm.Cond.code x code maxLocals ret :: tables_1
/-- a 'code' word, met by the world's own term for the bytes: nothing is compared byte by byte -/
theorem code_word {y : MethodName} {bytes : ByteArray} {mx : Nat} {rt : Option FieldType} {a : Array Value} {s : State} {m : MethodId} {meth : Method} {c : Code} (h1 : s.methodNamed? y = some m) (h2 : s.vm.method? m = some meth) (h3 : meth.code = some c) (h4 : c.code = bytes)
    (h5 : (c.maxLocals == mx && c.exceptionTable.isEmpty && decide (c.maxStack ≤ mostOperands) && decide (meth.sig.returnType = rt) && !meth.locks && decide (parseMethodDescriptor y.desc = some meth.sig)) = true) : (Jvm.Cond.code y bytes mx rt).before a s = true := by
  simp only [Bool.and_eq_true, beq_iff_eq, Bool.not_eq_true', decide_eq_true_eq] at h5
  obtain ⟨⟨⟨⟨⟨g1, g2⟩, g3⟩, g4⟩, g5⟩, g6⟩ := h5
  simp [Cond.before, Cond.holds, Cond.value, h1, h2, h3, h4, g1, g2, g3, g4, g5, g6]
def isCode : Jvm.Cond → Bool
  | .code _ _ _ _ => true
  | _ => false
theorem all_split {L : List Jvm.Cond} {P : Jvm.Cond → Bool} (h1 : L.all (fun c => isCode c || P c) = true) (h2 : ∀ c ∈ L.filter isCode, P c = true) : L.all P = true := by
  refine List.all_eq_true.mpr fun c hc => ?_
  have h := List.all_eq_true.mp h1 c hc
  rcases Bool.eq_false_or_eq_true (isCode c) with hi | hi
  · exact h2 c (List.mem_filter.mpr ⟨hc, hi⟩)
  · simpa [hi] using h
set_option maxRecDepth 65536 in
theorem w_c0 : (Jvm.Cond.code x code maxLocals ret).before args0 about1 = true := code_word (m := ⟨1, 1⟩) (meth := k1m1) (c := k1c1) (by decide +kernel) rfl rfl rfl (by decide +kernel)
set_option maxRecDepth 65536 in
theorem w_c1 : (Jvm.Cond.code ({ cls := "com/example/trailwire/trailwire/http2/BurstLimitExceededByPinLaw", name := "gap", desc := "(JI)J" } : Jvm.MethodName) method_3_code (3 : Nat) (Option.some Jvm.ClassFile.FieldType.long)).before args0 about1 = true := code_word (m := ⟨1, 2⟩) (meth := k1m2) (c := k1c2) (by decide +kernel) rfl rfl rfl (by decide +kernel)
set_option maxRecDepth 65536 in
theorem w_c2 : (Jvm.Cond.code ({ cls := "com/example/trailwire/trailwire/http2/BurstLimit", name := "<init>", desc := "(IJ)V" } : Jvm.MethodName) prog_1_method_1_code (4 : Nat) (Option.none : Option Jvm.ClassFile.FieldType)).before args0 about1 = true := code_word (m := ⟨2, 0⟩) (meth := k2m0) (c := k2c0) (by decide +kernel) rfl rfl rfl (by decide +kernel)
set_option maxRecDepth 65536 in
theorem w_c3 : (Jvm.Cond.code ({ cls := "java/lang/Object", name := "<init>", desc := "()V" } : Jvm.MethodName) object_method_1_code (1 : Nat) (Option.none : Option Jvm.ClassFile.FieldType)).before args0 about1 = true := code_word (m := ⟨0, 0⟩) (meth := k0m0) (c := k0c0) (by decide +kernel) rfl rfl rfl (by decide +kernel)
set_option maxRecDepth 65536 in
theorem w_c4 : (Jvm.Cond.code ({ cls := "com/example/trailwire/trailwire/http2/BurstLimit", name := "exceededBy", desc := "(J)Z" } : Jvm.MethodName) prog_1_method_2_code (4 : Nat) (Option.some Jvm.ClassFile.FieldType.boolean)).before args0 about1 = true := code_word (m := ⟨2, 1⟩) (meth := k2m1) (c := k2c1) (by decide +kernel) rfl rfl rfl (by decide +kernel)
set_option maxRecDepth 65536 in
theorem w_c5 : (Jvm.Cond.code ({ cls := "com/example/trailwire/trailwire/http2/BurstLimitExceededByPinLaw", name := "expected", desc := "(II[JJ)Z" } : Jvm.MethodName) method_4_code (7 : Nat) (Option.some Jvm.ClassFile.FieldType.boolean)).before args0 about1 = true := code_word (m := ⟨1, 3⟩) (meth := k1m3) (c := k1c3) (by decide +kernel) rfl rfl rfl (by decide +kernel)
def codes1 : List Jvm.Cond := [Jvm.Cond.code x code maxLocals ret, Jvm.Cond.code ({ cls := "com/example/trailwire/trailwire/http2/BurstLimitExceededByPinLaw", name := "gap", desc := "(JI)J" } : Jvm.MethodName) method_3_code (3 : Nat) (Option.some Jvm.ClassFile.FieldType.long), Jvm.Cond.code ({ cls := "com/example/trailwire/trailwire/http2/BurstLimit", name := "<init>", desc := "(IJ)V" } : Jvm.MethodName) prog_1_method_1_code (4 : Nat) (Option.none : Option Jvm.ClassFile.FieldType), Jvm.Cond.code ({ cls := "java/lang/Object", name := "<init>", desc := "()V" } : Jvm.MethodName) object_method_1_code (1 : Nat) (Option.none : Option Jvm.ClassFile.FieldType), Jvm.Cond.code ({ cls := "com/example/trailwire/trailwire/http2/BurstLimit", name := "exceededBy", desc := "(J)Z" } : Jvm.MethodName) prog_1_method_2_code (4 : Nat) (Option.some Jvm.ClassFile.FieldType.boolean), Jvm.Cond.code ({ cls := "com/example/trailwire/trailwire/http2/BurstLimitExceededByPinLaw", name := "expected", desc := "(II[JJ)Z" } : Jvm.MethodName) method_4_code (7 : Nat) (Option.some Jvm.ClassFile.FieldType.boolean)]
set_option maxRecDepth 65536 in
theorem codes_eq : words1.filter isCode = codes1 := rfl
theorem w_codes : ∀ c ∈ words1.filter isCode, c.before args0 about1 = true := by
  rw [codes_eq]
  intro c hc
  simp only [codes1, List.mem_cons, List.not_mem_nil, or_false] at hc
  rcases hc with rfl | rfl | rfl | rfl | rfl | rfl
  · exact w_c0
  · exact w_c1
  · exact w_c2
  · exact w_c3
  · exact w_c4
  · exact w_c5
set_option maxRecDepth 65536 in
theorem w_t1 : (words1.take 24).all (fun c => isCode c || c.before args0 about1) = true := by decide +kernel
set_option maxRecDepth 65536 in
theorem w_t2 : (words1.drop 24).all (fun c => isCode c || c.before args0 about1) = true := by decide +kernel
theorem w_tables : (allAtoms (Jvm.Cond.code x code maxLocals ret :: tables_1)).before args0 about1 = true := by
  rw [allAtoms_all]
  show words1.all (fun c => c.before args0 about1) = true
  refine all_split ?_ w_codes
  rw [← List.take_append_drop 24 words1, List.all_append, w_t1, w_t2]
  rfl
set_option maxRecDepth 65536 in
theorem w_case : (Jvm.Cond.and given_1 narrow_1).before args0 about1 = true := by decide +kernel
theorem w_applies : (headSpec (Jvm.Cond.code x code maxLocals ret :: tables_1) room_1).applies x e0.platform about1 = true :=
  (Spec.applies_iff w_frames).mpr ⟨w_running, w_runnable, w_alone, w_named, w_hears, w_ripe, w_room, w_tables⟩
theorem atStart : AtStart classFile x code maxLocals ret World_1 tables_1 room_1 Calls_1 rest_1 Pre_1 launch0 p0 e0 about1 theMethod args0 below0 :=
  ⟨lists_1, trivial, launch0.admits_env _ _ _, launch0.least_env, fairChoices_fair.cas, fairChoices_fair.clock, w_frames, w_args, w_heap, w_applies, trivial, trivial, w_case⟩
end start1
theorem witness_1 : WitnessClaimed_1 := ⟨start1.p0, start1.e0, start1.about1, start1.theMethod, start1.args0, start1.below0, start1.atStart⟩
end Jvm.Pilot.@@N@@
