import JvmDerived
import JvmDerived.Pilot.@@N@@Statement
import JvmDerived.Pilot.@@N@@Code
set_option linter.unusedVariables false
set_option linter.unusedSimpArgs false
set_option maxRecDepth 65536
namespace Jvm.Pilot.@@N@@
open Jvm Jvm.ClassFile Sem Op Lib Jvm.Free Jvm.Stand Jvm.LawKit Jvm.RoadKit Bundle Jvm.Pilot.@@N@@.Jvm.D

section OwnKit
/-- a walk's fixed things: program, launch, environment, room, first state, method, arguments, frames below, the method, its code -/
abbrev own_B : Type := Program × Launch × Env × Room × State × MethodId × Array Value × List Frame × Method × Code
def own_Ok (B : own_B) (Z : State) (a0 : Array Value) (l0 : Launch) (R0 : Room) (y : MethodName) (code : ByteArray) (N : Nat) (ret : Option FieldType) : Prop :=
  match B with
  | (p, l, e, R, s, m, args, below, meth, c) => l = l0 ∧ R = R0 ∧ p.tables.exec = Jvm.exec ∧ Z.Warmed39 s.vm ∧ s.vm.findClass y.cls = some m.cls ∧ c.code = code ∧ c.maxLocals = N ∧ meth.sig.returnType = ret ∧ meth.locks = false ∧ meth.name = y.name ∧ (∀ (i : Nat) (d : Jvm.Cond), tables_1[i]? = some d → d.before a0 Z = true)
/-- the rest of the walk ends well -/
def own_Fin (p : Program) (e : Env) (below : List Frame) (s : State) (n0 : Nat) (Q : Option Value → Heap → Prop) (kc ks : Nat) (A : State) : Prop :=
  ∃ s₂ o, Steps p.tables e below A s₂ ∧ s₂.status = .running ∧ Ended s₂ below o ∧ ∃ v L, o = .returned v ∧ (Q v s₂.heap ∧ Fr n0 L) ∧ FrameEnd s o s₂ L kc ks
theorem own_go {p : Program} {e : Env} {below : List Frame} {s : State} {n0 : Nat} {Q : Option Value → Heap → Prop} {kc ks : Nat} {A A' : State} (st : ∀ t, Steps p.tables e below A' t → Steps p.tables e below A t) (k : own_Fin p e below s n0 Q kc ks A') : own_Fin p e below s n0 Q kc ks A := by
  obtain ⟨s2, o, h1, r⟩ := k
  exact ⟨s2, o, st _ h1, r⟩
/-- from this point (heap h, at most so many cells and slots made, pc, locals, stack) the walk ends in Q -/
def own_G (B : own_B) (n0 : Nat) (Q : Option Value → Heap → Prop) (kc ks cells slots : Nat) (h : Heap) (pc : Nat) (Ls : Array Slot) (st : List Value) : Prop :=
  match B with
  | (p, l, e, R, s, m, args, below, meth, c) => ∀ (T : State) (locs : List Loc) (c1 s1 : Nat), Stand p l e R s m args below meth c T locs c1 s1 → Fr n0 locs → c1 ≤ cells → s1 ≤ slots → T.heap = h → own_Fin p e below s n0 Q kc ks (T.setTop (mkF m pc Ls st))
/-- a method's contract -/
def own_Met (l : Launch) (Z : State) (ws : List Jvm.Cond) (y : MethodName) (bytes : ByteArray) (maxL : Nat) (ret : Option FieldType) (rm : Room) (as : Array Value) (h : Heap) (n0 kc ks : Nat) (Q : Option Value → Heap → Prop) : Prop :=
  MetFree l y (head1 (Jvm.Cond.code y bytes maxL ret :: ws) rm) (fun a U => a = as ∧ Z.Warmed39 U.vm ∧ U.heap = h) (fun _ _ _ _ _ => True) (fun _ U o U' => ∃ v L, o = .returned v ∧ (Q v U'.heap ∧ Fr n0 L) ∧ FrameEnd U o U' L kc ks)
/-- a callee's contract -/
abbrev own_C (l : Launch) (Z : State) (y : MethodName) (bytes : ByteArray) (maxL : Nat) (ret : Option FieldType) (rm : Room) (as : Array Value) (h : Heap) (n0 : Nat) (Q : Option Value → Heap → Prop) : Prop := own_Met l Z [] y bytes maxL ret rm as h n0 rm.cells rm.slots Q
/-- a callee that returns w and leaves the heap -/
abbrev own_P (l : Launch) (Z : State) (y : MethodName) (bytes : ByteArray) (maxL : Nat) (ret : Option FieldType) (rm : Room) (as : Array Value) (h : Heap) (n0 : Nat) (w : Value) : Prop := own_C l Z y bytes maxL ret rm as h n0 (fun v h' => v = some w ∧ h = h')
abbrev own_rm (f lo : Nat) : Room := { frames := f, cells := 0, slots := 0, locals := lo }
theorem own_met {l : Launch} {Z : State} {a0 : Array Value} {ws : List Jvm.Cond} {y : MethodName} {bytes : ByteArray} {maxL : Nat} {ret : Option FieldType} {rm : Room} {as : Array Value} {h : Heap} {n0 kc ks : Nat} {Q : Option Value → Heap → Prop} {Ls : Array Slot}
    (hw : ∀ (i : Nat) (d : Jvm.Cond), tables_1[i]? = some d → d.before a0 Z = true) (hpl : plainFor y = true) (hef : ∀ m, entryFrame m as maxL = mkF m 0 Ls [])
    (body : ∀ B : own_B, own_Ok B Z a0 l rm y bytes maxL ret → own_G B n0 Q kc ks 0 0 h 0 Ls []) : own_Met l Z ws y bytes maxL ret rm as h n0 kc ks Q := by
  refine MetFree.of_bodySF hpl hisR ?_
  intro p e s m args below meth c s₁ Bd hml0 hP hK
  obtain ⟨rfl, hZ, hh⟩ := hP
  have X0 := Stand.of_body Bd
  have e0 : s₁.heap = h := by rw [← hh, Bd.state]; rfl
  have q := body (p, l, e, rm, s, m, args, below, meth, c) ⟨rfl, rfl, Bd.exec, hZ, findClass_of_methodNamed Bd.named, Bd.bytes, hml0, Bd.returns, Bd.notSynchronized, (name_of_methodNamed Bd.named Bd.method).1, hw⟩ s₁ [] 0 0 X0 (Fr.nil n0) (Nat.le_refl _) (Nat.le_refl _) e0
  rw [hef m]
  exact q
section Laws
variable {B : own_B} {Z : State} {a0 : Array Value} {l : Launch} {R : Room} {y : MethodName} {code : ByteArray} {N : Nat} {ret : Option FieldType} {n0 : Nat} {Q : Option Value → Heap → Prop} {kc ks cells slots : Nat} {h : Heap} {pc pc' : Nat} {Ls Ls' : Array Slot} {st : List Value}
theorem own_mono {cells' slots' : Nat} (hc : cells ≤ cells') (hs : slots ≤ slots') (k : own_G B n0 Q kc ks cells' slots' h pc Ls st) : own_G B n0 Q kc ks cells slots h pc Ls st := by
  obtain ⟨p, l, e, R, s, m, args, below, meth, c⟩ := B
  intro T locs c1 s1 X F q1 q2 eT
  exact k T locs c1 s1 X F (Nat.le_trans q1 hc) (Nat.le_trans q2 hs) eT
theorem own_cut (pc' : Nat) (Ls' : Array Slot) (st' : List Value) (f : own_G B n0 Q kc ks cells slots h pc' Ls' st' → own_G B n0 Q kc ks cells slots h pc Ls st) (k : own_G B n0 Q kc ks cells slots h pc' Ls' st') : own_G B n0 Q kc ks cells slots h pc Ls st := f k
theorem own_cast {Ls' : Array Slot} {st' : List Value} (hL : Ls = Ls') (hS : st = st') (k : own_G B n0 Q kc ks cells slots h pc Ls' st') : own_G B n0 Q kc ks cells slots h pc Ls st := by
  subst hL hS
  exact k
theorem own_w (H : own_Ok B Z a0 l R y code N ret) {i : Nat} {d : Jvm.Cond} (q : tables_1[i]? = some d) : d.before a0 Z = true := by
  obtain ⟨p, l, e, R, s, m, args, below, meth, c⟩ := B
  exact H.2.2.2.2.2.2.2.2.2.2 i d q
theorem own_hw (H : own_Ok B Z a0 l R y code N ret) : ∀ (i : Nat) (d : Jvm.Cond), tables_1[i]? = some d → d.before a0 Z = true := by
  obtain ⟨p, l, e, R, s, m, args, below, meth, c⟩ := B
  exact H.2.2.2.2.2.2.2.2.2.2
theorem own_iadd (H : own_Ok B Z a0 l R y code N ret) {x z v : Int32} (hv : x + z = v) (hd : decode code pc = .ok (.iadd, 1)) (k : own_G B n0 Q kc ks cells slots h (pc + 1) Ls (.int v :: st)) : own_G B n0 Q kc ks cells slots h pc Ls (.int z :: .int x :: st) := by
  subst hv
  obtain ⟨p, l, e, R, s, m, args, below, meth, c⟩ := B
  obtain ⟨rfl, rfl, hx, hZ, hown, hby, hml, hrt, hlk, hnm, hw⟩ := H
  intro T locs c1 s1 X F hc hs eT
  exact own_go (fun t q => XS.iadd X.here hx rfl (hb hby hd) rfl q) (k T locs c1 s1 X F hc hs eT)
theorem own_isub (H : own_Ok B Z a0 l R y code N ret) {x z v : Int32} (hv : x - z = v) (hd : decode code pc = .ok (.isub, 1)) (k : own_G B n0 Q kc ks cells slots h (pc + 1) Ls (.int v :: st)) : own_G B n0 Q kc ks cells slots h pc Ls (.int z :: .int x :: st) := by
  subst hv
  obtain ⟨p, l, e, R, s, m, args, below, meth, c⟩ := B
  obtain ⟨rfl, rfl, hx, hZ, hown, hby, hml, hrt, hlk, hnm, hw⟩ := H
  intro T locs c1 s1 X F hc hs eT
  exact own_go (fun t q => XS.isub X.here hx rfl (hb hby hd) rfl q) (k T locs c1 s1 X F hc hs eT)
theorem own_imul (H : own_Ok B Z a0 l R y code N ret) {x z v : Int32} (hv : x * z = v) (hd : decode code pc = .ok (.imul, 1)) (k : own_G B n0 Q kc ks cells slots h (pc + 1) Ls (.int v :: st)) : own_G B n0 Q kc ks cells slots h pc Ls (.int z :: .int x :: st) := by
  subst hv
  obtain ⟨p, l, e, R, s, m, args, below, meth, c⟩ := B
  obtain ⟨rfl, rfl, hx, hZ, hown, hby, hml, hrt, hlk, hnm, hw⟩ := H
  intro T locs c1 s1 X F hc hs eT
  exact own_go (fun t q => XS.imul X.here hx rfl (hb hby hd) rfl q) (k T locs c1 s1 X F hc hs eT)
theorem own_iand (H : own_Ok B Z a0 l R y code N ret) {x z v : Int32} (hv : x &&& z = v) (hd : decode code pc = .ok (.iand, 1)) (k : own_G B n0 Q kc ks cells slots h (pc + 1) Ls (.int v :: st)) : own_G B n0 Q kc ks cells slots h pc Ls (.int z :: .int x :: st) := by
  subst hv
  obtain ⟨p, l, e, R, s, m, args, below, meth, c⟩ := B
  obtain ⟨rfl, rfl, hx, hZ, hown, hby, hml, hrt, hlk, hnm, hw⟩ := H
  intro T locs c1 s1 X F hc hs eT
  exact own_go (fun t q => XS.iand X.here hx rfl (hb hby hd) rfl q) (k T locs c1 s1 X F hc hs eT)
theorem own_ior (H : own_Ok B Z a0 l R y code N ret) {x z v : Int32} (hv : x ||| z = v) (hd : decode code pc = .ok (.ior, 1)) (k : own_G B n0 Q kc ks cells slots h (pc + 1) Ls (.int v :: st)) : own_G B n0 Q kc ks cells slots h pc Ls (.int z :: .int x :: st) := by
  subst hv
  obtain ⟨p, l, e, R, s, m, args, below, meth, c⟩ := B
  obtain ⟨rfl, rfl, hx, hZ, hown, hby, hml, hrt, hlk, hnm, hw⟩ := H
  intro T locs c1 s1 X F hc hs eT
  exact own_go (fun t q => XT.ior X.here hx rfl (hb hby hd) rfl q) (k T locs c1 s1 X F hc hs eT)
theorem own_ixor (H : own_Ok B Z a0 l R y code N ret) {x z v : Int32} (hv : x ^^^ z = v) (hd : decode code pc = .ok (.ixor, 1)) (k : own_G B n0 Q kc ks cells slots h (pc + 1) Ls (.int v :: st)) : own_G B n0 Q kc ks cells slots h pc Ls (.int z :: .int x :: st) := by
  subst hv
  obtain ⟨p, l, e, R, s, m, args, below, meth, c⟩ := B
  obtain ⟨rfl, rfl, hx, hZ, hown, hby, hml, hrt, hlk, hnm, hw⟩ := H
  intro T locs c1 s1 X F hc hs eT
  exact own_go (fun t q => XT.ixor X.here hx rfl (hb hby hd) rfl q) (k T locs c1 s1 X F hc hs eT)
theorem own_ishl (H : own_Ok B Z a0 l R y code N ret) {x z v : Int32} (hv : x <<< (z &&& 31) = v) (hd : decode code pc = .ok (.ishl, 1)) (k : own_G B n0 Q kc ks cells slots h (pc + 1) Ls (.int v :: st)) : own_G B n0 Q kc ks cells slots h pc Ls (.int z :: .int x :: st) := by
  subst hv
  obtain ⟨p, l, e, R, s, m, args, below, meth, c⟩ := B
  obtain ⟨rfl, rfl, hx, hZ, hown, hby, hml, hrt, hlk, hnm, hw⟩ := H
  intro T locs c1 s1 X F hc hs eT
  exact own_go (fun t q => XT.ishl X.here hx rfl (hb hby hd) rfl q) (k T locs c1 s1 X F hc hs eT)
theorem own_ishr (H : own_Ok B Z a0 l R y code N ret) {x z v : Int32} (hv : x >>> (z &&& 31) = v) (hd : decode code pc = .ok (.ishr, 1)) (k : own_G B n0 Q kc ks cells slots h (pc + 1) Ls (.int v :: st)) : own_G B n0 Q kc ks cells slots h pc Ls (.int z :: .int x :: st) := by
  subst hv
  obtain ⟨p, l, e, R, s, m, args, below, meth, c⟩ := B
  obtain ⟨rfl, rfl, hx, hZ, hown, hby, hml, hrt, hlk, hnm, hw⟩ := H
  intro T locs c1 s1 X F hc hs eT
  exact own_go (fun t q => XT.ishr X.here hx rfl (hb hby hd) rfl q) (k T locs c1 s1 X F hc hs eT)
theorem own_iushr (H : own_Ok B Z a0 l R y code N ret) {x z v : Int32} (hv : XT.ushr x z = v) (hd : decode code pc = .ok (.iushr, 1)) (k : own_G B n0 Q kc ks cells slots h (pc + 1) Ls (.int v :: st)) : own_G B n0 Q kc ks cells slots h pc Ls (.int z :: .int x :: st) := by
  subst hv
  obtain ⟨p, l, e, R, s, m, args, below, meth, c⟩ := B
  obtain ⟨rfl, rfl, hx, hZ, hown, hby, hml, hrt, hlk, hnm, hw⟩ := H
  intro T locs c1 s1 X F hc hs eT
  exact own_go (fun t q => XT.iushr X.here hx rfl (hb hby hd) rfl q) (k T locs c1 s1 X F hc hs eT)
theorem own_ladd (H : own_Ok B Z a0 l R y code N ret) {x z v : Int64} (hv : x + z = v) (hd : decode code pc = .ok (.ladd, 1)) (k : own_G B n0 Q kc ks cells slots h (pc + 1) Ls (.long v :: st)) : own_G B n0 Q kc ks cells slots h pc Ls (.long z :: .long x :: st) := by
  subst hv
  obtain ⟨p, l, e, R, s, m, args, below, meth, c⟩ := B
  obtain ⟨rfl, rfl, hx, hZ, hown, hby, hml, hrt, hlk, hnm, hw⟩ := H
  intro T locs c1 s1 X F hc hs eT
  exact own_go (fun t q => XT.ladd X.here hx rfl (hb hby hd) rfl q) (k T locs c1 s1 X F hc hs eT)
theorem own_lsub (H : own_Ok B Z a0 l R y code N ret) {x z v : Int64} (hv : x - z = v) (hd : decode code pc = .ok (.lsub, 1)) (k : own_G B n0 Q kc ks cells slots h (pc + 1) Ls (.long v :: st)) : own_G B n0 Q kc ks cells slots h pc Ls (.long z :: .long x :: st) := by
  subst hv
  obtain ⟨p, l, e, R, s, m, args, below, meth, c⟩ := B
  obtain ⟨rfl, rfl, hx, hZ, hown, hby, hml, hrt, hlk, hnm, hw⟩ := H
  intro T locs c1 s1 X F hc hs eT
  exact own_go (fun t q => XT.lsub X.here hx rfl (hb hby hd) rfl q) (k T locs c1 s1 X F hc hs eT)
theorem own_lmul (H : own_Ok B Z a0 l R y code N ret) {x z v : Int64} (hv : x * z = v) (hd : decode code pc = .ok (.lmul, 1)) (k : own_G B n0 Q kc ks cells slots h (pc + 1) Ls (.long v :: st)) : own_G B n0 Q kc ks cells slots h pc Ls (.long z :: .long x :: st) := by
  subst hv
  obtain ⟨p, l, e, R, s, m, args, below, meth, c⟩ := B
  obtain ⟨rfl, rfl, hx, hZ, hown, hby, hml, hrt, hlk, hnm, hw⟩ := H
  intro T locs c1 s1 X F hc hs eT
  exact own_go (fun t q => XT.lmul X.here hx rfl (hb hby hd) rfl q) (k T locs c1 s1 X F hc hs eT)
theorem own_land (H : own_Ok B Z a0 l R y code N ret) {x z v : Int64} (hv : x &&& z = v) (hd : decode code pc = .ok (.land, 1)) (k : own_G B n0 Q kc ks cells slots h (pc + 1) Ls (.long v :: st)) : own_G B n0 Q kc ks cells slots h pc Ls (.long z :: .long x :: st) := by
  subst hv
  obtain ⟨p, l, e, R, s, m, args, below, meth, c⟩ := B
  obtain ⟨rfl, rfl, hx, hZ, hown, hby, hml, hrt, hlk, hnm, hw⟩ := H
  intro T locs c1 s1 X F hc hs eT
  exact own_go (fun t q => XT.land X.here hx rfl (hb hby hd) rfl q) (k T locs c1 s1 X F hc hs eT)
theorem own_lor (H : own_Ok B Z a0 l R y code N ret) {x z v : Int64} (hv : x ||| z = v) (hd : decode code pc = .ok (.lor, 1)) (k : own_G B n0 Q kc ks cells slots h (pc + 1) Ls (.long v :: st)) : own_G B n0 Q kc ks cells slots h pc Ls (.long z :: .long x :: st) := by
  subst hv
  obtain ⟨p, l, e, R, s, m, args, below, meth, c⟩ := B
  obtain ⟨rfl, rfl, hx, hZ, hown, hby, hml, hrt, hlk, hnm, hw⟩ := H
  intro T locs c1 s1 X F hc hs eT
  exact own_go (fun t q => XT.lor X.here hx rfl (hb hby hd) rfl q) (k T locs c1 s1 X F hc hs eT)
theorem own_lxor (H : own_Ok B Z a0 l R y code N ret) {x z v : Int64} (hv : x ^^^ z = v) (hd : decode code pc = .ok (.lxor, 1)) (k : own_G B n0 Q kc ks cells slots h (pc + 1) Ls (.long v :: st)) : own_G B n0 Q kc ks cells slots h pc Ls (.long z :: .long x :: st) := by
  subst hv
  obtain ⟨p, l, e, R, s, m, args, below, meth, c⟩ := B
  obtain ⟨rfl, rfl, hx, hZ, hown, hby, hml, hrt, hlk, hnm, hw⟩ := H
  intro T locs c1 s1 X F hc hs eT
  exact own_go (fun t q => XT.lxor X.here hx rfl (hb hby hd) rfl q) (k T locs c1 s1 X F hc hs eT)
theorem own_idiv (H : own_Ok B Z a0 l R y code N ret) {x z v : Int32} (hv : x / z = v) (hd : decode code pc = .ok (.idiv, 1)) (hz : z ≠ 0) (k : own_G B n0 Q kc ks cells slots h (pc + 1) Ls (.int v :: st)) : own_G B n0 Q kc ks cells slots h pc Ls (.int z :: .int x :: st) := by
  subst hv
  obtain ⟨p, l, e, R, s, m, args, below, meth, c⟩ := B
  obtain ⟨rfl, rfl, hx, hZ, hown, hby, hml, hrt, hlk, hnm, hw⟩ := H
  intro T locs c1 s1 X F hc hs eT
  exact own_go (fun t q => XS.idiv X.here hx rfl (hb hby hd) rfl hz q) (k T locs c1 s1 X F hc hs eT)
theorem own_irem (H : own_Ok B Z a0 l R y code N ret) {x z v : Int32} (hv : x % z = v) (hd : decode code pc = .ok (.irem, 1)) (hz : z ≠ 0) (k : own_G B n0 Q kc ks cells slots h (pc + 1) Ls (.int v :: st)) : own_G B n0 Q kc ks cells slots h pc Ls (.int z :: .int x :: st) := by
  subst hv
  obtain ⟨p, l, e, R, s, m, args, below, meth, c⟩ := B
  obtain ⟨rfl, rfl, hx, hZ, hown, hby, hml, hrt, hlk, hnm, hw⟩ := H
  intro T locs c1 s1 X F hc hs eT
  exact own_go (fun t q => iremM X hx rfl (hb hby hd) rfl hz q) (k T locs c1 s1 X F hc hs eT)
theorem own_ldiv (H : own_Ok B Z a0 l R y code N ret) {x z v : Int64} (hv : x / z = v) (hd : decode code pc = .ok (.ldiv, 1)) (hz : z ≠ 0) (k : own_G B n0 Q kc ks cells slots h (pc + 1) Ls (.long v :: st)) : own_G B n0 Q kc ks cells slots h pc Ls (.long z :: .long x :: st) := by
  subst hv
  obtain ⟨p, l, e, R, s, m, args, below, meth, c⟩ := B
  obtain ⟨rfl, rfl, hx, hZ, hown, hby, hml, hrt, hlk, hnm, hw⟩ := H
  intro T locs c1 s1 X F hc hs eT
  exact own_go (fun t q => XT.ldiv X.here hx rfl (hb hby hd) rfl hz q) (k T locs c1 s1 X F hc hs eT)
theorem own_lrem (H : own_Ok B Z a0 l R y code N ret) {x z v : Int64} (hv : x - x / z * z = v) (hd : decode code pc = .ok (.lrem, 1)) (hz : z ≠ 0) (k : own_G B n0 Q kc ks cells slots h (pc + 1) Ls (.long v :: st)) : own_G B n0 Q kc ks cells slots h pc Ls (.long z :: .long x :: st) := by
  subst hv
  obtain ⟨p, l, e, R, s, m, args, below, meth, c⟩ := B
  obtain ⟨rfl, rfl, hx, hZ, hown, hby, hml, hrt, hlk, hnm, hw⟩ := H
  intro T locs c1 s1 X F hc hs eT
  exact own_go (fun t q => XT.lrem X.here hx rfl (hb hby hd) rfl hz q) (k T locs c1 s1 X F hc hs eT)
theorem own_lshl (H : own_Ok B Z a0 l R y code N ret) {x v : Int64} {z : Int32} (hv : x <<< (z.toInt64 &&& 63) = v) (hd : decode code pc = .ok (.lshl, 1)) (k : own_G B n0 Q kc ks cells slots h (pc + 1) Ls (.long v :: st)) : own_G B n0 Q kc ks cells slots h pc Ls (.int z :: .long x :: st) := by
  subst hv
  obtain ⟨p, l, e, R, s, m, args, below, meth, c⟩ := B
  obtain ⟨rfl, rfl, hx, hZ, hown, hby, hml, hrt, hlk, hnm, hw⟩ := H
  intro T locs c1 s1 X F hc hs eT
  exact own_go (fun t q => XT.lshl X.here hx rfl (hb hby hd) rfl q) (k T locs c1 s1 X F hc hs eT)
theorem own_lshr (H : own_Ok B Z a0 l R y code N ret) {x v : Int64} {z : Int32} (hv : x >>> (z.toInt64 &&& 63) = v) (hd : decode code pc = .ok (.lshr, 1)) (k : own_G B n0 Q kc ks cells slots h (pc + 1) Ls (.long v :: st)) : own_G B n0 Q kc ks cells slots h pc Ls (.int z :: .long x :: st) := by
  subst hv
  obtain ⟨p, l, e, R, s, m, args, below, meth, c⟩ := B
  obtain ⟨rfl, rfl, hx, hZ, hown, hby, hml, hrt, hlk, hnm, hw⟩ := H
  intro T locs c1 s1 X F hc hs eT
  exact own_go (fun t q => XT.lshr X.here hx rfl (hb hby hd) rfl q) (k T locs c1 s1 X F hc hs eT)
theorem own_lushr (H : own_Ok B Z a0 l R y code N ret) {x v : Int64} {z : Int32} (hv : XT.ushrL x z = v) (hd : decode code pc = .ok (.lushr, 1)) (k : own_G B n0 Q kc ks cells slots h (pc + 1) Ls (.long v :: st)) : own_G B n0 Q kc ks cells slots h pc Ls (.int z :: .long x :: st) := by
  subst hv
  obtain ⟨p, l, e, R, s, m, args, below, meth, c⟩ := B
  obtain ⟨rfl, rfl, hx, hZ, hown, hby, hml, hrt, hlk, hnm, hw⟩ := H
  intro T locs c1 s1 X F hc hs eT
  exact own_go (fun t q => XT.lushr X.here hx rfl (hb hby hd) rfl q) (k T locs c1 s1 X F hc hs eT)
theorem own_ineg (H : own_Ok B Z a0 l R y code N ret) {x : Int32} {v : Int32} (hv : -x = v) (hd : decode code pc = .ok (.ineg, 1)) (k : own_G B n0 Q kc ks cells slots h (pc + 1) Ls (.int v :: st)) : own_G B n0 Q kc ks cells slots h pc Ls (.int x :: st) := by
  subst hv
  obtain ⟨p, l, e, R, s, m, args, below, meth, c⟩ := B
  obtain ⟨rfl, rfl, hx, hZ, hown, hby, hml, hrt, hlk, hnm, hw⟩ := H
  intro T locs c1 s1 X F hc hs eT
  exact own_go (fun t q => XS.ineg X.here hx rfl (hb hby hd) rfl q) (k T locs c1 s1 X F hc hs eT)
theorem own_lneg (H : own_Ok B Z a0 l R y code N ret) {x : Int64} {v : Int64} (hv : -x = v) (hd : decode code pc = .ok (.lneg, 1)) (k : own_G B n0 Q kc ks cells slots h (pc + 1) Ls (.long v :: st)) : own_G B n0 Q kc ks cells slots h pc Ls (.long x :: st) := by
  subst hv
  obtain ⟨p, l, e, R, s, m, args, below, meth, c⟩ := B
  obtain ⟨rfl, rfl, hx, hZ, hown, hby, hml, hrt, hlk, hnm, hw⟩ := H
  intro T locs c1 s1 X F hc hs eT
  exact own_go (fun t q => XT.lneg X.here hx rfl (hb hby hd) rfl q) (k T locs c1 s1 X F hc hs eT)
theorem own_i2l (H : own_Ok B Z a0 l R y code N ret) {x : Int32} {v : Int64} (hv : x.toInt64 = v) (hd : decode code pc = .ok (.i2l, 1)) (k : own_G B n0 Q kc ks cells slots h (pc + 1) Ls (.long v :: st)) : own_G B n0 Q kc ks cells slots h pc Ls (.int x :: st) := by
  subst hv
  obtain ⟨p, l, e, R, s, m, args, below, meth, c⟩ := B
  obtain ⟨rfl, rfl, hx, hZ, hown, hby, hml, hrt, hlk, hnm, hw⟩ := H
  intro T locs c1 s1 X F hc hs eT
  exact own_go (fun t q => XT.i2l X.here hx rfl (hb hby hd) rfl q) (k T locs c1 s1 X F hc hs eT)
theorem own_l2i (H : own_Ok B Z a0 l R y code N ret) {x : Int64} {v : Int32} (hv : x.toInt32 = v) (hd : decode code pc = .ok (.l2i, 1)) (k : own_G B n0 Q kc ks cells slots h (pc + 1) Ls (.int v :: st)) : own_G B n0 Q kc ks cells slots h pc Ls (.long x :: st) := by
  subst hv
  obtain ⟨p, l, e, R, s, m, args, below, meth, c⟩ := B
  obtain ⟨rfl, rfl, hx, hZ, hown, hby, hml, hrt, hlk, hnm, hw⟩ := H
  intro T locs c1 s1 X F hc hs eT
  exact own_go (fun t q => XT.l2i X.here hx rfl (hb hby hd) rfl q) (k T locs c1 s1 X F hc hs eT)
theorem own_i2b (H : own_Ok B Z a0 l R y code N ret) {x : Int32} {v : Int32} (hv : x.toInt8.toInt32 = v) (hd : decode code pc = .ok (.i2b, 1)) (k : own_G B n0 Q kc ks cells slots h (pc + 1) Ls (.int v :: st)) : own_G B n0 Q kc ks cells slots h pc Ls (.int x :: st) := by
  subst hv
  obtain ⟨p, l, e, R, s, m, args, below, meth, c⟩ := B
  obtain ⟨rfl, rfl, hx, hZ, hown, hby, hml, hrt, hlk, hnm, hw⟩ := H
  intro T locs c1 s1 X F hc hs eT
  exact own_go (fun t q => XT.i2b X.here hx rfl (hb hby hd) rfl q) (k T locs c1 s1 X F hc hs eT)
theorem own_i2c (H : own_Ok B Z a0 l R y code N ret) {x : Int32} {v : Int32} (hv : x.toUInt32.toUInt16.toUInt32.toInt32 = v) (hd : decode code pc = .ok (.i2c, 1)) (k : own_G B n0 Q kc ks cells slots h (pc + 1) Ls (.int v :: st)) : own_G B n0 Q kc ks cells slots h pc Ls (.int x :: st) := by
  subst hv
  obtain ⟨p, l, e, R, s, m, args, below, meth, c⟩ := B
  obtain ⟨rfl, rfl, hx, hZ, hown, hby, hml, hrt, hlk, hnm, hw⟩ := H
  intro T locs c1 s1 X F hc hs eT
  exact own_go (fun t q => XT.i2c X.here hx rfl (hb hby hd) rfl q) (k T locs c1 s1 X F hc hs eT)
theorem own_i2s (H : own_Ok B Z a0 l R y code N ret) {x : Int32} {v : Int32} (hv : x.toInt16.toInt32 = v) (hd : decode code pc = .ok (.i2s, 1)) (k : own_G B n0 Q kc ks cells slots h (pc + 1) Ls (.int v :: st)) : own_G B n0 Q kc ks cells slots h pc Ls (.int x :: st) := by
  subst hv
  obtain ⟨p, l, e, R, s, m, args, below, meth, c⟩ := B
  obtain ⟨rfl, rfl, hx, hZ, hown, hby, hml, hrt, hlk, hnm, hw⟩ := H
  intro T locs c1 s1 X F hc hs eT
  exact own_go (fun t q => XT.i2s X.here hx rfl (hb hby hd) rfl q) (k T locs c1 s1 X F hc hs eT)
theorem own_iconst (H : own_Ok B Z a0 l R y code N ret) {i : Int} (v : Int32) (hv : Int32.ofInt i = v) (hd : decode code pc = .ok (.iconst i, 1)) (k : own_G B n0 Q kc ks cells slots h (pc + 1) Ls (.int v :: st)) : own_G B n0 Q kc ks cells slots h pc Ls st := by
  obtain ⟨p, l, e, R, s, m, args, below, meth, c⟩ := B
  obtain ⟨rfl, rfl, hx, hZ, hown, hby, hml, hrt, hlk, hnm, hw⟩ := H
  intro T locs c1 s1 X F hc hs eT
  exact own_go (fun t q => XT.iconstV X.here hx rfl v (hb hby hd) hv q) (k T locs c1 s1 X F hc hs eT)
theorem own_bipush (H : own_Ok B Z a0 l R y code N ret) {i : Int} (v : Int32) (hv : (Int8.ofInt i).toInt32 = v) (hd : decode code pc = .ok (.bipush i, 2)) (k : own_G B n0 Q kc ks cells slots h (pc + 2) Ls (.int v :: st)) : own_G B n0 Q kc ks cells slots h pc Ls st := by
  obtain ⟨p, l, e, R, s, m, args, below, meth, c⟩ := B
  obtain ⟨rfl, rfl, hx, hZ, hown, hby, hml, hrt, hlk, hnm, hw⟩ := H
  intro T locs c1 s1 X F hc hs eT
  exact own_go (fun t q => XT.bipushV X.here hx rfl v (hb hby hd) hv q) (k T locs c1 s1 X F hc hs eT)
theorem own_sipush (H : own_Ok B Z a0 l R y code N ret) {i : Int} (v : Int32) (hv : (Int16.ofInt i).toInt32 = v) (hd : decode code pc = .ok (.sipush i, 3)) (k : own_G B n0 Q kc ks cells slots h (pc + 3) Ls (.int v :: st)) : own_G B n0 Q kc ks cells slots h pc Ls st := by
  obtain ⟨p, l, e, R, s, m, args, below, meth, c⟩ := B
  obtain ⟨rfl, rfl, hx, hZ, hown, hby, hml, hrt, hlk, hnm, hw⟩ := H
  intro T locs c1 s1 X F hc hs eT
  exact own_go (fun t q => XT.sipushV X.here hx rfl v (hb hby hd) hv q) (k T locs c1 s1 X F hc hs eT)
theorem own_lconst (H : own_Ok B Z a0 l R y code N ret) {i : Fin 2} (v : Int64) (hv : Int64.ofNat i = v) (hd : decode code pc = .ok (.lconst i, 1)) (k : own_G B n0 Q kc ks cells slots h (pc + 1) Ls (.long v :: st)) : own_G B n0 Q kc ks cells slots h pc Ls st := by
  obtain ⟨p, l, e, R, s, m, args, below, meth, c⟩ := B
  obtain ⟨rfl, rfl, hx, hZ, hown, hby, hml, hrt, hlk, hnm, hw⟩ := H
  intro T locs c1 s1 X F hc hs eT
  exact own_go (fun t q => XT.lconstV X.here hx rfl v (hb hby hd) hv q) (k T locs c1 s1 X F hc hs eT)
theorem own_aconst_null (H : own_Ok B Z a0 l R y code N ret)  (hd : decode code pc = .ok (.aconst_null, 1)) (k : own_G B n0 Q kc ks cells slots h (pc + 1) Ls (.null :: st)) : own_G B n0 Q kc ks cells slots h pc Ls st := by
  obtain ⟨p, l, e, R, s, m, args, below, meth, c⟩ := B
  obtain ⟨rfl, rfl, hx, hZ, hown, hby, hml, hrt, hlk, hnm, hw⟩ := H
  intro T locs c1 s1 X F hc hs eT
  exact own_go (fun t q => XS.aconstNull X.here hx rfl (hb hby hd)  q) (k T locs c1 s1 X F hc hs eT)
theorem own_dup (H : own_Ok B Z a0 l R y code N ret) {x : Value} (hq : x.category = 1) (hd : decode code pc = .ok (.dup, 1)) (k : own_G B n0 Q kc ks cells slots h (pc + 1) Ls (x :: x :: st)) : own_G B n0 Q kc ks cells slots h pc Ls (x :: st) := by
  obtain ⟨p, l, e, R, s, m, args, below, meth, c⟩ := B
  obtain ⟨rfl, rfl, hx, hZ, hown, hby, hml, hrt, hlk, hnm, hw⟩ := H
  intro T locs c1 s1 X F hc hs eT
  exact own_go (fun t q => XS.dup X.here hx rfl (hb hby hd) rfl hq q) (k T locs c1 s1 X F hc hs eT)
theorem own_dup2 (H : own_Ok B Z a0 l R y code N ret) {x z : Value} (hq : x.category = 1) (hq' : z.category = 1) (hd : decode code pc = .ok (.dup2, 1)) (k : own_G B n0 Q kc ks cells slots h (pc + 1) Ls (x :: z :: x :: z :: st)) : own_G B n0 Q kc ks cells slots h pc Ls (x :: z :: st) := by
  obtain ⟨p, l, e, R, s, m, args, below, meth, c⟩ := B
  obtain ⟨rfl, rfl, hx, hZ, hown, hby, hml, hrt, hlk, hnm, hw⟩ := H
  intro T locs c1 s1 X F hc hs eT
  exact own_go (fun t q => XT.dup2 X.here hx rfl (hb hby hd) rfl hq hq' q) (k T locs c1 s1 X F hc hs eT)
theorem own_dup2L (H : own_Ok B Z a0 l R y code N ret) {x : Int64} (hd : decode code pc = .ok (.dup2, 1)) (k : own_G B n0 Q kc ks cells slots h (pc + 1) Ls (.long x :: .long x :: st)) : own_G B n0 Q kc ks cells slots h pc Ls (.long x :: st) := by
  obtain ⟨p, l, e, R, s, m, args, below, meth, c⟩ := B
  obtain ⟨rfl, rfl, hx, hZ, hown, hby, hml, hrt, hlk, hnm, hw⟩ := H
  intro T locs c1 s1 X F hc hs eT
  exact own_go (fun t q => XT.dup2L X.here hx rfl (hb hby hd) rfl q) (k T locs c1 s1 X F hc hs eT)
theorem own_dup_x1 (H : own_Ok B Z a0 l R y code N ret) {x z : Value} (hq : x.category = 1) (hq' : z.category = 1) (hd : decode code pc = .ok (.dup_x1, 1)) (k : own_G B n0 Q kc ks cells slots h (pc + 1) Ls (x :: z :: x :: st)) : own_G B n0 Q kc ks cells slots h pc Ls (x :: z :: st) := by
  obtain ⟨p, l, e, R, s, m, args, below, meth, c⟩ := B
  obtain ⟨rfl, rfl, hx, hZ, hown, hby, hml, hrt, hlk, hnm, hw⟩ := H
  intro T locs c1 s1 X F hc hs eT
  exact own_go (fun t q => XT.dupX1 X.here hx rfl (hb hby hd) rfl hq hq' q) (k T locs c1 s1 X F hc hs eT)
theorem own_pop (H : own_Ok B Z a0 l R y code N ret) {x : Value} (hq : x.category = 1) (hd : decode code pc = .ok (.pop, 1)) (k : own_G B n0 Q kc ks cells slots h (pc + 1) Ls st) : own_G B n0 Q kc ks cells slots h pc Ls (x :: st) := by
  obtain ⟨p, l, e, R, s, m, args, below, meth, c⟩ := B
  obtain ⟨rfl, rfl, hx, hZ, hown, hby, hml, hrt, hlk, hnm, hw⟩ := H
  intro T locs c1 s1 X F hc hs eT
  exact own_go (fun t q => XT.pop X.here hx rfl (hb hby hd) rfl hq q) (k T locs c1 s1 X F hc hs eT)
theorem own_iload_n (H : own_Ok B Z a0 l R y code N ret) {i : Fin 4} {v : Int32} (hl : Ls[i.val]? = some (.val (.int v))) (hd : decode code pc = .ok (.iload_n i, 1)) (k : own_G B n0 Q kc ks cells slots h (pc + 1) Ls (.int v :: st)) : own_G B n0 Q kc ks cells slots h pc Ls st := by
  obtain ⟨p, l, e, R, s, m, args, below, meth, c⟩ := B
  obtain ⟨rfl, rfl, hx, hZ, hown, hby, hml, hrt, hlk, hnm, hw⟩ := H
  intro T locs c1 s1 X F hc hs eT
  exact own_go (fun t q => XS.iloadN X.here hx rfl (hb hby hd) hl q) (k T locs c1 s1 X F hc hs eT)
theorem own_iload (H : own_Ok B Z a0 l R y code N ret) {i : Nat} {v : Int32} (hl : Ls[i]? = some (.val (.int v))) (hd : decode code pc = .ok (.iload i, 2)) (k : own_G B n0 Q kc ks cells slots h (pc + 2) Ls (.int v :: st)) : own_G B n0 Q kc ks cells slots h pc Ls st := by
  obtain ⟨p, l, e, R, s, m, args, below, meth, c⟩ := B
  obtain ⟨rfl, rfl, hx, hZ, hown, hby, hml, hrt, hlk, hnm, hw⟩ := H
  intro T locs c1 s1 X F hc hs eT
  exact own_go (fun t q => XS.iload X.here hx rfl (hb hby hd) hl q) (k T locs c1 s1 X F hc hs eT)
theorem own_lload_n (H : own_Ok B Z a0 l R y code N ret) {i : Fin 4} {v : Int64} (hl : Ls[i.val]? = some (.val (.long v))) (hd : decode code pc = .ok (.lload_n i, 1)) (k : own_G B n0 Q kc ks cells slots h (pc + 1) Ls (.long v :: st)) : own_G B n0 Q kc ks cells slots h pc Ls st := by
  obtain ⟨p, l, e, R, s, m, args, below, meth, c⟩ := B
  obtain ⟨rfl, rfl, hx, hZ, hown, hby, hml, hrt, hlk, hnm, hw⟩ := H
  intro T locs c1 s1 X F hc hs eT
  exact own_go (fun t q => XT.lloadN X.here hx rfl (hb hby hd) hl q) (k T locs c1 s1 X F hc hs eT)
theorem own_lload (H : own_Ok B Z a0 l R y code N ret) {i : Nat} {v : Int64} (hl : Ls[i]? = some (.val (.long v))) (hd : decode code pc = .ok (.lload i, 2)) (k : own_G B n0 Q kc ks cells slots h (pc + 2) Ls (.long v :: st)) : own_G B n0 Q kc ks cells slots h pc Ls st := by
  obtain ⟨p, l, e, R, s, m, args, below, meth, c⟩ := B
  obtain ⟨rfl, rfl, hx, hZ, hown, hby, hml, hrt, hlk, hnm, hw⟩ := H
  intro T locs c1 s1 X F hc hs eT
  exact own_go (fun t q => XT.lload X.here hx rfl (hb hby hd) hl q) (k T locs c1 s1 X F hc hs eT)
theorem own_aload_n (H : own_Ok B Z a0 l R y code N ret) {i : Fin 4} {v : Value} (hl : Ls[i.val]? = some (.val v)) (hv : v.isRef = true) (hd : decode code pc = .ok (.aload_n i, 1)) (k : own_G B n0 Q kc ks cells slots h (pc + 1) Ls (v :: st)) : own_G B n0 Q kc ks cells slots h pc Ls st := by
  obtain ⟨p, l, e, R, s, m, args, below, meth, c⟩ := B
  obtain ⟨rfl, rfl, hx, hZ, hown, hby, hml, hrt, hlk, hnm, hw⟩ := H
  intro T locs c1 s1 X F hc hs eT
  exact own_go (fun t q => XS.aloadN X.here hx rfl (hb hby hd) hl hv q) (k T locs c1 s1 X F hc hs eT)
theorem own_aload (H : own_Ok B Z a0 l R y code N ret) {i : Nat} {v : Value} (hl : Ls[i]? = some (.val v)) (hv : v.isRef = true) (hd : decode code pc = .ok (.aload i, 2)) (k : own_G B n0 Q kc ks cells slots h (pc + 2) Ls (v :: st)) : own_G B n0 Q kc ks cells slots h pc Ls st := by
  obtain ⟨p, l, e, R, s, m, args, below, meth, c⟩ := B
  obtain ⟨rfl, rfl, hx, hZ, hown, hby, hml, hrt, hlk, hnm, hw⟩ := H
  intro T locs c1 s1 X F hc hs eT
  exact own_go (fun t q => XS.aload X.here hx rfl (hb hby hd) hl hv q) (k T locs c1 s1 X F hc hs eT)
theorem own_istore_n (H : own_Ok B Z a0 l R y code N ret) {i : Fin 4} {x : Int32} (Ls' : Array Slot) (hl : storeLocals Ls i.val (.int x) = some Ls') (hd : decode code pc = .ok (.istore_n i, 1)) (k : own_G B n0 Q kc ks cells slots h (pc + 1) Ls' st) : own_G B n0 Q kc ks cells slots h pc Ls (.int x :: st) := by
  obtain ⟨p, l, e, R, s, m, args, below, meth, c⟩ := B
  obtain ⟨rfl, rfl, hx, hZ, hown, hby, hml, hrt, hlk, hnm, hw⟩ := H
  intro T locs c1 s1 X F hc hs eT
  exact own_go (fun t q => XS.istoreN X.here hx rfl (hb hby hd) rfl hl q) (k T locs c1 s1 X F hc hs eT)
theorem own_istore (H : own_Ok B Z a0 l R y code N ret) {i : Nat} {x : Int32} (Ls' : Array Slot) (hl : storeLocals Ls i (.int x) = some Ls') (hd : decode code pc = .ok (.istore i, 2)) (k : own_G B n0 Q kc ks cells slots h (pc + 2) Ls' st) : own_G B n0 Q kc ks cells slots h pc Ls (.int x :: st) := by
  obtain ⟨p, l, e, R, s, m, args, below, meth, c⟩ := B
  obtain ⟨rfl, rfl, hx, hZ, hown, hby, hml, hrt, hlk, hnm, hw⟩ := H
  intro T locs c1 s1 X F hc hs eT
  exact own_go (fun t q => XS.istore X.here hx rfl (hb hby hd) rfl hl q) (k T locs c1 s1 X F hc hs eT)
theorem own_lstore_n (H : own_Ok B Z a0 l R y code N ret) {i : Fin 4} {x : Int64} (Ls' : Array Slot) (hl : storeLocals Ls i.val (.long x) = some Ls') (hd : decode code pc = .ok (.lstore_n i, 1)) (k : own_G B n0 Q kc ks cells slots h (pc + 1) Ls' st) : own_G B n0 Q kc ks cells slots h pc Ls (.long x :: st) := by
  obtain ⟨p, l, e, R, s, m, args, below, meth, c⟩ := B
  obtain ⟨rfl, rfl, hx, hZ, hown, hby, hml, hrt, hlk, hnm, hw⟩ := H
  intro T locs c1 s1 X F hc hs eT
  exact own_go (fun t q => XT.lstoreN X.here hx rfl (hb hby hd) rfl hl q) (k T locs c1 s1 X F hc hs eT)
theorem own_lstore (H : own_Ok B Z a0 l R y code N ret) {i : Nat} {x : Int64} (Ls' : Array Slot) (hl : storeLocals Ls i (.long x) = some Ls') (hd : decode code pc = .ok (.lstore i, 2)) (k : own_G B n0 Q kc ks cells slots h (pc + 2) Ls' st) : own_G B n0 Q kc ks cells slots h pc Ls (.long x :: st) := by
  obtain ⟨p, l, e, R, s, m, args, below, meth, c⟩ := B
  obtain ⟨rfl, rfl, hx, hZ, hown, hby, hml, hrt, hlk, hnm, hw⟩ := H
  intro T locs c1 s1 X F hc hs eT
  exact own_go (fun t q => XT.lstore X.here hx rfl (hb hby hd) rfl hl q) (k T locs c1 s1 X F hc hs eT)
theorem own_astore_n (H : own_Ok B Z a0 l R y code N ret) {i : Fin 4} {x : Value} (hv : x.isRef = true) (Ls' : Array Slot) (hl : storeLocals Ls i.val x = some Ls') (hd : decode code pc = .ok (.astore_n i, 1)) (k : own_G B n0 Q kc ks cells slots h (pc + 1) Ls' st) : own_G B n0 Q kc ks cells slots h pc Ls (x :: st) := by
  obtain ⟨p, l, e, R, s, m, args, below, meth, c⟩ := B
  obtain ⟨rfl, rfl, hx, hZ, hown, hby, hml, hrt, hlk, hnm, hw⟩ := H
  intro T locs c1 s1 X F hc hs eT
  exact own_go (fun t q => XS.astoreN X.here hx rfl (hb hby hd) rfl hv hl q) (k T locs c1 s1 X F hc hs eT)
theorem own_astore (H : own_Ok B Z a0 l R y code N ret) {i : Nat} {x : Value} (hv : x.isRef = true) (Ls' : Array Slot) (hl : storeLocals Ls i x = some Ls') (hd : decode code pc = .ok (.astore i, 2)) (k : own_G B n0 Q kc ks cells slots h (pc + 2) Ls' st) : own_G B n0 Q kc ks cells slots h pc Ls (x :: st) := by
  obtain ⟨p, l, e, R, s, m, args, below, meth, c⟩ := B
  obtain ⟨rfl, rfl, hx, hZ, hown, hby, hml, hrt, hlk, hnm, hw⟩ := H
  intro T locs c1 s1 X F hc hs eT
  exact own_go (fun t q => XS.astore X.here hx rfl (hb hby hd) rfl hv hl q) (k T locs c1 s1 X F hc hs eT)
theorem own_iinc (H : own_Ok B Z a0 l R y code N ret) {i : Nat} {cst : Int} {x u : Int32} (v : Int32) (hv : Int32.ofInt cst = v) (hl : Ls[i]? = some (.val (.int x))) (hu : x + v = u) (Ls' : Array Slot) (hl' : storeLocals Ls i (.int u) = some Ls') (hd : decode code pc = .ok (.iinc i cst, 3)) (k : own_G B n0 Q kc ks cells slots h (pc + 3) Ls' st) : own_G B n0 Q kc ks cells slots h pc Ls st := by
  subst hu
  obtain ⟨p, l, e, R, s, m, args, below, meth, c⟩ := B
  obtain ⟨rfl, rfl, hx, hZ, hown, hby, hml, hrt, hlk, hnm, hw⟩ := H
  intro T locs c1 s1 X F hc hs eT
  exact own_go (fun t q => XT.iincV X.here hx rfl v (hb hby hd) hv hl hl' q) (k T locs c1 s1 X F hc hs eT)
theorem own_goto (H : own_Ok B Z a0 l R y code N ret) {o : Int} (hd : decode code pc = .ok (.goto o, 3)) (ho : 0 ≤ (pc : Int) + o) (hp : ((pc : Int) + o).toNat = pc') (k : own_G B n0 Q kc ks cells slots h pc' Ls st) : own_G B n0 Q kc ks cells slots h pc Ls st := by
  obtain ⟨p, l, e, R, s, m, args, below, meth, c⟩ := B
  obtain ⟨rfl, rfl, hx, hZ, hown, hby, hml, hrt, hlk, hnm, hw⟩ := H
  intro T locs c1 s1 X F hc hs eT
  exact own_go (fun t q => XS.goto X.here hx rfl rfl (hb hby hd) ho hp q) (k T locs c1 s1 X F hc hs eT)
theorem own_ifeq_t (H : own_Ok B Z a0 l R y code N ret) {x : Int32} {o : Int} (hd : decode code pc = .ok (.ifCond .eq o, 3)) (ho : 0 ≤ (pc : Int) + o) (hp : ((pc : Int) + o).toNat = pc') (hq : x = 0) (k : own_G B n0 Q kc ks cells slots h pc' Ls st) : own_G B n0 Q kc ks cells slots h pc Ls (.int x :: st) := by
  obtain ⟨p, l, e, R, s, m, args, below, meth, c⟩ := B
  obtain ⟨rfl, rfl, hx, hZ, hown, hby, hml, hrt, hlk, hnm, hw⟩ := H
  intro T locs c1 s1 X F hc hs eT
  exact own_go (fun t q => XS.ifYes X.here hx rfl rfl (hb hby hd) rfl (XT.i0_eq_t hq) ho hp q) (k T locs c1 s1 X F hc hs eT)
theorem own_ifeq_f (H : own_Ok B Z a0 l R y code N ret) {x : Int32} {o : Int} (hd : decode code pc = .ok (.ifCond .eq o, 3)) (hq : ¬ x = 0) (k : own_G B n0 Q kc ks cells slots h (pc + 3) Ls st) : own_G B n0 Q kc ks cells slots h pc Ls (.int x :: st) := by
  obtain ⟨p, l, e, R, s, m, args, below, meth, c⟩ := B
  obtain ⟨rfl, rfl, hx, hZ, hown, hby, hml, hrt, hlk, hnm, hw⟩ := H
  intro T locs c1 s1 X F hc hs eT
  exact own_go (fun t q => XS.ifNo X.here hx rfl (hb hby hd) rfl (XT.i0_eq_f hq) q) (k T locs c1 s1 X F hc hs eT)
theorem own_icmpeq_t (H : own_Ok B Z a0 l R y code N ret) {x z : Int32} {o : Int} (hd : decode code pc = .ok (.if_icmp .eq o, 3)) (ho : 0 ≤ (pc : Int) + o) (hp : ((pc : Int) + o).toNat = pc') (hq : x = z) (k : own_G B n0 Q kc ks cells slots h pc' Ls st) : own_G B n0 Q kc ks cells slots h pc Ls (.int z :: .int x :: st) := by
  obtain ⟨p, l, e, R, s, m, args, below, meth, c⟩ := B
  obtain ⟨rfl, rfl, hx, hZ, hown, hby, hml, hrt, hlk, hnm, hw⟩ := H
  intro T locs c1 s1 X F hc hs eT
  exact own_go (fun t q => XS.icmpYes X.here hx rfl rfl (hb hby hd) rfl (XT.ii_eq_t hq) ho hp q) (k T locs c1 s1 X F hc hs eT)
theorem own_icmpeq_f (H : own_Ok B Z a0 l R y code N ret) {x z : Int32} {o : Int} (hd : decode code pc = .ok (.if_icmp .eq o, 3)) (hq : ¬ x = z) (k : own_G B n0 Q kc ks cells slots h (pc + 3) Ls st) : own_G B n0 Q kc ks cells slots h pc Ls (.int z :: .int x :: st) := by
  obtain ⟨p, l, e, R, s, m, args, below, meth, c⟩ := B
  obtain ⟨rfl, rfl, hx, hZ, hown, hby, hml, hrt, hlk, hnm, hw⟩ := H
  intro T locs c1 s1 X F hc hs eT
  exact own_go (fun t q => XS.icmpNo X.here hx rfl (hb hby hd) rfl (XT.ii_eq_f hq) q) (k T locs c1 s1 X F hc hs eT)
theorem own_lcmpeq_t (H : own_Ok B Z a0 l R y code N ret) {x z : Int64} {o : Int} (hd0 : decode code pc = .ok (.lcmp, 1)) (hd : decode code (pc + 1) = .ok (.ifCond .eq o, 3)) (ho : 0 ≤ ((pc + 1 : Nat) : Int) + o) (hp : (((pc + 1 : Nat) : Int) + o).toNat = pc') (hq : x = z) (k : own_G B n0 Q kc ks cells slots h pc' Ls st) : own_G B n0 Q kc ks cells slots h pc Ls (.long z :: .long x :: st) := by
  obtain ⟨p, l, e, R, s, m, args, below, meth, c⟩ := B
  obtain ⟨rfl, rfl, hx, hZ, hown, hby, hml, hrt, hlk, hnm, hw⟩ := H
  intro T locs c1 s1 X F hc hs eT
  exact own_go (fun t q => XT.lcmp X.here hx rfl (hb hby hd0) rfl (XS.ifYes X.here hx rfl rfl (hb hby hd) rfl (XT.ll_eq_t hq) ho hp q)) (k T locs c1 s1 X F hc hs eT)
theorem own_lcmpeq_f (H : own_Ok B Z a0 l R y code N ret) {x z : Int64} {o : Int} (hd0 : decode code pc = .ok (.lcmp, 1)) (hd : decode code (pc + 1) = .ok (.ifCond .eq o, 3)) (hq : ¬ x = z) (k : own_G B n0 Q kc ks cells slots h (pc + 4) Ls st) : own_G B n0 Q kc ks cells slots h pc Ls (.long z :: .long x :: st) := by
  obtain ⟨p, l, e, R, s, m, args, below, meth, c⟩ := B
  obtain ⟨rfl, rfl, hx, hZ, hown, hby, hml, hrt, hlk, hnm, hw⟩ := H
  intro T locs c1 s1 X F hc hs eT
  exact own_go (fun t q => XT.lcmp X.here hx rfl (hb hby hd0) rfl (XS.ifNo X.here hx rfl (hb hby hd) rfl (XT.ll_eq_f hq) q)) (k T locs c1 s1 X F hc hs eT)
theorem own_ifne_t (H : own_Ok B Z a0 l R y code N ret) {x : Int32} {o : Int} (hd : decode code pc = .ok (.ifCond .ne o, 3)) (ho : 0 ≤ (pc : Int) + o) (hp : ((pc : Int) + o).toNat = pc') (hq : ¬ x = 0) (k : own_G B n0 Q kc ks cells slots h pc' Ls st) : own_G B n0 Q kc ks cells slots h pc Ls (.int x :: st) := by
  obtain ⟨p, l, e, R, s, m, args, below, meth, c⟩ := B
  obtain ⟨rfl, rfl, hx, hZ, hown, hby, hml, hrt, hlk, hnm, hw⟩ := H
  intro T locs c1 s1 X F hc hs eT
  exact own_go (fun t q => XS.ifYes X.here hx rfl rfl (hb hby hd) rfl (XT.i0_ne_t hq) ho hp q) (k T locs c1 s1 X F hc hs eT)
theorem own_ifne_f (H : own_Ok B Z a0 l R y code N ret) {x : Int32} {o : Int} (hd : decode code pc = .ok (.ifCond .ne o, 3)) (hq : x = 0) (k : own_G B n0 Q kc ks cells slots h (pc + 3) Ls st) : own_G B n0 Q kc ks cells slots h pc Ls (.int x :: st) := by
  obtain ⟨p, l, e, R, s, m, args, below, meth, c⟩ := B
  obtain ⟨rfl, rfl, hx, hZ, hown, hby, hml, hrt, hlk, hnm, hw⟩ := H
  intro T locs c1 s1 X F hc hs eT
  exact own_go (fun t q => XS.ifNo X.here hx rfl (hb hby hd) rfl (XT.i0_ne_f hq) q) (k T locs c1 s1 X F hc hs eT)
theorem own_icmpne_t (H : own_Ok B Z a0 l R y code N ret) {x z : Int32} {o : Int} (hd : decode code pc = .ok (.if_icmp .ne o, 3)) (ho : 0 ≤ (pc : Int) + o) (hp : ((pc : Int) + o).toNat = pc') (hq : ¬ x = z) (k : own_G B n0 Q kc ks cells slots h pc' Ls st) : own_G B n0 Q kc ks cells slots h pc Ls (.int z :: .int x :: st) := by
  obtain ⟨p, l, e, R, s, m, args, below, meth, c⟩ := B
  obtain ⟨rfl, rfl, hx, hZ, hown, hby, hml, hrt, hlk, hnm, hw⟩ := H
  intro T locs c1 s1 X F hc hs eT
  exact own_go (fun t q => XS.icmpYes X.here hx rfl rfl (hb hby hd) rfl (XT.ii_ne_t hq) ho hp q) (k T locs c1 s1 X F hc hs eT)
theorem own_icmpne_f (H : own_Ok B Z a0 l R y code N ret) {x z : Int32} {o : Int} (hd : decode code pc = .ok (.if_icmp .ne o, 3)) (hq : x = z) (k : own_G B n0 Q kc ks cells slots h (pc + 3) Ls st) : own_G B n0 Q kc ks cells slots h pc Ls (.int z :: .int x :: st) := by
  obtain ⟨p, l, e, R, s, m, args, below, meth, c⟩ := B
  obtain ⟨rfl, rfl, hx, hZ, hown, hby, hml, hrt, hlk, hnm, hw⟩ := H
  intro T locs c1 s1 X F hc hs eT
  exact own_go (fun t q => XS.icmpNo X.here hx rfl (hb hby hd) rfl (XT.ii_ne_f hq) q) (k T locs c1 s1 X F hc hs eT)
theorem own_lcmpne_t (H : own_Ok B Z a0 l R y code N ret) {x z : Int64} {o : Int} (hd0 : decode code pc = .ok (.lcmp, 1)) (hd : decode code (pc + 1) = .ok (.ifCond .ne o, 3)) (ho : 0 ≤ ((pc + 1 : Nat) : Int) + o) (hp : (((pc + 1 : Nat) : Int) + o).toNat = pc') (hq : ¬ x = z) (k : own_G B n0 Q kc ks cells slots h pc' Ls st) : own_G B n0 Q kc ks cells slots h pc Ls (.long z :: .long x :: st) := by
  obtain ⟨p, l, e, R, s, m, args, below, meth, c⟩ := B
  obtain ⟨rfl, rfl, hx, hZ, hown, hby, hml, hrt, hlk, hnm, hw⟩ := H
  intro T locs c1 s1 X F hc hs eT
  exact own_go (fun t q => XT.lcmp X.here hx rfl (hb hby hd0) rfl (XS.ifYes X.here hx rfl rfl (hb hby hd) rfl (XT.ll_ne_t hq) ho hp q)) (k T locs c1 s1 X F hc hs eT)
theorem own_lcmpne_f (H : own_Ok B Z a0 l R y code N ret) {x z : Int64} {o : Int} (hd0 : decode code pc = .ok (.lcmp, 1)) (hd : decode code (pc + 1) = .ok (.ifCond .ne o, 3)) (hq : x = z) (k : own_G B n0 Q kc ks cells slots h (pc + 4) Ls st) : own_G B n0 Q kc ks cells slots h pc Ls (.long z :: .long x :: st) := by
  obtain ⟨p, l, e, R, s, m, args, below, meth, c⟩ := B
  obtain ⟨rfl, rfl, hx, hZ, hown, hby, hml, hrt, hlk, hnm, hw⟩ := H
  intro T locs c1 s1 X F hc hs eT
  exact own_go (fun t q => XT.lcmp X.here hx rfl (hb hby hd0) rfl (XS.ifNo X.here hx rfl (hb hby hd) rfl (XT.ll_ne_f hq) q)) (k T locs c1 s1 X F hc hs eT)
theorem own_iflt_t (H : own_Ok B Z a0 l R y code N ret) {x : Int32} {o : Int} (hd : decode code pc = .ok (.ifCond .lt o, 3)) (ho : 0 ≤ (pc : Int) + o) (hp : ((pc : Int) + o).toNat = pc') (hq : x < 0) (k : own_G B n0 Q kc ks cells slots h pc' Ls st) : own_G B n0 Q kc ks cells slots h pc Ls (.int x :: st) := by
  obtain ⟨p, l, e, R, s, m, args, below, meth, c⟩ := B
  obtain ⟨rfl, rfl, hx, hZ, hown, hby, hml, hrt, hlk, hnm, hw⟩ := H
  intro T locs c1 s1 X F hc hs eT
  exact own_go (fun t q => XS.ifYes X.here hx rfl rfl (hb hby hd) rfl (XT.i0_lt_t hq) ho hp q) (k T locs c1 s1 X F hc hs eT)
theorem own_iflt_f (H : own_Ok B Z a0 l R y code N ret) {x : Int32} {o : Int} (hd : decode code pc = .ok (.ifCond .lt o, 3)) (hq : ¬ x < 0) (k : own_G B n0 Q kc ks cells slots h (pc + 3) Ls st) : own_G B n0 Q kc ks cells slots h pc Ls (.int x :: st) := by
  obtain ⟨p, l, e, R, s, m, args, below, meth, c⟩ := B
  obtain ⟨rfl, rfl, hx, hZ, hown, hby, hml, hrt, hlk, hnm, hw⟩ := H
  intro T locs c1 s1 X F hc hs eT
  exact own_go (fun t q => XS.ifNo X.here hx rfl (hb hby hd) rfl (XT.i0_lt_f hq) q) (k T locs c1 s1 X F hc hs eT)
theorem own_icmplt_t (H : own_Ok B Z a0 l R y code N ret) {x z : Int32} {o : Int} (hd : decode code pc = .ok (.if_icmp .lt o, 3)) (ho : 0 ≤ (pc : Int) + o) (hp : ((pc : Int) + o).toNat = pc') (hq : x < z) (k : own_G B n0 Q kc ks cells slots h pc' Ls st) : own_G B n0 Q kc ks cells slots h pc Ls (.int z :: .int x :: st) := by
  obtain ⟨p, l, e, R, s, m, args, below, meth, c⟩ := B
  obtain ⟨rfl, rfl, hx, hZ, hown, hby, hml, hrt, hlk, hnm, hw⟩ := H
  intro T locs c1 s1 X F hc hs eT
  exact own_go (fun t q => XS.icmpYes X.here hx rfl rfl (hb hby hd) rfl (XT.ii_lt_t hq) ho hp q) (k T locs c1 s1 X F hc hs eT)
theorem own_icmplt_f (H : own_Ok B Z a0 l R y code N ret) {x z : Int32} {o : Int} (hd : decode code pc = .ok (.if_icmp .lt o, 3)) (hq : ¬ x < z) (k : own_G B n0 Q kc ks cells slots h (pc + 3) Ls st) : own_G B n0 Q kc ks cells slots h pc Ls (.int z :: .int x :: st) := by
  obtain ⟨p, l, e, R, s, m, args, below, meth, c⟩ := B
  obtain ⟨rfl, rfl, hx, hZ, hown, hby, hml, hrt, hlk, hnm, hw⟩ := H
  intro T locs c1 s1 X F hc hs eT
  exact own_go (fun t q => XS.icmpNo X.here hx rfl (hb hby hd) rfl (XT.ii_lt_f hq) q) (k T locs c1 s1 X F hc hs eT)
theorem own_lcmplt_t (H : own_Ok B Z a0 l R y code N ret) {x z : Int64} {o : Int} (hd0 : decode code pc = .ok (.lcmp, 1)) (hd : decode code (pc + 1) = .ok (.ifCond .lt o, 3)) (ho : 0 ≤ ((pc + 1 : Nat) : Int) + o) (hp : (((pc + 1 : Nat) : Int) + o).toNat = pc') (hq : x < z) (k : own_G B n0 Q kc ks cells slots h pc' Ls st) : own_G B n0 Q kc ks cells slots h pc Ls (.long z :: .long x :: st) := by
  obtain ⟨p, l, e, R, s, m, args, below, meth, c⟩ := B
  obtain ⟨rfl, rfl, hx, hZ, hown, hby, hml, hrt, hlk, hnm, hw⟩ := H
  intro T locs c1 s1 X F hc hs eT
  exact own_go (fun t q => XT.lcmp X.here hx rfl (hb hby hd0) rfl (XS.ifYes X.here hx rfl rfl (hb hby hd) rfl (XT.ll_lt_t hq) ho hp q)) (k T locs c1 s1 X F hc hs eT)
theorem own_lcmplt_f (H : own_Ok B Z a0 l R y code N ret) {x z : Int64} {o : Int} (hd0 : decode code pc = .ok (.lcmp, 1)) (hd : decode code (pc + 1) = .ok (.ifCond .lt o, 3)) (hq : ¬ x < z) (k : own_G B n0 Q kc ks cells slots h (pc + 4) Ls st) : own_G B n0 Q kc ks cells slots h pc Ls (.long z :: .long x :: st) := by
  obtain ⟨p, l, e, R, s, m, args, below, meth, c⟩ := B
  obtain ⟨rfl, rfl, hx, hZ, hown, hby, hml, hrt, hlk, hnm, hw⟩ := H
  intro T locs c1 s1 X F hc hs eT
  exact own_go (fun t q => XT.lcmp X.here hx rfl (hb hby hd0) rfl (XS.ifNo X.here hx rfl (hb hby hd) rfl (XT.ll_lt_f hq) q)) (k T locs c1 s1 X F hc hs eT)
theorem own_ifge_t (H : own_Ok B Z a0 l R y code N ret) {x : Int32} {o : Int} (hd : decode code pc = .ok (.ifCond .ge o, 3)) (ho : 0 ≤ (pc : Int) + o) (hp : ((pc : Int) + o).toNat = pc') (hq : ¬ x < 0) (k : own_G B n0 Q kc ks cells slots h pc' Ls st) : own_G B n0 Q kc ks cells slots h pc Ls (.int x :: st) := by
  obtain ⟨p, l, e, R, s, m, args, below, meth, c⟩ := B
  obtain ⟨rfl, rfl, hx, hZ, hown, hby, hml, hrt, hlk, hnm, hw⟩ := H
  intro T locs c1 s1 X F hc hs eT
  exact own_go (fun t q => XS.ifYes X.here hx rfl rfl (hb hby hd) rfl (XT.i0_ge_t hq) ho hp q) (k T locs c1 s1 X F hc hs eT)
theorem own_ifge_f (H : own_Ok B Z a0 l R y code N ret) {x : Int32} {o : Int} (hd : decode code pc = .ok (.ifCond .ge o, 3)) (hq : x < 0) (k : own_G B n0 Q kc ks cells slots h (pc + 3) Ls st) : own_G B n0 Q kc ks cells slots h pc Ls (.int x :: st) := by
  obtain ⟨p, l, e, R, s, m, args, below, meth, c⟩ := B
  obtain ⟨rfl, rfl, hx, hZ, hown, hby, hml, hrt, hlk, hnm, hw⟩ := H
  intro T locs c1 s1 X F hc hs eT
  exact own_go (fun t q => XS.ifNo X.here hx rfl (hb hby hd) rfl (XT.i0_ge_f hq) q) (k T locs c1 s1 X F hc hs eT)
theorem own_icmpge_t (H : own_Ok B Z a0 l R y code N ret) {x z : Int32} {o : Int} (hd : decode code pc = .ok (.if_icmp .ge o, 3)) (ho : 0 ≤ (pc : Int) + o) (hp : ((pc : Int) + o).toNat = pc') (hq : ¬ x < z) (k : own_G B n0 Q kc ks cells slots h pc' Ls st) : own_G B n0 Q kc ks cells slots h pc Ls (.int z :: .int x :: st) := by
  obtain ⟨p, l, e, R, s, m, args, below, meth, c⟩ := B
  obtain ⟨rfl, rfl, hx, hZ, hown, hby, hml, hrt, hlk, hnm, hw⟩ := H
  intro T locs c1 s1 X F hc hs eT
  exact own_go (fun t q => XS.icmpYes X.here hx rfl rfl (hb hby hd) rfl (XT.ii_ge_t hq) ho hp q) (k T locs c1 s1 X F hc hs eT)
theorem own_icmpge_f (H : own_Ok B Z a0 l R y code N ret) {x z : Int32} {o : Int} (hd : decode code pc = .ok (.if_icmp .ge o, 3)) (hq : x < z) (k : own_G B n0 Q kc ks cells slots h (pc + 3) Ls st) : own_G B n0 Q kc ks cells slots h pc Ls (.int z :: .int x :: st) := by
  obtain ⟨p, l, e, R, s, m, args, below, meth, c⟩ := B
  obtain ⟨rfl, rfl, hx, hZ, hown, hby, hml, hrt, hlk, hnm, hw⟩ := H
  intro T locs c1 s1 X F hc hs eT
  exact own_go (fun t q => XS.icmpNo X.here hx rfl (hb hby hd) rfl (XT.ii_ge_f hq) q) (k T locs c1 s1 X F hc hs eT)
theorem own_lcmpge_t (H : own_Ok B Z a0 l R y code N ret) {x z : Int64} {o : Int} (hd0 : decode code pc = .ok (.lcmp, 1)) (hd : decode code (pc + 1) = .ok (.ifCond .ge o, 3)) (ho : 0 ≤ ((pc + 1 : Nat) : Int) + o) (hp : (((pc + 1 : Nat) : Int) + o).toNat = pc') (hq : ¬ x < z) (k : own_G B n0 Q kc ks cells slots h pc' Ls st) : own_G B n0 Q kc ks cells slots h pc Ls (.long z :: .long x :: st) := by
  obtain ⟨p, l, e, R, s, m, args, below, meth, c⟩ := B
  obtain ⟨rfl, rfl, hx, hZ, hown, hby, hml, hrt, hlk, hnm, hw⟩ := H
  intro T locs c1 s1 X F hc hs eT
  exact own_go (fun t q => XT.lcmp X.here hx rfl (hb hby hd0) rfl (XS.ifYes X.here hx rfl rfl (hb hby hd) rfl (XT.ll_ge_t hq) ho hp q)) (k T locs c1 s1 X F hc hs eT)
theorem own_lcmpge_f (H : own_Ok B Z a0 l R y code N ret) {x z : Int64} {o : Int} (hd0 : decode code pc = .ok (.lcmp, 1)) (hd : decode code (pc + 1) = .ok (.ifCond .ge o, 3)) (hq : x < z) (k : own_G B n0 Q kc ks cells slots h (pc + 4) Ls st) : own_G B n0 Q kc ks cells slots h pc Ls (.long z :: .long x :: st) := by
  obtain ⟨p, l, e, R, s, m, args, below, meth, c⟩ := B
  obtain ⟨rfl, rfl, hx, hZ, hown, hby, hml, hrt, hlk, hnm, hw⟩ := H
  intro T locs c1 s1 X F hc hs eT
  exact own_go (fun t q => XT.lcmp X.here hx rfl (hb hby hd0) rfl (XS.ifNo X.here hx rfl (hb hby hd) rfl (XT.ll_ge_f hq) q)) (k T locs c1 s1 X F hc hs eT)
theorem own_ifgt_t (H : own_Ok B Z a0 l R y code N ret) {x : Int32} {o : Int} (hd : decode code pc = .ok (.ifCond .gt o, 3)) (ho : 0 ≤ (pc : Int) + o) (hp : ((pc : Int) + o).toNat = pc') (hq : 0 < x) (k : own_G B n0 Q kc ks cells slots h pc' Ls st) : own_G B n0 Q kc ks cells slots h pc Ls (.int x :: st) := by
  obtain ⟨p, l, e, R, s, m, args, below, meth, c⟩ := B
  obtain ⟨rfl, rfl, hx, hZ, hown, hby, hml, hrt, hlk, hnm, hw⟩ := H
  intro T locs c1 s1 X F hc hs eT
  exact own_go (fun t q => XS.ifYes X.here hx rfl rfl (hb hby hd) rfl (XT.i0_gt_t hq) ho hp q) (k T locs c1 s1 X F hc hs eT)
theorem own_ifgt_f (H : own_Ok B Z a0 l R y code N ret) {x : Int32} {o : Int} (hd : decode code pc = .ok (.ifCond .gt o, 3)) (hq : ¬ 0 < x) (k : own_G B n0 Q kc ks cells slots h (pc + 3) Ls st) : own_G B n0 Q kc ks cells slots h pc Ls (.int x :: st) := by
  obtain ⟨p, l, e, R, s, m, args, below, meth, c⟩ := B
  obtain ⟨rfl, rfl, hx, hZ, hown, hby, hml, hrt, hlk, hnm, hw⟩ := H
  intro T locs c1 s1 X F hc hs eT
  exact own_go (fun t q => XS.ifNo X.here hx rfl (hb hby hd) rfl (XT.i0_gt_f hq) q) (k T locs c1 s1 X F hc hs eT)
theorem own_icmpgt_t (H : own_Ok B Z a0 l R y code N ret) {x z : Int32} {o : Int} (hd : decode code pc = .ok (.if_icmp .gt o, 3)) (ho : 0 ≤ (pc : Int) + o) (hp : ((pc : Int) + o).toNat = pc') (hq : z < x) (k : own_G B n0 Q kc ks cells slots h pc' Ls st) : own_G B n0 Q kc ks cells slots h pc Ls (.int z :: .int x :: st) := by
  obtain ⟨p, l, e, R, s, m, args, below, meth, c⟩ := B
  obtain ⟨rfl, rfl, hx, hZ, hown, hby, hml, hrt, hlk, hnm, hw⟩ := H
  intro T locs c1 s1 X F hc hs eT
  exact own_go (fun t q => XS.icmpYes X.here hx rfl rfl (hb hby hd) rfl (XT.ii_gt_t hq) ho hp q) (k T locs c1 s1 X F hc hs eT)
theorem own_icmpgt_f (H : own_Ok B Z a0 l R y code N ret) {x z : Int32} {o : Int} (hd : decode code pc = .ok (.if_icmp .gt o, 3)) (hq : ¬ z < x) (k : own_G B n0 Q kc ks cells slots h (pc + 3) Ls st) : own_G B n0 Q kc ks cells slots h pc Ls (.int z :: .int x :: st) := by
  obtain ⟨p, l, e, R, s, m, args, below, meth, c⟩ := B
  obtain ⟨rfl, rfl, hx, hZ, hown, hby, hml, hrt, hlk, hnm, hw⟩ := H
  intro T locs c1 s1 X F hc hs eT
  exact own_go (fun t q => XS.icmpNo X.here hx rfl (hb hby hd) rfl (XT.ii_gt_f hq) q) (k T locs c1 s1 X F hc hs eT)
theorem own_lcmpgt_t (H : own_Ok B Z a0 l R y code N ret) {x z : Int64} {o : Int} (hd0 : decode code pc = .ok (.lcmp, 1)) (hd : decode code (pc + 1) = .ok (.ifCond .gt o, 3)) (ho : 0 ≤ ((pc + 1 : Nat) : Int) + o) (hp : (((pc + 1 : Nat) : Int) + o).toNat = pc') (hq : z < x) (k : own_G B n0 Q kc ks cells slots h pc' Ls st) : own_G B n0 Q kc ks cells slots h pc Ls (.long z :: .long x :: st) := by
  obtain ⟨p, l, e, R, s, m, args, below, meth, c⟩ := B
  obtain ⟨rfl, rfl, hx, hZ, hown, hby, hml, hrt, hlk, hnm, hw⟩ := H
  intro T locs c1 s1 X F hc hs eT
  exact own_go (fun t q => XT.lcmp X.here hx rfl (hb hby hd0) rfl (XS.ifYes X.here hx rfl rfl (hb hby hd) rfl (XT.ll_gt_t hq) ho hp q)) (k T locs c1 s1 X F hc hs eT)
theorem own_lcmpgt_f (H : own_Ok B Z a0 l R y code N ret) {x z : Int64} {o : Int} (hd0 : decode code pc = .ok (.lcmp, 1)) (hd : decode code (pc + 1) = .ok (.ifCond .gt o, 3)) (hq : ¬ z < x) (k : own_G B n0 Q kc ks cells slots h (pc + 4) Ls st) : own_G B n0 Q kc ks cells slots h pc Ls (.long z :: .long x :: st) := by
  obtain ⟨p, l, e, R, s, m, args, below, meth, c⟩ := B
  obtain ⟨rfl, rfl, hx, hZ, hown, hby, hml, hrt, hlk, hnm, hw⟩ := H
  intro T locs c1 s1 X F hc hs eT
  exact own_go (fun t q => XT.lcmp X.here hx rfl (hb hby hd0) rfl (XS.ifNo X.here hx rfl (hb hby hd) rfl (XT.ll_gt_f hq) q)) (k T locs c1 s1 X F hc hs eT)
theorem own_ifle_t (H : own_Ok B Z a0 l R y code N ret) {x : Int32} {o : Int} (hd : decode code pc = .ok (.ifCond .le o, 3)) (ho : 0 ≤ (pc : Int) + o) (hp : ((pc : Int) + o).toNat = pc') (hq : ¬ 0 < x) (k : own_G B n0 Q kc ks cells slots h pc' Ls st) : own_G B n0 Q kc ks cells slots h pc Ls (.int x :: st) := by
  obtain ⟨p, l, e, R, s, m, args, below, meth, c⟩ := B
  obtain ⟨rfl, rfl, hx, hZ, hown, hby, hml, hrt, hlk, hnm, hw⟩ := H
  intro T locs c1 s1 X F hc hs eT
  exact own_go (fun t q => XS.ifYes X.here hx rfl rfl (hb hby hd) rfl (XT.i0_le_t hq) ho hp q) (k T locs c1 s1 X F hc hs eT)
theorem own_ifle_f (H : own_Ok B Z a0 l R y code N ret) {x : Int32} {o : Int} (hd : decode code pc = .ok (.ifCond .le o, 3)) (hq : 0 < x) (k : own_G B n0 Q kc ks cells slots h (pc + 3) Ls st) : own_G B n0 Q kc ks cells slots h pc Ls (.int x :: st) := by
  obtain ⟨p, l, e, R, s, m, args, below, meth, c⟩ := B
  obtain ⟨rfl, rfl, hx, hZ, hown, hby, hml, hrt, hlk, hnm, hw⟩ := H
  intro T locs c1 s1 X F hc hs eT
  exact own_go (fun t q => XS.ifNo X.here hx rfl (hb hby hd) rfl (XT.i0_le_f hq) q) (k T locs c1 s1 X F hc hs eT)
theorem own_icmple_t (H : own_Ok B Z a0 l R y code N ret) {x z : Int32} {o : Int} (hd : decode code pc = .ok (.if_icmp .le o, 3)) (ho : 0 ≤ (pc : Int) + o) (hp : ((pc : Int) + o).toNat = pc') (hq : ¬ z < x) (k : own_G B n0 Q kc ks cells slots h pc' Ls st) : own_G B n0 Q kc ks cells slots h pc Ls (.int z :: .int x :: st) := by
  obtain ⟨p, l, e, R, s, m, args, below, meth, c⟩ := B
  obtain ⟨rfl, rfl, hx, hZ, hown, hby, hml, hrt, hlk, hnm, hw⟩ := H
  intro T locs c1 s1 X F hc hs eT
  exact own_go (fun t q => XS.icmpYes X.here hx rfl rfl (hb hby hd) rfl (XT.ii_le_t hq) ho hp q) (k T locs c1 s1 X F hc hs eT)
theorem own_icmple_f (H : own_Ok B Z a0 l R y code N ret) {x z : Int32} {o : Int} (hd : decode code pc = .ok (.if_icmp .le o, 3)) (hq : z < x) (k : own_G B n0 Q kc ks cells slots h (pc + 3) Ls st) : own_G B n0 Q kc ks cells slots h pc Ls (.int z :: .int x :: st) := by
  obtain ⟨p, l, e, R, s, m, args, below, meth, c⟩ := B
  obtain ⟨rfl, rfl, hx, hZ, hown, hby, hml, hrt, hlk, hnm, hw⟩ := H
  intro T locs c1 s1 X F hc hs eT
  exact own_go (fun t q => XS.icmpNo X.here hx rfl (hb hby hd) rfl (XT.ii_le_f hq) q) (k T locs c1 s1 X F hc hs eT)
theorem own_lcmple_t (H : own_Ok B Z a0 l R y code N ret) {x z : Int64} {o : Int} (hd0 : decode code pc = .ok (.lcmp, 1)) (hd : decode code (pc + 1) = .ok (.ifCond .le o, 3)) (ho : 0 ≤ ((pc + 1 : Nat) : Int) + o) (hp : (((pc + 1 : Nat) : Int) + o).toNat = pc') (hq : ¬ z < x) (k : own_G B n0 Q kc ks cells slots h pc' Ls st) : own_G B n0 Q kc ks cells slots h pc Ls (.long z :: .long x :: st) := by
  obtain ⟨p, l, e, R, s, m, args, below, meth, c⟩ := B
  obtain ⟨rfl, rfl, hx, hZ, hown, hby, hml, hrt, hlk, hnm, hw⟩ := H
  intro T locs c1 s1 X F hc hs eT
  exact own_go (fun t q => XT.lcmp X.here hx rfl (hb hby hd0) rfl (XS.ifYes X.here hx rfl rfl (hb hby hd) rfl (XT.ll_le_t hq) ho hp q)) (k T locs c1 s1 X F hc hs eT)
theorem own_lcmple_f (H : own_Ok B Z a0 l R y code N ret) {x z : Int64} {o : Int} (hd0 : decode code pc = .ok (.lcmp, 1)) (hd : decode code (pc + 1) = .ok (.ifCond .le o, 3)) (hq : z < x) (k : own_G B n0 Q kc ks cells slots h (pc + 4) Ls st) : own_G B n0 Q kc ks cells slots h pc Ls (.long z :: .long x :: st) := by
  obtain ⟨p, l, e, R, s, m, args, below, meth, c⟩ := B
  obtain ⟨rfl, rfl, hx, hZ, hown, hby, hml, hrt, hlk, hnm, hw⟩ := H
  intro T locs c1 s1 X F hc hs eT
  exact own_go (fun t q => XT.lcmp X.here hx rfl (hb hby hd0) rfl (XS.ifNo X.here hx rfl (hb hby hd) rfl (XT.ll_le_f hq) q)) (k T locs c1 s1 X F hc hs eT)
theorem own_acmpeq_t (H : own_Ok B Z a0 l R y code N ret) {x z : Value} {o : Int} (hd : decode code pc = .ok (.if_acmp .eq o, 3)) (ho : 0 ≤ (pc : Int) + o) (hp : ((pc : Int) + o).toNat = pc') (h1 : x.isRef = true) (h2 : z.isRef = true) (hq : x = z) (k : own_G B n0 Q kc ks cells slots h pc' Ls st) : own_G B n0 Q kc ks cells slots h pc Ls (z :: x :: st) := by
  obtain ⟨p, l, e, R, s, m, args, below, meth, c⟩ := B
  obtain ⟨rfl, rfl, hx, hZ, hown, hby, hml, hrt, hlk, hnm, hw⟩ := H
  intro T locs c1 s1 X F hc hs eT
  exact own_go (fun t q => XT.acmpYes X.here hx rfl rfl (hb hby hd) rfl h1 h2 (XT.aa_eq_t hq) ho hp q) (k T locs c1 s1 X F hc hs eT)
theorem own_acmpeq_f (H : own_Ok B Z a0 l R y code N ret) {x z : Value} {o : Int} (hd : decode code pc = .ok (.if_acmp .eq o, 3)) (h1 : x.isRef = true) (h2 : z.isRef = true) (hq : ¬ x = z) (k : own_G B n0 Q kc ks cells slots h (pc + 3) Ls st) : own_G B n0 Q kc ks cells slots h pc Ls (z :: x :: st) := by
  obtain ⟨p, l, e, R, s, m, args, below, meth, c⟩ := B
  obtain ⟨rfl, rfl, hx, hZ, hown, hby, hml, hrt, hlk, hnm, hw⟩ := H
  intro T locs c1 s1 X F hc hs eT
  exact own_go (fun t q => XT.acmpNo X.here hx rfl (hb hby hd) rfl h1 h2 (XT.aa_eq_f hq) q) (k T locs c1 s1 X F hc hs eT)
theorem own_acmpne_t (H : own_Ok B Z a0 l R y code N ret) {x z : Value} {o : Int} (hd : decode code pc = .ok (.if_acmp .ne o, 3)) (ho : 0 ≤ (pc : Int) + o) (hp : ((pc : Int) + o).toNat = pc') (h1 : x.isRef = true) (h2 : z.isRef = true) (hq : ¬ x = z) (k : own_G B n0 Q kc ks cells slots h pc' Ls st) : own_G B n0 Q kc ks cells slots h pc Ls (z :: x :: st) := by
  obtain ⟨p, l, e, R, s, m, args, below, meth, c⟩ := B
  obtain ⟨rfl, rfl, hx, hZ, hown, hby, hml, hrt, hlk, hnm, hw⟩ := H
  intro T locs c1 s1 X F hc hs eT
  exact own_go (fun t q => XT.acmpYes X.here hx rfl rfl (hb hby hd) rfl h1 h2 (XT.aa_ne_t hq) ho hp q) (k T locs c1 s1 X F hc hs eT)
theorem own_acmpne_f (H : own_Ok B Z a0 l R y code N ret) {x z : Value} {o : Int} (hd : decode code pc = .ok (.if_acmp .ne o, 3)) (h1 : x.isRef = true) (h2 : z.isRef = true) (hq : x = z) (k : own_G B n0 Q kc ks cells slots h (pc + 3) Ls st) : own_G B n0 Q kc ks cells slots h pc Ls (z :: x :: st) := by
  obtain ⟨p, l, e, R, s, m, args, below, meth, c⟩ := B
  obtain ⟨rfl, rfl, hx, hZ, hown, hby, hml, hrt, hlk, hnm, hw⟩ := H
  intro T locs c1 s1 X F hc hs eT
  exact own_go (fun t q => XT.acmpNo X.here hx rfl (hb hby hd) rfl h1 h2 (XT.aa_ne_f hq) q) (k T locs c1 s1 X F hc hs eT)
theorem own_ifnull_t (H : own_Ok B Z a0 l R y code N ret) {x : Value} {o : Int} (hd : decode code pc = .ok (.ifnull o, 3)) (ho : 0 ≤ (pc : Int) + o) (hp : ((pc : Int) + o).toNat = pc') (h1 : x.isRef = true) (hq : x = .null) (k : own_G B n0 Q kc ks cells slots h pc' Ls st) : own_G B n0 Q kc ks cells slots h pc Ls (x :: st) := by
  obtain ⟨p, l, e, R, s, m, args, below, meth, c⟩ := B
  obtain ⟨rfl, rfl, hx, hZ, hown, hby, hml, hrt, hlk, hnm, hw⟩ := H
  intro T locs c1 s1 X F hc hs eT
  exact own_go (fun t q => XT.nullYes X.here hx rfl rfl (hb hby hd) rfl hq ho hp q) (k T locs c1 s1 X F hc hs eT)
theorem own_ifnull_f (H : own_Ok B Z a0 l R y code N ret) {x : Value} {o : Int} (hd : decode code pc = .ok (.ifnull o, 3)) (h1 : x.isRef = true) (hq : ¬ x = .null) (k : own_G B n0 Q kc ks cells slots h (pc + 3) Ls st) : own_G B n0 Q kc ks cells slots h pc Ls (x :: st) := by
  obtain ⟨p, l, e, R, s, m, args, below, meth, c⟩ := B
  obtain ⟨rfl, rfl, hx, hZ, hown, hby, hml, hrt, hlk, hnm, hw⟩ := H
  intro T locs c1 s1 X F hc hs eT
  exact own_go (fun t q => XT.nullNo X.here hx rfl (hb hby hd) rfl h1 hq q) (k T locs c1 s1 X F hc hs eT)
theorem own_ifnonnull_t (H : own_Ok B Z a0 l R y code N ret) {x : Value} {o : Int} (hd : decode code pc = .ok (.ifnonnull o, 3)) (ho : 0 ≤ (pc : Int) + o) (hp : ((pc : Int) + o).toNat = pc') (h1 : x.isRef = true) (hq : ¬ x = .null) (k : own_G B n0 Q kc ks cells slots h pc' Ls st) : own_G B n0 Q kc ks cells slots h pc Ls (x :: st) := by
  obtain ⟨p, l, e, R, s, m, args, below, meth, c⟩ := B
  obtain ⟨rfl, rfl, hx, hZ, hown, hby, hml, hrt, hlk, hnm, hw⟩ := H
  intro T locs c1 s1 X F hc hs eT
  exact own_go (fun t q => XT.nonnullYes X.here hx rfl rfl (hb hby hd) rfl h1 hq ho hp q) (k T locs c1 s1 X F hc hs eT)
theorem own_ifnonnull_f (H : own_Ok B Z a0 l R y code N ret) {x : Value} {o : Int} (hd : decode code pc = .ok (.ifnonnull o, 3)) (h1 : x.isRef = true) (hq : x = .null) (k : own_G B n0 Q kc ks cells slots h (pc + 3) Ls st) : own_G B n0 Q kc ks cells slots h pc Ls (x :: st) := by
  obtain ⟨p, l, e, R, s, m, args, below, meth, c⟩ := B
  obtain ⟨rfl, rfl, hx, hZ, hown, hby, hml, hrt, hlk, hnm, hw⟩ := H
  intro T locs c1 s1 X F hc hs eT
  exact own_go (fun t q => XT.nonnullNo X.here hx rfl (hb hby hd) rfl hq q) (k T locs c1 s1 X F hc hs eT)
theorem own_ldcI (H : own_Ok B Z a0 l R y code N ret) {i w : Nat} {v : Int32} (q : tables_1[w]? = some (Jvm.Cond.constant y.cls i v)) (hd : decode code pc = .ok (.ldc i, 2)) (k : own_G B n0 Q kc ks cells slots h (pc + 2) Ls (.int v :: st)) : own_G B n0 Q kc ks cells slots h pc Ls st := by
  obtain ⟨p, l, e, R, s, m, args, below, meth, c⟩ := B
  obtain ⟨rfl, rfl, hx, hZ, hown, hby, hml, hrt, hlk, hnm, hw⟩ := H
  intro T locs c1 s1 X F hc hs eT
  exact own_go (fun t r => X.ldcInt hx hown (mvT hZ (hw _ _ q)) (g := mkF m pc Ls st) rfl (hb hby hd) _ r) (k T locs c1 s1 X F hc hs eT)
theorem own_ldcwI (H : own_Ok B Z a0 l R y code N ret) {i w : Nat} {v : Int32} (q : tables_1[w]? = some (Jvm.Cond.constant y.cls i v)) (hd : decode code pc = .ok (.ldc_w i, 3)) (k : own_G B n0 Q kc ks cells slots h (pc + 3) Ls (.int v :: st)) : own_G B n0 Q kc ks cells slots h pc Ls st := by
  obtain ⟨p, l, e, R, s, m, args, below, meth, c⟩ := B
  obtain ⟨rfl, rfl, hx, hZ, hown, hby, hml, hrt, hlk, hnm, hw⟩ := H
  intro T locs c1 s1 X F hc hs eT
  exact own_go (fun t r => X.ldcwInt hx hown (mvT hZ (hw _ _ q)) (g := mkF m pc Ls st) rfl (hb hby hd) _ r) (k T locs c1 s1 X F hc hs eT)
theorem own_ldc2J (H : own_Ok B Z a0 l R y code N ret) {i w : Nat} {v : Int64} (q : tables_1[w]? = some (Jvm.Cond.constantLong y.cls i v)) (hd : decode code pc = .ok (.ldc2_w i, 3)) (k : own_G B n0 Q kc ks cells slots h (pc + 3) Ls (.long v :: st)) : own_G B n0 Q kc ks cells slots h pc Ls st := by
  obtain ⟨p, l, e, R, s, m, args, below, meth, c⟩ := B
  obtain ⟨rfl, rfl, hx, hZ, hown, hby, hml, hrt, hlk, hnm, hw⟩ := H
  intro T locs c1 s1 X F hc hs eT
  exact own_go (fun t r => X.ldc2Long hx hown (mvT hZ (hw _ _ q)) (g := mkF m pc Ls st) rfl (hb hby hd) _ r) (k T locs c1 s1 X F hc hs eT)
theorem own_ireturn {t : FieldType} (H : own_Ok B Z a0 l R y code N (some t)) {z : Int32} (ht : t = .int ∨ t = .boolean ∨ t = .byte ∨ t = .char ∨ t = .short) (hn : narrow t (.int z) = .int z) (hd : decode code pc = .ok (.ireturn, 1)) (hkc : cells ≤ kc) (hks : slots ≤ ks) (hQ : Q (some (.int z)) h) : own_G B n0 Q kc ks cells slots h pc Ls (.int z :: st) := by
  obtain ⟨p, l, e, R, s, m, args, below, meth, c⟩ := B
  obtain ⟨rfl, rfl, hx, hZ, hown, hby, hml, hrt, hlk, hnm, hw⟩ := H
  intro T locs c1 s1 X F hc hs eT
  obtain ⟨fs, hr, hrun, hended, hW, hsame⟩ := X.leave (v := some (.int z)) (fun h => by rw [hrt] at h; cases h) hlk
  exact ⟨_, _, retOut X hx hrt hn (Or.inl ⟨rfl, ht, _, rfl⟩) (hb hby hd) hr, hrun, hended, _, _, rfl, ⟨by show Q _ T.heap; rw [eT]; exact hQ, F⟩, ⟨_, rfl⟩, hW, hsame.mono (Nat.le_trans hc hkc) (Nat.le_trans hs hks)⟩
theorem own_lreturn (H : own_Ok B Z a0 l R y code N (some .long)) {z : Int64} (hd : decode code pc = .ok (.lreturn, 1)) (hkc : cells ≤ kc) (hks : slots ≤ ks) (hQ : Q (some (.long z)) h) : own_G B n0 Q kc ks cells slots h pc Ls (.long z :: st) := by
  obtain ⟨p, l, e, R, s, m, args, below, meth, c⟩ := B
  obtain ⟨rfl, rfl, hx, hZ, hown, hby, hml, hrt, hlk, hnm, hw⟩ := H
  intro T locs c1 s1 X F hc hs eT
  obtain ⟨fs, hr, hrun, hended, hW, hsame⟩ := X.leave (v := some (.long z)) (fun h => by rw [hrt] at h; cases h) hlk
  exact ⟨_, _, retOut X hx hrt rfl (Or.inr (Or.inl ⟨rfl, rfl, _, rfl⟩)) (hb hby hd) hr, hrun, hended, _, _, rfl, ⟨by show Q _ T.heap; rw [eT]; exact hQ, F⟩, ⟨_, rfl⟩, hW, hsame.mono (Nat.le_trans hc hkc) (Nat.le_trans hs hks)⟩
theorem own_areturn {t : FieldType} (H : own_Ok B Z a0 l R y code N (some t)) (ht : t.isReference = true) {z : Value} (hz : z.isRef = true) (hn : narrow t z = z) (hd : decode code pc = .ok (.areturn, 1)) (hkc : cells ≤ kc) (hks : slots ≤ ks) (hQ : Q (some z) h) : own_G B n0 Q kc ks cells slots h pc Ls (z :: st) := by
  obtain ⟨p, l, e, R, s, m, args, below, meth, c⟩ := B
  obtain ⟨rfl, rfl, hx, hZ, hown, hby, hml, hrt, hlk, hnm, hw⟩ := H
  intro T locs c1 s1 X F hc hs eT
  obtain ⟨fs, hr, hrun, hended, hW, hsame⟩ := X.leave (v := some z) (fun h => by rw [hrt] at h; cases h) hlk
  exact ⟨_, _, retOut X hx hrt hn (Or.inr (Or.inr (Or.inr (Or.inr ⟨rfl, ht, hz⟩)))) (hb hby hd) hr, hrun, hended, _, _, rfl, ⟨by show Q _ T.heap; rw [eT]; exact hQ, F⟩, ⟨_, rfl⟩, hW, hsame.mono (Nat.le_trans hc hkc) (Nat.le_trans hs hks)⟩
theorem own_return (H : own_Ok B Z a0 l R y code N none) (hd : decode code pc = .ok (.return_, 1)) (hkc : cells ≤ kc) (hks : slots ≤ ks) (hQ : Q none h) : own_G B n0 Q kc ks cells slots h pc Ls [] := by
  obtain ⟨p, l, e, R, s, m, args, below, meth, c⟩ := B
  obtain ⟨rfl, rfl, hx, hZ, hown, hby, hml, hrt, hlk, hnm, hw⟩ := H
  intro T locs c1 s1 X F hc hs eT
  obtain ⟨fs, hr, hrun, hended, hW, hsame⟩ := X.leave (v := none) (fun h => rfl) hlk
  exact ⟨_, _, X.returnOut hx hrt (hb hby hd) hr, hrun, hended, _, _, rfl, ⟨by show Q _ T.heap; rw [eT]; exact hQ, F⟩, ⟨_, rfl⟩, hW, hsame.mono (Nat.le_trans hc hkc) (Nat.le_trans hs hks)⟩
theorem own_getfield (H : own_Ok B Z a0 l R y code N ret) {O n d : String} {i w : Nat} (q : tables_1[w]? = some (Jvm.Cond.fieldLink y.cls i O n d)) {a : Addr} {v : Value} (Fd : Fld Z h a O n d v) (hd : decode code pc = .ok (.getfield i, 3)) (k : own_G B n0 Q kc ks cells slots h (pc + 3) Ls (v :: st)) : own_G B n0 Q kc ks cells slots h pc Ls (.ref a :: st) := by
  obtain ⟨p, l, e, R, s, m, args, below, meth, c⟩ := B
  obtain ⟨rfl, rfl, hx, hZ, hown, hby, hml, hrt, hlk, hnm, hw⟩ := H
  intro T locs c1 s1 X F hc hs eT
  obtain ⟨T', X', e', s'⟩ := getF X hx hZ hown (host := "") (Or.inl (hw _ _ q)) Via.refl eT Fd (g := mkF m pc Ls (.ref a :: st)) rfl rfl (hb hby hd)
  exact own_go s' (k T' locs c1 s1 X' F hc hs e')
theorem own_getstatic (H : own_Ok B Z a0 l R y code N ret) {O n d : String} {i w : Nat} (q : tables_1[w]? = some (Jvm.Cond.fieldLink y.cls i O n d)) {v : Value} (Fd : Sta Z h O n d v) (hd : decode code pc = .ok (.getstatic i, 3)) (k : own_G B n0 Q kc ks cells slots h (pc + 3) Ls (v :: st)) : own_G B n0 Q kc ks cells slots h pc Ls st := by
  obtain ⟨p, l, e, R, s, m, args, below, meth, c⟩ := B
  obtain ⟨rfl, rfl, hx, hZ, hown, hby, hml, hrt, hlk, hnm, hw⟩ := H
  intro T locs c1 s1 X F hc hs eT
  obtain ⟨T', X', e', s'⟩ := getS X hx hZ hown (host := "") (hw _ _ q) Via.refl eT Fd (g := mkF m pc Ls st) rfl (hb hby hd)
  exact own_go s' (k T' locs c1 s1 X' F hc hs e')
theorem own_putfield (H : own_Ok B Z a0 l R y code N ret) {O n d C : String} {i w wi kk : Nat} {ty : FieldType} (q : tables_1[w]? = some (Jvm.Cond.fieldLink y.cls i O n d)) {a : Addr} {v old : Value} (Fd : Fld Z h a O n d old) (E : Exa Z h a C) (ha : n0 ≤ a)
    (Lw : (Jvm.Cond.lays C O n d).before a0 Z = true ∨ ((Jvm.Cond.laysFinal C O n d).before a0 Z = true ∧ y.cls = O ∧ y.name = "<init>")) (qi : tables_1[wi]? = some (Jvm.Cond.instantiable C kk)) (hty : parseFieldDescriptor d = some ty) (hn : narrow ty v = v) (hf : fits ty v = true)
    (hd : decode code pc = .ok (.putfield i, 3)) (k : ∀ h', Wr h h' a (Jvm.RoadKit.slotOf Z O n d) v → own_G B n0 Q kc ks cells slots h' (pc + 3) Ls st) : own_G B n0 Q kc ks cells slots h pc Ls (v :: .ref a :: st) := by
  obtain ⟨p, l, e, R, s, m, args, below, meth, c⟩ := B
  obtain ⟨rfl, rfl, hx, hZ, hown, hby, hml, hrt, hlk, hnm, hw⟩ := H
  intro T locs c1 s1 X F hc hs eT
  obtain ⟨T', h', X', e', W', s'⟩ := putF X hx hZ hown (host := "") (Or.inl (hw _ _ q)) Via.refl eT Fd E (Lw.imp id fun z => ⟨z.1, z.2.1, hnm.trans z.2.2⟩) (hw _ _ qi) hty hn hf (g := mkF m pc Ls (v :: .ref a :: st)) rfl rfl (hb hby hd)
  exact own_go s' (k h' W' T' _ c1 s1 X' (Fr.snoc X' F ha) hc hs e')
theorem own_new (H : own_Ok B Z a0 l R y code N ret) {C : String} {i n w wi wz : Nat} (q : tables_1[w]? = some (Jvm.Cond.classLink y.cls i C)) (qi : tables_1[wi]? = some (Jvm.Cond.instantiable C n)) (qz : tables_1[wz]? = some (Jvm.Cond.initialized C)) (hd : decode code pc = .ok (.new i, 3)) (hkc : cells + 1 ≤ R.cells) (hks : slots + n ≤ R.slots)
    (k : ∀ h' a, a = h.size → Ext h h' → Exa Z h' a C → (∀ {O nm d : String} {ty : FieldType}, Laid Z a0 C O nm d → parseFieldDescriptor d = some ty → Fld Z h' a O nm d (defaultValue ty)) → own_G B n0 Q kc ks (cells + 1) (slots + n) h' (pc + 3) Ls (.ref a :: st)) : own_G B n0 Q kc ks cells slots h pc Ls st := by
  obtain ⟨p, l, e, R, s, m, args, below, meth, c⟩ := B
  obtain ⟨rfl, rfl, hx, hZ, hown, hby, hml, hrt, hlk, hnm, hw⟩ := H
  intro T locs c1 s1 X F hc hs eT
  obtain ⟨T', h', X', e', E', A', D', -, s'⟩ := newO X hx hZ hown (hw _ _ q) (hw _ _ qi) (hw _ _ qz) eT (g := mkF m pc Ls st) rfl (hb hby hd) (Nat.le_trans (Nat.add_le_add_right hc 1) hkc) (Nat.le_trans (Nat.add_le_add_right hs n) hks)
  exact own_go s' (k h' h.size rfl E' A' D' T' locs _ _ X' F (Nat.add_le_add_right hc 1) (Nat.add_le_add_right hs n) e')
theorem own_newarray (H : own_Ok B Z a0 l R y code N ret) {aty : ArrayType} {w : Nat} (q : tables_1[w]? = some (Jvm.Cond.arrayClass (newarray.typeOf aty))) {n : Int32} (hn : ¬ n < 0) (cap : Nat) (hcap : n.toNatClampNeg ≤ cap) (hcb : cap * 8 ≤ 536870912) (hd : decode code pc = .ok (.newarray aty, 2)) (hkc : cells + 1 ≤ R.cells) (hks : slots + cap ≤ R.slots)
    (k : ∀ h' a kA, a = h.size → Ext h h' → Arv Z h' a kA (newarray.typeOf aty) n [] (defaultValue (newarray.typeOf aty)) → own_G B n0 Q kc ks (cells + 1) (slots + cap) h' (pc + 2) Ls (.ref a :: st)) : own_G B n0 Q kc ks cells slots h pc Ls (.int n :: st) := by
  obtain ⟨p, l, e, R, s, m, args, below, meth, c⟩ := B
  obtain ⟨rfl, rfl, hx, hZ, hown, hby, hml, hrt, hlk, hnm, hw⟩ := H
  intro T locs c1 s1 X F hc hs eT
  obtain ⟨T', h', kA, X', e', E', A', s'⟩ := newP X hx hZ (hw _ _ q) eT (g := mkF m pc Ls (.int n :: st)) rfl (hb hby hd) rfl hn hcap hcb (Nat.le_trans (Nat.add_le_add_right hc 1) hkc) (Nat.le_trans (Nat.add_le_add_right hs cap) hks)
  exact own_go s' (k h' h.size kA rfl E' (Arv.new A' hn) T' locs _ _ X' F (Nat.add_le_add_right hc 1) (Nat.add_le_add_right hs cap) e')
theorem own_anewarray (H : own_Ok B Z a0 l R y code N ret) {C : String} {i w w2 : Nat} (q : tables_1[w]? = some (Jvm.Cond.classLink y.cls i C)) (q2 : tables_1[w2]? = some (Jvm.Cond.arrayOver (.object C))) {n : Int32} (hn : ¬ n < 0) (cap : Nat) (hcap : n.toNatClampNeg ≤ cap) (hcb : cap * 8 ≤ 536870912) (hd : decode code pc = .ok (.anewarray i, 3)) (hkc : cells + 1 ≤ R.cells) (hks : slots + cap ≤ R.slots)
    (k : ∀ h' a kA, a = h.size → Ext h h' → Arv Z h' a kA (.object C) n [] .null → Ovr Z kA C → own_G B n0 Q kc ks (cells + 1) (slots + cap) h' (pc + 3) Ls (.ref a :: st)) : own_G B n0 Q kc ks cells slots h pc Ls (.int n :: st) := by
  obtain ⟨p, l, e, R, s, m, args, below, meth, c⟩ := B
  obtain ⟨rfl, rfl, hx, hZ, hown, hby, hml, hrt, hlk, hnm, hw⟩ := H
  intro T locs c1 s1 X F hc hs eT
  obtain ⟨T', h', kA, X', e', E', A', O', s'⟩ := newR X hx hZ hown (hw _ _ q) (hw _ _ q2) eT (g := mkF m pc Ls (.int n :: st)) rfl (hb hby hd) rfl hn hcap hcb (Nat.le_trans (Nat.add_le_add_right hc 1) hkc) (Nat.le_trans (Nat.add_le_add_right hs cap) hks)
  exact own_go s' (k h' h.size kA rfl E' (Arv.new A' hn) O' T' locs _ _ X' F (Nat.add_le_add_right hc 1) (Nat.add_le_add_right hs cap) e')
theorem own_iaload (H : own_Ok B Z a0 l R y code N ret) {a : Addr} {cl : Cell} {j : Int32} {v : Value} (A : Arr Z h a cl .int) (hin : ¬ (j < 0 ∨ cl.slots.size ≤ j.toNatClampNeg)) (hv : cl.slots[j.toNatClampNeg]? = some v) (hd : decode code pc = .ok (.iaload, 1)) (k : own_G B n0 Q kc ks cells slots h (pc + 1) Ls (v :: st)) : own_G B n0 Q kc ks cells slots h pc Ls (.int j :: .ref a :: st) := by
  obtain ⟨p, l, e, R, s, m, args, below, meth, c⟩ := B
  obtain ⟨rfl, rfl, hx, hZ, hown, hby, hml, hrt, hlk, hnm, hw⟩ := H
  intro T locs c1 s1 X F hc hs eT
  exact own_go (fun t r => X.iaload hx (j := j) (v := v) (by rw [eT]; exact A.1) (State.isArrayOf_alike hZ.alike A.2.1) A.2.2 hin hv (g := mkF m pc Ls (.int j :: .ref a :: st)) rfl rfl (hb hby hd) _ r) (k T locs c1 s1 X F hc hs eT)
theorem own_laload (H : own_Ok B Z a0 l R y code N ret) {a : Addr} {cl : Cell} {j : Int32} {v : Value} (A : Arr Z h a cl .long) (hin : ¬ (j < 0 ∨ cl.slots.size ≤ j.toNatClampNeg)) (hv : cl.slots[j.toNatClampNeg]? = some v) (hd : decode code pc = .ok (.laload, 1)) (k : own_G B n0 Q kc ks cells slots h (pc + 1) Ls (v :: st)) : own_G B n0 Q kc ks cells slots h pc Ls (.int j :: .ref a :: st) := by
  obtain ⟨p, l, e, R, s, m, args, below, meth, c⟩ := B
  obtain ⟨rfl, rfl, hx, hZ, hown, hby, hml, hrt, hlk, hnm, hw⟩ := H
  intro T locs c1 s1 X F hc hs eT
  exact own_go (fun t r => X.laload hx (j := j) (v := v) (by rw [eT]; exact A.1) (State.isArrayOf_alike hZ.alike A.2.1) A.2.2 hin hv (g := mkF m pc Ls (.int j :: .ref a :: st)) rfl rfl (hb hby hd) _ r) (k T locs c1 s1 X F hc hs eT)
theorem own_caload (H : own_Ok B Z a0 l R y code N ret) {a : Addr} {cl : Cell} {j : Int32} {v : Value} (A : Arr Z h a cl .char) (hin : ¬ (j < 0 ∨ cl.slots.size ≤ j.toNatClampNeg)) (hv : cl.slots[j.toNatClampNeg]? = some v) (hd : decode code pc = .ok (.caload, 1)) (k : own_G B n0 Q kc ks cells slots h (pc + 1) Ls (v :: st)) : own_G B n0 Q kc ks cells slots h pc Ls (.int j :: .ref a :: st) := by
  obtain ⟨p, l, e, R, s, m, args, below, meth, c⟩ := B
  obtain ⟨rfl, rfl, hx, hZ, hown, hby, hml, hrt, hlk, hnm, hw⟩ := H
  intro T locs c1 s1 X F hc hs eT
  exact own_go (fun t r => X.caload hx (j := j) (v := v) (by rw [eT]; exact A.1) (State.isArrayOf_alike hZ.alike A.2.1) A.2.2 hin hv (g := mkF m pc Ls (.int j :: .ref a :: st)) rfl rfl (hb hby hd) _ r) (k T locs c1 s1 X F hc hs eT)
theorem own_baload (H : own_Ok B Z a0 l R y code N ret) {a : Addr} {cl : Cell} {j : Int32} {v : Value} (A : Arr Z h a cl .byte) (hin : ¬ (j < 0 ∨ cl.slots.size ≤ j.toNatClampNeg)) (hv : cl.slots[j.toNatClampNeg]? = some v) (hd : decode code pc = .ok (.baload, 1)) (k : own_G B n0 Q kc ks cells slots h (pc + 1) Ls (v :: st)) : own_G B n0 Q kc ks cells slots h pc Ls (.int j :: .ref a :: st) := by
  obtain ⟨p, l, e, R, s, m, args, below, meth, c⟩ := B
  obtain ⟨rfl, rfl, hx, hZ, hown, hby, hml, hrt, hlk, hnm, hw⟩ := H
  intro T locs c1 s1 X F hc hs eT
  exact own_go (fun t r => X.baloadBytes hx (j := j) (v := v) (by rw [eT]; exact A.1) (State.isArrayOf_alike hZ.alike A.2.1) A.2.2 hin hv (g := mkF m pc Ls (.int j :: .ref a :: st)) rfl rfl (hb hby hd) _ r) (k T locs c1 s1 X F hc hs eT)
theorem own_aaload (H : own_Ok B Z a0 l R y code N ret) {a : Addr} {cl : Cell} {ty : FieldType} {j : Int32} {v : Value} (A : Arr Z h a cl ty) (hty : ty.isReference = true) (hin : ¬ (j < 0 ∨ cl.slots.size ≤ j.toNatClampNeg)) (hv : cl.slots[j.toNatClampNeg]? = some v) (hd : decode code pc = .ok (.aaload, 1)) (k : own_G B n0 Q kc ks cells slots h (pc + 1) Ls (v :: st)) : own_G B n0 Q kc ks cells slots h pc Ls (.int j :: .ref a :: st) := by
  obtain ⟨p, l, e, R, s, m, args, below, meth, c⟩ := B
  obtain ⟨rfl, rfl, hx, hZ, hown, hby, hml, hrt, hlk, hnm, hw⟩ := H
  intro T locs c1 s1 X F hc hs eT
  exact own_go (fun t r => X.aaload hx (j := j) (v := v) (by rw [eT]; exact A.1) (State.isArrayOf_alike hZ.alike A.2.1) hty A.2.2 hin hv (g := mkF m pc Ls (.int j :: .ref a :: st)) rfl rfl (hb hby hd) _ r) (k T locs c1 s1 X F hc hs eT)
theorem own_arraylength (H : own_Ok B Z a0 l R y code N ret) {a : Addr} {cl : Cell} {ty : FieldType} {z : Int32} (A : Arr Z h a cl ty) (S : cl.slots.size = z.toNatClampNeg) (hz : ¬ z < 0) (hd : decode code pc = .ok (.arraylength, 1)) (k : own_G B n0 Q kc ks cells slots h (pc + 1) Ls (.int z :: st)) : own_G B n0 Q kc ks cells slots h pc Ls (.ref a :: st) := by
  obtain ⟨p, l, e, R, s, m, args, below, meth, c⟩ := B
  obtain ⟨rfl, rfl, hx, hZ, hown, hby, hml, hrt, hlk, hnm, hw⟩ := H
  intro T locs c1 s1 X F hc hs eT
  refine own_go (fun t r => X.arraylength hx (by rw [eT]; exact A.1) (State.isArrayOf_alike hZ.alike A.2.1) (g := mkF m pc Ls (.ref a :: st)) rfl rfl (hb hby hd) _ r) ?_
  rw [len_of S hz]
  exact k T locs c1 s1 X F hc hs eT
theorem own_iastore (H : own_Ok B Z a0 l R y code N ret) {a : Addr} {cl : Cell} {j : Int32} {x : Int32} (A : Arr Z h a cl .int) (hin : ¬ (j < 0 ∨ cl.slots.size ≤ j.toNatClampNeg)) (ha : n0 ≤ a) (hd : decode code pc = .ok (.iastore, 1)) (k : ∀ h', Wr h h' a j.toNatClampNeg (.int x) → own_G B n0 Q kc ks cells slots h' (pc + 1) Ls st) : own_G B n0 Q kc ks cells slots h pc Ls (.int x :: .int j :: .ref a :: st) := by
  obtain ⟨p, l, e, R, s, m, args, below, meth, c⟩ := B
  obtain ⟨rfl, rfl, hx, hZ, hown, hby, hml, hrt, hlk, hnm, hw⟩ := H
  intro T locs c1 s1 X F hc hs eT
  obtain ⟨T', h', X', e', W', s'⟩ := stI X hx hZ eT A hin (g := mkF m pc Ls (.int x :: .int j :: .ref a :: st)) rfl rfl (hb hby hd)
  exact own_go s' (k h' W' T' _ c1 s1 X' (Fr.snoc X' F ha) hc hs e')
theorem own_lastore (H : own_Ok B Z a0 l R y code N ret) {a : Addr} {cl : Cell} {j : Int32} {x : Int64} (A : Arr Z h a cl .long) (hin : ¬ (j < 0 ∨ cl.slots.size ≤ j.toNatClampNeg)) (ha : n0 ≤ a) (hd : decode code pc = .ok (.lastore, 1)) (k : ∀ h', Wr h h' a j.toNatClampNeg (.long x) → own_G B n0 Q kc ks cells slots h' (pc + 1) Ls st) : own_G B n0 Q kc ks cells slots h pc Ls (.long x :: .int j :: .ref a :: st) := by
  obtain ⟨p, l, e, R, s, m, args, below, meth, c⟩ := B
  obtain ⟨rfl, rfl, hx, hZ, hown, hby, hml, hrt, hlk, hnm, hw⟩ := H
  intro T locs c1 s1 X F hc hs eT
  obtain ⟨T', h', X', e', W', s'⟩ := stJ X hx hZ eT A hin (g := mkF m pc Ls (.long x :: .int j :: .ref a :: st)) rfl rfl (hb hby hd)
  exact own_go s' (k h' W' T' _ c1 s1 X' (Fr.snoc X' F ha) hc hs e')
theorem own_bastore (H : own_Ok B Z a0 l R y code N ret) {a : Addr} {cl : Cell} {j : Int32} {x : Int32} (A : Arr Z h a cl .byte) (hin : ¬ (j < 0 ∨ cl.slots.size ≤ j.toNatClampNeg)) (ha : n0 ≤ a) (hd : decode code pc = .ok (.bastore, 1)) (k : ∀ h', Wr h h' a j.toNatClampNeg (.int (nar .byte x)) → own_G B n0 Q kc ks cells slots h' (pc + 1) Ls st) : own_G B n0 Q kc ks cells slots h pc Ls (.int x :: .int j :: .ref a :: st) := by
  obtain ⟨p, l, e, R, s, m, args, below, meth, c⟩ := B
  obtain ⟨rfl, rfl, hx, hZ, hown, hby, hml, hrt, hlk, hnm, hw⟩ := H
  intro T locs c1 s1 X F hc hs eT
  obtain ⟨T', h', X', e', W', s'⟩ := stB X hx hZ eT A hin (g := mkF m pc Ls (.int x :: .int j :: .ref a :: st)) rfl rfl (hb hby hd)
  exact own_go s' (k h' W' T' _ c1 s1 X' (Fr.snoc X' F ha) hc hs e')
theorem own_castore (H : own_Ok B Z a0 l R y code N ret) {a : Addr} {cl : Cell} {j : Int32} {x : Int32} (A : Arr Z h a cl .char) (hin : ¬ (j < 0 ∨ cl.slots.size ≤ j.toNatClampNeg)) (ha : n0 ≤ a) (hd : decode code pc = .ok (.castore, 1)) (k : ∀ h', Wr h h' a j.toNatClampNeg (.int (nar .char x)) → own_G B n0 Q kc ks cells slots h' (pc + 1) Ls st) : own_G B n0 Q kc ks cells slots h pc Ls (.int x :: .int j :: .ref a :: st) := by
  obtain ⟨p, l, e, R, s, m, args, below, meth, c⟩ := B
  obtain ⟨rfl, rfl, hx, hZ, hown, hby, hml, hrt, hlk, hnm, hw⟩ := H
  intro T locs c1 s1 X F hc hs eT
  obtain ⟨T', h', X', e', W', s'⟩ := stC X hx hZ eT A hin (g := mkF m pc Ls (.int x :: .int j :: .ref a :: st)) rfl rfl (hb hby hd)
  exact own_go s' (k h' W' T' _ c1 s1 X' (Fr.snoc X' F ha) hc hs e')
theorem own_ialoadV (H : own_Ok B Z a0 l R y code N ret) {a : Addr} {kA : ClassId} {n j : Int32} {vs : List Value} {dv v : Value} (V : Arv Z h a kA .int n vs dv) (h1 : ¬ j < 0) (h2 : j < n) (hv : vs.getD j.toNatClampNeg dv = v) (hd : decode code pc = .ok (.iaload, 1)) (k : own_G B n0 Q kc ks cells slots h (pc + 1) Ls (v :: st)) : own_G B n0 Q kc ks cells slots h pc Ls (.int j :: .ref a :: st) := by
  obtain ⟨cl, A, -, S, M, Hs, -⟩ := V
  exact own_iaload H A (inb_of S ⟨h1, h2⟩) (Hs.at (inb_of S ⟨h1, h2⟩) hv) hd k
theorem own_laloadV (H : own_Ok B Z a0 l R y code N ret) {a : Addr} {kA : ClassId} {n j : Int32} {vs : List Value} {dv v : Value} (V : Arv Z h a kA .long n vs dv) (h1 : ¬ j < 0) (h2 : j < n) (hv : vs.getD j.toNatClampNeg dv = v) (hd : decode code pc = .ok (.laload, 1)) (k : own_G B n0 Q kc ks cells slots h (pc + 1) Ls (v :: st)) : own_G B n0 Q kc ks cells slots h pc Ls (.int j :: .ref a :: st) := by
  obtain ⟨cl, A, -, S, M, Hs, -⟩ := V
  exact own_laload H A (inb_of S ⟨h1, h2⟩) (Hs.at (inb_of S ⟨h1, h2⟩) hv) hd k
theorem own_caloadV (H : own_Ok B Z a0 l R y code N ret) {a : Addr} {kA : ClassId} {n j : Int32} {vs : List Value} {dv v : Value} (V : Arv Z h a kA .char n vs dv) (h1 : ¬ j < 0) (h2 : j < n) (hv : vs.getD j.toNatClampNeg dv = v) (hd : decode code pc = .ok (.caload, 1)) (k : own_G B n0 Q kc ks cells slots h (pc + 1) Ls (v :: st)) : own_G B n0 Q kc ks cells slots h pc Ls (.int j :: .ref a :: st) := by
  obtain ⟨cl, A, -, S, M, Hs, -⟩ := V
  exact own_caload H A (inb_of S ⟨h1, h2⟩) (Hs.at (inb_of S ⟨h1, h2⟩) hv) hd k
theorem own_baloadV (H : own_Ok B Z a0 l R y code N ret) {a : Addr} {kA : ClassId} {n j : Int32} {vs : List Value} {dv v : Value} (V : Arv Z h a kA .byte n vs dv) (h1 : ¬ j < 0) (h2 : j < n) (hv : vs.getD j.toNatClampNeg dv = v) (hd : decode code pc = .ok (.baload, 1)) (k : own_G B n0 Q kc ks cells slots h (pc + 1) Ls (v :: st)) : own_G B n0 Q kc ks cells slots h pc Ls (.int j :: .ref a :: st) := by
  obtain ⟨cl, A, -, S, M, Hs, -⟩ := V
  exact own_baload H A (inb_of S ⟨h1, h2⟩) (Hs.at (inb_of S ⟨h1, h2⟩) hv) hd k
theorem own_aaloadV (H : own_Ok B Z a0 l R y code N ret) {a : Addr} {kA : ClassId} {ty : FieldType} {n j : Int32} {vs : List Value} {dv v : Value} (V : Arv Z h a kA ty n vs dv) (hty : ty.isReference = true) (h1 : ¬ j < 0) (h2 : j < n) (hv : vs.getD j.toNatClampNeg dv = v) (hd : decode code pc = .ok (.aaload, 1)) (k : own_G B n0 Q kc ks cells slots h (pc + 1) Ls (v :: st)) : own_G B n0 Q kc ks cells slots h pc Ls (.int j :: .ref a :: st) := by
  obtain ⟨cl, A, -, S, M, Hs, -⟩ := V
  exact own_aaload H A hty (inb_of S ⟨h1, h2⟩) (Hs.at (inb_of S ⟨h1, h2⟩) hv) hd k
theorem own_arraylengthV (H : own_Ok B Z a0 l R y code N ret) {a : Addr} {kA : ClassId} {ty : FieldType} {n : Int32} {vs : List Value} {dv : Value} (V : Arv Z h a kA ty n vs dv) (hd : decode code pc = .ok (.arraylength, 1)) (k : own_G B n0 Q kc ks cells slots h (pc + 1) Ls (.int n :: st)) : own_G B n0 Q kc ks cells slots h pc Ls (.ref a :: st) := by
  obtain ⟨cl, A, -, S, M, -, -⟩ := V
  exact own_arraylength H A S M hd k
theorem own_iastoreV (H : own_Ok B Z a0 l R y code N ret) {a : Addr} {kA : ClassId} {n j : Int32} {vs : List Value} {dv u : Value} {x : Int32} (V : Arv Z h a kA .int n vs dv) (h1 : ¬ j < 0) (h2 : j < n) (i : Nat) (hj : j.toNatClampNeg = i) (hi : i < vs.length) (ha : n0 ≤ a) (hu : (.int x) = u) (hd : decode code pc = .ok (.iastore, 1)) (k : ∀ h', Wr h h' a j.toNatClampNeg u → Arv Z h' a kA .int n (vs.set i u) dv → own_G B n0 Q kc ks cells slots h' (pc + 1) Ls st) : own_G B n0 Q kc ks cells slots h pc Ls (.int x :: .int j :: .ref a :: st) := by
  subst hu
  obtain ⟨cl, A, q1, S, M, Hs, Fs⟩ := V
  exact own_iastore H A (inb_of S ⟨h1, h2⟩) ha hd fun h' W => k h' W (Arv.set A q1 S M Hs Fs rfl W i hj hi)
theorem own_lastoreV (H : own_Ok B Z a0 l R y code N ret) {a : Addr} {kA : ClassId} {n j : Int32} {vs : List Value} {dv u : Value} {x : Int64} (V : Arv Z h a kA .long n vs dv) (h1 : ¬ j < 0) (h2 : j < n) (i : Nat) (hj : j.toNatClampNeg = i) (hi : i < vs.length) (ha : n0 ≤ a) (hu : (.long x) = u) (hd : decode code pc = .ok (.lastore, 1)) (k : ∀ h', Wr h h' a j.toNatClampNeg u → Arv Z h' a kA .long n (vs.set i u) dv → own_G B n0 Q kc ks cells slots h' (pc + 1) Ls st) : own_G B n0 Q kc ks cells slots h pc Ls (.long x :: .int j :: .ref a :: st) := by
  subst hu
  obtain ⟨cl, A, q1, S, M, Hs, Fs⟩ := V
  exact own_lastore H A (inb_of S ⟨h1, h2⟩) ha hd fun h' W => k h' W (Arv.set A q1 S M Hs Fs rfl W i hj hi)
theorem own_bastoreV (H : own_Ok B Z a0 l R y code N ret) {a : Addr} {kA : ClassId} {n j : Int32} {vs : List Value} {dv u : Value} {x : Int32} (V : Arv Z h a kA .byte n vs dv) (h1 : ¬ j < 0) (h2 : j < n) (i : Nat) (hj : j.toNatClampNeg = i) (hi : i < vs.length) (ha : n0 ≤ a) (hu : (.int (nar .byte x)) = u) (hd : decode code pc = .ok (.bastore, 1)) (k : ∀ h', Wr h h' a j.toNatClampNeg u → Arv Z h' a kA .byte n (vs.set i u) dv → own_G B n0 Q kc ks cells slots h' (pc + 1) Ls st) : own_G B n0 Q kc ks cells slots h pc Ls (.int x :: .int j :: .ref a :: st) := by
  subst hu
  obtain ⟨cl, A, q1, S, M, Hs, Fs⟩ := V
  exact own_bastore H A (inb_of S ⟨h1, h2⟩) ha hd fun h' W => k h' W (Arv.set A q1 S M Hs Fs (fits_nar_byte x) W i hj hi)
theorem own_castoreV (H : own_Ok B Z a0 l R y code N ret) {a : Addr} {kA : ClassId} {n j : Int32} {vs : List Value} {dv u : Value} {x : Int32} (V : Arv Z h a kA .char n vs dv) (h1 : ¬ j < 0) (h2 : j < n) (i : Nat) (hj : j.toNatClampNeg = i) (hi : i < vs.length) (ha : n0 ≤ a) (hu : (.int (nar .char x)) = u) (hd : decode code pc = .ok (.castore, 1)) (k : ∀ h', Wr h h' a j.toNatClampNeg u → Arv Z h' a kA .char n (vs.set i u) dv → own_G B n0 Q kc ks cells slots h' (pc + 1) Ls st) : own_G B n0 Q kc ks cells slots h pc Ls (.int x :: .int j :: .ref a :: st) := by
  subst hu
  obtain ⟨cl, A, q1, S, M, Hs, Fs⟩ := V
  exact own_castore H A (inb_of S ⟨h1, h2⟩) ha hd fun h' W => k h' W (Arv.set A q1 S M Hs Fs (fits_nar_char x) W i hj hi)
theorem own_initObject (H : own_Ok B Z a0 l R y code N ret) {i w1 w2 w3 : Nat} (q1 : tables_1[w1]? = some (Jvm.Cond.methodLink y.cls i Lib.objectInit)) (q2 : tables_1[w2]? = some (Jvm.Cond.instanceMethod Lib.objectInit)) (q3 : tables_1[w3]? = some (Jvm.Cond.code Lib.objectInit ⟨#[0xb1]⟩ 1 none)) {a : Addr} (W : Nat) (hsz : Ls.size = N) (hf : 1 ≤ R.frames) (hW : (st.map fun v => v.category).sum ≤ W) (hl : W + 12 ≤ R.locals)
    (hd : decode code pc = .ok (.invokespecial i, 3)) (k : own_G B n0 Q kc ks cells slots h (pc + 3) Ls st) : own_G B n0 Q kc ks cells slots h pc Ls (.ref a :: st) := by
  obtain ⟨p, l, e, R, s, m, args, below, meth, c⟩ := B
  obtain ⟨rfl, rfl, hx, hZ, hown, hby, hml, hrt, hlk, hnm, hw⟩ := H
  intro T locs c1 s1 X F hc hs eT
  obtain ⟨T', X', e', s'⟩ := initO X hx hZ hown (hw _ _ q1) (hw _ _ q2) (hw _ _ q3) eT (g := mkF m pc Ls (.ref a :: st)) rfl (hsz.trans hml.symm) rfl (hb hby hd) hf (W := W) (by show 2 * 0 + _ ≤ _; omega) hl
  exact own_go s' (k T' locs c1 s1 X' F hc hs e')
theorem own_invokestatic (H : own_Ok B Z a0 l R y code N ret) {i w1 w2 w3 w4 : Nat} {yc : MethodName} {bytes : ByteArray} {maxL : Nat} {rc : Option FieldType} {rm : Room} {Qc : Option Value → Heap → Prop} {argsL rest : List Value} (hM : own_C l Z yc bytes maxL rc rm argsL.toArray h n0 Qc)
    (q1 : tables_1[w1]? = some (Jvm.Cond.methodLink y.cls i yc)) (q2 : tables_1[w2]? = some (Jvm.Cond.static yc)) (qz : tables_1[w3]? = some (Jvm.Cond.initialized yc.cls)) (qc : tables_1[w4]? = some (Jvm.Cond.code yc bytes maxL rc)) {ps : List FieldType} {r : Option FieldType} (hpd : parseMethodDescriptor yc.desc = some ⟨ps, r⟩) (hln : argsL.length = ps.length) (W : Nat) (hne : yc.cls ≠ "java/lang/invoke/MethodHandle" ∧ yc.cls ≠ "java/lang/invoke/VarHandle")
    (hsz : Ls.size = N) (hfr : rm.frames + 1 ≤ R.frames) (hW : (rest.map fun v => v.category).sum ≤ W) (hlo : W + (maxL + 11) + rm.locals ≤ R.locals) (hkc : cells + rm.cells ≤ R.cells) (hks : slots + rm.slots ≤ R.slots) (hst : st = argsL.reverse ++ rest) (hd : decode code pc = .ok (.invokestatic i, 3))
    (k : ∀ v h', Qc v h' → own_G B n0 Q kc ks (cells + rm.cells) (slots + rm.slots) h' (pc + 3) Ls (v.toList ++ rest)) : own_G B n0 Q kc ks cells slots h pc Ls st := by
  obtain ⟨p, l, e, R, s, m, args, below, meth, c⟩ := B
  obtain ⟨rfl, rfl, hx, hZ, hown, hby, hml, hrt, hlk, hnm, hw⟩ := H
  intro T locs c1 s1 X F hc hs eT
  subst hst
  obtain ⟨v', _, ⟨T', L', k', n'⟩, -, X', ⟨Lc', hQ', l', y', z'⟩, s'⟩ := Jvm.LawKit.callS X hx (y := yc) hown (mvT hZ (hw _ _ q1)) (mvT hZ (hw _ _ q2)) (mvT hZ (hw _ _ qz)) (mvT hZ (hw _ _ qc)) hne (backOf (W := W) (bytes := bytes) (rm := rm) (Q := fun v hh L => Qc v hh ∧ Fr n0 L) (h := h) hM hZ (hw _ _ qc) (hw _ _ qz) hfr hlo) (g := mkF m pc Ls (argsL.reverse ++ rest)) rfl (hsz.trans hml.symm) (argsL := argsL) (rest := rest) (lenOf hpd hln) rfl (by show 2 * 0 + _ ≤ _; omega) (hb hby hd) (fun _ _ => ⟨rfl, eT, Nat.le_trans (Nat.add_le_add_right hc _) hkc, Nat.le_trans (Nat.add_le_add_right hs _) hks⟩)
  dsimp only [Pt.U, Pt.locs, Pt.cells, Pt.slots] at X' l' y' z' s' hQ'
  subst l' y' z'
  exact own_go s' (k v' _ hQ'.1 T' _ _ _ X' (F.app hQ'.2) (Nat.add_le_add_right hc _) (Nat.add_le_add_right hs _) rfl)
theorem own_invokespecial (H : own_Ok B Z a0 l R y code N ret) {i w1 w2 w3 w4 : Nat} {yc : MethodName} {bytes : ByteArray} {maxL : Nat} {rm : Room} {Qc : Option Value → Heap → Prop} {a : Addr} {argsL rest : List Value} (hM : own_C l Z yc bytes maxL none rm (.ref a :: argsL).toArray h n0 Qc) (hin : yc.name = "<init>")
    (q1 : tables_1[w1]? = some (Jvm.Cond.methodLink y.cls i yc)) (q2 : tables_1[w2]? = some (Jvm.Cond.instanceMethod yc)) (qz : tables_1[w3]? = some (Jvm.Cond.initialized yc.cls)) (qc : tables_1[w4]? = some (Jvm.Cond.code yc bytes maxL none)) {ps : List FieldType} {r : Option FieldType} (hpd : parseMethodDescriptor yc.desc = some ⟨ps, r⟩) (hln : argsL.length = ps.length) (W : Nat) (hne : yc.cls ≠ "java/lang/invoke/MethodHandle" ∧ yc.cls ≠ "java/lang/invoke/VarHandle")
    (hsz : Ls.size = N) (hfr : rm.frames + 1 ≤ R.frames) (hW : (rest.map fun v => v.category).sum ≤ W) (hlo : W + (maxL + 11) + rm.locals ≤ R.locals) (hkc : cells + rm.cells ≤ R.cells) (hks : slots + rm.slots ≤ R.slots) (hst : st = argsL.reverse ++ .ref a :: rest) (hd : decode code pc = .ok (.invokespecial i, 3))
    (k : ∀ v h', Qc v h' → own_G B n0 Q kc ks (cells + rm.cells) (slots + rm.slots) h' (pc + 3) Ls (v.toList ++ rest)) : own_G B n0 Q kc ks cells slots h pc Ls st := by
  obtain ⟨p, l, e, R, s, m, args, below, meth, c⟩ := B
  obtain ⟨rfl, rfl, hx, hZ, hown, hby, hml, hrt, hlk, hnm, hw⟩ := H
  intro T locs c1 s1 X F hc hs eT
  subst hst
  obtain ⟨v', _, ⟨T', L', k', n'⟩, -, X', ⟨Lc', hQ', l', y', z'⟩, s'⟩ := X.specialBack hx (y := yc) hin hown (mvT hZ (hw _ _ q1)) (mvT hZ (hw _ _ q2)) (mvT hZ (hw _ _ qc)) hne (backOf (W := W) (bytes := bytes) (rm := rm) (Q := fun v hh L => Qc v hh ∧ Fr n0 L) (h := h) hM hZ (hw _ _ qc) (hw _ _ qz) hfr hlo) (g := mkF m pc Ls (argsL.reverse ++ .ref a :: rest)) rfl (hsz.trans hml.symm) (Steps.refl _) (a := a) (argsL := argsL) (rest := rest) (lenOf hpd hln) rfl (by show 2 * 0 + _ ≤ _; omega) (hb hby hd) (fun _ _ => ⟨rfl, eT, Nat.le_trans (Nat.add_le_add_right hc _) hkc, Nat.le_trans (Nat.add_le_add_right hs _) hks⟩)
  dsimp only [Pt.U, Pt.locs, Pt.cells, Pt.slots] at X' l' y' z' s' hQ'
  subst l' y' z'
  exact own_go (fun t q => s'.trans q) (k v' _ hQ'.1 T' _ _ _ X' (F.app hQ'.2) (Nat.add_le_add_right hc _) (Nat.add_le_add_right hs _) rfl)
theorem own_invokevirtual (H : own_Ok B Z a0 l R y code N ret) {i w0 w1 w2 w3 w4 w5 : Nat} {C : String} {yc : MethodName} {bytes : ByteArray} {maxL : Nat} {rc : Option FieldType} {rm : Room} {Qc : Option Value → Heap → Prop} {a : Addr} {argsL rest : List Value} (hM : own_C l Z yc bytes maxL rc rm (.ref a :: argsL).toArray h n0 Qc) (E : Exa Z h a C)
    (q1 : tables_1[w1]? = some (Jvm.Cond.methodLink y.cls i yc)) (q0 : tables_1[w0]? = some (Jvm.Cond.declares yc)) (q5 : tables_1[w5]? = some (Jvm.Cond.selects C yc yc)) (q2 : tables_1[w2]? = some (Jvm.Cond.instanceMethod yc)) (qz : tables_1[w3]? = some (Jvm.Cond.initialized yc.cls)) (qc : tables_1[w4]? = some (Jvm.Cond.code yc bytes maxL rc)) {ps : List FieldType} {r : Option FieldType} (hpd : parseMethodDescriptor yc.desc = some ⟨ps, r⟩) (hln : argsL.length = ps.length) (W : Nat) (hne : yc.cls ≠ "java/lang/invoke/MethodHandle" ∧ yc.cls ≠ "java/lang/invoke/VarHandle")
    (hsz : Ls.size = N) (hfr : rm.frames + 1 ≤ R.frames) (hW : (rest.map fun v => v.category).sum ≤ W) (hlo : W + (maxL + 11) + rm.locals ≤ R.locals) (hkc : cells + rm.cells ≤ R.cells) (hks : slots + rm.slots ≤ R.slots) (hst : st = argsL.reverse ++ .ref a :: rest) (hd : decode code pc = .ok (.invokevirtual i, 3))
    (k : ∀ v h', Qc v h' → own_G B n0 Q kc ks (cells + rm.cells) (slots + rm.slots) h' (pc + 3) Ls (v.toList ++ rest)) : own_G B n0 Q kc ks cells slots h pc Ls st := by
  obtain ⟨p, l, e, R, s, m, args, below, meth, c⟩ := B
  obtain ⟨rfl, rfl, hx, hZ, hown, hby, hml, hrt, hlk, hnm, hw⟩ := H
  intro T locs c1 s1 X F hc hs eT
  subst hst
  obtain ⟨cq, kq, qa, -, qb⟩ := isOf hZ eT E
  obtain ⟨v', _, ⟨T', L', k', n'⟩, -, X', ⟨Lc', hQ', l', y', z'⟩, s'⟩ := X.virtualBack hx (y := yc) (z := yc) hown (mvT hZ (hw _ _ q1)) (mvT hZ (hw _ _ q0)) (notFace_of_selects (args := #[]) (mvT hZ (hw _ _ q5))) (mvT hZ (hw _ _ q5)) (mvT hZ (hw _ _ q2)) hne (backOf (W := W) (bytes := bytes) (rm := rm) (Q := fun v hh L => Qc v hh ∧ Fr n0 L) (h := h) hM hZ (hw _ _ qc) (hw _ _ qz) hfr hlo) qa qb (g := mkF m pc Ls (argsL.reverse ++ .ref a :: rest)) rfl (hsz.trans hml.symm) (Steps.refl _) (argsL := argsL) (rest := rest) (lenOf hpd hln) rfl (by show 2 * 0 + _ ≤ _; omega) (hb hby hd) (fun _ _ => ⟨rfl, eT, Nat.le_trans (Nat.add_le_add_right hc _) hkc, Nat.le_trans (Nat.add_le_add_right hs _) hks⟩)
  dsimp only [Pt.U, Pt.locs, Pt.cells, Pt.slots] at X' l' y' z' s' hQ'
  subst l' y' z'
  exact own_go (fun t q => s'.trans q) (k v' _ hQ'.1 T' _ _ _ X' (F.app hQ'.2) (Nat.add_le_add_right hc _) (Nat.add_le_add_right hs _) rfl)
end Laws
end OwnKit
theorem d1_0 : decode prog_5_method_1_code 0 = .ok (.aload_n 0, 1) := by decide +kernel
theorem d1_1 : decode prog_5_method_1_code 1 = .ok (.invokespecial 1, 3) := by decide +kernel
theorem d1_4 : decode prog_5_method_1_code 4 = .ok (.aload_n 0, 1) := by decide +kernel
theorem d1_5 : decode prog_5_method_1_code 5 = .ok (.iload_n 1, 1) := by decide +kernel
theorem d1_6 : decode prog_5_method_1_code 6 = .ok (.putfield 7, 3) := by decide +kernel
theorem d1_9 : decode prog_5_method_1_code 9 = .ok (.aload_n 0, 1) := by decide +kernel
theorem d1_10 : decode prog_5_method_1_code 10 = .ok (.iload_n 2, 1) := by decide +kernel
theorem d1_11 : decode prog_5_method_1_code 11 = .ok (.putfield 13, 3) := by decide +kernel
theorem d1_14 : decode prog_5_method_1_code 14 = .ok (.aload_n 0, 1) := by decide +kernel
theorem d1_15 : decode prog_5_method_1_code 15 = .ok (.iload_n 3, 1) := by decide +kernel
theorem d1_16 : decode prog_5_method_1_code 16 = .ok (.putfield 16, 3) := by decide +kernel
theorem d1_19 : decode prog_5_method_1_code 19 = .ok (.aload_n 0, 1) := by decide +kernel
theorem d1_20 : decode prog_5_method_1_code 20 = .ok (.aload 4, 2) := by decide +kernel
theorem d1_22 : decode prog_5_method_1_code 22 = .ok (.putfield 19, 3) := by decide +kernel
theorem d1_25 : decode prog_5_method_1_code 25 = .ok (.return_, 1) := by decide +kernel
theorem own_pl1 : plainFor (⟨"com/example/trailwire/trailwire/http2/Frame", "<init>", "(III[B)V"⟩ : MethodName) = true := plainFor_of_name (by first | (simp [plainName, overriddenIn]; done) | decide +kernel)
theorem own_pd0 : parseMethodDescriptor "(III[B)V" = some ⟨[.int, .int, .int, (.array .byte)], none⟩ := by decide +kernel
set_option maxHeartbeats 4000000 in
theorem rm1 (l : Launch) (Z : State) (a0 : Array Value) (hw : ∀ (i : Nat) (d : Jvm.Cond), tables_1[i]? = some d → d.before a0 Z = true) (h0 : Heap) (n0 : Nat) (a : Addr) (q1 : Int32) (q2 : Int32) (q3 : Int32) (q4 : Addr) (hZ0 : n0 ≤ h0.size) (hA : n0 ≤ a) (hE : Exa Z h0 a "com/example/trailwire/trailwire/http2/Frame") (hF0 : Fld Z h0 a "com/example/trailwire/trailwire/http2/Frame" "type" "I" (.int (0 : Int32))) (hF1 : Fld Z h0 a "com/example/trailwire/trailwire/http2/Frame" "flags" "I" (.int (0 : Int32))) (hF2 : Fld Z h0 a "com/example/trailwire/trailwire/http2/Frame" "streamId" "I" (.int (0 : Int32))) (hF3 : Fld Z h0 a "com/example/trailwire/trailwire/http2/Frame" "payload" "[B" .null) :
    own_C l Z (⟨"com/example/trailwire/trailwire/http2/Frame", "<init>", "(III[B)V"⟩ : MethodName) prog_5_method_1_code 5 none ({ frames := 1, cells := 0, slots := 0, locals := 12 } : Room) #[(.ref a), (.int q1), (.int q2), (.int q3), (.ref q4)] h0 n0 (fun v h' => v = none ∧ Keep h0 h' [a] ∧ Fld Z h' a "com/example/trailwire/trailwire/http2/Frame" "type" "I" (.int q1) ∧ Fld Z h' a "com/example/trailwire/trailwire/http2/Frame" "flags" "I" (.int q2) ∧ Fld Z h' a "com/example/trailwire/trailwire/http2/Frame" "streamId" "I" (.int q3) ∧ Fld Z h' a "com/example/trailwire/trailwire/http2/Frame" "payload" "[B" (.ref q4)) := by
  refine own_met (Ls := #[.val (.ref a), .val (.int q1), .val (.int q2), .val (.int q3), .val (.ref q4)]) hw own_pl1 (fun m => by first | (simp [entryFrame, mkF, argsToLocals, Value.category]; done) | rfl) ?_
  intro B H
  have hK : Keep h0 h0 [a] := Keep.refl _ _
  refine own_aload_n H rfl rfl d1_0 ?_
  refine own_initObject H (w1 := 8) (w2 := 9) (w3 := 10) rfl rfl rfl 0 rfl (by decide) (Nat.le_of_eq rfl) (by decide) d1_1 ?_
  refine own_aload_n H rfl rfl d1_4 ?_
  refine own_iload_n H rfl d1_5 ?_
  refine own_putfield H (w := 11) (wi := 3) rfl hF0 hE hA (Or.inr ⟨own_w H (i := 12) rfl, rfl, rfl⟩) rfl (ty := .int) (by decide) rfl rfl d1_6 ?_
  intro h1 W2
  have f3 : Exa Z h1 a "com/example/trailwire/trailwire/http2/Frame" := hE.wr W2
  have f4 : Keep h0 h1 [a] := hK.wr W2 (Or.inl (by simp))
  have f5 : n0 ≤ h1.size := by rw [W2.size]; exact hZ0
  have f6 : Fld Z h1 a "com/example/trailwire/trailwire/http2/Frame" "type" "I" (.int q1) := hF0.same W2
  have f7 : Fld Z h1 a "com/example/trailwire/trailwire/http2/Frame" "flags" "I" (.int (0 : Int32)) := hF1.other W2 (Or.inr (slot_ne (Or.inr (own_w H (i := 14) rfl)) (Or.inr (own_w H (i := 12) rfl)) (by decide) (t := .int) (t' := .int) (by decide) (by decide)))
  have f8 : Fld Z h1 a "com/example/trailwire/trailwire/http2/Frame" "streamId" "I" (.int (0 : Int32)) := hF2.other W2 (Or.inr (slot_ne (Or.inr (own_w H (i := 16) rfl)) (Or.inr (own_w H (i := 12) rfl)) (by decide) (t := .int) (t' := .int) (by decide) (by decide)))
  have f9 : Fld Z h1 a "com/example/trailwire/trailwire/http2/Frame" "payload" "[B" .null := hF3.other W2 (Or.inr (slot_ne (Or.inr (own_w H (i := 18) rfl)) (Or.inr (own_w H (i := 12) rfl)) (by decide) (t := (.array .byte)) (t' := .int) (by decide) (by decide)))
  refine own_aload_n H rfl rfl d1_9 ?_
  refine own_iload_n H rfl d1_10 ?_
  refine own_putfield H (w := 13) (wi := 3) rfl f7 f3 hA (Or.inr ⟨own_w H (i := 14) rfl, rfl, rfl⟩) rfl (ty := .int) (by decide) rfl rfl d1_11 ?_
  intro h10 W11
  have f12 : Exa Z h10 a "com/example/trailwire/trailwire/http2/Frame" := f3.wr W11
  have f13 : Keep h0 h10 [a] := f4.wr W11 (Or.inl (by simp))
  have f14 : n0 ≤ h10.size := by rw [W11.size]; exact f5
  have f15 : Fld Z h10 a "com/example/trailwire/trailwire/http2/Frame" "type" "I" (.int q1) := f6.other W11 (Or.inr (slot_ne (Or.inr (own_w H (i := 12) rfl)) (Or.inr (own_w H (i := 14) rfl)) (by decide) (t := .int) (t' := .int) (by decide) (by decide)))
  have f16 : Fld Z h10 a "com/example/trailwire/trailwire/http2/Frame" "flags" "I" (.int q2) := f7.same W11
  have f17 : Fld Z h10 a "com/example/trailwire/trailwire/http2/Frame" "streamId" "I" (.int (0 : Int32)) := f8.other W11 (Or.inr (slot_ne (Or.inr (own_w H (i := 16) rfl)) (Or.inr (own_w H (i := 14) rfl)) (by decide) (t := .int) (t' := .int) (by decide) (by decide)))
  have f18 : Fld Z h10 a "com/example/trailwire/trailwire/http2/Frame" "payload" "[B" .null := f9.other W11 (Or.inr (slot_ne (Or.inr (own_w H (i := 18) rfl)) (Or.inr (own_w H (i := 14) rfl)) (by decide) (t := (.array .byte)) (t' := .int) (by decide) (by decide)))
  refine own_aload_n H rfl rfl d1_14 ?_
  refine own_iload_n H rfl d1_15 ?_
  refine own_putfield H (w := 15) (wi := 3) rfl f17 f12 hA (Or.inr ⟨own_w H (i := 16) rfl, rfl, rfl⟩) rfl (ty := .int) (by decide) rfl rfl d1_16 ?_
  intro h19 W20
  have f21 : Exa Z h19 a "com/example/trailwire/trailwire/http2/Frame" := f12.wr W20
  have f22 : Keep h0 h19 [a] := f13.wr W20 (Or.inl (by simp))
  have f23 : n0 ≤ h19.size := by rw [W20.size]; exact f14
  have f24 : Fld Z h19 a "com/example/trailwire/trailwire/http2/Frame" "type" "I" (.int q1) := f15.other W20 (Or.inr (slot_ne (Or.inr (own_w H (i := 12) rfl)) (Or.inr (own_w H (i := 16) rfl)) (by decide) (t := .int) (t' := .int) (by decide) (by decide)))
  have f25 : Fld Z h19 a "com/example/trailwire/trailwire/http2/Frame" "flags" "I" (.int q2) := f16.other W20 (Or.inr (slot_ne (Or.inr (own_w H (i := 14) rfl)) (Or.inr (own_w H (i := 16) rfl)) (by decide) (t := .int) (t' := .int) (by decide) (by decide)))
  have f26 : Fld Z h19 a "com/example/trailwire/trailwire/http2/Frame" "streamId" "I" (.int q3) := f17.same W20
  have f27 : Fld Z h19 a "com/example/trailwire/trailwire/http2/Frame" "payload" "[B" .null := f18.other W20 (Or.inr (slot_ne (Or.inr (own_w H (i := 18) rfl)) (Or.inr (own_w H (i := 16) rfl)) (by decide) (t := (.array .byte)) (t' := .int) (by decide) (by decide)))
  refine own_aload_n H rfl rfl d1_19 ?_
  refine own_aload H rfl rfl d1_20 ?_
  refine own_putfield H (w := 17) (wi := 3) rfl f27 f21 hA (Or.inr ⟨own_w H (i := 18) rfl, rfl, rfl⟩) rfl (ty := (.array .byte)) (by decide) rfl rfl d1_22 ?_
  intro h28 W29
  have f30 : Exa Z h28 a "com/example/trailwire/trailwire/http2/Frame" := f21.wr W29
  have f31 : Keep h0 h28 [a] := f22.wr W29 (Or.inl (by simp))
  have f32 : n0 ≤ h28.size := by rw [W29.size]; exact f23
  have f33 : Fld Z h28 a "com/example/trailwire/trailwire/http2/Frame" "type" "I" (.int q1) := f24.other W29 (Or.inr (slot_ne (Or.inr (own_w H (i := 12) rfl)) (Or.inr (own_w H (i := 18) rfl)) (by decide) (t := .int) (t' := (.array .byte)) (by decide) (by decide)))
  have f34 : Fld Z h28 a "com/example/trailwire/trailwire/http2/Frame" "flags" "I" (.int q2) := f25.other W29 (Or.inr (slot_ne (Or.inr (own_w H (i := 14) rfl)) (Or.inr (own_w H (i := 18) rfl)) (by decide) (t := .int) (t' := (.array .byte)) (by decide) (by decide)))
  have f35 : Fld Z h28 a "com/example/trailwire/trailwire/http2/Frame" "streamId" "I" (.int q3) := f26.other W29 (Or.inr (slot_ne (Or.inr (own_w H (i := 16) rfl)) (Or.inr (own_w H (i := 18) rfl)) (by decide) (t := .int) (t' := (.array .byte)) (by decide) (by decide)))
  have f36 : Fld Z h28 a "com/example/trailwire/trailwire/http2/Frame" "payload" "[B" (.ref q4) := f27.same W29
  exact own_return H d1_25 (by decide) (by decide) ⟨rfl, f31, f33, f34, f35, f36⟩
theorem d3_0 : decode prog_5_method_7_code 0 = .ok (.lconst 0, 1) := by decide +kernel
theorem d3_1 : decode prog_5_method_7_code 1 = .ok (.lstore_n 2, 1) := by decide +kernel
theorem d3_2 : decode prog_5_method_7_code 2 = .ok (.iload_n 1, 1) := by decide +kernel
theorem d3_3 : decode prog_5_method_7_code 3 = .ok (.istore 4, 2) := by decide +kernel
theorem d3_5 : decode prog_5_method_7_code 5 = .ok (.iload 4, 2) := by decide +kernel
theorem d3_7 : decode prog_5_method_7_code 7 = .ok (.iload_n 1, 1) := by decide +kernel
theorem d3_8 : decode prog_5_method_7_code 8 = .ok (.iconst 4, 1) := by decide +kernel
theorem d3_9 : decode prog_5_method_7_code 9 = .ok (.iadd, 1) := by decide +kernel
theorem d3_10 : decode prog_5_method_7_code 10 = .ok (.if_icmp .ge 27, 3) := by decide +kernel
theorem d3_13 : decode prog_5_method_7_code 13 = .ok (.lload_n 2, 1) := by decide +kernel
theorem d3_14 : decode prog_5_method_7_code 14 = .ok (.bipush 8, 2) := by decide +kernel
theorem d3_16 : decode prog_5_method_7_code 16 = .ok (.lshl, 1) := by decide +kernel
theorem d3_17 : decode prog_5_method_7_code 17 = .ok (.aload_n 0, 1) := by decide +kernel
theorem d3_18 : decode prog_5_method_7_code 18 = .ok (.getfield 19, 3) := by decide +kernel
theorem d3_21 : decode prog_5_method_7_code 21 = .ok (.iload 4, 2) := by decide +kernel
theorem d3_23 : decode prog_5_method_7_code 23 = .ok (.baload, 1) := by decide +kernel
theorem d3_24 : decode prog_5_method_7_code 24 = .ok (.sipush 255, 3) := by decide +kernel
theorem d3_27 : decode prog_5_method_7_code 27 = .ok (.iand, 1) := by decide +kernel
theorem d3_28 : decode prog_5_method_7_code 28 = .ok (.i2l, 1) := by decide +kernel
theorem d3_29 : decode prog_5_method_7_code 29 = .ok (.lor, 1) := by decide +kernel
theorem d3_30 : decode prog_5_method_7_code 30 = .ok (.lstore_n 2, 1) := by decide +kernel
theorem d3_31 : decode prog_5_method_7_code 31 = .ok (.iinc 4 1, 3) := by decide +kernel
theorem d3_34 : decode prog_5_method_7_code 34 = .ok (.goto (-29), 3) := by decide +kernel
theorem d3_37 : decode prog_5_method_7_code 37 = .ok (.lload_n 2, 1) := by decide +kernel
theorem d3_38 : decode prog_5_method_7_code 38 = .ok (.lreturn, 1) := by decide +kernel
theorem own_pl3 : plainFor (⟨"com/example/trailwire/trailwire/http2/Frame", "readUnsigned32", "(I)J"⟩ : MethodName) = true := plainFor_of_name (by first | (simp [plainName, overriddenIn]; done) | decide +kernel)
theorem own_pd1 : parseMethodDescriptor "(I)J" = some ⟨[.int], some .long⟩ := by decide +kernel
def FU0 (b0 : Int32) (b1 : Int32) (b2 : Int32) (b3 : Int32) (b4 : Int32) (b5 : Int32) (b6 : Int32) (b7 : Int32) : Int64 := ((((((((0 : Int64) ||| ((b0 &&& (255 : Int32)).toInt64)) <<< ((8 : Int32).toInt64 &&& 63)) ||| ((b1 &&& (255 : Int32)).toInt64)) <<< ((8 : Int32).toInt64 &&& 63)) ||| ((b2 &&& (255 : Int32)).toInt64)) <<< ((8 : Int32).toInt64 &&& 63)) ||| ((b3 &&& (255 : Int32)).toInt64))
set_option maxHeartbeats 4000000 in
theorem rmU0 (l : Launch) (Z : State) (a0 : Array Value) (hw : ∀ (i : Nat) (d : Jvm.Cond), tables_1[i]? = some d → d.before a0 Z = true) (h0 : Heap) (n0 : Nat) (a : Addr)  (t : Addr) (kA : ClassId) (b0 b1 b2 b3 b4 b5 b6 b7 : Int32) (hV : Arv Z h0 t kA .byte (8 : Int32) [(.int b0), (.int b1), (.int b2), (.int b3), (.int b4), (.int b5), (.int b6), (.int b7)] (.int 0)) (hR0 : Fld Z h0 a "com/example/trailwire/trailwire/http2/Frame" "payload" "[B" (.ref t)) :
    own_P l Z (⟨"com/example/trailwire/trailwire/http2/Frame", "readUnsigned32", "(I)J"⟩ : MethodName) prog_5_method_7_code 5 (some .long) ({ frames := 0, cells := 0, slots := 0, locals := 0 } : Room) #[(.ref a), (.int (0 : Int32))] h0 n0 (.long (FU0 b0 b1 b2 b3 b4 b5 b6 b7)) := by
  refine own_met (Ls := #[.val (.ref a), .val (.int (0 : Int32)), .unset, .unset, .unset]) hw own_pl3 (fun m => by first | (simp [entryFrame, mkF, argsToLocals, Value.category]; done) | rfl) ?_
  intro B H
  refine own_lconst H (0 : Int64) (by decide) d3_0 ?_
  refine own_lstore_n H #[.val (.ref a), .val (.int (0 : Int32)), .val (.long (0 : Int64)), .second, .unset] rfl d3_1 ?_
  refine own_iload_n H rfl d3_2 ?_
  refine own_istore H #[.val (.ref a), .val (.int (0 : Int32)), .val (.long (0 : Int64)), .second, .val (.int (0 : Int32))] rfl d3_3 ?_
  refine own_iload H rfl d3_5 ?_
  refine own_iload_n H rfl d3_7 ?_
  refine own_iconst H (4 : Int32) (by decide) d3_8 ?_
  refine own_iadd (v := (4 : Int32)) H (by decide) d3_9 ?_
  refine own_icmpge_f H d3_10 (by decide) ?_
  refine own_lload_n H rfl d3_13 ?_
  refine own_bipush H (8 : Int32) (by decide) d3_14 ?_
  refine own_lshl (v := (0 : Int64)) H (by decide) d3_16 ?_
  refine own_aload_n H rfl rfl d3_17 ?_
  refine own_getfield H (w := 17) rfl hR0 d3_18 ?_
  refine own_iload H rfl d3_21 ?_
  refine own_baloadV H hV (by decide) (by decide) rfl d3_23 ?_
  refine own_sipush H (255 : Int32) (by decide) d3_24 ?_
  refine own_iand H rfl d3_27 ?_
  refine own_i2l H rfl d3_28 ?_
  refine own_lor H rfl d3_29 ?_
  refine own_lstore_n H #[.val (.ref a), .val (.int (0 : Int32)), .val (.long ((0 : Int64) ||| ((b0 &&& (255 : Int32)).toInt64))), .second, .val (.int (0 : Int32))] rfl d3_30 ?_
  refine own_iinc H (1 : Int32) (by decide) rfl (by decide) #[.val (.ref a), .val (.int (0 : Int32)), .val (.long ((0 : Int64) ||| ((b0 &&& (255 : Int32)).toInt64))), .second, .val (.int (1 : Int32))] rfl d3_31 ?_
  refine own_goto H (pc' := 5) d3_34 (by decide) (by decide) ?_
  refine own_iload H rfl d3_5 ?_
  refine own_iload_n H rfl d3_7 ?_
  refine own_iconst H (4 : Int32) (by decide) d3_8 ?_
  refine own_iadd (v := (4 : Int32)) H (by decide) d3_9 ?_
  refine own_icmpge_f H d3_10 (by decide) ?_
  refine own_lload_n H rfl d3_13 ?_
  refine own_bipush H (8 : Int32) (by decide) d3_14 ?_
  refine own_lshl H rfl d3_16 ?_
  refine own_aload_n H rfl rfl d3_17 ?_
  refine own_getfield H (w := 17) rfl hR0 d3_18 ?_
  refine own_iload H rfl d3_21 ?_
  refine own_baloadV H hV (by decide) (by decide) rfl d3_23 ?_
  refine own_sipush H (255 : Int32) (by decide) d3_24 ?_
  refine own_iand H rfl d3_27 ?_
  refine own_i2l H rfl d3_28 ?_
  refine own_lor H rfl d3_29 ?_
  refine own_lstore_n H #[.val (.ref a), .val (.int (0 : Int32)), .val (.long ((((0 : Int64) ||| ((b0 &&& (255 : Int32)).toInt64)) <<< ((8 : Int32).toInt64 &&& 63)) ||| ((b1 &&& (255 : Int32)).toInt64))), .second, .val (.int (1 : Int32))] rfl d3_30 ?_
  refine own_iinc H (1 : Int32) (by decide) rfl (by decide) #[.val (.ref a), .val (.int (0 : Int32)), .val (.long ((((0 : Int64) ||| ((b0 &&& (255 : Int32)).toInt64)) <<< ((8 : Int32).toInt64 &&& 63)) ||| ((b1 &&& (255 : Int32)).toInt64))), .second, .val (.int (2 : Int32))] rfl d3_31 ?_
  refine own_goto H (pc' := 5) d3_34 (by decide) (by decide) ?_
  refine own_iload H rfl d3_5 ?_
  refine own_iload_n H rfl d3_7 ?_
  refine own_iconst H (4 : Int32) (by decide) d3_8 ?_
  refine own_iadd (v := (4 : Int32)) H (by decide) d3_9 ?_
  refine own_icmpge_f H d3_10 (by decide) ?_
  refine own_lload_n H rfl d3_13 ?_
  refine own_bipush H (8 : Int32) (by decide) d3_14 ?_
  refine own_lshl H rfl d3_16 ?_
  refine own_aload_n H rfl rfl d3_17 ?_
  refine own_getfield H (w := 17) rfl hR0 d3_18 ?_
  refine own_iload H rfl d3_21 ?_
  refine own_baloadV H hV (by decide) (by decide) rfl d3_23 ?_
  refine own_sipush H (255 : Int32) (by decide) d3_24 ?_
  refine own_iand H rfl d3_27 ?_
  refine own_i2l H rfl d3_28 ?_
  refine own_lor H rfl d3_29 ?_
  refine own_lstore_n H #[.val (.ref a), .val (.int (0 : Int32)), .val (.long ((((((0 : Int64) ||| ((b0 &&& (255 : Int32)).toInt64)) <<< ((8 : Int32).toInt64 &&& 63)) ||| ((b1 &&& (255 : Int32)).toInt64)) <<< ((8 : Int32).toInt64 &&& 63)) ||| ((b2 &&& (255 : Int32)).toInt64))), .second, .val (.int (2 : Int32))] rfl d3_30 ?_
  refine own_iinc H (1 : Int32) (by decide) rfl (by decide) #[.val (.ref a), .val (.int (0 : Int32)), .val (.long ((((((0 : Int64) ||| ((b0 &&& (255 : Int32)).toInt64)) <<< ((8 : Int32).toInt64 &&& 63)) ||| ((b1 &&& (255 : Int32)).toInt64)) <<< ((8 : Int32).toInt64 &&& 63)) ||| ((b2 &&& (255 : Int32)).toInt64))), .second, .val (.int (3 : Int32))] rfl d3_31 ?_
  refine own_goto H (pc' := 5) d3_34 (by decide) (by decide) ?_
  refine own_iload H rfl d3_5 ?_
  refine own_iload_n H rfl d3_7 ?_
  refine own_iconst H (4 : Int32) (by decide) d3_8 ?_
  refine own_iadd (v := (4 : Int32)) H (by decide) d3_9 ?_
  refine own_icmpge_f H d3_10 (by decide) ?_
  refine own_lload_n H rfl d3_13 ?_
  refine own_bipush H (8 : Int32) (by decide) d3_14 ?_
  refine own_lshl H rfl d3_16 ?_
  refine own_aload_n H rfl rfl d3_17 ?_
  refine own_getfield H (w := 17) rfl hR0 d3_18 ?_
  refine own_iload H rfl d3_21 ?_
  refine own_baloadV H hV (by decide) (by decide) rfl d3_23 ?_
  refine own_sipush H (255 : Int32) (by decide) d3_24 ?_
  refine own_iand H rfl d3_27 ?_
  refine own_i2l H rfl d3_28 ?_
  refine own_lor H rfl d3_29 ?_
  refine own_lstore_n H #[.val (.ref a), .val (.int (0 : Int32)), .val (.long ((((((((0 : Int64) ||| ((b0 &&& (255 : Int32)).toInt64)) <<< ((8 : Int32).toInt64 &&& 63)) ||| ((b1 &&& (255 : Int32)).toInt64)) <<< ((8 : Int32).toInt64 &&& 63)) ||| ((b2 &&& (255 : Int32)).toInt64)) <<< ((8 : Int32).toInt64 &&& 63)) ||| ((b3 &&& (255 : Int32)).toInt64))), .second, .val (.int (3 : Int32))] rfl d3_30 ?_
  refine own_iinc H (1 : Int32) (by decide) rfl (by decide) #[.val (.ref a), .val (.int (0 : Int32)), .val (.long ((((((((0 : Int64) ||| ((b0 &&& (255 : Int32)).toInt64)) <<< ((8 : Int32).toInt64 &&& 63)) ||| ((b1 &&& (255 : Int32)).toInt64)) <<< ((8 : Int32).toInt64 &&& 63)) ||| ((b2 &&& (255 : Int32)).toInt64)) <<< ((8 : Int32).toInt64 &&& 63)) ||| ((b3 &&& (255 : Int32)).toInt64))), .second, .val (.int (4 : Int32))] rfl d3_31 ?_
  refine own_goto H (pc' := 5) d3_34 (by decide) (by decide) ?_
  refine own_iload H rfl d3_5 ?_
  refine own_iload_n H rfl d3_7 ?_
  refine own_iconst H (4 : Int32) (by decide) d3_8 ?_
  refine own_iadd (v := (4 : Int32)) H (by decide) d3_9 ?_
  refine own_icmpge_t H (pc' := 37) d3_10 (by decide) (by decide) (by decide) ?_
  refine own_lload_n H rfl d3_37 ?_
  exact own_lreturn H d3_38 (by decide) (by decide) ⟨by show some _ = some _; rw [FU0], rfl⟩
def FU1 (b0 : Int32) (b1 : Int32) (b2 : Int32) (b3 : Int32) (b4 : Int32) (b5 : Int32) (b6 : Int32) (b7 : Int32) : Int64 := ((((((((0 : Int64) ||| ((b1 &&& (255 : Int32)).toInt64)) <<< ((8 : Int32).toInt64 &&& 63)) ||| ((b2 &&& (255 : Int32)).toInt64)) <<< ((8 : Int32).toInt64 &&& 63)) ||| ((b3 &&& (255 : Int32)).toInt64)) <<< ((8 : Int32).toInt64 &&& 63)) ||| ((b4 &&& (255 : Int32)).toInt64))
set_option maxHeartbeats 4000000 in
theorem rmU1 (l : Launch) (Z : State) (a0 : Array Value) (hw : ∀ (i : Nat) (d : Jvm.Cond), tables_1[i]? = some d → d.before a0 Z = true) (h0 : Heap) (n0 : Nat) (a : Addr)  (t : Addr) (kA : ClassId) (b0 b1 b2 b3 b4 b5 b6 b7 : Int32) (hV : Arv Z h0 t kA .byte (8 : Int32) [(.int b0), (.int b1), (.int b2), (.int b3), (.int b4), (.int b5), (.int b6), (.int b7)] (.int 0)) (hR0 : Fld Z h0 a "com/example/trailwire/trailwire/http2/Frame" "payload" "[B" (.ref t)) :
    own_P l Z (⟨"com/example/trailwire/trailwire/http2/Frame", "readUnsigned32", "(I)J"⟩ : MethodName) prog_5_method_7_code 5 (some .long) ({ frames := 0, cells := 0, slots := 0, locals := 0 } : Room) #[(.ref a), (.int (1 : Int32))] h0 n0 (.long (FU1 b0 b1 b2 b3 b4 b5 b6 b7)) := by
  refine own_met (Ls := #[.val (.ref a), .val (.int (1 : Int32)), .unset, .unset, .unset]) hw own_pl3 (fun m => by first | (simp [entryFrame, mkF, argsToLocals, Value.category]; done) | rfl) ?_
  intro B H
  refine own_lconst H (0 : Int64) (by decide) d3_0 ?_
  refine own_lstore_n H #[.val (.ref a), .val (.int (1 : Int32)), .val (.long (0 : Int64)), .second, .unset] rfl d3_1 ?_
  refine own_iload_n H rfl d3_2 ?_
  refine own_istore H #[.val (.ref a), .val (.int (1 : Int32)), .val (.long (0 : Int64)), .second, .val (.int (1 : Int32))] rfl d3_3 ?_
  refine own_iload H rfl d3_5 ?_
  refine own_iload_n H rfl d3_7 ?_
  refine own_iconst H (4 : Int32) (by decide) d3_8 ?_
  refine own_iadd (v := (5 : Int32)) H (by decide) d3_9 ?_
  refine own_icmpge_f H d3_10 (by decide) ?_
  refine own_lload_n H rfl d3_13 ?_
  refine own_bipush H (8 : Int32) (by decide) d3_14 ?_
  refine own_lshl (v := (0 : Int64)) H (by decide) d3_16 ?_
  refine own_aload_n H rfl rfl d3_17 ?_
  refine own_getfield H (w := 17) rfl hR0 d3_18 ?_
  refine own_iload H rfl d3_21 ?_
  refine own_baloadV H hV (by decide) (by decide) rfl d3_23 ?_
  refine own_sipush H (255 : Int32) (by decide) d3_24 ?_
  refine own_iand H rfl d3_27 ?_
  refine own_i2l H rfl d3_28 ?_
  refine own_lor H rfl d3_29 ?_
  refine own_lstore_n H #[.val (.ref a), .val (.int (1 : Int32)), .val (.long ((0 : Int64) ||| ((b1 &&& (255 : Int32)).toInt64))), .second, .val (.int (1 : Int32))] rfl d3_30 ?_
  refine own_iinc H (1 : Int32) (by decide) rfl (by decide) #[.val (.ref a), .val (.int (1 : Int32)), .val (.long ((0 : Int64) ||| ((b1 &&& (255 : Int32)).toInt64))), .second, .val (.int (2 : Int32))] rfl d3_31 ?_
  refine own_goto H (pc' := 5) d3_34 (by decide) (by decide) ?_
  refine own_iload H rfl d3_5 ?_
  refine own_iload_n H rfl d3_7 ?_
  refine own_iconst H (4 : Int32) (by decide) d3_8 ?_
  refine own_iadd (v := (5 : Int32)) H (by decide) d3_9 ?_
  refine own_icmpge_f H d3_10 (by decide) ?_
  refine own_lload_n H rfl d3_13 ?_
  refine own_bipush H (8 : Int32) (by decide) d3_14 ?_
  refine own_lshl H rfl d3_16 ?_
  refine own_aload_n H rfl rfl d3_17 ?_
  refine own_getfield H (w := 17) rfl hR0 d3_18 ?_
  refine own_iload H rfl d3_21 ?_
  refine own_baloadV H hV (by decide) (by decide) rfl d3_23 ?_
  refine own_sipush H (255 : Int32) (by decide) d3_24 ?_
  refine own_iand H rfl d3_27 ?_
  refine own_i2l H rfl d3_28 ?_
  refine own_lor H rfl d3_29 ?_
  refine own_lstore_n H #[.val (.ref a), .val (.int (1 : Int32)), .val (.long ((((0 : Int64) ||| ((b1 &&& (255 : Int32)).toInt64)) <<< ((8 : Int32).toInt64 &&& 63)) ||| ((b2 &&& (255 : Int32)).toInt64))), .second, .val (.int (2 : Int32))] rfl d3_30 ?_
  refine own_iinc H (1 : Int32) (by decide) rfl (by decide) #[.val (.ref a), .val (.int (1 : Int32)), .val (.long ((((0 : Int64) ||| ((b1 &&& (255 : Int32)).toInt64)) <<< ((8 : Int32).toInt64 &&& 63)) ||| ((b2 &&& (255 : Int32)).toInt64))), .second, .val (.int (3 : Int32))] rfl d3_31 ?_
  refine own_goto H (pc' := 5) d3_34 (by decide) (by decide) ?_
  refine own_iload H rfl d3_5 ?_
  refine own_iload_n H rfl d3_7 ?_
  refine own_iconst H (4 : Int32) (by decide) d3_8 ?_
  refine own_iadd (v := (5 : Int32)) H (by decide) d3_9 ?_
  refine own_icmpge_f H d3_10 (by decide) ?_
  refine own_lload_n H rfl d3_13 ?_
  refine own_bipush H (8 : Int32) (by decide) d3_14 ?_
  refine own_lshl H rfl d3_16 ?_
  refine own_aload_n H rfl rfl d3_17 ?_
  refine own_getfield H (w := 17) rfl hR0 d3_18 ?_
  refine own_iload H rfl d3_21 ?_
  refine own_baloadV H hV (by decide) (by decide) rfl d3_23 ?_
  refine own_sipush H (255 : Int32) (by decide) d3_24 ?_
  refine own_iand H rfl d3_27 ?_
  refine own_i2l H rfl d3_28 ?_
  refine own_lor H rfl d3_29 ?_
  refine own_lstore_n H #[.val (.ref a), .val (.int (1 : Int32)), .val (.long ((((((0 : Int64) ||| ((b1 &&& (255 : Int32)).toInt64)) <<< ((8 : Int32).toInt64 &&& 63)) ||| ((b2 &&& (255 : Int32)).toInt64)) <<< ((8 : Int32).toInt64 &&& 63)) ||| ((b3 &&& (255 : Int32)).toInt64))), .second, .val (.int (3 : Int32))] rfl d3_30 ?_
  refine own_iinc H (1 : Int32) (by decide) rfl (by decide) #[.val (.ref a), .val (.int (1 : Int32)), .val (.long ((((((0 : Int64) ||| ((b1 &&& (255 : Int32)).toInt64)) <<< ((8 : Int32).toInt64 &&& 63)) ||| ((b2 &&& (255 : Int32)).toInt64)) <<< ((8 : Int32).toInt64 &&& 63)) ||| ((b3 &&& (255 : Int32)).toInt64))), .second, .val (.int (4 : Int32))] rfl d3_31 ?_
  refine own_goto H (pc' := 5) d3_34 (by decide) (by decide) ?_
  refine own_iload H rfl d3_5 ?_
  refine own_iload_n H rfl d3_7 ?_
  refine own_iconst H (4 : Int32) (by decide) d3_8 ?_
  refine own_iadd (v := (5 : Int32)) H (by decide) d3_9 ?_
  refine own_icmpge_f H d3_10 (by decide) ?_
  refine own_lload_n H rfl d3_13 ?_
  refine own_bipush H (8 : Int32) (by decide) d3_14 ?_
  refine own_lshl H rfl d3_16 ?_
  refine own_aload_n H rfl rfl d3_17 ?_
  refine own_getfield H (w := 17) rfl hR0 d3_18 ?_
  refine own_iload H rfl d3_21 ?_
  refine own_baloadV H hV (by decide) (by decide) rfl d3_23 ?_
  refine own_sipush H (255 : Int32) (by decide) d3_24 ?_
  refine own_iand H rfl d3_27 ?_
  refine own_i2l H rfl d3_28 ?_
  refine own_lor H rfl d3_29 ?_
  refine own_lstore_n H #[.val (.ref a), .val (.int (1 : Int32)), .val (.long ((((((((0 : Int64) ||| ((b1 &&& (255 : Int32)).toInt64)) <<< ((8 : Int32).toInt64 &&& 63)) ||| ((b2 &&& (255 : Int32)).toInt64)) <<< ((8 : Int32).toInt64 &&& 63)) ||| ((b3 &&& (255 : Int32)).toInt64)) <<< ((8 : Int32).toInt64 &&& 63)) ||| ((b4 &&& (255 : Int32)).toInt64))), .second, .val (.int (4 : Int32))] rfl d3_30 ?_
  refine own_iinc H (1 : Int32) (by decide) rfl (by decide) #[.val (.ref a), .val (.int (1 : Int32)), .val (.long ((((((((0 : Int64) ||| ((b1 &&& (255 : Int32)).toInt64)) <<< ((8 : Int32).toInt64 &&& 63)) ||| ((b2 &&& (255 : Int32)).toInt64)) <<< ((8 : Int32).toInt64 &&& 63)) ||| ((b3 &&& (255 : Int32)).toInt64)) <<< ((8 : Int32).toInt64 &&& 63)) ||| ((b4 &&& (255 : Int32)).toInt64))), .second, .val (.int (5 : Int32))] rfl d3_31 ?_
  refine own_goto H (pc' := 5) d3_34 (by decide) (by decide) ?_
  refine own_iload H rfl d3_5 ?_
  refine own_iload_n H rfl d3_7 ?_
  refine own_iconst H (4 : Int32) (by decide) d3_8 ?_
  refine own_iadd (v := (5 : Int32)) H (by decide) d3_9 ?_
  refine own_icmpge_t H (pc' := 37) d3_10 (by decide) (by decide) (by decide) ?_
  refine own_lload_n H rfl d3_37 ?_
  exact own_lreturn H d3_38 (by decide) (by decide) ⟨by show some _ = some _; rw [FU1], rfl⟩
def FU2 (b0 : Int32) (b1 : Int32) (b2 : Int32) (b3 : Int32) (b4 : Int32) (b5 : Int32) (b6 : Int32) (b7 : Int32) : Int64 := ((((((((0 : Int64) ||| ((b2 &&& (255 : Int32)).toInt64)) <<< ((8 : Int32).toInt64 &&& 63)) ||| ((b3 &&& (255 : Int32)).toInt64)) <<< ((8 : Int32).toInt64 &&& 63)) ||| ((b4 &&& (255 : Int32)).toInt64)) <<< ((8 : Int32).toInt64 &&& 63)) ||| ((b5 &&& (255 : Int32)).toInt64))
set_option maxHeartbeats 4000000 in
theorem rmU2 (l : Launch) (Z : State) (a0 : Array Value) (hw : ∀ (i : Nat) (d : Jvm.Cond), tables_1[i]? = some d → d.before a0 Z = true) (h0 : Heap) (n0 : Nat) (a : Addr)  (t : Addr) (kA : ClassId) (b0 b1 b2 b3 b4 b5 b6 b7 : Int32) (hV : Arv Z h0 t kA .byte (8 : Int32) [(.int b0), (.int b1), (.int b2), (.int b3), (.int b4), (.int b5), (.int b6), (.int b7)] (.int 0)) (hR0 : Fld Z h0 a "com/example/trailwire/trailwire/http2/Frame" "payload" "[B" (.ref t)) :
    own_P l Z (⟨"com/example/trailwire/trailwire/http2/Frame", "readUnsigned32", "(I)J"⟩ : MethodName) prog_5_method_7_code 5 (some .long) ({ frames := 0, cells := 0, slots := 0, locals := 0 } : Room) #[(.ref a), (.int (2 : Int32))] h0 n0 (.long (FU2 b0 b1 b2 b3 b4 b5 b6 b7)) := by
  refine own_met (Ls := #[.val (.ref a), .val (.int (2 : Int32)), .unset, .unset, .unset]) hw own_pl3 (fun m => by first | (simp [entryFrame, mkF, argsToLocals, Value.category]; done) | rfl) ?_
  intro B H
  refine own_lconst H (0 : Int64) (by decide) d3_0 ?_
  refine own_lstore_n H #[.val (.ref a), .val (.int (2 : Int32)), .val (.long (0 : Int64)), .second, .unset] rfl d3_1 ?_
  refine own_iload_n H rfl d3_2 ?_
  refine own_istore H #[.val (.ref a), .val (.int (2 : Int32)), .val (.long (0 : Int64)), .second, .val (.int (2 : Int32))] rfl d3_3 ?_
  refine own_iload H rfl d3_5 ?_
  refine own_iload_n H rfl d3_7 ?_
  refine own_iconst H (4 : Int32) (by decide) d3_8 ?_
  refine own_iadd (v := (6 : Int32)) H (by decide) d3_9 ?_
  refine own_icmpge_f H d3_10 (by decide) ?_
  refine own_lload_n H rfl d3_13 ?_
  refine own_bipush H (8 : Int32) (by decide) d3_14 ?_
  refine own_lshl (v := (0 : Int64)) H (by decide) d3_16 ?_
  refine own_aload_n H rfl rfl d3_17 ?_
  refine own_getfield H (w := 17) rfl hR0 d3_18 ?_
  refine own_iload H rfl d3_21 ?_
  refine own_baloadV H hV (by decide) (by decide) rfl d3_23 ?_
  refine own_sipush H (255 : Int32) (by decide) d3_24 ?_
  refine own_iand H rfl d3_27 ?_
  refine own_i2l H rfl d3_28 ?_
  refine own_lor H rfl d3_29 ?_
  refine own_lstore_n H #[.val (.ref a), .val (.int (2 : Int32)), .val (.long ((0 : Int64) ||| ((b2 &&& (255 : Int32)).toInt64))), .second, .val (.int (2 : Int32))] rfl d3_30 ?_
  refine own_iinc H (1 : Int32) (by decide) rfl (by decide) #[.val (.ref a), .val (.int (2 : Int32)), .val (.long ((0 : Int64) ||| ((b2 &&& (255 : Int32)).toInt64))), .second, .val (.int (3 : Int32))] rfl d3_31 ?_
  refine own_goto H (pc' := 5) d3_34 (by decide) (by decide) ?_
  refine own_iload H rfl d3_5 ?_
  refine own_iload_n H rfl d3_7 ?_
  refine own_iconst H (4 : Int32) (by decide) d3_8 ?_
  refine own_iadd (v := (6 : Int32)) H (by decide) d3_9 ?_
  refine own_icmpge_f H d3_10 (by decide) ?_
  refine own_lload_n H rfl d3_13 ?_
  refine own_bipush H (8 : Int32) (by decide) d3_14 ?_
  refine own_lshl H rfl d3_16 ?_
  refine own_aload_n H rfl rfl d3_17 ?_
  refine own_getfield H (w := 17) rfl hR0 d3_18 ?_
  refine own_iload H rfl d3_21 ?_
  refine own_baloadV H hV (by decide) (by decide) rfl d3_23 ?_
  refine own_sipush H (255 : Int32) (by decide) d3_24 ?_
  refine own_iand H rfl d3_27 ?_
  refine own_i2l H rfl d3_28 ?_
  refine own_lor H rfl d3_29 ?_
  refine own_lstore_n H #[.val (.ref a), .val (.int (2 : Int32)), .val (.long ((((0 : Int64) ||| ((b2 &&& (255 : Int32)).toInt64)) <<< ((8 : Int32).toInt64 &&& 63)) ||| ((b3 &&& (255 : Int32)).toInt64))), .second, .val (.int (3 : Int32))] rfl d3_30 ?_
  refine own_iinc H (1 : Int32) (by decide) rfl (by decide) #[.val (.ref a), .val (.int (2 : Int32)), .val (.long ((((0 : Int64) ||| ((b2 &&& (255 : Int32)).toInt64)) <<< ((8 : Int32).toInt64 &&& 63)) ||| ((b3 &&& (255 : Int32)).toInt64))), .second, .val (.int (4 : Int32))] rfl d3_31 ?_
  refine own_goto H (pc' := 5) d3_34 (by decide) (by decide) ?_
  refine own_iload H rfl d3_5 ?_
  refine own_iload_n H rfl d3_7 ?_
  refine own_iconst H (4 : Int32) (by decide) d3_8 ?_
  refine own_iadd (v := (6 : Int32)) H (by decide) d3_9 ?_
  refine own_icmpge_f H d3_10 (by decide) ?_
  refine own_lload_n H rfl d3_13 ?_
  refine own_bipush H (8 : Int32) (by decide) d3_14 ?_
  refine own_lshl H rfl d3_16 ?_
  refine own_aload_n H rfl rfl d3_17 ?_
  refine own_getfield H (w := 17) rfl hR0 d3_18 ?_
  refine own_iload H rfl d3_21 ?_
  refine own_baloadV H hV (by decide) (by decide) rfl d3_23 ?_
  refine own_sipush H (255 : Int32) (by decide) d3_24 ?_
  refine own_iand H rfl d3_27 ?_
  refine own_i2l H rfl d3_28 ?_
  refine own_lor H rfl d3_29 ?_
  refine own_lstore_n H #[.val (.ref a), .val (.int (2 : Int32)), .val (.long ((((((0 : Int64) ||| ((b2 &&& (255 : Int32)).toInt64)) <<< ((8 : Int32).toInt64 &&& 63)) ||| ((b3 &&& (255 : Int32)).toInt64)) <<< ((8 : Int32).toInt64 &&& 63)) ||| ((b4 &&& (255 : Int32)).toInt64))), .second, .val (.int (4 : Int32))] rfl d3_30 ?_
  refine own_iinc H (1 : Int32) (by decide) rfl (by decide) #[.val (.ref a), .val (.int (2 : Int32)), .val (.long ((((((0 : Int64) ||| ((b2 &&& (255 : Int32)).toInt64)) <<< ((8 : Int32).toInt64 &&& 63)) ||| ((b3 &&& (255 : Int32)).toInt64)) <<< ((8 : Int32).toInt64 &&& 63)) ||| ((b4 &&& (255 : Int32)).toInt64))), .second, .val (.int (5 : Int32))] rfl d3_31 ?_
  refine own_goto H (pc' := 5) d3_34 (by decide) (by decide) ?_
  refine own_iload H rfl d3_5 ?_
  refine own_iload_n H rfl d3_7 ?_
  refine own_iconst H (4 : Int32) (by decide) d3_8 ?_
  refine own_iadd (v := (6 : Int32)) H (by decide) d3_9 ?_
  refine own_icmpge_f H d3_10 (by decide) ?_
  refine own_lload_n H rfl d3_13 ?_
  refine own_bipush H (8 : Int32) (by decide) d3_14 ?_
  refine own_lshl H rfl d3_16 ?_
  refine own_aload_n H rfl rfl d3_17 ?_
  refine own_getfield H (w := 17) rfl hR0 d3_18 ?_
  refine own_iload H rfl d3_21 ?_
  refine own_baloadV H hV (by decide) (by decide) rfl d3_23 ?_
  refine own_sipush H (255 : Int32) (by decide) d3_24 ?_
  refine own_iand H rfl d3_27 ?_
  refine own_i2l H rfl d3_28 ?_
  refine own_lor H rfl d3_29 ?_
  refine own_lstore_n H #[.val (.ref a), .val (.int (2 : Int32)), .val (.long ((((((((0 : Int64) ||| ((b2 &&& (255 : Int32)).toInt64)) <<< ((8 : Int32).toInt64 &&& 63)) ||| ((b3 &&& (255 : Int32)).toInt64)) <<< ((8 : Int32).toInt64 &&& 63)) ||| ((b4 &&& (255 : Int32)).toInt64)) <<< ((8 : Int32).toInt64 &&& 63)) ||| ((b5 &&& (255 : Int32)).toInt64))), .second, .val (.int (5 : Int32))] rfl d3_30 ?_
  refine own_iinc H (1 : Int32) (by decide) rfl (by decide) #[.val (.ref a), .val (.int (2 : Int32)), .val (.long ((((((((0 : Int64) ||| ((b2 &&& (255 : Int32)).toInt64)) <<< ((8 : Int32).toInt64 &&& 63)) ||| ((b3 &&& (255 : Int32)).toInt64)) <<< ((8 : Int32).toInt64 &&& 63)) ||| ((b4 &&& (255 : Int32)).toInt64)) <<< ((8 : Int32).toInt64 &&& 63)) ||| ((b5 &&& (255 : Int32)).toInt64))), .second, .val (.int (6 : Int32))] rfl d3_31 ?_
  refine own_goto H (pc' := 5) d3_34 (by decide) (by decide) ?_
  refine own_iload H rfl d3_5 ?_
  refine own_iload_n H rfl d3_7 ?_
  refine own_iconst H (4 : Int32) (by decide) d3_8 ?_
  refine own_iadd (v := (6 : Int32)) H (by decide) d3_9 ?_
  refine own_icmpge_t H (pc' := 37) d3_10 (by decide) (by decide) (by decide) ?_
  refine own_lload_n H rfl d3_37 ?_
  exact own_lreturn H d3_38 (by decide) (by decide) ⟨by show some _ = some _; rw [FU2], rfl⟩
def FU3 (b0 : Int32) (b1 : Int32) (b2 : Int32) (b3 : Int32) (b4 : Int32) (b5 : Int32) (b6 : Int32) (b7 : Int32) : Int64 := ((((((((0 : Int64) ||| ((b3 &&& (255 : Int32)).toInt64)) <<< ((8 : Int32).toInt64 &&& 63)) ||| ((b4 &&& (255 : Int32)).toInt64)) <<< ((8 : Int32).toInt64 &&& 63)) ||| ((b5 &&& (255 : Int32)).toInt64)) <<< ((8 : Int32).toInt64 &&& 63)) ||| ((b6 &&& (255 : Int32)).toInt64))
set_option maxHeartbeats 4000000 in
theorem rmU3 (l : Launch) (Z : State) (a0 : Array Value) (hw : ∀ (i : Nat) (d : Jvm.Cond), tables_1[i]? = some d → d.before a0 Z = true) (h0 : Heap) (n0 : Nat) (a : Addr)  (t : Addr) (kA : ClassId) (b0 b1 b2 b3 b4 b5 b6 b7 : Int32) (hV : Arv Z h0 t kA .byte (8 : Int32) [(.int b0), (.int b1), (.int b2), (.int b3), (.int b4), (.int b5), (.int b6), (.int b7)] (.int 0)) (hR0 : Fld Z h0 a "com/example/trailwire/trailwire/http2/Frame" "payload" "[B" (.ref t)) :
    own_P l Z (⟨"com/example/trailwire/trailwire/http2/Frame", "readUnsigned32", "(I)J"⟩ : MethodName) prog_5_method_7_code 5 (some .long) ({ frames := 0, cells := 0, slots := 0, locals := 0 } : Room) #[(.ref a), (.int (3 : Int32))] h0 n0 (.long (FU3 b0 b1 b2 b3 b4 b5 b6 b7)) := by
  refine own_met (Ls := #[.val (.ref a), .val (.int (3 : Int32)), .unset, .unset, .unset]) hw own_pl3 (fun m => by first | (simp [entryFrame, mkF, argsToLocals, Value.category]; done) | rfl) ?_
  intro B H
  refine own_lconst H (0 : Int64) (by decide) d3_0 ?_
  refine own_lstore_n H #[.val (.ref a), .val (.int (3 : Int32)), .val (.long (0 : Int64)), .second, .unset] rfl d3_1 ?_
  refine own_iload_n H rfl d3_2 ?_
  refine own_istore H #[.val (.ref a), .val (.int (3 : Int32)), .val (.long (0 : Int64)), .second, .val (.int (3 : Int32))] rfl d3_3 ?_
  refine own_iload H rfl d3_5 ?_
  refine own_iload_n H rfl d3_7 ?_
  refine own_iconst H (4 : Int32) (by decide) d3_8 ?_
  refine own_iadd (v := (7 : Int32)) H (by decide) d3_9 ?_
  refine own_icmpge_f H d3_10 (by decide) ?_
  refine own_lload_n H rfl d3_13 ?_
  refine own_bipush H (8 : Int32) (by decide) d3_14 ?_
  refine own_lshl (v := (0 : Int64)) H (by decide) d3_16 ?_
  refine own_aload_n H rfl rfl d3_17 ?_
  refine own_getfield H (w := 17) rfl hR0 d3_18 ?_
  refine own_iload H rfl d3_21 ?_
  refine own_baloadV H hV (by decide) (by decide) rfl d3_23 ?_
  refine own_sipush H (255 : Int32) (by decide) d3_24 ?_
  refine own_iand H rfl d3_27 ?_
  refine own_i2l H rfl d3_28 ?_
  refine own_lor H rfl d3_29 ?_
  refine own_lstore_n H #[.val (.ref a), .val (.int (3 : Int32)), .val (.long ((0 : Int64) ||| ((b3 &&& (255 : Int32)).toInt64))), .second, .val (.int (3 : Int32))] rfl d3_30 ?_
  refine own_iinc H (1 : Int32) (by decide) rfl (by decide) #[.val (.ref a), .val (.int (3 : Int32)), .val (.long ((0 : Int64) ||| ((b3 &&& (255 : Int32)).toInt64))), .second, .val (.int (4 : Int32))] rfl d3_31 ?_
  refine own_goto H (pc' := 5) d3_34 (by decide) (by decide) ?_
  refine own_iload H rfl d3_5 ?_
  refine own_iload_n H rfl d3_7 ?_
  refine own_iconst H (4 : Int32) (by decide) d3_8 ?_
  refine own_iadd (v := (7 : Int32)) H (by decide) d3_9 ?_
  refine own_icmpge_f H d3_10 (by decide) ?_
  refine own_lload_n H rfl d3_13 ?_
  refine own_bipush H (8 : Int32) (by decide) d3_14 ?_
  refine own_lshl H rfl d3_16 ?_
  refine own_aload_n H rfl rfl d3_17 ?_
  refine own_getfield H (w := 17) rfl hR0 d3_18 ?_
  refine own_iload H rfl d3_21 ?_
  refine own_baloadV H hV (by decide) (by decide) rfl d3_23 ?_
  refine own_sipush H (255 : Int32) (by decide) d3_24 ?_
  refine own_iand H rfl d3_27 ?_
  refine own_i2l H rfl d3_28 ?_
  refine own_lor H rfl d3_29 ?_
  refine own_lstore_n H #[.val (.ref a), .val (.int (3 : Int32)), .val (.long ((((0 : Int64) ||| ((b3 &&& (255 : Int32)).toInt64)) <<< ((8 : Int32).toInt64 &&& 63)) ||| ((b4 &&& (255 : Int32)).toInt64))), .second, .val (.int (4 : Int32))] rfl d3_30 ?_
  refine own_iinc H (1 : Int32) (by decide) rfl (by decide) #[.val (.ref a), .val (.int (3 : Int32)), .val (.long ((((0 : Int64) ||| ((b3 &&& (255 : Int32)).toInt64)) <<< ((8 : Int32).toInt64 &&& 63)) ||| ((b4 &&& (255 : Int32)).toInt64))), .second, .val (.int (5 : Int32))] rfl d3_31 ?_
  refine own_goto H (pc' := 5) d3_34 (by decide) (by decide) ?_
  refine own_iload H rfl d3_5 ?_
  refine own_iload_n H rfl d3_7 ?_
  refine own_iconst H (4 : Int32) (by decide) d3_8 ?_
  refine own_iadd (v := (7 : Int32)) H (by decide) d3_9 ?_
  refine own_icmpge_f H d3_10 (by decide) ?_
  refine own_lload_n H rfl d3_13 ?_
  refine own_bipush H (8 : Int32) (by decide) d3_14 ?_
  refine own_lshl H rfl d3_16 ?_
  refine own_aload_n H rfl rfl d3_17 ?_
  refine own_getfield H (w := 17) rfl hR0 d3_18 ?_
  refine own_iload H rfl d3_21 ?_
  refine own_baloadV H hV (by decide) (by decide) rfl d3_23 ?_
  refine own_sipush H (255 : Int32) (by decide) d3_24 ?_
  refine own_iand H rfl d3_27 ?_
  refine own_i2l H rfl d3_28 ?_
  refine own_lor H rfl d3_29 ?_
  refine own_lstore_n H #[.val (.ref a), .val (.int (3 : Int32)), .val (.long ((((((0 : Int64) ||| ((b3 &&& (255 : Int32)).toInt64)) <<< ((8 : Int32).toInt64 &&& 63)) ||| ((b4 &&& (255 : Int32)).toInt64)) <<< ((8 : Int32).toInt64 &&& 63)) ||| ((b5 &&& (255 : Int32)).toInt64))), .second, .val (.int (5 : Int32))] rfl d3_30 ?_
  refine own_iinc H (1 : Int32) (by decide) rfl (by decide) #[.val (.ref a), .val (.int (3 : Int32)), .val (.long ((((((0 : Int64) ||| ((b3 &&& (255 : Int32)).toInt64)) <<< ((8 : Int32).toInt64 &&& 63)) ||| ((b4 &&& (255 : Int32)).toInt64)) <<< ((8 : Int32).toInt64 &&& 63)) ||| ((b5 &&& (255 : Int32)).toInt64))), .second, .val (.int (6 : Int32))] rfl d3_31 ?_
  refine own_goto H (pc' := 5) d3_34 (by decide) (by decide) ?_
  refine own_iload H rfl d3_5 ?_
  refine own_iload_n H rfl d3_7 ?_
  refine own_iconst H (4 : Int32) (by decide) d3_8 ?_
  refine own_iadd (v := (7 : Int32)) H (by decide) d3_9 ?_
  refine own_icmpge_f H d3_10 (by decide) ?_
  refine own_lload_n H rfl d3_13 ?_
  refine own_bipush H (8 : Int32) (by decide) d3_14 ?_
  refine own_lshl H rfl d3_16 ?_
  refine own_aload_n H rfl rfl d3_17 ?_
  refine own_getfield H (w := 17) rfl hR0 d3_18 ?_
  refine own_iload H rfl d3_21 ?_
  refine own_baloadV H hV (by decide) (by decide) rfl d3_23 ?_
  refine own_sipush H (255 : Int32) (by decide) d3_24 ?_
  refine own_iand H rfl d3_27 ?_
  refine own_i2l H rfl d3_28 ?_
  refine own_lor H rfl d3_29 ?_
  refine own_lstore_n H #[.val (.ref a), .val (.int (3 : Int32)), .val (.long ((((((((0 : Int64) ||| ((b3 &&& (255 : Int32)).toInt64)) <<< ((8 : Int32).toInt64 &&& 63)) ||| ((b4 &&& (255 : Int32)).toInt64)) <<< ((8 : Int32).toInt64 &&& 63)) ||| ((b5 &&& (255 : Int32)).toInt64)) <<< ((8 : Int32).toInt64 &&& 63)) ||| ((b6 &&& (255 : Int32)).toInt64))), .second, .val (.int (6 : Int32))] rfl d3_30 ?_
  refine own_iinc H (1 : Int32) (by decide) rfl (by decide) #[.val (.ref a), .val (.int (3 : Int32)), .val (.long ((((((((0 : Int64) ||| ((b3 &&& (255 : Int32)).toInt64)) <<< ((8 : Int32).toInt64 &&& 63)) ||| ((b4 &&& (255 : Int32)).toInt64)) <<< ((8 : Int32).toInt64 &&& 63)) ||| ((b5 &&& (255 : Int32)).toInt64)) <<< ((8 : Int32).toInt64 &&& 63)) ||| ((b6 &&& (255 : Int32)).toInt64))), .second, .val (.int (7 : Int32))] rfl d3_31 ?_
  refine own_goto H (pc' := 5) d3_34 (by decide) (by decide) ?_
  refine own_iload H rfl d3_5 ?_
  refine own_iload_n H rfl d3_7 ?_
  refine own_iconst H (4 : Int32) (by decide) d3_8 ?_
  refine own_iadd (v := (7 : Int32)) H (by decide) d3_9 ?_
  refine own_icmpge_t H (pc' := 37) d3_10 (by decide) (by decide) (by decide) ?_
  refine own_lload_n H rfl d3_37 ?_
  exact own_lreturn H d3_38 (by decide) (by decide) ⟨by show some _ = some _; rw [FU3], rfl⟩
def FU4 (b0 : Int32) (b1 : Int32) (b2 : Int32) (b3 : Int32) (b4 : Int32) (b5 : Int32) (b6 : Int32) (b7 : Int32) : Int64 := ((((((((0 : Int64) ||| ((b4 &&& (255 : Int32)).toInt64)) <<< ((8 : Int32).toInt64 &&& 63)) ||| ((b5 &&& (255 : Int32)).toInt64)) <<< ((8 : Int32).toInt64 &&& 63)) ||| ((b6 &&& (255 : Int32)).toInt64)) <<< ((8 : Int32).toInt64 &&& 63)) ||| ((b7 &&& (255 : Int32)).toInt64))
set_option maxHeartbeats 4000000 in
theorem rmU4 (l : Launch) (Z : State) (a0 : Array Value) (hw : ∀ (i : Nat) (d : Jvm.Cond), tables_1[i]? = some d → d.before a0 Z = true) (h0 : Heap) (n0 : Nat) (a : Addr)  (t : Addr) (kA : ClassId) (b0 b1 b2 b3 b4 b5 b6 b7 : Int32) (hV : Arv Z h0 t kA .byte (8 : Int32) [(.int b0), (.int b1), (.int b2), (.int b3), (.int b4), (.int b5), (.int b6), (.int b7)] (.int 0)) (hR0 : Fld Z h0 a "com/example/trailwire/trailwire/http2/Frame" "payload" "[B" (.ref t)) :
    own_P l Z (⟨"com/example/trailwire/trailwire/http2/Frame", "readUnsigned32", "(I)J"⟩ : MethodName) prog_5_method_7_code 5 (some .long) ({ frames := 0, cells := 0, slots := 0, locals := 0 } : Room) #[(.ref a), (.int (4 : Int32))] h0 n0 (.long (FU4 b0 b1 b2 b3 b4 b5 b6 b7)) := by
  refine own_met (Ls := #[.val (.ref a), .val (.int (4 : Int32)), .unset, .unset, .unset]) hw own_pl3 (fun m => by first | (simp [entryFrame, mkF, argsToLocals, Value.category]; done) | rfl) ?_
  intro B H
  refine own_lconst H (0 : Int64) (by decide) d3_0 ?_
  refine own_lstore_n H #[.val (.ref a), .val (.int (4 : Int32)), .val (.long (0 : Int64)), .second, .unset] rfl d3_1 ?_
  refine own_iload_n H rfl d3_2 ?_
  refine own_istore H #[.val (.ref a), .val (.int (4 : Int32)), .val (.long (0 : Int64)), .second, .val (.int (4 : Int32))] rfl d3_3 ?_
  refine own_iload H rfl d3_5 ?_
  refine own_iload_n H rfl d3_7 ?_
  refine own_iconst H (4 : Int32) (by decide) d3_8 ?_
  refine own_iadd (v := (8 : Int32)) H (by decide) d3_9 ?_
  refine own_icmpge_f H d3_10 (by decide) ?_
  refine own_lload_n H rfl d3_13 ?_
  refine own_bipush H (8 : Int32) (by decide) d3_14 ?_
  refine own_lshl (v := (0 : Int64)) H (by decide) d3_16 ?_
  refine own_aload_n H rfl rfl d3_17 ?_
  refine own_getfield H (w := 17) rfl hR0 d3_18 ?_
  refine own_iload H rfl d3_21 ?_
  refine own_baloadV H hV (by decide) (by decide) rfl d3_23 ?_
  refine own_sipush H (255 : Int32) (by decide) d3_24 ?_
  refine own_iand H rfl d3_27 ?_
  refine own_i2l H rfl d3_28 ?_
  refine own_lor H rfl d3_29 ?_
  refine own_lstore_n H #[.val (.ref a), .val (.int (4 : Int32)), .val (.long ((0 : Int64) ||| ((b4 &&& (255 : Int32)).toInt64))), .second, .val (.int (4 : Int32))] rfl d3_30 ?_
  refine own_iinc H (1 : Int32) (by decide) rfl (by decide) #[.val (.ref a), .val (.int (4 : Int32)), .val (.long ((0 : Int64) ||| ((b4 &&& (255 : Int32)).toInt64))), .second, .val (.int (5 : Int32))] rfl d3_31 ?_
  refine own_goto H (pc' := 5) d3_34 (by decide) (by decide) ?_
  refine own_iload H rfl d3_5 ?_
  refine own_iload_n H rfl d3_7 ?_
  refine own_iconst H (4 : Int32) (by decide) d3_8 ?_
  refine own_iadd (v := (8 : Int32)) H (by decide) d3_9 ?_
  refine own_icmpge_f H d3_10 (by decide) ?_
  refine own_lload_n H rfl d3_13 ?_
  refine own_bipush H (8 : Int32) (by decide) d3_14 ?_
  refine own_lshl H rfl d3_16 ?_
  refine own_aload_n H rfl rfl d3_17 ?_
  refine own_getfield H (w := 17) rfl hR0 d3_18 ?_
  refine own_iload H rfl d3_21 ?_
  refine own_baloadV H hV (by decide) (by decide) rfl d3_23 ?_
  refine own_sipush H (255 : Int32) (by decide) d3_24 ?_
  refine own_iand H rfl d3_27 ?_
  refine own_i2l H rfl d3_28 ?_
  refine own_lor H rfl d3_29 ?_
  refine own_lstore_n H #[.val (.ref a), .val (.int (4 : Int32)), .val (.long ((((0 : Int64) ||| ((b4 &&& (255 : Int32)).toInt64)) <<< ((8 : Int32).toInt64 &&& 63)) ||| ((b5 &&& (255 : Int32)).toInt64))), .second, .val (.int (5 : Int32))] rfl d3_30 ?_
  refine own_iinc H (1 : Int32) (by decide) rfl (by decide) #[.val (.ref a), .val (.int (4 : Int32)), .val (.long ((((0 : Int64) ||| ((b4 &&& (255 : Int32)).toInt64)) <<< ((8 : Int32).toInt64 &&& 63)) ||| ((b5 &&& (255 : Int32)).toInt64))), .second, .val (.int (6 : Int32))] rfl d3_31 ?_
  refine own_goto H (pc' := 5) d3_34 (by decide) (by decide) ?_
  refine own_iload H rfl d3_5 ?_
  refine own_iload_n H rfl d3_7 ?_
  refine own_iconst H (4 : Int32) (by decide) d3_8 ?_
  refine own_iadd (v := (8 : Int32)) H (by decide) d3_9 ?_
  refine own_icmpge_f H d3_10 (by decide) ?_
  refine own_lload_n H rfl d3_13 ?_
  refine own_bipush H (8 : Int32) (by decide) d3_14 ?_
  refine own_lshl H rfl d3_16 ?_
  refine own_aload_n H rfl rfl d3_17 ?_
  refine own_getfield H (w := 17) rfl hR0 d3_18 ?_
  refine own_iload H rfl d3_21 ?_
  refine own_baloadV H hV (by decide) (by decide) rfl d3_23 ?_
  refine own_sipush H (255 : Int32) (by decide) d3_24 ?_
  refine own_iand H rfl d3_27 ?_
  refine own_i2l H rfl d3_28 ?_
  refine own_lor H rfl d3_29 ?_
  refine own_lstore_n H #[.val (.ref a), .val (.int (4 : Int32)), .val (.long ((((((0 : Int64) ||| ((b4 &&& (255 : Int32)).toInt64)) <<< ((8 : Int32).toInt64 &&& 63)) ||| ((b5 &&& (255 : Int32)).toInt64)) <<< ((8 : Int32).toInt64 &&& 63)) ||| ((b6 &&& (255 : Int32)).toInt64))), .second, .val (.int (6 : Int32))] rfl d3_30 ?_
  refine own_iinc H (1 : Int32) (by decide) rfl (by decide) #[.val (.ref a), .val (.int (4 : Int32)), .val (.long ((((((0 : Int64) ||| ((b4 &&& (255 : Int32)).toInt64)) <<< ((8 : Int32).toInt64 &&& 63)) ||| ((b5 &&& (255 : Int32)).toInt64)) <<< ((8 : Int32).toInt64 &&& 63)) ||| ((b6 &&& (255 : Int32)).toInt64))), .second, .val (.int (7 : Int32))] rfl d3_31 ?_
  refine own_goto H (pc' := 5) d3_34 (by decide) (by decide) ?_
  refine own_iload H rfl d3_5 ?_
  refine own_iload_n H rfl d3_7 ?_
  refine own_iconst H (4 : Int32) (by decide) d3_8 ?_
  refine own_iadd (v := (8 : Int32)) H (by decide) d3_9 ?_
  refine own_icmpge_f H d3_10 (by decide) ?_
  refine own_lload_n H rfl d3_13 ?_
  refine own_bipush H (8 : Int32) (by decide) d3_14 ?_
  refine own_lshl H rfl d3_16 ?_
  refine own_aload_n H rfl rfl d3_17 ?_
  refine own_getfield H (w := 17) rfl hR0 d3_18 ?_
  refine own_iload H rfl d3_21 ?_
  refine own_baloadV H hV (by decide) (by decide) rfl d3_23 ?_
  refine own_sipush H (255 : Int32) (by decide) d3_24 ?_
  refine own_iand H rfl d3_27 ?_
  refine own_i2l H rfl d3_28 ?_
  refine own_lor H rfl d3_29 ?_
  refine own_lstore_n H #[.val (.ref a), .val (.int (4 : Int32)), .val (.long ((((((((0 : Int64) ||| ((b4 &&& (255 : Int32)).toInt64)) <<< ((8 : Int32).toInt64 &&& 63)) ||| ((b5 &&& (255 : Int32)).toInt64)) <<< ((8 : Int32).toInt64 &&& 63)) ||| ((b6 &&& (255 : Int32)).toInt64)) <<< ((8 : Int32).toInt64 &&& 63)) ||| ((b7 &&& (255 : Int32)).toInt64))), .second, .val (.int (7 : Int32))] rfl d3_30 ?_
  refine own_iinc H (1 : Int32) (by decide) rfl (by decide) #[.val (.ref a), .val (.int (4 : Int32)), .val (.long ((((((((0 : Int64) ||| ((b4 &&& (255 : Int32)).toInt64)) <<< ((8 : Int32).toInt64 &&& 63)) ||| ((b5 &&& (255 : Int32)).toInt64)) <<< ((8 : Int32).toInt64 &&& 63)) ||| ((b6 &&& (255 : Int32)).toInt64)) <<< ((8 : Int32).toInt64 &&& 63)) ||| ((b7 &&& (255 : Int32)).toInt64))), .second, .val (.int (8 : Int32))] rfl d3_31 ?_
  refine own_goto H (pc' := 5) d3_34 (by decide) (by decide) ?_
  refine own_iload H rfl d3_5 ?_
  refine own_iload_n H rfl d3_7 ?_
  refine own_iconst H (4 : Int32) (by decide) d3_8 ?_
  refine own_iadd (v := (8 : Int32)) H (by decide) d3_9 ?_
  refine own_icmpge_t H (pc' := 37) d3_10 (by decide) (by decide) (by decide) ?_
  refine own_lload_n H rfl d3_37 ?_
  exact own_lreturn H d3_38 (by decide) (by decide) ⟨by show some _ = some _; rw [FU4], rfl⟩
theorem own_and31 (p : Int32) : 0 ≤ (p &&& (2147483647 : Int32)).toInt := by
  have h : (p &&& (2147483647 : Int32)).toBitVec.toNat = p.toBitVec.toNat % 2147483648 := by
    have : (p &&& (2147483647 : Int32)).toBitVec.toNat = p.toBitVec.toNat &&& 2147483647 := by
      rw [Int32.toBitVec_and, BitVec.toNat_and]; rfl
    rw [this]
    exact Nat.and_two_pow_sub_one_eq_mod _ 31
  show 0 ≤ (p &&& (2147483647 : Int32)).toBitVec.toInt
  rw [BitVec.toInt_eq_toNat_cond, if_pos (by omega)]
  omega
theorem own_mod (p q : Int32) (hq : 0 < q.toInt) (hq2 : q.toInt < 1000) : 0 ≤ ((p &&& (2147483647 : Int32)) % q).toInt ∧ ((p &&& (2147483647 : Int32)) % q).toInt < q.toInt := by
  have h := own_and31 p
  rw [Int32.toInt_mod, Int.tmod_eq_emod_of_nonneg h]
  exact ⟨Int.emod_nonneg _ (by omega), Int.emod_lt_of_pos _ hq⟩

theorem own_k5 (p : Int32) (c0 : ¬ (p &&& (2147483647 : Int32)) % (5 : Int32) = (0 : Int32)) (c1 : ¬ (p &&& (2147483647 : Int32)) % (5 : Int32) = (1 : Int32)) (c2 : ¬ (p &&& (2147483647 : Int32)) % (5 : Int32) = (2 : Int32)) (c3 : ¬ (p &&& (2147483647 : Int32)) % (5 : Int32) = (3 : Int32)) : (p &&& (2147483647 : Int32)) % (5 : Int32) = (4 : Int32) := by
  obtain ⟨h1, h2⟩ := own_mod p 5 (by decide) (by decide)
  simp only [← Int32.toInt_inj] at *
  have e0 : (0 : Int32).toInt = 0 := rfl
  have e1 : (1 : Int32).toInt = 1 := by decide
  have e2 : (2 : Int32).toInt = 2 := by decide
  have e3 : (3 : Int32).toInt = 3 := by decide
  have e4 : (4 : Int32).toInt = 4 := by decide
  have e5 : (5 : Int32).toInt = 5 := by decide
  omega
theorem own_pl0 : plainFor x = true := plainFor_of_name (by first | (simp [plainName, overriddenIn]; done) | decide +kernel)
def F0 (p1 : Int64) (p2 : Int32) (p3 : Int32) (p4 : Int32) (p5 : Int32) : Int32 := if ((p2 &&& (2147483647 : Int32)) % (5 : Int32)) = (0 : Int32) then if (FU0 (nar .byte (((XT.ushrL p1 (56 : Int32)).toInt32).toInt8.toInt32)) (nar .byte (((XT.ushrL p1 (48 : Int32)).toInt32).toInt8.toInt32)) (nar .byte (((XT.ushrL p1 (40 : Int32)).toInt32).toInt8.toInt32)) (nar .byte (((XT.ushrL p1 (32 : Int32)).toInt32).toInt8.toInt32)) (nar .byte (((XT.ushrL p1 (24 : Int32)).toInt32).toInt8.toInt32)) (nar .byte (((XT.ushrL p1 (16 : Int32)).toInt32).toInt8.toInt32)) (nar .byte (((XT.ushrL p1 (8 : Int32)).toInt32).toInt8.toInt32)) (nar .byte ((p1.toInt32).toInt8.toInt32))) = ((XT.ushrL p1 (32 : Int32)) &&& (4294967295 : Int64)) then if (FU0 (nar .byte (((XT.ushrL p1 (56 : Int32)).toInt32).toInt8.toInt32)) (nar .byte (((XT.ushrL p1 (48 : Int32)).toInt32).toInt8.toInt32)) (nar .byte (((XT.ushrL p1 (40 : Int32)).toInt32).toInt8.toInt32)) (nar .byte (((XT.ushrL p1 (32 : Int32)).toInt32).toInt8.toInt32)) (nar .byte (((XT.ushrL p1 (24 : Int32)).toInt32).toInt8.toInt32)) (nar .byte (((XT.ushrL p1 (16 : Int32)).toInt32).toInt8.toInt32)) (nar .byte (((XT.ushrL p1 (8 : Int32)).toInt32).toInt8.toInt32)) (nar .byte ((p1.toInt32).toInt8.toInt32))) < (0 : Int64) then (0 : Int32) else if (4294967295 : Int64) < (FU0 (nar .byte (((XT.ushrL p1 (56 : Int32)).toInt32).toInt8.toInt32)) (nar .byte (((XT.ushrL p1 (48 : Int32)).toInt32).toInt8.toInt32)) (nar .byte (((XT.ushrL p1 (40 : Int32)).toInt32).toInt8.toInt32)) (nar .byte (((XT.ushrL p1 (32 : Int32)).toInt32).toInt8.toInt32)) (nar .byte (((XT.ushrL p1 (24 : Int32)).toInt32).toInt8.toInt32)) (nar .byte (((XT.ushrL p1 (16 : Int32)).toInt32).toInt8.toInt32)) (nar .byte (((XT.ushrL p1 (8 : Int32)).toInt32).toInt8.toInt32)) (nar .byte ((p1.toInt32).toInt8.toInt32))) then (0 : Int32) else (1 : Int32) else (0 : Int32) else if ((p2 &&& (2147483647 : Int32)) % (5 : Int32)) = (1 : Int32) then if (FU1 (nar .byte (((XT.ushrL p1 (56 : Int32)).toInt32).toInt8.toInt32)) (nar .byte (((XT.ushrL p1 (48 : Int32)).toInt32).toInt8.toInt32)) (nar .byte (((XT.ushrL p1 (40 : Int32)).toInt32).toInt8.toInt32)) (nar .byte (((XT.ushrL p1 (32 : Int32)).toInt32).toInt8.toInt32)) (nar .byte (((XT.ushrL p1 (24 : Int32)).toInt32).toInt8.toInt32)) (nar .byte (((XT.ushrL p1 (16 : Int32)).toInt32).toInt8.toInt32)) (nar .byte (((XT.ushrL p1 (8 : Int32)).toInt32).toInt8.toInt32)) (nar .byte ((p1.toInt32).toInt8.toInt32))) = ((XT.ushrL p1 (24 : Int32)) &&& (4294967295 : Int64)) then if (FU1 (nar .byte (((XT.ushrL p1 (56 : Int32)).toInt32).toInt8.toInt32)) (nar .byte (((XT.ushrL p1 (48 : Int32)).toInt32).toInt8.toInt32)) (nar .byte (((XT.ushrL p1 (40 : Int32)).toInt32).toInt8.toInt32)) (nar .byte (((XT.ushrL p1 (32 : Int32)).toInt32).toInt8.toInt32)) (nar .byte (((XT.ushrL p1 (24 : Int32)).toInt32).toInt8.toInt32)) (nar .byte (((XT.ushrL p1 (16 : Int32)).toInt32).toInt8.toInt32)) (nar .byte (((XT.ushrL p1 (8 : Int32)).toInt32).toInt8.toInt32)) (nar .byte ((p1.toInt32).toInt8.toInt32))) < (0 : Int64) then (0 : Int32) else if (4294967295 : Int64) < (FU1 (nar .byte (((XT.ushrL p1 (56 : Int32)).toInt32).toInt8.toInt32)) (nar .byte (((XT.ushrL p1 (48 : Int32)).toInt32).toInt8.toInt32)) (nar .byte (((XT.ushrL p1 (40 : Int32)).toInt32).toInt8.toInt32)) (nar .byte (((XT.ushrL p1 (32 : Int32)).toInt32).toInt8.toInt32)) (nar .byte (((XT.ushrL p1 (24 : Int32)).toInt32).toInt8.toInt32)) (nar .byte (((XT.ushrL p1 (16 : Int32)).toInt32).toInt8.toInt32)) (nar .byte (((XT.ushrL p1 (8 : Int32)).toInt32).toInt8.toInt32)) (nar .byte ((p1.toInt32).toInt8.toInt32))) then (0 : Int32) else (1 : Int32) else (0 : Int32) else if ((p2 &&& (2147483647 : Int32)) % (5 : Int32)) = (2 : Int32) then if (FU2 (nar .byte (((XT.ushrL p1 (56 : Int32)).toInt32).toInt8.toInt32)) (nar .byte (((XT.ushrL p1 (48 : Int32)).toInt32).toInt8.toInt32)) (nar .byte (((XT.ushrL p1 (40 : Int32)).toInt32).toInt8.toInt32)) (nar .byte (((XT.ushrL p1 (32 : Int32)).toInt32).toInt8.toInt32)) (nar .byte (((XT.ushrL p1 (24 : Int32)).toInt32).toInt8.toInt32)) (nar .byte (((XT.ushrL p1 (16 : Int32)).toInt32).toInt8.toInt32)) (nar .byte (((XT.ushrL p1 (8 : Int32)).toInt32).toInt8.toInt32)) (nar .byte ((p1.toInt32).toInt8.toInt32))) = ((XT.ushrL p1 (16 : Int32)) &&& (4294967295 : Int64)) then if (FU2 (nar .byte (((XT.ushrL p1 (56 : Int32)).toInt32).toInt8.toInt32)) (nar .byte (((XT.ushrL p1 (48 : Int32)).toInt32).toInt8.toInt32)) (nar .byte (((XT.ushrL p1 (40 : Int32)).toInt32).toInt8.toInt32)) (nar .byte (((XT.ushrL p1 (32 : Int32)).toInt32).toInt8.toInt32)) (nar .byte (((XT.ushrL p1 (24 : Int32)).toInt32).toInt8.toInt32)) (nar .byte (((XT.ushrL p1 (16 : Int32)).toInt32).toInt8.toInt32)) (nar .byte (((XT.ushrL p1 (8 : Int32)).toInt32).toInt8.toInt32)) (nar .byte ((p1.toInt32).toInt8.toInt32))) < (0 : Int64) then (0 : Int32) else if (4294967295 : Int64) < (FU2 (nar .byte (((XT.ushrL p1 (56 : Int32)).toInt32).toInt8.toInt32)) (nar .byte (((XT.ushrL p1 (48 : Int32)).toInt32).toInt8.toInt32)) (nar .byte (((XT.ushrL p1 (40 : Int32)).toInt32).toInt8.toInt32)) (nar .byte (((XT.ushrL p1 (32 : Int32)).toInt32).toInt8.toInt32)) (nar .byte (((XT.ushrL p1 (24 : Int32)).toInt32).toInt8.toInt32)) (nar .byte (((XT.ushrL p1 (16 : Int32)).toInt32).toInt8.toInt32)) (nar .byte (((XT.ushrL p1 (8 : Int32)).toInt32).toInt8.toInt32)) (nar .byte ((p1.toInt32).toInt8.toInt32))) then (0 : Int32) else (1 : Int32) else (0 : Int32) else if ((p2 &&& (2147483647 : Int32)) % (5 : Int32)) = (3 : Int32) then if (FU3 (nar .byte (((XT.ushrL p1 (56 : Int32)).toInt32).toInt8.toInt32)) (nar .byte (((XT.ushrL p1 (48 : Int32)).toInt32).toInt8.toInt32)) (nar .byte (((XT.ushrL p1 (40 : Int32)).toInt32).toInt8.toInt32)) (nar .byte (((XT.ushrL p1 (32 : Int32)).toInt32).toInt8.toInt32)) (nar .byte (((XT.ushrL p1 (24 : Int32)).toInt32).toInt8.toInt32)) (nar .byte (((XT.ushrL p1 (16 : Int32)).toInt32).toInt8.toInt32)) (nar .byte (((XT.ushrL p1 (8 : Int32)).toInt32).toInt8.toInt32)) (nar .byte ((p1.toInt32).toInt8.toInt32))) = ((XT.ushrL p1 (8 : Int32)) &&& (4294967295 : Int64)) then if (FU3 (nar .byte (((XT.ushrL p1 (56 : Int32)).toInt32).toInt8.toInt32)) (nar .byte (((XT.ushrL p1 (48 : Int32)).toInt32).toInt8.toInt32)) (nar .byte (((XT.ushrL p1 (40 : Int32)).toInt32).toInt8.toInt32)) (nar .byte (((XT.ushrL p1 (32 : Int32)).toInt32).toInt8.toInt32)) (nar .byte (((XT.ushrL p1 (24 : Int32)).toInt32).toInt8.toInt32)) (nar .byte (((XT.ushrL p1 (16 : Int32)).toInt32).toInt8.toInt32)) (nar .byte (((XT.ushrL p1 (8 : Int32)).toInt32).toInt8.toInt32)) (nar .byte ((p1.toInt32).toInt8.toInt32))) < (0 : Int64) then (0 : Int32) else if (4294967295 : Int64) < (FU3 (nar .byte (((XT.ushrL p1 (56 : Int32)).toInt32).toInt8.toInt32)) (nar .byte (((XT.ushrL p1 (48 : Int32)).toInt32).toInt8.toInt32)) (nar .byte (((XT.ushrL p1 (40 : Int32)).toInt32).toInt8.toInt32)) (nar .byte (((XT.ushrL p1 (32 : Int32)).toInt32).toInt8.toInt32)) (nar .byte (((XT.ushrL p1 (24 : Int32)).toInt32).toInt8.toInt32)) (nar .byte (((XT.ushrL p1 (16 : Int32)).toInt32).toInt8.toInt32)) (nar .byte (((XT.ushrL p1 (8 : Int32)).toInt32).toInt8.toInt32)) (nar .byte ((p1.toInt32).toInt8.toInt32))) then (0 : Int32) else (1 : Int32) else (0 : Int32) else if (FU4 (nar .byte (((XT.ushrL p1 (56 : Int32)).toInt32).toInt8.toInt32)) (nar .byte (((XT.ushrL p1 (48 : Int32)).toInt32).toInt8.toInt32)) (nar .byte (((XT.ushrL p1 (40 : Int32)).toInt32).toInt8.toInt32)) (nar .byte (((XT.ushrL p1 (32 : Int32)).toInt32).toInt8.toInt32)) (nar .byte (((XT.ushrL p1 (24 : Int32)).toInt32).toInt8.toInt32)) (nar .byte (((XT.ushrL p1 (16 : Int32)).toInt32).toInt8.toInt32)) (nar .byte (((XT.ushrL p1 (8 : Int32)).toInt32).toInt8.toInt32)) (nar .byte ((p1.toInt32).toInt8.toInt32))) = ((XT.ushrL p1 (0 : Int32)) &&& (4294967295 : Int64)) then if (FU4 (nar .byte (((XT.ushrL p1 (56 : Int32)).toInt32).toInt8.toInt32)) (nar .byte (((XT.ushrL p1 (48 : Int32)).toInt32).toInt8.toInt32)) (nar .byte (((XT.ushrL p1 (40 : Int32)).toInt32).toInt8.toInt32)) (nar .byte (((XT.ushrL p1 (32 : Int32)).toInt32).toInt8.toInt32)) (nar .byte (((XT.ushrL p1 (24 : Int32)).toInt32).toInt8.toInt32)) (nar .byte (((XT.ushrL p1 (16 : Int32)).toInt32).toInt8.toInt32)) (nar .byte (((XT.ushrL p1 (8 : Int32)).toInt32).toInt8.toInt32)) (nar .byte ((p1.toInt32).toInt8.toInt32))) < (0 : Int64) then (0 : Int32) else if (4294967295 : Int64) < (FU4 (nar .byte (((XT.ushrL p1 (56 : Int32)).toInt32).toInt8.toInt32)) (nar .byte (((XT.ushrL p1 (48 : Int32)).toInt32).toInt8.toInt32)) (nar .byte (((XT.ushrL p1 (40 : Int32)).toInt32).toInt8.toInt32)) (nar .byte (((XT.ushrL p1 (32 : Int32)).toInt32).toInt8.toInt32)) (nar .byte (((XT.ushrL p1 (24 : Int32)).toInt32).toInt8.toInt32)) (nar .byte (((XT.ushrL p1 (16 : Int32)).toInt32).toInt8.toInt32)) (nar .byte (((XT.ushrL p1 (8 : Int32)).toInt32).toInt8.toInt32)) (nar .byte ((p1.toInt32).toInt8.toInt32))) then (0 : Int32) else (1 : Int32) else (0 : Int32)
set_option maxHeartbeats 40000000 in
theorem rm0 (l : Launch) (Z : State) (a0 : Array Value) (hw : ∀ (i : Nat) (d : Jvm.Cond), tables_1[i]? = some d → d.before a0 Z = true) (ws : List Jvm.Cond) (h0 : Heap) (n0 : Nat) (p1 : Int64) (p2 : Int32) (p3 : Int32) (p4 : Int32) (p5 : Int32) (hZ0 : n0 ≤ h0.size) :
    own_Met l Z ws x code maxLocals ret room_1 #[(.long p1), (.int p2), (.int p3), (.int p4), (.int p5)] h0 n0 16 128 (fun v h' => v = some (.int (F0 p1 p2 p3 p4 p5))) := by
  refine own_met (Ls := #[.val (.long p1), .second, .val (.int p2), .val (.int p3), .val (.int p4), .val (.int p5), .unset, .unset, .unset, .unset, .unset, .unset, .unset]) hw own_pl0 (fun m => by first | (simp [entryFrame, mkF, argsToLocals, Value.category, maxLocals]; done) | rfl) ?_
  intro B H

  refine own_bipush H (8 : Int32) (by decide) at_0 ?_
  refine own_newarray H (w := 0) (n := (8 : Int32)) rfl (by decide) 8 (by decide) (by decide) at_2 (by decide) (by decide) ?_
  intro h1 a2 kA3 ha4 E5 V6
  have f7 : n0 ≤ a2 := by rw [ha4]; exact hZ0
  have f8 : n0 ≤ h1.size := Nat.le_trans hZ0 E5.1
  have f9 : Arv Z h1 a2 kA3 .byte (8 : Int32) [(.int 0), (.int 0), (.int 0), (.int 0), (.int 0), (.int 0), (.int 0), (.int 0)] (.int 0) := V6.pad (pad_rep [] (.int 0) 8)
  show own_G _ _ _ _ _ _ _ _ 4 #[.val (.long p1), .second, .val (.int p2), .val (.int p3), .val (.int p4), .val (.int p5), .unset, .unset, .unset, .unset, .unset, .unset, .unset] [(.ref a2)]
  refine own_astore H rfl #[.val (.long p1), .second, .val (.int p2), .val (.int p3), .val (.int p4), .val (.int p5), .val (.ref a2), .unset, .unset, .unset, .unset, .unset, .unset] rfl at_4 ?_
  refine own_aload H rfl rfl at_6 ?_
  refine own_iconst H (0 : Int32) (by decide) at_8 ?_
  refine own_lload_n H rfl at_9 ?_
  refine own_bipush H (56 : Int32) (by decide) at_10 ?_
  refine own_lushr H rfl at_12 ?_
  refine own_l2i H rfl at_13 ?_
  refine own_i2b H rfl at_14 ?_
  refine own_bastoreV H f9 (by decide) (by decide) 0 (by decide) (Nat.le_of_ble_eq_true rfl) f7 rfl at_15 ?_
  intro h10 W11 V12
  have f13 : n0 ≤ h10.size := by rw [W11.size]; exact f8
  have f14 : Arv Z h10 a2 kA3 .byte (8 : Int32) [(.int (nar .byte (((XT.ushrL p1 (56 : Int32)).toInt32).toInt8.toInt32))), (.int 0), (.int 0), (.int 0), (.int 0), (.int 0), (.int 0), (.int 0)] (.int 0) := V12
  refine own_aload H rfl rfl at_16 ?_
  refine own_iconst H (1 : Int32) (by decide) at_18 ?_
  refine own_lload_n H rfl at_19 ?_
  refine own_bipush H (48 : Int32) (by decide) at_20 ?_
  refine own_lushr H rfl at_22 ?_
  refine own_l2i H rfl at_23 ?_
  refine own_i2b H rfl at_24 ?_
  refine own_bastoreV H f14 (by decide) (by decide) 1 (by decide) (Nat.le_of_ble_eq_true rfl) f7 rfl at_25 ?_
  intro h15 W16 V17
  have f18 : n0 ≤ h15.size := by rw [W16.size]; exact f13
  have f19 : Arv Z h15 a2 kA3 .byte (8 : Int32) [(.int (nar .byte (((XT.ushrL p1 (56 : Int32)).toInt32).toInt8.toInt32))), (.int (nar .byte (((XT.ushrL p1 (48 : Int32)).toInt32).toInt8.toInt32))), (.int 0), (.int 0), (.int 0), (.int 0), (.int 0), (.int 0)] (.int 0) := V17
  refine own_aload H rfl rfl at_26 ?_
  refine own_iconst H (2 : Int32) (by decide) at_28 ?_
  refine own_lload_n H rfl at_29 ?_
  refine own_bipush H (40 : Int32) (by decide) at_30 ?_
  refine own_lushr H rfl at_32 ?_
  refine own_l2i H rfl at_33 ?_
  refine own_i2b H rfl at_34 ?_
  refine own_bastoreV H f19 (by decide) (by decide) 2 (by decide) (Nat.le_of_ble_eq_true rfl) f7 rfl at_35 ?_
  intro h20 W21 V22
  have f23 : n0 ≤ h20.size := by rw [W21.size]; exact f18
  have f24 : Arv Z h20 a2 kA3 .byte (8 : Int32) [(.int (nar .byte (((XT.ushrL p1 (56 : Int32)).toInt32).toInt8.toInt32))), (.int (nar .byte (((XT.ushrL p1 (48 : Int32)).toInt32).toInt8.toInt32))), (.int (nar .byte (((XT.ushrL p1 (40 : Int32)).toInt32).toInt8.toInt32))), (.int 0), (.int 0), (.int 0), (.int 0), (.int 0)] (.int 0) := V22
  refine own_aload H rfl rfl at_36 ?_
  refine own_iconst H (3 : Int32) (by decide) at_38 ?_
  refine own_lload_n H rfl at_39 ?_
  refine own_bipush H (32 : Int32) (by decide) at_40 ?_
  refine own_lushr H rfl at_42 ?_
  refine own_l2i H rfl at_43 ?_
  refine own_i2b H rfl at_44 ?_
  refine own_bastoreV H f24 (by decide) (by decide) 3 (by decide) (Nat.le_of_ble_eq_true rfl) f7 rfl at_45 ?_
  intro h25 W26 V27
  have f28 : n0 ≤ h25.size := by rw [W26.size]; exact f23
  have f29 : Arv Z h25 a2 kA3 .byte (8 : Int32) [(.int (nar .byte (((XT.ushrL p1 (56 : Int32)).toInt32).toInt8.toInt32))), (.int (nar .byte (((XT.ushrL p1 (48 : Int32)).toInt32).toInt8.toInt32))), (.int (nar .byte (((XT.ushrL p1 (40 : Int32)).toInt32).toInt8.toInt32))), (.int (nar .byte (((XT.ushrL p1 (32 : Int32)).toInt32).toInt8.toInt32))), (.int 0), (.int 0), (.int 0), (.int 0)] (.int 0) := V27
  refine own_aload H rfl rfl at_46 ?_
  refine own_iconst H (4 : Int32) (by decide) at_48 ?_
  refine own_lload_n H rfl at_49 ?_
  refine own_bipush H (24 : Int32) (by decide) at_50 ?_
  refine own_lushr H rfl at_52 ?_
  refine own_l2i H rfl at_53 ?_
  refine own_i2b H rfl at_54 ?_
  refine own_bastoreV H f29 (by decide) (by decide) 4 (by decide) (Nat.le_of_ble_eq_true rfl) f7 rfl at_55 ?_
  intro h30 W31 V32
  have f33 : n0 ≤ h30.size := by rw [W31.size]; exact f28
  have f34 : Arv Z h30 a2 kA3 .byte (8 : Int32) [(.int (nar .byte (((XT.ushrL p1 (56 : Int32)).toInt32).toInt8.toInt32))), (.int (nar .byte (((XT.ushrL p1 (48 : Int32)).toInt32).toInt8.toInt32))), (.int (nar .byte (((XT.ushrL p1 (40 : Int32)).toInt32).toInt8.toInt32))), (.int (nar .byte (((XT.ushrL p1 (32 : Int32)).toInt32).toInt8.toInt32))), (.int (nar .byte (((XT.ushrL p1 (24 : Int32)).toInt32).toInt8.toInt32))), (.int 0), (.int 0), (.int 0)] (.int 0) := V32
  refine own_aload H rfl rfl at_56 ?_
  refine own_iconst H (5 : Int32) (by decide) at_58 ?_
  refine own_lload_n H rfl at_59 ?_
  refine own_bipush H (16 : Int32) (by decide) at_60 ?_
  refine own_lushr H rfl at_62 ?_
  refine own_l2i H rfl at_63 ?_
  refine own_i2b H rfl at_64 ?_
  refine own_bastoreV H f34 (by decide) (by decide) 5 (by decide) (Nat.le_of_ble_eq_true rfl) f7 rfl at_65 ?_
  intro h35 W36 V37
  have f38 : n0 ≤ h35.size := by rw [W36.size]; exact f33
  have f39 : Arv Z h35 a2 kA3 .byte (8 : Int32) [(.int (nar .byte (((XT.ushrL p1 (56 : Int32)).toInt32).toInt8.toInt32))), (.int (nar .byte (((XT.ushrL p1 (48 : Int32)).toInt32).toInt8.toInt32))), (.int (nar .byte (((XT.ushrL p1 (40 : Int32)).toInt32).toInt8.toInt32))), (.int (nar .byte (((XT.ushrL p1 (32 : Int32)).toInt32).toInt8.toInt32))), (.int (nar .byte (((XT.ushrL p1 (24 : Int32)).toInt32).toInt8.toInt32))), (.int (nar .byte (((XT.ushrL p1 (16 : Int32)).toInt32).toInt8.toInt32))), (.int 0), (.int 0)] (.int 0) := V37
  refine own_aload H rfl rfl at_66 ?_
  refine own_bipush H (6 : Int32) (by decide) at_68 ?_
  refine own_lload_n H rfl at_70 ?_
  refine own_bipush H (8 : Int32) (by decide) at_71 ?_
  refine own_lushr H rfl at_73 ?_
  refine own_l2i H rfl at_74 ?_
  refine own_i2b H rfl at_75 ?_
  refine own_bastoreV H f39 (by decide) (by decide) 6 (by decide) (Nat.le_of_ble_eq_true rfl) f7 rfl at_76 ?_
  intro h40 W41 V42
  have f43 : n0 ≤ h40.size := by rw [W41.size]; exact f38
  have f44 : Arv Z h40 a2 kA3 .byte (8 : Int32) [(.int (nar .byte (((XT.ushrL p1 (56 : Int32)).toInt32).toInt8.toInt32))), (.int (nar .byte (((XT.ushrL p1 (48 : Int32)).toInt32).toInt8.toInt32))), (.int (nar .byte (((XT.ushrL p1 (40 : Int32)).toInt32).toInt8.toInt32))), (.int (nar .byte (((XT.ushrL p1 (32 : Int32)).toInt32).toInt8.toInt32))), (.int (nar .byte (((XT.ushrL p1 (24 : Int32)).toInt32).toInt8.toInt32))), (.int (nar .byte (((XT.ushrL p1 (16 : Int32)).toInt32).toInt8.toInt32))), (.int (nar .byte (((XT.ushrL p1 (8 : Int32)).toInt32).toInt8.toInt32))), (.int 0)] (.int 0) := V42
  refine own_aload H rfl rfl at_77 ?_
  refine own_bipush H (7 : Int32) (by decide) at_79 ?_
  refine own_lload_n H rfl at_81 ?_
  refine own_l2i H rfl at_82 ?_
  refine own_i2b H rfl at_83 ?_
  refine own_bastoreV H f44 (by decide) (by decide) 7 (by decide) (Nat.le_of_ble_eq_true rfl) f7 rfl at_84 ?_
  intro h45 W46 V47
  have f48 : n0 ≤ h45.size := by rw [W46.size]; exact f43
  have f49 : Arv Z h45 a2 kA3 .byte (8 : Int32) [(.int (nar .byte (((XT.ushrL p1 (56 : Int32)).toInt32).toInt8.toInt32))), (.int (nar .byte (((XT.ushrL p1 (48 : Int32)).toInt32).toInt8.toInt32))), (.int (nar .byte (((XT.ushrL p1 (40 : Int32)).toInt32).toInt8.toInt32))), (.int (nar .byte (((XT.ushrL p1 (32 : Int32)).toInt32).toInt8.toInt32))), (.int (nar .byte (((XT.ushrL p1 (24 : Int32)).toInt32).toInt8.toInt32))), (.int (nar .byte (((XT.ushrL p1 (16 : Int32)).toInt32).toInt8.toInt32))), (.int (nar .byte (((XT.ushrL p1 (8 : Int32)).toInt32).toInt8.toInt32))), (.int (nar .byte ((p1.toInt32).toInt8.toInt32)))] (.int 0) := V47
  refine own_iload_n H rfl at_85 ?_
  refine own_ldcI H (w := 1) rfl at_86 ?_
  refine own_iand H rfl at_88 ?_
  refine own_iconst H (5 : Int32) (by decide) at_89 ?_
  refine own_irem H rfl at_90 (by decide) ?_
  refine own_istore H #[.val (.long p1), .second, .val (.int p2), .val (.int p3), .val (.int p4), .val (.int p5), .val (.ref a2), .val (.int ((p2 &&& (2147483647 : Int32)) % (5 : Int32))), .unset, .unset, .unset, .unset, .unset] rfl at_91 ?_
  by_cases c50 : ((p2 &&& (2147483647 : Int32)) % (5 : Int32)) = (0 : Int32)
  ·
    rw [c50]
    show own_G _ _ _ _ _ _ _ _ 93 #[.val (.long p1), .second, .val (.int p2), .val (.int p3), .val (.int p4), .val (.int p5), .val (.ref a2), .val (.int (0 : Int32)), .unset, .unset, .unset, .unset, .unset] []
    refine own_new H (w := 2) (wi := 3) (wz := 4) rfl rfl rfl at_93 (by decide) (by decide) ?_
    intro h51 a52 ha53 E54 X55 D56
    have f57 : a2 ≠ a52 := Nat.ne_of_lt (by rw [ha53]; exact f49.lt)
    have f58 : n0 ≤ a52 := by rw [ha53]; exact f48
    have f59 : n0 ≤ h51.size := Nat.le_trans f48 E54.1
    have f60 : Arv Z h51 a2 kA3 .byte (8 : Int32) [(.int (nar .byte (((XT.ushrL p1 (56 : Int32)).toInt32).toInt8.toInt32))), (.int (nar .byte (((XT.ushrL p1 (48 : Int32)).toInt32).toInt8.toInt32))), (.int (nar .byte (((XT.ushrL p1 (40 : Int32)).toInt32).toInt8.toInt32))), (.int (nar .byte (((XT.ushrL p1 (32 : Int32)).toInt32).toInt8.toInt32))), (.int (nar .byte (((XT.ushrL p1 (24 : Int32)).toInt32).toInt8.toInt32))), (.int (nar .byte (((XT.ushrL p1 (16 : Int32)).toInt32).toInt8.toInt32))), (.int (nar .byte (((XT.ushrL p1 (8 : Int32)).toInt32).toInt8.toInt32))), (.int (nar .byte ((p1.toInt32).toInt8.toInt32)))] (.int 0) := f49.ext E54
    have f61 : Fld Z h51 a52 "com/example/trailwire/trailwire/http2/Frame" "type" "I" (.int (0 : Int32)) := D56 (Or.inr (own_w H (i := 12) rfl)) (ty := .int) (by decide)
    have f62 : Fld Z h51 a52 "com/example/trailwire/trailwire/http2/Frame" "flags" "I" (.int (0 : Int32)) := D56 (Or.inr (own_w H (i := 14) rfl)) (ty := .int) (by decide)
    have f63 : Fld Z h51 a52 "com/example/trailwire/trailwire/http2/Frame" "streamId" "I" (.int (0 : Int32)) := D56 (Or.inr (own_w H (i := 16) rfl)) (ty := .int) (by decide)
    have f64 : Fld Z h51 a52 "com/example/trailwire/trailwire/http2/Frame" "payload" "[B" .null := D56 (Or.inr (own_w H (i := 18) rfl)) (ty := (.array .byte)) (by decide)
    show own_G _ _ _ _ _ _ _ _ 96 #[.val (.long p1), .second, .val (.int p2), .val (.int p3), .val (.int p4), .val (.int p5), .val (.ref a2), .val (.int (0 : Int32)), .unset, .unset, .unset, .unset, .unset] [(.ref a52)]
    refine own_dup H rfl at_96 ?_
    refine own_iload_n H rfl at_97 ?_
    refine own_iload H rfl at_98 ?_
    refine own_iload H rfl at_100 ?_
    refine own_aload H rfl rfl at_102 ?_
    refine own_invokespecial H (a := a52) (argsL := [(.int p3), (.int p4), (.int p5), (.ref a2)]) (rest := [(.ref a52)]) (rm1 l Z a0 (own_hw H) h51 n0 a52 p3 p4 p5 a2 f59 f58 X55 f61 f62 f63 f64) rfl (w1 := 5) (w2 := 6) (w3 := 4) (w4 := 7) rfl rfl rfl rfl own_pd0 rfl 1 (by decide) rfl (by decide) (Nat.le_of_eq rfl) (by decide) (by decide) (by decide) rfl at_104 ?_
    rintro _ h65 ⟨rfl, K66, f67, f68, f69, f70⟩
    have f71 : n0 ≤ h65.size := Nat.le_trans f59 K66.1
    have f72 : Arv Z h65 a2 kA3 .byte (8 : Int32) [(.int (nar .byte (((XT.ushrL p1 (56 : Int32)).toInt32).toInt8.toInt32))), (.int (nar .byte (((XT.ushrL p1 (48 : Int32)).toInt32).toInt8.toInt32))), (.int (nar .byte (((XT.ushrL p1 (40 : Int32)).toInt32).toInt8.toInt32))), (.int (nar .byte (((XT.ushrL p1 (32 : Int32)).toInt32).toInt8.toInt32))), (.int (nar .byte (((XT.ushrL p1 (24 : Int32)).toInt32).toInt8.toInt32))), (.int (nar .byte (((XT.ushrL p1 (16 : Int32)).toInt32).toInt8.toInt32))), (.int (nar .byte (((XT.ushrL p1 (8 : Int32)).toInt32).toInt8.toInt32))), (.int (nar .byte ((p1.toInt32).toInt8.toInt32)))] (.int 0) := f60.keep K66 (ninS f57 nin0)
    have f73 : Exa Z h65 a52 "com/example/trailwire/trailwire/http2/Frame" := X55.keep K66
    show own_G _ _ _ _ _ _ _ _ 107 #[.val (.long p1), .second, .val (.int p2), .val (.int p3), .val (.int p4), .val (.int p5), .val (.ref a2), .val (.int (0 : Int32)), .unset, .unset, .unset, .unset, .unset] [(.ref a52)]
    refine own_astore H rfl #[.val (.long p1), .second, .val (.int p2), .val (.int p3), .val (.int p4), .val (.int p5), .val (.ref a2), .val (.int (0 : Int32)), .val (.ref a52), .unset, .unset, .unset, .unset] rfl at_107 ?_
    refine own_aload H rfl rfl at_109 ?_
    refine own_iload H rfl at_111 ?_
    refine own_invokevirtual H (a := a52) (argsL := [(.int (0 : Int32))]) (rest := []) (rmU0 l Z a0 (own_hw H) h65 n0 a52 a2 kA3 (nar .byte (((XT.ushrL p1 (56 : Int32)).toInt32).toInt8.toInt32)) (nar .byte (((XT.ushrL p1 (48 : Int32)).toInt32).toInt8.toInt32)) (nar .byte (((XT.ushrL p1 (40 : Int32)).toInt32).toInt8.toInt32)) (nar .byte (((XT.ushrL p1 (32 : Int32)).toInt32).toInt8.toInt32)) (nar .byte (((XT.ushrL p1 (24 : Int32)).toInt32).toInt8.toInt32)) (nar .byte (((XT.ushrL p1 (16 : Int32)).toInt32).toInt8.toInt32)) (nar .byte (((XT.ushrL p1 (8 : Int32)).toInt32).toInt8.toInt32)) (nar .byte ((p1.toInt32).toInt8.toInt32)) f72 f70) f73 (w1 := 19) (w0 := 20) (w5 := 22) (w2 := 21) (w3 := 4) (w4 := 23) rfl rfl rfl rfl rfl rfl own_pd1 rfl 0 (by decide) rfl (by decide) (Nat.le_of_eq rfl) (by decide) (by decide) (by decide) rfl at_113 ?_
    rintro _ _ ⟨rfl, rfl⟩
    show own_G _ _ _ _ _ _ _ _ 116 #[.val (.long p1), .second, .val (.int p2), .val (.int p3), .val (.int p4), .val (.int p5), .val (.ref a2), .val (.int (0 : Int32)), .val (.ref a52), .unset, .unset, .unset, .unset] [(.long (FU0 (nar .byte (((XT.ushrL p1 (56 : Int32)).toInt32).toInt8.toInt32)) (nar .byte (((XT.ushrL p1 (48 : Int32)).toInt32).toInt8.toInt32)) (nar .byte (((XT.ushrL p1 (40 : Int32)).toInt32).toInt8.toInt32)) (nar .byte (((XT.ushrL p1 (32 : Int32)).toInt32).toInt8.toInt32)) (nar .byte (((XT.ushrL p1 (24 : Int32)).toInt32).toInt8.toInt32)) (nar .byte (((XT.ushrL p1 (16 : Int32)).toInt32).toInt8.toInt32)) (nar .byte (((XT.ushrL p1 (8 : Int32)).toInt32).toInt8.toInt32)) (nar .byte ((p1.toInt32).toInt8.toInt32))))]
    refine own_lstore H #[.val (.long p1), .second, .val (.int p2), .val (.int p3), .val (.int p4), .val (.int p5), .val (.ref a2), .val (.int (0 : Int32)), .val (.ref a52), .val (.long (FU0 (nar .byte (((XT.ushrL p1 (56 : Int32)).toInt32).toInt8.toInt32)) (nar .byte (((XT.ushrL p1 (48 : Int32)).toInt32).toInt8.toInt32)) (nar .byte (((XT.ushrL p1 (40 : Int32)).toInt32).toInt8.toInt32)) (nar .byte (((XT.ushrL p1 (32 : Int32)).toInt32).toInt8.toInt32)) (nar .byte (((XT.ushrL p1 (24 : Int32)).toInt32).toInt8.toInt32)) (nar .byte (((XT.ushrL p1 (16 : Int32)).toInt32).toInt8.toInt32)) (nar .byte (((XT.ushrL p1 (8 : Int32)).toInt32).toInt8.toInt32)) (nar .byte ((p1.toInt32).toInt8.toInt32)))), .second, .unset, .unset] rfl at_116 ?_
    refine own_lload_n H rfl at_118 ?_
    refine own_bipush H (32 : Int32) (by decide) at_119 ?_
    refine own_bipush H (8 : Int32) (by decide) at_121 ?_
    refine own_iload H rfl at_123 ?_
    refine own_imul (v := (0 : Int32)) H (by decide) at_125 ?_
    refine own_isub (v := (32 : Int32)) H (by decide) at_126 ?_
    refine own_lushr H rfl at_127 ?_
    refine own_ldc2J H (w := 24) rfl at_128 ?_
    refine own_land H rfl at_131 ?_
    refine own_lstore H #[.val (.long p1), .second, .val (.int p2), .val (.int p3), .val (.int p4), .val (.int p5), .val (.ref a2), .val (.int (0 : Int32)), .val (.ref a52), .val (.long (FU0 (nar .byte (((XT.ushrL p1 (56 : Int32)).toInt32).toInt8.toInt32)) (nar .byte (((XT.ushrL p1 (48 : Int32)).toInt32).toInt8.toInt32)) (nar .byte (((XT.ushrL p1 (40 : Int32)).toInt32).toInt8.toInt32)) (nar .byte (((XT.ushrL p1 (32 : Int32)).toInt32).toInt8.toInt32)) (nar .byte (((XT.ushrL p1 (24 : Int32)).toInt32).toInt8.toInt32)) (nar .byte (((XT.ushrL p1 (16 : Int32)).toInt32).toInt8.toInt32)) (nar .byte (((XT.ushrL p1 (8 : Int32)).toInt32).toInt8.toInt32)) (nar .byte ((p1.toInt32).toInt8.toInt32)))), .second, .val (.long ((XT.ushrL p1 (32 : Int32)) &&& (4294967295 : Int64))), .second] rfl at_132 ?_
    refine own_lload H rfl at_134 ?_
    refine own_lload H rfl at_136 ?_
    by_cases c74 : (FU0 (nar .byte (((XT.ushrL p1 (56 : Int32)).toInt32).toInt8.toInt32)) (nar .byte (((XT.ushrL p1 (48 : Int32)).toInt32).toInt8.toInt32)) (nar .byte (((XT.ushrL p1 (40 : Int32)).toInt32).toInt8.toInt32)) (nar .byte (((XT.ushrL p1 (32 : Int32)).toInt32).toInt8.toInt32)) (nar .byte (((XT.ushrL p1 (24 : Int32)).toInt32).toInt8.toInt32)) (nar .byte (((XT.ushrL p1 (16 : Int32)).toInt32).toInt8.toInt32)) (nar .byte (((XT.ushrL p1 (8 : Int32)).toInt32).toInt8.toInt32)) (nar .byte ((p1.toInt32).toInt8.toInt32))) = ((XT.ushrL p1 (32 : Int32)) &&& (4294967295 : Int64))
    ·
      refine own_lcmpne_f H at_138 at_139 c74 ?_
      refine own_lload H rfl at_142 ?_
      refine own_lconst H (0 : Int64) (by decide) at_144 ?_
      by_cases c75 : (FU0 (nar .byte (((XT.ushrL p1 (56 : Int32)).toInt32).toInt8.toInt32)) (nar .byte (((XT.ushrL p1 (48 : Int32)).toInt32).toInt8.toInt32)) (nar .byte (((XT.ushrL p1 (40 : Int32)).toInt32).toInt8.toInt32)) (nar .byte (((XT.ushrL p1 (32 : Int32)).toInt32).toInt8.toInt32)) (nar .byte (((XT.ushrL p1 (24 : Int32)).toInt32).toInt8.toInt32)) (nar .byte (((XT.ushrL p1 (16 : Int32)).toInt32).toInt8.toInt32)) (nar .byte (((XT.ushrL p1 (8 : Int32)).toInt32).toInt8.toInt32)) (nar .byte ((p1.toInt32).toInt8.toInt32))) < (0 : Int64)
      ·
        refine own_lcmplt_t H (pc' := 162) at_145 at_146 (by decide) (by decide) c75 ?_
        refine own_iconst H (0 : Int32) (by decide) at_162 ?_
        exact own_ireturn H (by simp) (by decide) at_163 (by decide) (by decide) (by show some _ = some _; rw [F0, if_pos c50, if_pos c74, if_pos c75])
      ·
        refine own_lcmplt_f H at_145 at_146 c75 ?_
        refine own_lload H rfl at_149 ?_
        refine own_ldc2J H (w := 24) rfl at_151 ?_
        by_cases c76 : (4294967295 : Int64) < (FU0 (nar .byte (((XT.ushrL p1 (56 : Int32)).toInt32).toInt8.toInt32)) (nar .byte (((XT.ushrL p1 (48 : Int32)).toInt32).toInt8.toInt32)) (nar .byte (((XT.ushrL p1 (40 : Int32)).toInt32).toInt8.toInt32)) (nar .byte (((XT.ushrL p1 (32 : Int32)).toInt32).toInt8.toInt32)) (nar .byte (((XT.ushrL p1 (24 : Int32)).toInt32).toInt8.toInt32)) (nar .byte (((XT.ushrL p1 (16 : Int32)).toInt32).toInt8.toInt32)) (nar .byte (((XT.ushrL p1 (8 : Int32)).toInt32).toInt8.toInt32)) (nar .byte ((p1.toInt32).toInt8.toInt32)))
        ·
          refine own_lcmpgt_t H (pc' := 162) at_154 at_155 (by decide) (by decide) c76 ?_
          refine own_iconst H (0 : Int32) (by decide) at_162 ?_
          exact own_ireturn H (by simp) (by decide) at_163 (by decide) (by decide) (by show some _ = some _; rw [F0, if_pos c50, if_pos c74, if_neg c75, if_pos c76])
        ·
          refine own_lcmpgt_f H at_154 at_155 c76 ?_
          refine own_iconst H (1 : Int32) (by decide) at_158 ?_
          refine own_goto H (pc' := 163) at_159 (by decide) (by decide) ?_
          exact own_ireturn H (by simp) (by decide) at_163 (by decide) (by decide) (by show some _ = some _; rw [F0, if_pos c50, if_pos c74, if_neg c75, if_neg c76])
    ·
      refine own_lcmpne_t H (pc' := 162) at_138 at_139 (by decide) (by decide) c74 ?_
      refine own_iconst H (0 : Int32) (by decide) at_162 ?_
      exact own_ireturn H (by simp) (by decide) at_163 (by decide) (by decide) (by show some _ = some _; rw [F0, if_pos c50, if_neg c74])
  ·
    by_cases c77 : ((p2 &&& (2147483647 : Int32)) % (5 : Int32)) = (1 : Int32)
    ·
      rw [c77]
      show own_G _ _ _ _ _ _ _ _ 93 #[.val (.long p1), .second, .val (.int p2), .val (.int p3), .val (.int p4), .val (.int p5), .val (.ref a2), .val (.int (1 : Int32)), .unset, .unset, .unset, .unset, .unset] []
      refine own_new H (w := 2) (wi := 3) (wz := 4) rfl rfl rfl at_93 (by decide) (by decide) ?_
      intro h78 a79 ha80 E81 X82 D83
      have f84 : a2 ≠ a79 := Nat.ne_of_lt (by rw [ha80]; exact f49.lt)
      have f85 : n0 ≤ a79 := by rw [ha80]; exact f48
      have f86 : n0 ≤ h78.size := Nat.le_trans f48 E81.1
      have f87 : Arv Z h78 a2 kA3 .byte (8 : Int32) [(.int (nar .byte (((XT.ushrL p1 (56 : Int32)).toInt32).toInt8.toInt32))), (.int (nar .byte (((XT.ushrL p1 (48 : Int32)).toInt32).toInt8.toInt32))), (.int (nar .byte (((XT.ushrL p1 (40 : Int32)).toInt32).toInt8.toInt32))), (.int (nar .byte (((XT.ushrL p1 (32 : Int32)).toInt32).toInt8.toInt32))), (.int (nar .byte (((XT.ushrL p1 (24 : Int32)).toInt32).toInt8.toInt32))), (.int (nar .byte (((XT.ushrL p1 (16 : Int32)).toInt32).toInt8.toInt32))), (.int (nar .byte (((XT.ushrL p1 (8 : Int32)).toInt32).toInt8.toInt32))), (.int (nar .byte ((p1.toInt32).toInt8.toInt32)))] (.int 0) := f49.ext E81
      have f88 : Fld Z h78 a79 "com/example/trailwire/trailwire/http2/Frame" "type" "I" (.int (0 : Int32)) := D83 (Or.inr (own_w H (i := 12) rfl)) (ty := .int) (by decide)
      have f89 : Fld Z h78 a79 "com/example/trailwire/trailwire/http2/Frame" "flags" "I" (.int (0 : Int32)) := D83 (Or.inr (own_w H (i := 14) rfl)) (ty := .int) (by decide)
      have f90 : Fld Z h78 a79 "com/example/trailwire/trailwire/http2/Frame" "streamId" "I" (.int (0 : Int32)) := D83 (Or.inr (own_w H (i := 16) rfl)) (ty := .int) (by decide)
      have f91 : Fld Z h78 a79 "com/example/trailwire/trailwire/http2/Frame" "payload" "[B" .null := D83 (Or.inr (own_w H (i := 18) rfl)) (ty := (.array .byte)) (by decide)
      show own_G _ _ _ _ _ _ _ _ 96 #[.val (.long p1), .second, .val (.int p2), .val (.int p3), .val (.int p4), .val (.int p5), .val (.ref a2), .val (.int (1 : Int32)), .unset, .unset, .unset, .unset, .unset] [(.ref a79)]
      refine own_dup H rfl at_96 ?_
      refine own_iload_n H rfl at_97 ?_
      refine own_iload H rfl at_98 ?_
      refine own_iload H rfl at_100 ?_
      refine own_aload H rfl rfl at_102 ?_
      refine own_invokespecial H (a := a79) (argsL := [(.int p3), (.int p4), (.int p5), (.ref a2)]) (rest := [(.ref a79)]) (rm1 l Z a0 (own_hw H) h78 n0 a79 p3 p4 p5 a2 f86 f85 X82 f88 f89 f90 f91) rfl (w1 := 5) (w2 := 6) (w3 := 4) (w4 := 7) rfl rfl rfl rfl own_pd0 rfl 1 (by decide) rfl (by decide) (Nat.le_of_eq rfl) (by decide) (by decide) (by decide) rfl at_104 ?_
      rintro _ h92 ⟨rfl, K93, f94, f95, f96, f97⟩
      have f98 : n0 ≤ h92.size := Nat.le_trans f86 K93.1
      have f99 : Arv Z h92 a2 kA3 .byte (8 : Int32) [(.int (nar .byte (((XT.ushrL p1 (56 : Int32)).toInt32).toInt8.toInt32))), (.int (nar .byte (((XT.ushrL p1 (48 : Int32)).toInt32).toInt8.toInt32))), (.int (nar .byte (((XT.ushrL p1 (40 : Int32)).toInt32).toInt8.toInt32))), (.int (nar .byte (((XT.ushrL p1 (32 : Int32)).toInt32).toInt8.toInt32))), (.int (nar .byte (((XT.ushrL p1 (24 : Int32)).toInt32).toInt8.toInt32))), (.int (nar .byte (((XT.ushrL p1 (16 : Int32)).toInt32).toInt8.toInt32))), (.int (nar .byte (((XT.ushrL p1 (8 : Int32)).toInt32).toInt8.toInt32))), (.int (nar .byte ((p1.toInt32).toInt8.toInt32)))] (.int 0) := f87.keep K93 (ninS f84 nin0)
      have f100 : Exa Z h92 a79 "com/example/trailwire/trailwire/http2/Frame" := X82.keep K93
      show own_G _ _ _ _ _ _ _ _ 107 #[.val (.long p1), .second, .val (.int p2), .val (.int p3), .val (.int p4), .val (.int p5), .val (.ref a2), .val (.int (1 : Int32)), .unset, .unset, .unset, .unset, .unset] [(.ref a79)]
      refine own_astore H rfl #[.val (.long p1), .second, .val (.int p2), .val (.int p3), .val (.int p4), .val (.int p5), .val (.ref a2), .val (.int (1 : Int32)), .val (.ref a79), .unset, .unset, .unset, .unset] rfl at_107 ?_
      refine own_aload H rfl rfl at_109 ?_
      refine own_iload H rfl at_111 ?_
      refine own_invokevirtual H (a := a79) (argsL := [(.int (1 : Int32))]) (rest := []) (rmU1 l Z a0 (own_hw H) h92 n0 a79 a2 kA3 (nar .byte (((XT.ushrL p1 (56 : Int32)).toInt32).toInt8.toInt32)) (nar .byte (((XT.ushrL p1 (48 : Int32)).toInt32).toInt8.toInt32)) (nar .byte (((XT.ushrL p1 (40 : Int32)).toInt32).toInt8.toInt32)) (nar .byte (((XT.ushrL p1 (32 : Int32)).toInt32).toInt8.toInt32)) (nar .byte (((XT.ushrL p1 (24 : Int32)).toInt32).toInt8.toInt32)) (nar .byte (((XT.ushrL p1 (16 : Int32)).toInt32).toInt8.toInt32)) (nar .byte (((XT.ushrL p1 (8 : Int32)).toInt32).toInt8.toInt32)) (nar .byte ((p1.toInt32).toInt8.toInt32)) f99 f97) f100 (w1 := 19) (w0 := 20) (w5 := 22) (w2 := 21) (w3 := 4) (w4 := 23) rfl rfl rfl rfl rfl rfl own_pd1 rfl 0 (by decide) rfl (by decide) (Nat.le_of_eq rfl) (by decide) (by decide) (by decide) rfl at_113 ?_
      rintro _ _ ⟨rfl, rfl⟩
      show own_G _ _ _ _ _ _ _ _ 116 #[.val (.long p1), .second, .val (.int p2), .val (.int p3), .val (.int p4), .val (.int p5), .val (.ref a2), .val (.int (1 : Int32)), .val (.ref a79), .unset, .unset, .unset, .unset] [(.long (FU1 (nar .byte (((XT.ushrL p1 (56 : Int32)).toInt32).toInt8.toInt32)) (nar .byte (((XT.ushrL p1 (48 : Int32)).toInt32).toInt8.toInt32)) (nar .byte (((XT.ushrL p1 (40 : Int32)).toInt32).toInt8.toInt32)) (nar .byte (((XT.ushrL p1 (32 : Int32)).toInt32).toInt8.toInt32)) (nar .byte (((XT.ushrL p1 (24 : Int32)).toInt32).toInt8.toInt32)) (nar .byte (((XT.ushrL p1 (16 : Int32)).toInt32).toInt8.toInt32)) (nar .byte (((XT.ushrL p1 (8 : Int32)).toInt32).toInt8.toInt32)) (nar .byte ((p1.toInt32).toInt8.toInt32))))]
      refine own_lstore H #[.val (.long p1), .second, .val (.int p2), .val (.int p3), .val (.int p4), .val (.int p5), .val (.ref a2), .val (.int (1 : Int32)), .val (.ref a79), .val (.long (FU1 (nar .byte (((XT.ushrL p1 (56 : Int32)).toInt32).toInt8.toInt32)) (nar .byte (((XT.ushrL p1 (48 : Int32)).toInt32).toInt8.toInt32)) (nar .byte (((XT.ushrL p1 (40 : Int32)).toInt32).toInt8.toInt32)) (nar .byte (((XT.ushrL p1 (32 : Int32)).toInt32).toInt8.toInt32)) (nar .byte (((XT.ushrL p1 (24 : Int32)).toInt32).toInt8.toInt32)) (nar .byte (((XT.ushrL p1 (16 : Int32)).toInt32).toInt8.toInt32)) (nar .byte (((XT.ushrL p1 (8 : Int32)).toInt32).toInt8.toInt32)) (nar .byte ((p1.toInt32).toInt8.toInt32)))), .second, .unset, .unset] rfl at_116 ?_
      refine own_lload_n H rfl at_118 ?_
      refine own_bipush H (32 : Int32) (by decide) at_119 ?_
      refine own_bipush H (8 : Int32) (by decide) at_121 ?_
      refine own_iload H rfl at_123 ?_
      refine own_imul (v := (8 : Int32)) H (by decide) at_125 ?_
      refine own_isub (v := (24 : Int32)) H (by decide) at_126 ?_
      refine own_lushr H rfl at_127 ?_
      refine own_ldc2J H (w := 24) rfl at_128 ?_
      refine own_land H rfl at_131 ?_
      refine own_lstore H #[.val (.long p1), .second, .val (.int p2), .val (.int p3), .val (.int p4), .val (.int p5), .val (.ref a2), .val (.int (1 : Int32)), .val (.ref a79), .val (.long (FU1 (nar .byte (((XT.ushrL p1 (56 : Int32)).toInt32).toInt8.toInt32)) (nar .byte (((XT.ushrL p1 (48 : Int32)).toInt32).toInt8.toInt32)) (nar .byte (((XT.ushrL p1 (40 : Int32)).toInt32).toInt8.toInt32)) (nar .byte (((XT.ushrL p1 (32 : Int32)).toInt32).toInt8.toInt32)) (nar .byte (((XT.ushrL p1 (24 : Int32)).toInt32).toInt8.toInt32)) (nar .byte (((XT.ushrL p1 (16 : Int32)).toInt32).toInt8.toInt32)) (nar .byte (((XT.ushrL p1 (8 : Int32)).toInt32).toInt8.toInt32)) (nar .byte ((p1.toInt32).toInt8.toInt32)))), .second, .val (.long ((XT.ushrL p1 (24 : Int32)) &&& (4294967295 : Int64))), .second] rfl at_132 ?_
      refine own_lload H rfl at_134 ?_
      refine own_lload H rfl at_136 ?_
      by_cases c101 : (FU1 (nar .byte (((XT.ushrL p1 (56 : Int32)).toInt32).toInt8.toInt32)) (nar .byte (((XT.ushrL p1 (48 : Int32)).toInt32).toInt8.toInt32)) (nar .byte (((XT.ushrL p1 (40 : Int32)).toInt32).toInt8.toInt32)) (nar .byte (((XT.ushrL p1 (32 : Int32)).toInt32).toInt8.toInt32)) (nar .byte (((XT.ushrL p1 (24 : Int32)).toInt32).toInt8.toInt32)) (nar .byte (((XT.ushrL p1 (16 : Int32)).toInt32).toInt8.toInt32)) (nar .byte (((XT.ushrL p1 (8 : Int32)).toInt32).toInt8.toInt32)) (nar .byte ((p1.toInt32).toInt8.toInt32))) = ((XT.ushrL p1 (24 : Int32)) &&& (4294967295 : Int64))
      ·
        refine own_lcmpne_f H at_138 at_139 c101 ?_
        refine own_lload H rfl at_142 ?_
        refine own_lconst H (0 : Int64) (by decide) at_144 ?_
        by_cases c102 : (FU1 (nar .byte (((XT.ushrL p1 (56 : Int32)).toInt32).toInt8.toInt32)) (nar .byte (((XT.ushrL p1 (48 : Int32)).toInt32).toInt8.toInt32)) (nar .byte (((XT.ushrL p1 (40 : Int32)).toInt32).toInt8.toInt32)) (nar .byte (((XT.ushrL p1 (32 : Int32)).toInt32).toInt8.toInt32)) (nar .byte (((XT.ushrL p1 (24 : Int32)).toInt32).toInt8.toInt32)) (nar .byte (((XT.ushrL p1 (16 : Int32)).toInt32).toInt8.toInt32)) (nar .byte (((XT.ushrL p1 (8 : Int32)).toInt32).toInt8.toInt32)) (nar .byte ((p1.toInt32).toInt8.toInt32))) < (0 : Int64)
        ·
          refine own_lcmplt_t H (pc' := 162) at_145 at_146 (by decide) (by decide) c102 ?_
          refine own_iconst H (0 : Int32) (by decide) at_162 ?_
          exact own_ireturn H (by simp) (by decide) at_163 (by decide) (by decide) (by show some _ = some _; rw [F0, if_neg c50, if_pos c77, if_pos c101, if_pos c102])
        ·
          refine own_lcmplt_f H at_145 at_146 c102 ?_
          refine own_lload H rfl at_149 ?_
          refine own_ldc2J H (w := 24) rfl at_151 ?_
          by_cases c103 : (4294967295 : Int64) < (FU1 (nar .byte (((XT.ushrL p1 (56 : Int32)).toInt32).toInt8.toInt32)) (nar .byte (((XT.ushrL p1 (48 : Int32)).toInt32).toInt8.toInt32)) (nar .byte (((XT.ushrL p1 (40 : Int32)).toInt32).toInt8.toInt32)) (nar .byte (((XT.ushrL p1 (32 : Int32)).toInt32).toInt8.toInt32)) (nar .byte (((XT.ushrL p1 (24 : Int32)).toInt32).toInt8.toInt32)) (nar .byte (((XT.ushrL p1 (16 : Int32)).toInt32).toInt8.toInt32)) (nar .byte (((XT.ushrL p1 (8 : Int32)).toInt32).toInt8.toInt32)) (nar .byte ((p1.toInt32).toInt8.toInt32)))
          ·
            refine own_lcmpgt_t H (pc' := 162) at_154 at_155 (by decide) (by decide) c103 ?_
            refine own_iconst H (0 : Int32) (by decide) at_162 ?_
            exact own_ireturn H (by simp) (by decide) at_163 (by decide) (by decide) (by show some _ = some _; rw [F0, if_neg c50, if_pos c77, if_pos c101, if_neg c102, if_pos c103])
          ·
            refine own_lcmpgt_f H at_154 at_155 c103 ?_
            refine own_iconst H (1 : Int32) (by decide) at_158 ?_
            refine own_goto H (pc' := 163) at_159 (by decide) (by decide) ?_
            exact own_ireturn H (by simp) (by decide) at_163 (by decide) (by decide) (by show some _ = some _; rw [F0, if_neg c50, if_pos c77, if_pos c101, if_neg c102, if_neg c103])
      ·
        refine own_lcmpne_t H (pc' := 162) at_138 at_139 (by decide) (by decide) c101 ?_
        refine own_iconst H (0 : Int32) (by decide) at_162 ?_
        exact own_ireturn H (by simp) (by decide) at_163 (by decide) (by decide) (by show some _ = some _; rw [F0, if_neg c50, if_pos c77, if_neg c101])
    ·
      by_cases c104 : ((p2 &&& (2147483647 : Int32)) % (5 : Int32)) = (2 : Int32)
      ·
        rw [c104]
        show own_G _ _ _ _ _ _ _ _ 93 #[.val (.long p1), .second, .val (.int p2), .val (.int p3), .val (.int p4), .val (.int p5), .val (.ref a2), .val (.int (2 : Int32)), .unset, .unset, .unset, .unset, .unset] []
        refine own_new H (w := 2) (wi := 3) (wz := 4) rfl rfl rfl at_93 (by decide) (by decide) ?_
        intro h105 a106 ha107 E108 X109 D110
        have f111 : a2 ≠ a106 := Nat.ne_of_lt (by rw [ha107]; exact f49.lt)
        have f112 : n0 ≤ a106 := by rw [ha107]; exact f48
        have f113 : n0 ≤ h105.size := Nat.le_trans f48 E108.1
        have f114 : Arv Z h105 a2 kA3 .byte (8 : Int32) [(.int (nar .byte (((XT.ushrL p1 (56 : Int32)).toInt32).toInt8.toInt32))), (.int (nar .byte (((XT.ushrL p1 (48 : Int32)).toInt32).toInt8.toInt32))), (.int (nar .byte (((XT.ushrL p1 (40 : Int32)).toInt32).toInt8.toInt32))), (.int (nar .byte (((XT.ushrL p1 (32 : Int32)).toInt32).toInt8.toInt32))), (.int (nar .byte (((XT.ushrL p1 (24 : Int32)).toInt32).toInt8.toInt32))), (.int (nar .byte (((XT.ushrL p1 (16 : Int32)).toInt32).toInt8.toInt32))), (.int (nar .byte (((XT.ushrL p1 (8 : Int32)).toInt32).toInt8.toInt32))), (.int (nar .byte ((p1.toInt32).toInt8.toInt32)))] (.int 0) := f49.ext E108
        have f115 : Fld Z h105 a106 "com/example/trailwire/trailwire/http2/Frame" "type" "I" (.int (0 : Int32)) := D110 (Or.inr (own_w H (i := 12) rfl)) (ty := .int) (by decide)
        have f116 : Fld Z h105 a106 "com/example/trailwire/trailwire/http2/Frame" "flags" "I" (.int (0 : Int32)) := D110 (Or.inr (own_w H (i := 14) rfl)) (ty := .int) (by decide)
        have f117 : Fld Z h105 a106 "com/example/trailwire/trailwire/http2/Frame" "streamId" "I" (.int (0 : Int32)) := D110 (Or.inr (own_w H (i := 16) rfl)) (ty := .int) (by decide)
        have f118 : Fld Z h105 a106 "com/example/trailwire/trailwire/http2/Frame" "payload" "[B" .null := D110 (Or.inr (own_w H (i := 18) rfl)) (ty := (.array .byte)) (by decide)
        show own_G _ _ _ _ _ _ _ _ 96 #[.val (.long p1), .second, .val (.int p2), .val (.int p3), .val (.int p4), .val (.int p5), .val (.ref a2), .val (.int (2 : Int32)), .unset, .unset, .unset, .unset, .unset] [(.ref a106)]
        refine own_dup H rfl at_96 ?_
        refine own_iload_n H rfl at_97 ?_
        refine own_iload H rfl at_98 ?_
        refine own_iload H rfl at_100 ?_
        refine own_aload H rfl rfl at_102 ?_
        refine own_invokespecial H (a := a106) (argsL := [(.int p3), (.int p4), (.int p5), (.ref a2)]) (rest := [(.ref a106)]) (rm1 l Z a0 (own_hw H) h105 n0 a106 p3 p4 p5 a2 f113 f112 X109 f115 f116 f117 f118) rfl (w1 := 5) (w2 := 6) (w3 := 4) (w4 := 7) rfl rfl rfl rfl own_pd0 rfl 1 (by decide) rfl (by decide) (Nat.le_of_eq rfl) (by decide) (by decide) (by decide) rfl at_104 ?_
        rintro _ h119 ⟨rfl, K120, f121, f122, f123, f124⟩
        have f125 : n0 ≤ h119.size := Nat.le_trans f113 K120.1
        have f126 : Arv Z h119 a2 kA3 .byte (8 : Int32) [(.int (nar .byte (((XT.ushrL p1 (56 : Int32)).toInt32).toInt8.toInt32))), (.int (nar .byte (((XT.ushrL p1 (48 : Int32)).toInt32).toInt8.toInt32))), (.int (nar .byte (((XT.ushrL p1 (40 : Int32)).toInt32).toInt8.toInt32))), (.int (nar .byte (((XT.ushrL p1 (32 : Int32)).toInt32).toInt8.toInt32))), (.int (nar .byte (((XT.ushrL p1 (24 : Int32)).toInt32).toInt8.toInt32))), (.int (nar .byte (((XT.ushrL p1 (16 : Int32)).toInt32).toInt8.toInt32))), (.int (nar .byte (((XT.ushrL p1 (8 : Int32)).toInt32).toInt8.toInt32))), (.int (nar .byte ((p1.toInt32).toInt8.toInt32)))] (.int 0) := f114.keep K120 (ninS f111 nin0)
        have f127 : Exa Z h119 a106 "com/example/trailwire/trailwire/http2/Frame" := X109.keep K120
        show own_G _ _ _ _ _ _ _ _ 107 #[.val (.long p1), .second, .val (.int p2), .val (.int p3), .val (.int p4), .val (.int p5), .val (.ref a2), .val (.int (2 : Int32)), .unset, .unset, .unset, .unset, .unset] [(.ref a106)]
        refine own_astore H rfl #[.val (.long p1), .second, .val (.int p2), .val (.int p3), .val (.int p4), .val (.int p5), .val (.ref a2), .val (.int (2 : Int32)), .val (.ref a106), .unset, .unset, .unset, .unset] rfl at_107 ?_
        refine own_aload H rfl rfl at_109 ?_
        refine own_iload H rfl at_111 ?_
        refine own_invokevirtual H (a := a106) (argsL := [(.int (2 : Int32))]) (rest := []) (rmU2 l Z a0 (own_hw H) h119 n0 a106 a2 kA3 (nar .byte (((XT.ushrL p1 (56 : Int32)).toInt32).toInt8.toInt32)) (nar .byte (((XT.ushrL p1 (48 : Int32)).toInt32).toInt8.toInt32)) (nar .byte (((XT.ushrL p1 (40 : Int32)).toInt32).toInt8.toInt32)) (nar .byte (((XT.ushrL p1 (32 : Int32)).toInt32).toInt8.toInt32)) (nar .byte (((XT.ushrL p1 (24 : Int32)).toInt32).toInt8.toInt32)) (nar .byte (((XT.ushrL p1 (16 : Int32)).toInt32).toInt8.toInt32)) (nar .byte (((XT.ushrL p1 (8 : Int32)).toInt32).toInt8.toInt32)) (nar .byte ((p1.toInt32).toInt8.toInt32)) f126 f124) f127 (w1 := 19) (w0 := 20) (w5 := 22) (w2 := 21) (w3 := 4) (w4 := 23) rfl rfl rfl rfl rfl rfl own_pd1 rfl 0 (by decide) rfl (by decide) (Nat.le_of_eq rfl) (by decide) (by decide) (by decide) rfl at_113 ?_
        rintro _ _ ⟨rfl, rfl⟩
        show own_G _ _ _ _ _ _ _ _ 116 #[.val (.long p1), .second, .val (.int p2), .val (.int p3), .val (.int p4), .val (.int p5), .val (.ref a2), .val (.int (2 : Int32)), .val (.ref a106), .unset, .unset, .unset, .unset] [(.long (FU2 (nar .byte (((XT.ushrL p1 (56 : Int32)).toInt32).toInt8.toInt32)) (nar .byte (((XT.ushrL p1 (48 : Int32)).toInt32).toInt8.toInt32)) (nar .byte (((XT.ushrL p1 (40 : Int32)).toInt32).toInt8.toInt32)) (nar .byte (((XT.ushrL p1 (32 : Int32)).toInt32).toInt8.toInt32)) (nar .byte (((XT.ushrL p1 (24 : Int32)).toInt32).toInt8.toInt32)) (nar .byte (((XT.ushrL p1 (16 : Int32)).toInt32).toInt8.toInt32)) (nar .byte (((XT.ushrL p1 (8 : Int32)).toInt32).toInt8.toInt32)) (nar .byte ((p1.toInt32).toInt8.toInt32))))]
        refine own_lstore H #[.val (.long p1), .second, .val (.int p2), .val (.int p3), .val (.int p4), .val (.int p5), .val (.ref a2), .val (.int (2 : Int32)), .val (.ref a106), .val (.long (FU2 (nar .byte (((XT.ushrL p1 (56 : Int32)).toInt32).toInt8.toInt32)) (nar .byte (((XT.ushrL p1 (48 : Int32)).toInt32).toInt8.toInt32)) (nar .byte (((XT.ushrL p1 (40 : Int32)).toInt32).toInt8.toInt32)) (nar .byte (((XT.ushrL p1 (32 : Int32)).toInt32).toInt8.toInt32)) (nar .byte (((XT.ushrL p1 (24 : Int32)).toInt32).toInt8.toInt32)) (nar .byte (((XT.ushrL p1 (16 : Int32)).toInt32).toInt8.toInt32)) (nar .byte (((XT.ushrL p1 (8 : Int32)).toInt32).toInt8.toInt32)) (nar .byte ((p1.toInt32).toInt8.toInt32)))), .second, .unset, .unset] rfl at_116 ?_
        refine own_lload_n H rfl at_118 ?_
        refine own_bipush H (32 : Int32) (by decide) at_119 ?_
        refine own_bipush H (8 : Int32) (by decide) at_121 ?_
        refine own_iload H rfl at_123 ?_
        refine own_imul (v := (16 : Int32)) H (by decide) at_125 ?_
        refine own_isub (v := (16 : Int32)) H (by decide) at_126 ?_
        refine own_lushr H rfl at_127 ?_
        refine own_ldc2J H (w := 24) rfl at_128 ?_
        refine own_land H rfl at_131 ?_
        refine own_lstore H #[.val (.long p1), .second, .val (.int p2), .val (.int p3), .val (.int p4), .val (.int p5), .val (.ref a2), .val (.int (2 : Int32)), .val (.ref a106), .val (.long (FU2 (nar .byte (((XT.ushrL p1 (56 : Int32)).toInt32).toInt8.toInt32)) (nar .byte (((XT.ushrL p1 (48 : Int32)).toInt32).toInt8.toInt32)) (nar .byte (((XT.ushrL p1 (40 : Int32)).toInt32).toInt8.toInt32)) (nar .byte (((XT.ushrL p1 (32 : Int32)).toInt32).toInt8.toInt32)) (nar .byte (((XT.ushrL p1 (24 : Int32)).toInt32).toInt8.toInt32)) (nar .byte (((XT.ushrL p1 (16 : Int32)).toInt32).toInt8.toInt32)) (nar .byte (((XT.ushrL p1 (8 : Int32)).toInt32).toInt8.toInt32)) (nar .byte ((p1.toInt32).toInt8.toInt32)))), .second, .val (.long ((XT.ushrL p1 (16 : Int32)) &&& (4294967295 : Int64))), .second] rfl at_132 ?_
        refine own_lload H rfl at_134 ?_
        refine own_lload H rfl at_136 ?_
        by_cases c128 : (FU2 (nar .byte (((XT.ushrL p1 (56 : Int32)).toInt32).toInt8.toInt32)) (nar .byte (((XT.ushrL p1 (48 : Int32)).toInt32).toInt8.toInt32)) (nar .byte (((XT.ushrL p1 (40 : Int32)).toInt32).toInt8.toInt32)) (nar .byte (((XT.ushrL p1 (32 : Int32)).toInt32).toInt8.toInt32)) (nar .byte (((XT.ushrL p1 (24 : Int32)).toInt32).toInt8.toInt32)) (nar .byte (((XT.ushrL p1 (16 : Int32)).toInt32).toInt8.toInt32)) (nar .byte (((XT.ushrL p1 (8 : Int32)).toInt32).toInt8.toInt32)) (nar .byte ((p1.toInt32).toInt8.toInt32))) = ((XT.ushrL p1 (16 : Int32)) &&& (4294967295 : Int64))
        ·
          refine own_lcmpne_f H at_138 at_139 c128 ?_
          refine own_lload H rfl at_142 ?_
          refine own_lconst H (0 : Int64) (by decide) at_144 ?_
          by_cases c129 : (FU2 (nar .byte (((XT.ushrL p1 (56 : Int32)).toInt32).toInt8.toInt32)) (nar .byte (((XT.ushrL p1 (48 : Int32)).toInt32).toInt8.toInt32)) (nar .byte (((XT.ushrL p1 (40 : Int32)).toInt32).toInt8.toInt32)) (nar .byte (((XT.ushrL p1 (32 : Int32)).toInt32).toInt8.toInt32)) (nar .byte (((XT.ushrL p1 (24 : Int32)).toInt32).toInt8.toInt32)) (nar .byte (((XT.ushrL p1 (16 : Int32)).toInt32).toInt8.toInt32)) (nar .byte (((XT.ushrL p1 (8 : Int32)).toInt32).toInt8.toInt32)) (nar .byte ((p1.toInt32).toInt8.toInt32))) < (0 : Int64)
          ·
            refine own_lcmplt_t H (pc' := 162) at_145 at_146 (by decide) (by decide) c129 ?_
            refine own_iconst H (0 : Int32) (by decide) at_162 ?_
            exact own_ireturn H (by simp) (by decide) at_163 (by decide) (by decide) (by show some _ = some _; rw [F0, if_neg c50, if_neg c77, if_pos c104, if_pos c128, if_pos c129])
          ·
            refine own_lcmplt_f H at_145 at_146 c129 ?_
            refine own_lload H rfl at_149 ?_
            refine own_ldc2J H (w := 24) rfl at_151 ?_
            by_cases c130 : (4294967295 : Int64) < (FU2 (nar .byte (((XT.ushrL p1 (56 : Int32)).toInt32).toInt8.toInt32)) (nar .byte (((XT.ushrL p1 (48 : Int32)).toInt32).toInt8.toInt32)) (nar .byte (((XT.ushrL p1 (40 : Int32)).toInt32).toInt8.toInt32)) (nar .byte (((XT.ushrL p1 (32 : Int32)).toInt32).toInt8.toInt32)) (nar .byte (((XT.ushrL p1 (24 : Int32)).toInt32).toInt8.toInt32)) (nar .byte (((XT.ushrL p1 (16 : Int32)).toInt32).toInt8.toInt32)) (nar .byte (((XT.ushrL p1 (8 : Int32)).toInt32).toInt8.toInt32)) (nar .byte ((p1.toInt32).toInt8.toInt32)))
            ·
              refine own_lcmpgt_t H (pc' := 162) at_154 at_155 (by decide) (by decide) c130 ?_
              refine own_iconst H (0 : Int32) (by decide) at_162 ?_
              exact own_ireturn H (by simp) (by decide) at_163 (by decide) (by decide) (by show some _ = some _; rw [F0, if_neg c50, if_neg c77, if_pos c104, if_pos c128, if_neg c129, if_pos c130])
            ·
              refine own_lcmpgt_f H at_154 at_155 c130 ?_
              refine own_iconst H (1 : Int32) (by decide) at_158 ?_
              refine own_goto H (pc' := 163) at_159 (by decide) (by decide) ?_
              exact own_ireturn H (by simp) (by decide) at_163 (by decide) (by decide) (by show some _ = some _; rw [F0, if_neg c50, if_neg c77, if_pos c104, if_pos c128, if_neg c129, if_neg c130])
        ·
          refine own_lcmpne_t H (pc' := 162) at_138 at_139 (by decide) (by decide) c128 ?_
          refine own_iconst H (0 : Int32) (by decide) at_162 ?_
          exact own_ireturn H (by simp) (by decide) at_163 (by decide) (by decide) (by show some _ = some _; rw [F0, if_neg c50, if_neg c77, if_pos c104, if_neg c128])
      ·
        by_cases c131 : ((p2 &&& (2147483647 : Int32)) % (5 : Int32)) = (3 : Int32)
        ·
          rw [c131]
          show own_G _ _ _ _ _ _ _ _ 93 #[.val (.long p1), .second, .val (.int p2), .val (.int p3), .val (.int p4), .val (.int p5), .val (.ref a2), .val (.int (3 : Int32)), .unset, .unset, .unset, .unset, .unset] []
          refine own_new H (w := 2) (wi := 3) (wz := 4) rfl rfl rfl at_93 (by decide) (by decide) ?_
          intro h132 a133 ha134 E135 X136 D137
          have f138 : a2 ≠ a133 := Nat.ne_of_lt (by rw [ha134]; exact f49.lt)
          have f139 : n0 ≤ a133 := by rw [ha134]; exact f48
          have f140 : n0 ≤ h132.size := Nat.le_trans f48 E135.1
          have f141 : Arv Z h132 a2 kA3 .byte (8 : Int32) [(.int (nar .byte (((XT.ushrL p1 (56 : Int32)).toInt32).toInt8.toInt32))), (.int (nar .byte (((XT.ushrL p1 (48 : Int32)).toInt32).toInt8.toInt32))), (.int (nar .byte (((XT.ushrL p1 (40 : Int32)).toInt32).toInt8.toInt32))), (.int (nar .byte (((XT.ushrL p1 (32 : Int32)).toInt32).toInt8.toInt32))), (.int (nar .byte (((XT.ushrL p1 (24 : Int32)).toInt32).toInt8.toInt32))), (.int (nar .byte (((XT.ushrL p1 (16 : Int32)).toInt32).toInt8.toInt32))), (.int (nar .byte (((XT.ushrL p1 (8 : Int32)).toInt32).toInt8.toInt32))), (.int (nar .byte ((p1.toInt32).toInt8.toInt32)))] (.int 0) := f49.ext E135
          have f142 : Fld Z h132 a133 "com/example/trailwire/trailwire/http2/Frame" "type" "I" (.int (0 : Int32)) := D137 (Or.inr (own_w H (i := 12) rfl)) (ty := .int) (by decide)
          have f143 : Fld Z h132 a133 "com/example/trailwire/trailwire/http2/Frame" "flags" "I" (.int (0 : Int32)) := D137 (Or.inr (own_w H (i := 14) rfl)) (ty := .int) (by decide)
          have f144 : Fld Z h132 a133 "com/example/trailwire/trailwire/http2/Frame" "streamId" "I" (.int (0 : Int32)) := D137 (Or.inr (own_w H (i := 16) rfl)) (ty := .int) (by decide)
          have f145 : Fld Z h132 a133 "com/example/trailwire/trailwire/http2/Frame" "payload" "[B" .null := D137 (Or.inr (own_w H (i := 18) rfl)) (ty := (.array .byte)) (by decide)
          show own_G _ _ _ _ _ _ _ _ 96 #[.val (.long p1), .second, .val (.int p2), .val (.int p3), .val (.int p4), .val (.int p5), .val (.ref a2), .val (.int (3 : Int32)), .unset, .unset, .unset, .unset, .unset] [(.ref a133)]
          refine own_dup H rfl at_96 ?_
          refine own_iload_n H rfl at_97 ?_
          refine own_iload H rfl at_98 ?_
          refine own_iload H rfl at_100 ?_
          refine own_aload H rfl rfl at_102 ?_
          refine own_invokespecial H (a := a133) (argsL := [(.int p3), (.int p4), (.int p5), (.ref a2)]) (rest := [(.ref a133)]) (rm1 l Z a0 (own_hw H) h132 n0 a133 p3 p4 p5 a2 f140 f139 X136 f142 f143 f144 f145) rfl (w1 := 5) (w2 := 6) (w3 := 4) (w4 := 7) rfl rfl rfl rfl own_pd0 rfl 1 (by decide) rfl (by decide) (Nat.le_of_eq rfl) (by decide) (by decide) (by decide) rfl at_104 ?_
          rintro _ h146 ⟨rfl, K147, f148, f149, f150, f151⟩
          have f152 : n0 ≤ h146.size := Nat.le_trans f140 K147.1
          have f153 : Arv Z h146 a2 kA3 .byte (8 : Int32) [(.int (nar .byte (((XT.ushrL p1 (56 : Int32)).toInt32).toInt8.toInt32))), (.int (nar .byte (((XT.ushrL p1 (48 : Int32)).toInt32).toInt8.toInt32))), (.int (nar .byte (((XT.ushrL p1 (40 : Int32)).toInt32).toInt8.toInt32))), (.int (nar .byte (((XT.ushrL p1 (32 : Int32)).toInt32).toInt8.toInt32))), (.int (nar .byte (((XT.ushrL p1 (24 : Int32)).toInt32).toInt8.toInt32))), (.int (nar .byte (((XT.ushrL p1 (16 : Int32)).toInt32).toInt8.toInt32))), (.int (nar .byte (((XT.ushrL p1 (8 : Int32)).toInt32).toInt8.toInt32))), (.int (nar .byte ((p1.toInt32).toInt8.toInt32)))] (.int 0) := f141.keep K147 (ninS f138 nin0)
          have f154 : Exa Z h146 a133 "com/example/trailwire/trailwire/http2/Frame" := X136.keep K147
          show own_G _ _ _ _ _ _ _ _ 107 #[.val (.long p1), .second, .val (.int p2), .val (.int p3), .val (.int p4), .val (.int p5), .val (.ref a2), .val (.int (3 : Int32)), .unset, .unset, .unset, .unset, .unset] [(.ref a133)]
          refine own_astore H rfl #[.val (.long p1), .second, .val (.int p2), .val (.int p3), .val (.int p4), .val (.int p5), .val (.ref a2), .val (.int (3 : Int32)), .val (.ref a133), .unset, .unset, .unset, .unset] rfl at_107 ?_
          refine own_aload H rfl rfl at_109 ?_
          refine own_iload H rfl at_111 ?_
          refine own_invokevirtual H (a := a133) (argsL := [(.int (3 : Int32))]) (rest := []) (rmU3 l Z a0 (own_hw H) h146 n0 a133 a2 kA3 (nar .byte (((XT.ushrL p1 (56 : Int32)).toInt32).toInt8.toInt32)) (nar .byte (((XT.ushrL p1 (48 : Int32)).toInt32).toInt8.toInt32)) (nar .byte (((XT.ushrL p1 (40 : Int32)).toInt32).toInt8.toInt32)) (nar .byte (((XT.ushrL p1 (32 : Int32)).toInt32).toInt8.toInt32)) (nar .byte (((XT.ushrL p1 (24 : Int32)).toInt32).toInt8.toInt32)) (nar .byte (((XT.ushrL p1 (16 : Int32)).toInt32).toInt8.toInt32)) (nar .byte (((XT.ushrL p1 (8 : Int32)).toInt32).toInt8.toInt32)) (nar .byte ((p1.toInt32).toInt8.toInt32)) f153 f151) f154 (w1 := 19) (w0 := 20) (w5 := 22) (w2 := 21) (w3 := 4) (w4 := 23) rfl rfl rfl rfl rfl rfl own_pd1 rfl 0 (by decide) rfl (by decide) (Nat.le_of_eq rfl) (by decide) (by decide) (by decide) rfl at_113 ?_
          rintro _ _ ⟨rfl, rfl⟩
          show own_G _ _ _ _ _ _ _ _ 116 #[.val (.long p1), .second, .val (.int p2), .val (.int p3), .val (.int p4), .val (.int p5), .val (.ref a2), .val (.int (3 : Int32)), .val (.ref a133), .unset, .unset, .unset, .unset] [(.long (FU3 (nar .byte (((XT.ushrL p1 (56 : Int32)).toInt32).toInt8.toInt32)) (nar .byte (((XT.ushrL p1 (48 : Int32)).toInt32).toInt8.toInt32)) (nar .byte (((XT.ushrL p1 (40 : Int32)).toInt32).toInt8.toInt32)) (nar .byte (((XT.ushrL p1 (32 : Int32)).toInt32).toInt8.toInt32)) (nar .byte (((XT.ushrL p1 (24 : Int32)).toInt32).toInt8.toInt32)) (nar .byte (((XT.ushrL p1 (16 : Int32)).toInt32).toInt8.toInt32)) (nar .byte (((XT.ushrL p1 (8 : Int32)).toInt32).toInt8.toInt32)) (nar .byte ((p1.toInt32).toInt8.toInt32))))]
          refine own_lstore H #[.val (.long p1), .second, .val (.int p2), .val (.int p3), .val (.int p4), .val (.int p5), .val (.ref a2), .val (.int (3 : Int32)), .val (.ref a133), .val (.long (FU3 (nar .byte (((XT.ushrL p1 (56 : Int32)).toInt32).toInt8.toInt32)) (nar .byte (((XT.ushrL p1 (48 : Int32)).toInt32).toInt8.toInt32)) (nar .byte (((XT.ushrL p1 (40 : Int32)).toInt32).toInt8.toInt32)) (nar .byte (((XT.ushrL p1 (32 : Int32)).toInt32).toInt8.toInt32)) (nar .byte (((XT.ushrL p1 (24 : Int32)).toInt32).toInt8.toInt32)) (nar .byte (((XT.ushrL p1 (16 : Int32)).toInt32).toInt8.toInt32)) (nar .byte (((XT.ushrL p1 (8 : Int32)).toInt32).toInt8.toInt32)) (nar .byte ((p1.toInt32).toInt8.toInt32)))), .second, .unset, .unset] rfl at_116 ?_
          refine own_lload_n H rfl at_118 ?_
          refine own_bipush H (32 : Int32) (by decide) at_119 ?_
          refine own_bipush H (8 : Int32) (by decide) at_121 ?_
          refine own_iload H rfl at_123 ?_
          refine own_imul (v := (24 : Int32)) H (by decide) at_125 ?_
          refine own_isub (v := (8 : Int32)) H (by decide) at_126 ?_
          refine own_lushr H rfl at_127 ?_
          refine own_ldc2J H (w := 24) rfl at_128 ?_
          refine own_land H rfl at_131 ?_
          refine own_lstore H #[.val (.long p1), .second, .val (.int p2), .val (.int p3), .val (.int p4), .val (.int p5), .val (.ref a2), .val (.int (3 : Int32)), .val (.ref a133), .val (.long (FU3 (nar .byte (((XT.ushrL p1 (56 : Int32)).toInt32).toInt8.toInt32)) (nar .byte (((XT.ushrL p1 (48 : Int32)).toInt32).toInt8.toInt32)) (nar .byte (((XT.ushrL p1 (40 : Int32)).toInt32).toInt8.toInt32)) (nar .byte (((XT.ushrL p1 (32 : Int32)).toInt32).toInt8.toInt32)) (nar .byte (((XT.ushrL p1 (24 : Int32)).toInt32).toInt8.toInt32)) (nar .byte (((XT.ushrL p1 (16 : Int32)).toInt32).toInt8.toInt32)) (nar .byte (((XT.ushrL p1 (8 : Int32)).toInt32).toInt8.toInt32)) (nar .byte ((p1.toInt32).toInt8.toInt32)))), .second, .val (.long ((XT.ushrL p1 (8 : Int32)) &&& (4294967295 : Int64))), .second] rfl at_132 ?_
          refine own_lload H rfl at_134 ?_
          refine own_lload H rfl at_136 ?_
          by_cases c155 : (FU3 (nar .byte (((XT.ushrL p1 (56 : Int32)).toInt32).toInt8.toInt32)) (nar .byte (((XT.ushrL p1 (48 : Int32)).toInt32).toInt8.toInt32)) (nar .byte (((XT.ushrL p1 (40 : Int32)).toInt32).toInt8.toInt32)) (nar .byte (((XT.ushrL p1 (32 : Int32)).toInt32).toInt8.toInt32)) (nar .byte (((XT.ushrL p1 (24 : Int32)).toInt32).toInt8.toInt32)) (nar .byte (((XT.ushrL p1 (16 : Int32)).toInt32).toInt8.toInt32)) (nar .byte (((XT.ushrL p1 (8 : Int32)).toInt32).toInt8.toInt32)) (nar .byte ((p1.toInt32).toInt8.toInt32))) = ((XT.ushrL p1 (8 : Int32)) &&& (4294967295 : Int64))
          ·
            refine own_lcmpne_f H at_138 at_139 c155 ?_
            refine own_lload H rfl at_142 ?_
            refine own_lconst H (0 : Int64) (by decide) at_144 ?_
            by_cases c156 : (FU3 (nar .byte (((XT.ushrL p1 (56 : Int32)).toInt32).toInt8.toInt32)) (nar .byte (((XT.ushrL p1 (48 : Int32)).toInt32).toInt8.toInt32)) (nar .byte (((XT.ushrL p1 (40 : Int32)).toInt32).toInt8.toInt32)) (nar .byte (((XT.ushrL p1 (32 : Int32)).toInt32).toInt8.toInt32)) (nar .byte (((XT.ushrL p1 (24 : Int32)).toInt32).toInt8.toInt32)) (nar .byte (((XT.ushrL p1 (16 : Int32)).toInt32).toInt8.toInt32)) (nar .byte (((XT.ushrL p1 (8 : Int32)).toInt32).toInt8.toInt32)) (nar .byte ((p1.toInt32).toInt8.toInt32))) < (0 : Int64)
            ·
              refine own_lcmplt_t H (pc' := 162) at_145 at_146 (by decide) (by decide) c156 ?_
              refine own_iconst H (0 : Int32) (by decide) at_162 ?_
              exact own_ireturn H (by simp) (by decide) at_163 (by decide) (by decide) (by show some _ = some _; rw [F0, if_neg c50, if_neg c77, if_neg c104, if_pos c131, if_pos c155, if_pos c156])
            ·
              refine own_lcmplt_f H at_145 at_146 c156 ?_
              refine own_lload H rfl at_149 ?_
              refine own_ldc2J H (w := 24) rfl at_151 ?_
              by_cases c157 : (4294967295 : Int64) < (FU3 (nar .byte (((XT.ushrL p1 (56 : Int32)).toInt32).toInt8.toInt32)) (nar .byte (((XT.ushrL p1 (48 : Int32)).toInt32).toInt8.toInt32)) (nar .byte (((XT.ushrL p1 (40 : Int32)).toInt32).toInt8.toInt32)) (nar .byte (((XT.ushrL p1 (32 : Int32)).toInt32).toInt8.toInt32)) (nar .byte (((XT.ushrL p1 (24 : Int32)).toInt32).toInt8.toInt32)) (nar .byte (((XT.ushrL p1 (16 : Int32)).toInt32).toInt8.toInt32)) (nar .byte (((XT.ushrL p1 (8 : Int32)).toInt32).toInt8.toInt32)) (nar .byte ((p1.toInt32).toInt8.toInt32)))
              ·
                refine own_lcmpgt_t H (pc' := 162) at_154 at_155 (by decide) (by decide) c157 ?_
                refine own_iconst H (0 : Int32) (by decide) at_162 ?_
                exact own_ireturn H (by simp) (by decide) at_163 (by decide) (by decide) (by show some _ = some _; rw [F0, if_neg c50, if_neg c77, if_neg c104, if_pos c131, if_pos c155, if_neg c156, if_pos c157])
              ·
                refine own_lcmpgt_f H at_154 at_155 c157 ?_
                refine own_iconst H (1 : Int32) (by decide) at_158 ?_
                refine own_goto H (pc' := 163) at_159 (by decide) (by decide) ?_
                exact own_ireturn H (by simp) (by decide) at_163 (by decide) (by decide) (by show some _ = some _; rw [F0, if_neg c50, if_neg c77, if_neg c104, if_pos c131, if_pos c155, if_neg c156, if_neg c157])
          ·
            refine own_lcmpne_t H (pc' := 162) at_138 at_139 (by decide) (by decide) c155 ?_
            refine own_iconst H (0 : Int32) (by decide) at_162 ?_
            exact own_ireturn H (by simp) (by decide) at_163 (by decide) (by decide) (by show some _ = some _; rw [F0, if_neg c50, if_neg c77, if_neg c104, if_pos c131, if_neg c155])
        ·
          have c158 : ((p2 &&& (2147483647 : Int32)) % (5 : Int32)) = (4 : Int32) := own_k5 p2 c50 c77 c104 c131
          rw [c158]
          show own_G _ _ _ _ _ _ _ _ 93 #[.val (.long p1), .second, .val (.int p2), .val (.int p3), .val (.int p4), .val (.int p5), .val (.ref a2), .val (.int (4 : Int32)), .unset, .unset, .unset, .unset, .unset] []
          refine own_new H (w := 2) (wi := 3) (wz := 4) rfl rfl rfl at_93 (by decide) (by decide) ?_
          intro h159 a160 ha161 E162 X163 D164
          have f165 : a2 ≠ a160 := Nat.ne_of_lt (by rw [ha161]; exact f49.lt)
          have f166 : n0 ≤ a160 := by rw [ha161]; exact f48
          have f167 : n0 ≤ h159.size := Nat.le_trans f48 E162.1
          have f168 : Arv Z h159 a2 kA3 .byte (8 : Int32) [(.int (nar .byte (((XT.ushrL p1 (56 : Int32)).toInt32).toInt8.toInt32))), (.int (nar .byte (((XT.ushrL p1 (48 : Int32)).toInt32).toInt8.toInt32))), (.int (nar .byte (((XT.ushrL p1 (40 : Int32)).toInt32).toInt8.toInt32))), (.int (nar .byte (((XT.ushrL p1 (32 : Int32)).toInt32).toInt8.toInt32))), (.int (nar .byte (((XT.ushrL p1 (24 : Int32)).toInt32).toInt8.toInt32))), (.int (nar .byte (((XT.ushrL p1 (16 : Int32)).toInt32).toInt8.toInt32))), (.int (nar .byte (((XT.ushrL p1 (8 : Int32)).toInt32).toInt8.toInt32))), (.int (nar .byte ((p1.toInt32).toInt8.toInt32)))] (.int 0) := f49.ext E162
          have f169 : Fld Z h159 a160 "com/example/trailwire/trailwire/http2/Frame" "type" "I" (.int (0 : Int32)) := D164 (Or.inr (own_w H (i := 12) rfl)) (ty := .int) (by decide)
          have f170 : Fld Z h159 a160 "com/example/trailwire/trailwire/http2/Frame" "flags" "I" (.int (0 : Int32)) := D164 (Or.inr (own_w H (i := 14) rfl)) (ty := .int) (by decide)
          have f171 : Fld Z h159 a160 "com/example/trailwire/trailwire/http2/Frame" "streamId" "I" (.int (0 : Int32)) := D164 (Or.inr (own_w H (i := 16) rfl)) (ty := .int) (by decide)
          have f172 : Fld Z h159 a160 "com/example/trailwire/trailwire/http2/Frame" "payload" "[B" .null := D164 (Or.inr (own_w H (i := 18) rfl)) (ty := (.array .byte)) (by decide)
          show own_G _ _ _ _ _ _ _ _ 96 #[.val (.long p1), .second, .val (.int p2), .val (.int p3), .val (.int p4), .val (.int p5), .val (.ref a2), .val (.int (4 : Int32)), .unset, .unset, .unset, .unset, .unset] [(.ref a160)]
          refine own_dup H rfl at_96 ?_
          refine own_iload_n H rfl at_97 ?_
          refine own_iload H rfl at_98 ?_
          refine own_iload H rfl at_100 ?_
          refine own_aload H rfl rfl at_102 ?_
          refine own_invokespecial H (a := a160) (argsL := [(.int p3), (.int p4), (.int p5), (.ref a2)]) (rest := [(.ref a160)]) (rm1 l Z a0 (own_hw H) h159 n0 a160 p3 p4 p5 a2 f167 f166 X163 f169 f170 f171 f172) rfl (w1 := 5) (w2 := 6) (w3 := 4) (w4 := 7) rfl rfl rfl rfl own_pd0 rfl 1 (by decide) rfl (by decide) (Nat.le_of_eq rfl) (by decide) (by decide) (by decide) rfl at_104 ?_
          rintro _ h173 ⟨rfl, K174, f175, f176, f177, f178⟩
          have f179 : n0 ≤ h173.size := Nat.le_trans f167 K174.1
          have f180 : Arv Z h173 a2 kA3 .byte (8 : Int32) [(.int (nar .byte (((XT.ushrL p1 (56 : Int32)).toInt32).toInt8.toInt32))), (.int (nar .byte (((XT.ushrL p1 (48 : Int32)).toInt32).toInt8.toInt32))), (.int (nar .byte (((XT.ushrL p1 (40 : Int32)).toInt32).toInt8.toInt32))), (.int (nar .byte (((XT.ushrL p1 (32 : Int32)).toInt32).toInt8.toInt32))), (.int (nar .byte (((XT.ushrL p1 (24 : Int32)).toInt32).toInt8.toInt32))), (.int (nar .byte (((XT.ushrL p1 (16 : Int32)).toInt32).toInt8.toInt32))), (.int (nar .byte (((XT.ushrL p1 (8 : Int32)).toInt32).toInt8.toInt32))), (.int (nar .byte ((p1.toInt32).toInt8.toInt32)))] (.int 0) := f168.keep K174 (ninS f165 nin0)
          have f181 : Exa Z h173 a160 "com/example/trailwire/trailwire/http2/Frame" := X163.keep K174
          show own_G _ _ _ _ _ _ _ _ 107 #[.val (.long p1), .second, .val (.int p2), .val (.int p3), .val (.int p4), .val (.int p5), .val (.ref a2), .val (.int (4 : Int32)), .unset, .unset, .unset, .unset, .unset] [(.ref a160)]
          refine own_astore H rfl #[.val (.long p1), .second, .val (.int p2), .val (.int p3), .val (.int p4), .val (.int p5), .val (.ref a2), .val (.int (4 : Int32)), .val (.ref a160), .unset, .unset, .unset, .unset] rfl at_107 ?_
          refine own_aload H rfl rfl at_109 ?_
          refine own_iload H rfl at_111 ?_
          refine own_invokevirtual H (a := a160) (argsL := [(.int (4 : Int32))]) (rest := []) (rmU4 l Z a0 (own_hw H) h173 n0 a160 a2 kA3 (nar .byte (((XT.ushrL p1 (56 : Int32)).toInt32).toInt8.toInt32)) (nar .byte (((XT.ushrL p1 (48 : Int32)).toInt32).toInt8.toInt32)) (nar .byte (((XT.ushrL p1 (40 : Int32)).toInt32).toInt8.toInt32)) (nar .byte (((XT.ushrL p1 (32 : Int32)).toInt32).toInt8.toInt32)) (nar .byte (((XT.ushrL p1 (24 : Int32)).toInt32).toInt8.toInt32)) (nar .byte (((XT.ushrL p1 (16 : Int32)).toInt32).toInt8.toInt32)) (nar .byte (((XT.ushrL p1 (8 : Int32)).toInt32).toInt8.toInt32)) (nar .byte ((p1.toInt32).toInt8.toInt32)) f180 f178) f181 (w1 := 19) (w0 := 20) (w5 := 22) (w2 := 21) (w3 := 4) (w4 := 23) rfl rfl rfl rfl rfl rfl own_pd1 rfl 0 (by decide) rfl (by decide) (Nat.le_of_eq rfl) (by decide) (by decide) (by decide) rfl at_113 ?_
          rintro _ _ ⟨rfl, rfl⟩
          show own_G _ _ _ _ _ _ _ _ 116 #[.val (.long p1), .second, .val (.int p2), .val (.int p3), .val (.int p4), .val (.int p5), .val (.ref a2), .val (.int (4 : Int32)), .val (.ref a160), .unset, .unset, .unset, .unset] [(.long (FU4 (nar .byte (((XT.ushrL p1 (56 : Int32)).toInt32).toInt8.toInt32)) (nar .byte (((XT.ushrL p1 (48 : Int32)).toInt32).toInt8.toInt32)) (nar .byte (((XT.ushrL p1 (40 : Int32)).toInt32).toInt8.toInt32)) (nar .byte (((XT.ushrL p1 (32 : Int32)).toInt32).toInt8.toInt32)) (nar .byte (((XT.ushrL p1 (24 : Int32)).toInt32).toInt8.toInt32)) (nar .byte (((XT.ushrL p1 (16 : Int32)).toInt32).toInt8.toInt32)) (nar .byte (((XT.ushrL p1 (8 : Int32)).toInt32).toInt8.toInt32)) (nar .byte ((p1.toInt32).toInt8.toInt32))))]
          refine own_lstore H #[.val (.long p1), .second, .val (.int p2), .val (.int p3), .val (.int p4), .val (.int p5), .val (.ref a2), .val (.int (4 : Int32)), .val (.ref a160), .val (.long (FU4 (nar .byte (((XT.ushrL p1 (56 : Int32)).toInt32).toInt8.toInt32)) (nar .byte (((XT.ushrL p1 (48 : Int32)).toInt32).toInt8.toInt32)) (nar .byte (((XT.ushrL p1 (40 : Int32)).toInt32).toInt8.toInt32)) (nar .byte (((XT.ushrL p1 (32 : Int32)).toInt32).toInt8.toInt32)) (nar .byte (((XT.ushrL p1 (24 : Int32)).toInt32).toInt8.toInt32)) (nar .byte (((XT.ushrL p1 (16 : Int32)).toInt32).toInt8.toInt32)) (nar .byte (((XT.ushrL p1 (8 : Int32)).toInt32).toInt8.toInt32)) (nar .byte ((p1.toInt32).toInt8.toInt32)))), .second, .unset, .unset] rfl at_116 ?_
          refine own_lload_n H rfl at_118 ?_
          refine own_bipush H (32 : Int32) (by decide) at_119 ?_
          refine own_bipush H (8 : Int32) (by decide) at_121 ?_
          refine own_iload H rfl at_123 ?_
          refine own_imul (v := (32 : Int32)) H (by decide) at_125 ?_
          refine own_isub (v := (0 : Int32)) H (by decide) at_126 ?_
          refine own_lushr H rfl at_127 ?_
          refine own_ldc2J H (w := 24) rfl at_128 ?_
          refine own_land H rfl at_131 ?_
          refine own_lstore H #[.val (.long p1), .second, .val (.int p2), .val (.int p3), .val (.int p4), .val (.int p5), .val (.ref a2), .val (.int (4 : Int32)), .val (.ref a160), .val (.long (FU4 (nar .byte (((XT.ushrL p1 (56 : Int32)).toInt32).toInt8.toInt32)) (nar .byte (((XT.ushrL p1 (48 : Int32)).toInt32).toInt8.toInt32)) (nar .byte (((XT.ushrL p1 (40 : Int32)).toInt32).toInt8.toInt32)) (nar .byte (((XT.ushrL p1 (32 : Int32)).toInt32).toInt8.toInt32)) (nar .byte (((XT.ushrL p1 (24 : Int32)).toInt32).toInt8.toInt32)) (nar .byte (((XT.ushrL p1 (16 : Int32)).toInt32).toInt8.toInt32)) (nar .byte (((XT.ushrL p1 (8 : Int32)).toInt32).toInt8.toInt32)) (nar .byte ((p1.toInt32).toInt8.toInt32)))), .second, .val (.long ((XT.ushrL p1 (0 : Int32)) &&& (4294967295 : Int64))), .second] rfl at_132 ?_
          refine own_lload H rfl at_134 ?_
          refine own_lload H rfl at_136 ?_
          by_cases c182 : (FU4 (nar .byte (((XT.ushrL p1 (56 : Int32)).toInt32).toInt8.toInt32)) (nar .byte (((XT.ushrL p1 (48 : Int32)).toInt32).toInt8.toInt32)) (nar .byte (((XT.ushrL p1 (40 : Int32)).toInt32).toInt8.toInt32)) (nar .byte (((XT.ushrL p1 (32 : Int32)).toInt32).toInt8.toInt32)) (nar .byte (((XT.ushrL p1 (24 : Int32)).toInt32).toInt8.toInt32)) (nar .byte (((XT.ushrL p1 (16 : Int32)).toInt32).toInt8.toInt32)) (nar .byte (((XT.ushrL p1 (8 : Int32)).toInt32).toInt8.toInt32)) (nar .byte ((p1.toInt32).toInt8.toInt32))) = ((XT.ushrL p1 (0 : Int32)) &&& (4294967295 : Int64))
          ·
            refine own_lcmpne_f H at_138 at_139 c182 ?_
            refine own_lload H rfl at_142 ?_
            refine own_lconst H (0 : Int64) (by decide) at_144 ?_
            by_cases c183 : (FU4 (nar .byte (((XT.ushrL p1 (56 : Int32)).toInt32).toInt8.toInt32)) (nar .byte (((XT.ushrL p1 (48 : Int32)).toInt32).toInt8.toInt32)) (nar .byte (((XT.ushrL p1 (40 : Int32)).toInt32).toInt8.toInt32)) (nar .byte (((XT.ushrL p1 (32 : Int32)).toInt32).toInt8.toInt32)) (nar .byte (((XT.ushrL p1 (24 : Int32)).toInt32).toInt8.toInt32)) (nar .byte (((XT.ushrL p1 (16 : Int32)).toInt32).toInt8.toInt32)) (nar .byte (((XT.ushrL p1 (8 : Int32)).toInt32).toInt8.toInt32)) (nar .byte ((p1.toInt32).toInt8.toInt32))) < (0 : Int64)
            ·
              refine own_lcmplt_t H (pc' := 162) at_145 at_146 (by decide) (by decide) c183 ?_
              refine own_iconst H (0 : Int32) (by decide) at_162 ?_
              exact own_ireturn H (by simp) (by decide) at_163 (by decide) (by decide) (by show some _ = some _; rw [F0, if_neg c50, if_neg c77, if_neg c104, if_neg c131, if_pos c182, if_pos c183])
            ·
              refine own_lcmplt_f H at_145 at_146 c183 ?_
              refine own_lload H rfl at_149 ?_
              refine own_ldc2J H (w := 24) rfl at_151 ?_
              by_cases c184 : (4294967295 : Int64) < (FU4 (nar .byte (((XT.ushrL p1 (56 : Int32)).toInt32).toInt8.toInt32)) (nar .byte (((XT.ushrL p1 (48 : Int32)).toInt32).toInt8.toInt32)) (nar .byte (((XT.ushrL p1 (40 : Int32)).toInt32).toInt8.toInt32)) (nar .byte (((XT.ushrL p1 (32 : Int32)).toInt32).toInt8.toInt32)) (nar .byte (((XT.ushrL p1 (24 : Int32)).toInt32).toInt8.toInt32)) (nar .byte (((XT.ushrL p1 (16 : Int32)).toInt32).toInt8.toInt32)) (nar .byte (((XT.ushrL p1 (8 : Int32)).toInt32).toInt8.toInt32)) (nar .byte ((p1.toInt32).toInt8.toInt32)))
              ·
                refine own_lcmpgt_t H (pc' := 162) at_154 at_155 (by decide) (by decide) c184 ?_
                refine own_iconst H (0 : Int32) (by decide) at_162 ?_
                exact own_ireturn H (by simp) (by decide) at_163 (by decide) (by decide) (by show some _ = some _; rw [F0, if_neg c50, if_neg c77, if_neg c104, if_neg c131, if_pos c182, if_neg c183, if_pos c184])
              ·
                refine own_lcmpgt_f H at_154 at_155 c184 ?_
                refine own_iconst H (1 : Int32) (by decide) at_158 ?_
                refine own_goto H (pc' := 163) at_159 (by decide) (by decide) ?_
                exact own_ireturn H (by simp) (by decide) at_163 (by decide) (by decide) (by show some _ = some _; rw [F0, if_neg c50, if_neg c77, if_neg c104, if_neg c131, if_pos c182, if_neg c183, if_neg c184])
          ·
            refine own_lcmpne_t H (pc' := 162) at_138 at_139 (by decide) (by decide) c182 ?_
            refine own_iconst H (0 : Int32) (by decide) at_162 ?_
            exact own_ireturn H (by simp) (by decide) at_163 (by decide) (by decide) (by show some _ = some _; rw [F0, if_neg c50, if_neg c77, if_neg c104, if_neg c131, if_neg c182])
theorem own_byte (x : Int64) : (((nar .byte ((x.toInt32).toInt8.toInt32)) &&& (255 : Int32)).toInt64).toBitVec.toNat = x.toBitVec.toNat % 256 := by
  show ((((x.toInt32).toInt8.toInt32.toInt8.toInt32) &&& (255 : Int32)).toInt64).toBitVec.toNat = _
  have e : (x.toInt32).toInt8.toInt32.toInt8 = x.toInt32.toInt8 := by simp
  rw [e]
  have e1 : (x.toInt32.toInt8.toInt32 &&& (255 : Int32)).toBitVec.toNat = x.toBitVec.toNat % 256 := by
    have : (x.toInt32.toInt8.toInt32 &&& (255 : Int32)).toBitVec.toNat = x.toInt32.toInt8.toInt32.toBitVec.toNat &&& 255 := by
      rw [Int32.toBitVec_and, BitVec.toNat_and]; rfl
    rw [this, Nat.and_two_pow_sub_one_eq_mod _ 8]
    have h : x.toInt32.toInt8.toInt32.toBitVec = (x.toInt32.toInt8.toBitVec).signExtend 32 := rfl
    have h' : x.toInt32.toInt8.toBitVec.toNat = x.toBitVec.toNat % 256 := by
      have : x.toInt32.toInt8.toBitVec = (x.toBitVec.signExtend 32).signExtend 8 := rfl
      rw [this]
      simp [BitVec.signExtend_eq_setWidth_of_le]
    rw [h, BitVec.toNat_signExtend, BitVec.toNat_setWidth]
    have := x.toInt32.toInt8.toBitVec.isLt
    split <;> omega
  have e2 : (x.toInt32.toInt8.toInt32 &&& (255 : Int32)).toInt64.toBitVec = ((x.toInt32.toInt8.toInt32 &&& (255 : Int32)).toBitVec).signExtend 64 := rfl
  rw [e2, BitVec.toNat_signExtend, BitVec.toNat_setWidth, BitVec.msb_eq_decide, e1]
  have : ¬ (2 ^ (32 - 1) ≤ x.toBitVec.toNat % 256) := by omega
  rw [decide_eq_false this]
  simp
  omega
theorem own_so (a b : Int64) (ha : a.toBitVec.toNat < 2 ^ 56) (hb : b.toBitVec.toNat < 256) : ((a <<< ((8 : Int32).toInt64 &&& 63)) ||| b).toBitVec.toNat = a.toBitVec.toNat * 256 + b.toBitVec.toNat := by
  have e : ((8 : Int32).toInt64 &&& 63) = 8 := by decide
  rw [e, Int64.toBitVec_or, BitVec.toNat_or]
  have e3 : (a <<< (8 : Int64)).toBitVec.toNat = a.toBitVec.toNat <<< 8 := by
    have : (a <<< (8 : Int64)).toBitVec = a.toBitVec <<< ((8 : Int64).toBitVec.smod 64) := rfl
    have q : ((8 : Int64).toBitVec.smod 64) = 8#64 := by decide
    rw [this, q]
    show (a.toBitVec <<< (8#64).toNat).toNat = _
    rw [BitVec.toNat_shiftLeft]
    have q2 : (8#64).toNat = 8 := rfl
    rw [q2, Nat.shiftLeft_eq, Nat.mod_eq_of_lt (by omega)]
  rw [e3, ← Nat.shiftLeft_add_eq_or_of_lt (i := 8) hb, Nat.shiftLeft_eq]
theorem own_ushrL (x : Int64) (k : Int32) (s : Nat) (hs : s < 64) (hk : (k.toInt64.toUInt64 &&& Int64.toUInt64 63).toNat = s) : (XT.ushrL x k).toBitVec.toNat = x.toBitVec.toNat / 2 ^ s := by
  have h : (XT.ushrL x k).toBitVec.toNat = (x.toUInt64 >>> (k.toInt64.toUInt64 &&& Int64.toUInt64 63)).toNat := rfl
  rw [h, UInt64.toNat_shiftRight, hk, Nat.mod_eq_of_lt hs, Nat.shiftRight_eq_div_pow]
  rfl
theorem own_and32 (y : Int64) : (y &&& (4294967295 : Int64)).toBitVec.toNat = y.toBitVec.toNat % 4294967296 := by
  have : (y &&& (4294967295 : Int64)).toBitVec.toNat = y.toBitVec.toNat &&& 4294967295 := by
    rw [Int64.toBitVec_and, BitVec.toNat_and]; rfl
  rw [this]
  exact Nat.and_two_pow_sub_one_eq_mod _ 32
theorem own_c4 (B0 B1 B2 B3 : Int64) (n0 n1 n2 n3 : Nat) (h0 : B0.toBitVec.toNat = n0 % 256) (h1 : B1.toBitVec.toNat = n1 % 256) (h2 : B2.toBitVec.toNat = n2 % 256) (h3 : B3.toBitVec.toNat = n3 % 256) :
    ((((((((0 : Int64) ||| B0) <<< ((8 : Int32).toInt64 &&& 63)) ||| B1) <<< ((8 : Int32).toInt64 &&& 63)) ||| B2) <<< ((8 : Int32).toInt64 &&& 63)) ||| B3).toBitVec.toNat = ((n0 % 256 * 256 + n1 % 256) * 256 + n2 % 256) * 256 + n3 % 256 := by
  have e0 : ((0 : Int64) ||| B0).toBitVec.toNat = n0 % 256 := by
    rw [Int64.toBitVec_or, BitVec.toNat_or, h0]
    have : (0 : Int64).toBitVec.toNat = 0 := rfl
    rw [this, Nat.zero_or]
  have e1 := own_so ((0 : Int64) ||| B0) B1 (by rw [e0]; omega) (by rw [h1]; omega)
  rw [e0, h1] at e1
  have e2 := own_so _ B2 (by rw [e1]; omega) (by rw [h2]; omega)
  rw [e1, h2] at e2
  have e3 := own_so _ B3 (by rw [e2]; omega) (by rw [h3]; omega)
  rw [e2, h3] at e3
  exact e3
theorem own_fin (E y : Int64) (h : E.toBitVec.toNat = y.toBitVec.toNat % 4294967296) : (if E = (y &&& (4294967295 : Int64)) then if E < (0 : Int64) then (0 : Int32) else if (4294967295 : Int64) < E then (0 : Int32) else (1 : Int32) else (0 : Int32)) = 1 := by
  have e : E = y &&& (4294967295 : Int64) := Int64.toBitVec_inj.mp (BitVec.eq_of_toNat_eq (by rw [h, own_and32]))
  have hi : E.toInt = E.toBitVec.toNat := by
    show E.toBitVec.toInt = _
    rw [BitVec.toInt_eq_toNat_cond, if_pos (by omega)]
  have c1 : ¬ E < (0 : Int64) := by
    rw [Int64.lt_iff_toInt_lt, hi]
    have : (0 : Int64).toInt = 0 := rfl
    omega
  have c2 : ¬ (4294967295 : Int64) < E := by
    rw [Int64.lt_iff_toInt_lt, hi]
    have : (4294967295 : Int64).toInt = 4294967295 := by decide
    omega
  rw [if_pos e, if_neg c1, if_neg c2]

theorem own_U0 (p1 : Int64) : (FU0 (nar .byte (((XT.ushrL p1 (56 : Int32)).toInt32).toInt8.toInt32)) (nar .byte (((XT.ushrL p1 (48 : Int32)).toInt32).toInt8.toInt32)) (nar .byte (((XT.ushrL p1 (40 : Int32)).toInt32).toInt8.toInt32)) (nar .byte (((XT.ushrL p1 (32 : Int32)).toInt32).toInt8.toInt32)) (nar .byte (((XT.ushrL p1 (24 : Int32)).toInt32).toInt8.toInt32)) (nar .byte (((XT.ushrL p1 (16 : Int32)).toInt32).toInt8.toInt32)) (nar .byte (((XT.ushrL p1 (8 : Int32)).toInt32).toInt8.toInt32)) (nar .byte ((p1.toInt32).toInt8.toInt32))).toBitVec.toNat = (XT.ushrL p1 (32 : Int32)).toBitVec.toNat % 4294967296 := by
  have hv := p1.toBitVec.isLt
  unfold FU0
  rw [own_c4 _ _ _ _ _ _ _ _ (own_byte (XT.ushrL p1 (56 : Int32))) (own_byte (XT.ushrL p1 (48 : Int32))) (own_byte (XT.ushrL p1 (40 : Int32))) (own_byte (XT.ushrL p1 (32 : Int32)))]
  rw [own_ushrL p1 (32 : Int32) 32 (by decide) (by decide)]
  rw [own_ushrL p1 (40 : Int32) 40 (by decide) (by decide)]
  rw [own_ushrL p1 (48 : Int32) 48 (by decide) (by decide)]
  rw [own_ushrL p1 (56 : Int32) 56 (by decide) (by decide)]
  simp only [Nat.reducePow]
  omega
theorem own_U1 (p1 : Int64) : (FU1 (nar .byte (((XT.ushrL p1 (56 : Int32)).toInt32).toInt8.toInt32)) (nar .byte (((XT.ushrL p1 (48 : Int32)).toInt32).toInt8.toInt32)) (nar .byte (((XT.ushrL p1 (40 : Int32)).toInt32).toInt8.toInt32)) (nar .byte (((XT.ushrL p1 (32 : Int32)).toInt32).toInt8.toInt32)) (nar .byte (((XT.ushrL p1 (24 : Int32)).toInt32).toInt8.toInt32)) (nar .byte (((XT.ushrL p1 (16 : Int32)).toInt32).toInt8.toInt32)) (nar .byte (((XT.ushrL p1 (8 : Int32)).toInt32).toInt8.toInt32)) (nar .byte ((p1.toInt32).toInt8.toInt32))).toBitVec.toNat = (XT.ushrL p1 (24 : Int32)).toBitVec.toNat % 4294967296 := by
  have hv := p1.toBitVec.isLt
  unfold FU1
  rw [own_c4 _ _ _ _ _ _ _ _ (own_byte (XT.ushrL p1 (48 : Int32))) (own_byte (XT.ushrL p1 (40 : Int32))) (own_byte (XT.ushrL p1 (32 : Int32))) (own_byte (XT.ushrL p1 (24 : Int32)))]
  rw [own_ushrL p1 (24 : Int32) 24 (by decide) (by decide)]
  rw [own_ushrL p1 (32 : Int32) 32 (by decide) (by decide)]
  rw [own_ushrL p1 (40 : Int32) 40 (by decide) (by decide)]
  rw [own_ushrL p1 (48 : Int32) 48 (by decide) (by decide)]
  simp only [Nat.reducePow]
  omega
theorem own_U2 (p1 : Int64) : (FU2 (nar .byte (((XT.ushrL p1 (56 : Int32)).toInt32).toInt8.toInt32)) (nar .byte (((XT.ushrL p1 (48 : Int32)).toInt32).toInt8.toInt32)) (nar .byte (((XT.ushrL p1 (40 : Int32)).toInt32).toInt8.toInt32)) (nar .byte (((XT.ushrL p1 (32 : Int32)).toInt32).toInt8.toInt32)) (nar .byte (((XT.ushrL p1 (24 : Int32)).toInt32).toInt8.toInt32)) (nar .byte (((XT.ushrL p1 (16 : Int32)).toInt32).toInt8.toInt32)) (nar .byte (((XT.ushrL p1 (8 : Int32)).toInt32).toInt8.toInt32)) (nar .byte ((p1.toInt32).toInt8.toInt32))).toBitVec.toNat = (XT.ushrL p1 (16 : Int32)).toBitVec.toNat % 4294967296 := by
  have hv := p1.toBitVec.isLt
  unfold FU2
  rw [own_c4 _ _ _ _ _ _ _ _ (own_byte (XT.ushrL p1 (40 : Int32))) (own_byte (XT.ushrL p1 (32 : Int32))) (own_byte (XT.ushrL p1 (24 : Int32))) (own_byte (XT.ushrL p1 (16 : Int32)))]
  rw [own_ushrL p1 (16 : Int32) 16 (by decide) (by decide)]
  rw [own_ushrL p1 (24 : Int32) 24 (by decide) (by decide)]
  rw [own_ushrL p1 (32 : Int32) 32 (by decide) (by decide)]
  rw [own_ushrL p1 (40 : Int32) 40 (by decide) (by decide)]
  simp only [Nat.reducePow]
  omega
theorem own_U3 (p1 : Int64) : (FU3 (nar .byte (((XT.ushrL p1 (56 : Int32)).toInt32).toInt8.toInt32)) (nar .byte (((XT.ushrL p1 (48 : Int32)).toInt32).toInt8.toInt32)) (nar .byte (((XT.ushrL p1 (40 : Int32)).toInt32).toInt8.toInt32)) (nar .byte (((XT.ushrL p1 (32 : Int32)).toInt32).toInt8.toInt32)) (nar .byte (((XT.ushrL p1 (24 : Int32)).toInt32).toInt8.toInt32)) (nar .byte (((XT.ushrL p1 (16 : Int32)).toInt32).toInt8.toInt32)) (nar .byte (((XT.ushrL p1 (8 : Int32)).toInt32).toInt8.toInt32)) (nar .byte ((p1.toInt32).toInt8.toInt32))).toBitVec.toNat = (XT.ushrL p1 (8 : Int32)).toBitVec.toNat % 4294967296 := by
  have hv := p1.toBitVec.isLt
  unfold FU3
  rw [own_c4 _ _ _ _ _ _ _ _ (own_byte (XT.ushrL p1 (32 : Int32))) (own_byte (XT.ushrL p1 (24 : Int32))) (own_byte (XT.ushrL p1 (16 : Int32))) (own_byte (XT.ushrL p1 (8 : Int32)))]
  rw [own_ushrL p1 (8 : Int32) 8 (by decide) (by decide)]
  rw [own_ushrL p1 (16 : Int32) 16 (by decide) (by decide)]
  rw [own_ushrL p1 (24 : Int32) 24 (by decide) (by decide)]
  rw [own_ushrL p1 (32 : Int32) 32 (by decide) (by decide)]
  simp only [Nat.reducePow]
  omega
theorem own_U4 (p1 : Int64) : (FU4 (nar .byte (((XT.ushrL p1 (56 : Int32)).toInt32).toInt8.toInt32)) (nar .byte (((XT.ushrL p1 (48 : Int32)).toInt32).toInt8.toInt32)) (nar .byte (((XT.ushrL p1 (40 : Int32)).toInt32).toInt8.toInt32)) (nar .byte (((XT.ushrL p1 (32 : Int32)).toInt32).toInt8.toInt32)) (nar .byte (((XT.ushrL p1 (24 : Int32)).toInt32).toInt8.toInt32)) (nar .byte (((XT.ushrL p1 (16 : Int32)).toInt32).toInt8.toInt32)) (nar .byte (((XT.ushrL p1 (8 : Int32)).toInt32).toInt8.toInt32)) (nar .byte ((p1.toInt32).toInt8.toInt32))).toBitVec.toNat = (XT.ushrL p1 (0 : Int32)).toBitVec.toNat % 4294967296 := by
  have hv := p1.toBitVec.isLt
  unfold FU4
  rw [own_c4 _ _ _ _ _ _ _ _ (own_byte (XT.ushrL p1 (24 : Int32))) (own_byte (XT.ushrL p1 (16 : Int32))) (own_byte (XT.ushrL p1 (8 : Int32))) (own_byte p1)]
  rw [own_ushrL p1 (0 : Int32) 0 (by decide) (by decide)]
  rw [own_ushrL p1 (8 : Int32) 8 (by decide) (by decide)]
  rw [own_ushrL p1 (16 : Int32) 16 (by decide) (by decide)]
  rw [own_ushrL p1 (24 : Int32) 24 (by decide) (by decide)]
  simp only [Nat.reducePow]
  omega
theorem own_law (p1 : Int64) (p2 p3 p4 p5 : Int32) : F0 p1 p2 p3 p4 p5 = 1 := by
  unfold F0
  split
  · exact own_fin _ _ (own_U0 p1)
  split
  · exact own_fin _ _ (own_U1 p1)
  split
  · exact own_fin _ _ (own_U2 p1)
  split
  · exact own_fin _ _ (own_U3 p1)
  · exact own_fin _ _ (own_U4 p1)
set_option maxHeartbeats 40000000 in
theorem comes_1 {Post : Tables → Env → Array Value → State → Outcome → State → Prop} (hpost : ∀ tb e args s v u, (limb_1_1.after args s (.returned v) u = true ∧ limb_1_2.after args s (.returned v) u = true ∧ True) → FrameEnd s (.returned v) u (Jvm.fieldLocs frame_1_writes args s ++ Jvm.arrayLocs frame_1_arrays args s ++ Jvm.staticLocs frame_1_statics s) 16 128 → Post tb e args s (.returned v) u) :
    ArmFor flags0 classFile x code maxLocals ret World_1 tables_1 room_1 Calls_1 rest_1 Pre_1 Post := by
  intro l hfl _ _ p e ha hc hk s m args below hf hA hF happ hP
  obtain ⟨hcalls, hrest, hpre⟩ := hP
  obtain ⟨-, -, -, hnamed, -, -, -, hat⟩ := (Spec.applies_iff hf).mp happ
  obtain ⟨hg, hn⟩ := and_e (Cond.before_iff.mp (show (Jvm.Cond.and given_1 narrow_1).before args s = true from hpre))
  obtain ⟨h1, g0⟩ := and_e hg
  obtain ⟨w0, w1, w2, w3, w4, rfl⟩ : ∃ w0 w1 w2 w3 w4 : Value, args = #[w0, w1, w2, w3, w4] := by
    have hs : args.size = 5 := by simpa [Cond.value, given_1] using h1
    obtain ⟨L⟩ := args
    match L, hs with
    | [w0, w1, w2, w3, w4], _ => exact ⟨w0, w1, w2, w3, w4, rfl⟩
  have hw := fun d (hd : d ∈ tables_1) => atoms_spec (ws := Jvm.Cond.code x code maxLocals ret :: tables_1) hat d (List.mem_cons_of_mem _ hd)
  have hw' : ∀ (i : Nat) (d : Jvm.Cond), tables_1[i]? = some d → d.before _ s = true := fun i d q => hw d (List.mem_of_getElem? q)
  obtain ⟨u0, g1⟩ := and_e g0
  obtain ⟨i0, e0⟩ := isL_v u0
  obtain rfl : w0 = (.long i0) := Option.some.inj e0
  obtain ⟨u1, g2⟩ := and_e g1
  obtain ⟨i1, e1⟩ := is_v u1
  obtain rfl : w1 = (.int i1) := Option.some.inj e1
  obtain ⟨u2, g3⟩ := and_e g2
  obtain ⟨i2, e2⟩ := is_v u2
  obtain rfl : w2 = (.int i2) := Option.some.inj e2
  obtain ⟨u3, g4⟩ := and_e g3
  obtain ⟨i3, e3⟩ := is_v u3
  obtain rfl : w3 = (.int i3) := Option.some.inj e3
  obtain ⟨i4, e4⟩ := is_v g4
  obtain rfl : w4 = (.int i4) := Option.some.inj e4
  obtain ⟨n, o, h1, h2, h3, _, L, rfl, ⟨rfl, N⟩, hq⟩ := rm0 l s _ hw' tables_1 s.heap s.heap.size i0 i1 i2 i3 i4 (Nat.le_refl _) p e ha hc hk s m _ below hf ((Spec.applies_iff_loose hf).mp happ).1 ⟨rfl, State.Warmed39.refl s, rfl⟩ trivial
  refine ⟨n, _, h1, h2, h3, hpost _ _ _ _ _ _ ⟨Cond.after_iff.mpr rfl, Cond.after_iff.mpr (eq_i res_at (Term.int_eval (1)) (by rw [own_law])), trivial⟩ ⟨hq.1, hq.2.1, (hq.2.2.sift fun y hy => Or.inr (N y hy)).mono (by decide) (by decide)⟩⟩
theorem main_1_1 : Claimed_1_1 := comes_1 fun _ _ _ _ _ _ h hF => ⟨h.1, hF⟩
theorem main_1_2 : Claimed_1_2 := comes_1 fun _ _ _ _ _ _ h hF => ⟨h.2.1, hF⟩
end Jvm.Pilot.@@N@@
namespace Jvm.Pilot.@@N@@
open Jvm Jvm.ClassFile Sem Op Lib Jvm.Free Jvm.Stand Jvm.Pilot.@@N@@.Jvm.D
/-! MADE BY PROGRAM (witnessworld.py) out of the Statement's table words and the real class files: 9 classes; the members and pool entries that the words name. The judged class is class 1, her method 1. -/
namespace start1
open Jvm.ClassFile
def u (s : String) : CpInfo := .utf8 (stringToUtf16 s)
/-- a pool by its gaps: so many unusable entries, then the entry; so many at the end -/
def gap : Nat → List CpInfo → List CpInfo
  | 0, r => r
  | n + 1, r => .unusable :: gap n r
def poolList (es : List (Nat × CpInfo)) (last : Nat) : List CpInfo := es.foldr (fun e r => gap e.1 (e.2 :: r)) (gap last [])
def pool (es : List (Nat × CpInfo)) (last : Nat) : Array CpInfo := ⟨poolList es last⟩
def fileOf (pool : Array CpInfo) (this : Nat) (attrs : Array Attribute := #[]) (ms : Array MethodInfo := #[]) (fl : Nat := 33) (sup : Nat := 0) (ifs : Array Nat := #[]) (fds : Array FieldInfo := #[]) : ClassFile where
  minorVersion := 0
  majorVersion := 65
  constantPool := pool
  accessFlags := fl
  thisClass := this
  superClass := sup
  interfaces := ifs
  fields := fds
  methods := ms
  attributes := attrs
def plain (name : String) (sup : Option ClassId) : Class where
  name := name
  kind := .ordinary
  loader := none
  accessFlags := 33
  super := sup
  interfaces := #[]
  cf := none
  fields := #[]
  methods := #[]
  instanceTypes := #[]
  staticTypes := #[]
  resolved := #[]
  callSites := []
  init := .initialized
  statics := none
  mirror := none

def pool0 : Array CpInfo := pool [(5, u "<init>"), (0, u "()V"), (1, .class_ 10), (1, u "java/lang/Object")] 113

def k0c0 : Code := { maxStack := 0, maxLocals := 1, code := object_method_1_code, exceptionTable := #[], attributes := #[] }
def k0m0 : Method := { name := "<init>", desc := "()V", sig := { parameters := [], returnType := none }, accessFlags := 1, code := some k0c0 }
/-- java/lang/Object -/
def k0 : Class := { plain "java/lang/Object" none with
  accessFlags := 33
  interfaces := #[]
  cf := some (fileOf pool0 8 #[] #[{ accessFlags := 1, nameIndex := 5, descriptorIndex := 6, attributes := #[] }] 33 0 #[] #[])
  fields := #[]
  methods := #[k0m0]
  instanceTypes := #[]
  staticTypes := #[]
  resolved := Array.replicate 124 none
  statics := none }

def pool1 : Array CpInfo := pool [(2, .class_ 4), (1, u "java/lang/Object"), (0, u "<init>"), (0, u "()V"), (0, .integer 2147483647), (0, .class_ 9), (0, u "com/example/trailwire/trailwire/http2/Frame"), (0, .methodref 8 11), (0, .nameAndType 5 12), (0, u "(III[B)V"), (0, .methodref 8 14), (0, .nameAndType 15 16), (0, u "readUnsigned32"), (0, u "(I)J"), (0, .long 4294967295), (1, .class_ 20), (0, u "com/example/trailwire/trailwire/http2/FrameReadUnsigned32PinLaw"), (2, u "law"), (0, u "(JIIII)Z")] 5

def k1m0 : Method := { name := "<init>", desc := "()V", sig := { parameters := [], returnType := none }, accessFlags := 1, code := none }
def k1c1 : Code := { maxStack := 6, maxLocals := 13, code := code, exceptionTable := #[], attributes := #[] }
def k1m1 : Method := { name := "law", desc := "(JIIII)Z", sig := { parameters := [.long, .int, .int, .int, .int], returnType := some .boolean }, accessFlags := 9, code := some k1c1 }
/-- com/example/trailwire/trailwire/http2/FrameReadUnsigned32PinLaw -/
def k1 : Class := { plain "com/example/trailwire/trailwire/http2/FrameReadUnsigned32PinLaw" (some 0) with
  accessFlags := 49
  interfaces := #[]
  cf := some (fileOf pool1 19 #[] #[{ accessFlags := 1, nameIndex := 5, descriptorIndex := 6, attributes := #[] }, { accessFlags := 9, nameIndex := 23, descriptorIndex := 24, attributes := #[] }] 49 2 #[] #[])
  fields := #[]
  methods := #[k1m0, k1m1]
  instanceTypes := #[]
  staticTypes := #[]
  resolved := Array.replicate 30 none
  statics := none }

def pool2 : Array CpInfo := pool [(1, .methodref 2 3), (0, .class_ 4), (0, .nameAndType 5 6), (0, u "java/lang/Object"), (0, u "<init>"), (0, u "()V"), (0, .fieldref 8 9), (0, .class_ 10), (0, .nameAndType 11 12), (0, u "com/example/trailwire/trailwire/http2/Frame"), (0, u "type"), (0, u "I"), (0, .fieldref 8 14), (0, .nameAndType 15 12), (0, u "flags"), (0, .fieldref 8 17), (0, .nameAndType 18 12), (0, u "streamId"), (0, .fieldref 8 20), (0, .nameAndType 21 22), (0, u "payload"), (0, u "[B"), (53, u "HEADER_LENGTH"), (2, u "DEFAULT_MAX_SIZE"), (1, u "DATA"), (1, u "HEADERS"), (1, u "PRIORITY"), (1, u "RST_STREAM"), (1, u "SETTINGS"), (1, u "PUSH_PROMISE"), (1, u "PING"), (1, u "GOAWAY"), (1, u "WINDOW_UPDATE"), (1, u "CONTINUATION"), (0, u "END_STREAM"), (0, u "ACK"), (0, u "END_HEADERS"), (0, u "PADDED"), (0, u "PRIORITY_FIELDS"), (1, u "PRIORITY_FIELDS_LENGTH"), (0, u "(III[B)V"), (7, u "readUnsigned32"), (0, u "(I)J")] 26

def k2c0 : Code := { maxStack := 2, maxLocals := 5, code := prog_5_method_1_code, exceptionTable := #[], attributes := #[] }
def k2m0 : Method := { name := "<init>", desc := "(III[B)V", sig := { parameters := [.int, .int, .int, (.array .byte)], returnType := none }, accessFlags := 0, code := some k2c0 }
def k2c1 : Code := { maxStack := 4, maxLocals := 5, code := prog_5_method_7_code, exceptionTable := #[], attributes := #[] }
def k2m1 : Method := { name := "readUnsigned32", desc := "(I)J", sig := { parameters := [.int], returnType := some .long }, accessFlags := 0, code := some k2c1 }
/-- com/example/trailwire/trailwire/http2/Frame -/
def k2 : Class := { plain "com/example/trailwire/trailwire/http2/Frame" (some 0) with
  accessFlags := 32
  interfaces := #[]
  cf := some (fileOf pool2 8 #[] #[{ accessFlags := 0, nameIndex := 5, descriptorIndex := 107, attributes := #[] }, { accessFlags := 0, nameIndex := 115, descriptorIndex := 116, attributes := #[] }] 32 2 #[] #[{ accessFlags := 24, nameIndex := 76, descriptorIndex := 12, attributes := #[] }, { accessFlags := 24, nameIndex := 79, descriptorIndex := 12, attributes := #[] }, { accessFlags := 24, nameIndex := 81, descriptorIndex := 12, attributes := #[] }, { accessFlags := 24, nameIndex := 83, descriptorIndex := 12, attributes := #[] }, { accessFlags := 24, nameIndex := 85, descriptorIndex := 12, attributes := #[] }, { accessFlags := 24, nameIndex := 87, descriptorIndex := 12, attributes := #[] }, { accessFlags := 24, nameIndex := 89, descriptorIndex := 12, attributes := #[] }, { accessFlags := 24, nameIndex := 91, descriptorIndex := 12, attributes := #[] }, { accessFlags := 24, nameIndex := 93, descriptorIndex := 12, attributes := #[] }, { accessFlags := 24, nameIndex := 95, descriptorIndex := 12, attributes := #[] }, { accessFlags := 24, nameIndex := 97, descriptorIndex := 12, attributes := #[] }, { accessFlags := 24, nameIndex := 99, descriptorIndex := 12, attributes := #[] }, { accessFlags := 24, nameIndex := 100, descriptorIndex := 12, attributes := #[] }, { accessFlags := 24, nameIndex := 101, descriptorIndex := 12, attributes := #[] }, { accessFlags := 24, nameIndex := 102, descriptorIndex := 12, attributes := #[] }, { accessFlags := 24, nameIndex := 103, descriptorIndex := 12, attributes := #[] }, { accessFlags := 24, nameIndex := 104, descriptorIndex := 12, attributes := #[] }, { accessFlags := 26, nameIndex := 106, descriptorIndex := 12, attributes := #[] }, { accessFlags := 18, nameIndex := 11, descriptorIndex := 12, attributes := #[] }, { accessFlags := 18, nameIndex := 15, descriptorIndex := 12, attributes := #[] }, { accessFlags := 18, nameIndex := 18, descriptorIndex := 12, attributes := #[] }, { accessFlags := 18, nameIndex := 21, descriptorIndex := 22, attributes := #[] }])
  fields := #[{ name := "HEADER_LENGTH", type := .int, accessFlags := 24, slot := 0, constantValue := 0 }, { name := "DEFAULT_MAX_SIZE", type := .int, accessFlags := 24, slot := 1, constantValue := 0 }, { name := "DATA", type := .int, accessFlags := 24, slot := 2, constantValue := 0 }, { name := "HEADERS", type := .int, accessFlags := 24, slot := 3, constantValue := 0 }, { name := "PRIORITY", type := .int, accessFlags := 24, slot := 4, constantValue := 0 }, { name := "RST_STREAM", type := .int, accessFlags := 24, slot := 5, constantValue := 0 }, { name := "SETTINGS", type := .int, accessFlags := 24, slot := 6, constantValue := 0 }, { name := "PUSH_PROMISE", type := .int, accessFlags := 24, slot := 7, constantValue := 0 }, { name := "PING", type := .int, accessFlags := 24, slot := 8, constantValue := 0 }, { name := "GOAWAY", type := .int, accessFlags := 24, slot := 9, constantValue := 0 }, { name := "WINDOW_UPDATE", type := .int, accessFlags := 24, slot := 10, constantValue := 0 }, { name := "CONTINUATION", type := .int, accessFlags := 24, slot := 11, constantValue := 0 }, { name := "END_STREAM", type := .int, accessFlags := 24, slot := 12, constantValue := 0 }, { name := "ACK", type := .int, accessFlags := 24, slot := 13, constantValue := 0 }, { name := "END_HEADERS", type := .int, accessFlags := 24, slot := 14, constantValue := 0 }, { name := "PADDED", type := .int, accessFlags := 24, slot := 15, constantValue := 0 }, { name := "PRIORITY_FIELDS", type := .int, accessFlags := 24, slot := 16, constantValue := 0 }, { name := "PRIORITY_FIELDS_LENGTH", type := .int, accessFlags := 26, slot := 17, constantValue := 0 }, { name := "type", type := .int, accessFlags := 18, slot := 0, constantValue := 0 }, { name := "flags", type := .int, accessFlags := 18, slot := 1, constantValue := 0 }, { name := "streamId", type := .int, accessFlags := 18, slot := 2, constantValue := 0 }, { name := "payload", type := (.array .byte), accessFlags := 18, slot := 3, constantValue := 0 }]
  methods := #[k2m0, k2m1]
  instanceTypes := #[.int, .int, .int, (.array .byte)]
  staticTypes := #[.int, .int, .int, .int, .int, .int, .int, .int, .int, .int, .int, .int, .int, .int, .int, .int, .int, .int]
  resolved := Array.replicate 143 none
  statics := none }

def pool3 : Array CpInfo := pool [(1, u "java/lang/Cloneable"), (0, .class_ 1), (0, u "java/lang/Object"), (0, .class_ 3)] 3

/-- java/lang/Cloneable -/
def k3 : Class := { plain "java/lang/Cloneable" (some 0) with
  accessFlags := 1537
  interfaces := #[]
  cf := some (fileOf pool3 2 #[] #[] 1537 4 #[] #[])
  fields := #[]
  methods := #[]
  instanceTypes := #[]
  staticTypes := #[]
  resolved := Array.replicate 8 none
  statics := none }

def pool4 : Array CpInfo := pool [(1, u "java/io/Serializable"), (0, .class_ 1), (0, u "java/lang/Object"), (0, .class_ 3)] 3

/-- java/io/Serializable -/
def k4 : Class := { plain "java/io/Serializable" (some 0) with
  accessFlags := 1537
  interfaces := #[]
  cf := some (fileOf pool4 2 #[] #[] 1537 4 #[] #[])
  fields := #[]
  methods := #[]
  instanceTypes := #[]
  staticTypes := #[]
  resolved := Array.replicate 8 none
  statics := none }

/-- the primitive byte -/
def k5 : Class := { plain "byte" none with kind := .primitive 'B', accessFlags := 0x411 }
/-- [B -/
def k6 : Class := { plain "[B" (some 0) with kind := .array 5 .byte, interfaces := #[3, 4], accessFlags := 1041 }

/-- the primitive int -/
def k7 : Class := { plain "int" none with kind := .primitive 'I', accessFlags := 0x411 }
/-- [I -/
def k8 : Class := { plain "[I" (some 0) with kind := .array 7 .int, interfaces := #[3, 4], accessFlags := 1041 }

def heap : Heap := #[]
def classes : Array Class := #[k0, k1, k2, k3, k4, k5, k6, k7, k8]
def interned : List (Array UInt16 × Addr) := []
def slotsUsed : Nat := 0
def theMethod : MethodId := ⟨1, 1⟩
def args0 : Array Value := #[.long 5, .int 9, .int 7, .int 2, .int 3]
def aboutOver (below : List Frame) : State where
  vm := { classes := classes, interned := interned.toArray }
  heap := heap
  slotsUsed := slotsUsed
  threads := #[{ frames := .invoking theMethod args0 :: below }]
def below0 : List Frame := [.native { method := ⟨0, 0⟩, args := #[] }]
def about1 : State := aboutOver below0
def p0 : Program := .bare "" "" ""
def e0 : Env := launch0.env 0 0 0
theorem w_frames : about1.frames = Frame.invoking theMethod args0 :: below0 := rfl
set_option maxRecDepth 65536 in
theorem w_args : argsFit about1.vm theMethod args0 = true := by decide +kernel
set_option maxRecDepth 65536 in
theorem w_heap : heapFits about1 = true := by decide +kernel
set_option maxRecDepth 65536 in
theorem w_runnable : about1.curStatus? = some .runnable := by decide +kernel
set_option maxRecDepth 65536 in
theorem w_alone : about1.alone = true := by decide +kernel
set_option maxRecDepth 65536 in
theorem w_named : about1.methodNamed? x = some theMethod := by decide +kernel
set_option maxRecDepth 65536 in
theorem w_hears : about1.hears theMethod below0 = true := by decide +kernel
set_option maxRecDepth 65536 in
theorem w_ripe : about1.ripe theMethod args0 below0 = true := by decide +kernel
theorem w_running : about1.status = .running := rfl
set_option maxRecDepth 65536 in
theorem w_room : about1.hasRoom e0.platform room_1 = true :=
  launch0.hasRoom_least _ room_1 (by decide +kernel) (by decide +kernel) (by decide +kernel) (by decide +kernel) (by decide +kernel) (by decide +kernel)
theorem allAtoms_all (ts : List Jvm.Cond) (a : Array Jvm.Value) (st : Jvm.State) : (allAtoms ts).before a st = ts.all (fun c => c.before a st) := by
  induction ts with
  | nil => rfl
  | cons c t ih =>
    show (Jvm.Cond.and c (allAtoms t)).before a st = _
    rw [Jvm.Cond.before_and, ih, List.all_cons]
def words1 : List Jvm.Cond := Jvm.Cond.code x code maxLocals ret :: tables_1
/-- a 'code' word, met by the world's own term for the bytes: nothing is compared byte by byte -/
theorem code_word {y : MethodName} {bytes : ByteArray} {mx : Nat} {rt : Option FieldType} {a : Array Value} {s : State} {m : MethodId} {meth : Method} {c : Code} (h1 : s.methodNamed? y = some m) (h2 : s.vm.method? m = some meth) (h3 : meth.code = some c) (h4 : c.code = bytes)
    (h5 : (c.maxLocals == mx && c.exceptionTable.isEmpty && decide (c.maxStack ≤ mostOperands) && decide (meth.sig.returnType = rt) && !meth.locks && decide (parseMethodDescriptor y.desc = some meth.sig)) = true) : (Jvm.Cond.code y bytes mx rt).before a s = true := by
  simp only [Bool.and_eq_true, beq_iff_eq, Bool.not_eq_true', decide_eq_true_eq] at h5
  obtain ⟨⟨⟨⟨⟨g1, g2⟩, g3⟩, g4⟩, g5⟩, g6⟩ := h5
  simp [Cond.before, Cond.holds, Cond.value, h1, h2, h3, h4, g1, g2, g3, g4, g5, g6]
def isCode : Jvm.Cond → Bool
  | .code _ _ _ _ => true
  | _ => false
theorem all_split {L : List Jvm.Cond} {P : Jvm.Cond → Bool} (h1 : L.all (fun c => isCode c || P c) = true) (h2 : ∀ c ∈ L.filter isCode, P c = true) : L.all P = true := by
  refine List.all_eq_true.mpr fun c hc => ?_
  have h := List.all_eq_true.mp h1 c hc
  rcases Bool.eq_false_or_eq_true (isCode c) with hi | hi
  · exact h2 c (List.mem_filter.mpr ⟨hc, hi⟩)
  · simpa [hi] using h
set_option maxRecDepth 65536 in
theorem w_c0 : (Jvm.Cond.code x code maxLocals ret).before args0 about1 = true := code_word (m := ⟨1, 1⟩) (meth := k1m1) (c := k1c1) (by decide +kernel) rfl rfl rfl (by decide +kernel)
set_option maxRecDepth 65536 in
theorem w_c1 : (Jvm.Cond.code ({ cls := "com/example/trailwire/trailwire/http2/Frame", name := "<init>", desc := "(III[B)V" } : Jvm.MethodName) prog_5_method_1_code (5 : Nat) (Option.none : Option Jvm.ClassFile.FieldType)).before args0 about1 = true := code_word (m := ⟨2, 0⟩) (meth := k2m0) (c := k2c0) (by decide +kernel) rfl rfl rfl (by decide +kernel)
set_option maxRecDepth 65536 in
theorem w_c2 : (Jvm.Cond.code ({ cls := "java/lang/Object", name := "<init>", desc := "()V" } : Jvm.MethodName) object_method_1_code (1 : Nat) (Option.none : Option Jvm.ClassFile.FieldType)).before args0 about1 = true := code_word (m := ⟨0, 0⟩) (meth := k0m0) (c := k0c0) (by decide +kernel) rfl rfl rfl (by decide +kernel)
set_option maxRecDepth 65536 in
theorem w_c3 : (Jvm.Cond.code ({ cls := "com/example/trailwire/trailwire/http2/Frame", name := "readUnsigned32", desc := "(I)J" } : Jvm.MethodName) prog_5_method_7_code (5 : Nat) (Option.some Jvm.ClassFile.FieldType.long)).before args0 about1 = true := code_word (m := ⟨2, 1⟩) (meth := k2m1) (c := k2c1) (by decide +kernel) rfl rfl rfl (by decide +kernel)
def codes1 : List Jvm.Cond := [Jvm.Cond.code x code maxLocals ret, Jvm.Cond.code ({ cls := "com/example/trailwire/trailwire/http2/Frame", name := "<init>", desc := "(III[B)V" } : Jvm.MethodName) prog_5_method_1_code (5 : Nat) (Option.none : Option Jvm.ClassFile.FieldType), Jvm.Cond.code ({ cls := "java/lang/Object", name := "<init>", desc := "()V" } : Jvm.MethodName) object_method_1_code (1 : Nat) (Option.none : Option Jvm.ClassFile.FieldType), Jvm.Cond.code ({ cls := "com/example/trailwire/trailwire/http2/Frame", name := "readUnsigned32", desc := "(I)J" } : Jvm.MethodName) prog_5_method_7_code (5 : Nat) (Option.some Jvm.ClassFile.FieldType.long)]
set_option maxRecDepth 65536 in
theorem codes_eq : words1.filter isCode = codes1 := rfl
theorem w_codes : ∀ c ∈ words1.filter isCode, c.before args0 about1 = true := by
  rw [codes_eq]
  intro c hc
  simp only [codes1, List.mem_cons, List.not_mem_nil, or_false] at hc
  rcases hc with rfl | rfl | rfl | rfl
  · exact w_c0
  · exact w_c1
  · exact w_c2
  · exact w_c3
set_option maxRecDepth 65536 in
theorem w_t1 : (words1.take 24).all (fun c => isCode c || c.before args0 about1) = true := by decide +kernel
set_option maxRecDepth 65536 in
theorem w_t2 : (words1.drop 24).all (fun c => isCode c || c.before args0 about1) = true := by decide +kernel
theorem w_tables : (allAtoms (Jvm.Cond.code x code maxLocals ret :: tables_1)).before args0 about1 = true := by
  rw [allAtoms_all]
  show words1.all (fun c => c.before args0 about1) = true
  refine all_split ?_ w_codes
  rw [← List.take_append_drop 24 words1, List.all_append, w_t1, w_t2]
  rfl
set_option maxRecDepth 65536 in
theorem w_case : (Jvm.Cond.and given_1 narrow_1).before args0 about1 = true := by decide +kernel
theorem w_applies : (headSpec (Jvm.Cond.code x code maxLocals ret :: tables_1) room_1).applies x e0.platform about1 = true :=
  (Spec.applies_iff w_frames).mpr ⟨w_running, w_runnable, w_alone, w_named, w_hears, w_ripe, w_room, w_tables⟩
theorem atStart : AtStart classFile x code maxLocals ret World_1 tables_1 room_1 Calls_1 rest_1 Pre_1 launch0 p0 e0 about1 theMethod args0 below0 :=
  ⟨lists_1, trivial, launch0.admits_env _ _ _, launch0.least_env, fairChoices_fair.cas, fairChoices_fair.clock, w_frames, w_args, w_heap, w_applies, trivial, trivial, w_case⟩
end start1
theorem witness_1 : WitnessClaimed_1 := ⟨start1.p0, start1.e0, start1.about1, start1.theMethod, start1.args0, start1.below0, start1.atStart⟩
end Jvm.Pilot.@@N@@
