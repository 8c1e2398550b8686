import JvmDerived
import JvmDerived.Pilot.@@N@@Statement
import JvmDerived.Pilot.@@N@@Code
set_option linter.unusedVariables false
set_option linter.unusedSimpArgs false
set_option maxRecDepth 65536
namespace Jvm.Pilot.@@N@@
open Jvm Jvm.ClassFile Sem Op Lib Jvm.Free Jvm.Stand Jvm.LawKit Jvm.RoadKit Bundle Jvm.Pilot.@@N@@.Jvm.D

section OwnKit
/-- a walk's fixed things: program, launch, environment, room, first state, method, arguments, frames below, the method, its code -/
abbrev own_B : Type := Program × Launch × Env × Room × State × MethodId × Array Value × List Frame × Method × Code
def own_Ok (B : own_B) (Z : State) (a0 : Array Value) (l0 : Launch) (R0 : Room) (y : MethodName) (code : ByteArray) (N : Nat) (ret : Option FieldType) : Prop :=
  match B with
  | (p, l, e, R, s, m, args, below, meth, c) => l = l0 ∧ R = R0 ∧ p.tables.exec = Jvm.exec ∧ Z.Warmed39 s.vm ∧ s.vm.findClass y.cls = some m.cls ∧ c.code = code ∧ c.maxLocals = N ∧ meth.sig.returnType = ret ∧ meth.locks = false ∧ meth.name = y.name ∧ (∀ (i : Nat) (d : Jvm.Cond), tables_1[i]? = some d → d.before a0 Z = true)
/-- the rest of the walk ends well -/
def own_Fin (p : Program) (e : Env) (below : List Frame) (s : State) (n0 : Nat) (Q : Option Value → Heap → Prop) (kc ks : Nat) (A : State) : Prop :=
  ∃ s₂ o, Steps p.tables e below A s₂ ∧ s₂.status = .running ∧ Ended s₂ below o ∧ ∃ v L, o = .returned v ∧ (Q v s₂.heap ∧ Fr n0 L) ∧ FrameEnd s o s₂ L kc ks
theorem own_go {p : Program} {e : Env} {below : List Frame} {s : State} {n0 : Nat} {Q : Option Value → Heap → Prop} {kc ks : Nat} {A A' : State} (st : ∀ t, Steps p.tables e below A' t → Steps p.tables e below A t) (k : own_Fin p e below s n0 Q kc ks A') : own_Fin p e below s n0 Q kc ks A := by
  obtain ⟨s2, o, h1, r⟩ := k
  exact ⟨s2, o, st _ h1, r⟩
/-- from this point (heap h, at most so many cells and slots made, pc, locals, stack) the walk ends in Q -/
def own_G (B : own_B) (n0 : Nat) (Q : Option Value → Heap → Prop) (kc ks cells slots : Nat) (h : Heap) (pc : Nat) (Ls : Array Slot) (st : List Value) : Prop :=
  match B with
  | (p, l, e, R, s, m, args, below, meth, c) => ∀ (T : State) (locs : List Loc) (c1 s1 : Nat), Stand p l e R s m args below meth c T locs c1 s1 → Fr n0 locs → c1 ≤ cells → s1 ≤ slots → T.heap = h → own_Fin p e below s n0 Q kc ks (T.setTop (mkF m pc Ls st))
/-- a method's contract -/
def own_Met (l : Launch) (Z : State) (ws : List Jvm.Cond) (y : MethodName) (bytes : ByteArray) (maxL : Nat) (ret : Option FieldType) (rm : Room) (as : Array Value) (h : Heap) (n0 kc ks : Nat) (Q : Option Value → Heap → Prop) : Prop :=
  MetFree l y (head1 (Jvm.Cond.code y bytes maxL ret :: ws) rm) (fun a U => a = as ∧ Z.Warmed39 U.vm ∧ U.heap = h) (fun _ _ _ _ _ => True) (fun _ U o U' => ∃ v L, o = .returned v ∧ (Q v U'.heap ∧ Fr n0 L) ∧ FrameEnd U o U' L kc ks)
/-- a callee's contract -/
abbrev own_C (l : Launch) (Z : State) (y : MethodName) (bytes : ByteArray) (maxL : Nat) (ret : Option FieldType) (rm : Room) (as : Array Value) (h : Heap) (n0 : Nat) (Q : Option Value → Heap → Prop) : Prop := own_Met l Z [] y bytes maxL ret rm as h n0 rm.cells rm.slots Q
/-- a callee that returns w and leaves the heap -/
abbrev own_P (l : Launch) (Z : State) (y : MethodName) (bytes : ByteArray) (maxL : Nat) (ret : Option FieldType) (rm : Room) (as : Array Value) (h : Heap) (n0 : Nat) (w : Value) : Prop := own_C l Z y bytes maxL ret rm as h n0 (fun v h' => v = some w ∧ h = h')
abbrev own_rm (f lo : Nat) : Room := { frames := f, cells := 0, slots := 0, locals := lo }
theorem own_met {l : Launch} {Z : State} {a0 : Array Value} {ws : List Jvm.Cond} {y : MethodName} {bytes : ByteArray} {maxL : Nat} {ret : Option FieldType} {rm : Room} {as : Array Value} {h : Heap} {n0 kc ks : Nat} {Q : Option Value → Heap → Prop} {Ls : Array Slot}
    (hw : ∀ (i : Nat) (d : Jvm.Cond), tables_1[i]? = some d → d.before a0 Z = true) (hpl : plainFor y = true) (hef : ∀ m, entryFrame m as maxL = mkF m 0 Ls [])
    (body : ∀ B : own_B, own_Ok B Z a0 l rm y bytes maxL ret → own_G B n0 Q kc ks 0 0 h 0 Ls []) : own_Met l Z ws y bytes maxL ret rm as h n0 kc ks Q := by
  refine MetFree.of_bodySF hpl hisR ?_
  intro p e s m args below meth c s₁ Bd hml0 hP hK
  obtain ⟨rfl, hZ, hh⟩ := hP
  have X0 := Stand.of_body Bd
  have e0 : s₁.heap = h := by rw [← hh, Bd.state]; rfl
  have q := body (p, l, e, rm, s, m, args, below, meth, c) ⟨rfl, rfl, Bd.exec, hZ, findClass_of_methodNamed Bd.named, Bd.bytes, hml0, Bd.returns, Bd.notSynchronized, (name_of_methodNamed Bd.named Bd.method).1, hw⟩ s₁ [] 0 0 X0 (Fr.nil n0) (Nat.le_refl _) (Nat.le_refl _) e0
  rw [hef m]
  exact q
section Laws
variable {B : own_B} {Z : State} {a0 : Array Value} {l : Launch} {R : Room} {y : MethodName} {code : ByteArray} {N : Nat} {ret : Option FieldType} {n0 : Nat} {Q : Option Value → Heap → Prop} {kc ks cells slots : Nat} {h : Heap} {pc pc' : Nat} {Ls Ls' : Array Slot} {st : List Value}
theorem own_mono {cells' slots' : Nat} (hc : cells ≤ cells') (hs : slots ≤ slots') (k : own_G B n0 Q kc ks cells' slots' h pc Ls st) : own_G B n0 Q kc ks cells slots h pc Ls st := by
  obtain ⟨p, l, e, R, s, m, args, below, meth, c⟩ := B
  intro T locs c1 s1 X F q1 q2 eT
  exact k T locs c1 s1 X F (Nat.le_trans q1 hc) (Nat.le_trans q2 hs) eT
theorem own_cut (pc' : Nat) (Ls' : Array Slot) (st' : List Value) (f : own_G B n0 Q kc ks cells slots h pc' Ls' st' → own_G B n0 Q kc ks cells slots h pc Ls st) (k : own_G B n0 Q kc ks cells slots h pc' Ls' st') : own_G B n0 Q kc ks cells slots h pc Ls st := f k
theorem own_cast {Ls' : Array Slot} {st' : List Value} (hL : Ls = Ls') (hS : st = st') (k : own_G B n0 Q kc ks cells slots h pc Ls' st') : own_G B n0 Q kc ks cells slots h pc Ls st := by
  subst hL hS
  exact k
theorem own_w (H : own_Ok B Z a0 l R y code N ret) {i : Nat} {d : Jvm.Cond} (q : tables_1[i]? = some d) : d.before a0 Z = true := by
  obtain ⟨p, l, e, R, s, m, args, below, meth, c⟩ := B
  exact H.2.2.2.2.2.2.2.2.2.2 i d q
theorem own_hw (H : own_Ok B Z a0 l R y code N ret) : ∀ (i : Nat) (d : Jvm.Cond), tables_1[i]? = some d → d.before a0 Z = true := by
  obtain ⟨p, l, e, R, s, m, args, below, meth, c⟩ := B
  exact H.2.2.2.2.2.2.2.2.2.2
theorem own_iadd (H : own_Ok B Z a0 l R y code N ret) {x z v : Int32} (hv : x + z = v) (hd : decode code pc = .ok (.iadd, 1)) (k : own_G B n0 Q kc ks cells slots h (pc + 1) Ls (.int v :: st)) : own_G B n0 Q kc ks cells slots h pc Ls (.int z :: .int x :: st) := by
  subst hv
  obtain ⟨p, l, e, R, s, m, args, below, meth, c⟩ := B
  obtain ⟨rfl, rfl, hx, hZ, hown, hby, hml, hrt, hlk, hnm, hw⟩ := H
  intro T locs c1 s1 X F hc hs eT
  exact own_go (fun t q => XS.iadd X.here hx rfl (hb hby hd) rfl q) (k T locs c1 s1 X F hc hs eT)
theorem own_isub (H : own_Ok B Z a0 l R y code N ret) {x z v : Int32} (hv : x - z = v) (hd : decode code pc = .ok (.isub, 1)) (k : own_G B n0 Q kc ks cells slots h (pc + 1) Ls (.int v :: st)) : own_G B n0 Q kc ks cells slots h pc Ls (.int z :: .int x :: st) := by
  subst hv
  obtain ⟨p, l, e, R, s, m, args, below, meth, c⟩ := B
  obtain ⟨rfl, rfl, hx, hZ, hown, hby, hml, hrt, hlk, hnm, hw⟩ := H
  intro T locs c1 s1 X F hc hs eT
  exact own_go (fun t q => XS.isub X.here hx rfl (hb hby hd) rfl q) (k T locs c1 s1 X F hc hs eT)
theorem own_imul (H : own_Ok B Z a0 l R y code N ret) {x z v : Int32} (hv : x * z = v) (hd : decode code pc = .ok (.imul, 1)) (k : own_G B n0 Q kc ks cells slots h (pc + 1) Ls (.int v :: st)) : own_G B n0 Q kc ks cells slots h pc Ls (.int z :: .int x :: st) := by
  subst hv
  obtain ⟨p, l, e, R, s, m, args, below, meth, c⟩ := B
  obtain ⟨rfl, rfl, hx, hZ, hown, hby, hml, hrt, hlk, hnm, hw⟩ := H
  intro T locs c1 s1 X F hc hs eT
  exact own_go (fun t q => XS.imul X.here hx rfl (hb hby hd) rfl q) (k T locs c1 s1 X F hc hs eT)
theorem own_iand (H : own_Ok B Z a0 l R y code N ret) {x z v : Int32} (hv : x &&& z = v) (hd : decode code pc = .ok (.iand, 1)) (k : own_G B n0 Q kc ks cells slots h (pc + 1) Ls (.int v :: st)) : own_G B n0 Q kc ks cells slots h pc Ls (.int z :: .int x :: st) := by
  subst hv
  obtain ⟨p, l, e, R, s, m, args, below, meth, c⟩ := B
  obtain ⟨rfl, rfl, hx, hZ, hown, hby, hml, hrt, hlk, hnm, hw⟩ := H
  intro T locs c1 s1 X F hc hs eT
  exact own_go (fun t q => XS.iand X.here hx rfl (hb hby hd) rfl q) (k T locs c1 s1 X F hc hs eT)
theorem own_ior (H : own_Ok B Z a0 l R y code N ret) {x z v : Int32} (hv : x ||| z = v) (hd : decode code pc = .ok (.ior, 1)) (k : own_G B n0 Q kc ks cells slots h (pc + 1) Ls (.int v :: st)) : own_G B n0 Q kc ks cells slots h pc Ls (.int z :: .int x :: st) := by
  subst hv
  obtain ⟨p, l, e, R, s, m, args, below, meth, c⟩ := B
  obtain ⟨rfl, rfl, hx, hZ, hown, hby, hml, hrt, hlk, hnm, hw⟩ := H
  intro T locs c1 s1 X F hc hs eT
  exact own_go (fun t q => XT.ior X.here hx rfl (hb hby hd) rfl q) (k T locs c1 s1 X F hc hs eT)
theorem own_ixor (H : own_Ok B Z a0 l R y code N ret) {x z v : Int32} (hv : x ^^^ z = v) (hd : decode code pc = .ok (.ixor, 1)) (k : own_G B n0 Q kc ks cells slots h (pc + 1) Ls (.int v :: st)) : own_G B n0 Q kc ks cells slots h pc Ls (.int z :: .int x :: st) := by
  subst hv
  obtain ⟨p, l, e, R, s, m, args, below, meth, c⟩ := B
  obtain ⟨rfl, rfl, hx, hZ, hown, hby, hml, hrt, hlk, hnm, hw⟩ := H
  intro T locs c1 s1 X F hc hs eT
  exact own_go (fun t q => XT.ixor X.here hx rfl (hb hby hd) rfl q) (k T locs c1 s1 X F hc hs eT)
theorem own_ishl (H : own_Ok B Z a0 l R y code N ret) {x z v : Int32} (hv : x <<< (z &&& 31) = v) (hd : decode code pc = .ok (.ishl, 1)) (k : own_G B n0 Q kc ks cells slots h (pc + 1) Ls (.int v :: st)) : own_G B n0 Q kc ks cells slots h pc Ls (.int z :: .int x :: st) := by
  subst hv
  obtain ⟨p, l, e, R, s, m, args, below, meth, c⟩ := B
  obtain ⟨rfl, rfl, hx, hZ, hown, hby, hml, hrt, hlk, hnm, hw⟩ := H
  intro T locs c1 s1 X F hc hs eT
  exact own_go (fun t q => XT.ishl X.here hx rfl (hb hby hd) rfl q) (k T locs c1 s1 X F hc hs eT)
theorem own_ishr (H : own_Ok B Z a0 l R y code N ret) {x z v : Int32} (hv : x >>> (z &&& 31) = v) (hd : decode code pc = .ok (.ishr, 1)) (k : own_G B n0 Q kc ks cells slots h (pc + 1) Ls (.int v :: st)) : own_G B n0 Q kc ks cells slots h pc Ls (.int z :: .int x :: st) := by
  subst hv
  obtain ⟨p, l, e, R, s, m, args, below, meth, c⟩ := B
  obtain ⟨rfl, rfl, hx, hZ, hown, hby, hml, hrt, hlk, hnm, hw⟩ := H
  intro T locs c1 s1 X F hc hs eT
  exact own_go (fun t q => XT.ishr X.here hx rfl (hb hby hd) rfl q) (k T locs c1 s1 X F hc hs eT)
theorem own_iushr (H : own_Ok B Z a0 l R y code N ret) {x z v : Int32} (hv : XT.ushr x z = v) (hd : decode code pc = .ok (.iushr, 1)) (k : own_G B n0 Q kc ks cells slots h (pc + 1) Ls (.int v :: st)) : own_G B n0 Q kc ks cells slots h pc Ls (.int z :: .int x :: st) := by
  subst hv
  obtain ⟨p, l, e, R, s, m, args, below, meth, c⟩ := B
  obtain ⟨rfl, rfl, hx, hZ, hown, hby, hml, hrt, hlk, hnm, hw⟩ := H
  intro T locs c1 s1 X F hc hs eT
  exact own_go (fun t q => XT.iushr X.here hx rfl (hb hby hd) rfl q) (k T locs c1 s1 X F hc hs eT)
theorem own_ladd (H : own_Ok B Z a0 l R y code N ret) {x z v : Int64} (hv : x + z = v) (hd : decode code pc = .ok (.ladd, 1)) (k : own_G B n0 Q kc ks cells slots h (pc + 1) Ls (.long v :: st)) : own_G B n0 Q kc ks cells slots h pc Ls (.long z :: .long x :: st) := by
  subst hv
  obtain ⟨p, l, e, R, s, m, args, below, meth, c⟩ := B
  obtain ⟨rfl, rfl, hx, hZ, hown, hby, hml, hrt, hlk, hnm, hw⟩ := H
  intro T locs c1 s1 X F hc hs eT
  exact own_go (fun t q => XT.ladd X.here hx rfl (hb hby hd) rfl q) (k T locs c1 s1 X F hc hs eT)
theorem own_lsub (H : own_Ok B Z a0 l R y code N ret) {x z v : Int64} (hv : x - z = v) (hd : decode code pc = .ok (.lsub, 1)) (k : own_G B n0 Q kc ks cells slots h (pc + 1) Ls (.long v :: st)) : own_G B n0 Q kc ks cells slots h pc Ls (.long z :: .long x :: st) := by
  subst hv
  obtain ⟨p, l, e, R, s, m, args, below, meth, c⟩ := B
  obtain ⟨rfl, rfl, hx, hZ, hown, hby, hml, hrt, hlk, hnm, hw⟩ := H
  intro T locs c1 s1 X F hc hs eT
  exact own_go (fun t q => XT.lsub X.here hx rfl (hb hby hd) rfl q) (k T locs c1 s1 X F hc hs eT)
theorem own_lmul (H : own_Ok B Z a0 l R y code N ret) {x z v : Int64} (hv : x * z = v) (hd : decode code pc = .ok (.lmul, 1)) (k : own_G B n0 Q kc ks cells slots h (pc + 1) Ls (.long v :: st)) : own_G B n0 Q kc ks cells slots h pc Ls (.long z :: .long x :: st) := by
  subst hv
  obtain ⟨p, l, e, R, s, m, args, below, meth, c⟩ := B
  obtain ⟨rfl, rfl, hx, hZ, hown, hby, hml, hrt, hlk, hnm, hw⟩ := H
  intro T locs c1 s1 X F hc hs eT
  exact own_go (fun t q => XT.lmul X.here hx rfl (hb hby hd) rfl q) (k T locs c1 s1 X F hc hs eT)
theorem own_land (H : own_Ok B Z a0 l R y code N ret) {x z v : Int64} (hv : x &&& z = v) (hd : decode code pc = .ok (.land, 1)) (k : own_G B n0 Q kc ks cells slots h (pc + 1) Ls (.long v :: st)) : own_G B n0 Q kc ks cells slots h pc Ls (.long z :: .long x :: st) := by
  subst hv
  obtain ⟨p, l, e, R, s, m, args, below, meth, c⟩ := B
  obtain ⟨rfl, rfl, hx, hZ, hown, hby, hml, hrt, hlk, hnm, hw⟩ := H
  intro T locs c1 s1 X F hc hs eT
  exact own_go (fun t q => XT.land X.here hx rfl (hb hby hd) rfl q) (k T locs c1 s1 X F hc hs eT)
theorem own_lor (H : own_Ok B Z a0 l R y code N ret) {x z v : Int64} (hv : x ||| z = v) (hd : decode code pc = .ok (.lor, 1)) (k : own_G B n0 Q kc ks cells slots h (pc + 1) Ls (.long v :: st)) : own_G B n0 Q kc ks cells slots h pc Ls (.long z :: .long x :: st) := by
  subst hv
  obtain ⟨p, l, e, R, s, m, args, below, meth, c⟩ := B
  obtain ⟨rfl, rfl, hx, hZ, hown, hby, hml, hrt, hlk, hnm, hw⟩ := H
  intro T locs c1 s1 X F hc hs eT
  exact own_go (fun t q => XT.lor X.here hx rfl (hb hby hd) rfl q) (k T locs c1 s1 X F hc hs eT)
theorem own_lxor (H : own_Ok B Z a0 l R y code N ret) {x z v : Int64} (hv : x ^^^ z = v) (hd : decode code pc = .ok (.lxor, 1)) (k : own_G B n0 Q kc ks cells slots h (pc + 1) Ls (.long v :: st)) : own_G B n0 Q kc ks cells slots h pc Ls (.long z :: .long x :: st) := by
  subst hv
  obtain ⟨p, l, e, R, s, m, args, below, meth, c⟩ := B
  obtain ⟨rfl, rfl, hx, hZ, hown, hby, hml, hrt, hlk, hnm, hw⟩ := H
  intro T locs c1 s1 X F hc hs eT
  exact own_go (fun t q => XT.lxor X.here hx rfl (hb hby hd) rfl q) (k T locs c1 s1 X F hc hs eT)
theorem own_idiv (H : own_Ok B Z a0 l R y code N ret) {x z v : Int32} (hv : x / z = v) (hd : decode code pc = .ok (.idiv, 1)) (hz : z ≠ 0) (k : own_G B n0 Q kc ks cells slots h (pc + 1) Ls (.int v :: st)) : own_G B n0 Q kc ks cells slots h pc Ls (.int z :: .int x :: st) := by
  subst hv
  obtain ⟨p, l, e, R, s, m, args, below, meth, c⟩ := B
  obtain ⟨rfl, rfl, hx, hZ, hown, hby, hml, hrt, hlk, hnm, hw⟩ := H
  intro T locs c1 s1 X F hc hs eT
  exact own_go (fun t q => XS.idiv X.here hx rfl (hb hby hd) rfl hz q) (k T locs c1 s1 X F hc hs eT)
theorem own_irem (H : own_Ok B Z a0 l R y code N ret) {x z v : Int32} (hv : x % z = v) (hd : decode code pc = .ok (.irem, 1)) (hz : z ≠ 0) (k : own_G B n0 Q kc ks cells slots h (pc + 1) Ls (.int v :: st)) : own_G B n0 Q kc ks cells slots h pc Ls (.int z :: .int x :: st) := by
  subst hv
  obtain ⟨p, l, e, R, s, m, args, below, meth, c⟩ := B
  obtain ⟨rfl, rfl, hx, hZ, hown, hby, hml, hrt, hlk, hnm, hw⟩ := H
  intro T locs c1 s1 X F hc hs eT
  exact own_go (fun t q => iremM X hx rfl (hb hby hd) rfl hz q) (k T locs c1 s1 X F hc hs eT)
theorem own_ldiv (H : own_Ok B Z a0 l R y code N ret) {x z v : Int64} (hv : x / z = v) (hd : decode code pc = .ok (.ldiv, 1)) (hz : z ≠ 0) (k : own_G B n0 Q kc ks cells slots h (pc + 1) Ls (.long v :: st)) : own_G B n0 Q kc ks cells slots h pc Ls (.long z :: .long x :: st) := by
  subst hv
  obtain ⟨p, l, e, R, s, m, args, below, meth, c⟩ := B
  obtain ⟨rfl, rfl, hx, hZ, hown, hby, hml, hrt, hlk, hnm, hw⟩ := H
  intro T locs c1 s1 X F hc hs eT
  exact own_go (fun t q => XT.ldiv X.here hx rfl (hb hby hd) rfl hz q) (k T locs c1 s1 X F hc hs eT)
theorem own_lrem (H : own_Ok B Z a0 l R y code N ret) {x z v : Int64} (hv : x - x / z * z = v) (hd : decode code pc = .ok (.lrem, 1)) (hz : z ≠ 0) (k : own_G B n0 Q kc ks cells slots h (pc + 1) Ls (.long v :: st)) : own_G B n0 Q kc ks cells slots h pc Ls (.long z :: .long x :: st) := by
  subst hv
  obtain ⟨p, l, e, R, s, m, args, below, meth, c⟩ := B
  obtain ⟨rfl, rfl, hx, hZ, hown, hby, hml, hrt, hlk, hnm, hw⟩ := H
  intro T locs c1 s1 X F hc hs eT
  exact own_go (fun t q => XT.lrem X.here hx rfl (hb hby hd) rfl hz q) (k T locs c1 s1 X F hc hs eT)
theorem own_lshl (H : own_Ok B Z a0 l R y code N ret) {x v : Int64} {z : Int32} (hv : x <<< (z.toInt64 &&& 63) = v) (hd : decode code pc = .ok (.lshl, 1)) (k : own_G B n0 Q kc ks cells slots h (pc + 1) Ls (.long v :: st)) : own_G B n0 Q kc ks cells slots h pc Ls (.int z :: .long x :: st) := by
  subst hv
  obtain ⟨p, l, e, R, s, m, args, below, meth, c⟩ := B
  obtain ⟨rfl, rfl, hx, hZ, hown, hby, hml, hrt, hlk, hnm, hw⟩ := H
  intro T locs c1 s1 X F hc hs eT
  exact own_go (fun t q => XT.lshl X.here hx rfl (hb hby hd) rfl q) (k T locs c1 s1 X F hc hs eT)
theorem own_lshr (H : own_Ok B Z a0 l R y code N ret) {x v : Int64} {z : Int32} (hv : x >>> (z.toInt64 &&& 63) = v) (hd : decode code pc = .ok (.lshr, 1)) (k : own_G B n0 Q kc ks cells slots h (pc + 1) Ls (.long v :: st)) : own_G B n0 Q kc ks cells slots h pc Ls (.int z :: .long x :: st) := by
  subst hv
  obtain ⟨p, l, e, R, s, m, args, below, meth, c⟩ := B
  obtain ⟨rfl, rfl, hx, hZ, hown, hby, hml, hrt, hlk, hnm, hw⟩ := H
  intro T locs c1 s1 X F hc hs eT
  exact own_go (fun t q => XT.lshr X.here hx rfl (hb hby hd) rfl q) (k T locs c1 s1 X F hc hs eT)
theorem own_lushr (H : own_Ok B Z a0 l R y code N ret) {x v : Int64} {z : Int32} (hv : XT.ushrL x z = v) (hd : decode code pc = .ok (.lushr, 1)) (k : own_G B n0 Q kc ks cells slots h (pc + 1) Ls (.long v :: st)) : own_G B n0 Q kc ks cells slots h pc Ls (.int z :: .long x :: st) := by
  subst hv
  obtain ⟨p, l, e, R, s, m, args, below, meth, c⟩ := B
  obtain ⟨rfl, rfl, hx, hZ, hown, hby, hml, hrt, hlk, hnm, hw⟩ := H
  intro T locs c1 s1 X F hc hs eT
  exact own_go (fun t q => XT.lushr X.here hx rfl (hb hby hd) rfl q) (k T locs c1 s1 X F hc hs eT)
theorem own_ineg (H : own_Ok B Z a0 l R y code N ret) {x : Int32} {v : Int32} (hv : -x = v) (hd : decode code pc = .ok (.ineg, 1)) (k : own_G B n0 Q kc ks cells slots h (pc + 1) Ls (.int v :: st)) : own_G B n0 Q kc ks cells slots h pc Ls (.int x :: st) := by
  subst hv
  obtain ⟨p, l, e, R, s, m, args, below, meth, c⟩ := B
  obtain ⟨rfl, rfl, hx, hZ, hown, hby, hml, hrt, hlk, hnm, hw⟩ := H
  intro T locs c1 s1 X F hc hs eT
  exact own_go (fun t q => XS.ineg X.here hx rfl (hb hby hd) rfl q) (k T locs c1 s1 X F hc hs eT)
theorem own_lneg (H : own_Ok B Z a0 l R y code N ret) {x : Int64} {v : Int64} (hv : -x = v) (hd : decode code pc = .ok (.lneg, 1)) (k : own_G B n0 Q kc ks cells slots h (pc + 1) Ls (.long v :: st)) : own_G B n0 Q kc ks cells slots h pc Ls (.long x :: st) := by
  subst hv
  obtain ⟨p, l, e, R, s, m, args, below, meth, c⟩ := B
  obtain ⟨rfl, rfl, hx, hZ, hown, hby, hml, hrt, hlk, hnm, hw⟩ := H
  intro T locs c1 s1 X F hc hs eT
  exact own_go (fun t q => XT.lneg X.here hx rfl (hb hby hd) rfl q) (k T locs c1 s1 X F hc hs eT)
theorem own_i2l (H : own_Ok B Z a0 l R y code N ret) {x : Int32} {v : Int64} (hv : x.toInt64 = v) (hd : decode code pc = .ok (.i2l, 1)) (k : own_G B n0 Q kc ks cells slots h (pc + 1) Ls (.long v :: st)) : own_G B n0 Q kc ks cells slots h pc Ls (.int x :: st) := by
  subst hv
  obtain ⟨p, l, e, R, s, m, args, below, meth, c⟩ := B
  obtain ⟨rfl, rfl, hx, hZ, hown, hby, hml, hrt, hlk, hnm, hw⟩ := H
  intro T locs c1 s1 X F hc hs eT
  exact own_go (fun t q => XT.i2l X.here hx rfl (hb hby hd) rfl q) (k T locs c1 s1 X F hc hs eT)
theorem own_l2i (H : own_Ok B Z a0 l R y code N ret) {x : Int64} {v : Int32} (hv : x.toInt32 = v) (hd : decode code pc = .ok (.l2i, 1)) (k : own_G B n0 Q kc ks cells slots h (pc + 1) Ls (.int v :: st)) : own_G B n0 Q kc ks cells slots h pc Ls (.long x :: st) := by
  subst hv
  obtain ⟨p, l, e, R, s, m, args, below, meth, c⟩ := B
  obtain ⟨rfl, rfl, hx, hZ, hown, hby, hml, hrt, hlk, hnm, hw⟩ := H
  intro T locs c1 s1 X F hc hs eT
  exact own_go (fun t q => XT.l2i X.here hx rfl (hb hby hd) rfl q) (k T locs c1 s1 X F hc hs eT)
theorem own_i2b (H : own_Ok B Z a0 l R y code N ret) {x : Int32} {v : Int32} (hv : x.toInt8.toInt32 = v) (hd : decode code pc = .ok (.i2b, 1)) (k : own_G B n0 Q kc ks cells slots h (pc + 1) Ls (.int v :: st)) : own_G B n0 Q kc ks cells slots h pc Ls (.int x :: st) := by
  subst hv
  obtain ⟨p, l, e, R, s, m, args, below, meth, c⟩ := B
  obtain ⟨rfl, rfl, hx, hZ, hown, hby, hml, hrt, hlk, hnm, hw⟩ := H
  intro T locs c1 s1 X F hc hs eT
  exact own_go (fun t q => XT.i2b X.here hx rfl (hb hby hd) rfl q) (k T locs c1 s1 X F hc hs eT)
theorem own_i2c (H : own_Ok B Z a0 l R y code N ret) {x : Int32} {v : Int32} (hv : x.toUInt32.toUInt16.toUInt32.toInt32 = v) (hd : decode code pc = .ok (.i2c, 1)) (k : own_G B n0 Q kc ks cells slots h (pc + 1) Ls (.int v :: st)) : own_G B n0 Q kc ks cells slots h pc Ls (.int x :: st) := by
  subst hv
  obtain ⟨p, l, e, R, s, m, args, below, meth, c⟩ := B
  obtain ⟨rfl, rfl, hx, hZ, hown, hby, hml, hrt, hlk, hnm, hw⟩ := H
  intro T locs c1 s1 X F hc hs eT
  exact own_go (fun t q => XT.i2c X.here hx rfl (hb hby hd) rfl q) (k T locs c1 s1 X F hc hs eT)
theorem own_i2s (H : own_Ok B Z a0 l R y code N ret) {x : Int32} {v : Int32} (hv : x.toInt16.toInt32 = v) (hd : decode code pc = .ok (.i2s, 1)) (k : own_G B n0 Q kc ks cells slots h (pc + 1) Ls (.int v :: st)) : own_G B n0 Q kc ks cells slots h pc Ls (.int x :: st) := by
  subst hv
  obtain ⟨p, l, e, R, s, m, args, below, meth, c⟩ := B
  obtain ⟨rfl, rfl, hx, hZ, hown, hby, hml, hrt, hlk, hnm, hw⟩ := H
  intro T locs c1 s1 X F hc hs eT
  exact own_go (fun t q => XT.i2s X.here hx rfl (hb hby hd) rfl q) (k T locs c1 s1 X F hc hs eT)
theorem own_iconst (H : own_Ok B Z a0 l R y code N ret) {i : Int} (v : Int32) (hv : Int32.ofInt i = v) (hd : decode code pc = .ok (.iconst i, 1)) (k : own_G B n0 Q kc ks cells slots h (pc + 1) Ls (.int v :: st)) : own_G B n0 Q kc ks cells slots h pc Ls st := by
  obtain ⟨p, l, e, R, s, m, args, below, meth, c⟩ := B
  obtain ⟨rfl, rfl, hx, hZ, hown, hby, hml, hrt, hlk, hnm, hw⟩ := H
  intro T locs c1 s1 X F hc hs eT
  exact own_go (fun t q => XT.iconstV X.here hx rfl v (hb hby hd) hv q) (k T locs c1 s1 X F hc hs eT)
theorem own_bipush (H : own_Ok B Z a0 l R y code N ret) {i : Int} (v : Int32) (hv : (Int8.ofInt i).toInt32 = v) (hd : decode code pc = .ok (.bipush i, 2)) (k : own_G B n0 Q kc ks cells slots h (pc + 2) Ls (.int v :: st)) : own_G B n0 Q kc ks cells slots h pc Ls st := by
  obtain ⟨p, l, e, R, s, m, args, below, meth, c⟩ := B
  obtain ⟨rfl, rfl, hx, hZ, hown, hby, hml, hrt, hlk, hnm, hw⟩ := H
  intro T locs c1 s1 X F hc hs eT
  exact own_go (fun t q => XT.bipushV X.here hx rfl v (hb hby hd) hv q) (k T locs c1 s1 X F hc hs eT)
theorem own_sipush (H : own_Ok B Z a0 l R y code N ret) {i : Int} (v : Int32) (hv : (Int16.ofInt i).toInt32 = v) (hd : decode code pc = .ok (.sipush i, 3)) (k : own_G B n0 Q kc ks cells slots h (pc + 3) Ls (.int v :: st)) : own_G B n0 Q kc ks cells slots h pc Ls st := by
  obtain ⟨p, l, e, R, s, m, args, below, meth, c⟩ := B
  obtain ⟨rfl, rfl, hx, hZ, hown, hby, hml, hrt, hlk, hnm, hw⟩ := H
  intro T locs c1 s1 X F hc hs eT
  exact own_go (fun t q => XT.sipushV X.here hx rfl v (hb hby hd) hv q) (k T locs c1 s1 X F hc hs eT)
theorem own_lconst (H : own_Ok B Z a0 l R y code N ret) {i : Fin 2} (v : Int64) (hv : Int64.ofNat i = v) (hd : decode code pc = .ok (.lconst i, 1)) (k : own_G B n0 Q kc ks cells slots h (pc + 1) Ls (.long v :: st)) : own_G B n0 Q kc ks cells slots h pc Ls st := by
  obtain ⟨p, l, e, R, s, m, args, below, meth, c⟩ := B
  obtain ⟨rfl, rfl, hx, hZ, hown, hby, hml, hrt, hlk, hnm, hw⟩ := H
  intro T locs c1 s1 X F hc hs eT
  exact own_go (fun t q => XT.lconstV X.here hx rfl v (hb hby hd) hv q) (k T locs c1 s1 X F hc hs eT)
theorem own_aconst_null (H : own_Ok B Z a0 l R y code N ret)  (hd : decode code pc = .ok (.aconst_null, 1)) (k : own_G B n0 Q kc ks cells slots h (pc + 1) Ls (.null :: st)) : own_G B n0 Q kc ks cells slots h pc Ls st := by
  obtain ⟨p, l, e, R, s, m, args, below, meth, c⟩ := B
  obtain ⟨rfl, rfl, hx, hZ, hown, hby, hml, hrt, hlk, hnm, hw⟩ := H
  intro T locs c1 s1 X F hc hs eT
  exact own_go (fun t q => XS.aconstNull X.here hx rfl (hb hby hd)  q) (k T locs c1 s1 X F hc hs eT)
theorem own_dup (H : own_Ok B Z a0 l R y code N ret) {x : Value} (hq : x.category = 1) (hd : decode code pc = .ok (.dup, 1)) (k : own_G B n0 Q kc ks cells slots h (pc + 1) Ls (x :: x :: st)) : own_G B n0 Q kc ks cells slots h pc Ls (x :: st) := by
  obtain ⟨p, l, e, R, s, m, args, below, meth, c⟩ := B
  obtain ⟨rfl, rfl, hx, hZ, hown, hby, hml, hrt, hlk, hnm, hw⟩ := H
  intro T locs c1 s1 X F hc hs eT
  exact own_go (fun t q => XS.dup X.here hx rfl (hb hby hd) rfl hq q) (k T locs c1 s1 X F hc hs eT)
theorem own_dup2 (H : own_Ok B Z a0 l R y code N ret) {x z : Value} (hq : x.category = 1) (hq' : z.category = 1) (hd : decode code pc = .ok (.dup2, 1)) (k : own_G B n0 Q kc ks cells slots h (pc + 1) Ls (x :: z :: x :: z :: st)) : own_G B n0 Q kc ks cells slots h pc Ls (x :: z :: st) := by
  obtain ⟨p, l, e, R, s, m, args, below, meth, c⟩ := B
  obtain ⟨rfl, rfl, hx, hZ, hown, hby, hml, hrt, hlk, hnm, hw⟩ := H
  intro T locs c1 s1 X F hc hs eT
  exact own_go (fun t q => XT.dup2 X.here hx rfl (hb hby hd) rfl hq hq' q) (k T locs c1 s1 X F hc hs eT)
theorem own_dup2L (H : own_Ok B Z a0 l R y code N ret) {x : Int64} (hd : decode code pc = .ok (.dup2, 1)) (k : own_G B n0 Q kc ks cells slots h (pc + 1) Ls (.long x :: .long x :: st)) : own_G B n0 Q kc ks cells slots h pc Ls (.long x :: st) := by
  obtain ⟨p, l, e, R, s, m, args, below, meth, c⟩ := B
  obtain ⟨rfl, rfl, hx, hZ, hown, hby, hml, hrt, hlk, hnm, hw⟩ := H
  intro T locs c1 s1 X F hc hs eT
  exact own_go (fun t q => XT.dup2L X.here hx rfl (hb hby hd) rfl q) (k T locs c1 s1 X F hc hs eT)
theorem own_dup_x1 (H : own_Ok B Z a0 l R y code N ret) {x z : Value} (hq : x.category = 1) (hq' : z.category = 1) (hd : decode code pc = .ok (.dup_x1, 1)) (k : own_G B n0 Q kc ks cells slots h (pc + 1) Ls (x :: z :: x :: st)) : own_G B n0 Q kc ks cells slots h pc Ls (x :: z :: st) := by
  obtain ⟨p, l, e, R, s, m, args, below, meth, c⟩ := B
  obtain ⟨rfl, rfl, hx, hZ, hown, hby, hml, hrt, hlk, hnm, hw⟩ := H
  intro T locs c1 s1 X F hc hs eT
  exact own_go (fun t q => XT.dupX1 X.here hx rfl (hb hby hd) rfl hq hq' q) (k T locs c1 s1 X F hc hs eT)
theorem own_pop (H : own_Ok B Z a0 l R y code N ret) {x : Value} (hq : x.category = 1) (hd : decode code pc = .ok (.pop, 1)) (k : own_G B n0 Q kc ks cells slots h (pc + 1) Ls st) : own_G B n0 Q kc ks cells slots h pc Ls (x :: st) := by
  obtain ⟨p, l, e, R, s, m, args, below, meth, c⟩ := B
  obtain ⟨rfl, rfl, hx, hZ, hown, hby, hml, hrt, hlk, hnm, hw⟩ := H
  intro T locs c1 s1 X F hc hs eT
  exact own_go (fun t q => XT.pop X.here hx rfl (hb hby hd) rfl hq q) (k T locs c1 s1 X F hc hs eT)
theorem own_iload_n (H : own_Ok B Z a0 l R y code N ret) {i : Fin 4} {v : Int32} (hl : Ls[i.val]? = some (.val (.int v))) (hd : decode code pc = .ok (.iload_n i, 1)) (k : own_G B n0 Q kc ks cells slots h (pc + 1) Ls (.int v :: st)) : own_G B n0 Q kc ks cells slots h pc Ls st := by
  obtain ⟨p, l, e, R, s, m, args, below, meth, c⟩ := B
  obtain ⟨rfl, rfl, hx, hZ, hown, hby, hml, hrt, hlk, hnm, hw⟩ := H
  intro T locs c1 s1 X F hc hs eT
  exact own_go (fun t q => XS.iloadN X.here hx rfl (hb hby hd) hl q) (k T locs c1 s1 X F hc hs eT)
theorem own_iload (H : own_Ok B Z a0 l R y code N ret) {i : Nat} {v : Int32} (hl : Ls[i]? = some (.val (.int v))) (hd : decode code pc = .ok (.iload i, 2)) (k : own_G B n0 Q kc ks cells slots h (pc + 2) Ls (.int v :: st)) : own_G B n0 Q kc ks cells slots h pc Ls st := by
  obtain ⟨p, l, e, R, s, m, args, below, meth, c⟩ := B
  obtain ⟨rfl, rfl, hx, hZ, hown, hby, hml, hrt, hlk, hnm, hw⟩ := H
  intro T locs c1 s1 X F hc hs eT
  exact own_go (fun t q => XS.iload X.here hx rfl (hb hby hd) hl q) (k T locs c1 s1 X F hc hs eT)
theorem own_lload_n (H : own_Ok B Z a0 l R y code N ret) {i : Fin 4} {v : Int64} (hl : Ls[i.val]? = some (.val (.long v))) (hd : decode code pc = .ok (.lload_n i, 1)) (k : own_G B n0 Q kc ks cells slots h (pc + 1) Ls (.long v :: st)) : own_G B n0 Q kc ks cells slots h pc Ls st := by
  obtain ⟨p, l, e, R, s, m, args, below, meth, c⟩ := B
  obtain ⟨rfl, rfl, hx, hZ, hown, hby, hml, hrt, hlk, hnm, hw⟩ := H
  intro T locs c1 s1 X F hc hs eT
  exact own_go (fun t q => XT.lloadN X.here hx rfl (hb hby hd) hl q) (k T locs c1 s1 X F hc hs eT)
theorem own_lload (H : own_Ok B Z a0 l R y code N ret) {i : Nat} {v : Int64} (hl : Ls[i]? = some (.val (.long v))) (hd : decode code pc = .ok (.lload i, 2)) (k : own_G B n0 Q kc ks cells slots h (pc + 2) Ls (.long v :: st)) : own_G B n0 Q kc ks cells slots h pc Ls st := by
  obtain ⟨p, l, e, R, s, m, args, below, meth, c⟩ := B
  obtain ⟨rfl, rfl, hx, hZ, hown, hby, hml, hrt, hlk, hnm, hw⟩ := H
  intro T locs c1 s1 X F hc hs eT
  exact own_go (fun t q => XT.lload X.here hx rfl (hb hby hd) hl q) (k T locs c1 s1 X F hc hs eT)
theorem own_aload_n (H : own_Ok B Z a0 l R y code N ret) {i : Fin 4} {v : Value} (hl : Ls[i.val]? = some (.val v)) (hv : v.isRef = true) (hd : decode code pc = .ok (.aload_n i, 1)) (k : own_G B n0 Q kc ks cells slots h (pc + 1) Ls (v :: st)) : own_G B n0 Q kc ks cells slots h pc Ls st := by
  obtain ⟨p, l, e, R, s, m, args, below, meth, c⟩ := B
  obtain ⟨rfl, rfl, hx, hZ, hown, hby, hml, hrt, hlk, hnm, hw⟩ := H
  intro T locs c1 s1 X F hc hs eT
  exact own_go (fun t q => XS.aloadN X.here hx rfl (hb hby hd) hl hv q) (k T locs c1 s1 X F hc hs eT)
theorem own_aload (H : own_Ok B Z a0 l R y code N ret) {i : Nat} {v : Value} (hl : Ls[i]? = some (.val v)) (hv : v.isRef = true) (hd : decode code pc = .ok (.aload i, 2)) (k : own_G B n0 Q kc ks cells slots h (pc + 2) Ls (v :: st)) : own_G B n0 Q kc ks cells slots h pc Ls st := by
  obtain ⟨p, l, e, R, s, m, args, below, meth, c⟩ := B
  obtain ⟨rfl, rfl, hx, hZ, hown, hby, hml, hrt, hlk, hnm, hw⟩ := H
  intro T locs c1 s1 X F hc hs eT
  exact own_go (fun t q => XS.aload X.here hx rfl (hb hby hd) hl hv q) (k T locs c1 s1 X F hc hs eT)
theorem own_istore_n (H : own_Ok B Z a0 l R y code N ret) {i : Fin 4} {x : Int32} (Ls' : Array Slot) (hl : storeLocals Ls i.val (.int x) = some Ls') (hd : decode code pc = .ok (.istore_n i, 1)) (k : own_G B n0 Q kc ks cells slots h (pc + 1) Ls' st) : own_G B n0 Q kc ks cells slots h pc Ls (.int x :: st) := by
  obtain ⟨p, l, e, R, s, m, args, below, meth, c⟩ := B
  obtain ⟨rfl, rfl, hx, hZ, hown, hby, hml, hrt, hlk, hnm, hw⟩ := H
  intro T locs c1 s1 X F hc hs eT
  exact own_go (fun t q => XS.istoreN X.here hx rfl (hb hby hd) rfl hl q) (k T locs c1 s1 X F hc hs eT)
theorem own_istore (H : own_Ok B Z a0 l R y code N ret) {i : Nat} {x : Int32} (Ls' : Array Slot) (hl : storeLocals Ls i (.int x) = some Ls') (hd : decode code pc = .ok (.istore i, 2)) (k : own_G B n0 Q kc ks cells slots h (pc + 2) Ls' st) : own_G B n0 Q kc ks cells slots h pc Ls (.int x :: st) := by
  obtain ⟨p, l, e, R, s, m, args, below, meth, c⟩ := B
  obtain ⟨rfl, rfl, hx, hZ, hown, hby, hml, hrt, hlk, hnm, hw⟩ := H
  intro T locs c1 s1 X F hc hs eT
  exact own_go (fun t q => XS.istore X.here hx rfl (hb hby hd) rfl hl q) (k T locs c1 s1 X F hc hs eT)
theorem own_lstore_n (H : own_Ok B Z a0 l R y code N ret) {i : Fin 4} {x : Int64} (Ls' : Array Slot) (hl : storeLocals Ls i.val (.long x) = some Ls') (hd : decode code pc = .ok (.lstore_n i, 1)) (k : own_G B n0 Q kc ks cells slots h (pc + 1) Ls' st) : own_G B n0 Q kc ks cells slots h pc Ls (.long x :: st) := by
  obtain ⟨p, l, e, R, s, m, args, below, meth, c⟩ := B
  obtain ⟨rfl, rfl, hx, hZ, hown, hby, hml, hrt, hlk, hnm, hw⟩ := H
  intro T locs c1 s1 X F hc hs eT
  exact own_go (fun t q => XT.lstoreN X.here hx rfl (hb hby hd) rfl hl q) (k T locs c1 s1 X F hc hs eT)
theorem own_lstore (H : own_Ok B Z a0 l R y code N ret) {i : Nat} {x : Int64} (Ls' : Array Slot) (hl : storeLocals Ls i (.long x) = some Ls') (hd : decode code pc = .ok (.lstore i, 2)) (k : own_G B n0 Q kc ks cells slots h (pc + 2) Ls' st) : own_G B n0 Q kc ks cells slots h pc Ls (.long x :: st) := by
  obtain ⟨p, l, e, R, s, m, args, below, meth, c⟩ := B
  obtain ⟨rfl, rfl, hx, hZ, hown, hby, hml, hrt, hlk, hnm, hw⟩ := H
  intro T locs c1 s1 X F hc hs eT
  exact own_go (fun t q => XT.lstore X.here hx rfl (hb hby hd) rfl hl q) (k T locs c1 s1 X F hc hs eT)
theorem own_astore_n (H : own_Ok B Z a0 l R y code N ret) {i : Fin 4} {x : Value} (hv : x.isRef = true) (Ls' : Array Slot) (hl : storeLocals Ls i.val x = some Ls') (hd : decode code pc = .ok (.astore_n i, 1)) (k : own_G B n0 Q kc ks cells slots h (pc + 1) Ls' st) : own_G B n0 Q kc ks cells slots h pc Ls (x :: st) := by
  obtain ⟨p, l, e, R, s, m, args, below, meth, c⟩ := B
  obtain ⟨rfl, rfl, hx, hZ, hown, hby, hml, hrt, hlk, hnm, hw⟩ := H
  intro T locs c1 s1 X F hc hs eT
  exact own_go (fun t q => XS.astoreN X.here hx rfl (hb hby hd) rfl hv hl q) (k T locs c1 s1 X F hc hs eT)
theorem own_astore (H : own_Ok B Z a0 l R y code N ret) {i : Nat} {x : Value} (hv : x.isRef = true) (Ls' : Array Slot) (hl : storeLocals Ls i x = some Ls') (hd : decode code pc = .ok (.astore i, 2)) (k : own_G B n0 Q kc ks cells slots h (pc + 2) Ls' st) : own_G B n0 Q kc ks cells slots h pc Ls (x :: st) := by
  obtain ⟨p, l, e, R, s, m, args, below, meth, c⟩ := B
  obtain ⟨rfl, rfl, hx, hZ, hown, hby, hml, hrt, hlk, hnm, hw⟩ := H
  intro T locs c1 s1 X F hc hs eT
  exact own_go (fun t q => XS.astore X.here hx rfl (hb hby hd) rfl hv hl q) (k T locs c1 s1 X F hc hs eT)
theorem own_iinc (H : own_Ok B Z a0 l R y code N ret) {i : Nat} {cst : Int} {x u : Int32} (v : Int32) (hv : Int32.ofInt cst = v) (hl : Ls[i]? = some (.val (.int x))) (hu : x + v = u) (Ls' : Array Slot) (hl' : storeLocals Ls i (.int u) = some Ls') (hd : decode code pc = .ok (.iinc i cst, 3)) (k : own_G B n0 Q kc ks cells slots h (pc + 3) Ls' st) : own_G B n0 Q kc ks cells slots h pc Ls st := by
  subst hu
  obtain ⟨p, l, e, R, s, m, args, below, meth, c⟩ := B
  obtain ⟨rfl, rfl, hx, hZ, hown, hby, hml, hrt, hlk, hnm, hw⟩ := H
  intro T locs c1 s1 X F hc hs eT
  exact own_go (fun t q => XT.iincV X.here hx rfl v (hb hby hd) hv hl hl' q) (k T locs c1 s1 X F hc hs eT)
theorem own_goto (H : own_Ok B Z a0 l R y code N ret) {o : Int} (hd : decode code pc = .ok (.goto o, 3)) (ho : 0 ≤ (pc : Int) + o) (hp : ((pc : Int) + o).toNat = pc') (k : own_G B n0 Q kc ks cells slots h pc' Ls st) : own_G B n0 Q kc ks cells slots h pc Ls st := by
  obtain ⟨p, l, e, R, s, m, args, below, meth, c⟩ := B
  obtain ⟨rfl, rfl, hx, hZ, hown, hby, hml, hrt, hlk, hnm, hw⟩ := H
  intro T locs c1 s1 X F hc hs eT
  exact own_go (fun t q => XS.goto X.here hx rfl rfl (hb hby hd) ho hp q) (k T locs c1 s1 X F hc hs eT)
theorem own_ifeq_t (H : own_Ok B Z a0 l R y code N ret) {x : Int32} {o : Int} (hd : decode code pc = .ok (.ifCond .eq o, 3)) (ho : 0 ≤ (pc : Int) + o) (hp : ((pc : Int) + o).toNat = pc') (hq : x = 0) (k : own_G B n0 Q kc ks cells slots h pc' Ls st) : own_G B n0 Q kc ks cells slots h pc Ls (.int x :: st) := by
  obtain ⟨p, l, e, R, s, m, args, below, meth, c⟩ := B
  obtain ⟨rfl, rfl, hx, hZ, hown, hby, hml, hrt, hlk, hnm, hw⟩ := H
  intro T locs c1 s1 X F hc hs eT
  exact own_go (fun t q => XS.ifYes X.here hx rfl rfl (hb hby hd) rfl (XT.i0_eq_t hq) ho hp q) (k T locs c1 s1 X F hc hs eT)
theorem own_ifeq_f (H : own_Ok B Z a0 l R y code N ret) {x : Int32} {o : Int} (hd : decode code pc = .ok (.ifCond .eq o, 3)) (hq : ¬ x = 0) (k : own_G B n0 Q kc ks cells slots h (pc + 3) Ls st) : own_G B n0 Q kc ks cells slots h pc Ls (.int x :: st) := by
  obtain ⟨p, l, e, R, s, m, args, below, meth, c⟩ := B
  obtain ⟨rfl, rfl, hx, hZ, hown, hby, hml, hrt, hlk, hnm, hw⟩ := H
  intro T locs c1 s1 X F hc hs eT
  exact own_go (fun t q => XS.ifNo X.here hx rfl (hb hby hd) rfl (XT.i0_eq_f hq) q) (k T locs c1 s1 X F hc hs eT)
theorem own_icmpeq_t (H : own_Ok B Z a0 l R y code N ret) {x z : Int32} {o : Int} (hd : decode code pc = .ok (.if_icmp .eq o, 3)) (ho : 0 ≤ (pc : Int) + o) (hp : ((pc : Int) + o).toNat = pc') (hq : x = z) (k : own_G B n0 Q kc ks cells slots h pc' Ls st) : own_G B n0 Q kc ks cells slots h pc Ls (.int z :: .int x :: st) := by
  obtain ⟨p, l, e, R, s, m, args, below, meth, c⟩ := B
  obtain ⟨rfl, rfl, hx, hZ, hown, hby, hml, hrt, hlk, hnm, hw⟩ := H
  intro T locs c1 s1 X F hc hs eT
  exact own_go (fun t q => XS.icmpYes X.here hx rfl rfl (hb hby hd) rfl (XT.ii_eq_t hq) ho hp q) (k T locs c1 s1 X F hc hs eT)
theorem own_icmpeq_f (H : own_Ok B Z a0 l R y code N ret) {x z : Int32} {o : Int} (hd : decode code pc = .ok (.if_icmp .eq o, 3)) (hq : ¬ x = z) (k : own_G B n0 Q kc ks cells slots h (pc + 3) Ls st) : own_G B n0 Q kc ks cells slots h pc Ls (.int z :: .int x :: st) := by
  obtain ⟨p, l, e, R, s, m, args, below, meth, c⟩ := B
  obtain ⟨rfl, rfl, hx, hZ, hown, hby, hml, hrt, hlk, hnm, hw⟩ := H
  intro T locs c1 s1 X F hc hs eT
  exact own_go (fun t q => XS.icmpNo X.here hx rfl (hb hby hd) rfl (XT.ii_eq_f hq) q) (k T locs c1 s1 X F hc hs eT)
theorem own_lcmpeq_t (H : own_Ok B Z a0 l R y code N ret) {x z : Int64} {o : Int} (hd0 : decode code pc = .ok (.lcmp, 1)) (hd : decode code (pc + 1) = .ok (.ifCond .eq o, 3)) (ho : 0 ≤ ((pc + 1 : Nat) : Int) + o) (hp : (((pc + 1 : Nat) : Int) + o).toNat = pc') (hq : x = z) (k : own_G B n0 Q kc ks cells slots h pc' Ls st) : own_G B n0 Q kc ks cells slots h pc Ls (.long z :: .long x :: st) := by
  obtain ⟨p, l, e, R, s, m, args, below, meth, c⟩ := B
  obtain ⟨rfl, rfl, hx, hZ, hown, hby, hml, hrt, hlk, hnm, hw⟩ := H
  intro T locs c1 s1 X F hc hs eT
  exact own_go (fun t q => XT.lcmp X.here hx rfl (hb hby hd0) rfl (XS.ifYes X.here hx rfl rfl (hb hby hd) rfl (XT.ll_eq_t hq) ho hp q)) (k T locs c1 s1 X F hc hs eT)
theorem own_lcmpeq_f (H : own_Ok B Z a0 l R y code N ret) {x z : Int64} {o : Int} (hd0 : decode code pc = .ok (.lcmp, 1)) (hd : decode code (pc + 1) = .ok (.ifCond .eq o, 3)) (hq : ¬ x = z) (k : own_G B n0 Q kc ks cells slots h (pc + 4) Ls st) : own_G B n0 Q kc ks cells slots h pc Ls (.long z :: .long x :: st) := by
  obtain ⟨p, l, e, R, s, m, args, below, meth, c⟩ := B
  obtain ⟨rfl, rfl, hx, hZ, hown, hby, hml, hrt, hlk, hnm, hw⟩ := H
  intro T locs c1 s1 X F hc hs eT
  exact own_go (fun t q => XT.lcmp X.here hx rfl (hb hby hd0) rfl (XS.ifNo X.here hx rfl (hb hby hd) rfl (XT.ll_eq_f hq) q)) (k T locs c1 s1 X F hc hs eT)
theorem own_ifne_t (H : own_Ok B Z a0 l R y code N ret) {x : Int32} {o : Int} (hd : decode code pc = .ok (.ifCond .ne o, 3)) (ho : 0 ≤ (pc : Int) + o) (hp : ((pc : Int) + o).toNat = pc') (hq : ¬ x = 0) (k : own_G B n0 Q kc ks cells slots h pc' Ls st) : own_G B n0 Q kc ks cells slots h pc Ls (.int x :: st) := by
  obtain ⟨p, l, e, R, s, m, args, below, meth, c⟩ := B
  obtain ⟨rfl, rfl, hx, hZ, hown, hby, hml, hrt, hlk, hnm, hw⟩ := H
  intro T locs c1 s1 X F hc hs eT
  exact own_go (fun t q => XS.ifYes X.here hx rfl rfl (hb hby hd) rfl (XT.i0_ne_t hq) ho hp q) (k T locs c1 s1 X F hc hs eT)
theorem own_ifne_f (H : own_Ok B Z a0 l R y code N ret) {x : Int32} {o : Int} (hd : decode code pc = .ok (.ifCond .ne o, 3)) (hq : x = 0) (k : own_G B n0 Q kc ks cells slots h (pc + 3) Ls st) : own_G B n0 Q kc ks cells slots h pc Ls (.int x :: st) := by
  obtain ⟨p, l, e, R, s, m, args, below, meth, c⟩ := B
  obtain ⟨rfl, rfl, hx, hZ, hown, hby, hml, hrt, hlk, hnm, hw⟩ := H
  intro T locs c1 s1 X F hc hs eT
  exact own_go (fun t q => XS.ifNo X.here hx rfl (hb hby hd) rfl (XT.i0_ne_f hq) q) (k T locs c1 s1 X F hc hs eT)
theorem own_icmpne_t (H : own_Ok B Z a0 l R y code N ret) {x z : Int32} {o : Int} (hd : decode code pc = .ok (.if_icmp .ne o, 3)) (ho : 0 ≤ (pc : Int) + o) (hp : ((pc : Int) + o).toNat = pc') (hq : ¬ x = z) (k : own_G B n0 Q kc ks cells slots h pc' Ls st) : own_G B n0 Q kc ks cells slots h pc Ls (.int z :: .int x :: st) := by
  obtain ⟨p, l, e, R, s, m, args, below, meth, c⟩ := B
  obtain ⟨rfl, rfl, hx, hZ, hown, hby, hml, hrt, hlk, hnm, hw⟩ := H
  intro T locs c1 s1 X F hc hs eT
  exact own_go (fun t q => XS.icmpYes X.here hx rfl rfl (hb hby hd) rfl (XT.ii_ne_t hq) ho hp q) (k T locs c1 s1 X F hc hs eT)
theorem own_icmpne_f (H : own_Ok B Z a0 l R y code N ret) {x z : Int32} {o : Int} (hd : decode code pc = .ok (.if_icmp .ne o, 3)) (hq : x = z) (k : own_G B n0 Q kc ks cells slots h (pc + 3) Ls st) : own_G B n0 Q kc ks cells slots h pc Ls (.int z :: .int x :: st) := by
  obtain ⟨p, l, e, R, s, m, args, below, meth, c⟩ := B
  obtain ⟨rfl, rfl, hx, hZ, hown, hby, hml, hrt, hlk, hnm, hw⟩ := H
  intro T locs c1 s1 X F hc hs eT
  exact own_go (fun t q => XS.icmpNo X.here hx rfl (hb hby hd) rfl (XT.ii_ne_f hq) q) (k T locs c1 s1 X F hc hs eT)
theorem own_lcmpne_t (H : own_Ok B Z a0 l R y code N ret) {x z : Int64} {o : Int} (hd0 : decode code pc = .ok (.lcmp, 1)) (hd : decode code (pc + 1) = .ok (.ifCond .ne o, 3)) (ho : 0 ≤ ((pc + 1 : Nat) : Int) + o) (hp : (((pc + 1 : Nat) : Int) + o).toNat = pc') (hq : ¬ x = z) (k : own_G B n0 Q kc ks cells slots h pc' Ls st) : own_G B n0 Q kc ks cells slots h pc Ls (.long z :: .long x :: st) := by
  obtain ⟨p, l, e, R, s, m, args, below, meth, c⟩ := B
  obtain ⟨rfl, rfl, hx, hZ, hown, hby, hml, hrt, hlk, hnm, hw⟩ := H
  intro T locs c1 s1 X F hc hs eT
  exact own_go (fun t q => XT.lcmp X.here hx rfl (hb hby hd0) rfl (XS.ifYes X.here hx rfl rfl (hb hby hd) rfl (XT.ll_ne_t hq) ho hp q)) (k T locs c1 s1 X F hc hs eT)
theorem own_lcmpne_f (H : own_Ok B Z a0 l R y code N ret) {x z : Int64} {o : Int} (hd0 : decode code pc = .ok (.lcmp, 1)) (hd : decode code (pc + 1) = .ok (.ifCond .ne o, 3)) (hq : x = z) (k : own_G B n0 Q kc ks cells slots h (pc + 4) Ls st) : own_G B n0 Q kc ks cells slots h pc Ls (.long z :: .long x :: st) := by
  obtain ⟨p, l, e, R, s, m, args, below, meth, c⟩ := B
  obtain ⟨rfl, rfl, hx, hZ, hown, hby, hml, hrt, hlk, hnm, hw⟩ := H
  intro T locs c1 s1 X F hc hs eT
  exact own_go (fun t q => XT.lcmp X.here hx rfl (hb hby hd0) rfl (XS.ifNo X.here hx rfl (hb hby hd) rfl (XT.ll_ne_f hq) q)) (k T locs c1 s1 X F hc hs eT)
theorem own_iflt_t (H : own_Ok B Z a0 l R y code N ret) {x : Int32} {o : Int} (hd : decode code pc = .ok (.ifCond .lt o, 3)) (ho : 0 ≤ (pc : Int) + o) (hp : ((pc : Int) + o).toNat = pc') (hq : x < 0) (k : own_G B n0 Q kc ks cells slots h pc' Ls st) : own_G B n0 Q kc ks cells slots h pc Ls (.int x :: st) := by
  obtain ⟨p, l, e, R, s, m, args, below, meth, c⟩ := B
  obtain ⟨rfl, rfl, hx, hZ, hown, hby, hml, hrt, hlk, hnm, hw⟩ := H
  intro T locs c1 s1 X F hc hs eT
  exact own_go (fun t q => XS.ifYes X.here hx rfl rfl (hb hby hd) rfl (XT.i0_lt_t hq) ho hp q) (k T locs c1 s1 X F hc hs eT)
theorem own_iflt_f (H : own_Ok B Z a0 l R y code N ret) {x : Int32} {o : Int} (hd : decode code pc = .ok (.ifCond .lt o, 3)) (hq : ¬ x < 0) (k : own_G B n0 Q kc ks cells slots h (pc + 3) Ls st) : own_G B n0 Q kc ks cells slots h pc Ls (.int x :: st) := by
  obtain ⟨p, l, e, R, s, m, args, below, meth, c⟩ := B
  obtain ⟨rfl, rfl, hx, hZ, hown, hby, hml, hrt, hlk, hnm, hw⟩ := H
  intro T locs c1 s1 X F hc hs eT
  exact own_go (fun t q => XS.ifNo X.here hx rfl (hb hby hd) rfl (XT.i0_lt_f hq) q) (k T locs c1 s1 X F hc hs eT)
theorem own_icmplt_t (H : own_Ok B Z a0 l R y code N ret) {x z : Int32} {o : Int} (hd : decode code pc = .ok (.if_icmp .lt o, 3)) (ho : 0 ≤ (pc : Int) + o) (hp : ((pc : Int) + o).toNat = pc') (hq : x < z) (k : own_G B n0 Q kc ks cells slots h pc' Ls st) : own_G B n0 Q kc ks cells slots h pc Ls (.int z :: .int x :: st) := by
  obtain ⟨p, l, e, R, s, m, args, below, meth, c⟩ := B
  obtain ⟨rfl, rfl, hx, hZ, hown, hby, hml, hrt, hlk, hnm, hw⟩ := H
  intro T locs c1 s1 X F hc hs eT
  exact own_go (fun t q => XS.icmpYes X.here hx rfl rfl (hb hby hd) rfl (XT.ii_lt_t hq) ho hp q) (k T locs c1 s1 X F hc hs eT)
theorem own_icmplt_f (H : own_Ok B Z a0 l R y code N ret) {x z : Int32} {o : Int} (hd : decode code pc = .ok (.if_icmp .lt o, 3)) (hq : ¬ x < z) (k : own_G B n0 Q kc ks cells slots h (pc + 3) Ls st) : own_G B n0 Q kc ks cells slots h pc Ls (.int z :: .int x :: st) := by
  obtain ⟨p, l, e, R, s, m, args, below, meth, c⟩ := B
  obtain ⟨rfl, rfl, hx, hZ, hown, hby, hml, hrt, hlk, hnm, hw⟩ := H
  intro T locs c1 s1 X F hc hs eT
  exact own_go (fun t q => XS.icmpNo X.here hx rfl (hb hby hd) rfl (XT.ii_lt_f hq) q) (k T locs c1 s1 X F hc hs eT)
theorem own_lcmplt_t (H : own_Ok B Z a0 l R y code N ret) {x z : Int64} {o : Int} (hd0 : decode code pc = .ok (.lcmp, 1)) (hd : decode code (pc + 1) = .ok (.ifCond .lt o, 3)) (ho : 0 ≤ ((pc + 1 : Nat) : Int) + o) (hp : (((pc + 1 : Nat) : Int) + o).toNat = pc') (hq : x < z) (k : own_G B n0 Q kc ks cells slots h pc' Ls st) : own_G B n0 Q kc ks cells slots h pc Ls (.long z :: .long x :: st) := by
  obtain ⟨p, l, e, R, s, m, args, below, meth, c⟩ := B
  obtain ⟨rfl, rfl, hx, hZ, hown, hby, hml, hrt, hlk, hnm, hw⟩ := H
  intro T locs c1 s1 X F hc hs eT
  exact own_go (fun t q => XT.lcmp X.here hx rfl (hb hby hd0) rfl (XS.ifYes X.here hx rfl rfl (hb hby hd) rfl (XT.ll_lt_t hq) ho hp q)) (k T locs c1 s1 X F hc hs eT)
theorem own_lcmplt_f (H : own_Ok B Z a0 l R y code N ret) {x z : Int64} {o : Int} (hd0 : decode code pc = .ok (.lcmp, 1)) (hd : decode code (pc + 1) = .ok (.ifCond .lt o, 3)) (hq : ¬ x < z) (k : own_G B n0 Q kc ks cells slots h (pc + 4) Ls st) : own_G B n0 Q kc ks cells slots h pc Ls (.long z :: .long x :: st) := by
  obtain ⟨p, l, e, R, s, m, args, below, meth, c⟩ := B
  obtain ⟨rfl, rfl, hx, hZ, hown, hby, hml, hrt, hlk, hnm, hw⟩ := H
  intro T locs c1 s1 X F hc hs eT
  exact own_go (fun t q => XT.lcmp X.here hx rfl (hb hby hd0) rfl (XS.ifNo X.here hx rfl (hb hby hd) rfl (XT.ll_lt_f hq) q)) (k T locs c1 s1 X F hc hs eT)
theorem own_ifge_t (H : own_Ok B Z a0 l R y code N ret) {x : Int32} {o : Int} (hd : decode code pc = .ok (.ifCond .ge o, 3)) (ho : 0 ≤ (pc : Int) + o) (hp : ((pc : Int) + o).toNat = pc') (hq : ¬ x < 0) (k : own_G B n0 Q kc ks cells slots h pc' Ls st) : own_G B n0 Q kc ks cells slots h pc Ls (.int x :: st) := by
  obtain ⟨p, l, e, R, s, m, args, below, meth, c⟩ := B
  obtain ⟨rfl, rfl, hx, hZ, hown, hby, hml, hrt, hlk, hnm, hw⟩ := H
  intro T locs c1 s1 X F hc hs eT
  exact own_go (fun t q => XS.ifYes X.here hx rfl rfl (hb hby hd) rfl (XT.i0_ge_t hq) ho hp q) (k T locs c1 s1 X F hc hs eT)
theorem own_ifge_f (H : own_Ok B Z a0 l R y code N ret) {x : Int32} {o : Int} (hd : decode code pc = .ok (.ifCond .ge o, 3)) (hq : x < 0) (k : own_G B n0 Q kc ks cells slots h (pc + 3) Ls st) : own_G B n0 Q kc ks cells slots h pc Ls (.int x :: st) := by
  obtain ⟨p, l, e, R, s, m, args, below, meth, c⟩ := B
  obtain ⟨rfl, rfl, hx, hZ, hown, hby, hml, hrt, hlk, hnm, hw⟩ := H
  intro T locs c1 s1 X F hc hs eT
  exact own_go (fun t q => XS.ifNo X.here hx rfl (hb hby hd) rfl (XT.i0_ge_f hq) q) (k T locs c1 s1 X F hc hs eT)
theorem own_icmpge_t (H : own_Ok B Z a0 l R y code N ret) {x z : Int32} {o : Int} (hd : decode code pc = .ok (.if_icmp .ge o, 3)) (ho : 0 ≤ (pc : Int) + o) (hp : ((pc : Int) + o).toNat = pc') (hq : ¬ x < z) (k : own_G B n0 Q kc ks cells slots h pc' Ls st) : own_G B n0 Q kc ks cells slots h pc Ls (.int z :: .int x :: st) := by
  obtain ⟨p, l, e, R, s, m, args, below, meth, c⟩ := B
  obtain ⟨rfl, rfl, hx, hZ, hown, hby, hml, hrt, hlk, hnm, hw⟩ := H
  intro T locs c1 s1 X F hc hs eT
  exact own_go (fun t q => XS.icmpYes X.here hx rfl rfl (hb hby hd) rfl (XT.ii_ge_t hq) ho hp q) (k T locs c1 s1 X F hc hs eT)
theorem own_icmpge_f (H : own_Ok B Z a0 l R y code N ret) {x z : Int32} {o : Int} (hd : decode code pc = .ok (.if_icmp .ge o, 3)) (hq : x < z) (k : own_G B n0 Q kc ks cells slots h (pc + 3) Ls st) : own_G B n0 Q kc ks cells slots h pc Ls (.int z :: .int x :: st) := by
  obtain ⟨p, l, e, R, s, m, args, below, meth, c⟩ := B
  obtain ⟨rfl, rfl, hx, hZ, hown, hby, hml, hrt, hlk, hnm, hw⟩ := H
  intro T locs c1 s1 X F hc hs eT
  exact own_go (fun t q => XS.icmpNo X.here hx rfl (hb hby hd) rfl (XT.ii_ge_f hq) q) (k T locs c1 s1 X F hc hs eT)
theorem own_lcmpge_t (H : own_Ok B Z a0 l R y code N ret) {x z : Int64} {o : Int} (hd0 : decode code pc = .ok (.lcmp, 1)) (hd : decode code (pc + 1) = .ok (.ifCond .ge o, 3)) (ho : 0 ≤ ((pc + 1 : Nat) : Int) + o) (hp : (((pc + 1 : Nat) : Int) + o).toNat = pc') (hq : ¬ x < z) (k : own_G B n0 Q kc ks cells slots h pc' Ls st) : own_G B n0 Q kc ks cells slots h pc Ls (.long z :: .long x :: st) := by
  obtain ⟨p, l, e, R, s, m, args, below, meth, c⟩ := B
  obtain ⟨rfl, rfl, hx, hZ, hown, hby, hml, hrt, hlk, hnm, hw⟩ := H
  intro T locs c1 s1 X F hc hs eT
  exact own_go (fun t q => XT.lcmp X.here hx rfl (hb hby hd0) rfl (XS.ifYes X.here hx rfl rfl (hb hby hd) rfl (XT.ll_ge_t hq) ho hp q)) (k T locs c1 s1 X F hc hs eT)
theorem own_lcmpge_f (H : own_Ok B Z a0 l R y code N ret) {x z : Int64} {o : Int} (hd0 : decode code pc = .ok (.lcmp, 1)) (hd : decode code (pc + 1) = .ok (.ifCond .ge o, 3)) (hq : x < z) (k : own_G B n0 Q kc ks cells slots h (pc + 4) Ls st) : own_G B n0 Q kc ks cells slots h pc Ls (.long z :: .long x :: st) := by
  obtain ⟨p, l, e, R, s, m, args, below, meth, c⟩ := B
  obtain ⟨rfl, rfl, hx, hZ, hown, hby, hml, hrt, hlk, hnm, hw⟩ := H
  intro T locs c1 s1 X F hc hs eT
  exact own_go (fun t q => XT.lcmp X.here hx rfl (hb hby hd0) rfl (XS.ifNo X.here hx rfl (hb hby hd) rfl (XT.ll_ge_f hq) q)) (k T locs c1 s1 X F hc hs eT)
theorem own_ifgt_t (H : own_Ok B Z a0 l R y code N ret) {x : Int32} {o : Int} (hd : decode code pc = .ok (.ifCond .gt o, 3)) (ho : 0 ≤ (pc : Int) + o) (hp : ((pc : Int) + o).toNat = pc') (hq : 0 < x) (k : own_G B n0 Q kc ks cells slots h pc' Ls st) : own_G B n0 Q kc ks cells slots h pc Ls (.int x :: st) := by
  obtain ⟨p, l, e, R, s, m, args, below, meth, c⟩ := B
  obtain ⟨rfl, rfl, hx, hZ, hown, hby, hml, hrt, hlk, hnm, hw⟩ := H
  intro T locs c1 s1 X F hc hs eT
  exact own_go (fun t q => XS.ifYes X.here hx rfl rfl (hb hby hd) rfl (XT.i0_gt_t hq) ho hp q) (k T locs c1 s1 X F hc hs eT)
theorem own_ifgt_f (H : own_Ok B Z a0 l R y code N ret) {x : Int32} {o : Int} (hd : decode code pc = .ok (.ifCond .gt o, 3)) (hq : ¬ 0 < x) (k : own_G B n0 Q kc ks cells slots h (pc + 3) Ls st) : own_G B n0 Q kc ks cells slots h pc Ls (.int x :: st) := by
  obtain ⟨p, l, e, R, s, m, args, below, meth, c⟩ := B
  obtain ⟨rfl, rfl, hx, hZ, hown, hby, hml, hrt, hlk, hnm, hw⟩ := H
  intro T locs c1 s1 X F hc hs eT
  exact own_go (fun t q => XS.ifNo X.here hx rfl (hb hby hd) rfl (XT.i0_gt_f hq) q) (k T locs c1 s1 X F hc hs eT)
theorem own_icmpgt_t (H : own_Ok B Z a0 l R y code N ret) {x z : Int32} {o : Int} (hd : decode code pc = .ok (.if_icmp .gt o, 3)) (ho : 0 ≤ (pc : Int) + o) (hp : ((pc : Int) + o).toNat = pc') (hq : z < x) (k : own_G B n0 Q kc ks cells slots h pc' Ls st) : own_G B n0 Q kc ks cells slots h pc Ls (.int z :: .int x :: st) := by
  obtain ⟨p, l, e, R, s, m, args, below, meth, c⟩ := B
  obtain ⟨rfl, rfl, hx, hZ, hown, hby, hml, hrt, hlk, hnm, hw⟩ := H
  intro T locs c1 s1 X F hc hs eT
  exact own_go (fun t q => XS.icmpYes X.here hx rfl rfl (hb hby hd) rfl (XT.ii_gt_t hq) ho hp q) (k T locs c1 s1 X F hc hs eT)
theorem own_icmpgt_f (H : own_Ok B Z a0 l R y code N ret) {x z : Int32} {o : Int} (hd : decode code pc = .ok (.if_icmp .gt o, 3)) (hq : ¬ z < x) (k : own_G B n0 Q kc ks cells slots h (pc + 3) Ls st) : own_G B n0 Q kc ks cells slots h pc Ls (.int z :: .int x :: st) := by
  obtain ⟨p, l, e, R, s, m, args, below, meth, c⟩ := B
  obtain ⟨rfl, rfl, hx, hZ, hown, hby, hml, hrt, hlk, hnm, hw⟩ := H
  intro T locs c1 s1 X F hc hs eT
  exact own_go (fun t q => XS.icmpNo X.here hx rfl (hb hby hd) rfl (XT.ii_gt_f hq) q) (k T locs c1 s1 X F hc hs eT)
theorem own_lcmpgt_t (H : own_Ok B Z a0 l R y code N ret) {x z : Int64} {o : Int} (hd0 : decode code pc = .ok (.lcmp, 1)) (hd : decode code (pc + 1) = .ok (.ifCond .gt o, 3)) (ho : 0 ≤ ((pc + 1 : Nat) : Int) + o) (hp : (((pc + 1 : Nat) : Int) + o).toNat = pc') (hq : z < x) (k : own_G B n0 Q kc ks cells slots h pc' Ls st) : own_G B n0 Q kc ks cells slots h pc Ls (.long z :: .long x :: st) := by
  obtain ⟨p, l, e, R, s, m, args, below, meth, c⟩ := B
  obtain ⟨rfl, rfl, hx, hZ, hown, hby, hml, hrt, hlk, hnm, hw⟩ := H
  intro T locs c1 s1 X F hc hs eT
  exact own_go (fun t q => XT.lcmp X.here hx rfl (hb hby hd0) rfl (XS.ifYes X.here hx rfl rfl (hb hby hd) rfl (XT.ll_gt_t hq) ho hp q)) (k T locs c1 s1 X F hc hs eT)
theorem own_lcmpgt_f (H : own_Ok B Z a0 l R y code N ret) {x z : Int64} {o : Int} (hd0 : decode code pc = .ok (.lcmp, 1)) (hd : decode code (pc + 1) = .ok (.ifCond .gt o, 3)) (hq : ¬ z < x) (k : own_G B n0 Q kc ks cells slots h (pc + 4) Ls st) : own_G B n0 Q kc ks cells slots h pc Ls (.long z :: .long x :: st) := by
  obtain ⟨p, l, e, R, s, m, args, below, meth, c⟩ := B
  obtain ⟨rfl, rfl, hx, hZ, hown, hby, hml, hrt, hlk, hnm, hw⟩ := H
  intro T locs c1 s1 X F hc hs eT
  exact own_go (fun t q => XT.lcmp X.here hx rfl (hb hby hd0) rfl (XS.ifNo X.here hx rfl (hb hby hd) rfl (XT.ll_gt_f hq) q)) (k T locs c1 s1 X F hc hs eT)
theorem own_ifle_t (H : own_Ok B Z a0 l R y code N ret) {x : Int32} {o : Int} (hd : decode code pc = .ok (.ifCond .le o, 3)) (ho : 0 ≤ (pc : Int) + o) (hp : ((pc : Int) + o).toNat = pc') (hq : ¬ 0 < x) (k : own_G B n0 Q kc ks cells slots h pc' Ls st) : own_G B n0 Q kc ks cells slots h pc Ls (.int x :: st) := by
  obtain ⟨p, l, e, R, s, m, args, below, meth, c⟩ := B
  obtain ⟨rfl, rfl, hx, hZ, hown, hby, hml, hrt, hlk, hnm, hw⟩ := H
  intro T locs c1 s1 X F hc hs eT
  exact own_go (fun t q => XS.ifYes X.here hx rfl rfl (hb hby hd) rfl (XT.i0_le_t hq) ho hp q) (k T locs c1 s1 X F hc hs eT)
theorem own_ifle_f (H : own_Ok B Z a0 l R y code N ret) {x : Int32} {o : Int} (hd : decode code pc = .ok (.ifCond .le o, 3)) (hq : 0 < x) (k : own_G B n0 Q kc ks cells slots h (pc + 3) Ls st) : own_G B n0 Q kc ks cells slots h pc Ls (.int x :: st) := by
  obtain ⟨p, l, e, R, s, m, args, below, meth, c⟩ := B
  obtain ⟨rfl, rfl, hx, hZ, hown, hby, hml, hrt, hlk, hnm, hw⟩ := H
  intro T locs c1 s1 X F hc hs eT
  exact own_go (fun t q => XS.ifNo X.here hx rfl (hb hby hd) rfl (XT.i0_le_f hq) q) (k T locs c1 s1 X F hc hs eT)
theorem own_icmple_t (H : own_Ok B Z a0 l R y code N ret) {x z : Int32} {o : Int} (hd : decode code pc = .ok (.if_icmp .le o, 3)) (ho : 0 ≤ (pc : Int) + o) (hp : ((pc : Int) + o).toNat = pc') (hq : ¬ z < x) (k : own_G B n0 Q kc ks cells slots h pc' Ls st) : own_G B n0 Q kc ks cells slots h pc Ls (.int z :: .int x :: st) := by
  obtain ⟨p, l, e, R, s, m, args, below, meth, c⟩ := B
  obtain ⟨rfl, rfl, hx, hZ, hown, hby, hml, hrt, hlk, hnm, hw⟩ := H
  intro T locs c1 s1 X F hc hs eT
  exact own_go (fun t q => XS.icmpYes X.here hx rfl rfl (hb hby hd) rfl (XT.ii_le_t hq) ho hp q) (k T locs c1 s1 X F hc hs eT)
theorem own_icmple_f (H : own_Ok B Z a0 l R y code N ret) {x z : Int32} {o : Int} (hd : decode code pc = .ok (.if_icmp .le o, 3)) (hq : z < x) (k : own_G B n0 Q kc ks cells slots h (pc + 3) Ls st) : own_G B n0 Q kc ks cells slots h pc Ls (.int z :: .int x :: st) := by
  obtain ⟨p, l, e, R, s, m, args, below, meth, c⟩ := B
  obtain ⟨rfl, rfl, hx, hZ, hown, hby, hml, hrt, hlk, hnm, hw⟩ := H
  intro T locs c1 s1 X F hc hs eT
  exact own_go (fun t q => XS.icmpNo X.here hx rfl (hb hby hd) rfl (XT.ii_le_f hq) q) (k T locs c1 s1 X F hc hs eT)
theorem own_lcmple_t (H : own_Ok B Z a0 l R y code N ret) {x z : Int64} {o : Int} (hd0 : decode code pc = .ok (.lcmp, 1)) (hd : decode code (pc + 1) = .ok (.ifCond .le o, 3)) (ho : 0 ≤ ((pc + 1 : Nat) : Int) + o) (hp : (((pc + 1 : Nat) : Int) + o).toNat = pc') (hq : ¬ z < x) (k : own_G B n0 Q kc ks cells slots h pc' Ls st) : own_G B n0 Q kc ks cells slots h pc Ls (.long z :: .long x :: st) := by
  obtain ⟨p, l, e, R, s, m, args, below, meth, c⟩ := B
  obtain ⟨rfl, rfl, hx, hZ, hown, hby, hml, hrt, hlk, hnm, hw⟩ := H
  intro T locs c1 s1 X F hc hs eT
  exact own_go (fun t q => XT.lcmp X.here hx rfl (hb hby hd0) rfl (XS.ifYes X.here hx rfl rfl (hb hby hd) rfl (XT.ll_le_t hq) ho hp q)) (k T locs c1 s1 X F hc hs eT)
theorem own_lcmple_f (H : own_Ok B Z a0 l R y code N ret) {x z : Int64} {o : Int} (hd0 : decode code pc = .ok (.lcmp, 1)) (hd : decode code (pc + 1) = .ok (.ifCond .le o, 3)) (hq : z < x) (k : own_G B n0 Q kc ks cells slots h (pc + 4) Ls st) : own_G B n0 Q kc ks cells slots h pc Ls (.long z :: .long x :: st) := by
  obtain ⟨p, l, e, R, s, m, args, below, meth, c⟩ := B
  obtain ⟨rfl, rfl, hx, hZ, hown, hby, hml, hrt, hlk, hnm, hw⟩ := H
  intro T locs c1 s1 X F hc hs eT
  exact own_go (fun t q => XT.lcmp X.here hx rfl (hb hby hd0) rfl (XS.ifNo X.here hx rfl (hb hby hd) rfl (XT.ll_le_f hq) q)) (k T locs c1 s1 X F hc hs eT)
theorem own_acmpeq_t (H : own_Ok B Z a0 l R y code N ret) {x z : Value} {o : Int} (hd : decode code pc = .ok (.if_acmp .eq o, 3)) (ho : 0 ≤ (pc : Int) + o) (hp : ((pc : Int) + o).toNat = pc') (h1 : x.isRef = true) (h2 : z.isRef = true) (hq : x = z) (k : own_G B n0 Q kc ks cells slots h pc' Ls st) : own_G B n0 Q kc ks cells slots h pc Ls (z :: x :: st) := by
  obtain ⟨p, l, e, R, s, m, args, below, meth, c⟩ := B
  obtain ⟨rfl, rfl, hx, hZ, hown, hby, hml, hrt, hlk, hnm, hw⟩ := H
  intro T locs c1 s1 X F hc hs eT
  exact own_go (fun t q => XT.acmpYes X.here hx rfl rfl (hb hby hd) rfl h1 h2 (XT.aa_eq_t hq) ho hp q) (k T locs c1 s1 X F hc hs eT)
theorem own_acmpeq_f (H : own_Ok B Z a0 l R y code N ret) {x z : Value} {o : Int} (hd : decode code pc = .ok (.if_acmp .eq o, 3)) (h1 : x.isRef = true) (h2 : z.isRef = true) (hq : ¬ x = z) (k : own_G B n0 Q kc ks cells slots h (pc + 3) Ls st) : own_G B n0 Q kc ks cells slots h pc Ls (z :: x :: st) := by
  obtain ⟨p, l, e, R, s, m, args, below, meth, c⟩ := B
  obtain ⟨rfl, rfl, hx, hZ, hown, hby, hml, hrt, hlk, hnm, hw⟩ := H
  intro T locs c1 s1 X F hc hs eT
  exact own_go (fun t q => XT.acmpNo X.here hx rfl (hb hby hd) rfl h1 h2 (XT.aa_eq_f hq) q) (k T locs c1 s1 X F hc hs eT)
theorem own_acmpne_t (H : own_Ok B Z a0 l R y code N ret) {x z : Value} {o : Int} (hd : decode code pc = .ok (.if_acmp .ne o, 3)) (ho : 0 ≤ (pc : Int) + o) (hp : ((pc : Int) + o).toNat = pc') (h1 : x.isRef = true) (h2 : z.isRef = true) (hq : ¬ x = z) (k : own_G B n0 Q kc ks cells slots h pc' Ls st) : own_G B n0 Q kc ks cells slots h pc Ls (z :: x :: st) := by
  obtain ⟨p, l, e, R, s, m, args, below, meth, c⟩ := B
  obtain ⟨rfl, rfl, hx, hZ, hown, hby, hml, hrt, hlk, hnm, hw⟩ := H
  intro T locs c1 s1 X F hc hs eT
  exact own_go (fun t q => XT.acmpYes X.here hx rfl rfl (hb hby hd) rfl h1 h2 (XT.aa_ne_t hq) ho hp q) (k T locs c1 s1 X F hc hs eT)
theorem own_acmpne_f (H : own_Ok B Z a0 l R y code N ret) {x z : Value} {o : Int} (hd : decode code pc = .ok (.if_acmp .ne o, 3)) (h1 : x.isRef = true) (h2 : z.isRef = true) (hq : x = z) (k : own_G B n0 Q kc ks cells slots h (pc + 3) Ls st) : own_G B n0 Q kc ks cells slots h pc Ls (z :: x :: st) := by
  obtain ⟨p, l, e, R, s, m, args, below, meth, c⟩ := B
  obtain ⟨rfl, rfl, hx, hZ, hown, hby, hml, hrt, hlk, hnm, hw⟩ := H
  intro T locs c1 s1 X F hc hs eT
  exact own_go (fun t q => XT.acmpNo X.here hx rfl (hb hby hd) rfl h1 h2 (XT.aa_ne_f hq) q) (k T locs c1 s1 X F hc hs eT)
theorem own_ifnull_t (H : own_Ok B Z a0 l R y code N ret) {x : Value} {o : Int} (hd : decode code pc = .ok (.ifnull o, 3)) (ho : 0 ≤ (pc : Int) + o) (hp : ((pc : Int) + o).toNat = pc') (h1 : x.isRef = true) (hq : x = .null) (k : own_G B n0 Q kc ks cells slots h pc' Ls st) : own_G B n0 Q kc ks cells slots h pc Ls (x :: st) := by
  obtain ⟨p, l, e, R, s, m, args, below, meth, c⟩ := B
  obtain ⟨rfl, rfl, hx, hZ, hown, hby, hml, hrt, hlk, hnm, hw⟩ := H
  intro T locs c1 s1 X F hc hs eT
  exact own_go (fun t q => XT.nullYes X.here hx rfl rfl (hb hby hd) rfl hq ho hp q) (k T locs c1 s1 X F hc hs eT)
theorem own_ifnull_f (H : own_Ok B Z a0 l R y code N ret) {x : Value} {o : Int} (hd : decode code pc = .ok (.ifnull o, 3)) (h1 : x.isRef = true) (hq : ¬ x = .null) (k : own_G B n0 Q kc ks cells slots h (pc + 3) Ls st) : own_G B n0 Q kc ks cells slots h pc Ls (x :: st) := by
  obtain ⟨p, l, e, R, s, m, args, below, meth, c⟩ := B
  obtain ⟨rfl, rfl, hx, hZ, hown, hby, hml, hrt, hlk, hnm, hw⟩ := H
  intro T locs c1 s1 X F hc hs eT
  exact own_go (fun t q => XT.nullNo X.here hx rfl (hb hby hd) rfl h1 hq q) (k T locs c1 s1 X F hc hs eT)
theorem own_ifnonnull_t (H : own_Ok B Z a0 l R y code N ret) {x : Value} {o : Int} (hd : decode code pc = .ok (.ifnonnull o, 3)) (ho : 0 ≤ (pc : Int) + o) (hp : ((pc : Int) + o).toNat = pc') (h1 : x.isRef = true) (hq : ¬ x = .null) (k : own_G B n0 Q kc ks cells slots h pc' Ls st) : own_G B n0 Q kc ks cells slots h pc Ls (x :: st) := by
  obtain ⟨p, l, e, R, s, m, args, below, meth, c⟩ := B
  obtain ⟨rfl, rfl, hx, hZ, hown, hby, hml, hrt, hlk, hnm, hw⟩ := H
  intro T locs c1 s1 X F hc hs eT
  exact own_go (fun t q => XT.nonnullYes X.here hx rfl rfl (hb hby hd) rfl h1 hq ho hp q) (k T locs c1 s1 X F hc hs eT)
theorem own_ifnonnull_f (H : own_Ok B Z a0 l R y code N ret) {x : Value} {o : Int} (hd : decode code pc = .ok (.ifnonnull o, 3)) (h1 : x.isRef = true) (hq : x = .null) (k : own_G B n0 Q kc ks cells slots h (pc + 3) Ls st) : own_G B n0 Q kc ks cells slots h pc Ls (x :: st) := by
  obtain ⟨p, l, e, R, s, m, args, below, meth, c⟩ := B
  obtain ⟨rfl, rfl, hx, hZ, hown, hby, hml, hrt, hlk, hnm, hw⟩ := H
  intro T locs c1 s1 X F hc hs eT
  exact own_go (fun t q => XT.nonnullNo X.here hx rfl (hb hby hd) rfl hq q) (k T locs c1 s1 X F hc hs eT)
theorem own_ldcI (H : own_Ok B Z a0 l R y code N ret) {i w : Nat} {v : Int32} (q : tables_1[w]? = some (Jvm.Cond.constant y.cls i v)) (hd : decode code pc = .ok (.ldc i, 2)) (k : own_G B n0 Q kc ks cells slots h (pc + 2) Ls (.int v :: st)) : own_G B n0 Q kc ks cells slots h pc Ls st := by
  obtain ⟨p, l, e, R, s, m, args, below, meth, c⟩ := B
  obtain ⟨rfl, rfl, hx, hZ, hown, hby, hml, hrt, hlk, hnm, hw⟩ := H
  intro T locs c1 s1 X F hc hs eT
  exact own_go (fun t r => X.ldcInt hx hown (mvT hZ (hw _ _ q)) (g := mkF m pc Ls st) rfl (hb hby hd) _ r) (k T locs c1 s1 X F hc hs eT)
theorem own_ldcwI (H : own_Ok B Z a0 l R y code N ret) {i w : Nat} {v : Int32} (q : tables_1[w]? = some (Jvm.Cond.constant y.cls i v)) (hd : decode code pc = .ok (.ldc_w i, 3)) (k : own_G B n0 Q kc ks cells slots h (pc + 3) Ls (.int v :: st)) : own_G B n0 Q kc ks cells slots h pc Ls st := by
  obtain ⟨p, l, e, R, s, m, args, below, meth, c⟩ := B
  obtain ⟨rfl, rfl, hx, hZ, hown, hby, hml, hrt, hlk, hnm, hw⟩ := H
  intro T locs c1 s1 X F hc hs eT
  exact own_go (fun t r => X.ldcwInt hx hown (mvT hZ (hw _ _ q)) (g := mkF m pc Ls st) rfl (hb hby hd) _ r) (k T locs c1 s1 X F hc hs eT)
theorem own_ldc2J (H : own_Ok B Z a0 l R y code N ret) {i w : Nat} {v : Int64} (q : tables_1[w]? = some (Jvm.Cond.constantLong y.cls i v)) (hd : decode code pc = .ok (.ldc2_w i, 3)) (k : own_G B n0 Q kc ks cells slots h (pc + 3) Ls (.long v :: st)) : own_G B n0 Q kc ks cells slots h pc Ls st := by
  obtain ⟨p, l, e, R, s, m, args, below, meth, c⟩ := B
  obtain ⟨rfl, rfl, hx, hZ, hown, hby, hml, hrt, hlk, hnm, hw⟩ := H
  intro T locs c1 s1 X F hc hs eT
  exact own_go (fun t r => X.ldc2Long hx hown (mvT hZ (hw _ _ q)) (g := mkF m pc Ls st) rfl (hb hby hd) _ r) (k T locs c1 s1 X F hc hs eT)
theorem own_ireturn {t : FieldType} (H : own_Ok B Z a0 l R y code N (some t)) {z : Int32} (ht : t = .int ∨ t = .boolean ∨ t = .byte ∨ t = .char ∨ t = .short) (hn : narrow t (.int z) = .int z) (hd : decode code pc = .ok (.ireturn, 1)) (hkc : cells ≤ kc) (hks : slots ≤ ks) (hQ : Q (some (.int z)) h) : own_G B n0 Q kc ks cells slots h pc Ls (.int z :: st) := by
  obtain ⟨p, l, e, R, s, m, args, below, meth, c⟩ := B
  obtain ⟨rfl, rfl, hx, hZ, hown, hby, hml, hrt, hlk, hnm, hw⟩ := H
  intro T locs c1 s1 X F hc hs eT
  obtain ⟨fs, hr, hrun, hended, hW, hsame⟩ := X.leave (v := some (.int z)) (fun h => by rw [hrt] at h; cases h) hlk
  exact ⟨_, _, retOut X hx hrt hn (Or.inl ⟨rfl, ht, _, rfl⟩) (hb hby hd) hr, hrun, hended, _, _, rfl, ⟨by show Q _ T.heap; rw [eT]; exact hQ, F⟩, ⟨_, rfl⟩, hW, hsame.mono (Nat.le_trans hc hkc) (Nat.le_trans hs hks)⟩
theorem own_lreturn (H : own_Ok B Z a0 l R y code N (some .long)) {z : Int64} (hd : decode code pc = .ok (.lreturn, 1)) (hkc : cells ≤ kc) (hks : slots ≤ ks) (hQ : Q (some (.long z)) h) : own_G B n0 Q kc ks cells slots h pc Ls (.long z :: st) := by
  obtain ⟨p, l, e, R, s, m, args, below, meth, c⟩ := B
  obtain ⟨rfl, rfl, hx, hZ, hown, hby, hml, hrt, hlk, hnm, hw⟩ := H
  intro T locs c1 s1 X F hc hs eT
  obtain ⟨fs, hr, hrun, hended, hW, hsame⟩ := X.leave (v := some (.long z)) (fun h => by rw [hrt] at h; cases h) hlk
  exact ⟨_, _, retOut X hx hrt rfl (Or.inr (Or.inl ⟨rfl, rfl, _, rfl⟩)) (hb hby hd) hr, hrun, hended, _, _, rfl, ⟨by show Q _ T.heap; rw [eT]; exact hQ, F⟩, ⟨_, rfl⟩, hW, hsame.mono (Nat.le_trans hc hkc) (Nat.le_trans hs hks)⟩
theorem own_areturn {t : FieldType} (H : own_Ok B Z a0 l R y code N (some t)) (ht : t.isReference = true) {z : Value} (hz : z.isRef = true) (hn : narrow t z = z) (hd : decode code pc = .ok (.areturn, 1)) (hkc : cells ≤ kc) (hks : slots ≤ ks) (hQ : Q (some z) h) : own_G B n0 Q kc ks cells slots h pc Ls (z :: st) := by
  obtain ⟨p, l, e, R, s, m, args, below, meth, c⟩ := B
  obtain ⟨rfl, rfl, hx, hZ, hown, hby, hml, hrt, hlk, hnm, hw⟩ := H
  intro T locs c1 s1 X F hc hs eT
  obtain ⟨fs, hr, hrun, hended, hW, hsame⟩ := X.leave (v := some z) (fun h => by rw [hrt] at h; cases h) hlk
  exact ⟨_, _, retOut X hx hrt hn (Or.inr (Or.inr (Or.inr (Or.inr ⟨rfl, ht, hz⟩)))) (hb hby hd) hr, hrun, hended, _, _, rfl, ⟨by show Q _ T.heap; rw [eT]; exact hQ, F⟩, ⟨_, rfl⟩, hW, hsame.mono (Nat.le_trans hc hkc) (Nat.le_trans hs hks)⟩
theorem own_return (H : own_Ok B Z a0 l R y code N none) (hd : decode code pc = .ok (.return_, 1)) (hkc : cells ≤ kc) (hks : slots ≤ ks) (hQ : Q none h) : own_G B n0 Q kc ks cells slots h pc Ls [] := by
  obtain ⟨p, l, e, R, s, m, args, below, meth, c⟩ := B
  obtain ⟨rfl, rfl, hx, hZ, hown, hby, hml, hrt, hlk, hnm, hw⟩ := H
  intro T locs c1 s1 X F hc hs eT
  obtain ⟨fs, hr, hrun, hended, hW, hsame⟩ := X.leave (v := none) (fun h => rfl) hlk
  exact ⟨_, _, X.returnOut hx hrt (hb hby hd) hr, hrun, hended, _, _, rfl, ⟨by show Q _ T.heap; rw [eT]; exact hQ, F⟩, ⟨_, rfl⟩, hW, hsame.mono (Nat.le_trans hc hkc) (Nat.le_trans hs hks)⟩
theorem own_getfield (H : own_Ok B Z a0 l R y code N ret) {O n d : String} {i w : Nat} (q : tables_1[w]? = some (Jvm.Cond.fieldLink y.cls i O n d)) {a : Addr} {v : Value} (Fd : Fld Z h a O n d v) (hd : decode code pc = .ok (.getfield i, 3)) (k : own_G B n0 Q kc ks cells slots h (pc + 3) Ls (v :: st)) : own_G B n0 Q kc ks cells slots h pc Ls (.ref a :: st) := by
  obtain ⟨p, l, e, R, s, m, args, below, meth, c⟩ := B
  obtain ⟨rfl, rfl, hx, hZ, hown, hby, hml, hrt, hlk, hnm, hw⟩ := H
  intro T locs c1 s1 X F hc hs eT
  obtain ⟨T', X', e', s'⟩ := getF X hx hZ hown (host := "") (Or.inl (hw _ _ q)) Via.refl eT Fd (g := mkF m pc Ls (.ref a :: st)) rfl rfl (hb hby hd)
  exact own_go s' (k T' locs c1 s1 X' F hc hs e')
theorem own_getstatic (H : own_Ok B Z a0 l R y code N ret) {O n d : String} {i w : Nat} (q : tables_1[w]? = some (Jvm.Cond.fieldLink y.cls i O n d)) {v : Value} (Fd : Sta Z h O n d v) (hd : decode code pc = .ok (.getstatic i, 3)) (k : own_G B n0 Q kc ks cells slots h (pc + 3) Ls (v :: st)) : own_G B n0 Q kc ks cells slots h pc Ls st := by
  obtain ⟨p, l, e, R, s, m, args, below, meth, c⟩ := B
  obtain ⟨rfl, rfl, hx, hZ, hown, hby, hml, hrt, hlk, hnm, hw⟩ := H
  intro T locs c1 s1 X F hc hs eT
  obtain ⟨T', X', e', s'⟩ := getS X hx hZ hown (host := "") (hw _ _ q) Via.refl eT Fd (g := mkF m pc Ls st) rfl (hb hby hd)
  exact own_go s' (k T' locs c1 s1 X' F hc hs e')
theorem own_putfield (H : own_Ok B Z a0 l R y code N ret) {O n d C : String} {i w wi kk : Nat} {ty : FieldType} (q : tables_1[w]? = some (Jvm.Cond.fieldLink y.cls i O n d)) {a : Addr} {v old : Value} (Fd : Fld Z h a O n d old) (E : Exa Z h a C) (ha : n0 ≤ a)
    (Lw : (Jvm.Cond.lays C O n d).before a0 Z = true ∨ ((Jvm.Cond.laysFinal C O n d).before a0 Z = true ∧ y.cls = O ∧ y.name = "<init>")) (qi : tables_1[wi]? = some (Jvm.Cond.instantiable C kk)) (hty : parseFieldDescriptor d = some ty) (hn : narrow ty v = v) (hf : fits ty v = true)
    (hd : decode code pc = .ok (.putfield i, 3)) (k : ∀ h', Wr h h' a (Jvm.RoadKit.slotOf Z O n d) v → own_G B n0 Q kc ks cells slots h' (pc + 3) Ls st) : own_G B n0 Q kc ks cells slots h pc Ls (v :: .ref a :: st) := by
  obtain ⟨p, l, e, R, s, m, args, below, meth, c⟩ := B
  obtain ⟨rfl, rfl, hx, hZ, hown, hby, hml, hrt, hlk, hnm, hw⟩ := H
  intro T locs c1 s1 X F hc hs eT
  obtain ⟨T', h', X', e', W', s'⟩ := putF X hx hZ hown (host := "") (Or.inl (hw _ _ q)) Via.refl eT Fd E (Lw.imp id fun z => ⟨z.1, z.2.1, hnm.trans z.2.2⟩) (hw _ _ qi) hty hn hf (g := mkF m pc Ls (v :: .ref a :: st)) rfl rfl (hb hby hd)
  exact own_go s' (k h' W' T' _ c1 s1 X' (Fr.snoc X' F ha) hc hs e')
theorem own_new (H : own_Ok B Z a0 l R y code N ret) {C : String} {i n w wi wz : Nat} (q : tables_1[w]? = some (Jvm.Cond.classLink y.cls i C)) (qi : tables_1[wi]? = some (Jvm.Cond.instantiable C n)) (qz : tables_1[wz]? = some (Jvm.Cond.initialized C)) (hd : decode code pc = .ok (.new i, 3)) (hkc : cells + 1 ≤ R.cells) (hks : slots + n ≤ R.slots)
    (k : ∀ h' a, a = h.size → Ext h h' → Exa Z h' a C → (∀ {O nm d : String} {ty : FieldType}, Laid Z a0 C O nm d → parseFieldDescriptor d = some ty → Fld Z h' a O nm d (defaultValue ty)) → own_G B n0 Q kc ks (cells + 1) (slots + n) h' (pc + 3) Ls (.ref a :: st)) : own_G B n0 Q kc ks cells slots h pc Ls st := by
  obtain ⟨p, l, e, R, s, m, args, below, meth, c⟩ := B
  obtain ⟨rfl, rfl, hx, hZ, hown, hby, hml, hrt, hlk, hnm, hw⟩ := H
  intro T locs c1 s1 X F hc hs eT
  obtain ⟨T', h', X', e', E', A', D', -, s'⟩ := newO X hx hZ hown (hw _ _ q) (hw _ _ qi) (hw _ _ qz) eT (g := mkF m pc Ls st) rfl (hb hby hd) (Nat.le_trans (Nat.add_le_add_right hc 1) hkc) (Nat.le_trans (Nat.add_le_add_right hs n) hks)
  exact own_go s' (k h' h.size rfl E' A' D' T' locs _ _ X' F (Nat.add_le_add_right hc 1) (Nat.add_le_add_right hs n) e')
theorem own_newarray (H : own_Ok B Z a0 l R y code N ret) {aty : ArrayType} {w : Nat} (q : tables_1[w]? = some (Jvm.Cond.arrayClass (newarray.typeOf aty))) {n : Int32} (hn : ¬ n < 0) (cap : Nat) (hcap : n.toNatClampNeg ≤ cap) (hcb : cap * 8 ≤ 536870912) (hd : decode code pc = .ok (.newarray aty, 2)) (hkc : cells + 1 ≤ R.cells) (hks : slots + cap ≤ R.slots)
    (k : ∀ h' a kA, a = h.size → Ext h h' → Arv Z h' a kA (newarray.typeOf aty) n [] (defaultValue (newarray.typeOf aty)) → own_G B n0 Q kc ks (cells + 1) (slots + cap) h' (pc + 2) Ls (.ref a :: st)) : own_G B n0 Q kc ks cells slots h pc Ls (.int n :: st) := by
  obtain ⟨p, l, e, R, s, m, args, below, meth, c⟩ := B
  obtain ⟨rfl, rfl, hx, hZ, hown, hby, hml, hrt, hlk, hnm, hw⟩ := H
  intro T locs c1 s1 X F hc hs eT
  obtain ⟨T', h', kA, X', e', E', A', s'⟩ := newP X hx hZ (hw _ _ q) eT (g := mkF m pc Ls (.int n :: st)) rfl (hb hby hd) rfl hn hcap hcb (Nat.le_trans (Nat.add_le_add_right hc 1) hkc) (Nat.le_trans (Nat.add_le_add_right hs cap) hks)
  exact own_go s' (k h' h.size kA rfl E' (Arv.new A' hn) T' locs _ _ X' F (Nat.add_le_add_right hc 1) (Nat.add_le_add_right hs cap) e')
theorem own_anewarray (H : own_Ok B Z a0 l R y code N ret) {C : String} {i w w2 : Nat} (q : tables_1[w]? = some (Jvm.Cond.classLink y.cls i C)) (q2 : tables_1[w2]? = some (Jvm.Cond.arrayOver (.object C))) {n : Int32} (hn : ¬ n < 0) (cap : Nat) (hcap : n.toNatClampNeg ≤ cap) (hcb : cap * 8 ≤ 536870912) (hd : decode code pc = .ok (.anewarray i, 3)) (hkc : cells + 1 ≤ R.cells) (hks : slots + cap ≤ R.slots)
    (k : ∀ h' a kA, a = h.size → Ext h h' → Arv Z h' a kA (.object C) n [] .null → Ovr Z kA C → own_G B n0 Q kc ks (cells + 1) (slots + cap) h' (pc + 3) Ls (.ref a :: st)) : own_G B n0 Q kc ks cells slots h pc Ls (.int n :: st) := by
  obtain ⟨p, l, e, R, s, m, args, below, meth, c⟩ := B
  obtain ⟨rfl, rfl, hx, hZ, hown, hby, hml, hrt, hlk, hnm, hw⟩ := H
  intro T locs c1 s1 X F hc hs eT
  obtain ⟨T', h', kA, X', e', E', A', O', s'⟩ := newR X hx hZ hown (hw _ _ q) (hw _ _ q2) eT (g := mkF m pc Ls (.int n :: st)) rfl (hb hby hd) rfl hn hcap hcb (Nat.le_trans (Nat.add_le_add_right hc 1) hkc) (Nat.le_trans (Nat.add_le_add_right hs cap) hks)
  exact own_go s' (k h' h.size kA rfl E' (Arv.new A' hn) O' T' locs _ _ X' F (Nat.add_le_add_right hc 1) (Nat.add_le_add_right hs cap) e')
theorem own_iaload (H : own_Ok B Z a0 l R y code N ret) {a : Addr} {cl : Cell} {j : Int32} {v : Value} (A : Arr Z h a cl .int) (hin : ¬ (j < 0 ∨ cl.slots.size ≤ j.toNatClampNeg)) (hv : cl.slots[j.toNatClampNeg]? = some v) (hd : decode code pc = .ok (.iaload, 1)) (k : own_G B n0 Q kc ks cells slots h (pc + 1) Ls (v :: st)) : own_G B n0 Q kc ks cells slots h pc Ls (.int j :: .ref a :: st) := by
  obtain ⟨p, l, e, R, s, m, args, below, meth, c⟩ := B
  obtain ⟨rfl, rfl, hx, hZ, hown, hby, hml, hrt, hlk, hnm, hw⟩ := H
  intro T locs c1 s1 X F hc hs eT
  exact own_go (fun t r => X.iaload hx (j := j) (v := v) (by rw [eT]; exact A.1) (State.isArrayOf_alike hZ.alike A.2.1) A.2.2 hin hv (g := mkF m pc Ls (.int j :: .ref a :: st)) rfl rfl (hb hby hd) _ r) (k T locs c1 s1 X F hc hs eT)
theorem own_laload (H : own_Ok B Z a0 l R y code N ret) {a : Addr} {cl : Cell} {j : Int32} {v : Value} (A : Arr Z h a cl .long) (hin : ¬ (j < 0 ∨ cl.slots.size ≤ j.toNatClampNeg)) (hv : cl.slots[j.toNatClampNeg]? = some v) (hd : decode code pc = .ok (.laload, 1)) (k : own_G B n0 Q kc ks cells slots h (pc + 1) Ls (v :: st)) : own_G B n0 Q kc ks cells slots h pc Ls (.int j :: .ref a :: st) := by
  obtain ⟨p, l, e, R, s, m, args, below, meth, c⟩ := B
  obtain ⟨rfl, rfl, hx, hZ, hown, hby, hml, hrt, hlk, hnm, hw⟩ := H
  intro T locs c1 s1 X F hc hs eT
  exact own_go (fun t r => X.laload hx (j := j) (v := v) (by rw [eT]; exact A.1) (State.isArrayOf_alike hZ.alike A.2.1) A.2.2 hin hv (g := mkF m pc Ls (.int j :: .ref a :: st)) rfl rfl (hb hby hd) _ r) (k T locs c1 s1 X F hc hs eT)
theorem own_caload (H : own_Ok B Z a0 l R y code N ret) {a : Addr} {cl : Cell} {j : Int32} {v : Value} (A : Arr Z h a cl .char) (hin : ¬ (j < 0 ∨ cl.slots.size ≤ j.toNatClampNeg)) (hv : cl.slots[j.toNatClampNeg]? = some v) (hd : decode code pc = .ok (.caload, 1)) (k : own_G B n0 Q kc ks cells slots h (pc + 1) Ls (v :: st)) : own_G B n0 Q kc ks cells slots h pc Ls (.int j :: .ref a :: st) := by
  obtain ⟨p, l, e, R, s, m, args, below, meth, c⟩ := B
  obtain ⟨rfl, rfl, hx, hZ, hown, hby, hml, hrt, hlk, hnm, hw⟩ := H
  intro T locs c1 s1 X F hc hs eT
  exact own_go (fun t r => X.caload hx (j := j) (v := v) (by rw [eT]; exact A.1) (State.isArrayOf_alike hZ.alike A.2.1) A.2.2 hin hv (g := mkF m pc Ls (.int j :: .ref a :: st)) rfl rfl (hb hby hd) _ r) (k T locs c1 s1 X F hc hs eT)
theorem own_baload (H : own_Ok B Z a0 l R y code N ret) {a : Addr} {cl : Cell} {j : Int32} {v : Value} (A : Arr Z h a cl .byte) (hin : ¬ (j < 0 ∨ cl.slots.size ≤ j.toNatClampNeg)) (hv : cl.slots[j.toNatClampNeg]? = some v) (hd : decode code pc = .ok (.baload, 1)) (k : own_G B n0 Q kc ks cells slots h (pc + 1) Ls (v :: st)) : own_G B n0 Q kc ks cells slots h pc Ls (.int j :: .ref a :: st) := by
  obtain ⟨p, l, e, R, s, m, args, below, meth, c⟩ := B
  obtain ⟨rfl, rfl, hx, hZ, hown, hby, hml, hrt, hlk, hnm, hw⟩ := H
  intro T locs c1 s1 X F hc hs eT
  exact own_go (fun t r => X.baloadBytes hx (j := j) (v := v) (by rw [eT]; exact A.1) (State.isArrayOf_alike hZ.alike A.2.1) A.2.2 hin hv (g := mkF m pc Ls (.int j :: .ref a :: st)) rfl rfl (hb hby hd) _ r) (k T locs c1 s1 X F hc hs eT)
theorem own_aaload (H : own_Ok B Z a0 l R y code N ret) {a : Addr} {cl : Cell} {ty : FieldType} {j : Int32} {v : Value} (A : Arr Z h a cl ty) (hty : ty.isReference = true) (hin : ¬ (j < 0 ∨ cl.slots.size ≤ j.toNatClampNeg)) (hv : cl.slots[j.toNatClampNeg]? = some v) (hd : decode code pc = .ok (.aaload, 1)) (k : own_G B n0 Q kc ks cells slots h (pc + 1) Ls (v :: st)) : own_G B n0 Q kc ks cells slots h pc Ls (.int j :: .ref a :: st) := by
  obtain ⟨p, l, e, R, s, m, args, below, meth, c⟩ := B
  obtain ⟨rfl, rfl, hx, hZ, hown, hby, hml, hrt, hlk, hnm, hw⟩ := H
  intro T locs c1 s1 X F hc hs eT
  exact own_go (fun t r => X.aaload hx (j := j) (v := v) (by rw [eT]; exact A.1) (State.isArrayOf_alike hZ.alike A.2.1) hty A.2.2 hin hv (g := mkF m pc Ls (.int j :: .ref a :: st)) rfl rfl (hb hby hd) _ r) (k T locs c1 s1 X F hc hs eT)
theorem own_arraylength (H : own_Ok B Z a0 l R y code N ret) {a : Addr} {cl : Cell} {ty : FieldType} {z : Int32} (A : Arr Z h a cl ty) (S : cl.slots.size = z.toNatClampNeg) (hz : ¬ z < 0) (hd : decode code pc = .ok (.arraylength, 1)) (k : own_G B n0 Q kc ks cells slots h (pc + 1) Ls (.int z :: st)) : own_G B n0 Q kc ks cells slots h pc Ls (.ref a :: st) := by
  obtain ⟨p, l, e, R, s, m, args, below, meth, c⟩ := B
  obtain ⟨rfl, rfl, hx, hZ, hown, hby, hml, hrt, hlk, hnm, hw⟩ := H
  intro T locs c1 s1 X F hc hs eT
  refine own_go (fun t r => X.arraylength hx (by rw [eT]; exact A.1) (State.isArrayOf_alike hZ.alike A.2.1) (g := mkF m pc Ls (.ref a :: st)) rfl rfl (hb hby hd) _ r) ?_
  rw [len_of S hz]
  exact k T locs c1 s1 X F hc hs eT
theorem own_iastore (H : own_Ok B Z a0 l R y code N ret) {a : Addr} {cl : Cell} {j : Int32} {x : Int32} (A : Arr Z h a cl .int) (hin : ¬ (j < 0 ∨ cl.slots.size ≤ j.toNatClampNeg)) (ha : n0 ≤ a) (hd : decode code pc = .ok (.iastore, 1)) (k : ∀ h', Wr h h' a j.toNatClampNeg (.int x) → own_G B n0 Q kc ks cells slots h' (pc + 1) Ls st) : own_G B n0 Q kc ks cells slots h pc Ls (.int x :: .int j :: .ref a :: st) := by
  obtain ⟨p, l, e, R, s, m, args, below, meth, c⟩ := B
  obtain ⟨rfl, rfl, hx, hZ, hown, hby, hml, hrt, hlk, hnm, hw⟩ := H
  intro T locs c1 s1 X F hc hs eT
  obtain ⟨T', h', X', e', W', s'⟩ := stI X hx hZ eT A hin (g := mkF m pc Ls (.int x :: .int j :: .ref a :: st)) rfl rfl (hb hby hd)
  exact own_go s' (k h' W' T' _ c1 s1 X' (Fr.snoc X' F ha) hc hs e')
theorem own_lastore (H : own_Ok B Z a0 l R y code N ret) {a : Addr} {cl : Cell} {j : Int32} {x : Int64} (A : Arr Z h a cl .long) (hin : ¬ (j < 0 ∨ cl.slots.size ≤ j.toNatClampNeg)) (ha : n0 ≤ a) (hd : decode code pc = .ok (.lastore, 1)) (k : ∀ h', Wr h h' a j.toNatClampNeg (.long x) → own_G B n0 Q kc ks cells slots h' (pc + 1) Ls st) : own_G B n0 Q kc ks cells slots h pc Ls (.long x :: .int j :: .ref a :: st) := by
  obtain ⟨p, l, e, R, s, m, args, below, meth, c⟩ := B
  obtain ⟨rfl, rfl, hx, hZ, hown, hby, hml, hrt, hlk, hnm, hw⟩ := H
  intro T locs c1 s1 X F hc hs eT
  obtain ⟨T', h', X', e', W', s'⟩ := stJ X hx hZ eT A hin (g := mkF m pc Ls (.long x :: .int j :: .ref a :: st)) rfl rfl (hb hby hd)
  exact own_go s' (k h' W' T' _ c1 s1 X' (Fr.snoc X' F ha) hc hs e')
theorem own_bastore (H : own_Ok B Z a0 l R y code N ret) {a : Addr} {cl : Cell} {j : Int32} {x : Int32} (A : Arr Z h a cl .byte) (hin : ¬ (j < 0 ∨ cl.slots.size ≤ j.toNatClampNeg)) (ha : n0 ≤ a) (hd : decode code pc = .ok (.bastore, 1)) (k : ∀ h', Wr h h' a j.toNatClampNeg (.int (nar .byte x)) → own_G B n0 Q kc ks cells slots h' (pc + 1) Ls st) : own_G B n0 Q kc ks cells slots h pc Ls (.int x :: .int j :: .ref a :: st) := by
  obtain ⟨p, l, e, R, s, m, args, below, meth, c⟩ := B
  obtain ⟨rfl, rfl, hx, hZ, hown, hby, hml, hrt, hlk, hnm, hw⟩ := H
  intro T locs c1 s1 X F hc hs eT
  obtain ⟨T', h', X', e', W', s'⟩ := stB X hx hZ eT A hin (g := mkF m pc Ls (.int x :: .int j :: .ref a :: st)) rfl rfl (hb hby hd)
  exact own_go s' (k h' W' T' _ c1 s1 X' (Fr.snoc X' F ha) hc hs e')
theorem own_castore (H : own_Ok B Z a0 l R y code N ret) {a : Addr} {cl : Cell} {j : Int32} {x : Int32} (A : Arr Z h a cl .char) (hin : ¬ (j < 0 ∨ cl.slots.size ≤ j.toNatClampNeg)) (ha : n0 ≤ a) (hd : decode code pc = .ok (.castore, 1)) (k : ∀ h', Wr h h' a j.toNatClampNeg (.int (nar .char x)) → own_G B n0 Q kc ks cells slots h' (pc + 1) Ls st) : own_G B n0 Q kc ks cells slots h pc Ls (.int x :: .int j :: .ref a :: st) := by
  obtain ⟨p, l, e, R, s, m, args, below, meth, c⟩ := B
  obtain ⟨rfl, rfl, hx, hZ, hown, hby, hml, hrt, hlk, hnm, hw⟩ := H
  intro T locs c1 s1 X F hc hs eT
  obtain ⟨T', h', X', e', W', s'⟩ := stC X hx hZ eT A hin (g := mkF m pc Ls (.int x :: .int j :: .ref a :: st)) rfl rfl (hb hby hd)
  exact own_go s' (k h' W' T' _ c1 s1 X' (Fr.snoc X' F ha) hc hs e')
theorem own_ialoadV (H : own_Ok B Z a0 l R y code N ret) {a : Addr} {kA : ClassId} {n j : Int32} {vs : List Value} {dv v : Value} (V : Arv Z h a kA .int n vs dv) (h1 : ¬ j < 0) (h2 : j < n) (hv : vs.getD j.toNatClampNeg dv = v) (hd : decode code pc = .ok (.iaload, 1)) (k : own_G B n0 Q kc ks cells slots h (pc + 1) Ls (v :: st)) : own_G B n0 Q kc ks cells slots h pc Ls (.int j :: .ref a :: st) := by
  obtain ⟨cl, A, -, S, M, Hs, -⟩ := V
  exact own_iaload H A (inb_of S ⟨h1, h2⟩) (Hs.at (inb_of S ⟨h1, h2⟩) hv) hd k
theorem own_laloadV (H : own_Ok B Z a0 l R y code N ret) {a : Addr} {kA : ClassId} {n j : Int32} {vs : List Value} {dv v : Value} (V : Arv Z h a kA .long n vs dv) (h1 : ¬ j < 0) (h2 : j < n) (hv : vs.getD j.toNatClampNeg dv = v) (hd : decode code pc = .ok (.laload, 1)) (k : own_G B n0 Q kc ks cells slots h (pc + 1) Ls (v :: st)) : own_G B n0 Q kc ks cells slots h pc Ls (.int j :: .ref a :: st) := by
  obtain ⟨cl, A, -, S, M, Hs, -⟩ := V
  exact own_laload H A (inb_of S ⟨h1, h2⟩) (Hs.at (inb_of S ⟨h1, h2⟩) hv) hd k
theorem own_caloadV (H : own_Ok B Z a0 l R y code N ret) {a : Addr} {kA : ClassId} {n j : Int32} {vs : List Value} {dv v : Value} (V : Arv Z h a kA .char n vs dv) (h1 : ¬ j < 0) (h2 : j < n) (hv : vs.getD j.toNatClampNeg dv = v) (hd : decode code pc = .ok (.caload, 1)) (k : own_G B n0 Q kc ks cells slots h (pc + 1) Ls (v :: st)) : own_G B n0 Q kc ks cells slots h pc Ls (.int j :: .ref a :: st) := by
  obtain ⟨cl, A, -, S, M, Hs, -⟩ := V
  exact own_caload H A (inb_of S ⟨h1, h2⟩) (Hs.at (inb_of S ⟨h1, h2⟩) hv) hd k
theorem own_baloadV (H : own_Ok B Z a0 l R y code N ret) {a : Addr} {kA : ClassId} {n j : Int32} {vs : List Value} {dv v : Value} (V : Arv Z h a kA .byte n vs dv) (h1 : ¬ j < 0) (h2 : j < n) (hv : vs.getD j.toNatClampNeg dv = v) (hd : decode code pc = .ok (.baload, 1)) (k : own_G B n0 Q kc ks cells slots h (pc + 1) Ls (v :: st)) : own_G B n0 Q kc ks cells slots h pc Ls (.int j :: .ref a :: st) := by
  obtain ⟨cl, A, -, S, M, Hs, -⟩ := V
  exact own_baload H A (inb_of S ⟨h1, h2⟩) (Hs.at (inb_of S ⟨h1, h2⟩) hv) hd k
theorem own_aaloadV (H : own_Ok B Z a0 l R y code N ret) {a : Addr} {kA : ClassId} {ty : FieldType} {n j : Int32} {vs : List Value} {dv v : Value} (V : Arv Z h a kA ty n vs dv) (hty : ty.isReference = true) (h1 : ¬ j < 0) (h2 : j < n) (hv : vs.getD j.toNatClampNeg dv = v) (hd : decode code pc = .ok (.aaload, 1)) (k : own_G B n0 Q kc ks cells slots h (pc + 1) Ls (v :: st)) : own_G B n0 Q kc ks cells slots h pc Ls (.int j :: .ref a :: st) := by
  obtain ⟨cl, A, -, S, M, Hs, -⟩ := V
  exact own_aaload H A hty (inb_of S ⟨h1, h2⟩) (Hs.at (inb_of S ⟨h1, h2⟩) hv) hd k
theorem own_arraylengthV (H : own_Ok B Z a0 l R y code N ret) {a : Addr} {kA : ClassId} {ty : FieldType} {n : Int32} {vs : List Value} {dv : Value} (V : Arv Z h a kA ty n vs dv) (hd : decode code pc = .ok (.arraylength, 1)) (k : own_G B n0 Q kc ks cells slots h (pc + 1) Ls (.int n :: st)) : own_G B n0 Q kc ks cells slots h pc Ls (.ref a :: st) := by
  obtain ⟨cl, A, -, S, M, -, -⟩ := V
  exact own_arraylength H A S M hd k
theorem own_iastoreV (H : own_Ok B Z a0 l R y code N ret) {a : Addr} {kA : ClassId} {n j : Int32} {vs : List Value} {dv u : Value} {x : Int32} (V : Arv Z h a kA .int n vs dv) (h1 : ¬ j < 0) (h2 : j < n) (i : Nat) (hj : j.toNatClampNeg = i) (hi : i < vs.length) (ha : n0 ≤ a) (hu : (.int x) = u) (hd : decode code pc = .ok (.iastore, 1)) (k : ∀ h', Wr h h' a j.toNatClampNeg u → Arv Z h' a kA .int n (vs.set i u) dv → own_G B n0 Q kc ks cells slots h' (pc + 1) Ls st) : own_G B n0 Q kc ks cells slots h pc Ls (.int x :: .int j :: .ref a :: st) := by
  subst hu
  obtain ⟨cl, A, q1, S, M, Hs, Fs⟩ := V
  exact own_iastore H A (inb_of S ⟨h1, h2⟩) ha hd fun h' W => k h' W (Arv.set A q1 S M Hs Fs rfl W i hj hi)
theorem own_lastoreV (H : own_Ok B Z a0 l R y code N ret) {a : Addr} {kA : ClassId} {n j : Int32} {vs : List Value} {dv u : Value} {x : Int64} (V : Arv Z h a kA .long n vs dv) (h1 : ¬ j < 0) (h2 : j < n) (i : Nat) (hj : j.toNatClampNeg = i) (hi : i < vs.length) (ha : n0 ≤ a) (hu : (.long x) = u) (hd : decode code pc = .ok (.lastore, 1)) (k : ∀ h', Wr h h' a j.toNatClampNeg u → Arv Z h' a kA .long n (vs.set i u) dv → own_G B n0 Q kc ks cells slots h' (pc + 1) Ls st) : own_G B n0 Q kc ks cells slots h pc Ls (.long x :: .int j :: .ref a :: st) := by
  subst hu
  obtain ⟨cl, A, q1, S, M, Hs, Fs⟩ := V
  exact own_lastore H A (inb_of S ⟨h1, h2⟩) ha hd fun h' W => k h' W (Arv.set A q1 S M Hs Fs rfl W i hj hi)
theorem own_bastoreV (H : own_Ok B Z a0 l R y code N ret) {a : Addr} {kA : ClassId} {n j : Int32} {vs : List Value} {dv u : Value} {x : Int32} (V : Arv Z h a kA .byte n vs dv) (h1 : ¬ j < 0) (h2 : j < n) (i : Nat) (hj : j.toNatClampNeg = i) (hi : i < vs.length) (ha : n0 ≤ a) (hu : (.int (nar .byte x)) = u) (hd : decode code pc = .ok (.bastore, 1)) (k : ∀ h', Wr h h' a j.toNatClampNeg u → Arv Z h' a kA .byte n (vs.set i u) dv → own_G B n0 Q kc ks cells slots h' (pc + 1) Ls st) : own_G B n0 Q kc ks cells slots h pc Ls (.int x :: .int j :: .ref a :: st) := by
  subst hu
  obtain ⟨cl, A, q1, S, M, Hs, Fs⟩ := V
  exact own_bastore H A (inb_of S ⟨h1, h2⟩) ha hd fun h' W => k h' W (Arv.set A q1 S M Hs Fs (fits_nar_byte x) W i hj hi)
theorem own_castoreV (H : own_Ok B Z a0 l R y code N ret) {a : Addr} {kA : ClassId} {n j : Int32} {vs : List Value} {dv u : Value} {x : Int32} (V : Arv Z h a kA .char n vs dv) (h1 : ¬ j < 0) (h2 : j < n) (i : Nat) (hj : j.toNatClampNeg = i) (hi : i < vs.length) (ha : n0 ≤ a) (hu : (.int (nar .char x)) = u) (hd : decode code pc = .ok (.castore, 1)) (k : ∀ h', Wr h h' a j.toNatClampNeg u → Arv Z h' a kA .char n (vs.set i u) dv → own_G B n0 Q kc ks cells slots h' (pc + 1) Ls st) : own_G B n0 Q kc ks cells slots h pc Ls (.int x :: .int j :: .ref a :: st) := by
  subst hu
  obtain ⟨cl, A, q1, S, M, Hs, Fs⟩ := V
  exact own_castore H A (inb_of S ⟨h1, h2⟩) ha hd fun h' W => k h' W (Arv.set A q1 S M Hs Fs (fits_nar_char x) W i hj hi)
theorem own_initObject (H : own_Ok B Z a0 l R y code N ret) {i w1 w2 w3 : Nat} (q1 : tables_1[w1]? = some (Jvm.Cond.methodLink y.cls i Lib.objectInit)) (q2 : tables_1[w2]? = some (Jvm.Cond.instanceMethod Lib.objectInit)) (q3 : tables_1[w3]? = some (Jvm.Cond.code Lib.objectInit ⟨#[0xb1]⟩ 1 none)) {a : Addr} (W : Nat) (hsz : Ls.size = N) (hf : 1 ≤ R.frames) (hW : (st.map fun v => v.category).sum ≤ W) (hl : W + 12 ≤ R.locals)
    (hd : decode code pc = .ok (.invokespecial i, 3)) (k : own_G B n0 Q kc ks cells slots h (pc + 3) Ls st) : own_G B n0 Q kc ks cells slots h pc Ls (.ref a :: st) := by
  obtain ⟨p, l, e, R, s, m, args, below, meth, c⟩ := B
  obtain ⟨rfl, rfl, hx, hZ, hown, hby, hml, hrt, hlk, hnm, hw⟩ := H
  intro T locs c1 s1 X F hc hs eT
  obtain ⟨T', X', e', s'⟩ := initO X hx hZ hown (hw _ _ q1) (hw _ _ q2) (hw _ _ q3) eT (g := mkF m pc Ls (.ref a :: st)) rfl (hsz.trans hml.symm) rfl (hb hby hd) hf (W := W) (by show 2 * 0 + _ ≤ _; omega) hl
  exact own_go s' (k T' locs c1 s1 X' F hc hs e')
theorem own_invokestatic (H : own_Ok B Z a0 l R y code N ret) {i w1 w2 w3 w4 : Nat} {yc : MethodName} {bytes : ByteArray} {maxL : Nat} {rc : Option FieldType} {rm : Room} {Qc : Option Value → Heap → Prop} {argsL rest : List Value} (hM : own_C l Z yc bytes maxL rc rm argsL.toArray h n0 Qc)
    (q1 : tables_1[w1]? = some (Jvm.Cond.methodLink y.cls i yc)) (q2 : tables_1[w2]? = some (Jvm.Cond.static yc)) (qz : tables_1[w3]? = some (Jvm.Cond.initialized yc.cls)) (qc : tables_1[w4]? = some (Jvm.Cond.code yc bytes maxL rc)) {ps : List FieldType} {r : Option FieldType} (hpd : parseMethodDescriptor yc.desc = some ⟨ps, r⟩) (hln : argsL.length = ps.length) (W : Nat) (hne : yc.cls ≠ "java/lang/invoke/MethodHandle" ∧ yc.cls ≠ "java/lang/invoke/VarHandle")
    (hsz : Ls.size = N) (hfr : rm.frames + 1 ≤ R.frames) (hW : (rest.map fun v => v.category).sum ≤ W) (hlo : W + (maxL + 11) + rm.locals ≤ R.locals) (hkc : cells + rm.cells ≤ R.cells) (hks : slots + rm.slots ≤ R.slots) (hst : st = argsL.reverse ++ rest) (hd : decode code pc = .ok (.invokestatic i, 3))
    (k : ∀ v h', Qc v h' → own_G B n0 Q kc ks (cells + rm.cells) (slots + rm.slots) h' (pc + 3) Ls (v.toList ++ rest)) : own_G B n0 Q kc ks cells slots h pc Ls st := by
  obtain ⟨p, l, e, R, s, m, args, below, meth, c⟩ := B
  obtain ⟨rfl, rfl, hx, hZ, hown, hby, hml, hrt, hlk, hnm, hw⟩ := H
  intro T locs c1 s1 X F hc hs eT
  subst hst
  obtain ⟨v', _, ⟨T', L', k', n'⟩, -, X', ⟨Lc', hQ', l', y', z'⟩, s'⟩ := Jvm.LawKit.callS X hx (y := yc) hown (mvT hZ (hw _ _ q1)) (mvT hZ (hw _ _ q2)) (mvT hZ (hw _ _ qz)) (mvT hZ (hw _ _ qc)) hne (backOf (W := W) (bytes := bytes) (rm := rm) (Q := fun v hh L => Qc v hh ∧ Fr n0 L) (h := h) hM hZ (hw _ _ qc) (hw _ _ qz) hfr hlo) (g := mkF m pc Ls (argsL.reverse ++ rest)) rfl (hsz.trans hml.symm) (argsL := argsL) (rest := rest) (lenOf hpd hln) rfl (by show 2 * 0 + _ ≤ _; omega) (hb hby hd) (fun _ _ => ⟨rfl, eT, Nat.le_trans (Nat.add_le_add_right hc _) hkc, Nat.le_trans (Nat.add_le_add_right hs _) hks⟩)
  dsimp only [Pt.U, Pt.locs, Pt.cells, Pt.slots] at X' l' y' z' s' hQ'
  subst l' y' z'
  exact own_go s' (k v' _ hQ'.1 T' _ _ _ X' (F.app hQ'.2) (Nat.add_le_add_right hc _) (Nat.add_le_add_right hs _) rfl)
theorem own_invokespecial (H : own_Ok B Z a0 l R y code N ret) {i w1 w2 w3 w4 : Nat} {yc : MethodName} {bytes : ByteArray} {maxL : Nat} {rm : Room} {Qc : Option Value → Heap → Prop} {a : Addr} {argsL rest : List Value} (hM : own_C l Z yc bytes maxL none rm (.ref a :: argsL).toArray h n0 Qc) (hin : yc.name = "<init>")
    (q1 : tables_1[w1]? = some (Jvm.Cond.methodLink y.cls i yc)) (q2 : tables_1[w2]? = some (Jvm.Cond.instanceMethod yc)) (qz : tables_1[w3]? = some (Jvm.Cond.initialized yc.cls)) (qc : tables_1[w4]? = some (Jvm.Cond.code yc bytes maxL none)) {ps : List FieldType} {r : Option FieldType} (hpd : parseMethodDescriptor yc.desc = some ⟨ps, r⟩) (hln : argsL.length = ps.length) (W : Nat) (hne : yc.cls ≠ "java/lang/invoke/MethodHandle" ∧ yc.cls ≠ "java/lang/invoke/VarHandle")
    (hsz : Ls.size = N) (hfr : rm.frames + 1 ≤ R.frames) (hW : (rest.map fun v => v.category).sum ≤ W) (hlo : W + (maxL + 11) + rm.locals ≤ R.locals) (hkc : cells + rm.cells ≤ R.cells) (hks : slots + rm.slots ≤ R.slots) (hst : st = argsL.reverse ++ .ref a :: rest) (hd : decode code pc = .ok (.invokespecial i, 3))
    (k : ∀ v h', Qc v h' → own_G B n0 Q kc ks (cells + rm.cells) (slots + rm.slots) h' (pc + 3) Ls (v.toList ++ rest)) : own_G B n0 Q kc ks cells slots h pc Ls st := by
  obtain ⟨p, l, e, R, s, m, args, below, meth, c⟩ := B
  obtain ⟨rfl, rfl, hx, hZ, hown, hby, hml, hrt, hlk, hnm, hw⟩ := H
  intro T locs c1 s1 X F hc hs eT
  subst hst
  obtain ⟨v', _, ⟨T', L', k', n'⟩, -, X', ⟨Lc', hQ', l', y', z'⟩, s'⟩ := X.specialBack hx (y := yc) hin hown (mvT hZ (hw _ _ q1)) (mvT hZ (hw _ _ q2)) (mvT hZ (hw _ _ qc)) hne (backOf (W := W) (bytes := bytes) (rm := rm) (Q := fun v hh L => Qc v hh ∧ Fr n0 L) (h := h) hM hZ (hw _ _ qc) (hw _ _ qz) hfr hlo) (g := mkF m pc Ls (argsL.reverse ++ .ref a :: rest)) rfl (hsz.trans hml.symm) (Steps.refl _) (a := a) (argsL := argsL) (rest := rest) (lenOf hpd hln) rfl (by show 2 * 0 + _ ≤ _; omega) (hb hby hd) (fun _ _ => ⟨rfl, eT, Nat.le_trans (Nat.add_le_add_right hc _) hkc, Nat.le_trans (Nat.add_le_add_right hs _) hks⟩)
  dsimp only [Pt.U, Pt.locs, Pt.cells, Pt.slots] at X' l' y' z' s' hQ'
  subst l' y' z'
  exact own_go (fun t q => s'.trans q) (k v' _ hQ'.1 T' _ _ _ X' (F.app hQ'.2) (Nat.add_le_add_right hc _) (Nat.add_le_add_right hs _) rfl)
theorem own_invokevirtual (H : own_Ok B Z a0 l R y code N ret) {i w0 w1 w2 w3 w4 w5 : Nat} {C : String} {yc : MethodName} {bytes : ByteArray} {maxL : Nat} {rc : Option FieldType} {rm : Room} {Qc : Option Value → Heap → Prop} {a : Addr} {argsL rest : List Value} (hM : own_C l Z yc bytes maxL rc rm (.ref a :: argsL).toArray h n0 Qc) (E : Exa Z h a C)
    (q1 : tables_1[w1]? = some (Jvm.Cond.methodLink y.cls i yc)) (q0 : tables_1[w0]? = some (Jvm.Cond.declares yc)) (q5 : tables_1[w5]? = some (Jvm.Cond.selects C yc yc)) (q2 : tables_1[w2]? = some (Jvm.Cond.instanceMethod yc)) (qz : tables_1[w3]? = some (Jvm.Cond.initialized yc.cls)) (qc : tables_1[w4]? = some (Jvm.Cond.code yc bytes maxL rc)) {ps : List FieldType} {r : Option FieldType} (hpd : parseMethodDescriptor yc.desc = some ⟨ps, r⟩) (hln : argsL.length = ps.length) (W : Nat) (hne : yc.cls ≠ "java/lang/invoke/MethodHandle" ∧ yc.cls ≠ "java/lang/invoke/VarHandle")
    (hsz : Ls.size = N) (hfr : rm.frames + 1 ≤ R.frames) (hW : (rest.map fun v => v.category).sum ≤ W) (hlo : W + (maxL + 11) + rm.locals ≤ R.locals) (hkc : cells + rm.cells ≤ R.cells) (hks : slots + rm.slots ≤ R.slots) (hst : st = argsL.reverse ++ .ref a :: rest) (hd : decode code pc = .ok (.invokevirtual i, 3))
    (k : ∀ v h', Qc v h' → own_G B n0 Q kc ks (cells + rm.cells) (slots + rm.slots) h' (pc + 3) Ls (v.toList ++ rest)) : own_G B n0 Q kc ks cells slots h pc Ls st := by
  obtain ⟨p, l, e, R, s, m, args, below, meth, c⟩ := B
  obtain ⟨rfl, rfl, hx, hZ, hown, hby, hml, hrt, hlk, hnm, hw⟩ := H
  intro T locs c1 s1 X F hc hs eT
  subst hst
  obtain ⟨cq, kq, qa, -, qb⟩ := isOf hZ eT E
  obtain ⟨v', _, ⟨T', L', k', n'⟩, -, X', ⟨Lc', hQ', l', y', z'⟩, s'⟩ := X.virtualBack hx (y := yc) (z := yc) hown (mvT hZ (hw _ _ q1)) (mvT hZ (hw _ _ q0)) (notFace_of_selects (args := #[]) (mvT hZ (hw _ _ q5))) (mvT hZ (hw _ _ q5)) (mvT hZ (hw _ _ q2)) hne (backOf (W := W) (bytes := bytes) (rm := rm) (Q := fun v hh L => Qc v hh ∧ Fr n0 L) (h := h) hM hZ (hw _ _ qc) (hw _ _ qz) hfr hlo) qa qb (g := mkF m pc Ls (argsL.reverse ++ .ref a :: rest)) rfl (hsz.trans hml.symm) (Steps.refl _) (argsL := argsL) (rest := rest) (lenOf hpd hln) rfl (by show 2 * 0 + _ ≤ _; omega) (hb hby hd) (fun _ _ => ⟨rfl, eT, Nat.le_trans (Nat.add_le_add_right hc _) hkc, Nat.le_trans (Nat.add_le_add_right hs _) hks⟩)
  dsimp only [Pt.U, Pt.locs, Pt.cells, Pt.slots] at X' l' y' z' s' hQ'
  subst l' y' z'
  exact own_go (fun t q => s'.trans q) (k v' _ hQ'.1 T' _ _ _ X' (F.app hQ'.2) (Nat.add_le_add_right hc _) (Nat.add_le_add_right hs _) rfl)
end Laws
end OwnKit
theorem d1_0 : decode method_2_code 0 = .ok (.iload_n 0, 1) := by decide +kernel
theorem d1_1 : decode method_2_code 1 = .ok (.ifCond .ne 7, 3) := by decide +kernel
theorem d1_4 : decode method_2_code 4 = .ok (.getstatic 7, 3) := by decide +kernel
theorem d1_7 : decode method_2_code 7 = .ok (.areturn, 1) := by decide +kernel
theorem d1_8 : decode method_2_code 8 = .ok (.iload_n 0, 1) := by decide +kernel
theorem d1_9 : decode method_2_code 9 = .ok (.iconst 1, 1) := by decide +kernel
theorem d1_10 : decode method_2_code 10 = .ok (.if_icmp .ne 7, 3) := by decide +kernel
theorem d1_13 : decode method_2_code 13 = .ok (.getstatic 13, 3) := by decide +kernel
theorem d1_16 : decode method_2_code 16 = .ok (.areturn, 1) := by decide +kernel
theorem d1_17 : decode method_2_code 17 = .ok (.iload_n 0, 1) := by decide +kernel
theorem d1_18 : decode method_2_code 18 = .ok (.iconst 2, 1) := by decide +kernel
theorem d1_19 : decode method_2_code 19 = .ok (.if_icmp .ne 7, 3) := by decide +kernel
theorem d1_22 : decode method_2_code 22 = .ok (.getstatic 16, 3) := by decide +kernel
theorem d1_25 : decode method_2_code 25 = .ok (.areturn, 1) := by decide +kernel
theorem d1_26 : decode method_2_code 26 = .ok (.iload_n 0, 1) := by decide +kernel
theorem d1_27 : decode method_2_code 27 = .ok (.iconst 3, 1) := by decide +kernel
theorem d1_28 : decode method_2_code 28 = .ok (.if_icmp .ne 7, 3) := by decide +kernel
theorem d1_31 : decode method_2_code 31 = .ok (.getstatic 19, 3) := by decide +kernel
theorem d1_34 : decode method_2_code 34 = .ok (.areturn, 1) := by decide +kernel
theorem d1_35 : decode method_2_code 35 = .ok (.iload_n 0, 1) := by decide +kernel
theorem d1_36 : decode method_2_code 36 = .ok (.iconst 4, 1) := by decide +kernel
theorem d1_37 : decode method_2_code 37 = .ok (.if_icmp .ne 7, 3) := by decide +kernel
theorem d1_40 : decode method_2_code 40 = .ok (.getstatic 22, 3) := by decide +kernel
theorem d1_43 : decode method_2_code 43 = .ok (.areturn, 1) := by decide +kernel
theorem d1_44 : decode method_2_code 44 = .ok (.iload_n 0, 1) := by decide +kernel
theorem d1_45 : decode method_2_code 45 = .ok (.iconst 5, 1) := by decide +kernel
theorem d1_46 : decode method_2_code 46 = .ok (.if_icmp .ne 7, 3) := by decide +kernel
theorem d1_49 : decode method_2_code 49 = .ok (.getstatic 25, 3) := by decide +kernel
theorem d1_52 : decode method_2_code 52 = .ok (.areturn, 1) := by decide +kernel
theorem d1_53 : decode method_2_code 53 = .ok (.iload_n 0, 1) := by decide +kernel
theorem d1_54 : decode method_2_code 54 = .ok (.bipush 6, 2) := by decide +kernel
theorem d1_56 : decode method_2_code 56 = .ok (.if_icmp .ne 7, 3) := by decide +kernel
theorem d1_59 : decode method_2_code 59 = .ok (.getstatic 28, 3) := by decide +kernel
theorem d1_62 : decode method_2_code 62 = .ok (.areturn, 1) := by decide +kernel
theorem d1_63 : decode method_2_code 63 = .ok (.iload_n 0, 1) := by decide +kernel
theorem d1_64 : decode method_2_code 64 = .ok (.bipush 7, 2) := by decide +kernel
theorem d1_66 : decode method_2_code 66 = .ok (.if_icmp .ne 7, 3) := by decide +kernel
theorem d1_69 : decode method_2_code 69 = .ok (.getstatic 31, 3) := by decide +kernel
theorem d1_72 : decode method_2_code 72 = .ok (.areturn, 1) := by decide +kernel
theorem d1_73 : decode method_2_code 73 = .ok (.iload_n 0, 1) := by decide +kernel
theorem d1_74 : decode method_2_code 74 = .ok (.bipush 8, 2) := by decide +kernel
theorem d1_76 : decode method_2_code 76 = .ok (.if_icmp .ne 7, 3) := by decide +kernel
theorem d1_79 : decode method_2_code 79 = .ok (.getstatic 34, 3) := by decide +kernel
theorem d1_82 : decode method_2_code 82 = .ok (.areturn, 1) := by decide +kernel
theorem d1_83 : decode method_2_code 83 = .ok (.iload_n 0, 1) := by decide +kernel
theorem d1_84 : decode method_2_code 84 = .ok (.bipush 9, 2) := by decide +kernel
theorem d1_86 : decode method_2_code 86 = .ok (.if_icmp .ne 7, 3) := by decide +kernel
theorem d1_89 : decode method_2_code 89 = .ok (.getstatic 37, 3) := by decide +kernel
theorem d1_92 : decode method_2_code 92 = .ok (.areturn, 1) := by decide +kernel
theorem d1_93 : decode method_2_code 93 = .ok (.getstatic 40, 3) := by decide +kernel
theorem d1_96 : decode method_2_code 96 = .ok (.areturn, 1) := by decide +kernel
theorem own_pl1 : plainFor (⟨"com/example/loose_columns/loosecolumns/cql/DataTypeTakesPinLaw", "pick", "(I)Lcom/example/loose_columns/loosecolumns/cql/DataType;"⟩ : MethodName) = true := plainFor_of_name (by first | (simp [plainName, overriddenIn]; done) | decide +kernel)
theorem own_pd0 : parseMethodDescriptor "(I)Lcom/example/loose_columns/loosecolumns/cql/DataType;" = some ⟨[.int], some (.object "com/example/loose_columns/loosecolumns/cql/DataType")⟩ := by decide +kernel
def FPk (i : Int32) (r0 r1 r2 r3 r4 r5 r6 r7 r8 r9 r10 : Addr) : Addr := if i = 0 then r0 else if i = (1 : Int32) then r1 else if i = (2 : Int32) then r2 else if i = (3 : Int32) then r3 else if i = (4 : Int32) then r4 else if i = (5 : Int32) then r5 else if i = (6 : Int32) then r6 else if i = (7 : Int32) then r7 else if i = (8 : Int32) then r8 else if i = (9 : Int32) then r9 else r10
set_option maxHeartbeats 4000000 in
theorem rmPk (l : Launch) (Z : State) (a0 : Array Value) (hw : ∀ (i : Nat) (d : Jvm.Cond), tables_1[i]? = some d → d.before a0 Z = true) (h0 : Heap) (n0 : Nat) (i : Int32) (r0 r1 r2 r3 r4 r5 r6 r7 r8 r9 r10 : Addr) (hS0 : Sta Z h0 "com/example/loose_columns/loosecolumns/cql/DataType" "TEXT" "Lcom/example/loose_columns/loosecolumns/cql/DataType;" (.ref r0)) (hS1 : Sta Z h0 "com/example/loose_columns/loosecolumns/cql/DataType" "ASCII" "Lcom/example/loose_columns/loosecolumns/cql/DataType;" (.ref r1)) (hS2 : Sta Z h0 "com/example/loose_columns/loosecolumns/cql/DataType" "INT" "Lcom/example/loose_columns/loosecolumns/cql/DataType;" (.ref r2)) (hS3 : Sta Z h0 "com/example/loose_columns/loosecolumns/cql/DataType" "BIGINT" "Lcom/example/loose_columns/loosecolumns/cql/DataType;" (.ref r3)) (hS4 : Sta Z h0 "com/example/loose_columns/loosecolumns/cql/DataType" "FLOAT" "Lcom/example/loose_columns/loosecolumns/cql/DataType;" (.ref r4)) (hS5 : Sta Z h0 "com/example/loose_columns/loosecolumns/cql/DataType" "DOUBLE" "Lcom/example/loose_columns/loosecolumns/cql/DataType;" (.ref r5)) (hS6 : Sta Z h0 "com/example/loose_columns/loosecolumns/cql/DataType" "BOOLEAN" "Lcom/example/loose_columns/loosecolumns/cql/DataType;" (.ref r6)) (hS7 : Sta Z h0 "com/example/loose_columns/loosecolumns/cql/DataType" "TIMESTAMP" "Lcom/example/loose_columns/loosecolumns/cql/DataType;" (.ref r7)) (hS8 : Sta Z h0 "com/example/loose_columns/loosecolumns/cql/DataType" "BLOB" "Lcom/example/loose_columns/loosecolumns/cql/DataType;" (.ref r8)) (hS9 : Sta Z h0 "com/example/loose_columns/loosecolumns/cql/DataType" "UUID" "Lcom/example/loose_columns/loosecolumns/cql/DataType;" (.ref r9)) (hS10 : Sta Z h0 "com/example/loose_columns/loosecolumns/cql/DataType" "TIMEUUID" "Lcom/example/loose_columns/loosecolumns/cql/DataType;" (.ref r10)) :
    own_P l Z (⟨"com/example/loose_columns/loosecolumns/cql/DataTypeTakesPinLaw", "pick", "(I)Lcom/example/loose_columns/loosecolumns/cql/DataType;"⟩ : MethodName) method_2_code 1 (some (.object "com/example/loose_columns/loosecolumns/cql/DataType")) (own_rm 0 0) #[(.int i)] h0 n0 (.ref (FPk i r0 r1 r2 r3 r4 r5 r6 r7 r8 r9 r10)) := by
  refine own_met (Ls := #[.val (.int i)]) hw own_pl1 (fun m => by first | (simp [entryFrame, mkF, argsToLocals, Value.category]; done) | rfl) ?_
  intro B H
  refine own_iload_n H rfl d1_0 ?_
  by_cases c1 : i = 0
  ·
    refine own_ifne_f H d1_1 c1 ?_
    refine own_getstatic H (w := 5) rfl hS0 d1_4 ?_
    exact own_areturn H rfl rfl rfl d1_7 (by decide) (by decide) ⟨by show some _ = some _; rw [FPk, if_pos c1], rfl⟩
  ·
    refine own_ifne_t H (pc' := 8) d1_1 (by decide) (by decide) c1 ?_
    refine own_iload_n H rfl d1_8 ?_
    refine own_iconst H (1 : Int32) (by decide) d1_9 ?_
    by_cases c2 : i = (1 : Int32)
    ·
      refine own_icmpne_f H d1_10 c2 ?_
      refine own_getstatic H (w := 17) rfl hS1 d1_13 ?_
      exact own_areturn H rfl rfl rfl d1_16 (by decide) (by decide) ⟨by show some _ = some _; rw [FPk, if_neg c1, if_pos c2], rfl⟩
    ·
      refine own_icmpne_t H (pc' := 17) d1_10 (by decide) (by decide) c2 ?_
      refine own_iload_n H rfl d1_17 ?_
      refine own_iconst H (2 : Int32) (by decide) d1_18 ?_
      by_cases c3 : i = (2 : Int32)
      ·
        refine own_icmpne_f H d1_19 c3 ?_
        refine own_getstatic H (w := 27) rfl hS2 d1_22 ?_
        exact own_areturn H rfl rfl rfl d1_25 (by decide) (by decide) ⟨by show some _ = some _; rw [FPk, if_neg c1, if_neg c2, if_pos c3], rfl⟩
      ·
        refine own_icmpne_t H (pc' := 26) d1_19 (by decide) (by decide) c3 ?_
        refine own_iload_n H rfl d1_26 ?_
        refine own_iconst H (3 : Int32) (by decide) d1_27 ?_
        by_cases c4 : i = (3 : Int32)
        ·
          refine own_icmpne_f H d1_28 c4 ?_
          refine own_getstatic H (w := 8) rfl hS3 d1_31 ?_
          exact own_areturn H rfl rfl rfl d1_34 (by decide) (by decide) ⟨by show some _ = some _; rw [FPk, if_neg c1, if_neg c2, if_neg c3, if_pos c4], rfl⟩
        ·
          refine own_icmpne_t H (pc' := 35) d1_28 (by decide) (by decide) c4 ?_
          refine own_iload_n H rfl d1_35 ?_
          refine own_iconst H (4 : Int32) (by decide) d1_36 ?_
          by_cases c5 : i = (4 : Int32)
          ·
            refine own_icmpne_f H d1_37 c5 ?_
            refine own_getstatic H (w := 41) rfl hS4 d1_40 ?_
            exact own_areturn H rfl rfl rfl d1_43 (by decide) (by decide) ⟨by show some _ = some _; rw [FPk, if_neg c1, if_neg c2, if_neg c3, if_neg c4, if_pos c5], rfl⟩
          ·
            refine own_icmpne_t H (pc' := 44) d1_37 (by decide) (by decide) c5 ?_
            refine own_iload_n H rfl d1_44 ?_
            refine own_iconst H (5 : Int32) (by decide) d1_45 ?_
            by_cases c6 : i = (5 : Int32)
            ·
              refine own_icmpne_f H d1_46 c6 ?_
              refine own_getstatic H (w := 25) rfl hS5 d1_49 ?_
              exact own_areturn H rfl rfl rfl d1_52 (by decide) (by decide) ⟨by show some _ = some _; rw [FPk, if_neg c1, if_neg c2, if_neg c3, if_neg c4, if_neg c5, if_pos c6], rfl⟩
            ·
              refine own_icmpne_t H (pc' := 53) d1_46 (by decide) (by decide) c6 ?_
              refine own_iload_n H rfl d1_53 ?_
              refine own_bipush H (6 : Int32) (by decide) d1_54 ?_
              by_cases c7 : i = (6 : Int32)
              ·
                refine own_icmpne_f H d1_56 c7 ?_
                refine own_getstatic H (w := 30) rfl hS6 d1_59 ?_
                exact own_areturn H rfl rfl rfl d1_62 (by decide) (by decide) ⟨by show some _ = some _; rw [FPk, if_neg c1, if_neg c2, if_neg c3, if_neg c4, if_neg c5, if_neg c6, if_pos c7], rfl⟩
              ·
                refine own_icmpne_t H (pc' := 63) d1_56 (by decide) (by decide) c7 ?_
                refine own_iload_n H rfl d1_63 ?_
                refine own_bipush H (7 : Int32) (by decide) d1_64 ?_
                by_cases c8 : i = (7 : Int32)
                ·
                  refine own_icmpne_f H d1_66 c8 ?_
                  refine own_getstatic H (w := 38) rfl hS7 d1_69 ?_
                  exact own_areturn H rfl rfl rfl d1_72 (by decide) (by decide) ⟨by show some _ = some _; rw [FPk, if_neg c1, if_neg c2, if_neg c3, if_neg c4, if_neg c5, if_neg c6, if_neg c7, if_pos c8], rfl⟩
                ·
                  refine own_icmpne_t H (pc' := 73) d1_66 (by decide) (by decide) c8 ?_
                  refine own_iload_n H rfl d1_73 ?_
                  refine own_bipush H (8 : Int32) (by decide) d1_74 ?_
                  by_cases c9 : i = (8 : Int32)
                  ·
                    refine own_icmpne_f H d1_76 c9 ?_
                    refine own_getstatic H (w := 33) rfl hS8 d1_79 ?_
                    exact own_areturn H rfl rfl rfl d1_82 (by decide) (by decide) ⟨by show some _ = some _; rw [FPk, if_neg c1, if_neg c2, if_neg c3, if_neg c4, if_neg c5, if_neg c6, if_neg c7, if_neg c8, if_pos c9], rfl⟩
                  ·
                    refine own_icmpne_t H (pc' := 83) d1_76 (by decide) (by decide) c9 ?_
                    refine own_iload_n H rfl d1_83 ?_
                    refine own_bipush H (9 : Int32) (by decide) d1_84 ?_
                    by_cases c10 : i = (9 : Int32)
                    ·
                      refine own_icmpne_f H d1_86 c10 ?_
                      refine own_getstatic H (w := 20) rfl hS9 d1_89 ?_
                      exact own_areturn H rfl rfl rfl d1_92 (by decide) (by decide) ⟨by show some _ = some _; rw [FPk, if_neg c1, if_neg c2, if_neg c3, if_neg c4, if_neg c5, if_neg c6, if_neg c7, if_neg c8, if_neg c9, if_pos c10], rfl⟩
                    ·
                      refine own_icmpne_t H (pc' := 93) d1_86 (by decide) (by decide) c10 ?_
                      refine own_getstatic H (w := 21) rfl hS10 d1_93 ?_
                      exact own_areturn H rfl rfl rfl d1_96 (by decide) (by decide) ⟨by show some _ = some _; rw [FPk, if_neg c1, if_neg c2, if_neg c3, if_neg c4, if_neg c5, if_neg c6, if_neg c7, if_neg c8, if_neg c9, if_neg c10], rfl⟩
theorem d2_0 : decode prog_12_method_6_code 0 = .ok (.aload_n 1, 1) := by decide +kernel
theorem d2_1 : decode prog_12_method_6_code 1 = .ok (.aload_n 0, 1) := by decide +kernel
theorem d2_2 : decode prog_12_method_6_code 2 = .ok (.if_acmp .eq 17, 3) := by decide +kernel
theorem d2_5 : decode prog_12_method_6_code 5 = .ok (.aload_n 0, 1) := by decide +kernel
theorem d2_6 : decode prog_12_method_6_code 6 = .ok (.getstatic 31, 3) := by decide +kernel
theorem d2_9 : decode prog_12_method_6_code 9 = .ok (.if_acmp .ne 14, 3) := by decide +kernel
theorem d2_12 : decode prog_12_method_6_code 12 = .ok (.aload_n 1, 1) := by decide +kernel
theorem d2_13 : decode prog_12_method_6_code 13 = .ok (.getstatic 34, 3) := by decide +kernel
theorem d2_16 : decode prog_12_method_6_code 16 = .ok (.if_acmp .ne 7, 3) := by decide +kernel
theorem d2_19 : decode prog_12_method_6_code 19 = .ok (.iconst 1, 1) := by decide +kernel
theorem d2_20 : decode prog_12_method_6_code 20 = .ok (.goto 4, 3) := by decide +kernel
theorem d2_23 : decode prog_12_method_6_code 23 = .ok (.iconst 0, 1) := by decide +kernel
theorem d2_24 : decode prog_12_method_6_code 24 = .ok (.ireturn, 1) := by decide +kernel
theorem own_pl2 : plainFor (⟨"com/example/loose_columns/loosecolumns/cql/DataType", "takes", "(Lcom/example/loose_columns/loosecolumns/cql/DataType;)Z"⟩ : MethodName) = true := plainFor_of_name (by first | (simp [plainName, overriddenIn]; done) | decide +kernel)
theorem own_pd1 : parseMethodDescriptor "(Lcom/example/loose_columns/loosecolumns/cql/DataType;)Z" = some ⟨[(.object "com/example/loose_columns/loosecolumns/cql/DataType")], some .boolean⟩ := by decide +kernel
def FTk (u w r9 r10 : Addr) : Int32 := if ((.ref w) : Value) = (.ref u) then (1 : Int32) else if ((.ref u) : Value) = (.ref r9) then if ((.ref w) : Value) = (.ref r10) then (1 : Int32) else (0 : Int32) else (0 : Int32)
set_option maxHeartbeats 4000000 in
theorem rmTk (l : Launch) (Z : State) (a0 : Array Value) (hw : ∀ (i : Nat) (d : Jvm.Cond), tables_1[i]? = some d → d.before a0 Z = true) (h0 : Heap) (n0 : Nat) (u w r9 r10 : Addr) (hS9 : Sta Z h0 "com/example/loose_columns/loosecolumns/cql/DataType" "UUID" "Lcom/example/loose_columns/loosecolumns/cql/DataType;" (.ref r9)) (hS10 : Sta Z h0 "com/example/loose_columns/loosecolumns/cql/DataType" "TIMEUUID" "Lcom/example/loose_columns/loosecolumns/cql/DataType;" (.ref r10)) :
    own_P l Z (⟨"com/example/loose_columns/loosecolumns/cql/DataType", "takes", "(Lcom/example/loose_columns/loosecolumns/cql/DataType;)Z"⟩ : MethodName) prog_12_method_6_code 2 (some .boolean) (own_rm 0 0) #[(.ref u), (.ref w)] h0 n0 (.int (FTk u w r9 r10)) := by
  refine own_met (Ls := #[.val (.ref u), .val (.ref w)]) hw own_pl2 (fun m => by first | (simp [entryFrame, mkF, argsToLocals, Value.category]; done) | rfl) ?_
  intro B H
  refine own_aload_n H rfl rfl d2_0 ?_
  refine own_aload_n H rfl rfl d2_1 ?_
  by_cases c1 : ((.ref w) : Value) = (.ref u)
  ·
    refine own_acmpeq_t H (pc' := 19) d2_2 (by decide) (by decide) rfl rfl c1 ?_
    refine own_iconst H (1 : Int32) (by decide) d2_19 ?_
    refine own_goto H (pc' := 24) d2_20 (by decide) (by decide) ?_
    exact own_ireturn H (by simp) (by decide) d2_24 (by decide) (by decide) ⟨by show some _ = some _; rw [FTk, if_pos c1], rfl⟩
  ·
    refine own_acmpeq_f H d2_2 rfl rfl c1 ?_
    refine own_aload_n H rfl rfl d2_5 ?_
    refine own_getstatic H (w := 15) rfl hS9 d2_6 ?_
    by_cases c2 : ((.ref u) : Value) = (.ref r9)
    ·
      refine own_acmpne_f H d2_9 rfl rfl c2 ?_
      refine own_aload_n H rfl rfl d2_12 ?_
      refine own_getstatic H (w := 24) rfl hS10 d2_13 ?_
      by_cases c3 : ((.ref w) : Value) = (.ref r10)
      ·
        refine own_acmpne_f H d2_16 rfl rfl c3 ?_
        refine own_iconst H (1 : Int32) (by decide) d2_19 ?_
        refine own_goto H (pc' := 24) d2_20 (by decide) (by decide) ?_
        exact own_ireturn H (by simp) (by decide) d2_24 (by decide) (by decide) ⟨by show some _ = some _; rw [FTk, if_neg c1, if_pos c2, if_pos c3], rfl⟩
      ·
        refine own_acmpne_t H (pc' := 23) d2_16 (by decide) (by decide) rfl rfl c3 ?_
        refine own_iconst H (0 : Int32) (by decide) d2_23 ?_
        exact own_ireturn H (by simp) (by decide) d2_24 (by decide) (by decide) ⟨by show some _ = some _; rw [FTk, if_neg c1, if_pos c2, if_neg c3], rfl⟩
    ·
      refine own_acmpne_t H (pc' := 23) d2_9 (by decide) (by decide) rfl rfl c2 ?_
      refine own_iconst H (0 : Int32) (by decide) d2_23 ?_
      exact own_ireturn H (by simp) (by decide) d2_24 (by decide) (by decide) ⟨by show some _ = some _; rw [FTk, if_neg c1, if_neg c2], rfl⟩
set_option maxHeartbeats 4000000 in
theorem own_sel {Z : State} {h : Heap} (i : Int32) (r0 r1 r2 r3 r4 r5 r6 r7 r8 r9 r10 : Addr) (hE0 : Exa Z h r0 "com/example/loose_columns/loosecolumns/cql/DataType$1") (hE1 : Exa Z h r1 "com/example/loose_columns/loosecolumns/cql/DataType$2") (hE2 : Exa Z h r2 "com/example/loose_columns/loosecolumns/cql/DataType$3") (hE3 : Exa Z h r3 "com/example/loose_columns/loosecolumns/cql/DataType$4") (hE4 : Exa Z h r4 "com/example/loose_columns/loosecolumns/cql/DataType$5") (hE5 : Exa Z h r5 "com/example/loose_columns/loosecolumns/cql/DataType$6") (hE6 : Exa Z h r6 "com/example/loose_columns/loosecolumns/cql/DataType$7") (hE7 : Exa Z h r7 "com/example/loose_columns/loosecolumns/cql/DataType$8") (hE8 : Exa Z h r8 "com/example/loose_columns/loosecolumns/cql/DataType$9") (hE9 : Exa Z h r9 "com/example/loose_columns/loosecolumns/cql/DataType$10") (hE10 : Exa Z h r10 "com/example/loose_columns/loosecolumns/cql/DataType$11") : ∃ (C : String) (w5 : Nat), Exa Z h (FPk i r0 r1 r2 r3 r4 r5 r6 r7 r8 r9 r10) C ∧ tables_1[w5]? = some (Jvm.Cond.selects C (⟨"com/example/loose_columns/loosecolumns/cql/DataType", "takes", "(Lcom/example/loose_columns/loosecolumns/cql/DataType;)Z"⟩ : MethodName) (⟨"com/example/loose_columns/loosecolumns/cql/DataType", "takes", "(Lcom/example/loose_columns/loosecolumns/cql/DataType;)Z"⟩ : MethodName)) := by
  unfold FPk
  by_cases q0 : i = 0
  · rw [if_pos q0]
    exact ⟨_, 13, hE0, rfl⟩
  rw [if_neg q0]
  by_cases q1 : i = (1 : Int32)
  · rw [if_pos q1]
    exact ⟨_, 36, hE1, rfl⟩
  rw [if_neg q1]
  by_cases q2 : i = (2 : Int32)
  · rw [if_pos q2]
    exact ⟨_, 37, hE2, rfl⟩
  rw [if_neg q2]
  by_cases q3 : i = (3 : Int32)
  · rw [if_pos q3]
    exact ⟨_, 19, hE3, rfl⟩
  rw [if_neg q3]
  by_cases q4 : i = (4 : Int32)
  · rw [if_pos q4]
    exact ⟨_, 44, hE4, rfl⟩
  rw [if_neg q4]
  by_cases q5 : i = (5 : Int32)
  · rw [if_pos q5]
    exact ⟨_, 29, hE5, rfl⟩
  rw [if_neg q5]
  by_cases q6 : i = (6 : Int32)
  · rw [if_pos q6]
    exact ⟨_, 32, hE6, rfl⟩
  rw [if_neg q6]
  by_cases q7 : i = (7 : Int32)
  · rw [if_pos q7]
    exact ⟨_, 43, hE7, rfl⟩
  rw [if_neg q7]
  by_cases q8 : i = (8 : Int32)
  · rw [if_pos q8]
    exact ⟨_, 35, hE8, rfl⟩
  rw [if_neg q8]
  by_cases q9 : i = (9 : Int32)
  · rw [if_pos q9]
    exact ⟨_, 23, hE9, rfl⟩
  rw [if_neg q9]
  exact ⟨_, 40, hE10, rfl⟩
theorem own_pl0 : plainFor x = true := plainFor_of_name (by first | (simp [plainName, overriddenIn]; done) | decide +kernel)
def F0 (p1 p2 : Int32) (r0 r1 r2 r3 r4 r5 r6 r7 r8 r9 r10 : Addr) : Int32 := if (FTk (FPk ((p1 &&& (2147483647 : Int32)) % (11 : Int32)) r0 r1 r2 r3 r4 r5 r6 r7 r8 r9 r10) (FPk ((p2 &&& (2147483647 : Int32)) % (11 : Int32)) r0 r1 r2 r3 r4 r5 r6 r7 r8 r9 r10) r9 r10) = (if ((p1 &&& (2147483647 : Int32)) % (11 : Int32)) = ((p2 &&& (2147483647 : Int32)) % (11 : Int32)) then (1 : Int32) else (if ((p1 &&& (2147483647 : Int32)) % (11 : Int32)) = (9 : Int32) then (if ((p2 &&& (2147483647 : Int32)) % (11 : Int32)) = (10 : Int32) then (1 : Int32) else (0 : Int32)) else (0 : Int32))) then (1 : Int32) else (0 : Int32)
set_option maxHeartbeats 40000000 in
theorem rm0 (l : Launch) (Z : State) (a0 : Array Value) (hw : ∀ (i : Nat) (d : Jvm.Cond), tables_1[i]? = some d → d.before a0 Z = true) (ws : List Jvm.Cond) (h0 : Heap) (n0 : Nat) (p1 p2 : Int32) (r0 r1 r2 r3 r4 r5 r6 r7 r8 r9 r10 : Addr) (hS0 : Sta Z h0 "com/example/loose_columns/loosecolumns/cql/DataType" "TEXT" "Lcom/example/loose_columns/loosecolumns/cql/DataType;" (.ref r0)) (hS1 : Sta Z h0 "com/example/loose_columns/loosecolumns/cql/DataType" "ASCII" "Lcom/example/loose_columns/loosecolumns/cql/DataType;" (.ref r1)) (hS2 : Sta Z h0 "com/example/loose_columns/loosecolumns/cql/DataType" "INT" "Lcom/example/loose_columns/loosecolumns/cql/DataType;" (.ref r2)) (hS3 : Sta Z h0 "com/example/loose_columns/loosecolumns/cql/DataType" "BIGINT" "Lcom/example/loose_columns/loosecolumns/cql/DataType;" (.ref r3)) (hS4 : Sta Z h0 "com/example/loose_columns/loosecolumns/cql/DataType" "FLOAT" "Lcom/example/loose_columns/loosecolumns/cql/DataType;" (.ref r4)) (hS5 : Sta Z h0 "com/example/loose_columns/loosecolumns/cql/DataType" "DOUBLE" "Lcom/example/loose_columns/loosecolumns/cql/DataType;" (.ref r5)) (hS6 : Sta Z h0 "com/example/loose_columns/loosecolumns/cql/DataType" "BOOLEAN" "Lcom/example/loose_columns/loosecolumns/cql/DataType;" (.ref r6)) (hS7 : Sta Z h0 "com/example/loose_columns/loosecolumns/cql/DataType" "TIMESTAMP" "Lcom/example/loose_columns/loosecolumns/cql/DataType;" (.ref r7)) (hS8 : Sta Z h0 "com/example/loose_columns/loosecolumns/cql/DataType" "BLOB" "Lcom/example/loose_columns/loosecolumns/cql/DataType;" (.ref r8)) (hS9 : Sta Z h0 "com/example/loose_columns/loosecolumns/cql/DataType" "UUID" "Lcom/example/loose_columns/loosecolumns/cql/DataType;" (.ref r9)) (hS10 : Sta Z h0 "com/example/loose_columns/loosecolumns/cql/DataType" "TIMEUUID" "Lcom/example/loose_columns/loosecolumns/cql/DataType;" (.ref r10)) (hE0 : Exa Z h0 r0 "com/example/loose_columns/loosecolumns/cql/DataType$1") (hE1 : Exa Z h0 r1 "com/example/loose_columns/loosecolumns/cql/DataType$2") (hE2 : Exa Z h0 r2 "com/example/loose_columns/loosecolumns/cql/DataType$3") (hE3 : Exa Z h0 r3 "com/example/loose_columns/loosecolumns/cql/DataType$4") (hE4 : Exa Z h0 r4 "com/example/loose_columns/loosecolumns/cql/DataType$5") (hE5 : Exa Z h0 r5 "com/example/loose_columns/loosecolumns/cql/DataType$6") (hE6 : Exa Z h0 r6 "com/example/loose_columns/loosecolumns/cql/DataType$7") (hE7 : Exa Z h0 r7 "com/example/loose_columns/loosecolumns/cql/DataType$8") (hE8 : Exa Z h0 r8 "com/example/loose_columns/loosecolumns/cql/DataType$9") (hE9 : Exa Z h0 r9 "com/example/loose_columns/loosecolumns/cql/DataType$10") (hE10 : Exa Z h0 r10 "com/example/loose_columns/loosecolumns/cql/DataType$11") :
    own_Met l Z ws x code maxLocals ret room_1 #[(.int p1), (.int p2)] h0 n0 0 0 (fun v h' => v = some (.int (F0 p1 p2 r0 r1 r2 r3 r4 r5 r6 r7 r8 r9 r10))) := by
  refine own_met (Ls := #[.val (.int p1), .val (.int p2), .unset, .unset, .unset, .unset, .unset]) hw own_pl0 (fun m => by first | (simp [entryFrame, mkF, argsToLocals, Value.category, maxLocals]; done) | rfl) ?_
  intro B H
  refine own_iload_n H rfl at_0 ?_
  refine own_ldcI H (w := 0) rfl at_1 ?_
  refine own_iand H rfl at_3 ?_
  refine own_bipush H (11 : Int32) (by decide) at_4 ?_
  refine own_irem H rfl at_6 (by decide) ?_
  refine own_istore_n H #[.val (.int p1), .val (.int p2), .val (.int ((p1 &&& (2147483647 : Int32)) % (11 : Int32))), .unset, .unset, .unset, .unset] rfl at_7 ?_
  refine own_iload_n H rfl at_8 ?_
  refine own_ldcI H (w := 0) rfl at_9 ?_
  refine own_iand H rfl at_11 ?_
  refine own_bipush H (11 : Int32) (by decide) at_12 ?_
  refine own_irem H rfl at_14 (by decide) ?_
  refine own_istore_n H #[.val (.int p1), .val (.int p2), .val (.int ((p1 &&& (2147483647 : Int32)) % (11 : Int32))), .val (.int ((p2 &&& (2147483647 : Int32)) % (11 : Int32))), .unset, .unset, .unset] rfl at_15 ?_
  refine own_iload_n H rfl at_16 ?_
  refine own_invokestatic H (argsL := [(.int ((p1 &&& (2147483647 : Int32)) % (11 : Int32)))]) (rest := []) (rmPk l Z a0 (own_hw H) h0 n0 ((p1 &&& (2147483647 : Int32)) % (11 : Int32)) r0 r1 r2 r3 r4 r5 r6 r7 r8 r9 r10 hS0 hS1 hS2 hS3 hS4 hS5 hS6 hS7 hS8 hS9 hS10) (w1 := 1) (w2 := 2) (w3 := 3) (w4 := 4) rfl rfl rfl rfl own_pd0 rfl 0 (by decide) rfl (by decide) (Nat.le_of_eq rfl) (by decide) (by decide) (by decide) rfl at_17 ?_
  rintro _ _ ⟨rfl, rfl⟩
  show own_G _ _ _ _ _ _ _ _ 20 #[.val (.int p1), .val (.int p2), .val (.int ((p1 &&& (2147483647 : Int32)) % (11 : Int32))), .val (.int ((p2 &&& (2147483647 : Int32)) % (11 : Int32))), .unset, .unset, .unset] [(.ref (FPk ((p1 &&& (2147483647 : Int32)) % (11 : Int32)) r0 r1 r2 r3 r4 r5 r6 r7 r8 r9 r10))]
  refine own_astore H rfl #[.val (.int p1), .val (.int p2), .val (.int ((p1 &&& (2147483647 : Int32)) % (11 : Int32))), .val (.int ((p2 &&& (2147483647 : Int32)) % (11 : Int32))), .val (.ref (FPk ((p1 &&& (2147483647 : Int32)) % (11 : Int32)) r0 r1 r2 r3 r4 r5 r6 r7 r8 r9 r10)), .unset, .unset] rfl at_20 ?_
  refine own_iload_n H rfl at_22 ?_
  refine own_invokestatic H (argsL := [(.int ((p2 &&& (2147483647 : Int32)) % (11 : Int32)))]) (rest := []) (rmPk l Z a0 (own_hw H) h0 n0 ((p2 &&& (2147483647 : Int32)) % (11 : Int32)) r0 r1 r2 r3 r4 r5 r6 r7 r8 r9 r10 hS0 hS1 hS2 hS3 hS4 hS5 hS6 hS7 hS8 hS9 hS10) (w1 := 1) (w2 := 2) (w3 := 3) (w4 := 4) rfl rfl rfl rfl own_pd0 rfl 0 (by decide) rfl (by decide) (Nat.le_of_eq rfl) (by decide) (by decide) (by decide) rfl at_23 ?_
  rintro _ _ ⟨rfl, rfl⟩
  show own_G _ _ _ _ _ _ _ _ 26 #[.val (.int p1), .val (.int p2), .val (.int ((p1 &&& (2147483647 : Int32)) % (11 : Int32))), .val (.int ((p2 &&& (2147483647 : Int32)) % (11 : Int32))), .val (.ref (FPk ((p1 &&& (2147483647 : Int32)) % (11 : Int32)) r0 r1 r2 r3 r4 r5 r6 r7 r8 r9 r10)), .unset, .unset] [(.ref (FPk ((p2 &&& (2147483647 : Int32)) % (11 : Int32)) r0 r1 r2 r3 r4 r5 r6 r7 r8 r9 r10))]
  refine own_astore H rfl #[.val (.int p1), .val (.int p2), .val (.int ((p1 &&& (2147483647 : Int32)) % (11 : Int32))), .val (.int ((p2 &&& (2147483647 : Int32)) % (11 : Int32))), .val (.ref (FPk ((p1 &&& (2147483647 : Int32)) % (11 : Int32)) r0 r1 r2 r3 r4 r5 r6 r7 r8 r9 r10)), .val (.ref (FPk ((p2 &&& (2147483647 : Int32)) % (11 : Int32)) r0 r1 r2 r3 r4 r5 r6 r7 r8 r9 r10)), .unset] rfl at_26 ?_
  refine own_iload_n H rfl at_28 ?_
  refine own_iload_n H rfl at_29 ?_
  refine own_cut 50 #[.val (.int p1), .val (.int p2), .val (.int ((p1 &&& (2147483647 : Int32)) % (11 : Int32))), .val (.int ((p2 &&& (2147483647 : Int32)) % (11 : Int32))), .val (.ref (FPk ((p1 &&& (2147483647 : Int32)) % (11 : Int32)) r0 r1 r2 r3 r4 r5 r6 r7 r8 r9 r10)), .val (.ref (FPk ((p2 &&& (2147483647 : Int32)) % (11 : Int32)) r0 r1 r2 r3 r4 r5 r6 r7 r8 r9 r10)), .unset] [(.int (if ((p1 &&& (2147483647 : Int32)) % (11 : Int32)) = ((p2 &&& (2147483647 : Int32)) % (11 : Int32)) then (1 : Int32) else (if ((p1 &&& (2147483647 : Int32)) % (11 : Int32)) = (9 : Int32) then (if ((p2 &&& (2147483647 : Int32)) % (11 : Int32)) = (10 : Int32) then (1 : Int32) else (0 : Int32)) else (0 : Int32))))] (fun k6 => ?_) ?_
  ·
    by_cases c1 : ((p1 &&& (2147483647 : Int32)) % (11 : Int32)) = ((p2 &&& (2147483647 : Int32)) % (11 : Int32))
    ·
      refine own_icmpeq_t H (pc' := 45) at_30 (by decide) (by decide) c1 ?_
      refine own_iconst H (1 : Int32) (by decide) at_45 ?_
      refine own_goto H (pc' := 50) at_46 (by decide) (by decide) ?_
      exact own_cast (by simp only [if_pos c1]) (by simp only [if_pos c1]) k6
    ·
      refine own_icmpeq_f H at_30 c1 ?_
      refine own_iload_n H rfl at_33 ?_
      refine own_bipush H (9 : Int32) (by decide) at_34 ?_
      refine own_cut 50 #[.val (.int p1), .val (.int p2), .val (.int ((p1 &&& (2147483647 : Int32)) % (11 : Int32))), .val (.int ((p2 &&& (2147483647 : Int32)) % (11 : Int32))), .val (.ref (FPk ((p1 &&& (2147483647 : Int32)) % (11 : Int32)) r0 r1 r2 r3 r4 r5 r6 r7 r8 r9 r10)), .val (.ref (FPk ((p2 &&& (2147483647 : Int32)) % (11 : Int32)) r0 r1 r2 r3 r4 r5 r6 r7 r8 r9 r10)), .unset] [(.int (if ((p1 &&& (2147483647 : Int32)) % (11 : Int32)) = (9 : Int32) then (if ((p2 &&& (2147483647 : Int32)) % (11 : Int32)) = (10 : Int32) then (1 : Int32) else (0 : Int32)) else (0 : Int32)))] (fun k5 => ?_) ?_
      ·
        by_cases c2 : ((p1 &&& (2147483647 : Int32)) % (11 : Int32)) = (9 : Int32)
        ·
          refine own_icmpne_f H at_36 c2 ?_
          refine own_iload_n H rfl at_39 ?_
          refine own_bipush H (10 : Int32) (by decide) at_40 ?_
          refine own_cut 50 #[.val (.int p1), .val (.int p2), .val (.int ((p1 &&& (2147483647 : Int32)) % (11 : Int32))), .val (.int ((p2 &&& (2147483647 : Int32)) % (11 : Int32))), .val (.ref (FPk ((p1 &&& (2147483647 : Int32)) % (11 : Int32)) r0 r1 r2 r3 r4 r5 r6 r7 r8 r9 r10)), .val (.ref (FPk ((p2 &&& (2147483647 : Int32)) % (11 : Int32)) r0 r1 r2 r3 r4 r5 r6 r7 r8 r9 r10)), .unset] [(.int (if ((p2 &&& (2147483647 : Int32)) % (11 : Int32)) = (10 : Int32) then (1 : Int32) else (0 : Int32)))] (fun k4 => ?_) ?_
          ·
            by_cases c3 : ((p2 &&& (2147483647 : Int32)) % (11 : Int32)) = (10 : Int32)
            ·
              refine own_icmpne_f H at_42 c3 ?_
              refine own_iconst H (1 : Int32) (by decide) at_45 ?_
              refine own_goto H (pc' := 50) at_46 (by decide) (by decide) ?_
              exact own_cast (by simp only [if_pos c3]) (by simp only [if_pos c3]) k4
            ·
              refine own_icmpne_t H (pc' := 49) at_42 (by decide) (by decide) c3 ?_
              refine own_iconst H (0 : Int32) (by decide) at_49 ?_
              exact own_cast (by simp only [if_neg c3]) (by simp only [if_neg c3]) k4
          exact own_cast (by simp only [if_pos c2]) (by simp only [if_pos c2]) k5
        ·
          refine own_icmpne_t H (pc' := 49) at_36 (by decide) (by decide) c2 ?_
          refine own_iconst H (0 : Int32) (by decide) at_49 ?_
          exact own_cast (by simp only [if_neg c2]) (by simp only [if_neg c2]) k5
      exact own_cast (by simp only [if_neg c1]) (by simp only [if_neg c1]) k6
  refine own_istore H #[.val (.int p1), .val (.int p2), .val (.int ((p1 &&& (2147483647 : Int32)) % (11 : Int32))), .val (.int ((p2 &&& (2147483647 : Int32)) % (11 : Int32))), .val (.ref (FPk ((p1 &&& (2147483647 : Int32)) % (11 : Int32)) r0 r1 r2 r3 r4 r5 r6 r7 r8 r9 r10)), .val (.ref (FPk ((p2 &&& (2147483647 : Int32)) % (11 : Int32)) r0 r1 r2 r3 r4 r5 r6 r7 r8 r9 r10)), .val (.int (if ((p1 &&& (2147483647 : Int32)) % (11 : Int32)) = ((p2 &&& (2147483647 : Int32)) % (11 : Int32)) then (1 : Int32) else (if ((p1 &&& (2147483647 : Int32)) % (11 : Int32)) = (9 : Int32) then (if ((p2 &&& (2147483647 : Int32)) % (11 : Int32)) = (10 : Int32) then (1 : Int32) else (0 : Int32)) else (0 : Int32))))] rfl at_50 ?_
  refine own_aload H rfl rfl at_52 ?_
  refine own_aload H rfl rfl at_54 ?_
  obtain ⟨Cx, wx, hEx, hwx⟩ := own_sel (Z := Z) (h := h0) ((p1 &&& (2147483647 : Int32)) % (11 : Int32)) r0 r1 r2 r3 r4 r5 r6 r7 r8 r9 r10 hE0 hE1 hE2 hE3 hE4 hE5 hE6 hE7 hE8 hE9 hE10
  refine own_invokevirtual H (a := (FPk ((p1 &&& (2147483647 : Int32)) % (11 : Int32)) r0 r1 r2 r3 r4 r5 r6 r7 r8 r9 r10)) (argsL := [(.ref (FPk ((p2 &&& (2147483647 : Int32)) % (11 : Int32)) r0 r1 r2 r3 r4 r5 r6 r7 r8 r9 r10))]) (rest := []) (rmTk l Z a0 (own_hw H) h0 n0 (FPk ((p1 &&& (2147483647 : Int32)) % (11 : Int32)) r0 r1 r2 r3 r4 r5 r6 r7 r8 r9 r10) (FPk ((p2 &&& (2147483647 : Int32)) % (11 : Int32)) r0 r1 r2 r3 r4 r5 r6 r7 r8 r9 r10) r9 r10 hS9 hS10) hEx (w1 := 10) (w0 := 11) (w5 := wx) (w2 := 12) (w3 := 6) (w4 := 14) rfl rfl hwx rfl rfl rfl own_pd1 rfl 0 (by decide) rfl (by decide) (Nat.le_of_eq rfl) (by decide) (by decide) (by decide) rfl at_56 ?_
  rintro _ _ ⟨rfl, rfl⟩
  show own_G _ _ _ _ _ _ _ _ 59 #[.val (.int p1), .val (.int p2), .val (.int ((p1 &&& (2147483647 : Int32)) % (11 : Int32))), .val (.int ((p2 &&& (2147483647 : Int32)) % (11 : Int32))), .val (.ref (FPk ((p1 &&& (2147483647 : Int32)) % (11 : Int32)) r0 r1 r2 r3 r4 r5 r6 r7 r8 r9 r10)), .val (.ref (FPk ((p2 &&& (2147483647 : Int32)) % (11 : Int32)) r0 r1 r2 r3 r4 r5 r6 r7 r8 r9 r10)), .val (.int (if ((p1 &&& (2147483647 : Int32)) % (11 : Int32)) = ((p2 &&& (2147483647 : Int32)) % (11 : Int32)) then (1 : Int32) else (if ((p1 &&& (2147483647 : Int32)) % (11 : Int32)) = (9 : Int32) then (if ((p2 &&& (2147483647 : Int32)) % (11 : Int32)) = (10 : Int32) then (1 : Int32) else (0 : Int32)) else (0 : Int32))))] [(.int (FTk (FPk ((p1 &&& (2147483647 : Int32)) % (11 : Int32)) r0 r1 r2 r3 r4 r5 r6 r7 r8 r9 r10) (FPk ((p2 &&& (2147483647 : Int32)) % (11 : Int32)) r0 r1 r2 r3 r4 r5 r6 r7 r8 r9 r10) r9 r10))]
  refine own_iload H rfl at_59 ?_
  by_cases c7 : (FTk (FPk ((p1 &&& (2147483647 : Int32)) % (11 : Int32)) r0 r1 r2 r3 r4 r5 r6 r7 r8 r9 r10) (FPk ((p2 &&& (2147483647 : Int32)) % (11 : Int32)) r0 r1 r2 r3 r4 r5 r6 r7 r8 r9 r10) r9 r10) = (if ((p1 &&& (2147483647 : Int32)) % (11 : Int32)) = ((p2 &&& (2147483647 : Int32)) % (11 : Int32)) then (1 : Int32) else (if ((p1 &&& (2147483647 : Int32)) % (11 : Int32)) = (9 : Int32) then (if ((p2 &&& (2147483647 : Int32)) % (11 : Int32)) = (10 : Int32) then (1 : Int32) else (0 : Int32)) else (0 : Int32)))
  ·
    refine own_icmpne_f H at_61 c7 ?_
    refine own_iconst H (1 : Int32) (by decide) at_64 ?_
    refine own_goto H (pc' := 69) at_65 (by decide) (by decide) ?_
    exact own_ireturn H (by simp) (by decide) at_69 (by decide) (by decide) (by show some _ = some _; rw [F0, if_pos c7])
  ·
    refine own_icmpne_t H (pc' := 68) at_61 (by decide) (by decide) c7 ?_
    refine own_iconst H (0 : Int32) (by decide) at_68 ?_
    exact own_ireturn H (by simp) (by decide) at_69 (by decide) (by decide) (by show some _ = some _; rw [F0, if_neg c7])
theorem own_and31 (p : Int32) : 0 ≤ (p &&& (2147483647 : Int32)).toInt := by
  have h : (p &&& (2147483647 : Int32)).toBitVec.toNat = p.toBitVec.toNat % 2147483648 := by
    have : (p &&& (2147483647 : Int32)).toBitVec.toNat = p.toBitVec.toNat &&& 2147483647 := by
      rw [Int32.toBitVec_and, BitVec.toNat_and]; rfl
    rw [this]
    exact Nat.and_two_pow_sub_one_eq_mod _ 31
  show 0 ≤ (p &&& (2147483647 : Int32)).toBitVec.toInt
  rw [BitVec.toInt_eq_toNat_cond, if_pos (by omega)]
  omega
theorem own_mod (p q : Int32) (hq : 0 < q.toInt) (hq2 : q.toInt < 1000) : 0 ≤ ((p &&& (2147483647 : Int32)) % q).toInt ∧ ((p &&& (2147483647 : Int32)) % q).toInt < q.toInt := by
  have h := own_and31 p
  rw [Int32.toInt_mod, Int.tmod_eq_emod_of_nonneg h]
  exact ⟨Int.emod_nonneg _ (by omega), Int.emod_lt_of_pos _ hq⟩

theorem own_m11 (p : Int32) : (p &&& (2147483647 : Int32)) % (11 : Int32) = (0 : Int32) ∨ (p &&& (2147483647 : Int32)) % (11 : Int32) = (1 : Int32) ∨ (p &&& (2147483647 : Int32)) % (11 : Int32) = (2 : Int32) ∨ (p &&& (2147483647 : Int32)) % (11 : Int32) = (3 : Int32) ∨ (p &&& (2147483647 : Int32)) % (11 : Int32) = (4 : Int32) ∨ (p &&& (2147483647 : Int32)) % (11 : Int32) = (5 : Int32) ∨ (p &&& (2147483647 : Int32)) % (11 : Int32) = (6 : Int32) ∨ (p &&& (2147483647 : Int32)) % (11 : Int32) = (7 : Int32) ∨ (p &&& (2147483647 : Int32)) % (11 : Int32) = (8 : Int32) ∨ (p &&& (2147483647 : Int32)) % (11 : Int32) = (9 : Int32) ∨ (p &&& (2147483647 : Int32)) % (11 : Int32) = (10 : Int32) := by
  obtain ⟨h1, h2⟩ := own_mod p 11 (by decide) (by decide)
  simp only [← Int32.toInt_inj] at *
  have e0 : (0 : Int32).toInt = 0 := by decide
  have e1 : (1 : Int32).toInt = 1 := by decide
  have e2 : (2 : Int32).toInt = 2 := by decide
  have e3 : (3 : Int32).toInt = 3 := by decide
  have e4 : (4 : Int32).toInt = 4 := by decide
  have e5 : (5 : Int32).toInt = 5 := by decide
  have e6 : (6 : Int32).toInt = 6 := by decide
  have e7 : (7 : Int32).toInt = 7 := by decide
  have e8 : (8 : Int32).toInt = 8 := by decide
  have e9 : (9 : Int32).toInt = 9 := by decide
  have e10 : (10 : Int32).toInt = 10 := by decide
  have e11 : (11 : Int32).toInt = 11 := by decide
  omega
theorem own_f0 (r0 r1 r2 r3 r4 r5 r6 r7 r8 r9 r10 : Addr) : FPk (0 : Int32) r0 r1 r2 r3 r4 r5 r6 r7 r8 r9 r10 = r0 := by
  unfold FPk
  rw [if_pos (by decide)]
theorem own_f1 (r0 r1 r2 r3 r4 r5 r6 r7 r8 r9 r10 : Addr) : FPk (1 : Int32) r0 r1 r2 r3 r4 r5 r6 r7 r8 r9 r10 = r1 := by
  unfold FPk
  rw [if_neg (by decide), if_pos (by decide)]
theorem own_f2 (r0 r1 r2 r3 r4 r5 r6 r7 r8 r9 r10 : Addr) : FPk (2 : Int32) r0 r1 r2 r3 r4 r5 r6 r7 r8 r9 r10 = r2 := by
  unfold FPk
  rw [if_neg (by decide), if_neg (by decide), if_pos (by decide)]
theorem own_f3 (r0 r1 r2 r3 r4 r5 r6 r7 r8 r9 r10 : Addr) : FPk (3 : Int32) r0 r1 r2 r3 r4 r5 r6 r7 r8 r9 r10 = r3 := by
  unfold FPk
  rw [if_neg (by decide), if_neg (by decide), if_neg (by decide), if_pos (by decide)]
theorem own_f4 (r0 r1 r2 r3 r4 r5 r6 r7 r8 r9 r10 : Addr) : FPk (4 : Int32) r0 r1 r2 r3 r4 r5 r6 r7 r8 r9 r10 = r4 := by
  unfold FPk
  rw [if_neg (by decide), if_neg (by decide), if_neg (by decide), if_neg (by decide), if_pos (by decide)]
theorem own_f5 (r0 r1 r2 r3 r4 r5 r6 r7 r8 r9 r10 : Addr) : FPk (5 : Int32) r0 r1 r2 r3 r4 r5 r6 r7 r8 r9 r10 = r5 := by
  unfold FPk
  rw [if_neg (by decide), if_neg (by decide), if_neg (by decide), if_neg (by decide), if_neg (by decide), if_pos (by decide)]
theorem own_f6 (r0 r1 r2 r3 r4 r5 r6 r7 r8 r9 r10 : Addr) : FPk (6 : Int32) r0 r1 r2 r3 r4 r5 r6 r7 r8 r9 r10 = r6 := by
  unfold FPk
  rw [if_neg (by decide), if_neg (by decide), if_neg (by decide), if_neg (by decide), if_neg (by decide), if_neg (by decide), if_pos (by decide)]
theorem own_f7 (r0 r1 r2 r3 r4 r5 r6 r7 r8 r9 r10 : Addr) : FPk (7 : Int32) r0 r1 r2 r3 r4 r5 r6 r7 r8 r9 r10 = r7 := by
  unfold FPk
  rw [if_neg (by decide), if_neg (by decide), if_neg (by decide), if_neg (by decide), if_neg (by decide), if_neg (by decide), if_neg (by decide), if_pos (by decide)]
theorem own_f8 (r0 r1 r2 r3 r4 r5 r6 r7 r8 r9 r10 : Addr) : FPk (8 : Int32) r0 r1 r2 r3 r4 r5 r6 r7 r8 r9 r10 = r8 := by
  unfold FPk
  rw [if_neg (by decide), if_neg (by decide), if_neg (by decide), if_neg (by decide), if_neg (by decide), if_neg (by decide), if_neg (by decide), if_neg (by decide), if_pos (by decide)]
theorem own_f9 (r0 r1 r2 r3 r4 r5 r6 r7 r8 r9 r10 : Addr) : FPk (9 : Int32) r0 r1 r2 r3 r4 r5 r6 r7 r8 r9 r10 = r9 := by
  unfold FPk
  rw [if_neg (by decide), if_neg (by decide), if_neg (by decide), if_neg (by decide), if_neg (by decide), if_neg (by decide), if_neg (by decide), if_neg (by decide), if_neg (by decide), if_pos (by decide)]
theorem own_f10 (r0 r1 r2 r3 r4 r5 r6 r7 r8 r9 r10 : Addr) : FPk (10 : Int32) r0 r1 r2 r3 r4 r5 r6 r7 r8 r9 r10 = r10 := by
  unfold FPk
  rw [if_neg (by decide), if_neg (by decide), if_neg (by decide), if_neg (by decide), if_neg (by decide), if_neg (by decide), if_neg (by decide), if_neg (by decide), if_neg (by decide), if_neg (by decide)]
set_option maxHeartbeats 4000000 in
theorem own_inj {Z : State} {h : Heap} (i j : Int32) (hi : i = (0 : Int32) ∨ i = (1 : Int32) ∨ i = (2 : Int32) ∨ i = (3 : Int32) ∨ i = (4 : Int32) ∨ i = (5 : Int32) ∨ i = (6 : Int32) ∨ i = (7 : Int32) ∨ i = (8 : Int32) ∨ i = (9 : Int32) ∨ i = (10 : Int32)) (hj : j = (0 : Int32) ∨ j = (1 : Int32) ∨ j = (2 : Int32) ∨ j = (3 : Int32) ∨ j = (4 : Int32) ∨ j = (5 : Int32) ∨ j = (6 : Int32) ∨ j = (7 : Int32) ∨ j = (8 : Int32) ∨ j = (9 : Int32) ∨ j = (10 : Int32)) (r0 r1 r2 r3 r4 r5 r6 r7 r8 r9 r10 : Addr) (hE0 : Exa Z h r0 "com/example/loose_columns/loosecolumns/cql/DataType$1") (hE1 : Exa Z h r1 "com/example/loose_columns/loosecolumns/cql/DataType$2") (hE2 : Exa Z h r2 "com/example/loose_columns/loosecolumns/cql/DataType$3") (hE3 : Exa Z h r3 "com/example/loose_columns/loosecolumns/cql/DataType$4") (hE4 : Exa Z h r4 "com/example/loose_columns/loosecolumns/cql/DataType$5") (hE5 : Exa Z h r5 "com/example/loose_columns/loosecolumns/cql/DataType$6") (hE6 : Exa Z h r6 "com/example/loose_columns/loosecolumns/cql/DataType$7") (hE7 : Exa Z h r7 "com/example/loose_columns/loosecolumns/cql/DataType$8") (hE8 : Exa Z h r8 "com/example/loose_columns/loosecolumns/cql/DataType$9") (hE9 : Exa Z h r9 "com/example/loose_columns/loosecolumns/cql/DataType$10") (hE10 : Exa Z h r10 "com/example/loose_columns/loosecolumns/cql/DataType$11") : FPk i r0 r1 r2 r3 r4 r5 r6 r7 r8 r9 r10 = FPk j r0 r1 r2 r3 r4 r5 r6 r7 r8 r9 r10 ↔ i = j := by
  rcases hi with rfl | rfl | rfl | rfl | rfl | rfl | rfl | rfl | rfl | rfl | rfl <;> rcases hj with rfl | rfl | rfl | rfl | rfl | rfl | rfl | rfl | rfl | rfl | rfl
  · exact ⟨fun _ => rfl, fun _ => rfl⟩
  · rw [own_f0, own_f1]; exact ⟨fun q => absurd q (ne_exa hE0 hE1 (by decide)), fun q => absurd q (by decide)⟩
  · rw [own_f0, own_f2]; exact ⟨fun q => absurd q (ne_exa hE0 hE2 (by decide)), fun q => absurd q (by decide)⟩
  · rw [own_f0, own_f3]; exact ⟨fun q => absurd q (ne_exa hE0 hE3 (by decide)), fun q => absurd q (by decide)⟩
  · rw [own_f0, own_f4]; exact ⟨fun q => absurd q (ne_exa hE0 hE4 (by decide)), fun q => absurd q (by decide)⟩
  · rw [own_f0, own_f5]; exact ⟨fun q => absurd q (ne_exa hE0 hE5 (by decide)), fun q => absurd q (by decide)⟩
  · rw [own_f0, own_f6]; exact ⟨fun q => absurd q (ne_exa hE0 hE6 (by decide)), fun q => absurd q (by decide)⟩
  · rw [own_f0, own_f7]; exact ⟨fun q => absurd q (ne_exa hE0 hE7 (by decide)), fun q => absurd q (by decide)⟩
  · rw [own_f0, own_f8]; exact ⟨fun q => absurd q (ne_exa hE0 hE8 (by decide)), fun q => absurd q (by decide)⟩
  · rw [own_f0, own_f9]; exact ⟨fun q => absurd q (ne_exa hE0 hE9 (by decide)), fun q => absurd q (by decide)⟩
  · rw [own_f0, own_f10]; exact ⟨fun q => absurd q (ne_exa hE0 hE10 (by decide)), fun q => absurd q (by decide)⟩
  · rw [own_f1, own_f0]; exact ⟨fun q => absurd q (ne_exa hE1 hE0 (by decide)), fun q => absurd q (by decide)⟩
  · exact ⟨fun _ => rfl, fun _ => rfl⟩
  · rw [own_f1, own_f2]; exact ⟨fun q => absurd q (ne_exa hE1 hE2 (by decide)), fun q => absurd q (by decide)⟩
  · rw [own_f1, own_f3]; exact ⟨fun q => absurd q (ne_exa hE1 hE3 (by decide)), fun q => absurd q (by decide)⟩
  · rw [own_f1, own_f4]; exact ⟨fun q => absurd q (ne_exa hE1 hE4 (by decide)), fun q => absurd q (by decide)⟩
  · rw [own_f1, own_f5]; exact ⟨fun q => absurd q (ne_exa hE1 hE5 (by decide)), fun q => absurd q (by decide)⟩
  · rw [own_f1, own_f6]; exact ⟨fun q => absurd q (ne_exa hE1 hE6 (by decide)), fun q => absurd q (by decide)⟩
  · rw [own_f1, own_f7]; exact ⟨fun q => absurd q (ne_exa hE1 hE7 (by decide)), fun q => absurd q (by decide)⟩
  · rw [own_f1, own_f8]; exact ⟨fun q => absurd q (ne_exa hE1 hE8 (by decide)), fun q => absurd q (by decide)⟩
  · rw [own_f1, own_f9]; exact ⟨fun q => absurd q (ne_exa hE1 hE9 (by decide)), fun q => absurd q (by decide)⟩
  · rw [own_f1, own_f10]; exact ⟨fun q => absurd q (ne_exa hE1 hE10 (by decide)), fun q => absurd q (by decide)⟩
  · rw [own_f2, own_f0]; exact ⟨fun q => absurd q (ne_exa hE2 hE0 (by decide)), fun q => absurd q (by decide)⟩
  · rw [own_f2, own_f1]; exact ⟨fun q => absurd q (ne_exa hE2 hE1 (by decide)), fun q => absurd q (by decide)⟩
  · exact ⟨fun _ => rfl, fun _ => rfl⟩
  · rw [own_f2, own_f3]; exact ⟨fun q => absurd q (ne_exa hE2 hE3 (by decide)), fun q => absurd q (by decide)⟩
  · rw [own_f2, own_f4]; exact ⟨fun q => absurd q (ne_exa hE2 hE4 (by decide)), fun q => absurd q (by decide)⟩
  · rw [own_f2, own_f5]; exact ⟨fun q => absurd q (ne_exa hE2 hE5 (by decide)), fun q => absurd q (by decide)⟩
  · rw [own_f2, own_f6]; exact ⟨fun q => absurd q (ne_exa hE2 hE6 (by decide)), fun q => absurd q (by decide)⟩
  · rw [own_f2, own_f7]; exact ⟨fun q => absurd q (ne_exa hE2 hE7 (by decide)), fun q => absurd q (by decide)⟩
  · rw [own_f2, own_f8]; exact ⟨fun q => absurd q (ne_exa hE2 hE8 (by decide)), fun q => absurd q (by decide)⟩
  · rw [own_f2, own_f9]; exact ⟨fun q => absurd q (ne_exa hE2 hE9 (by decide)), fun q => absurd q (by decide)⟩
  · rw [own_f2, own_f10]; exact ⟨fun q => absurd q (ne_exa hE2 hE10 (by decide)), fun q => absurd q (by decide)⟩
  · rw [own_f3, own_f0]; exact ⟨fun q => absurd q (ne_exa hE3 hE0 (by decide)), fun q => absurd q (by decide)⟩
  · rw [own_f3, own_f1]; exact ⟨fun q => absurd q (ne_exa hE3 hE1 (by decide)), fun q => absurd q (by decide)⟩
  · rw [own_f3, own_f2]; exact ⟨fun q => absurd q (ne_exa hE3 hE2 (by decide)), fun q => absurd q (by decide)⟩
  · exact ⟨fun _ => rfl, fun _ => rfl⟩
  · rw [own_f3, own_f4]; exact ⟨fun q => absurd q (ne_exa hE3 hE4 (by decide)), fun q => absurd q (by decide)⟩
  · rw [own_f3, own_f5]; exact ⟨fun q => absurd q (ne_exa hE3 hE5 (by decide)), fun q => absurd q (by decide)⟩
  · rw [own_f3, own_f6]; exact ⟨fun q => absurd q (ne_exa hE3 hE6 (by decide)), fun q => absurd q (by decide)⟩
  · rw [own_f3, own_f7]; exact ⟨fun q => absurd q (ne_exa hE3 hE7 (by decide)), fun q => absurd q (by decide)⟩
  · rw [own_f3, own_f8]; exact ⟨fun q => absurd q (ne_exa hE3 hE8 (by decide)), fun q => absurd q (by decide)⟩
  · rw [own_f3, own_f9]; exact ⟨fun q => absurd q (ne_exa hE3 hE9 (by decide)), fun q => absurd q (by decide)⟩
  · rw [own_f3, own_f10]; exact ⟨fun q => absurd q (ne_exa hE3 hE10 (by decide)), fun q => absurd q (by decide)⟩
  · rw [own_f4, own_f0]; exact ⟨fun q => absurd q (ne_exa hE4 hE0 (by decide)), fun q => absurd q (by decide)⟩
  · rw [own_f4, own_f1]; exact ⟨fun q => absurd q (ne_exa hE4 hE1 (by decide)), fun q => absurd q (by decide)⟩
  · rw [own_f4, own_f2]; exact ⟨fun q => absurd q (ne_exa hE4 hE2 (by decide)), fun q => absurd q (by decide)⟩
  · rw [own_f4, own_f3]; exact ⟨fun q => absurd q (ne_exa hE4 hE3 (by decide)), fun q => absurd q (by decide)⟩
  · exact ⟨fun _ => rfl, fun _ => rfl⟩
  · rw [own_f4, own_f5]; exact ⟨fun q => absurd q (ne_exa hE4 hE5 (by decide)), fun q => absurd q (by decide)⟩
  · rw [own_f4, own_f6]; exact ⟨fun q => absurd q (ne_exa hE4 hE6 (by decide)), fun q => absurd q (by decide)⟩
  · rw [own_f4, own_f7]; exact ⟨fun q => absurd q (ne_exa hE4 hE7 (by decide)), fun q => absurd q (by decide)⟩
  · rw [own_f4, own_f8]; exact ⟨fun q => absurd q (ne_exa hE4 hE8 (by decide)), fun q => absurd q (by decide)⟩
  · rw [own_f4, own_f9]; exact ⟨fun q => absurd q (ne_exa hE4 hE9 (by decide)), fun q => absurd q (by decide)⟩
  · rw [own_f4, own_f10]; exact ⟨fun q => absurd q (ne_exa hE4 hE10 (by decide)), fun q => absurd q (by decide)⟩
  · rw [own_f5, own_f0]; exact ⟨fun q => absurd q (ne_exa hE5 hE0 (by decide)), fun q => absurd q (by decide)⟩
  · rw [own_f5, own_f1]; exact ⟨fun q => absurd q (ne_exa hE5 hE1 (by decide)), fun q => absurd q (by decide)⟩
  · rw [own_f5, own_f2]; exact ⟨fun q => absurd q (ne_exa hE5 hE2 (by decide)), fun q => absurd q (by decide)⟩
  · rw [own_f5, own_f3]; exact ⟨fun q => absurd q (ne_exa hE5 hE3 (by decide)), fun q => absurd q (by decide)⟩
  · rw [own_f5, own_f4]; exact ⟨fun q => absurd q (ne_exa hE5 hE4 (by decide)), fun q => absurd q (by decide)⟩
  · exact ⟨fun _ => rfl, fun _ => rfl⟩
  · rw [own_f5, own_f6]; exact ⟨fun q => absurd q (ne_exa hE5 hE6 (by decide)), fun q => absurd q (by decide)⟩
  · rw [own_f5, own_f7]; exact ⟨fun q => absurd q (ne_exa hE5 hE7 (by decide)), fun q => absurd q (by decide)⟩
  · rw [own_f5, own_f8]; exact ⟨fun q => absurd q (ne_exa hE5 hE8 (by decide)), fun q => absurd q (by decide)⟩
  · rw [own_f5, own_f9]; exact ⟨fun q => absurd q (ne_exa hE5 hE9 (by decide)), fun q => absurd q (by decide)⟩
  · rw [own_f5, own_f10]; exact ⟨fun q => absurd q (ne_exa hE5 hE10 (by decide)), fun q => absurd q (by decide)⟩
  · rw [own_f6, own_f0]; exact ⟨fun q => absurd q (ne_exa hE6 hE0 (by decide)), fun q => absurd q (by decide)⟩
  · rw [own_f6, own_f1]; exact ⟨fun q => absurd q (ne_exa hE6 hE1 (by decide)), fun q => absurd q (by decide)⟩
  · rw [own_f6, own_f2]; exact ⟨fun q => absurd q (ne_exa hE6 hE2 (by decide)), fun q => absurd q (by decide)⟩
  · rw [own_f6, own_f3]; exact ⟨fun q => absurd q (ne_exa hE6 hE3 (by decide)), fun q => absurd q (by decide)⟩
  · rw [own_f6, own_f4]; exact ⟨fun q => absurd q (ne_exa hE6 hE4 (by decide)), fun q => absurd q (by decide)⟩
  · rw [own_f6, own_f5]; exact ⟨fun q => absurd q (ne_exa hE6 hE5 (by decide)), fun q => absurd q (by decide)⟩
  · exact ⟨fun _ => rfl, fun _ => rfl⟩
  · rw [own_f6, own_f7]; exact ⟨fun q => absurd q (ne_exa hE6 hE7 (by decide)), fun q => absurd q (by decide)⟩
  · rw [own_f6, own_f8]; exact ⟨fun q => absurd q (ne_exa hE6 hE8 (by decide)), fun q => absurd q (by decide)⟩
  · rw [own_f6, own_f9]; exact ⟨fun q => absurd q (ne_exa hE6 hE9 (by decide)), fun q => absurd q (by decide)⟩
  · rw [own_f6, own_f10]; exact ⟨fun q => absurd q (ne_exa hE6 hE10 (by decide)), fun q => absurd q (by decide)⟩
  · rw [own_f7, own_f0]; exact ⟨fun q => absurd q (ne_exa hE7 hE0 (by decide)), fun q => absurd q (by decide)⟩
  · rw [own_f7, own_f1]; exact ⟨fun q => absurd q (ne_exa hE7 hE1 (by decide)), fun q => absurd q (by decide)⟩
  · rw [own_f7, own_f2]; exact ⟨fun q => absurd q (ne_exa hE7 hE2 (by decide)), fun q => absurd q (by decide)⟩
  · rw [own_f7, own_f3]; exact ⟨fun q => absurd q (ne_exa hE7 hE3 (by decide)), fun q => absurd q (by decide)⟩
  · rw [own_f7, own_f4]; exact ⟨fun q => absurd q (ne_exa hE7 hE4 (by decide)), fun q => absurd q (by decide)⟩
  · rw [own_f7, own_f5]; exact ⟨fun q => absurd q (ne_exa hE7 hE5 (by decide)), fun q => absurd q (by decide)⟩
  · rw [own_f7, own_f6]; exact ⟨fun q => absurd q (ne_exa hE7 hE6 (by decide)), fun q => absurd q (by decide)⟩
  · exact ⟨fun _ => rfl, fun _ => rfl⟩
  · rw [own_f7, own_f8]; exact ⟨fun q => absurd q (ne_exa hE7 hE8 (by decide)), fun q => absurd q (by decide)⟩
  · rw [own_f7, own_f9]; exact ⟨fun q => absurd q (ne_exa hE7 hE9 (by decide)), fun q => absurd q (by decide)⟩
  · rw [own_f7, own_f10]; exact ⟨fun q => absurd q (ne_exa hE7 hE10 (by decide)), fun q => absurd q (by decide)⟩
  · rw [own_f8, own_f0]; exact ⟨fun q => absurd q (ne_exa hE8 hE0 (by decide)), fun q => absurd q (by decide)⟩
  · rw [own_f8, own_f1]; exact ⟨fun q => absurd q (ne_exa hE8 hE1 (by decide)), fun q => absurd q (by decide)⟩
  · rw [own_f8, own_f2]; exact ⟨fun q => absurd q (ne_exa hE8 hE2 (by decide)), fun q => absurd q (by decide)⟩
  · rw [own_f8, own_f3]; exact ⟨fun q => absurd q (ne_exa hE8 hE3 (by decide)), fun q => absurd q (by decide)⟩
  · rw [own_f8, own_f4]; exact ⟨fun q => absurd q (ne_exa hE8 hE4 (by decide)), fun q => absurd q (by decide)⟩
  · rw [own_f8, own_f5]; exact ⟨fun q => absurd q (ne_exa hE8 hE5 (by decide)), fun q => absurd q (by decide)⟩
  · rw [own_f8, own_f6]; exact ⟨fun q => absurd q (ne_exa hE8 hE6 (by decide)), fun q => absurd q (by decide)⟩
  · rw [own_f8, own_f7]; exact ⟨fun q => absurd q (ne_exa hE8 hE7 (by decide)), fun q => absurd q (by decide)⟩
  · exact ⟨fun _ => rfl, fun _ => rfl⟩
  · rw [own_f8, own_f9]; exact ⟨fun q => absurd q (ne_exa hE8 hE9 (by decide)), fun q => absurd q (by decide)⟩
  · rw [own_f8, own_f10]; exact ⟨fun q => absurd q (ne_exa hE8 hE10 (by decide)), fun q => absurd q (by decide)⟩
  · rw [own_f9, own_f0]; exact ⟨fun q => absurd q (ne_exa hE9 hE0 (by decide)), fun q => absurd q (by decide)⟩
  · rw [own_f9, own_f1]; exact ⟨fun q => absurd q (ne_exa hE9 hE1 (by decide)), fun q => absurd q (by decide)⟩
  · rw [own_f9, own_f2]; exact ⟨fun q => absurd q (ne_exa hE9 hE2 (by decide)), fun q => absurd q (by decide)⟩
  · rw [own_f9, own_f3]; exact ⟨fun q => absurd q (ne_exa hE9 hE3 (by decide)), fun q => absurd q (by decide)⟩
  · rw [own_f9, own_f4]; exact ⟨fun q => absurd q (ne_exa hE9 hE4 (by decide)), fun q => absurd q (by decide)⟩
  · rw [own_f9, own_f5]; exact ⟨fun q => absurd q (ne_exa hE9 hE5 (by decide)), fun q => absurd q (by decide)⟩
  · rw [own_f9, own_f6]; exact ⟨fun q => absurd q (ne_exa hE9 hE6 (by decide)), fun q => absurd q (by decide)⟩
  · rw [own_f9, own_f7]; exact ⟨fun q => absurd q (ne_exa hE9 hE7 (by decide)), fun q => absurd q (by decide)⟩
  · rw [own_f9, own_f8]; exact ⟨fun q => absurd q (ne_exa hE9 hE8 (by decide)), fun q => absurd q (by decide)⟩
  · exact ⟨fun _ => rfl, fun _ => rfl⟩
  · rw [own_f9, own_f10]; exact ⟨fun q => absurd q (ne_exa hE9 hE10 (by decide)), fun q => absurd q (by decide)⟩
  · rw [own_f10, own_f0]; exact ⟨fun q => absurd q (ne_exa hE10 hE0 (by decide)), fun q => absurd q (by decide)⟩
  · rw [own_f10, own_f1]; exact ⟨fun q => absurd q (ne_exa hE10 hE1 (by decide)), fun q => absurd q (by decide)⟩
  · rw [own_f10, own_f2]; exact ⟨fun q => absurd q (ne_exa hE10 hE2 (by decide)), fun q => absurd q (by decide)⟩
  · rw [own_f10, own_f3]; exact ⟨fun q => absurd q (ne_exa hE10 hE3 (by decide)), fun q => absurd q (by decide)⟩
  · rw [own_f10, own_f4]; exact ⟨fun q => absurd q (ne_exa hE10 hE4 (by decide)), fun q => absurd q (by decide)⟩
  · rw [own_f10, own_f5]; exact ⟨fun q => absurd q (ne_exa hE10 hE5 (by decide)), fun q => absurd q (by decide)⟩
  · rw [own_f10, own_f6]; exact ⟨fun q => absurd q (ne_exa hE10 hE6 (by decide)), fun q => absurd q (by decide)⟩
  · rw [own_f10, own_f7]; exact ⟨fun q => absurd q (ne_exa hE10 hE7 (by decide)), fun q => absurd q (by decide)⟩
  · rw [own_f10, own_f8]; exact ⟨fun q => absurd q (ne_exa hE10 hE8 (by decide)), fun q => absurd q (by decide)⟩
  · rw [own_f10, own_f9]; exact ⟨fun q => absurd q (ne_exa hE10 hE9 (by decide)), fun q => absurd q (by decide)⟩
  · exact ⟨fun _ => rfl, fun _ => rfl⟩
theorem own_law {Z : State} {h : Heap} (p1 p2 : Int32) (r0 r1 r2 r3 r4 r5 r6 r7 r8 r9 r10 : Addr) (hE0 : Exa Z h r0 "com/example/loose_columns/loosecolumns/cql/DataType$1") (hE1 : Exa Z h r1 "com/example/loose_columns/loosecolumns/cql/DataType$2") (hE2 : Exa Z h r2 "com/example/loose_columns/loosecolumns/cql/DataType$3") (hE3 : Exa Z h r3 "com/example/loose_columns/loosecolumns/cql/DataType$4") (hE4 : Exa Z h r4 "com/example/loose_columns/loosecolumns/cql/DataType$5") (hE5 : Exa Z h r5 "com/example/loose_columns/loosecolumns/cql/DataType$6") (hE6 : Exa Z h r6 "com/example/loose_columns/loosecolumns/cql/DataType$7") (hE7 : Exa Z h r7 "com/example/loose_columns/loosecolumns/cql/DataType$8") (hE8 : Exa Z h r8 "com/example/loose_columns/loosecolumns/cql/DataType$9") (hE9 : Exa Z h r9 "com/example/loose_columns/loosecolumns/cql/DataType$10") (hE10 : Exa Z h r10 "com/example/loose_columns/loosecolumns/cql/DataType$11") : F0 p1 p2 r0 r1 r2 r3 r4 r5 r6 r7 r8 r9 r10 = 1 := by
  have a1 := own_m11 p1
  have a2 := own_m11 p2
  unfold F0 FTk
  generalize (p1 &&& (2147483647 : Int32)) % (11 : Int32) = i at *
  generalize (p2 &&& (2147483647 : Int32)) % (11 : Int32) = j at *
  have k0 := own_inj j i a2 a1 r0 r1 r2 r3 r4 r5 r6 r7 r8 r9 r10 hE0 hE1 hE2 hE3 hE4 hE5 hE6 hE7 hE8 hE9 hE10
  have k9 := own_inj i 9 a1 (by simp) r0 r1 r2 r3 r4 r5 r6 r7 r8 r9 r10 hE0 hE1 hE2 hE3 hE4 hE5 hE6 hE7 hE8 hE9 hE10
  have k10 := own_inj j 10 a2 (by simp) r0 r1 r2 r3 r4 r5 r6 r7 r8 r9 r10 hE0 hE1 hE2 hE3 hE4 hE5 hE6 hE7 hE8 hE9 hE10
  rw [own_f9] at k9
  rw [own_f10] at k10
  simp only [Value.ref.injEq, k0, k9, k10]
  by_cases q : j = i
  · rw [if_pos q, if_pos q.symm, if_pos rfl]
  · have q' : ¬ i = j := fun z => q z.symm
    rw [if_neg q, if_neg q', if_pos rfl]
set_option maxHeartbeats 40000000 in
theorem comes_1 {Post : Tables → Env → Array Value → State → Outcome → State → Prop} (hpost : ∀ tb e args s v u, (limb_1_1.after args s (.returned v) u = true ∧ limb_1_2.after args s (.returned v) u = true ∧ True) → FrameEnd s (.returned v) u (Jvm.fieldLocs frame_1_writes args s ++ Jvm.arrayLocs frame_1_arrays args s ++ Jvm.staticLocs frame_1_statics s) 0 0 → Post tb e args s (.returned v) u) :
    ArmFor flags0 classFile x code maxLocals ret World_1 tables_1 room_1 Calls_1 rest_1 Pre_1 Post := by
  intro l hfl _ _ p e ha hc hk s m args below hf hA hF happ hP
  obtain ⟨hcalls, hrest, hpre⟩ := hP
  obtain ⟨-, -, -, hnamed, -, -, -, hat⟩ := (Spec.applies_iff hf).mp happ
  obtain ⟨hg, hn⟩ := and_e (Cond.before_iff.mp (show (Jvm.Cond.and given_1 narrow_1).before args s = true from hpre))
  obtain ⟨h1, g0⟩ := and_e hg
  obtain ⟨w0, w1, rfl⟩ : ∃ w0 w1 : Value, args = #[w0, w1] := by
    have hs : args.size = 2 := by simpa [Cond.value, given_1] using h1
    obtain ⟨L⟩ := args
    match L, hs with
    | [w0, w1], _ => exact ⟨w0, w1, rfl⟩
  have hw := fun d (hd : d ∈ tables_1) => atoms_spec (ws := Jvm.Cond.code x code maxLocals ret :: tables_1) hat d (List.mem_cons_of_mem _ hd)
  have hw' : ∀ (i : Nat) (d : Jvm.Cond), tables_1[i]? = some d → d.before _ s = true := fun i d q => hw d (List.mem_of_getElem? q)
  obtain ⟨u0, g1⟩ := and_e g0
  obtain ⟨i0, e0⟩ := is_v u0
  obtain rfl : w0 = (.int i0) := Option.some.inj e0
  obtain ⟨i1, e1⟩ := is_v g1
  obtain rfl : w1 = (.int i1) := Option.some.inj e1
  obtain ⟨hx0, hn0⟩ := and_e hn
  obtain ⟨r0, ev0⟩ := exa_v hx0
  have hE0 := Exa.start ev0 hx0
  have hS0 := Sta.start ev0 (Or.inr ⟨hw' 6 _ rfl, hw' 7 _ rfl⟩)
  obtain ⟨hx3, hn1⟩ := and_e hn0
  obtain ⟨r3, ev3⟩ := exa_v hx3
  have hE3 := Exa.start ev3 hx3
  have hS3 := Sta.start ev3 (Or.inr ⟨hw' 6 _ rfl, hw' 9 _ rfl⟩)
  obtain ⟨hx9, hn2⟩ := and_e hn1
  obtain ⟨r9, ev9⟩ := exa_v hx9
  have hE9 := Exa.start ev9 hx9
  have hS9 := Sta.start ev9 (Or.inr ⟨hw' 6 _ rfl, hw' 16 _ rfl⟩)
  obtain ⟨hx1, hn3⟩ := and_e hn2
  obtain ⟨r1, ev1⟩ := exa_v hx1
  have hE1 := Exa.start ev1 hx1
  have hS1 := Sta.start ev1 (Or.inr ⟨hw' 6 _ rfl, hw' 18 _ rfl⟩)
  obtain ⟨hx10, hn4⟩ := and_e hn3
  obtain ⟨r10, ev10⟩ := exa_v hx10
  have hE10 := Exa.start ev10 hx10
  have hS10 := Sta.start ev10 (Or.inr ⟨hw' 6 _ rfl, hw' 22 _ rfl⟩)
  obtain ⟨hx5, hn5⟩ := and_e hn4
  obtain ⟨r5, ev5⟩ := exa_v hx5
  have hE5 := Exa.start ev5 hx5
  have hS5 := Sta.start ev5 (Or.inr ⟨hw' 6 _ rfl, hw' 26 _ rfl⟩)
  obtain ⟨hx2, hn6⟩ := and_e hn5
  obtain ⟨r2, ev2⟩ := exa_v hx2
  have hE2 := Exa.start ev2 hx2
  have hS2 := Sta.start ev2 (Or.inr ⟨hw' 6 _ rfl, hw' 28 _ rfl⟩)
  obtain ⟨hx6, hn7⟩ := and_e hn6
  obtain ⟨r6, ev6⟩ := exa_v hx6
  have hE6 := Exa.start ev6 hx6
  have hS6 := Sta.start ev6 (Or.inr ⟨hw' 6 _ rfl, hw' 31 _ rfl⟩)
  obtain ⟨hx8, hn8⟩ := and_e hn7
  obtain ⟨r8, ev8⟩ := exa_v hx8
  have hE8 := Exa.start ev8 hx8
  have hS8 := Sta.start ev8 (Or.inr ⟨hw' 6 _ rfl, hw' 34 _ rfl⟩)
  obtain ⟨hx7, hn9⟩ := and_e hn8
  obtain ⟨r7, ev7⟩ := exa_v hx7
  have hE7 := Exa.start ev7 hx7
  have hS7 := Sta.start ev7 (Or.inr ⟨hw' 6 _ rfl, hw' 39 _ rfl⟩)
  obtain ⟨r4, ev4⟩ := exa_v hn9
  have hE4 := Exa.start ev4 hn9
  have hS4 := Sta.start ev4 (Or.inr ⟨hw' 6 _ rfl, hw' 42 _ rfl⟩)
  obtain ⟨n, o, h1, h2, h3, _, L, rfl, ⟨rfl, N⟩, hq⟩ := rm0 l s _ hw' tables_1 s.heap s.heap.size i0 i1 r0 r1 r2 r3 r4 r5 r6 r7 r8 r9 r10 hS0 hS1 hS2 hS3 hS4 hS5 hS6 hS7 hS8 hS9 hS10 hE0 hE1 hE2 hE3 hE4 hE5 hE6 hE7 hE8 hE9 hE10 p e ha hc hk s m _ below hf ((Spec.applies_iff_loose hf).mp happ).1 ⟨rfl, State.Warmed39.refl s, rfl⟩ trivial
  refine ⟨n, _, h1, h2, h3, hpost _ _ _ _ _ _ ⟨Cond.after_iff.mpr rfl, Cond.after_iff.mpr (eq_i res_at (Term.int_eval (1)) (by rw [own_law i0 i1 r0 r1 r2 r3 r4 r5 r6 r7 r8 r9 r10 hE0 hE1 hE2 hE3 hE4 hE5 hE6 hE7 hE8 hE9 hE10])), trivial⟩ ⟨hq.1, hq.2.1, (hq.2.2.sift fun y hy => Or.inr (N y hy)).mono (by decide) (by decide)⟩⟩
theorem main_1_1 : Claimed_1_1 := comes_1 fun _ _ _ _ _ _ h hF => ⟨h.1, hF⟩
theorem main_1_2 : Claimed_1_2 := comes_1 fun _ _ _ _ _ _ h hF => ⟨h.2.1, hF⟩
end Jvm.Pilot.@@N@@
namespace Jvm.Pilot.@@N@@
open Jvm Jvm.ClassFile Sem Op Lib Jvm.Free Jvm.Stand Jvm.Pilot.@@N@@.Jvm.D
/-! MADE BY PROGRAM (witnessworld.py) out of the Statement's table words and the real class files: 24 classes; the members and pool entries that the words name. The judged class is class 1, her method 2. -/
namespace start1
open Jvm.ClassFile
def u (s : String) : CpInfo := .utf8 (stringToUtf16 s)
/-- a pool by its gaps: so many unusable entries, then the entry; so many at the end -/
def gap : Nat → List CpInfo → List CpInfo
  | 0, r => r
  | n + 1, r => .unusable :: gap n r
def poolList (es : List (Nat × CpInfo)) (last : Nat) : List CpInfo := es.foldr (fun e r => gap e.1 (e.2 :: r)) (gap last [])
def pool (es : List (Nat × CpInfo)) (last : Nat) : Array CpInfo := ⟨poolList es last⟩
def fileOf (pool : Array CpInfo) (this : Nat) (attrs : Array Attribute := #[]) (ms : Array MethodInfo := #[]) (fl : Nat := 33) (sup : Nat := 0) (ifs : Array Nat := #[]) (fds : Array FieldInfo := #[]) : ClassFile where
  minorVersion := 0
  majorVersion := 65
  constantPool := pool
  accessFlags := fl
  thisClass := this
  superClass := sup
  interfaces := ifs
  fields := fds
  methods := ms
  attributes := attrs
def plain (name : String) (sup : Option ClassId) : Class where
  name := name
  kind := .ordinary
  loader := none
  accessFlags := 33
  super := sup
  interfaces := #[]
  cf := none
  fields := #[]
  methods := #[]
  instanceTypes := #[]
  staticTypes := #[]
  resolved := #[]
  callSites := []
  init := .initialized
  statics := none
  mirror := none

def pool0 : Array CpInfo := pool [(5, u "<init>"), (0, u "()V"), (1, .class_ 10), (1, u "java/lang/Object")] 113

def k0m0 : Method := { name := "<init>", desc := "()V", sig := { parameters := [], returnType := none }, accessFlags := 1, code := none }
/-- java/lang/Object -/
def k0 : Class := { plain "java/lang/Object" none with
  accessFlags := 33
  interfaces := #[]
  cf := some (fileOf pool0 8 #[] #[{ accessFlags := 1, nameIndex := 5, descriptorIndex := 6, attributes := #[] }] 33 0 #[] #[])
  fields := #[]
  methods := #[k0m0]
  instanceTypes := #[]
  staticTypes := #[]
  resolved := Array.replicate 124 none
  statics := none }

def pool1 : Array CpInfo := pool [(2, .class_ 4), (1, u "java/lang/Object"), (0, u "<init>"), (0, u "()V"), (0, .fieldref 8 9), (0, .class_ 10), (0, .nameAndType 11 12), (0, u "com/example/loose_columns/loosecolumns/cql/DataType"), (0, u "TEXT"), (0, u "Lcom/example/loose_columns/loosecolumns/cql/DataType;"), (0, .fieldref 8 14), (0, .nameAndType 15 12), (0, u "ASCII"), (0, .fieldref 8 17), (0, .nameAndType 18 12), (0, u "INT"), (0, .fieldref 8 20), (0, .nameAndType 21 12), (0, u "BIGINT"), (0, .fieldref 8 23), (0, .nameAndType 24 12), (0, u "FLOAT"), (0, .fieldref 8 26), (0, .nameAndType 27 12), (0, u "DOUBLE"), (0, .fieldref 8 29), (0, .nameAndType 30 12), (0, u "BOOLEAN"), (0, .fieldref 8 32), (0, .nameAndType 33 12), (0, u "TIMESTAMP"), (0, .fieldref 8 35), (0, .nameAndType 36 12), (0, u "BLOB"), (0, .fieldref 8 38), (0, .nameAndType 39 12), (0, u "UUID"), (0, .fieldref 8 41), (0, .nameAndType 42 12), (0, u "TIMEUUID"), (0, .integer 2147483647), (0, .methodref 45 46), (0, .class_ 47), (0, .nameAndType 48 49), (0, u "com/example/loose_columns/loosecolumns/cql/DataTypeTakesPinLaw"), (0, u "pick"), (0, u "(I)Lcom/example/loose_columns/loosecolumns/cql/DataType;"), (0, .methodref 8 51), (0, .nameAndType 52 53), (0, u "takes"), (0, u "(Lcom/example/loose_columns/loosecolumns/cql/DataType;)Z"), (3, u "law"), (0, u "(II)Z")] 2

def k1m0 : Method := { name := "<init>", desc := "()V", sig := { parameters := [], returnType := none }, accessFlags := 2, code := none }
def k1c1 : Code := { maxStack := 2, maxLocals := 1, code := method_2_code, exceptionTable := #[], attributes := #[] }
def k1m1 : Method := { name := "pick", desc := "(I)Lcom/example/loose_columns/loosecolumns/cql/DataType;", sig := { parameters := [.int], returnType := some (.object "com/example/loose_columns/loosecolumns/cql/DataType") }, accessFlags := 10, code := some k1c1 }
def k1c2 : Code := { maxStack := 2, maxLocals := 7, code := code, exceptionTable := #[], attributes := #[] }
def k1m2 : Method := { name := "law", desc := "(II)Z", sig := { parameters := [.int, .int], returnType := some .boolean }, accessFlags := 9, code := some k1c2 }
/-- com/example/loose_columns/loosecolumns/cql/DataTypeTakesPinLaw -/
def k1 : Class := { plain "com/example/loose_columns/loosecolumns/cql/DataTypeTakesPinLaw" (some 0) with
  accessFlags := 49
  interfaces := #[]
  cf := some (fileOf pool1 45 #[] #[{ accessFlags := 2, nameIndex := 5, descriptorIndex := 6, attributes := #[] }, { accessFlags := 10, nameIndex := 48, descriptorIndex := 49, attributes := #[] }, { accessFlags := 9, nameIndex := 57, descriptorIndex := 58, attributes := #[] }] 49 2 #[] #[])
  fields := #[]
  methods := #[k1m0, k1m1, k1m2]
  instanceTypes := #[]
  staticTypes := #[]
  resolved := Array.replicate 61 none
  statics := none }

def pool2 : Array CpInfo := pool [(1, .class_ 2), (0, u "java/lang/constant/Constable"), (0, .class_ 4), (0, u "java/lang/Object")] 6

/-- java/lang/constant/Constable -/
def k2 : Class := { plain "java/lang/constant/Constable" (some 0) with
  accessFlags := 1537
  interfaces := #[]
  cf := some (fileOf pool2 1 #[] #[] 1537 3 #[] #[])
  fields := #[]
  methods := #[]
  instanceTypes := #[]
  staticTypes := #[]
  resolved := Array.replicate 11 none
  statics := none }

def pool3 : Array CpInfo := pool [(1, .class_ 2), (0, u "java/lang/Comparable"), (0, .class_ 4), (0, u "java/lang/Object")] 7

/-- java/lang/Comparable -/
def k3 : Class := { plain "java/lang/Comparable" (some 0) with
  accessFlags := 1537
  interfaces := #[]
  cf := some (fileOf pool3 1 #[] #[] 1537 3 #[] #[])
  fields := #[]
  methods := #[]
  instanceTypes := #[]
  staticTypes := #[]
  resolved := Array.replicate 12 none
  statics := none }

def pool4 : Array CpInfo := pool [(1, .class_ 2), (0, u "java/io/Serializable"), (0, .class_ 4), (0, u "java/lang/Object")] 2

/-- java/io/Serializable -/
def k4 : Class := { plain "java/io/Serializable" (some 0) with
  accessFlags := 1537
  interfaces := #[]
  cf := some (fileOf pool4 1 #[] #[] 1537 3 #[] #[])
  fields := #[]
  methods := #[]
  instanceTypes := #[]
  staticTypes := #[]
  resolved := Array.replicate 7 none
  statics := none }

def pool5 : Array CpInfo := pool [(2, .class_ 4), (1, u "java/lang/Enum"), (0, u "name"), (0, u "Ljava/lang/String;"), (2, u "ordinal"), (0, u "I"), (1, .class_ 14), (1, u "java/lang/Object"), (4, u "hash"), (86, .class_ 108), (1, u "java/lang/Enum$EnumDesc"), (2, .class_ 112), (0, u "java/lang/constant/Constable"), (0, .class_ 114), (0, u "java/lang/Comparable"), (0, .class_ 116), (0, u "java/io/Serializable")] 87

/-- java/lang/Enum -/
def k5 : Class := { plain "java/lang/Enum" (some 0) with
  accessFlags := 1057
  interfaces := #[2, 3, 4]
  cf := some (fileOf pool5 2 #[.nestMembers #[106]] #[] 1057 12 #[111, 113, 115] #[{ accessFlags := 18, nameIndex := 5, descriptorIndex := 6, attributes := #[] }, { accessFlags := 18, nameIndex := 9, descriptorIndex := 10, attributes := #[] }, { accessFlags := 2, nameIndex := 19, descriptorIndex := 10, attributes := #[] }])
  fields := #[{ name := "name", type := (.object "java/lang/String"), accessFlags := 18, slot := 0, constantValue := 0 }, { name := "ordinal", type := .int, accessFlags := 18, slot := 1, constantValue := 0 }, { name := "hash", type := .int, accessFlags := 2, slot := 2, constantValue := 0 }]
  methods := #[]
  instanceTypes := #[(.object "java/lang/String"), .int, .int]
  staticTypes := #[]
  resolved := Array.replicate 204 none
  statics := none }

def pool6 : Array CpInfo := pool [(1, .class_ 2), (0, u "com/example/loose_columns/loosecolumns/cql/CqlType"), (0, .class_ 4), (0, u "java/lang/Object"), (5, .class_ 11), (0, u "com/example/loose_columns/loosecolumns/cql/CqlType$ListOf")] 5

/-- com/example/loose_columns/loosecolumns/cql/CqlType -/
def k6 : Class := { plain "com/example/loose_columns/loosecolumns/cql/CqlType" (some 0) with
  accessFlags := 1537
  interfaces := #[]
  cf := some (fileOf pool6 1 #[.nestMembers #[10]] #[] 1537 3 #[] #[])
  fields := #[]
  methods := #[]
  instanceTypes := #[]
  staticTypes := #[]
  resolved := Array.replicate 17 none
  statics := none }

def pool7 : Array CpInfo := pool [(1, .class_ 2), (0, u "com/example/loose_columns/loosecolumns/cql/DataType"), (2, u "TEXT"), (0, u "Lcom/example/loose_columns/loosecolumns/cql/DataType;"), (2, u "ASCII"), (2, u "INT"), (2, u "BIGINT"), (2, u "FLOAT"), (2, u "DOUBLE"), (2, u "BOOLEAN"), (2, u "TIMESTAMP"), (2, u "BLOB"), (0, .fieldref 1 32), (0, .nameAndType 33 6), (0, u "UUID"), (0, .fieldref 1 35), (0, .nameAndType 36 6), (0, u "TIMEUUID"), (2, u "$VALUES"), (0, u "[Lcom/example/loose_columns/loosecolumns/cql/DataType;"), (6, .class_ 49), (1, u "java/lang/Enum"), (8, u "optionId"), (0, u "I"), (2, u "kinds"), (0, u "Ljava/util/Set;"), (8, u "names"), (0, u "Ljava/util/List;"), (191, .class_ 266), (0, u "com/example/loose_columns/loosecolumns/cql/DataType$1"), (12, .class_ 280), (0, u "com/example/loose_columns/loosecolumns/cql/DataType$2"), (4, .class_ 286), (0, u "com/example/loose_columns/loosecolumns/cql/DataType$3"), (7, .class_ 295), (0, u "com/example/loose_columns/loosecolumns/cql/DataType$4"), (4, .class_ 301), (0, u "com/example/loose_columns/loosecolumns/cql/DataType$5"), (10, .class_ 313), (0, u "com/example/loose_columns/loosecolumns/cql/DataType$6"), (4, .class_ 319), (0, u "com/example/loose_columns/loosecolumns/cql/DataType$7"), (6, .class_ 327), (0, u "com/example/loose_columns/loosecolumns/cql/DataType$8"), (4, .class_ 333), (0, u "com/example/loose_columns/loosecolumns/cql/DataType$9"), (3, u "HEX"), (3, .class_ 342), (0, u "com/example/loose_columns/loosecolumns/cql/DataType$10"), (6, .class_ 350), (0, u "com/example/loose_columns/loosecolumns/cql/DataType$11"), (14, u "Ljava/util/HexFormat;"), (0, .class_ 367), (0, u "com/example/loose_columns/loosecolumns/cql/CqlType"), (11, u "takes"), (0, u "(Lcom/example/loose_columns/loosecolumns/cql/DataType;)Z")] 47

def k7c0 : Code := { maxStack := 2, maxLocals := 2, code := prog_12_method_6_code, exceptionTable := #[], attributes := #[] }
def k7m0 : Method := { name := "takes", desc := "(Lcom/example/loose_columns/loosecolumns/cql/DataType;)Z", sig := { parameters := [(.object "com/example/loose_columns/loosecolumns/cql/DataType")], returnType := some .boolean }, accessFlags := 1, code := some k7c0 }
/-- com/example/loose_columns/loosecolumns/cql/DataType -/
def k7 : Class := { plain "com/example/loose_columns/loosecolumns/cql/DataType" (some 5) with
  accessFlags := 17441
  interfaces := #[6]
  cf := some (fileOf pool7 1 #[.nestMembers #[349, 341, 332, 326, 318, 312, 300, 294, 285, 279, 265]] #[{ accessFlags := 1, nameIndex := 379, descriptorIndex := 380, attributes := #[] }] 17441 47 #[366] #[{ accessFlags := 16409, nameIndex := 5, descriptorIndex := 6, attributes := #[] }, { accessFlags := 16409, nameIndex := 9, descriptorIndex := 6, attributes := #[] }, { accessFlags := 16409, nameIndex := 12, descriptorIndex := 6, attributes := #[] }, { accessFlags := 16409, nameIndex := 15, descriptorIndex := 6, attributes := #[] }, { accessFlags := 16409, nameIndex := 18, descriptorIndex := 6, attributes := #[] }, { accessFlags := 16409, nameIndex := 21, descriptorIndex := 6, attributes := #[] }, { accessFlags := 16409, nameIndex := 24, descriptorIndex := 6, attributes := #[] }, { accessFlags := 16409, nameIndex := 27, descriptorIndex := 6, attributes := #[] }, { accessFlags := 16409, nameIndex := 30, descriptorIndex := 6, attributes := #[] }, { accessFlags := 16409, nameIndex := 33, descriptorIndex := 6, attributes := #[] }, { accessFlags := 16409, nameIndex := 36, descriptorIndex := 6, attributes := #[] }, { accessFlags := 26, nameIndex := 337, descriptorIndex := 365, attributes := #[] }, { accessFlags := 18, nameIndex := 58, descriptorIndex := 59, attributes := #[] }, { accessFlags := 18, nameIndex := 62, descriptorIndex := 63, attributes := #[] }, { accessFlags := 18, nameIndex := 72, descriptorIndex := 73, attributes := #[] }, { accessFlags := 4122, nameIndex := 39, descriptorIndex := 40, attributes := #[] }])
  fields := #[{ name := "TEXT", type := (.object "com/example/loose_columns/loosecolumns/cql/DataType"), accessFlags := 16409, slot := 0, constantValue := 0 }, { name := "ASCII", type := (.object "com/example/loose_columns/loosecolumns/cql/DataType"), accessFlags := 16409, slot := 1, constantValue := 0 }, { name := "INT", type := (.object "com/example/loose_columns/loosecolumns/cql/DataType"), accessFlags := 16409, slot := 2, constantValue := 0 }, { name := "BIGINT", type := (.object "com/example/loose_columns/loosecolumns/cql/DataType"), accessFlags := 16409, slot := 3, constantValue := 0 }, { name := "FLOAT", type := (.object "com/example/loose_columns/loosecolumns/cql/DataType"), accessFlags := 16409, slot := 4, constantValue := 0 }, { name := "DOUBLE", type := (.object "com/example/loose_columns/loosecolumns/cql/DataType"), accessFlags := 16409, slot := 5, constantValue := 0 }, { name := "BOOLEAN", type := (.object "com/example/loose_columns/loosecolumns/cql/DataType"), accessFlags := 16409, slot := 6, constantValue := 0 }, { name := "TIMESTAMP", type := (.object "com/example/loose_columns/loosecolumns/cql/DataType"), accessFlags := 16409, slot := 7, constantValue := 0 }, { name := "BLOB", type := (.object "com/example/loose_columns/loosecolumns/cql/DataType"), accessFlags := 16409, slot := 8, constantValue := 0 }, { name := "UUID", type := (.object "com/example/loose_columns/loosecolumns/cql/DataType"), accessFlags := 16409, slot := 9, constantValue := 0 }, { name := "TIMEUUID", type := (.object "com/example/loose_columns/loosecolumns/cql/DataType"), accessFlags := 16409, slot := 10, constantValue := 0 }, { name := "HEX", type := (.object "java/util/HexFormat"), accessFlags := 26, slot := 11, constantValue := 0 }, { name := "optionId", type := .int, accessFlags := 18, slot := 3, constantValue := 0 }, { name := "kinds", type := (.object "java/util/Set"), accessFlags := 18, slot := 4, constantValue := 0 }, { name := "names", type := (.object "java/util/List"), accessFlags := 18, slot := 5, constantValue := 0 }, { name := "$VALUES", type := (.array (.object "com/example/loose_columns/loosecolumns/cql/DataType")), accessFlags := 4122, slot := 12, constantValue := 0 }]
  methods := #[k7m0]
  instanceTypes := #[(.object "java/lang/String"), .int, .int, .int, (.object "java/util/Set"), (.object "java/util/List")]
  staticTypes := #[(.object "com/example/loose_columns/loosecolumns/cql/DataType"), (.object "com/example/loose_columns/loosecolumns/cql/DataType"), (.object "com/example/loose_columns/loosecolumns/cql/DataType"), (.object "com/example/loose_columns/loosecolumns/cql/DataType"), (.object "com/example/loose_columns/loosecolumns/cql/DataType"), (.object "com/example/loose_columns/loosecolumns/cql/DataType"), (.object "com/example/loose_columns/loosecolumns/cql/DataType"), (.object "com/example/loose_columns/loosecolumns/cql/DataType"), (.object "com/example/loose_columns/loosecolumns/cql/DataType"), (.object "com/example/loose_columns/loosecolumns/cql/DataType"), (.object "com/example/loose_columns/loosecolumns/cql/DataType"), (.object "java/util/HexFormat"), (.array (.object "com/example/loose_columns/loosecolumns/cql/DataType"))]
  resolved := Array.replicate 428 none
  statics := some 0 }

def pool8 : Array CpInfo := pool [(2, .class_ 4), (1, u "com/example/loose_columns/loosecolumns/cql/DataType"), (27, .class_ 34), (1, u "com/example/loose_columns/loosecolumns/cql/DataType$1")] 22

/-- com/example/loose_columns/loosecolumns/cql/DataType$1 -/
def k8 : Class := { plain "com/example/loose_columns/loosecolumns/cql/DataType$1" (some 7) with
  accessFlags := 16432
  interfaces := #[]
  cf := some (fileOf pool8 32 #[.nestHost 2] #[] 16432 2 #[] #[])
  fields := #[]
  methods := #[]
  instanceTypes := #[(.object "java/lang/String"), .int, .int, .int, (.object "java/util/Set"), (.object "java/util/List")]
  staticTypes := #[]
  resolved := Array.replicate 57 none
  statics := none }

def pool9 : Array CpInfo := pool [(2, .class_ 4), (1, u "com/example/loose_columns/loosecolumns/cql/DataType"), (3, .class_ 10), (1, u "com/example/loose_columns/loosecolumns/cql/DataType$4")] 55

/-- com/example/loose_columns/loosecolumns/cql/DataType$4 -/
def k9 : Class := { plain "com/example/loose_columns/loosecolumns/cql/DataType$4" (some 7) with
  accessFlags := 16432
  interfaces := #[]
  cf := some (fileOf pool9 8 #[.nestHost 2] #[] 16432 2 #[] #[])
  fields := #[]
  methods := #[]
  instanceTypes := #[(.object "java/lang/String"), .int, .int, .int, (.object "java/util/Set"), (.object "java/util/List")]
  staticTypes := #[]
  resolved := Array.replicate 66 none
  statics := none }

def pool10 : Array CpInfo := pool [(2, .class_ 4), (1, u "com/example/loose_columns/loosecolumns/cql/DataType"), (21, .class_ 28), (1, u "com/example/loose_columns/loosecolumns/cql/DataType$10")] 24

/-- com/example/loose_columns/loosecolumns/cql/DataType$10 -/
def k10 : Class := { plain "com/example/loose_columns/loosecolumns/cql/DataType$10" (some 7) with
  accessFlags := 16432
  interfaces := #[]
  cf := some (fileOf pool10 26 #[.nestHost 2] #[] 16432 2 #[] #[])
  fields := #[]
  methods := #[]
  instanceTypes := #[(.object "java/lang/String"), .int, .int, .int, (.object "java/util/Set"), (.object "java/util/List")]
  staticTypes := #[]
  resolved := Array.replicate 53 none
  statics := none }

def pool11 : Array CpInfo := pool [(2, .class_ 4), (1, u "com/example/loose_columns/loosecolumns/cql/DataType"), (19, .class_ 26), (1, u "com/example/loose_columns/loosecolumns/cql/DataType$6")] 62

/-- com/example/loose_columns/loosecolumns/cql/DataType$6 -/
def k11 : Class := { plain "com/example/loose_columns/loosecolumns/cql/DataType$6" (some 7) with
  accessFlags := 16432
  interfaces := #[]
  cf := some (fileOf pool11 24 #[.nestHost 2] #[] 16432 2 #[] #[])
  fields := #[]
  methods := #[]
  instanceTypes := #[(.object "java/lang/String"), .int, .int, .int, (.object "java/util/Set"), (.object "java/util/List")]
  staticTypes := #[]
  resolved := Array.replicate 89 none
  statics := none }

def pool12 : Array CpInfo := pool [(2, .class_ 4), (1, u "com/example/loose_columns/loosecolumns/cql/DataType"), (29, .class_ 36), (1, u "com/example/loose_columns/loosecolumns/cql/DataType$7")] 35

/-- com/example/loose_columns/loosecolumns/cql/DataType$7 -/
def k12 : Class := { plain "com/example/loose_columns/loosecolumns/cql/DataType$7" (some 7) with
  accessFlags := 16432
  interfaces := #[]
  cf := some (fileOf pool12 34 #[.nestHost 2] #[] 16432 2 #[] #[])
  fields := #[]
  methods := #[]
  instanceTypes := #[(.object "java/lang/String"), .int, .int, .int, (.object "java/util/Set"), (.object "java/util/List")]
  staticTypes := #[]
  resolved := Array.replicate 72 none
  statics := none }

def pool13 : Array CpInfo := pool [(2, .class_ 4), (1, u "com/example/loose_columns/loosecolumns/cql/DataType"), (21, .class_ 28), (1, u "com/example/loose_columns/loosecolumns/cql/DataType$9")] 74

/-- com/example/loose_columns/loosecolumns/cql/DataType$9 -/
def k13 : Class := { plain "com/example/loose_columns/loosecolumns/cql/DataType$9" (some 7) with
  accessFlags := 16432
  interfaces := #[]
  cf := some (fileOf pool13 26 #[.nestHost 2] #[] 16432 2 #[] #[])
  fields := #[]
  methods := #[]
  instanceTypes := #[(.object "java/lang/String"), .int, .int, .int, (.object "java/util/Set"), (.object "java/util/List")]
  staticTypes := #[]
  resolved := Array.replicate 103 none
  statics := none }

def pool14 : Array CpInfo := pool [(2, .class_ 4), (1, u "com/example/loose_columns/loosecolumns/cql/DataType"), (27, .class_ 34), (1, u "com/example/loose_columns/loosecolumns/cql/DataType$2")] 65

/-- com/example/loose_columns/loosecolumns/cql/DataType$2 -/
def k14 : Class := { plain "com/example/loose_columns/loosecolumns/cql/DataType$2" (some 7) with
  accessFlags := 16432
  interfaces := #[]
  cf := some (fileOf pool14 32 #[.nestHost 2] #[] 16432 2 #[] #[])
  fields := #[]
  methods := #[]
  instanceTypes := #[(.object "java/lang/String"), .int, .int, .int, (.object "java/util/Set"), (.object "java/util/List")]
  staticTypes := #[]
  resolved := Array.replicate 100 none
  statics := none }

def pool15 : Array CpInfo := pool [(2, .class_ 4), (1, u "com/example/loose_columns/loosecolumns/cql/DataType"), (17, .class_ 24), (1, u "com/example/loose_columns/loosecolumns/cql/DataType$3")] 53

/-- com/example/loose_columns/loosecolumns/cql/DataType$3 -/
def k15 : Class := { plain "com/example/loose_columns/loosecolumns/cql/DataType$3" (some 7) with
  accessFlags := 16432
  interfaces := #[]
  cf := some (fileOf pool15 22 #[.nestHost 2] #[] 16432 2 #[] #[])
  fields := #[]
  methods := #[]
  instanceTypes := #[(.object "java/lang/String"), .int, .int, .int, (.object "java/util/Set"), (.object "java/util/List")]
  staticTypes := #[]
  resolved := Array.replicate 78 none
  statics := none }

def pool16 : Array CpInfo := pool [(2, .class_ 4), (1, u "com/example/loose_columns/loosecolumns/cql/DataType"), (3, .class_ 10), (1, u "com/example/loose_columns/loosecolumns/cql/DataType$11")] 71

/-- com/example/loose_columns/loosecolumns/cql/DataType$11 -/
def k16 : Class := { plain "com/example/loose_columns/loosecolumns/cql/DataType$11" (some 7) with
  accessFlags := 16432
  interfaces := #[]
  cf := some (fileOf pool16 8 #[.nestHost 2] #[] 16432 2 #[] #[])
  fields := #[]
  methods := #[]
  instanceTypes := #[(.object "java/lang/String"), .int, .int, .int, (.object "java/util/Set"), (.object "java/util/List")]
  staticTypes := #[]
  resolved := Array.replicate 82 none
  statics := none }

def pool17 : Array CpInfo := pool [(2, .class_ 4), (1, u "com/example/loose_columns/loosecolumns/cql/DataType"), (15, .class_ 22), (1, u "com/example/loose_columns/loosecolumns/cql/DataType$8")] 111

/-- com/example/loose_columns/loosecolumns/cql/DataType$8 -/
def k17 : Class := { plain "com/example/loose_columns/loosecolumns/cql/DataType$8" (some 7) with
  accessFlags := 16432
  interfaces := #[]
  cf := some (fileOf pool17 20 #[.nestHost 2] #[] 16432 2 #[] #[])
  fields := #[]
  methods := #[]
  instanceTypes := #[(.object "java/lang/String"), .int, .int, .int, (.object "java/util/Set"), (.object "java/util/List")]
  staticTypes := #[]
  resolved := Array.replicate 134 none
  statics := none }

def pool18 : Array CpInfo := pool [(2, .class_ 4), (1, u "com/example/loose_columns/loosecolumns/cql/DataType"), (19, .class_ 26), (1, u "com/example/loose_columns/loosecolumns/cql/DataType$5")] 62

/-- com/example/loose_columns/loosecolumns/cql/DataType$5 -/
def k18 : Class := { plain "com/example/loose_columns/loosecolumns/cql/DataType$5" (some 7) with
  accessFlags := 16432
  interfaces := #[]
  cf := some (fileOf pool18 24 #[.nestHost 2] #[] 16432 2 #[] #[])
  fields := #[]
  methods := #[]
  instanceTypes := #[(.object "java/lang/String"), .int, .int, .int, (.object "java/util/Set"), (.object "java/util/List")]
  staticTypes := #[]
  resolved := Array.replicate 89 none
  statics := none }

def pool19 : Array CpInfo := pool [(1, u "java/lang/Cloneable"), (0, .class_ 1), (0, u "java/lang/Object"), (0, .class_ 3)] 3

/-- java/lang/Cloneable -/
def k19 : Class := { plain "java/lang/Cloneable" (some 0) with
  accessFlags := 1537
  interfaces := #[]
  cf := some (fileOf pool19 2 #[] #[] 1537 4 #[] #[])
  fields := #[]
  methods := #[]
  instanceTypes := #[]
  staticTypes := #[]
  resolved := Array.replicate 8 none
  statics := none }

/-- the primitive byte -/
def k20 : Class := { plain "byte" none with kind := .primitive 'B', accessFlags := 0x411 }
/-- [B -/
def k21 : Class := { plain "[B" (some 0) with kind := .array 20 .byte, interfaces := #[19, 4], accessFlags := 1041 }

/-- the primitive int -/
def k22 : Class := { plain "int" none with kind := .primitive 'I', accessFlags := 0x411 }
/-- [I -/
def k23 : Class := { plain "[I" (some 0) with kind := .array 22 .int, interfaces := #[19, 4], accessFlags := 1041 }

def heap : Heap := #[{ cls := 7, slots := #[.ref 1, .ref 2, .ref 3, .ref 4, .ref 5, .ref 6, .ref 7, .ref 8, .ref 9, .ref 10, .ref 11, .null, .null], vm := .statics 7 },
  { cls := 8, slots := #[.null, .int 0, .int 0, .int 0, .null, .null], vm := .none },
  { cls := 14, slots := #[.null, .int 0, .int 0, .int 0, .null, .null], vm := .none },
  { cls := 15, slots := #[.null, .int 0, .int 0, .int 0, .null, .null], vm := .none },
  { cls := 9, slots := #[.null, .int 0, .int 0, .int 0, .null, .null], vm := .none },
  { cls := 18, slots := #[.null, .int 0, .int 0, .int 0, .null, .null], vm := .none },
  { cls := 11, slots := #[.null, .int 0, .int 0, .int 0, .null, .null], vm := .none },
  { cls := 12, slots := #[.null, .int 0, .int 0, .int 0, .null, .null], vm := .none },
  { cls := 17, slots := #[.null, .int 0, .int 0, .int 0, .null, .null], vm := .none },
  { cls := 13, slots := #[.null, .int 0, .int 0, .int 0, .null, .null], vm := .none },
  { cls := 10, slots := #[.null, .int 0, .int 0, .int 0, .null, .null], vm := .none },
  { cls := 16, slots := #[.null, .int 0, .int 0, .int 0, .null, .null], vm := .none }]
def classes : Array Class := #[k0, k1, k2, k3, k4, k5, k6, k7, k8, k9, k10, k11, k12, k13, k14, k15, k16, k17, k18, k19, k20, k21, k22, k23]
def interned : List (Array UInt16 × Addr) := []
def slotsUsed : Nat := 79
def theMethod : MethodId := ⟨1, 2⟩
def args0 : Array Value := #[.int 5, .int 9]
def aboutOver (below : List Frame) : State where
  vm := { classes := classes, interned := interned.toArray }
  heap := heap
  slotsUsed := slotsUsed
  threads := #[{ frames := .invoking theMethod args0 :: below }]
def below0 : List Frame := [.native { method := ⟨0, 0⟩, args := #[] }]
def about1 : State := aboutOver below0
def p0 : Program := .bare "" "" ""
def e0 : Env := launch0.env 0 0 0
theorem w_frames : about1.frames = Frame.invoking theMethod args0 :: below0 := rfl
set_option maxRecDepth 65536 in
theorem w_args : argsFit about1.vm theMethod args0 = true := by decide +kernel
set_option maxRecDepth 65536 in
theorem w_heap : heapFits about1 = true := by decide +kernel
set_option maxRecDepth 65536 in
theorem w_runnable : about1.curStatus? = some .runnable := by decide +kernel
set_option maxRecDepth 65536 in
theorem w_alone : about1.alone = true := by decide +kernel
set_option maxRecDepth 65536 in
theorem w_named : about1.methodNamed? x = some theMethod := by decide +kernel
set_option maxRecDepth 65536 in
theorem w_hears : about1.hears theMethod below0 = true := by decide +kernel
set_option maxRecDepth 65536 in
theorem w_ripe : about1.ripe theMethod args0 below0 = true := by decide +kernel
theorem w_running : about1.status = .running := rfl
set_option maxRecDepth 65536 in
theorem w_room : about1.hasRoom e0.platform room_1 = true :=
  launch0.hasRoom_least _ room_1 (by decide +kernel) (by decide +kernel) (by decide +kernel) (by decide +kernel) (by decide +kernel) (by decide +kernel)
theorem allAtoms_all (ts : List Jvm.Cond) (a : Array Jvm.Value) (st : Jvm.State) : (allAtoms ts).before a st = ts.all (fun c => c.before a st) := by
  induction ts with
  | nil => rfl
  | cons c t ih =>
    show (Jvm.Cond.and c (allAtoms t)).before a st = _
    rw [Jvm.Cond.before_and, ih, List.all_cons]
def words1 : List Jvm.Cond := Jvm.Cond.code x code maxLocals ret :: tables_1
/-- a 'code' word, met by the world's own term for the bytes: nothing is compared byte by byte -/
theorem code_word {y : MethodName} {bytes : ByteArray} {mx : Nat} {rt : Option FieldType} {a : Array Value} {s : State} {m : MethodId} {meth : Method} {c : Code} (h1 : s.methodNamed? y = some m) (h2 : s.vm.method? m = some meth) (h3 : meth.code = some c) (h4 : c.code = bytes)
    (h5 : (c.maxLocals == mx && c.exceptionTable.isEmpty && decide (c.maxStack ≤ mostOperands) && decide (meth.sig.returnType = rt) && !meth.locks && decide (parseMethodDescriptor y.desc = some meth.sig)) = true) : (Jvm.Cond.code y bytes mx rt).before a s = true := by
  simp only [Bool.and_eq_true, beq_iff_eq, Bool.not_eq_true', decide_eq_true_eq] at h5
  obtain ⟨⟨⟨⟨⟨g1, g2⟩, g3⟩, g4⟩, g5⟩, g6⟩ := h5
  simp [Cond.before, Cond.holds, Cond.value, h1, h2, h3, h4, g1, g2, g3, g4, g5, g6]
def isCode : Jvm.Cond → Bool
  | .code _ _ _ _ => true
  | _ => false
theorem all_split {L : List Jvm.Cond} {P : Jvm.Cond → Bool} (h1 : L.all (fun c => isCode c || P c) = true) (h2 : ∀ c ∈ L.filter isCode, P c = true) : L.all P = true := by
  refine List.all_eq_true.mpr fun c hc => ?_
  have h := List.all_eq_true.mp h1 c hc
  rcases Bool.eq_false_or_eq_true (isCode c) with hi | hi
  · exact h2 c (List.mem_filter.mpr ⟨hc, hi⟩)
  · simpa [hi] using h
set_option maxRecDepth 65536 in
theorem w_c0 : (Jvm.Cond.code x code maxLocals ret).before args0 about1 = true := code_word (m := ⟨1, 2⟩) (meth := k1m2) (c := k1c2) (by decide +kernel) rfl rfl rfl (by decide +kernel)
set_option maxRecDepth 65536 in
theorem w_c1 : (Jvm.Cond.code ({ cls := "com/example/loose_columns/loosecolumns/cql/DataTypeTakesPinLaw", name := "pick", desc := "(I)Lcom/example/loose_columns/loosecolumns/cql/DataType;" } : Jvm.MethodName) method_2_code (1 : Nat) (Option.some (Jvm.ClassFile.FieldType.object "com/example/loose_columns/loosecolumns/cql/DataType"))).before args0 about1 = true := code_word (m := ⟨1, 1⟩) (meth := k1m1) (c := k1c1) (by decide +kernel) rfl rfl rfl (by decide +kernel)
set_option maxRecDepth 65536 in
theorem w_c2 : (Jvm.Cond.code ({ cls := "com/example/loose_columns/loosecolumns/cql/DataType", name := "takes", desc := "(Lcom/example/loose_columns/loosecolumns/cql/DataType;)Z" } : Jvm.MethodName) prog_12_method_6_code (2 : Nat) (Option.some Jvm.ClassFile.FieldType.boolean)).before args0 about1 = true := code_word (m := ⟨7, 0⟩) (meth := k7m0) (c := k7c0) (by decide +kernel) rfl rfl rfl (by decide +kernel)
def codes1 : List Jvm.Cond := [Jvm.Cond.code x code maxLocals ret, Jvm.Cond.code ({ cls := "com/example/loose_columns/loosecolumns/cql/DataTypeTakesPinLaw", name := "pick", desc := "(I)Lcom/example/loose_columns/loosecolumns/cql/DataType;" } : Jvm.MethodName) method_2_code (1 : Nat) (Option.some (Jvm.ClassFile.FieldType.object "com/example/loose_columns/loosecolumns/cql/DataType")), Jvm.Cond.code ({ cls := "com/example/loose_columns/loosecolumns/cql/DataType", name := "takes", desc := "(Lcom/example/loose_columns/loosecolumns/cql/DataType;)Z" } : Jvm.MethodName) prog_12_method_6_code (2 : Nat) (Option.some Jvm.ClassFile.FieldType.boolean)]
set_option maxRecDepth 65536 in
theorem codes_eq : words1.filter isCode = codes1 := rfl
theorem w_codes : ∀ c ∈ words1.filter isCode, c.before args0 about1 = true := by
  rw [codes_eq]
  intro c hc
  simp only [codes1, List.mem_cons, List.not_mem_nil, or_false] at hc
  rcases hc with rfl | rfl | rfl
  · exact w_c0
  · exact w_c1
  · exact w_c2
set_option maxRecDepth 65536 in
theorem w_t1 : (words1.take 24).all (fun c => isCode c || c.before args0 about1) = true := by decide +kernel
set_option maxRecDepth 65536 in
theorem w_t2 : (words1.drop 24).all (fun c => isCode c || c.before args0 about1) = true := by decide +kernel
theorem w_tables : (allAtoms (Jvm.Cond.code x code maxLocals ret :: tables_1)).before args0 about1 = true := by
  rw [allAtoms_all]
  show words1.all (fun c => c.before args0 about1) = true
  refine all_split ?_ w_codes
  rw [← List.take_append_drop 24 words1, List.all_append, w_t1, w_t2]
  rfl
set_option maxRecDepth 65536 in
theorem w_case : (Jvm.Cond.and given_1 narrow_1).before args0 about1 = true := by decide +kernel
theorem w_applies : (headSpec (Jvm.Cond.code x code maxLocals ret :: tables_1) room_1).applies x e0.platform about1 = true :=
  (Spec.applies_iff w_frames).mpr ⟨w_running, w_runnable, w_alone, w_named, w_hears, w_ripe, w_room, w_tables⟩
theorem atStart : AtStart classFile x code maxLocals ret World_1 tables_1 room_1 Calls_1 rest_1 Pre_1 launch0 p0 e0 about1 theMethod args0 below0 :=
  ⟨lists_1, trivial, launch0.admits_env _ _ _, launch0.least_env, fairChoices_fair.cas, fairChoices_fair.clock, w_frames, w_args, w_heap, w_applies, trivial, trivial, w_case⟩
end start1
theorem witness_1 : WitnessClaimed_1 := ⟨start1.p0, start1.e0, start1.about1, start1.theMethod, start1.args0, start1.below0, start1.atStart⟩
end Jvm.Pilot.@@N@@
