import JvmDerived
import JvmDerived.Pilot.@@N@@Statement
import JvmDerived.Pilot.@@N@@Code
set_option linter.unusedVariables false
set_option linter.unusedSimpArgs false
set_option maxRecDepth 65536
namespace Jvm.Pilot.@@N@@
open Jvm Jvm.ClassFile Sem Op Lib Jvm.Free Jvm.Stand Jvm.LawKit Jvm.RoadKit Bundle Jvm.Pilot.@@N@@.Jvm.D

section OwnKit
/-- a walk's fixed things: program, launch, environment, room, first state, method, arguments, frames below, the method, its code -/
abbrev own_B : Type := Program × Launch × Env × Room × State × MethodId × Array Value × List Frame × Method × Code × Nat × (Outcome → State → List Loc → Nat → Nat → Prop)
def own_Ok (B : own_B) (Z : State) (a0 : Array Value) (l0 : Launch) (R0 : Room) (y : MethodName) (code : ByteArray) (N : Nat) (ret : Option FieldType) : Prop :=
  match B with
  | (p, l, e, R, s, m, args, below, meth, c, k0, P) => l = l0 ∧ R = R0 ∧ p.tables.exec = Jvm.exec ∧ Z.Warmed39 s.vm ∧ s.vm.findClass y.cls = some m.cls ∧ c.code = code ∧ c.maxLocals = N ∧ meth.sig.returnType = ret ∧ meth.locks = false ∧ meth.name = y.name ∧ (∀ (i : Nat) (d : Jvm.Cond), tables_1[i]? = some d → d.before a0 Z = true) ∧ (∀ o t L a b, k0 ≤ t.heap.size → FrameEnd s o t L a b → P o t L a b)
/-- the rest of the walk ends well -/
def own_Fin (p : Program) (e : Env) (below : List Frame) (P : Outcome → State → List Loc → Nat → Nat → Prop) (n0 : Nat) (Q : Option Value → Heap → Prop) (kc ks : Nat) (A : State) : Prop :=
  ∃ s₂ o, Steps p.tables e below A s₂ ∧ s₂.status = .running ∧ Ended s₂ below o ∧ ∃ v L, o = .returned v ∧ (Q v s₂.heap ∧ Fr n0 L) ∧ P o s₂ L kc ks
theorem own_go {p : Program} {e : Env} {below : List Frame} {P : Outcome → State → List Loc → Nat → Nat → Prop} {n0 : Nat} {Q : Option Value → Heap → Prop} {kc ks : Nat} {A A' : State} (st : ∀ t, Steps p.tables e below A' t → Steps p.tables e below A t) (k : own_Fin p e below P n0 Q kc ks A') : own_Fin p e below P n0 Q kc ks A := by
  obtain ⟨s2, o, h1, r⟩ := k
  exact ⟨s2, o, st _ h1, r⟩
/-- from this point (heap h, at most so many cells and slots made, pc, locals, stack) the walk ends in Q -/
def own_G (B : own_B) (n0 : Nat) (Q : Option Value → Heap → Prop) (kc ks cells slots : Nat) (h : Heap) (pc : Nat) (Ls : Array Slot) (st : List Value) : Prop :=
  match B with
  | (p, l, e, R, s, m, args, below, meth, c, k0, P) => ∀ (T : State) (locs : List Loc) (c1 s1 : Nat), Stand p l e R s m args below meth c T locs c1 s1 → Fr n0 locs → c1 ≤ cells → s1 ≤ slots → T.heap = h → k0 ≤ h.size → own_Fin p e below P n0 Q kc ks (T.setTop (mkF m pc Ls st))
/-- a method's contract -/
def own_Met (l : Launch) (Z : State) (ws : List Jvm.Cond) (y : MethodName) (bytes : ByteArray) (maxL : Nat) (ret : Option FieldType) (rm : Room) (as : Array Value) (h : Heap) (n0 kc ks : Nat) (Q : Option Value → Heap → Prop) : Prop :=
  MetFree l y (head1 (Jvm.Cond.code y bytes maxL ret :: ws) rm) (fun a U => a = as ∧ Z.Warmed39 U.vm ∧ U.heap = h) (fun _ _ _ _ _ => True) (fun _ U o U' => ∃ v L, o = .returned v ∧ (Q v U'.heap ∧ Fr n0 L) ∧ FrameEnd U o U' L kc ks)
/-- a callee's contract -/
abbrev own_C (l : Launch) (Z : State) (y : MethodName) (bytes : ByteArray) (maxL : Nat) (ret : Option FieldType) (rm : Room) (as : Array Value) (h : Heap) (n0 : Nat) (Q : Option Value → Heap → Prop) : Prop := own_Met l Z [] y bytes maxL ret rm as h n0 rm.cells rm.slots Q
/-- a callee that returns w and leaves the heap -/
abbrev own_P (l : Launch) (Z : State) (y : MethodName) (bytes : ByteArray) (maxL : Nat) (ret : Option FieldType) (rm : Room) (as : Array Value) (h : Heap) (n0 : Nat) (w : Value) : Prop := own_C l Z y bytes maxL ret rm as h n0 (fun v h' => v = some w ∧ h = h')
abbrev own_rm (f lo : Nat) : Room := { frames := f, cells := 0, slots := 0, locals := lo }
theorem own_met {l : Launch} {Z : State} {a0 : Array Value} {ws : List Jvm.Cond} {y : MethodName} {bytes : ByteArray} {maxL : Nat} {ret : Option FieldType} {rm : Room} {as : Array Value} {h : Heap} {n0 kc ks : Nat} {Q : Option Value → Heap → Prop} {Ls : Array Slot}
    (hw : ∀ (i : Nat) (d : Jvm.Cond), tables_1[i]? = some d → d.before a0 Z = true) (hpl : plainFor y = true) (hef : ∀ m, entryFrame m as maxL = mkF m 0 Ls [])
    (body : ∀ B : own_B, own_Ok B Z a0 l rm y bytes maxL ret → own_G B n0 Q kc ks 0 0 h 0 Ls []) : own_Met l Z ws y bytes maxL ret rm as h n0 kc ks Q := by
  refine MetFree.of_bodySF hpl hisR ?_
  intro p e s m args below meth c s₁ Bd hml0 hP hK
  obtain ⟨rfl, hZ, hh⟩ := hP
  have X0 := Stand.of_body Bd
  have e0 : s₁.heap = h := by rw [← hh, Bd.state]; rfl
  have q := body (p, l, e, rm, s, m, args, below, meth, c, 0, FrameEnd s) ⟨rfl, rfl, Bd.exec, hZ, findClass_of_methodNamed Bd.named, Bd.bytes, hml0, Bd.returns, Bd.notSynchronized, (name_of_methodNamed Bd.named Bd.method).1, hw, fun _ _ _ _ _ _ q => q⟩ s₁ [] 0 0 X0 (Fr.nil n0) (Nat.le_refl _) (Nat.le_refl _) e0 (Nat.zero_le _)
  rw [hef m]
  exact q
theorem own_grow {l : Launch} {Z : State} {ws : List Jvm.Cond} {y : MethodName} {bytes : ByteArray} {maxL : Nat} {ret : Option FieldType} {rm : Room} {as : Array Value} {h : Heap} {n0 kc ks : Nat} {Q : Option Value → Heap → Prop} (hM : own_Met l Z ws y bytes maxL ret rm as h n0 kc ks Q) :
    MetFree l y (head1 (Jvm.Cond.code y bytes maxL ret :: ws) rm) (fun a U => a = as ∧ Z.Warmed39 U.vm ∧ U.heap = h) (fun _ _ _ _ _ => True) (fun _ U o U' => ∃ v L, o = .returned v ∧ ((Q v U'.heap ∧ Fr n0 L) ∧ h.size ≤ U'.heap.size) ∧ FrameEnd U o U' L kc ks) := by
  intro p e ha hc hk s m args below hf happ hP hK
  obtain ⟨n, o, h1, h2, h3, v, L, e1, e2, e3⟩ := hM p e ha hc hk s m args below hf happ hP hK
  refine ⟨n, o, h1, h2, h3, v, L, e1, ⟨e2, ?_⟩, e3⟩
  have q := e3.2.2.2.1
  rw [← hP.2.2]
  exact q
/-- the wide contract: String constants may have been resolved -/
def own_MetW (l : Launch) (Z : State) (ws : List Jvm.Cond) (y : MethodName) (bytes : ByteArray) (maxL : Nat) (ret : Option FieldType) (rm : Room) (as : Array Value) (h : Heap) (n0 kc ks : Nat) (Q : Option Value → Heap → Prop) : Prop :=
  MetFree l y (head1 (Jvm.Cond.code y bytes maxL ret :: ws) rm) (fun a U => a = as ∧ Z.Warmed39 U.vm ∧ U.heap = h) (fun _ _ _ _ _ => True) (fun _ U o U' => ∃ v L, o = .returned v ∧ (Q v U'.heap ∧ Fr n0 L) ∧ ReturnedEndW U o U' L kc ks)
abbrev own_CW (l : Launch) (Z : State) (y : MethodName) (bytes : ByteArray) (maxL : Nat) (ret : Option FieldType) (rm : Room) (as : Array Value) (h : Heap) (n0 : Nat) (Q : Option Value → Heap → Prop) : Prop := own_MetW l Z [] y bytes maxL ret rm as h n0 rm.cells rm.slots Q
/-- the walk's first state is a re-based one, and its end is said of the true start -/
def own_Wd (B : own_B) : Prop :=
  match B with
  | (p, l, e, R, s, m, args, below, meth, c, k0, P) => ∃ (s0 : State) (vm0 : Vm), P = ReturnedEndW s0 ∧ s = s0.setVm vm0 ∧ s0.Since vm0 k0
theorem own_metW {l : Launch} {Z : State} {a0 : Array Value} {ws : List Jvm.Cond} {y : MethodName} {bytes : ByteArray} {maxL : Nat} {ret : Option FieldType} {rm : Room} {as : Array Value} {h : Heap} {n0 kc ks : Nat} {Q : Option Value → Heap → Prop} {Ls : Array Slot}
    (hw : ∀ (i : Nat) (d : Jvm.Cond), tables_1[i]? = some d → d.before a0 Z = true) (hpl : plainFor y = true) (hef : ∀ m, entryFrame m as maxL = mkF m 0 Ls [])
    (body : ∀ B : own_B, own_Ok B Z a0 l rm y bytes maxL ret → own_Wd B → own_G B n0 Q kc ks 0 0 h 0 Ls []) : own_MetW l Z ws y bytes maxL ret rm as h n0 kc ks Q := by
  refine MetFree.of_bodySF hpl hisR ?_
  intro p e s m args below meth c s₁ Bd hml0 hP hK
  obtain ⟨rfl, hZ, hh⟩ := hP
  have X0 := Stand.of_body Bd
  have e0 : s₁.heap = h := by rw [← hh, Bd.state]; rfl
  have q := body (p, l, e, rm, s, m, args, below, meth, c, 0, ReturnedEndW s) ⟨rfl, rfl, Bd.exec, hZ, findClass_of_methodNamed Bd.named, Bd.bytes, hml0, Bd.returns, Bd.notSynchronized, (name_of_methodNamed Bd.named Bd.method).1, hw, fun _ _ _ _ _ _ q => ReturnedEndW.of_narrow q.1 q.2.1 q.2.2⟩ ⟨s, s.vm, rfl, rfl, (State.WarmedH.refl s).since 0⟩ s₁ [] 0 0 X0 (Fr.nil n0) (Nat.le_refl _) (Nat.le_refl _) e0 (Nat.zero_le _)
  rw [hef m]
  exact q
theorem own_pe {s0 : State} {vm1 : Vm} {k1 : Nat} (hS : s0.Since vm1 k1) : ∀ o t L a b, k1 ≤ t.heap.size → FrameEnd (s0.setVm vm1) o t L a b → ReturnedEndW s0 o t L a b := fun o t L a b hk q => by
  obtain ⟨w1, w2, w3⟩ := hS.ended q.2.1 hk q.2.2
  exact ⟨q.1, w1, w2, w3⟩
section Laws
variable {B : own_B} {Z : State} {a0 : Array Value} {l : Launch} {R : Room} {y : MethodName} {code : ByteArray} {N : Nat} {ret : Option FieldType} {n0 : Nat} {Q : Option Value → Heap → Prop} {kc ks cells slots : Nat} {h : Heap} {pc pc' : Nat} {Ls Ls' : Array Slot} {st : List Value}
theorem own_mono {cells' slots' : Nat} (hc : cells ≤ cells') (hs : slots ≤ slots') (k : own_G B n0 Q kc ks cells' slots' h pc Ls st) : own_G B n0 Q kc ks cells slots h pc Ls st := by
  obtain ⟨p, l, e, R, s, m, args, below, meth, c, k0, P⟩ := B
  intro T locs c1 s1 X F q1 q2 eT hk
  exact k T locs c1 s1 X F (Nat.le_trans q1 hc) (Nat.le_trans q2 hs) eT hk
theorem own_cut (pc' : Nat) (Ls' : Array Slot) (st' : List Value) (f : own_G B n0 Q kc ks cells slots h pc' Ls' st' → own_G B n0 Q kc ks cells slots h pc Ls st) (k : own_G B n0 Q kc ks cells slots h pc' Ls' st') : own_G B n0 Q kc ks cells slots h pc Ls st := f k
theorem own_cast {Ls' : Array Slot} {st' : List Value} (hL : Ls = Ls') (hS : st = st') (k : own_G B n0 Q kc ks cells slots h pc Ls' st') : own_G B n0 Q kc ks cells slots h pc Ls st := by
  subst hL hS
  exact k
theorem own_w (H : own_Ok B Z a0 l R y code N ret) {i : Nat} {d : Jvm.Cond} (q : tables_1[i]? = some d) : d.before a0 Z = true := by
  obtain ⟨p, l, e, R, s, m, args, below, meth, c, k0, P⟩ := B
  exact H.2.2.2.2.2.2.2.2.2.2.1 i d q
theorem own_hw (H : own_Ok B Z a0 l R y code N ret) : ∀ (i : Nat) (d : Jvm.Cond), tables_1[i]? = some d → d.before a0 Z = true := by
  obtain ⟨p, l, e, R, s, m, args, below, meth, c, k0, P⟩ := B
  exact H.2.2.2.2.2.2.2.2.2.2.1
theorem own_iadd (H : own_Ok B Z a0 l R y code N ret) {x z v : Int32} (hv : x + z = v) (hd : decode code pc = .ok (.iadd, 1)) (k : own_G B n0 Q kc ks cells slots h (pc + 1) Ls (.int v :: st)) : own_G B n0 Q kc ks cells slots h pc Ls (.int z :: .int x :: st) := by
  subst hv
  obtain ⟨p, l, e, R, s, m, args, below, meth, c, k0, P⟩ := B
  obtain ⟨rfl, rfl, hx, hZ, hown, hby, hml, hrt, hlk, hnm, hw, hPe⟩ := H
  intro T locs c1 s1 X F hc hs eT hk
  exact own_go (fun t q => XS.iadd X.here hx rfl (hb hby hd) rfl q) (k T locs c1 s1 X F hc hs eT hk)
theorem own_isub (H : own_Ok B Z a0 l R y code N ret) {x z v : Int32} (hv : x - z = v) (hd : decode code pc = .ok (.isub, 1)) (k : own_G B n0 Q kc ks cells slots h (pc + 1) Ls (.int v :: st)) : own_G B n0 Q kc ks cells slots h pc Ls (.int z :: .int x :: st) := by
  subst hv
  obtain ⟨p, l, e, R, s, m, args, below, meth, c, k0, P⟩ := B
  obtain ⟨rfl, rfl, hx, hZ, hown, hby, hml, hrt, hlk, hnm, hw, hPe⟩ := H
  intro T locs c1 s1 X F hc hs eT hk
  exact own_go (fun t q => XS.isub X.here hx rfl (hb hby hd) rfl q) (k T locs c1 s1 X F hc hs eT hk)
theorem own_imul (H : own_Ok B Z a0 l R y code N ret) {x z v : Int32} (hv : x * z = v) (hd : decode code pc = .ok (.imul, 1)) (k : own_G B n0 Q kc ks cells slots h (pc + 1) Ls (.int v :: st)) : own_G B n0 Q kc ks cells slots h pc Ls (.int z :: .int x :: st) := by
  subst hv
  obtain ⟨p, l, e, R, s, m, args, below, meth, c, k0, P⟩ := B
  obtain ⟨rfl, rfl, hx, hZ, hown, hby, hml, hrt, hlk, hnm, hw, hPe⟩ := H
  intro T locs c1 s1 X F hc hs eT hk
  exact own_go (fun t q => XS.imul X.here hx rfl (hb hby hd) rfl q) (k T locs c1 s1 X F hc hs eT hk)
theorem own_iand (H : own_Ok B Z a0 l R y code N ret) {x z v : Int32} (hv : x &&& z = v) (hd : decode code pc = .ok (.iand, 1)) (k : own_G B n0 Q kc ks cells slots h (pc + 1) Ls (.int v :: st)) : own_G B n0 Q kc ks cells slots h pc Ls (.int z :: .int x :: st) := by
  subst hv
  obtain ⟨p, l, e, R, s, m, args, below, meth, c, k0, P⟩ := B
  obtain ⟨rfl, rfl, hx, hZ, hown, hby, hml, hrt, hlk, hnm, hw, hPe⟩ := H
  intro T locs c1 s1 X F hc hs eT hk
  exact own_go (fun t q => XS.iand X.here hx rfl (hb hby hd) rfl q) (k T locs c1 s1 X F hc hs eT hk)
theorem own_ior (H : own_Ok B Z a0 l R y code N ret) {x z v : Int32} (hv : x ||| z = v) (hd : decode code pc = .ok (.ior, 1)) (k : own_G B n0 Q kc ks cells slots h (pc + 1) Ls (.int v :: st)) : own_G B n0 Q kc ks cells slots h pc Ls (.int z :: .int x :: st) := by
  subst hv
  obtain ⟨p, l, e, R, s, m, args, below, meth, c, k0, P⟩ := B
  obtain ⟨rfl, rfl, hx, hZ, hown, hby, hml, hrt, hlk, hnm, hw, hPe⟩ := H
  intro T locs c1 s1 X F hc hs eT hk
  exact own_go (fun t q => XT.ior X.here hx rfl (hb hby hd) rfl q) (k T locs c1 s1 X F hc hs eT hk)
theorem own_ixor (H : own_Ok B Z a0 l R y code N ret) {x z v : Int32} (hv : x ^^^ z = v) (hd : decode code pc = .ok (.ixor, 1)) (k : own_G B n0 Q kc ks cells slots h (pc + 1) Ls (.int v :: st)) : own_G B n0 Q kc ks cells slots h pc Ls (.int z :: .int x :: st) := by
  subst hv
  obtain ⟨p, l, e, R, s, m, args, below, meth, c, k0, P⟩ := B
  obtain ⟨rfl, rfl, hx, hZ, hown, hby, hml, hrt, hlk, hnm, hw, hPe⟩ := H
  intro T locs c1 s1 X F hc hs eT hk
  exact own_go (fun t q => XT.ixor X.here hx rfl (hb hby hd) rfl q) (k T locs c1 s1 X F hc hs eT hk)
theorem own_ishl (H : own_Ok B Z a0 l R y code N ret) {x z v : Int32} (hv : x <<< (z &&& 31) = v) (hd : decode code pc = .ok (.ishl, 1)) (k : own_G B n0 Q kc ks cells slots h (pc + 1) Ls (.int v :: st)) : own_G B n0 Q kc ks cells slots h pc Ls (.int z :: .int x :: st) := by
  subst hv
  obtain ⟨p, l, e, R, s, m, args, below, meth, c, k0, P⟩ := B
  obtain ⟨rfl, rfl, hx, hZ, hown, hby, hml, hrt, hlk, hnm, hw, hPe⟩ := H
  intro T locs c1 s1 X F hc hs eT hk
  exact own_go (fun t q => XT.ishl X.here hx rfl (hb hby hd) rfl q) (k T locs c1 s1 X F hc hs eT hk)
theorem own_ishr (H : own_Ok B Z a0 l R y code N ret) {x z v : Int32} (hv : x >>> (z &&& 31) = v) (hd : decode code pc = .ok (.ishr, 1)) (k : own_G B n0 Q kc ks cells slots h (pc + 1) Ls (.int v :: st)) : own_G B n0 Q kc ks cells slots h pc Ls (.int z :: .int x :: st) := by
  subst hv
  obtain ⟨p, l, e, R, s, m, args, below, meth, c, k0, P⟩ := B
  obtain ⟨rfl, rfl, hx, hZ, hown, hby, hml, hrt, hlk, hnm, hw, hPe⟩ := H
  intro T locs c1 s1 X F hc hs eT hk
  exact own_go (fun t q => XT.ishr X.here hx rfl (hb hby hd) rfl q) (k T locs c1 s1 X F hc hs eT hk)
theorem own_iushr (H : own_Ok B Z a0 l R y code N ret) {x z v : Int32} (hv : XT.ushr x z = v) (hd : decode code pc = .ok (.iushr, 1)) (k : own_G B n0 Q kc ks cells slots h (pc + 1) Ls (.int v :: st)) : own_G B n0 Q kc ks cells slots h pc Ls (.int z :: .int x :: st) := by
  subst hv
  obtain ⟨p, l, e, R, s, m, args, below, meth, c, k0, P⟩ := B
  obtain ⟨rfl, rfl, hx, hZ, hown, hby, hml, hrt, hlk, hnm, hw, hPe⟩ := H
  intro T locs c1 s1 X F hc hs eT hk
  exact own_go (fun t q => XT.iushr X.here hx rfl (hb hby hd) rfl q) (k T locs c1 s1 X F hc hs eT hk)
theorem own_ladd (H : own_Ok B Z a0 l R y code N ret) {x z v : Int64} (hv : x + z = v) (hd : decode code pc = .ok (.ladd, 1)) (k : own_G B n0 Q kc ks cells slots h (pc + 1) Ls (.long v :: st)) : own_G B n0 Q kc ks cells slots h pc Ls (.long z :: .long x :: st) := by
  subst hv
  obtain ⟨p, l, e, R, s, m, args, below, meth, c, k0, P⟩ := B
  obtain ⟨rfl, rfl, hx, hZ, hown, hby, hml, hrt, hlk, hnm, hw, hPe⟩ := H
  intro T locs c1 s1 X F hc hs eT hk
  exact own_go (fun t q => XT.ladd X.here hx rfl (hb hby hd) rfl q) (k T locs c1 s1 X F hc hs eT hk)
theorem own_lsub (H : own_Ok B Z a0 l R y code N ret) {x z v : Int64} (hv : x - z = v) (hd : decode code pc = .ok (.lsub, 1)) (k : own_G B n0 Q kc ks cells slots h (pc + 1) Ls (.long v :: st)) : own_G B n0 Q kc ks cells slots h pc Ls (.long z :: .long x :: st) := by
  subst hv
  obtain ⟨p, l, e, R, s, m, args, below, meth, c, k0, P⟩ := B
  obtain ⟨rfl, rfl, hx, hZ, hown, hby, hml, hrt, hlk, hnm, hw, hPe⟩ := H
  intro T locs c1 s1 X F hc hs eT hk
  exact own_go (fun t q => XT.lsub X.here hx rfl (hb hby hd) rfl q) (k T locs c1 s1 X F hc hs eT hk)
theorem own_lmul (H : own_Ok B Z a0 l R y code N ret) {x z v : Int64} (hv : x * z = v) (hd : decode code pc = .ok (.lmul, 1)) (k : own_G B n0 Q kc ks cells slots h (pc + 1) Ls (.long v :: st)) : own_G B n0 Q kc ks cells slots h pc Ls (.long z :: .long x :: st) := by
  subst hv
  obtain ⟨p, l, e, R, s, m, args, below, meth, c, k0, P⟩ := B
  obtain ⟨rfl, rfl, hx, hZ, hown, hby, hml, hrt, hlk, hnm, hw, hPe⟩ := H
  intro T locs c1 s1 X F hc hs eT hk
  exact own_go (fun t q => XT.lmul X.here hx rfl (hb hby hd) rfl q) (k T locs c1 s1 X F hc hs eT hk)
theorem own_land (H : own_Ok B Z a0 l R y code N ret) {x z v : Int64} (hv : x &&& z = v) (hd : decode code pc = .ok (.land, 1)) (k : own_G B n0 Q kc ks cells slots h (pc + 1) Ls (.long v :: st)) : own_G B n0 Q kc ks cells slots h pc Ls (.long z :: .long x :: st) := by
  subst hv
  obtain ⟨p, l, e, R, s, m, args, below, meth, c, k0, P⟩ := B
  obtain ⟨rfl, rfl, hx, hZ, hown, hby, hml, hrt, hlk, hnm, hw, hPe⟩ := H
  intro T locs c1 s1 X F hc hs eT hk
  exact own_go (fun t q => XT.land X.here hx rfl (hb hby hd) rfl q) (k T locs c1 s1 X F hc hs eT hk)
theorem own_lor (H : own_Ok B Z a0 l R y code N ret) {x z v : Int64} (hv : x ||| z = v) (hd : decode code pc = .ok (.lor, 1)) (k : own_G B n0 Q kc ks cells slots h (pc + 1) Ls (.long v :: st)) : own_G B n0 Q kc ks cells slots h pc Ls (.long z :: .long x :: st) := by
  subst hv
  obtain ⟨p, l, e, R, s, m, args, below, meth, c, k0, P⟩ := B
  obtain ⟨rfl, rfl, hx, hZ, hown, hby, hml, hrt, hlk, hnm, hw, hPe⟩ := H
  intro T locs c1 s1 X F hc hs eT hk
  exact own_go (fun t q => XT.lor X.here hx rfl (hb hby hd) rfl q) (k T locs c1 s1 X F hc hs eT hk)
theorem own_lxor (H : own_Ok B Z a0 l R y code N ret) {x z v : Int64} (hv : x ^^^ z = v) (hd : decode code pc = .ok (.lxor, 1)) (k : own_G B n0 Q kc ks cells slots h (pc + 1) Ls (.long v :: st)) : own_G B n0 Q kc ks cells slots h pc Ls (.long z :: .long x :: st) := by
  subst hv
  obtain ⟨p, l, e, R, s, m, args, below, meth, c, k0, P⟩ := B
  obtain ⟨rfl, rfl, hx, hZ, hown, hby, hml, hrt, hlk, hnm, hw, hPe⟩ := H
  intro T locs c1 s1 X F hc hs eT hk
  exact own_go (fun t q => XT.lxor X.here hx rfl (hb hby hd) rfl q) (k T locs c1 s1 X F hc hs eT hk)
theorem own_idiv (H : own_Ok B Z a0 l R y code N ret) {x z v : Int32} (hv : x / z = v) (hd : decode code pc = .ok (.idiv, 1)) (hz : z ≠ 0) (k : own_G B n0 Q kc ks cells slots h (pc + 1) Ls (.int v :: st)) : own_G B n0 Q kc ks cells slots h pc Ls (.int z :: .int x :: st) := by
  subst hv
  obtain ⟨p, l, e, R, s, m, args, below, meth, c, k0, P⟩ := B
  obtain ⟨rfl, rfl, hx, hZ, hown, hby, hml, hrt, hlk, hnm, hw, hPe⟩ := H
  intro T locs c1 s1 X F hc hs eT hk
  exact own_go (fun t q => XS.idiv X.here hx rfl (hb hby hd) rfl hz q) (k T locs c1 s1 X F hc hs eT hk)
theorem own_irem (H : own_Ok B Z a0 l R y code N ret) {x z v : Int32} (hv : x % z = v) (hd : decode code pc = .ok (.irem, 1)) (hz : z ≠ 0) (k : own_G B n0 Q kc ks cells slots h (pc + 1) Ls (.int v :: st)) : own_G B n0 Q kc ks cells slots h pc Ls (.int z :: .int x :: st) := by
  subst hv
  obtain ⟨p, l, e, R, s, m, args, below, meth, c, k0, P⟩ := B
  obtain ⟨rfl, rfl, hx, hZ, hown, hby, hml, hrt, hlk, hnm, hw, hPe⟩ := H
  intro T locs c1 s1 X F hc hs eT hk
  exact own_go (fun t q => iremM X hx rfl (hb hby hd) rfl hz q) (k T locs c1 s1 X F hc hs eT hk)
theorem own_ldiv (H : own_Ok B Z a0 l R y code N ret) {x z v : Int64} (hv : x / z = v) (hd : decode code pc = .ok (.ldiv, 1)) (hz : z ≠ 0) (k : own_G B n0 Q kc ks cells slots h (pc + 1) Ls (.long v :: st)) : own_G B n0 Q kc ks cells slots h pc Ls (.long z :: .long x :: st) := by
  subst hv
  obtain ⟨p, l, e, R, s, m, args, below, meth, c, k0, P⟩ := B
  obtain ⟨rfl, rfl, hx, hZ, hown, hby, hml, hrt, hlk, hnm, hw, hPe⟩ := H
  intro T locs c1 s1 X F hc hs eT hk
  exact own_go (fun t q => XT.ldiv X.here hx rfl (hb hby hd) rfl hz q) (k T locs c1 s1 X F hc hs eT hk)
theorem own_lrem (H : own_Ok B Z a0 l R y code N ret) {x z v : Int64} (hv : x - x / z * z = v) (hd : decode code pc = .ok (.lrem, 1)) (hz : z ≠ 0) (k : own_G B n0 Q kc ks cells slots h (pc + 1) Ls (.long v :: st)) : own_G B n0 Q kc ks cells slots h pc Ls (.long z :: .long x :: st) := by
  subst hv
  obtain ⟨p, l, e, R, s, m, args, below, meth, c, k0, P⟩ := B
  obtain ⟨rfl, rfl, hx, hZ, hown, hby, hml, hrt, hlk, hnm, hw, hPe⟩ := H
  intro T locs c1 s1 X F hc hs eT hk
  exact own_go (fun t q => XT.lrem X.here hx rfl (hb hby hd) rfl hz q) (k T locs c1 s1 X F hc hs eT hk)
theorem own_lshl (H : own_Ok B Z a0 l R y code N ret) {x v : Int64} {z : Int32} (hv : x <<< (z.toInt64 &&& 63) = v) (hd : decode code pc = .ok (.lshl, 1)) (k : own_G B n0 Q kc ks cells slots h (pc + 1) Ls (.long v :: st)) : own_G B n0 Q kc ks cells slots h pc Ls (.int z :: .long x :: st) := by
  subst hv
  obtain ⟨p, l, e, R, s, m, args, below, meth, c, k0, P⟩ := B
  obtain ⟨rfl, rfl, hx, hZ, hown, hby, hml, hrt, hlk, hnm, hw, hPe⟩ := H
  intro T locs c1 s1 X F hc hs eT hk
  exact own_go (fun t q => XT.lshl X.here hx rfl (hb hby hd) rfl q) (k T locs c1 s1 X F hc hs eT hk)
theorem own_lshr (H : own_Ok B Z a0 l R y code N ret) {x v : Int64} {z : Int32} (hv : x >>> (z.toInt64 &&& 63) = v) (hd : decode code pc = .ok (.lshr, 1)) (k : own_G B n0 Q kc ks cells slots h (pc + 1) Ls (.long v :: st)) : own_G B n0 Q kc ks cells slots h pc Ls (.int z :: .long x :: st) := by
  subst hv
  obtain ⟨p, l, e, R, s, m, args, below, meth, c, k0, P⟩ := B
  obtain ⟨rfl, rfl, hx, hZ, hown, hby, hml, hrt, hlk, hnm, hw, hPe⟩ := H
  intro T locs c1 s1 X F hc hs eT hk
  exact own_go (fun t q => XT.lshr X.here hx rfl (hb hby hd) rfl q) (k T locs c1 s1 X F hc hs eT hk)
theorem own_lushr (H : own_Ok B Z a0 l R y code N ret) {x v : Int64} {z : Int32} (hv : XT.ushrL x z = v) (hd : decode code pc = .ok (.lushr, 1)) (k : own_G B n0 Q kc ks cells slots h (pc + 1) Ls (.long v :: st)) : own_G B n0 Q kc ks cells slots h pc Ls (.int z :: .long x :: st) := by
  subst hv
  obtain ⟨p, l, e, R, s, m, args, below, meth, c, k0, P⟩ := B
  obtain ⟨rfl, rfl, hx, hZ, hown, hby, hml, hrt, hlk, hnm, hw, hPe⟩ := H
  intro T locs c1 s1 X F hc hs eT hk
  exact own_go (fun t q => XT.lushr X.here hx rfl (hb hby hd) rfl q) (k T locs c1 s1 X F hc hs eT hk)
theorem own_ineg (H : own_Ok B Z a0 l R y code N ret) {x : Int32} {v : Int32} (hv : -x = v) (hd : decode code pc = .ok (.ineg, 1)) (k : own_G B n0 Q kc ks cells slots h (pc + 1) Ls (.int v :: st)) : own_G B n0 Q kc ks cells slots h pc Ls (.int x :: st) := by
  subst hv
  obtain ⟨p, l, e, R, s, m, args, below, meth, c, k0, P⟩ := B
  obtain ⟨rfl, rfl, hx, hZ, hown, hby, hml, hrt, hlk, hnm, hw, hPe⟩ := H
  intro T locs c1 s1 X F hc hs eT hk
  exact own_go (fun t q => XS.ineg X.here hx rfl (hb hby hd) rfl q) (k T locs c1 s1 X F hc hs eT hk)
theorem own_lneg (H : own_Ok B Z a0 l R y code N ret) {x : Int64} {v : Int64} (hv : -x = v) (hd : decode code pc = .ok (.lneg, 1)) (k : own_G B n0 Q kc ks cells slots h (pc + 1) Ls (.long v :: st)) : own_G B n0 Q kc ks cells slots h pc Ls (.long x :: st) := by
  subst hv
  obtain ⟨p, l, e, R, s, m, args, below, meth, c, k0, P⟩ := B
  obtain ⟨rfl, rfl, hx, hZ, hown, hby, hml, hrt, hlk, hnm, hw, hPe⟩ := H
  intro T locs c1 s1 X F hc hs eT hk
  exact own_go (fun t q => XT.lneg X.here hx rfl (hb hby hd) rfl q) (k T locs c1 s1 X F hc hs eT hk)
theorem own_i2l (H : own_Ok B Z a0 l R y code N ret) {x : Int32} {v : Int64} (hv : x.toInt64 = v) (hd : decode code pc = .ok (.i2l, 1)) (k : own_G B n0 Q kc ks cells slots h (pc + 1) Ls (.long v :: st)) : own_G B n0 Q kc ks cells slots h pc Ls (.int x :: st) := by
  subst hv
  obtain ⟨p, l, e, R, s, m, args, below, meth, c, k0, P⟩ := B
  obtain ⟨rfl, rfl, hx, hZ, hown, hby, hml, hrt, hlk, hnm, hw, hPe⟩ := H
  intro T locs c1 s1 X F hc hs eT hk
  exact own_go (fun t q => XT.i2l X.here hx rfl (hb hby hd) rfl q) (k T locs c1 s1 X F hc hs eT hk)
theorem own_l2i (H : own_Ok B Z a0 l R y code N ret) {x : Int64} {v : Int32} (hv : x.toInt32 = v) (hd : decode code pc = .ok (.l2i, 1)) (k : own_G B n0 Q kc ks cells slots h (pc + 1) Ls (.int v :: st)) : own_G B n0 Q kc ks cells slots h pc Ls (.long x :: st) := by
  subst hv
  obtain ⟨p, l, e, R, s, m, args, below, meth, c, k0, P⟩ := B
  obtain ⟨rfl, rfl, hx, hZ, hown, hby, hml, hrt, hlk, hnm, hw, hPe⟩ := H
  intro T locs c1 s1 X F hc hs eT hk
  exact own_go (fun t q => XT.l2i X.here hx rfl (hb hby hd) rfl q) (k T locs c1 s1 X F hc hs eT hk)
theorem own_i2b (H : own_Ok B Z a0 l R y code N ret) {x : Int32} {v : Int32} (hv : x.toInt8.toInt32 = v) (hd : decode code pc = .ok (.i2b, 1)) (k : own_G B n0 Q kc ks cells slots h (pc + 1) Ls (.int v :: st)) : own_G B n0 Q kc ks cells slots h pc Ls (.int x :: st) := by
  subst hv
  obtain ⟨p, l, e, R, s, m, args, below, meth, c, k0, P⟩ := B
  obtain ⟨rfl, rfl, hx, hZ, hown, hby, hml, hrt, hlk, hnm, hw, hPe⟩ := H
  intro T locs c1 s1 X F hc hs eT hk
  exact own_go (fun t q => XT.i2b X.here hx rfl (hb hby hd) rfl q) (k T locs c1 s1 X F hc hs eT hk)
theorem own_i2c (H : own_Ok B Z a0 l R y code N ret) {x : Int32} {v : Int32} (hv : x.toUInt32.toUInt16.toUInt32.toInt32 = v) (hd : decode code pc = .ok (.i2c, 1)) (k : own_G B n0 Q kc ks cells slots h (pc + 1) Ls (.int v :: st)) : own_G B n0 Q kc ks cells slots h pc Ls (.int x :: st) := by
  subst hv
  obtain ⟨p, l, e, R, s, m, args, below, meth, c, k0, P⟩ := B
  obtain ⟨rfl, rfl, hx, hZ, hown, hby, hml, hrt, hlk, hnm, hw, hPe⟩ := H
  intro T locs c1 s1 X F hc hs eT hk
  exact own_go (fun t q => XT.i2c X.here hx rfl (hb hby hd) rfl q) (k T locs c1 s1 X F hc hs eT hk)
theorem own_i2s (H : own_Ok B Z a0 l R y code N ret) {x : Int32} {v : Int32} (hv : x.toInt16.toInt32 = v) (hd : decode code pc = .ok (.i2s, 1)) (k : own_G B n0 Q kc ks cells slots h (pc + 1) Ls (.int v :: st)) : own_G B n0 Q kc ks cells slots h pc Ls (.int x :: st) := by
  subst hv
  obtain ⟨p, l, e, R, s, m, args, below, meth, c, k0, P⟩ := B
  obtain ⟨rfl, rfl, hx, hZ, hown, hby, hml, hrt, hlk, hnm, hw, hPe⟩ := H
  intro T locs c1 s1 X F hc hs eT hk
  exact own_go (fun t q => XT.i2s X.here hx rfl (hb hby hd) rfl q) (k T locs c1 s1 X F hc hs eT hk)
theorem own_iconst (H : own_Ok B Z a0 l R y code N ret) {i : Int} (v : Int32) (hv : Int32.ofInt i = v) (hd : decode code pc = .ok (.iconst i, 1)) (k : own_G B n0 Q kc ks cells slots h (pc + 1) Ls (.int v :: st)) : own_G B n0 Q kc ks cells slots h pc Ls st := by
  obtain ⟨p, l, e, R, s, m, args, below, meth, c, k0, P⟩ := B
  obtain ⟨rfl, rfl, hx, hZ, hown, hby, hml, hrt, hlk, hnm, hw, hPe⟩ := H
  intro T locs c1 s1 X F hc hs eT hk
  exact own_go (fun t q => XT.iconstV X.here hx rfl v (hb hby hd) hv q) (k T locs c1 s1 X F hc hs eT hk)
theorem own_bipush (H : own_Ok B Z a0 l R y code N ret) {i : Int} (v : Int32) (hv : (Int8.ofInt i).toInt32 = v) (hd : decode code pc = .ok (.bipush i, 2)) (k : own_G B n0 Q kc ks cells slots h (pc + 2) Ls (.int v :: st)) : own_G B n0 Q kc ks cells slots h pc Ls st := by
  obtain ⟨p, l, e, R, s, m, args, below, meth, c, k0, P⟩ := B
  obtain ⟨rfl, rfl, hx, hZ, hown, hby, hml, hrt, hlk, hnm, hw, hPe⟩ := H
  intro T locs c1 s1 X F hc hs eT hk
  exact own_go (fun t q => XT.bipushV X.here hx rfl v (hb hby hd) hv q) (k T locs c1 s1 X F hc hs eT hk)
theorem own_sipush (H : own_Ok B Z a0 l R y code N ret) {i : Int} (v : Int32) (hv : (Int16.ofInt i).toInt32 = v) (hd : decode code pc = .ok (.sipush i, 3)) (k : own_G B n0 Q kc ks cells slots h (pc + 3) Ls (.int v :: st)) : own_G B n0 Q kc ks cells slots h pc Ls st := by
  obtain ⟨p, l, e, R, s, m, args, below, meth, c, k0, P⟩ := B
  obtain ⟨rfl, rfl, hx, hZ, hown, hby, hml, hrt, hlk, hnm, hw, hPe⟩ := H
  intro T locs c1 s1 X F hc hs eT hk
  exact own_go (fun t q => XT.sipushV X.here hx rfl v (hb hby hd) hv q) (k T locs c1 s1 X F hc hs eT hk)
theorem own_lconst (H : own_Ok B Z a0 l R y code N ret) {i : Fin 2} (v : Int64) (hv : Int64.ofNat i = v) (hd : decode code pc = .ok (.lconst i, 1)) (k : own_G B n0 Q kc ks cells slots h (pc + 1) Ls (.long v :: st)) : own_G B n0 Q kc ks cells slots h pc Ls st := by
  obtain ⟨p, l, e, R, s, m, args, below, meth, c, k0, P⟩ := B
  obtain ⟨rfl, rfl, hx, hZ, hown, hby, hml, hrt, hlk, hnm, hw, hPe⟩ := H
  intro T locs c1 s1 X F hc hs eT hk
  exact own_go (fun t q => XT.lconstV X.here hx rfl v (hb hby hd) hv q) (k T locs c1 s1 X F hc hs eT hk)
theorem own_aconst_null (H : own_Ok B Z a0 l R y code N ret)  (hd : decode code pc = .ok (.aconst_null, 1)) (k : own_G B n0 Q kc ks cells slots h (pc + 1) Ls (.null :: st)) : own_G B n0 Q kc ks cells slots h pc Ls st := by
  obtain ⟨p, l, e, R, s, m, args, below, meth, c, k0, P⟩ := B
  obtain ⟨rfl, rfl, hx, hZ, hown, hby, hml, hrt, hlk, hnm, hw, hPe⟩ := H
  intro T locs c1 s1 X F hc hs eT hk
  exact own_go (fun t q => XS.aconstNull X.here hx rfl (hb hby hd)  q) (k T locs c1 s1 X F hc hs eT hk)
theorem own_dup (H : own_Ok B Z a0 l R y code N ret) {x : Value} (hq : x.category = 1) (hd : decode code pc = .ok (.dup, 1)) (k : own_G B n0 Q kc ks cells slots h (pc + 1) Ls (x :: x :: st)) : own_G B n0 Q kc ks cells slots h pc Ls (x :: st) := by
  obtain ⟨p, l, e, R, s, m, args, below, meth, c, k0, P⟩ := B
  obtain ⟨rfl, rfl, hx, hZ, hown, hby, hml, hrt, hlk, hnm, hw, hPe⟩ := H
  intro T locs c1 s1 X F hc hs eT hk
  exact own_go (fun t q => XS.dup X.here hx rfl (hb hby hd) rfl hq q) (k T locs c1 s1 X F hc hs eT hk)
theorem own_dup2 (H : own_Ok B Z a0 l R y code N ret) {x z : Value} (hq : x.category = 1) (hq' : z.category = 1) (hd : decode code pc = .ok (.dup2, 1)) (k : own_G B n0 Q kc ks cells slots h (pc + 1) Ls (x :: z :: x :: z :: st)) : own_G B n0 Q kc ks cells slots h pc Ls (x :: z :: st) := by
  obtain ⟨p, l, e, R, s, m, args, below, meth, c, k0, P⟩ := B
  obtain ⟨rfl, rfl, hx, hZ, hown, hby, hml, hrt, hlk, hnm, hw, hPe⟩ := H
  intro T locs c1 s1 X F hc hs eT hk
  exact own_go (fun t q => XT.dup2 X.here hx rfl (hb hby hd) rfl hq hq' q) (k T locs c1 s1 X F hc hs eT hk)
theorem own_dup2L (H : own_Ok B Z a0 l R y code N ret) {x : Int64} (hd : decode code pc = .ok (.dup2, 1)) (k : own_G B n0 Q kc ks cells slots h (pc + 1) Ls (.long x :: .long x :: st)) : own_G B n0 Q kc ks cells slots h pc Ls (.long x :: st) := by
  obtain ⟨p, l, e, R, s, m, args, below, meth, c, k0, P⟩ := B
  obtain ⟨rfl, rfl, hx, hZ, hown, hby, hml, hrt, hlk, hnm, hw, hPe⟩ := H
  intro T locs c1 s1 X F hc hs eT hk
  exact own_go (fun t q => XT.dup2L X.here hx rfl (hb hby hd) rfl q) (k T locs c1 s1 X F hc hs eT hk)
theorem own_dup_x1 (H : own_Ok B Z a0 l R y code N ret) {x z : Value} (hq : x.category = 1) (hq' : z.category = 1) (hd : decode code pc = .ok (.dup_x1, 1)) (k : own_G B n0 Q kc ks cells slots h (pc + 1) Ls (x :: z :: x :: st)) : own_G B n0 Q kc ks cells slots h pc Ls (x :: z :: st) := by
  obtain ⟨p, l, e, R, s, m, args, below, meth, c, k0, P⟩ := B
  obtain ⟨rfl, rfl, hx, hZ, hown, hby, hml, hrt, hlk, hnm, hw, hPe⟩ := H
  intro T locs c1 s1 X F hc hs eT hk
  exact own_go (fun t q => XT.dupX1 X.here hx rfl (hb hby hd) rfl hq hq' q) (k T locs c1 s1 X F hc hs eT hk)
theorem own_pop (H : own_Ok B Z a0 l R y code N ret) {x : Value} (hq : x.category = 1) (hd : decode code pc = .ok (.pop, 1)) (k : own_G B n0 Q kc ks cells slots h (pc + 1) Ls st) : own_G B n0 Q kc ks cells slots h pc Ls (x :: st) := by
  obtain ⟨p, l, e, R, s, m, args, below, meth, c, k0, P⟩ := B
  obtain ⟨rfl, rfl, hx, hZ, hown, hby, hml, hrt, hlk, hnm, hw, hPe⟩ := H
  intro T locs c1 s1 X F hc hs eT hk
  exact own_go (fun t q => XT.pop X.here hx rfl (hb hby hd) rfl hq q) (k T locs c1 s1 X F hc hs eT hk)
theorem own_iload_n (H : own_Ok B Z a0 l R y code N ret) {i : Fin 4} {v : Int32} (hl : Ls[i.val]? = some (.val (.int v))) (hd : decode code pc = .ok (.iload_n i, 1)) (k : own_G B n0 Q kc ks cells slots h (pc + 1) Ls (.int v :: st)) : own_G B n0 Q kc ks cells slots h pc Ls st := by
  obtain ⟨p, l, e, R, s, m, args, below, meth, c, k0, P⟩ := B
  obtain ⟨rfl, rfl, hx, hZ, hown, hby, hml, hrt, hlk, hnm, hw, hPe⟩ := H
  intro T locs c1 s1 X F hc hs eT hk
  exact own_go (fun t q => XS.iloadN X.here hx rfl (hb hby hd) hl q) (k T locs c1 s1 X F hc hs eT hk)
theorem own_iload (H : own_Ok B Z a0 l R y code N ret) {i : Nat} {v : Int32} (hl : Ls[i]? = some (.val (.int v))) (hd : decode code pc = .ok (.iload i, 2)) (k : own_G B n0 Q kc ks cells slots h (pc + 2) Ls (.int v :: st)) : own_G B n0 Q kc ks cells slots h pc Ls st := by
  obtain ⟨p, l, e, R, s, m, args, below, meth, c, k0, P⟩ := B
  obtain ⟨rfl, rfl, hx, hZ, hown, hby, hml, hrt, hlk, hnm, hw, hPe⟩ := H
  intro T locs c1 s1 X F hc hs eT hk
  exact own_go (fun t q => XS.iload X.here hx rfl (hb hby hd) hl q) (k T locs c1 s1 X F hc hs eT hk)
theorem own_lload_n (H : own_Ok B Z a0 l R y code N ret) {i : Fin 4} {v : Int64} (hl : Ls[i.val]? = some (.val (.long v))) (hd : decode code pc = .ok (.lload_n i, 1)) (k : own_G B n0 Q kc ks cells slots h (pc + 1) Ls (.long v :: st)) : own_G B n0 Q kc ks cells slots h pc Ls st := by
  obtain ⟨p, l, e, R, s, m, args, below, meth, c, k0, P⟩ := B
  obtain ⟨rfl, rfl, hx, hZ, hown, hby, hml, hrt, hlk, hnm, hw, hPe⟩ := H
  intro T locs c1 s1 X F hc hs eT hk
  exact own_go (fun t q => XT.lloadN X.here hx rfl (hb hby hd) hl q) (k T locs c1 s1 X F hc hs eT hk)
theorem own_lload (H : own_Ok B Z a0 l R y code N ret) {i : Nat} {v : Int64} (hl : Ls[i]? = some (.val (.long v))) (hd : decode code pc = .ok (.lload i, 2)) (k : own_G B n0 Q kc ks cells slots h (pc + 2) Ls (.long v :: st)) : own_G B n0 Q kc ks cells slots h pc Ls st := by
  obtain ⟨p, l, e, R, s, m, args, below, meth, c, k0, P⟩ := B
  obtain ⟨rfl, rfl, hx, hZ, hown, hby, hml, hrt, hlk, hnm, hw, hPe⟩ := H
  intro T locs c1 s1 X F hc hs eT hk
  exact own_go (fun t q => XT.lload X.here hx rfl (hb hby hd) hl q) (k T locs c1 s1 X F hc hs eT hk)
theorem own_aload_n (H : own_Ok B Z a0 l R y code N ret) {i : Fin 4} {v : Value} (hl : Ls[i.val]? = some (.val v)) (hv : v.isRef = true) (hd : decode code pc = .ok (.aload_n i, 1)) (k : own_G B n0 Q kc ks cells slots h (pc + 1) Ls (v :: st)) : own_G B n0 Q kc ks cells slots h pc Ls st := by
  obtain ⟨p, l, e, R, s, m, args, below, meth, c, k0, P⟩ := B
  obtain ⟨rfl, rfl, hx, hZ, hown, hby, hml, hrt, hlk, hnm, hw, hPe⟩ := H
  intro T locs c1 s1 X F hc hs eT hk
  exact own_go (fun t q => XS.aloadN X.here hx rfl (hb hby hd) hl hv q) (k T locs c1 s1 X F hc hs eT hk)
theorem own_aload (H : own_Ok B Z a0 l R y code N ret) {i : Nat} {v : Value} (hl : Ls[i]? = some (.val v)) (hv : v.isRef = true) (hd : decode code pc = .ok (.aload i, 2)) (k : own_G B n0 Q kc ks cells slots h (pc + 2) Ls (v :: st)) : own_G B n0 Q kc ks cells slots h pc Ls st := by
  obtain ⟨p, l, e, R, s, m, args, below, meth, c, k0, P⟩ := B
  obtain ⟨rfl, rfl, hx, hZ, hown, hby, hml, hrt, hlk, hnm, hw, hPe⟩ := H
  intro T locs c1 s1 X F hc hs eT hk
  exact own_go (fun t q => XS.aload X.here hx rfl (hb hby hd) hl hv q) (k T locs c1 s1 X F hc hs eT hk)
theorem own_istore_n (H : own_Ok B Z a0 l R y code N ret) {i : Fin 4} {x : Int32} (Ls' : Array Slot) (hl : storeLocals Ls i.val (.int x) = some Ls') (hd : decode code pc = .ok (.istore_n i, 1)) (k : own_G B n0 Q kc ks cells slots h (pc + 1) Ls' st) : own_G B n0 Q kc ks cells slots h pc Ls (.int x :: st) := by
  obtain ⟨p, l, e, R, s, m, args, below, meth, c, k0, P⟩ := B
  obtain ⟨rfl, rfl, hx, hZ, hown, hby, hml, hrt, hlk, hnm, hw, hPe⟩ := H
  intro T locs c1 s1 X F hc hs eT hk
  exact own_go (fun t q => XS.istoreN X.here hx rfl (hb hby hd) rfl hl q) (k T locs c1 s1 X F hc hs eT hk)
theorem own_istore (H : own_Ok B Z a0 l R y code N ret) {i : Nat} {x : Int32} (Ls' : Array Slot) (hl : storeLocals Ls i (.int x) = some Ls') (hd : decode code pc = .ok (.istore i, 2)) (k : own_G B n0 Q kc ks cells slots h (pc + 2) Ls' st) : own_G B n0 Q kc ks cells slots h pc Ls (.int x :: st) := by
  obtain ⟨p, l, e, R, s, m, args, below, meth, c, k0, P⟩ := B
  obtain ⟨rfl, rfl, hx, hZ, hown, hby, hml, hrt, hlk, hnm, hw, hPe⟩ := H
  intro T locs c1 s1 X F hc hs eT hk
  exact own_go (fun t q => XS.istore X.here hx rfl (hb hby hd) rfl hl q) (k T locs c1 s1 X F hc hs eT hk)
theorem own_lstore_n (H : own_Ok B Z a0 l R y code N ret) {i : Fin 4} {x : Int64} (Ls' : Array Slot) (hl : storeLocals Ls i.val (.long x) = some Ls') (hd : decode code pc = .ok (.lstore_n i, 1)) (k : own_G B n0 Q kc ks cells slots h (pc + 1) Ls' st) : own_G B n0 Q kc ks cells slots h pc Ls (.long x :: st) := by
  obtain ⟨p, l, e, R, s, m, args, below, meth, c, k0, P⟩ := B
  obtain ⟨rfl, rfl, hx, hZ, hown, hby, hml, hrt, hlk, hnm, hw, hPe⟩ := H
  intro T locs c1 s1 X F hc hs eT hk
  exact own_go (fun t q => XT.lstoreN X.here hx rfl (hb hby hd) rfl hl q) (k T locs c1 s1 X F hc hs eT hk)
theorem own_lstore (H : own_Ok B Z a0 l R y code N ret) {i : Nat} {x : Int64} (Ls' : Array Slot) (hl : storeLocals Ls i (.long x) = some Ls') (hd : decode code pc = .ok (.lstore i, 2)) (k : own_G B n0 Q kc ks cells slots h (pc + 2) Ls' st) : own_G B n0 Q kc ks cells slots h pc Ls (.long x :: st) := by
  obtain ⟨p, l, e, R, s, m, args, below, meth, c, k0, P⟩ := B
  obtain ⟨rfl, rfl, hx, hZ, hown, hby, hml, hrt, hlk, hnm, hw, hPe⟩ := H
  intro T locs c1 s1 X F hc hs eT hk
  exact own_go (fun t q => XT.lstore X.here hx rfl (hb hby hd) rfl hl q) (k T locs c1 s1 X F hc hs eT hk)
theorem own_astore_n (H : own_Ok B Z a0 l R y code N ret) {i : Fin 4} {x : Value} (hv : x.isRef = true) (Ls' : Array Slot) (hl : storeLocals Ls i.val x = some Ls') (hd : decode code pc = .ok (.astore_n i, 1)) (k : own_G B n0 Q kc ks cells slots h (pc + 1) Ls' st) : own_G B n0 Q kc ks cells slots h pc Ls (x :: st) := by
  obtain ⟨p, l, e, R, s, m, args, below, meth, c, k0, P⟩ := B
  obtain ⟨rfl, rfl, hx, hZ, hown, hby, hml, hrt, hlk, hnm, hw, hPe⟩ := H
  intro T locs c1 s1 X F hc hs eT hk
  exact own_go (fun t q => XS.astoreN X.here hx rfl (hb hby hd) rfl hv hl q) (k T locs c1 s1 X F hc hs eT hk)
theorem own_astore (H : own_Ok B Z a0 l R y code N ret) {i : Nat} {x : Value} (hv : x.isRef = true) (Ls' : Array Slot) (hl : storeLocals Ls i x = some Ls') (hd : decode code pc = .ok (.astore i, 2)) (k : own_G B n0 Q kc ks cells slots h (pc + 2) Ls' st) : own_G B n0 Q kc ks cells slots h pc Ls (x :: st) := by
  obtain ⟨p, l, e, R, s, m, args, below, meth, c, k0, P⟩ := B
  obtain ⟨rfl, rfl, hx, hZ, hown, hby, hml, hrt, hlk, hnm, hw, hPe⟩ := H
  intro T locs c1 s1 X F hc hs eT hk
  exact own_go (fun t q => XS.astore X.here hx rfl (hb hby hd) rfl hv hl q) (k T locs c1 s1 X F hc hs eT hk)
theorem own_iinc (H : own_Ok B Z a0 l R y code N ret) {i : Nat} {cst : Int} {x u : Int32} (v : Int32) (hv : Int32.ofInt cst = v) (hl : Ls[i]? = some (.val (.int x))) (hu : x + v = u) (Ls' : Array Slot) (hl' : storeLocals Ls i (.int u) = some Ls') (hd : decode code pc = .ok (.iinc i cst, 3)) (k : own_G B n0 Q kc ks cells slots h (pc + 3) Ls' st) : own_G B n0 Q kc ks cells slots h pc Ls st := by
  subst hu
  obtain ⟨p, l, e, R, s, m, args, below, meth, c, k0, P⟩ := B
  obtain ⟨rfl, rfl, hx, hZ, hown, hby, hml, hrt, hlk, hnm, hw, hPe⟩ := H
  intro T locs c1 s1 X F hc hs eT hk
  exact own_go (fun t q => XT.iincV X.here hx rfl v (hb hby hd) hv hl hl' q) (k T locs c1 s1 X F hc hs eT hk)
theorem own_goto (H : own_Ok B Z a0 l R y code N ret) {o : Int} (hd : decode code pc = .ok (.goto o, 3)) (ho : 0 ≤ (pc : Int) + o) (hp : ((pc : Int) + o).toNat = pc') (k : own_G B n0 Q kc ks cells slots h pc' Ls st) : own_G B n0 Q kc ks cells slots h pc Ls st := by
  obtain ⟨p, l, e, R, s, m, args, below, meth, c, k0, P⟩ := B
  obtain ⟨rfl, rfl, hx, hZ, hown, hby, hml, hrt, hlk, hnm, hw, hPe⟩ := H
  intro T locs c1 s1 X F hc hs eT hk
  exact own_go (fun t q => XS.goto X.here hx rfl rfl (hb hby hd) ho hp q) (k T locs c1 s1 X F hc hs eT hk)
theorem own_ifeq_t (H : own_Ok B Z a0 l R y code N ret) {x : Int32} {o : Int} (hd : decode code pc = .ok (.ifCond .eq o, 3)) (ho : 0 ≤ (pc : Int) + o) (hp : ((pc : Int) + o).toNat = pc') (hq : x = 0) (k : own_G B n0 Q kc ks cells slots h pc' Ls st) : own_G B n0 Q kc ks cells slots h pc Ls (.int x :: st) := by
  obtain ⟨p, l, e, R, s, m, args, below, meth, c, k0, P⟩ := B
  obtain ⟨rfl, rfl, hx, hZ, hown, hby, hml, hrt, hlk, hnm, hw, hPe⟩ := H
  intro T locs c1 s1 X F hc hs eT hk
  exact own_go (fun t q => XS.ifYes X.here hx rfl rfl (hb hby hd) rfl (XT.i0_eq_t hq) ho hp q) (k T locs c1 s1 X F hc hs eT hk)
theorem own_ifeq_f (H : own_Ok B Z a0 l R y code N ret) {x : Int32} {o : Int} (hd : decode code pc = .ok (.ifCond .eq o, 3)) (hq : ¬ x = 0) (k : own_G B n0 Q kc ks cells slots h (pc + 3) Ls st) : own_G B n0 Q kc ks cells slots h pc Ls (.int x :: st) := by
  obtain ⟨p, l, e, R, s, m, args, below, meth, c, k0, P⟩ := B
  obtain ⟨rfl, rfl, hx, hZ, hown, hby, hml, hrt, hlk, hnm, hw, hPe⟩ := H
  intro T locs c1 s1 X F hc hs eT hk
  exact own_go (fun t q => XS.ifNo X.here hx rfl (hb hby hd) rfl (XT.i0_eq_f hq) q) (k T locs c1 s1 X F hc hs eT hk)
theorem own_icmpeq_t (H : own_Ok B Z a0 l R y code N ret) {x z : Int32} {o : Int} (hd : decode code pc = .ok (.if_icmp .eq o, 3)) (ho : 0 ≤ (pc : Int) + o) (hp : ((pc : Int) + o).toNat = pc') (hq : x = z) (k : own_G B n0 Q kc ks cells slots h pc' Ls st) : own_G B n0 Q kc ks cells slots h pc Ls (.int z :: .int x :: st) := by
  obtain ⟨p, l, e, R, s, m, args, below, meth, c, k0, P⟩ := B
  obtain ⟨rfl, rfl, hx, hZ, hown, hby, hml, hrt, hlk, hnm, hw, hPe⟩ := H
  intro T locs c1 s1 X F hc hs eT hk
  exact own_go (fun t q => XS.icmpYes X.here hx rfl rfl (hb hby hd) rfl (XT.ii_eq_t hq) ho hp q) (k T locs c1 s1 X F hc hs eT hk)
theorem own_icmpeq_f (H : own_Ok B Z a0 l R y code N ret) {x z : Int32} {o : Int} (hd : decode code pc = .ok (.if_icmp .eq o, 3)) (hq : ¬ x = z) (k : own_G B n0 Q kc ks cells slots h (pc + 3) Ls st) : own_G B n0 Q kc ks cells slots h pc Ls (.int z :: .int x :: st) := by
  obtain ⟨p, l, e, R, s, m, args, below, meth, c, k0, P⟩ := B
  obtain ⟨rfl, rfl, hx, hZ, hown, hby, hml, hrt, hlk, hnm, hw, hPe⟩ := H
  intro T locs c1 s1 X F hc hs eT hk
  exact own_go (fun t q => XS.icmpNo X.here hx rfl (hb hby hd) rfl (XT.ii_eq_f hq) q) (k T locs c1 s1 X F hc hs eT hk)
theorem own_lcmpeq_t (H : own_Ok B Z a0 l R y code N ret) {x z : Int64} {o : Int} (hd0 : decode code pc = .ok (.lcmp, 1)) (hd : decode code (pc + 1) = .ok (.ifCond .eq o, 3)) (ho : 0 ≤ ((pc + 1 : Nat) : Int) + o) (hp : (((pc + 1 : Nat) : Int) + o).toNat = pc') (hq : x = z) (k : own_G B n0 Q kc ks cells slots h pc' Ls st) : own_G B n0 Q kc ks cells slots h pc Ls (.long z :: .long x :: st) := by
  obtain ⟨p, l, e, R, s, m, args, below, meth, c, k0, P⟩ := B
  obtain ⟨rfl, rfl, hx, hZ, hown, hby, hml, hrt, hlk, hnm, hw, hPe⟩ := H
  intro T locs c1 s1 X F hc hs eT hk
  exact own_go (fun t q => XT.lcmp X.here hx rfl (hb hby hd0) rfl (XS.ifYes X.here hx rfl rfl (hb hby hd) rfl (XT.ll_eq_t hq) ho hp q)) (k T locs c1 s1 X F hc hs eT hk)
theorem own_lcmpeq_f (H : own_Ok B Z a0 l R y code N ret) {x z : Int64} {o : Int} (hd0 : decode code pc = .ok (.lcmp, 1)) (hd : decode code (pc + 1) = .ok (.ifCond .eq o, 3)) (hq : ¬ x = z) (k : own_G B n0 Q kc ks cells slots h (pc + 4) Ls st) : own_G B n0 Q kc ks cells slots h pc Ls (.long z :: .long x :: st) := by
  obtain ⟨p, l, e, R, s, m, args, below, meth, c, k0, P⟩ := B
  obtain ⟨rfl, rfl, hx, hZ, hown, hby, hml, hrt, hlk, hnm, hw, hPe⟩ := H
  intro T locs c1 s1 X F hc hs eT hk
  exact own_go (fun t q => XT.lcmp X.here hx rfl (hb hby hd0) rfl (XS.ifNo X.here hx rfl (hb hby hd) rfl (XT.ll_eq_f hq) q)) (k T locs c1 s1 X F hc hs eT hk)
theorem own_ifne_t (H : own_Ok B Z a0 l R y code N ret) {x : Int32} {o : Int} (hd : decode code pc = .ok (.ifCond .ne o, 3)) (ho : 0 ≤ (pc : Int) + o) (hp : ((pc : Int) + o).toNat = pc') (hq : ¬ x = 0) (k : own_G B n0 Q kc ks cells slots h pc' Ls st) : own_G B n0 Q kc ks cells slots h pc Ls (.int x :: st) := by
  obtain ⟨p, l, e, R, s, m, args, below, meth, c, k0, P⟩ := B
  obtain ⟨rfl, rfl, hx, hZ, hown, hby, hml, hrt, hlk, hnm, hw, hPe⟩ := H
  intro T locs c1 s1 X F hc hs eT hk
  exact own_go (fun t q => XS.ifYes X.here hx rfl rfl (hb hby hd) rfl (XT.i0_ne_t hq) ho hp q) (k T locs c1 s1 X F hc hs eT hk)
theorem own_ifne_f (H : own_Ok B Z a0 l R y code N ret) {x : Int32} {o : Int} (hd : decode code pc = .ok (.ifCond .ne o, 3)) (hq : x = 0) (k : own_G B n0 Q kc ks cells slots h (pc + 3) Ls st) : own_G B n0 Q kc ks cells slots h pc Ls (.int x :: st) := by
  obtain ⟨p, l, e, R, s, m, args, below, meth, c, k0, P⟩ := B
  obtain ⟨rfl, rfl, hx, hZ, hown, hby, hml, hrt, hlk, hnm, hw, hPe⟩ := H
  intro T locs c1 s1 X F hc hs eT hk
  exact own_go (fun t q => XS.ifNo X.here hx rfl (hb hby hd) rfl (XT.i0_ne_f hq) q) (k T locs c1 s1 X F hc hs eT hk)
theorem own_icmpne_t (H : own_Ok B Z a0 l R y code N ret) {x z : Int32} {o : Int} (hd : decode code pc = .ok (.if_icmp .ne o, 3)) (ho : 0 ≤ (pc : Int) + o) (hp : ((pc : Int) + o).toNat = pc') (hq : ¬ x = z) (k : own_G B n0 Q kc ks cells slots h pc' Ls st) : own_G B n0 Q kc ks cells slots h pc Ls (.int z :: .int x :: st) := by
  obtain ⟨p, l, e, R, s, m, args, below, meth, c, k0, P⟩ := B
  obtain ⟨rfl, rfl, hx, hZ, hown, hby, hml, hrt, hlk, hnm, hw, hPe⟩ := H
  intro T locs c1 s1 X F hc hs eT hk
  exact own_go (fun t q => XS.icmpYes X.here hx rfl rfl (hb hby hd) rfl (XT.ii_ne_t hq) ho hp q) (k T locs c1 s1 X F hc hs eT hk)
theorem own_icmpne_f (H : own_Ok B Z a0 l R y code N ret) {x z : Int32} {o : Int} (hd : decode code pc = .ok (.if_icmp .ne o, 3)) (hq : x = z) (k : own_G B n0 Q kc ks cells slots h (pc + 3) Ls st) : own_G B n0 Q kc ks cells slots h pc Ls (.int z :: .int x :: st) := by
  obtain ⟨p, l, e, R, s, m, args, below, meth, c, k0, P⟩ := B
  obtain ⟨rfl, rfl, hx, hZ, hown, hby, hml, hrt, hlk, hnm, hw, hPe⟩ := H
  intro T locs c1 s1 X F hc hs eT hk
  exact own_go (fun t q => XS.icmpNo X.here hx rfl (hb hby hd) rfl (XT.ii_ne_f hq) q) (k T locs c1 s1 X F hc hs eT hk)
theorem own_lcmpne_t (H : own_Ok B Z a0 l R y code N ret) {x z : Int64} {o : Int} (hd0 : decode code pc = .ok (.lcmp, 1)) (hd : decode code (pc + 1) = .ok (.ifCond .ne o, 3)) (ho : 0 ≤ ((pc + 1 : Nat) : Int) + o) (hp : (((pc + 1 : Nat) : Int) + o).toNat = pc') (hq : ¬ x = z) (k : own_G B n0 Q kc ks cells slots h pc' Ls st) : own_G B n0 Q kc ks cells slots h pc Ls (.long z :: .long x :: st) := by
  obtain ⟨p, l, e, R, s, m, args, below, meth, c, k0, P⟩ := B
  obtain ⟨rfl, rfl, hx, hZ, hown, hby, hml, hrt, hlk, hnm, hw, hPe⟩ := H
  intro T locs c1 s1 X F hc hs eT hk
  exact own_go (fun t q => XT.lcmp X.here hx rfl (hb hby hd0) rfl (XS.ifYes X.here hx rfl rfl (hb hby hd) rfl (XT.ll_ne_t hq) ho hp q)) (k T locs c1 s1 X F hc hs eT hk)
theorem own_lcmpne_f (H : own_Ok B Z a0 l R y code N ret) {x z : Int64} {o : Int} (hd0 : decode code pc = .ok (.lcmp, 1)) (hd : decode code (pc + 1) = .ok (.ifCond .ne o, 3)) (hq : x = z) (k : own_G B n0 Q kc ks cells slots h (pc + 4) Ls st) : own_G B n0 Q kc ks cells slots h pc Ls (.long z :: .long x :: st) := by
  obtain ⟨p, l, e, R, s, m, args, below, meth, c, k0, P⟩ := B
  obtain ⟨rfl, rfl, hx, hZ, hown, hby, hml, hrt, hlk, hnm, hw, hPe⟩ := H
  intro T locs c1 s1 X F hc hs eT hk
  exact own_go (fun t q => XT.lcmp X.here hx rfl (hb hby hd0) rfl (XS.ifNo X.here hx rfl (hb hby hd) rfl (XT.ll_ne_f hq) q)) (k T locs c1 s1 X F hc hs eT hk)
theorem own_iflt_t (H : own_Ok B Z a0 l R y code N ret) {x : Int32} {o : Int} (hd : decode code pc = .ok (.ifCond .lt o, 3)) (ho : 0 ≤ (pc : Int) + o) (hp : ((pc : Int) + o).toNat = pc') (hq : x < 0) (k : own_G B n0 Q kc ks cells slots h pc' Ls st) : own_G B n0 Q kc ks cells slots h pc Ls (.int x :: st) := by
  obtain ⟨p, l, e, R, s, m, args, below, meth, c, k0, P⟩ := B
  obtain ⟨rfl, rfl, hx, hZ, hown, hby, hml, hrt, hlk, hnm, hw, hPe⟩ := H
  intro T locs c1 s1 X F hc hs eT hk
  exact own_go (fun t q => XS.ifYes X.here hx rfl rfl (hb hby hd) rfl (XT.i0_lt_t hq) ho hp q) (k T locs c1 s1 X F hc hs eT hk)
theorem own_iflt_f (H : own_Ok B Z a0 l R y code N ret) {x : Int32} {o : Int} (hd : decode code pc = .ok (.ifCond .lt o, 3)) (hq : ¬ x < 0) (k : own_G B n0 Q kc ks cells slots h (pc + 3) Ls st) : own_G B n0 Q kc ks cells slots h pc Ls (.int x :: st) := by
  obtain ⟨p, l, e, R, s, m, args, below, meth, c, k0, P⟩ := B
  obtain ⟨rfl, rfl, hx, hZ, hown, hby, hml, hrt, hlk, hnm, hw, hPe⟩ := H
  intro T locs c1 s1 X F hc hs eT hk
  exact own_go (fun t q => XS.ifNo X.here hx rfl (hb hby hd) rfl (XT.i0_lt_f hq) q) (k T locs c1 s1 X F hc hs eT hk)
theorem own_icmplt_t (H : own_Ok B Z a0 l R y code N ret) {x z : Int32} {o : Int} (hd : decode code pc = .ok (.if_icmp .lt o, 3)) (ho : 0 ≤ (pc : Int) + o) (hp : ((pc : Int) + o).toNat = pc') (hq : x < z) (k : own_G B n0 Q kc ks cells slots h pc' Ls st) : own_G B n0 Q kc ks cells slots h pc Ls (.int z :: .int x :: st) := by
  obtain ⟨p, l, e, R, s, m, args, below, meth, c, k0, P⟩ := B
  obtain ⟨rfl, rfl, hx, hZ, hown, hby, hml, hrt, hlk, hnm, hw, hPe⟩ := H
  intro T locs c1 s1 X F hc hs eT hk
  exact own_go (fun t q => XS.icmpYes X.here hx rfl rfl (hb hby hd) rfl (XT.ii_lt_t hq) ho hp q) (k T locs c1 s1 X F hc hs eT hk)
theorem own_icmplt_f (H : own_Ok B Z a0 l R y code N ret) {x z : Int32} {o : Int} (hd : decode code pc = .ok (.if_icmp .lt o, 3)) (hq : ¬ x < z) (k : own_G B n0 Q kc ks cells slots h (pc + 3) Ls st) : own_G B n0 Q kc ks cells slots h pc Ls (.int z :: .int x :: st) := by
  obtain ⟨p, l, e, R, s, m, args, below, meth, c, k0, P⟩ := B
  obtain ⟨rfl, rfl, hx, hZ, hown, hby, hml, hrt, hlk, hnm, hw, hPe⟩ := H
  intro T locs c1 s1 X F hc hs eT hk
  exact own_go (fun t q => XS.icmpNo X.here hx rfl (hb hby hd) rfl (XT.ii_lt_f hq) q) (k T locs c1 s1 X F hc hs eT hk)
theorem own_lcmplt_t (H : own_Ok B Z a0 l R y code N ret) {x z : Int64} {o : Int} (hd0 : decode code pc = .ok (.lcmp, 1)) (hd : decode code (pc + 1) = .ok (.ifCond .lt o, 3)) (ho : 0 ≤ ((pc + 1 : Nat) : Int) + o) (hp : (((pc + 1 : Nat) : Int) + o).toNat = pc') (hq : x < z) (k : own_G B n0 Q kc ks cells slots h pc' Ls st) : own_G B n0 Q kc ks cells slots h pc Ls (.long z :: .long x :: st) := by
  obtain ⟨p, l, e, R, s, m, args, below, meth, c, k0, P⟩ := B
  obtain ⟨rfl, rfl, hx, hZ, hown, hby, hml, hrt, hlk, hnm, hw, hPe⟩ := H
  intro T locs c1 s1 X F hc hs eT hk
  exact own_go (fun t q => XT.lcmp X.here hx rfl (hb hby hd0) rfl (XS.ifYes X.here hx rfl rfl (hb hby hd) rfl (XT.ll_lt_t hq) ho hp q)) (k T locs c1 s1 X F hc hs eT hk)
theorem own_lcmplt_f (H : own_Ok B Z a0 l R y code N ret) {x z : Int64} {o : Int} (hd0 : decode code pc = .ok (.lcmp, 1)) (hd : decode code (pc + 1) = .ok (.ifCond .lt o, 3)) (hq : ¬ x < z) (k : own_G B n0 Q kc ks cells slots h (pc + 4) Ls st) : own_G B n0 Q kc ks cells slots h pc Ls (.long z :: .long x :: st) := by
  obtain ⟨p, l, e, R, s, m, args, below, meth, c, k0, P⟩ := B
  obtain ⟨rfl, rfl, hx, hZ, hown, hby, hml, hrt, hlk, hnm, hw, hPe⟩ := H
  intro T locs c1 s1 X F hc hs eT hk
  exact own_go (fun t q => XT.lcmp X.here hx rfl (hb hby hd0) rfl (XS.ifNo X.here hx rfl (hb hby hd) rfl (XT.ll_lt_f hq) q)) (k T locs c1 s1 X F hc hs eT hk)
theorem own_ifge_t (H : own_Ok B Z a0 l R y code N ret) {x : Int32} {o : Int} (hd : decode code pc = .ok (.ifCond .ge o, 3)) (ho : 0 ≤ (pc : Int) + o) (hp : ((pc : Int) + o).toNat = pc') (hq : ¬ x < 0) (k : own_G B n0 Q kc ks cells slots h pc' Ls st) : own_G B n0 Q kc ks cells slots h pc Ls (.int x :: st) := by
  obtain ⟨p, l, e, R, s, m, args, below, meth, c, k0, P⟩ := B
  obtain ⟨rfl, rfl, hx, hZ, hown, hby, hml, hrt, hlk, hnm, hw, hPe⟩ := H
  intro T locs c1 s1 X F hc hs eT hk
  exact own_go (fun t q => XS.ifYes X.here hx rfl rfl (hb hby hd) rfl (XT.i0_ge_t hq) ho hp q) (k T locs c1 s1 X F hc hs eT hk)
theorem own_ifge_f (H : own_Ok B Z a0 l R y code N ret) {x : Int32} {o : Int} (hd : decode code pc = .ok (.ifCond .ge o, 3)) (hq : x < 0) (k : own_G B n0 Q kc ks cells slots h (pc + 3) Ls st) : own_G B n0 Q kc ks cells slots h pc Ls (.int x :: st) := by
  obtain ⟨p, l, e, R, s, m, args, below, meth, c, k0, P⟩ := B
  obtain ⟨rfl, rfl, hx, hZ, hown, hby, hml, hrt, hlk, hnm, hw, hPe⟩ := H
  intro T locs c1 s1 X F hc hs eT hk
  exact own_go (fun t q => XS.ifNo X.here hx rfl (hb hby hd) rfl (XT.i0_ge_f hq) q) (k T locs c1 s1 X F hc hs eT hk)
theorem own_icmpge_t (H : own_Ok B Z a0 l R y code N ret) {x z : Int32} {o : Int} (hd : decode code pc = .ok (.if_icmp .ge o, 3)) (ho : 0 ≤ (pc : Int) + o) (hp : ((pc : Int) + o).toNat = pc') (hq : ¬ x < z) (k : own_G B n0 Q kc ks cells slots h pc' Ls st) : own_G B n0 Q kc ks cells slots h pc Ls (.int z :: .int x :: st) := by
  obtain ⟨p, l, e, R, s, m, args, below, meth, c, k0, P⟩ := B
  obtain ⟨rfl, rfl, hx, hZ, hown, hby, hml, hrt, hlk, hnm, hw, hPe⟩ := H
  intro T locs c1 s1 X F hc hs eT hk
  exact own_go (fun t q => XS.icmpYes X.here hx rfl rfl (hb hby hd) rfl (XT.ii_ge_t hq) ho hp q) (k T locs c1 s1 X F hc hs eT hk)
theorem own_icmpge_f (H : own_Ok B Z a0 l R y code N ret) {x z : Int32} {o : Int} (hd : decode code pc = .ok (.if_icmp .ge o, 3)) (hq : x < z) (k : own_G B n0 Q kc ks cells slots h (pc + 3) Ls st) : own_G B n0 Q kc ks cells slots h pc Ls (.int z :: .int x :: st) := by
  obtain ⟨p, l, e, R, s, m, args, below, meth, c, k0, P⟩ := B
  obtain ⟨rfl, rfl, hx, hZ, hown, hby, hml, hrt, hlk, hnm, hw, hPe⟩ := H
  intro T locs c1 s1 X F hc hs eT hk
  exact own_go (fun t q => XS.icmpNo X.here hx rfl (hb hby hd) rfl (XT.ii_ge_f hq) q) (k T locs c1 s1 X F hc hs eT hk)
theorem own_lcmpge_t (H : own_Ok B Z a0 l R y code N ret) {x z : Int64} {o : Int} (hd0 : decode code pc = .ok (.lcmp, 1)) (hd : decode code (pc + 1) = .ok (.ifCond .ge o, 3)) (ho : 0 ≤ ((pc + 1 : Nat) : Int) + o) (hp : (((pc + 1 : Nat) : Int) + o).toNat = pc') (hq : ¬ x < z) (k : own_G B n0 Q kc ks cells slots h pc' Ls st) : own_G B n0 Q kc ks cells slots h pc Ls (.long z :: .long x :: st) := by
  obtain ⟨p, l, e, R, s, m, args, below, meth, c, k0, P⟩ := B
  obtain ⟨rfl, rfl, hx, hZ, hown, hby, hml, hrt, hlk, hnm, hw, hPe⟩ := H
  intro T locs c1 s1 X F hc hs eT hk
  exact own_go (fun t q => XT.lcmp X.here hx rfl (hb hby hd0) rfl (XS.ifYes X.here hx rfl rfl (hb hby hd) rfl (XT.ll_ge_t hq) ho hp q)) (k T locs c1 s1 X F hc hs eT hk)
theorem own_lcmpge_f (H : own_Ok B Z a0 l R y code N ret) {x z : Int64} {o : Int} (hd0 : decode code pc = .ok (.lcmp, 1)) (hd : decode code (pc + 1) = .ok (.ifCond .ge o, 3)) (hq : x < z) (k : own_G B n0 Q kc ks cells slots h (pc + 4) Ls st) : own_G B n0 Q kc ks cells slots h pc Ls (.long z :: .long x :: st) := by
  obtain ⟨p, l, e, R, s, m, args, below, meth, c, k0, P⟩ := B
  obtain ⟨rfl, rfl, hx, hZ, hown, hby, hml, hrt, hlk, hnm, hw, hPe⟩ := H
  intro T locs c1 s1 X F hc hs eT hk
  exact own_go (fun t q => XT.lcmp X.here hx rfl (hb hby hd0) rfl (XS.ifNo X.here hx rfl (hb hby hd) rfl (XT.ll_ge_f hq) q)) (k T locs c1 s1 X F hc hs eT hk)
theorem own_ifgt_t (H : own_Ok B Z a0 l R y code N ret) {x : Int32} {o : Int} (hd : decode code pc = .ok (.ifCond .gt o, 3)) (ho : 0 ≤ (pc : Int) + o) (hp : ((pc : Int) + o).toNat = pc') (hq : 0 < x) (k : own_G B n0 Q kc ks cells slots h pc' Ls st) : own_G B n0 Q kc ks cells slots h pc Ls (.int x :: st) := by
  obtain ⟨p, l, e, R, s, m, args, below, meth, c, k0, P⟩ := B
  obtain ⟨rfl, rfl, hx, hZ, hown, hby, hml, hrt, hlk, hnm, hw, hPe⟩ := H
  intro T locs c1 s1 X F hc hs eT hk
  exact own_go (fun t q => XS.ifYes X.here hx rfl rfl (hb hby hd) rfl (XT.i0_gt_t hq) ho hp q) (k T locs c1 s1 X F hc hs eT hk)
theorem own_ifgt_f (H : own_Ok B Z a0 l R y code N ret) {x : Int32} {o : Int} (hd : decode code pc = .ok (.ifCond .gt o, 3)) (hq : ¬ 0 < x) (k : own_G B n0 Q kc ks cells slots h (pc + 3) Ls st) : own_G B n0 Q kc ks cells slots h pc Ls (.int x :: st) := by
  obtain ⟨p, l, e, R, s, m, args, below, meth, c, k0, P⟩ := B
  obtain ⟨rfl, rfl, hx, hZ, hown, hby, hml, hrt, hlk, hnm, hw, hPe⟩ := H
  intro T locs c1 s1 X F hc hs eT hk
  exact own_go (fun t q => XS.ifNo X.here hx rfl (hb hby hd) rfl (XT.i0_gt_f hq) q) (k T locs c1 s1 X F hc hs eT hk)
theorem own_icmpgt_t (H : own_Ok B Z a0 l R y code N ret) {x z : Int32} {o : Int} (hd : decode code pc = .ok (.if_icmp .gt o, 3)) (ho : 0 ≤ (pc : Int) + o) (hp : ((pc : Int) + o).toNat = pc') (hq : z < x) (k : own_G B n0 Q kc ks cells slots h pc' Ls st) : own_G B n0 Q kc ks cells slots h pc Ls (.int z :: .int x :: st) := by
  obtain ⟨p, l, e, R, s, m, args, below, meth, c, k0, P⟩ := B
  obtain ⟨rfl, rfl, hx, hZ, hown, hby, hml, hrt, hlk, hnm, hw, hPe⟩ := H
  intro T locs c1 s1 X F hc hs eT hk
  exact own_go (fun t q => XS.icmpYes X.here hx rfl rfl (hb hby hd) rfl (XT.ii_gt_t hq) ho hp q) (k T locs c1 s1 X F hc hs eT hk)
theorem own_icmpgt_f (H : own_Ok B Z a0 l R y code N ret) {x z : Int32} {o : Int} (hd : decode code pc = .ok (.if_icmp .gt o, 3)) (hq : ¬ z < x) (k : own_G B n0 Q kc ks cells slots h (pc + 3) Ls st) : own_G B n0 Q kc ks cells slots h pc Ls (.int z :: .int x :: st) := by
  obtain ⟨p, l, e, R, s, m, args, below, meth, c, k0, P⟩ := B
  obtain ⟨rfl, rfl, hx, hZ, hown, hby, hml, hrt, hlk, hnm, hw, hPe⟩ := H
  intro T locs c1 s1 X F hc hs eT hk
  exact own_go (fun t q => XS.icmpNo X.here hx rfl (hb hby hd) rfl (XT.ii_gt_f hq) q) (k T locs c1 s1 X F hc hs eT hk)
theorem own_lcmpgt_t (H : own_Ok B Z a0 l R y code N ret) {x z : Int64} {o : Int} (hd0 : decode code pc = .ok (.lcmp, 1)) (hd : decode code (pc + 1) = .ok (.ifCond .gt o, 3)) (ho : 0 ≤ ((pc + 1 : Nat) : Int) + o) (hp : (((pc + 1 : Nat) : Int) + o).toNat = pc') (hq : z < x) (k : own_G B n0 Q kc ks cells slots h pc' Ls st) : own_G B n0 Q kc ks cells slots h pc Ls (.long z :: .long x :: st) := by
  obtain ⟨p, l, e, R, s, m, args, below, meth, c, k0, P⟩ := B
  obtain ⟨rfl, rfl, hx, hZ, hown, hby, hml, hrt, hlk, hnm, hw, hPe⟩ := H
  intro T locs c1 s1 X F hc hs eT hk
  exact own_go (fun t q => XT.lcmp X.here hx rfl (hb hby hd0) rfl (XS.ifYes X.here hx rfl rfl (hb hby hd) rfl (XT.ll_gt_t hq) ho hp q)) (k T locs c1 s1 X F hc hs eT hk)
theorem own_lcmpgt_f (H : own_Ok B Z a0 l R y code N ret) {x z : Int64} {o : Int} (hd0 : decode code pc = .ok (.lcmp, 1)) (hd : decode code (pc + 1) = .ok (.ifCond .gt o, 3)) (hq : ¬ z < x) (k : own_G B n0 Q kc ks cells slots h (pc + 4) Ls st) : own_G B n0 Q kc ks cells slots h pc Ls (.long z :: .long x :: st) := by
  obtain ⟨p, l, e, R, s, m, args, below, meth, c, k0, P⟩ := B
  obtain ⟨rfl, rfl, hx, hZ, hown, hby, hml, hrt, hlk, hnm, hw, hPe⟩ := H
  intro T locs c1 s1 X F hc hs eT hk
  exact own_go (fun t q => XT.lcmp X.here hx rfl (hb hby hd0) rfl (XS.ifNo X.here hx rfl (hb hby hd) rfl (XT.ll_gt_f hq) q)) (k T locs c1 s1 X F hc hs eT hk)
theorem own_ifle_t (H : own_Ok B Z a0 l R y code N ret) {x : Int32} {o : Int} (hd : decode code pc = .ok (.ifCond .le o, 3)) (ho : 0 ≤ (pc : Int) + o) (hp : ((pc : Int) + o).toNat = pc') (hq : ¬ 0 < x) (k : own_G B n0 Q kc ks cells slots h pc' Ls st) : own_G B n0 Q kc ks cells slots h pc Ls (.int x :: st) := by
  obtain ⟨p, l, e, R, s, m, args, below, meth, c, k0, P⟩ := B
  obtain ⟨rfl, rfl, hx, hZ, hown, hby, hml, hrt, hlk, hnm, hw, hPe⟩ := H
  intro T locs c1 s1 X F hc hs eT hk
  exact own_go (fun t q => XS.ifYes X.here hx rfl rfl (hb hby hd) rfl (XT.i0_le_t hq) ho hp q) (k T locs c1 s1 X F hc hs eT hk)
theorem own_ifle_f (H : own_Ok B Z a0 l R y code N ret) {x : Int32} {o : Int} (hd : decode code pc = .ok (.ifCond .le o, 3)) (hq : 0 < x) (k : own_G B n0 Q kc ks cells slots h (pc + 3) Ls st) : own_G B n0 Q kc ks cells slots h pc Ls (.int x :: st) := by
  obtain ⟨p, l, e, R, s, m, args, below, meth, c, k0, P⟩ := B
  obtain ⟨rfl, rfl, hx, hZ, hown, hby, hml, hrt, hlk, hnm, hw, hPe⟩ := H
  intro T locs c1 s1 X F hc hs eT hk
  exact own_go (fun t q => XS.ifNo X.here hx rfl (hb hby hd) rfl (XT.i0_le_f hq) q) (k T locs c1 s1 X F hc hs eT hk)
theorem own_icmple_t (H : own_Ok B Z a0 l R y code N ret) {x z : Int32} {o : Int} (hd : decode code pc = .ok (.if_icmp .le o, 3)) (ho : 0 ≤ (pc : Int) + o) (hp : ((pc : Int) + o).toNat = pc') (hq : ¬ z < x) (k : own_G B n0 Q kc ks cells slots h pc' Ls st) : own_G B n0 Q kc ks cells slots h pc Ls (.int z :: .int x :: st) := by
  obtain ⟨p, l, e, R, s, m, args, below, meth, c, k0, P⟩ := B
  obtain ⟨rfl, rfl, hx, hZ, hown, hby, hml, hrt, hlk, hnm, hw, hPe⟩ := H
  intro T locs c1 s1 X F hc hs eT hk
  exact own_go (fun t q => XS.icmpYes X.here hx rfl rfl (hb hby hd) rfl (XT.ii_le_t hq) ho hp q) (k T locs c1 s1 X F hc hs eT hk)
theorem own_icmple_f (H : own_Ok B Z a0 l R y code N ret) {x z : Int32} {o : Int} (hd : decode code pc = .ok (.if_icmp .le o, 3)) (hq : z < x) (k : own_G B n0 Q kc ks cells slots h (pc + 3) Ls st) : own_G B n0 Q kc ks cells slots h pc Ls (.int z :: .int x :: st) := by
  obtain ⟨p, l, e, R, s, m, args, below, meth, c, k0, P⟩ := B
  obtain ⟨rfl, rfl, hx, hZ, hown, hby, hml, hrt, hlk, hnm, hw, hPe⟩ := H
  intro T locs c1 s1 X F hc hs eT hk
  exact own_go (fun t q => XS.icmpNo X.here hx rfl (hb hby hd) rfl (XT.ii_le_f hq) q) (k T locs c1 s1 X F hc hs eT hk)
theorem own_lcmple_t (H : own_Ok B Z a0 l R y code N ret) {x z : Int64} {o : Int} (hd0 : decode code pc = .ok (.lcmp, 1)) (hd : decode code (pc + 1) = .ok (.ifCond .le o, 3)) (ho : 0 ≤ ((pc + 1 : Nat) : Int) + o) (hp : (((pc + 1 : Nat) : Int) + o).toNat = pc') (hq : ¬ z < x) (k : own_G B n0 Q kc ks cells slots h pc' Ls st) : own_G B n0 Q kc ks cells slots h pc Ls (.long z :: .long x :: st) := by
  obtain ⟨p, l, e, R, s, m, args, below, meth, c, k0, P⟩ := B
  obtain ⟨rfl, rfl, hx, hZ, hown, hby, hml, hrt, hlk, hnm, hw, hPe⟩ := H
  intro T locs c1 s1 X F hc hs eT hk
  exact own_go (fun t q => XT.lcmp X.here hx rfl (hb hby hd0) rfl (XS.ifYes X.here hx rfl rfl (hb hby hd) rfl (XT.ll_le_t hq) ho hp q)) (k T locs c1 s1 X F hc hs eT hk)
theorem own_lcmple_f (H : own_Ok B Z a0 l R y code N ret) {x z : Int64} {o : Int} (hd0 : decode code pc = .ok (.lcmp, 1)) (hd : decode code (pc + 1) = .ok (.ifCond .le o, 3)) (hq : z < x) (k : own_G B n0 Q kc ks cells slots h (pc + 4) Ls st) : own_G B n0 Q kc ks cells slots h pc Ls (.long z :: .long x :: st) := by
  obtain ⟨p, l, e, R, s, m, args, below, meth, c, k0, P⟩ := B
  obtain ⟨rfl, rfl, hx, hZ, hown, hby, hml, hrt, hlk, hnm, hw, hPe⟩ := H
  intro T locs c1 s1 X F hc hs eT hk
  exact own_go (fun t q => XT.lcmp X.here hx rfl (hb hby hd0) rfl (XS.ifNo X.here hx rfl (hb hby hd) rfl (XT.ll_le_f hq) q)) (k T locs c1 s1 X F hc hs eT hk)
theorem own_acmpeq_t (H : own_Ok B Z a0 l R y code N ret) {x z : Value} {o : Int} (hd : decode code pc = .ok (.if_acmp .eq o, 3)) (ho : 0 ≤ (pc : Int) + o) (hp : ((pc : Int) + o).toNat = pc') (h1 : x.isRef = true) (h2 : z.isRef = true) (hq : x = z) (k : own_G B n0 Q kc ks cells slots h pc' Ls st) : own_G B n0 Q kc ks cells slots h pc Ls (z :: x :: st) := by
  obtain ⟨p, l, e, R, s, m, args, below, meth, c, k0, P⟩ := B
  obtain ⟨rfl, rfl, hx, hZ, hown, hby, hml, hrt, hlk, hnm, hw, hPe⟩ := H
  intro T locs c1 s1 X F hc hs eT hk
  exact own_go (fun t q => XT.acmpYes X.here hx rfl rfl (hb hby hd) rfl h1 h2 (XT.aa_eq_t hq) ho hp q) (k T locs c1 s1 X F hc hs eT hk)
theorem own_acmpeq_f (H : own_Ok B Z a0 l R y code N ret) {x z : Value} {o : Int} (hd : decode code pc = .ok (.if_acmp .eq o, 3)) (h1 : x.isRef = true) (h2 : z.isRef = true) (hq : ¬ x = z) (k : own_G B n0 Q kc ks cells slots h (pc + 3) Ls st) : own_G B n0 Q kc ks cells slots h pc Ls (z :: x :: st) := by
  obtain ⟨p, l, e, R, s, m, args, below, meth, c, k0, P⟩ := B
  obtain ⟨rfl, rfl, hx, hZ, hown, hby, hml, hrt, hlk, hnm, hw, hPe⟩ := H
  intro T locs c1 s1 X F hc hs eT hk
  exact own_go (fun t q => XT.acmpNo X.here hx rfl (hb hby hd) rfl h1 h2 (XT.aa_eq_f hq) q) (k T locs c1 s1 X F hc hs eT hk)
theorem own_acmpne_t (H : own_Ok B Z a0 l R y code N ret) {x z : Value} {o : Int} (hd : decode code pc = .ok (.if_acmp .ne o, 3)) (ho : 0 ≤ (pc : Int) + o) (hp : ((pc : Int) + o).toNat = pc') (h1 : x.isRef = true) (h2 : z.isRef = true) (hq : ¬ x = z) (k : own_G B n0 Q kc ks cells slots h pc' Ls st) : own_G B n0 Q kc ks cells slots h pc Ls (z :: x :: st) := by
  obtain ⟨p, l, e, R, s, m, args, below, meth, c, k0, P⟩ := B
  obtain ⟨rfl, rfl, hx, hZ, hown, hby, hml, hrt, hlk, hnm, hw, hPe⟩ := H
  intro T locs c1 s1 X F hc hs eT hk
  exact own_go (fun t q => XT.acmpYes X.here hx rfl rfl (hb hby hd) rfl h1 h2 (XT.aa_ne_t hq) ho hp q) (k T locs c1 s1 X F hc hs eT hk)
theorem own_acmpne_f (H : own_Ok B Z a0 l R y code N ret) {x z : Value} {o : Int} (hd : decode code pc = .ok (.if_acmp .ne o, 3)) (h1 : x.isRef = true) (h2 : z.isRef = true) (hq : x = z) (k : own_G B n0 Q kc ks cells slots h (pc + 3) Ls st) : own_G B n0 Q kc ks cells slots h pc Ls (z :: x :: st) := by
  obtain ⟨p, l, e, R, s, m, args, below, meth, c, k0, P⟩ := B
  obtain ⟨rfl, rfl, hx, hZ, hown, hby, hml, hrt, hlk, hnm, hw, hPe⟩ := H
  intro T locs c1 s1 X F hc hs eT hk
  exact own_go (fun t q => XT.acmpNo X.here hx rfl (hb hby hd) rfl h1 h2 (XT.aa_ne_f hq) q) (k T locs c1 s1 X F hc hs eT hk)
theorem own_ifnull_t (H : own_Ok B Z a0 l R y code N ret) {x : Value} {o : Int} (hd : decode code pc = .ok (.ifnull o, 3)) (ho : 0 ≤ (pc : Int) + o) (hp : ((pc : Int) + o).toNat = pc') (h1 : x.isRef = true) (hq : x = .null) (k : own_G B n0 Q kc ks cells slots h pc' Ls st) : own_G B n0 Q kc ks cells slots h pc Ls (x :: st) := by
  obtain ⟨p, l, e, R, s, m, args, below, meth, c, k0, P⟩ := B
  obtain ⟨rfl, rfl, hx, hZ, hown, hby, hml, hrt, hlk, hnm, hw, hPe⟩ := H
  intro T locs c1 s1 X F hc hs eT hk
  exact own_go (fun t q => XT.nullYes X.here hx rfl rfl (hb hby hd) rfl hq ho hp q) (k T locs c1 s1 X F hc hs eT hk)
theorem own_ifnull_f (H : own_Ok B Z a0 l R y code N ret) {x : Value} {o : Int} (hd : decode code pc = .ok (.ifnull o, 3)) (h1 : x.isRef = true) (hq : ¬ x = .null) (k : own_G B n0 Q kc ks cells slots h (pc + 3) Ls st) : own_G B n0 Q kc ks cells slots h pc Ls (x :: st) := by
  obtain ⟨p, l, e, R, s, m, args, below, meth, c, k0, P⟩ := B
  obtain ⟨rfl, rfl, hx, hZ, hown, hby, hml, hrt, hlk, hnm, hw, hPe⟩ := H
  intro T locs c1 s1 X F hc hs eT hk
  exact own_go (fun t q => XT.nullNo X.here hx rfl (hb hby hd) rfl h1 hq q) (k T locs c1 s1 X F hc hs eT hk)
theorem own_ifnonnull_t (H : own_Ok B Z a0 l R y code N ret) {x : Value} {o : Int} (hd : decode code pc = .ok (.ifnonnull o, 3)) (ho : 0 ≤ (pc : Int) + o) (hp : ((pc : Int) + o).toNat = pc') (h1 : x.isRef = true) (hq : ¬ x = .null) (k : own_G B n0 Q kc ks cells slots h pc' Ls st) : own_G B n0 Q kc ks cells slots h pc Ls (x :: st) := by
  obtain ⟨p, l, e, R, s, m, args, below, meth, c, k0, P⟩ := B
  obtain ⟨rfl, rfl, hx, hZ, hown, hby, hml, hrt, hlk, hnm, hw, hPe⟩ := H
  intro T locs c1 s1 X F hc hs eT hk
  exact own_go (fun t q => XT.nonnullYes X.here hx rfl rfl (hb hby hd) rfl h1 hq ho hp q) (k T locs c1 s1 X F hc hs eT hk)
theorem own_ifnonnull_f (H : own_Ok B Z a0 l R y code N ret) {x : Value} {o : Int} (hd : decode code pc = .ok (.ifnonnull o, 3)) (h1 : x.isRef = true) (hq : x = .null) (k : own_G B n0 Q kc ks cells slots h (pc + 3) Ls st) : own_G B n0 Q kc ks cells slots h pc Ls (x :: st) := by
  obtain ⟨p, l, e, R, s, m, args, below, meth, c, k0, P⟩ := B
  obtain ⟨rfl, rfl, hx, hZ, hown, hby, hml, hrt, hlk, hnm, hw, hPe⟩ := H
  intro T locs c1 s1 X F hc hs eT hk
  exact own_go (fun t q => XT.nonnullNo X.here hx rfl (hb hby hd) rfl hq q) (k T locs c1 s1 X F hc hs eT hk)
theorem own_ldcI (H : own_Ok B Z a0 l R y code N ret) {i w : Nat} {v : Int32} (q : tables_1[w]? = some (Jvm.Cond.constant y.cls i v)) (hd : decode code pc = .ok (.ldc i, 2)) (k : own_G B n0 Q kc ks cells slots h (pc + 2) Ls (.int v :: st)) : own_G B n0 Q kc ks cells slots h pc Ls st := by
  obtain ⟨p, l, e, R, s, m, args, below, meth, c, k0, P⟩ := B
  obtain ⟨rfl, rfl, hx, hZ, hown, hby, hml, hrt, hlk, hnm, hw, hPe⟩ := H
  intro T locs c1 s1 X F hc hs eT hk
  exact own_go (fun t r => X.ldcInt hx hown (mvT hZ (hw _ _ q)) (g := mkF m pc Ls st) rfl (hb hby hd) _ r) (k T locs c1 s1 X F hc hs eT hk)
theorem own_ldcwI (H : own_Ok B Z a0 l R y code N ret) {i w : Nat} {v : Int32} (q : tables_1[w]? = some (Jvm.Cond.constant y.cls i v)) (hd : decode code pc = .ok (.ldc_w i, 3)) (k : own_G B n0 Q kc ks cells slots h (pc + 3) Ls (.int v :: st)) : own_G B n0 Q kc ks cells slots h pc Ls st := by
  obtain ⟨p, l, e, R, s, m, args, below, meth, c, k0, P⟩ := B
  obtain ⟨rfl, rfl, hx, hZ, hown, hby, hml, hrt, hlk, hnm, hw, hPe⟩ := H
  intro T locs c1 s1 X F hc hs eT hk
  exact own_go (fun t r => X.ldcwInt hx hown (mvT hZ (hw _ _ q)) (g := mkF m pc Ls st) rfl (hb hby hd) _ r) (k T locs c1 s1 X F hc hs eT hk)
theorem own_ldc2J (H : own_Ok B Z a0 l R y code N ret) {i w : Nat} {v : Int64} (q : tables_1[w]? = some (Jvm.Cond.constantLong y.cls i v)) (hd : decode code pc = .ok (.ldc2_w i, 3)) (k : own_G B n0 Q kc ks cells slots h (pc + 3) Ls (.long v :: st)) : own_G B n0 Q kc ks cells slots h pc Ls st := by
  obtain ⟨p, l, e, R, s, m, args, below, meth, c, k0, P⟩ := B
  obtain ⟨rfl, rfl, hx, hZ, hown, hby, hml, hrt, hlk, hnm, hw, hPe⟩ := H
  intro T locs c1 s1 X F hc hs eT hk
  exact own_go (fun t r => X.ldc2Long hx hown (mvT hZ (hw _ _ q)) (g := mkF m pc Ls st) rfl (hb hby hd) _ r) (k T locs c1 s1 X F hc hs eT hk)
theorem own_ireturn {t : FieldType} (H : own_Ok B Z a0 l R y code N (some t)) {z : Int32} (ht : t = .int ∨ t = .boolean ∨ t = .byte ∨ t = .char ∨ t = .short) (hn : narrow t (.int z) = .int z) (hd : decode code pc = .ok (.ireturn, 1)) (hkc : cells ≤ kc) (hks : slots ≤ ks) (hQ : Q (some (.int z)) h) : own_G B n0 Q kc ks cells slots h pc Ls (.int z :: st) := by
  obtain ⟨p, l, e, R, s, m, args, below, meth, c, k0, P⟩ := B
  obtain ⟨rfl, rfl, hx, hZ, hown, hby, hml, hrt, hlk, hnm, hw, hPe⟩ := H
  intro T locs c1 s1 X F hc hs eT hk
  obtain ⟨fs, hr, hrun, hended, hW, hsame⟩ := X.leave (v := some (.int z)) (fun h => by rw [hrt] at h; cases h) hlk
  exact ⟨_, _, retOut X hx hrt hn (Or.inl ⟨rfl, ht, _, rfl⟩) (hb hby hd) hr, hrun, hended, _, _, rfl, ⟨by show Q _ T.heap; rw [eT]; exact hQ, F⟩, hPe _ _ _ _ _ (by show k0 ≤ T.heap.size; rw [eT]; exact hk) ⟨⟨_, rfl⟩, hW, hsame.mono (Nat.le_trans hc hkc) (Nat.le_trans hs hks)⟩⟩
theorem own_lreturn (H : own_Ok B Z a0 l R y code N (some .long)) {z : Int64} (hd : decode code pc = .ok (.lreturn, 1)) (hkc : cells ≤ kc) (hks : slots ≤ ks) (hQ : Q (some (.long z)) h) : own_G B n0 Q kc ks cells slots h pc Ls (.long z :: st) := by
  obtain ⟨p, l, e, R, s, m, args, below, meth, c, k0, P⟩ := B
  obtain ⟨rfl, rfl, hx, hZ, hown, hby, hml, hrt, hlk, hnm, hw, hPe⟩ := H
  intro T locs c1 s1 X F hc hs eT hk
  obtain ⟨fs, hr, hrun, hended, hW, hsame⟩ := X.leave (v := some (.long z)) (fun h => by rw [hrt] at h; cases h) hlk
  exact ⟨_, _, retOut X hx hrt rfl (Or.inr (Or.inl ⟨rfl, rfl, _, rfl⟩)) (hb hby hd) hr, hrun, hended, _, _, rfl, ⟨by show Q _ T.heap; rw [eT]; exact hQ, F⟩, hPe _ _ _ _ _ (by show k0 ≤ T.heap.size; rw [eT]; exact hk) ⟨⟨_, rfl⟩, hW, hsame.mono (Nat.le_trans hc hkc) (Nat.le_trans hs hks)⟩⟩
theorem own_areturn {t : FieldType} (H : own_Ok B Z a0 l R y code N (some t)) (ht : t.isReference = true) {z : Value} (hz : z.isRef = true) (hn : narrow t z = z) (hd : decode code pc = .ok (.areturn, 1)) (hkc : cells ≤ kc) (hks : slots ≤ ks) (hQ : Q (some z) h) : own_G B n0 Q kc ks cells slots h pc Ls (z :: st) := by
  obtain ⟨p, l, e, R, s, m, args, below, meth, c, k0, P⟩ := B
  obtain ⟨rfl, rfl, hx, hZ, hown, hby, hml, hrt, hlk, hnm, hw, hPe⟩ := H
  intro T locs c1 s1 X F hc hs eT hk
  obtain ⟨fs, hr, hrun, hended, hW, hsame⟩ := X.leave (v := some z) (fun h => by rw [hrt] at h; cases h) hlk
  exact ⟨_, _, retOut X hx hrt hn (Or.inr (Or.inr (Or.inr (Or.inr ⟨rfl, ht, hz⟩)))) (hb hby hd) hr, hrun, hended, _, _, rfl, ⟨by show Q _ T.heap; rw [eT]; exact hQ, F⟩, hPe _ _ _ _ _ (by show k0 ≤ T.heap.size; rw [eT]; exact hk) ⟨⟨_, rfl⟩, hW, hsame.mono (Nat.le_trans hc hkc) (Nat.le_trans hs hks)⟩⟩
theorem own_return (H : own_Ok B Z a0 l R y code N none) (hd : decode code pc = .ok (.return_, 1)) (hkc : cells ≤ kc) (hks : slots ≤ ks) (hQ : Q none h) : own_G B n0 Q kc ks cells slots h pc Ls [] := by
  obtain ⟨p, l, e, R, s, m, args, below, meth, c, k0, P⟩ := B
  obtain ⟨rfl, rfl, hx, hZ, hown, hby, hml, hrt, hlk, hnm, hw, hPe⟩ := H
  intro T locs c1 s1 X F hc hs eT hk
  obtain ⟨fs, hr, hrun, hended, hW, hsame⟩ := X.leave (v := none) (fun h => rfl) hlk
  exact ⟨_, _, X.returnOut hx hrt (hb hby hd) hr, hrun, hended, _, _, rfl, ⟨by show Q _ T.heap; rw [eT]; exact hQ, F⟩, hPe _ _ _ _ _ (by show k0 ≤ T.heap.size; rw [eT]; exact hk) ⟨⟨_, rfl⟩, hW, hsame.mono (Nat.le_trans hc hkc) (Nat.le_trans hs hks)⟩⟩
theorem own_getfield (H : own_Ok B Z a0 l R y code N ret) {O n d : String} {i w : Nat} (q : tables_1[w]? = some (Jvm.Cond.fieldLink y.cls i O n d)) {a : Addr} {v : Value} (Fd : Fld Z h a O n d v) (hd : decode code pc = .ok (.getfield i, 3)) (k : own_G B n0 Q kc ks cells slots h (pc + 3) Ls (v :: st)) : own_G B n0 Q kc ks cells slots h pc Ls (.ref a :: st) := by
  obtain ⟨p, l, e, R, s, m, args, below, meth, c, k0, P⟩ := B
  obtain ⟨rfl, rfl, hx, hZ, hown, hby, hml, hrt, hlk, hnm, hw, hPe⟩ := H
  intro T locs c1 s1 X F hc hs eT hk
  obtain ⟨T', X', e', s'⟩ := getF X hx hZ hown (host := "") (Or.inl (hw _ _ q)) Via.refl eT Fd (g := mkF m pc Ls (.ref a :: st)) rfl rfl (hb hby hd)
  exact own_go s' (k T' locs c1 s1 X' F hc hs e' hk)
theorem own_getstatic (H : own_Ok B Z a0 l R y code N ret) {O n d : String} {i w : Nat} (q : tables_1[w]? = some (Jvm.Cond.fieldLink y.cls i O n d)) {v : Value} (Fd : Sta Z h O n d v) (hd : decode code pc = .ok (.getstatic i, 3)) (k : own_G B n0 Q kc ks cells slots h (pc + 3) Ls (v :: st)) : own_G B n0 Q kc ks cells slots h pc Ls st := by
  obtain ⟨p, l, e, R, s, m, args, below, meth, c, k0, P⟩ := B
  obtain ⟨rfl, rfl, hx, hZ, hown, hby, hml, hrt, hlk, hnm, hw, hPe⟩ := H
  intro T locs c1 s1 X F hc hs eT hk
  obtain ⟨T', X', e', s'⟩ := getS X hx hZ hown (host := "") (hw _ _ q) Via.refl eT Fd (g := mkF m pc Ls st) rfl (hb hby hd)
  exact own_go s' (k T' locs c1 s1 X' F hc hs e' hk)
theorem own_putfield (H : own_Ok B Z a0 l R y code N ret) {O n d C : String} {i w wi kk : Nat} {ty : FieldType} (q : tables_1[w]? = some (Jvm.Cond.fieldLink y.cls i O n d)) {a : Addr} {v old : Value} (Fd : Fld Z h a O n d old) (E : Exa Z h a C) (ha : n0 ≤ a)
    (Lw : (Jvm.Cond.lays C O n d).before a0 Z = true ∨ ((Jvm.Cond.laysFinal C O n d).before a0 Z = true ∧ y.cls = O ∧ y.name = "<init>")) (qi : tables_1[wi]? = some (Jvm.Cond.instantiable C kk)) (hty : parseFieldDescriptor d = some ty) (hn : narrow ty v = v) (hf : fits ty v = true)
    (hd : decode code pc = .ok (.putfield i, 3)) (k : ∀ h', Wr h h' a (Jvm.RoadKit.slotOf Z O n d) v → own_G B n0 Q kc ks cells slots h' (pc + 3) Ls st) : own_G B n0 Q kc ks cells slots h pc Ls (v :: .ref a :: st) := by
  obtain ⟨p, l, e, R, s, m, args, below, meth, c, k0, P⟩ := B
  obtain ⟨rfl, rfl, hx, hZ, hown, hby, hml, hrt, hlk, hnm, hw, hPe⟩ := H
  intro T locs c1 s1 X F hc hs eT hk
  obtain ⟨T', h', X', e', W', s'⟩ := putF X hx hZ hown (host := "") (Or.inl (hw _ _ q)) Via.refl eT Fd E (Lw.imp id fun z => ⟨z.1, z.2.1, hnm.trans z.2.2⟩) (hw _ _ qi) hty hn hf (g := mkF m pc Ls (v :: .ref a :: st)) rfl rfl (hb hby hd)
  exact own_go s' (k h' W' T' _ c1 s1 X' (Fr.snoc X' F ha) hc hs e' (by rw [W'.size]; exact hk))
theorem own_new (H : own_Ok B Z a0 l R y code N ret) {C : String} {i n w wi wz : Nat} (q : tables_1[w]? = some (Jvm.Cond.classLink y.cls i C)) (qi : tables_1[wi]? = some (Jvm.Cond.instantiable C n)) (qz : tables_1[wz]? = some (Jvm.Cond.initialized C)) (hd : decode code pc = .ok (.new i, 3)) (hkc : cells + 1 ≤ R.cells) (hks : slots + n ≤ R.slots)
    (k : ∀ h' a, a = h.size → Ext h h' → Exa Z h' a C → (∀ {O nm d : String} {ty : FieldType}, Laid Z a0 C O nm d → parseFieldDescriptor d = some ty → Fld Z h' a O nm d (defaultValue ty)) → own_G B n0 Q kc ks (cells + 1) (slots + n) h' (pc + 3) Ls (.ref a :: st)) : own_G B n0 Q kc ks cells slots h pc Ls st := by
  obtain ⟨p, l, e, R, s, m, args, below, meth, c, k0, P⟩ := B
  obtain ⟨rfl, rfl, hx, hZ, hown, hby, hml, hrt, hlk, hnm, hw, hPe⟩ := H
  intro T locs c1 s1 X F hc hs eT hk
  obtain ⟨T', h', X', e', E', A', D', -, s'⟩ := newO X hx hZ hown (hw _ _ q) (hw _ _ qi) (hw _ _ qz) eT (g := mkF m pc Ls st) rfl (hb hby hd) (Nat.le_trans (Nat.add_le_add_right hc 1) hkc) (Nat.le_trans (Nat.add_le_add_right hs n) hks)
  exact own_go s' (k h' h.size rfl E' A' D' T' locs _ _ X' F (Nat.add_le_add_right hc 1) (Nat.add_le_add_right hs n) e' (Nat.le_trans hk E'.1))
theorem own_newarray (H : own_Ok B Z a0 l R y code N ret) {aty : ArrayType} {w : Nat} (q : tables_1[w]? = some (Jvm.Cond.arrayClass (newarray.typeOf aty))) {n : Int32} (hn : ¬ n < 0) (cap : Nat) (hcap : n.toNatClampNeg ≤ cap) (hcb : cap * 8 ≤ 536870912) (hd : decode code pc = .ok (.newarray aty, 2)) (hkc : cells + 1 ≤ R.cells) (hks : slots + cap ≤ R.slots)
    (k : ∀ h' a kA, a = h.size → Ext h h' → Arv Z h' a kA (newarray.typeOf aty) n [] (defaultValue (newarray.typeOf aty)) → own_G B n0 Q kc ks (cells + 1) (slots + cap) h' (pc + 2) Ls (.ref a :: st)) : own_G B n0 Q kc ks cells slots h pc Ls (.int n :: st) := by
  obtain ⟨p, l, e, R, s, m, args, below, meth, c, k0, P⟩ := B
  obtain ⟨rfl, rfl, hx, hZ, hown, hby, hml, hrt, hlk, hnm, hw, hPe⟩ := H
  intro T locs c1 s1 X F hc hs eT hk
  obtain ⟨T', h', kA, X', e', E', A', s'⟩ := newP X hx hZ (hw _ _ q) eT (g := mkF m pc Ls (.int n :: st)) rfl (hb hby hd) rfl hn hcap hcb (Nat.le_trans (Nat.add_le_add_right hc 1) hkc) (Nat.le_trans (Nat.add_le_add_right hs cap) hks)
  exact own_go s' (k h' h.size kA rfl E' (Arv.new A' hn) T' locs _ _ X' F (Nat.add_le_add_right hc 1) (Nat.add_le_add_right hs cap) e' (Nat.le_trans hk E'.1))
theorem own_anewarray (H : own_Ok B Z a0 l R y code N ret) {C : String} {i w w2 : Nat} (q : tables_1[w]? = some (Jvm.Cond.classLink y.cls i C)) (q2 : tables_1[w2]? = some (Jvm.Cond.arrayOver (.object C))) {n : Int32} (hn : ¬ n < 0) (cap : Nat) (hcap : n.toNatClampNeg ≤ cap) (hcb : cap * 8 ≤ 536870912) (hd : decode code pc = .ok (.anewarray i, 3)) (hkc : cells + 1 ≤ R.cells) (hks : slots + cap ≤ R.slots)
    (k : ∀ h' a kA, a = h.size → Ext h h' → Arv Z h' a kA (.object C) n [] .null → Ovr Z kA C → own_G B n0 Q kc ks (cells + 1) (slots + cap) h' (pc + 3) Ls (.ref a :: st)) : own_G B n0 Q kc ks cells slots h pc Ls (.int n :: st) := by
  obtain ⟨p, l, e, R, s, m, args, below, meth, c, k0, P⟩ := B
  obtain ⟨rfl, rfl, hx, hZ, hown, hby, hml, hrt, hlk, hnm, hw, hPe⟩ := H
  intro T locs c1 s1 X F hc hs eT hk
  obtain ⟨T', h', kA, X', e', E', A', O', s'⟩ := newR X hx hZ hown (hw _ _ q) (hw _ _ q2) eT (g := mkF m pc Ls (.int n :: st)) rfl (hb hby hd) rfl hn hcap hcb (Nat.le_trans (Nat.add_le_add_right hc 1) hkc) (Nat.le_trans (Nat.add_le_add_right hs cap) hks)
  exact own_go s' (k h' h.size kA rfl E' (Arv.new A' hn) O' T' locs _ _ X' F (Nat.add_le_add_right hc 1) (Nat.add_le_add_right hs cap) e' (Nat.le_trans hk E'.1))
theorem own_iaload (H : own_Ok B Z a0 l R y code N ret) {a : Addr} {cl : Cell} {j : Int32} {v : Value} (A : Arr Z h a cl .int) (hin : ¬ (j < 0 ∨ cl.slots.size ≤ j.toNatClampNeg)) (hv : cl.slots[j.toNatClampNeg]? = some v) (hd : decode code pc = .ok (.iaload, 1)) (k : own_G B n0 Q kc ks cells slots h (pc + 1) Ls (v :: st)) : own_G B n0 Q kc ks cells slots h pc Ls (.int j :: .ref a :: st) := by
  obtain ⟨p, l, e, R, s, m, args, below, meth, c, k0, P⟩ := B
  obtain ⟨rfl, rfl, hx, hZ, hown, hby, hml, hrt, hlk, hnm, hw, hPe⟩ := H
  intro T locs c1 s1 X F hc hs eT hk
  exact own_go (fun t r => X.iaload hx (j := j) (v := v) (by rw [eT]; exact A.1) (State.isArrayOf_alike hZ.alike A.2.1) A.2.2 hin hv (g := mkF m pc Ls (.int j :: .ref a :: st)) rfl rfl (hb hby hd) _ r) (k T locs c1 s1 X F hc hs eT hk)
theorem own_laload (H : own_Ok B Z a0 l R y code N ret) {a : Addr} {cl : Cell} {j : Int32} {v : Value} (A : Arr Z h a cl .long) (hin : ¬ (j < 0 ∨ cl.slots.size ≤ j.toNatClampNeg)) (hv : cl.slots[j.toNatClampNeg]? = some v) (hd : decode code pc = .ok (.laload, 1)) (k : own_G B n0 Q kc ks cells slots h (pc + 1) Ls (v :: st)) : own_G B n0 Q kc ks cells slots h pc Ls (.int j :: .ref a :: st) := by
  obtain ⟨p, l, e, R, s, m, args, below, meth, c, k0, P⟩ := B
  obtain ⟨rfl, rfl, hx, hZ, hown, hby, hml, hrt, hlk, hnm, hw, hPe⟩ := H
  intro T locs c1 s1 X F hc hs eT hk
  exact own_go (fun t r => X.laload hx (j := j) (v := v) (by rw [eT]; exact A.1) (State.isArrayOf_alike hZ.alike A.2.1) A.2.2 hin hv (g := mkF m pc Ls (.int j :: .ref a :: st)) rfl rfl (hb hby hd) _ r) (k T locs c1 s1 X F hc hs eT hk)
theorem own_caload (H : own_Ok B Z a0 l R y code N ret) {a : Addr} {cl : Cell} {j : Int32} {v : Value} (A : Arr Z h a cl .char) (hin : ¬ (j < 0 ∨ cl.slots.size ≤ j.toNatClampNeg)) (hv : cl.slots[j.toNatClampNeg]? = some v) (hd : decode code pc = .ok (.caload, 1)) (k : own_G B n0 Q kc ks cells slots h (pc + 1) Ls (v :: st)) : own_G B n0 Q kc ks cells slots h pc Ls (.int j :: .ref a :: st) := by
  obtain ⟨p, l, e, R, s, m, args, below, meth, c, k0, P⟩ := B
  obtain ⟨rfl, rfl, hx, hZ, hown, hby, hml, hrt, hlk, hnm, hw, hPe⟩ := H
  intro T locs c1 s1 X F hc hs eT hk
  exact own_go (fun t r => X.caload hx (j := j) (v := v) (by rw [eT]; exact A.1) (State.isArrayOf_alike hZ.alike A.2.1) A.2.2 hin hv (g := mkF m pc Ls (.int j :: .ref a :: st)) rfl rfl (hb hby hd) _ r) (k T locs c1 s1 X F hc hs eT hk)
theorem own_baload (H : own_Ok B Z a0 l R y code N ret) {a : Addr} {cl : Cell} {j : Int32} {v : Value} (A : Arr Z h a cl .byte) (hin : ¬ (j < 0 ∨ cl.slots.size ≤ j.toNatClampNeg)) (hv : cl.slots[j.toNatClampNeg]? = some v) (hd : decode code pc = .ok (.baload, 1)) (k : own_G B n0 Q kc ks cells slots h (pc + 1) Ls (v :: st)) : own_G B n0 Q kc ks cells slots h pc Ls (.int j :: .ref a :: st) := by
  obtain ⟨p, l, e, R, s, m, args, below, meth, c, k0, P⟩ := B
  obtain ⟨rfl, rfl, hx, hZ, hown, hby, hml, hrt, hlk, hnm, hw, hPe⟩ := H
  intro T locs c1 s1 X F hc hs eT hk
  exact own_go (fun t r => X.baloadBytes hx (j := j) (v := v) (by rw [eT]; exact A.1) (State.isArrayOf_alike hZ.alike A.2.1) A.2.2 hin hv (g := mkF m pc Ls (.int j :: .ref a :: st)) rfl rfl (hb hby hd) _ r) (k T locs c1 s1 X F hc hs eT hk)
theorem own_aaload (H : own_Ok B Z a0 l R y code N ret) {a : Addr} {cl : Cell} {ty : FieldType} {j : Int32} {v : Value} (A : Arr Z h a cl ty) (hty : ty.isReference = true) (hin : ¬ (j < 0 ∨ cl.slots.size ≤ j.toNatClampNeg)) (hv : cl.slots[j.toNatClampNeg]? = some v) (hd : decode code pc = .ok (.aaload, 1)) (k : own_G B n0 Q kc ks cells slots h (pc + 1) Ls (v :: st)) : own_G B n0 Q kc ks cells slots h pc Ls (.int j :: .ref a :: st) := by
  obtain ⟨p, l, e, R, s, m, args, below, meth, c, k0, P⟩ := B
  obtain ⟨rfl, rfl, hx, hZ, hown, hby, hml, hrt, hlk, hnm, hw, hPe⟩ := H
  intro T locs c1 s1 X F hc hs eT hk
  exact own_go (fun t r => X.aaload hx (j := j) (v := v) (by rw [eT]; exact A.1) (State.isArrayOf_alike hZ.alike A.2.1) hty A.2.2 hin hv (g := mkF m pc Ls (.int j :: .ref a :: st)) rfl rfl (hb hby hd) _ r) (k T locs c1 s1 X F hc hs eT hk)
theorem own_arraylength (H : own_Ok B Z a0 l R y code N ret) {a : Addr} {cl : Cell} {ty : FieldType} {z : Int32} (A : Arr Z h a cl ty) (S : cl.slots.size = z.toNatClampNeg) (hz : ¬ z < 0) (hd : decode code pc = .ok (.arraylength, 1)) (k : own_G B n0 Q kc ks cells slots h (pc + 1) Ls (.int z :: st)) : own_G B n0 Q kc ks cells slots h pc Ls (.ref a :: st) := by
  obtain ⟨p, l, e, R, s, m, args, below, meth, c, k0, P⟩ := B
  obtain ⟨rfl, rfl, hx, hZ, hown, hby, hml, hrt, hlk, hnm, hw, hPe⟩ := H
  intro T locs c1 s1 X F hc hs eT hk
  refine own_go (fun t r => X.arraylength hx (by rw [eT]; exact A.1) (State.isArrayOf_alike hZ.alike A.2.1) (g := mkF m pc Ls (.ref a :: st)) rfl rfl (hb hby hd) _ r) ?_
  rw [len_of S hz]
  exact k T locs c1 s1 X F hc hs eT hk
theorem own_iastore (H : own_Ok B Z a0 l R y code N ret) {a : Addr} {cl : Cell} {j : Int32} {x : Int32} (A : Arr Z h a cl .int) (hin : ¬ (j < 0 ∨ cl.slots.size ≤ j.toNatClampNeg)) (ha : n0 ≤ a) (hd : decode code pc = .ok (.iastore, 1)) (k : ∀ h', Wr h h' a j.toNatClampNeg (.int x) → own_G B n0 Q kc ks cells slots h' (pc + 1) Ls st) : own_G B n0 Q kc ks cells slots h pc Ls (.int x :: .int j :: .ref a :: st) := by
  obtain ⟨p, l, e, R, s, m, args, below, meth, c, k0, P⟩ := B
  obtain ⟨rfl, rfl, hx, hZ, hown, hby, hml, hrt, hlk, hnm, hw, hPe⟩ := H
  intro T locs c1 s1 X F hc hs eT hk
  obtain ⟨T', h', X', e', W', s'⟩ := stI X hx hZ eT A hin (g := mkF m pc Ls (.int x :: .int j :: .ref a :: st)) rfl rfl (hb hby hd)
  exact own_go s' (k h' W' T' _ c1 s1 X' (Fr.snoc X' F ha) hc hs e' (by rw [W'.size]; exact hk))
theorem own_lastore (H : own_Ok B Z a0 l R y code N ret) {a : Addr} {cl : Cell} {j : Int32} {x : Int64} (A : Arr Z h a cl .long) (hin : ¬ (j < 0 ∨ cl.slots.size ≤ j.toNatClampNeg)) (ha : n0 ≤ a) (hd : decode code pc = .ok (.lastore, 1)) (k : ∀ h', Wr h h' a j.toNatClampNeg (.long x) → own_G B n0 Q kc ks cells slots h' (pc + 1) Ls st) : own_G B n0 Q kc ks cells slots h pc Ls (.long x :: .int j :: .ref a :: st) := by
  obtain ⟨p, l, e, R, s, m, args, below, meth, c, k0, P⟩ := B
  obtain ⟨rfl, rfl, hx, hZ, hown, hby, hml, hrt, hlk, hnm, hw, hPe⟩ := H
  intro T locs c1 s1 X F hc hs eT hk
  obtain ⟨T', h', X', e', W', s'⟩ := stJ X hx hZ eT A hin (g := mkF m pc Ls (.long x :: .int j :: .ref a :: st)) rfl rfl (hb hby hd)
  exact own_go s' (k h' W' T' _ c1 s1 X' (Fr.snoc X' F ha) hc hs e' (by rw [W'.size]; exact hk))
theorem own_bastore (H : own_Ok B Z a0 l R y code N ret) {a : Addr} {cl : Cell} {j : Int32} {x : Int32} (A : Arr Z h a cl .byte) (hin : ¬ (j < 0 ∨ cl.slots.size ≤ j.toNatClampNeg)) (ha : n0 ≤ a) (hd : decode code pc = .ok (.bastore, 1)) (k : ∀ h', Wr h h' a j.toNatClampNeg (.int (nar .byte x)) → own_G B n0 Q kc ks cells slots h' (pc + 1) Ls st) : own_G B n0 Q kc ks cells slots h pc Ls (.int x :: .int j :: .ref a :: st) := by
  obtain ⟨p, l, e, R, s, m, args, below, meth, c, k0, P⟩ := B
  obtain ⟨rfl, rfl, hx, hZ, hown, hby, hml, hrt, hlk, hnm, hw, hPe⟩ := H
  intro T locs c1 s1 X F hc hs eT hk
  obtain ⟨T', h', X', e', W', s'⟩ := stB X hx hZ eT A hin (g := mkF m pc Ls (.int x :: .int j :: .ref a :: st)) rfl rfl (hb hby hd)
  exact own_go s' (k h' W' T' _ c1 s1 X' (Fr.snoc X' F ha) hc hs e' (by rw [W'.size]; exact hk))
theorem own_castore (H : own_Ok B Z a0 l R y code N ret) {a : Addr} {cl : Cell} {j : Int32} {x : Int32} (A : Arr Z h a cl .char) (hin : ¬ (j < 0 ∨ cl.slots.size ≤ j.toNatClampNeg)) (ha : n0 ≤ a) (hd : decode code pc = .ok (.castore, 1)) (k : ∀ h', Wr h h' a j.toNatClampNeg (.int (nar .char x)) → own_G B n0 Q kc ks cells slots h' (pc + 1) Ls st) : own_G B n0 Q kc ks cells slots h pc Ls (.int x :: .int j :: .ref a :: st) := by
  obtain ⟨p, l, e, R, s, m, args, below, meth, c, k0, P⟩ := B
  obtain ⟨rfl, rfl, hx, hZ, hown, hby, hml, hrt, hlk, hnm, hw, hPe⟩ := H
  intro T locs c1 s1 X F hc hs eT hk
  obtain ⟨T', h', X', e', W', s'⟩ := stC X hx hZ eT A hin (g := mkF m pc Ls (.int x :: .int j :: .ref a :: st)) rfl rfl (hb hby hd)
  exact own_go s' (k h' W' T' _ c1 s1 X' (Fr.snoc X' F ha) hc hs e' (by rw [W'.size]; exact hk))
theorem own_ialoadV (H : own_Ok B Z a0 l R y code N ret) {a : Addr} {kA : ClassId} {n j : Int32} {vs : List Value} {dv v : Value} (V : Arv Z h a kA .int n vs dv) (h1 : ¬ j < 0) (h2 : j < n) (hv : vs.getD j.toNatClampNeg dv = v) (hd : decode code pc = .ok (.iaload, 1)) (k : own_G B n0 Q kc ks cells slots h (pc + 1) Ls (v :: st)) : own_G B n0 Q kc ks cells slots h pc Ls (.int j :: .ref a :: st) := by
  obtain ⟨cl, A, -, S, M, Hs, -⟩ := V
  exact own_iaload H A (inb_of S ⟨h1, h2⟩) (Hs.at (inb_of S ⟨h1, h2⟩) hv) hd k
theorem own_laloadV (H : own_Ok B Z a0 l R y code N ret) {a : Addr} {kA : ClassId} {n j : Int32} {vs : List Value} {dv v : Value} (V : Arv Z h a kA .long n vs dv) (h1 : ¬ j < 0) (h2 : j < n) (hv : vs.getD j.toNatClampNeg dv = v) (hd : decode code pc = .ok (.laload, 1)) (k : own_G B n0 Q kc ks cells slots h (pc + 1) Ls (v :: st)) : own_G B n0 Q kc ks cells slots h pc Ls (.int j :: .ref a :: st) := by
  obtain ⟨cl, A, -, S, M, Hs, -⟩ := V
  exact own_laload H A (inb_of S ⟨h1, h2⟩) (Hs.at (inb_of S ⟨h1, h2⟩) hv) hd k
theorem own_caloadV (H : own_Ok B Z a0 l R y code N ret) {a : Addr} {kA : ClassId} {n j : Int32} {vs : List Value} {dv v : Value} (V : Arv Z h a kA .char n vs dv) (h1 : ¬ j < 0) (h2 : j < n) (hv : vs.getD j.toNatClampNeg dv = v) (hd : decode code pc = .ok (.caload, 1)) (k : own_G B n0 Q kc ks cells slots h (pc + 1) Ls (v :: st)) : own_G B n0 Q kc ks cells slots h pc Ls (.int j :: .ref a :: st) := by
  obtain ⟨cl, A, -, S, M, Hs, -⟩ := V
  exact own_caload H A (inb_of S ⟨h1, h2⟩) (Hs.at (inb_of S ⟨h1, h2⟩) hv) hd k
theorem own_baloadV (H : own_Ok B Z a0 l R y code N ret) {a : Addr} {kA : ClassId} {n j : Int32} {vs : List Value} {dv v : Value} (V : Arv Z h a kA .byte n vs dv) (h1 : ¬ j < 0) (h2 : j < n) (hv : vs.getD j.toNatClampNeg dv = v) (hd : decode code pc = .ok (.baload, 1)) (k : own_G B n0 Q kc ks cells slots h (pc + 1) Ls (v :: st)) : own_G B n0 Q kc ks cells slots h pc Ls (.int j :: .ref a :: st) := by
  obtain ⟨cl, A, -, S, M, Hs, -⟩ := V
  exact own_baload H A (inb_of S ⟨h1, h2⟩) (Hs.at (inb_of S ⟨h1, h2⟩) hv) hd k
theorem own_aaloadV (H : own_Ok B Z a0 l R y code N ret) {a : Addr} {kA : ClassId} {ty : FieldType} {n j : Int32} {vs : List Value} {dv v : Value} (V : Arv Z h a kA ty n vs dv) (hty : ty.isReference = true) (h1 : ¬ j < 0) (h2 : j < n) (hv : vs.getD j.toNatClampNeg dv = v) (hd : decode code pc = .ok (.aaload, 1)) (k : own_G B n0 Q kc ks cells slots h (pc + 1) Ls (v :: st)) : own_G B n0 Q kc ks cells slots h pc Ls (.int j :: .ref a :: st) := by
  obtain ⟨cl, A, -, S, M, Hs, -⟩ := V
  exact own_aaload H A hty (inb_of S ⟨h1, h2⟩) (Hs.at (inb_of S ⟨h1, h2⟩) hv) hd k
theorem own_arraylengthV (H : own_Ok B Z a0 l R y code N ret) {a : Addr} {kA : ClassId} {ty : FieldType} {n : Int32} {vs : List Value} {dv : Value} (V : Arv Z h a kA ty n vs dv) (hd : decode code pc = .ok (.arraylength, 1)) (k : own_G B n0 Q kc ks cells slots h (pc + 1) Ls (.int n :: st)) : own_G B n0 Q kc ks cells slots h pc Ls (.ref a :: st) := by
  obtain ⟨cl, A, -, S, M, -, -⟩ := V
  exact own_arraylength H A S M hd k
theorem own_iastoreV (H : own_Ok B Z a0 l R y code N ret) {a : Addr} {kA : ClassId} {n j : Int32} {vs : List Value} {dv u : Value} {x : Int32} (V : Arv Z h a kA .int n vs dv) (h1 : ¬ j < 0) (h2 : j < n) (i : Nat) (hj : j.toNatClampNeg = i) (hi : i < vs.length) (ha : n0 ≤ a) (hu : (.int x) = u) (hd : decode code pc = .ok (.iastore, 1)) (k : ∀ h', Wr h h' a j.toNatClampNeg u → Arv Z h' a kA .int n (vs.set i u) dv → own_G B n0 Q kc ks cells slots h' (pc + 1) Ls st) : own_G B n0 Q kc ks cells slots h pc Ls (.int x :: .int j :: .ref a :: st) := by
  subst hu
  obtain ⟨cl, A, q1, S, M, Hs, Fs⟩ := V
  exact own_iastore H A (inb_of S ⟨h1, h2⟩) ha hd fun h' W => k h' W (Arv.set A q1 S M Hs Fs rfl W i hj hi)
theorem own_lastoreV (H : own_Ok B Z a0 l R y code N ret) {a : Addr} {kA : ClassId} {n j : Int32} {vs : List Value} {dv u : Value} {x : Int64} (V : Arv Z h a kA .long n vs dv) (h1 : ¬ j < 0) (h2 : j < n) (i : Nat) (hj : j.toNatClampNeg = i) (hi : i < vs.length) (ha : n0 ≤ a) (hu : (.long x) = u) (hd : decode code pc = .ok (.lastore, 1)) (k : ∀ h', Wr h h' a j.toNatClampNeg u → Arv Z h' a kA .long n (vs.set i u) dv → own_G B n0 Q kc ks cells slots h' (pc + 1) Ls st) : own_G B n0 Q kc ks cells slots h pc Ls (.long x :: .int j :: .ref a :: st) := by
  subst hu
  obtain ⟨cl, A, q1, S, M, Hs, Fs⟩ := V
  exact own_lastore H A (inb_of S ⟨h1, h2⟩) ha hd fun h' W => k h' W (Arv.set A q1 S M Hs Fs rfl W i hj hi)
theorem own_bastoreV (H : own_Ok B Z a0 l R y code N ret) {a : Addr} {kA : ClassId} {n j : Int32} {vs : List Value} {dv u : Value} {x : Int32} (V : Arv Z h a kA .byte n vs dv) (h1 : ¬ j < 0) (h2 : j < n) (i : Nat) (hj : j.toNatClampNeg = i) (hi : i < vs.length) (ha : n0 ≤ a) (hu : (.int (nar .byte x)) = u) (hd : decode code pc = .ok (.bastore, 1)) (k : ∀ h', Wr h h' a j.toNatClampNeg u → Arv Z h' a kA .byte n (vs.set i u) dv → own_G B n0 Q kc ks cells slots h' (pc + 1) Ls st) : own_G B n0 Q kc ks cells slots h pc Ls (.int x :: .int j :: .ref a :: st) := by
  subst hu
  obtain ⟨cl, A, q1, S, M, Hs, Fs⟩ := V
  exact own_bastore H A (inb_of S ⟨h1, h2⟩) ha hd fun h' W => k h' W (Arv.set A q1 S M Hs Fs (fits_nar_byte x) W i hj hi)
theorem own_castoreV (H : own_Ok B Z a0 l R y code N ret) {a : Addr} {kA : ClassId} {n j : Int32} {vs : List Value} {dv u : Value} {x : Int32} (V : Arv Z h a kA .char n vs dv) (h1 : ¬ j < 0) (h2 : j < n) (i : Nat) (hj : j.toNatClampNeg = i) (hi : i < vs.length) (ha : n0 ≤ a) (hu : (.int (nar .char x)) = u) (hd : decode code pc = .ok (.castore, 1)) (k : ∀ h', Wr h h' a j.toNatClampNeg u → Arv Z h' a kA .char n (vs.set i u) dv → own_G B n0 Q kc ks cells slots h' (pc + 1) Ls st) : own_G B n0 Q kc ks cells slots h pc Ls (.int x :: .int j :: .ref a :: st) := by
  subst hu
  obtain ⟨cl, A, q1, S, M, Hs, Fs⟩ := V
  exact own_castore H A (inb_of S ⟨h1, h2⟩) ha hd fun h' W => k h' W (Arv.set A q1 S M Hs Fs (fits_nar_char x) W i hj hi)
theorem own_initObject (H : own_Ok B Z a0 l R y code N ret) {i w1 w2 w3 : Nat} (q1 : tables_1[w1]? = some (Jvm.Cond.methodLink y.cls i Lib.objectInit)) (q2 : tables_1[w2]? = some (Jvm.Cond.instanceMethod Lib.objectInit)) (q3 : tables_1[w3]? = some (Jvm.Cond.code Lib.objectInit ⟨#[0xb1]⟩ 1 none)) {a : Addr} (W : Nat) (hsz : Ls.size = N) (hf : 1 ≤ R.frames) (hW : (st.map fun v => v.category).sum ≤ W) (hl : W + 12 ≤ R.locals)
    (hd : decode code pc = .ok (.invokespecial i, 3)) (k : own_G B n0 Q kc ks cells slots h (pc + 3) Ls st) : own_G B n0 Q kc ks cells slots h pc Ls (.ref a :: st) := by
  obtain ⟨p, l, e, R, s, m, args, below, meth, c, k0, P⟩ := B
  obtain ⟨rfl, rfl, hx, hZ, hown, hby, hml, hrt, hlk, hnm, hw, hPe⟩ := H
  intro T locs c1 s1 X F hc hs eT hk
  obtain ⟨T', X', e', s'⟩ := initO X hx hZ hown (hw _ _ q1) (hw _ _ q2) (hw _ _ q3) eT (g := mkF m pc Ls (.ref a :: st)) rfl (hsz.trans hml.symm) rfl (hb hby hd) hf (W := W) (by show 2 * 0 + _ ≤ _; omega) hl
  exact own_go s' (k T' locs c1 s1 X' F hc hs e' hk)
theorem own_invokestatic (H : own_Ok B Z a0 l R y code N ret) {i w1 w2 w3 w4 : Nat} {yc : MethodName} {bytes : ByteArray} {maxL : Nat} {rc : Option FieldType} {rm : Room} {Qc : Option Value → Heap → Prop} {argsL rest : List Value} (hM : own_C l Z yc bytes maxL rc rm argsL.toArray h n0 Qc)
    (q1 : tables_1[w1]? = some (Jvm.Cond.methodLink y.cls i yc)) (q2 : tables_1[w2]? = some (Jvm.Cond.static yc)) (qz : tables_1[w3]? = some (Jvm.Cond.initialized yc.cls)) (qc : tables_1[w4]? = some (Jvm.Cond.code yc bytes maxL rc)) {ps : List FieldType} {r : Option FieldType} (hpd : parseMethodDescriptor yc.desc = some ⟨ps, r⟩) (hln : argsL.length = ps.length) (W : Nat) (hne : yc.cls ≠ "java/lang/invoke/MethodHandle" ∧ yc.cls ≠ "java/lang/invoke/VarHandle")
    (hsz : Ls.size = N) (hfr : rm.frames + 1 ≤ R.frames) (hW : (rest.map fun v => v.category).sum ≤ W) (hlo : W + (maxL + 11) + rm.locals ≤ R.locals) (hkc : cells + rm.cells ≤ R.cells) (hks : slots + rm.slots ≤ R.slots) (hst : st = argsL.reverse ++ rest) (hd : decode code pc = .ok (.invokestatic i, 3))
    (k : ∀ v h', Qc v h' → own_G B n0 Q kc ks (cells + rm.cells) (slots + rm.slots) h' (pc + 3) Ls (v.toList ++ rest)) : own_G B n0 Q kc ks cells slots h pc Ls st := by
  obtain ⟨p, l, e, R, s, m, args, below, meth, c, k0, P⟩ := B
  obtain ⟨rfl, rfl, hx, hZ, hown, hby, hml, hrt, hlk, hnm, hw, hPe⟩ := H
  intro T locs c1 s1 X F hc hs eT hk
  subst hst
  obtain ⟨v', _, ⟨T', L', k', n'⟩, -, X', ⟨Lc', hQ', l', y', z'⟩, s'⟩ := Jvm.LawKit.callS X hx (y := yc) hown (mvT hZ (hw _ _ q1)) (mvT hZ (hw _ _ q2)) (mvT hZ (hw _ _ qz)) (mvT hZ (hw _ _ qc)) hne (backOf (W := W) (bytes := bytes) (rm := rm) (Q := fun v hh L => (Qc v hh ∧ Fr n0 L) ∧ h.size ≤ hh.size) (h := h) (own_grow hM) hZ (hw _ _ qc) (hw _ _ qz) hfr hlo) (g := mkF m pc Ls (argsL.reverse ++ rest)) rfl (hsz.trans hml.symm) (argsL := argsL) (rest := rest) (lenOf hpd hln) rfl (by show 2 * 0 + _ ≤ _; omega) (hb hby hd) (fun _ _ => ⟨rfl, eT, Nat.le_trans (Nat.add_le_add_right hc _) hkc, Nat.le_trans (Nat.add_le_add_right hs _) hks⟩)
  dsimp only [Pt.U, Pt.locs, Pt.cells, Pt.slots] at X' l' y' z' s' hQ'
  subst l' y' z'
  exact own_go s' (k v' _ hQ'.1.1 T' _ _ _ X' (F.app hQ'.1.2) (Nat.add_le_add_right hc _) (Nat.add_le_add_right hs _) rfl (Nat.le_trans hk hQ'.2))
theorem own_invokespecial (H : own_Ok B Z a0 l R y code N ret) {i w1 w2 w3 w4 : Nat} {yc : MethodName} {bytes : ByteArray} {maxL : Nat} {rm : Room} {Qc : Option Value → Heap → Prop} {a : Addr} {argsL rest : List Value} (hM : own_C l Z yc bytes maxL none rm (.ref a :: argsL).toArray h n0 Qc) (hin : yc.name = "<init>")
    (q1 : tables_1[w1]? = some (Jvm.Cond.methodLink y.cls i yc)) (q2 : tables_1[w2]? = some (Jvm.Cond.instanceMethod yc)) (qz : tables_1[w3]? = some (Jvm.Cond.initialized yc.cls)) (qc : tables_1[w4]? = some (Jvm.Cond.code yc bytes maxL none)) {ps : List FieldType} {r : Option FieldType} (hpd : parseMethodDescriptor yc.desc = some ⟨ps, r⟩) (hln : argsL.length = ps.length) (W : Nat) (hne : yc.cls ≠ "java/lang/invoke/MethodHandle" ∧ yc.cls ≠ "java/lang/invoke/VarHandle")
    (hsz : Ls.size = N) (hfr : rm.frames + 1 ≤ R.frames) (hW : (rest.map fun v => v.category).sum ≤ W) (hlo : W + (maxL + 11) + rm.locals ≤ R.locals) (hkc : cells + rm.cells ≤ R.cells) (hks : slots + rm.slots ≤ R.slots) (hst : st = argsL.reverse ++ .ref a :: rest) (hd : decode code pc = .ok (.invokespecial i, 3))
    (k : ∀ v h', Qc v h' → own_G B n0 Q kc ks (cells + rm.cells) (slots + rm.slots) h' (pc + 3) Ls (v.toList ++ rest)) : own_G B n0 Q kc ks cells slots h pc Ls st := by
  obtain ⟨p, l, e, R, s, m, args, below, meth, c, k0, P⟩ := B
  obtain ⟨rfl, rfl, hx, hZ, hown, hby, hml, hrt, hlk, hnm, hw, hPe⟩ := H
  intro T locs c1 s1 X F hc hs eT hk
  subst hst
  obtain ⟨v', _, ⟨T', L', k', n'⟩, -, X', ⟨Lc', hQ', l', y', z'⟩, s'⟩ := X.specialBack hx (y := yc) hin hown (mvT hZ (hw _ _ q1)) (mvT hZ (hw _ _ q2)) (mvT hZ (hw _ _ qc)) hne (backOf (W := W) (bytes := bytes) (rm := rm) (Q := fun v hh L => (Qc v hh ∧ Fr n0 L) ∧ h.size ≤ hh.size) (h := h) (own_grow hM) hZ (hw _ _ qc) (hw _ _ qz) hfr hlo) (g := mkF m pc Ls (argsL.reverse ++ .ref a :: rest)) rfl (hsz.trans hml.symm) (Steps.refl _) (a := a) (argsL := argsL) (rest := rest) (lenOf hpd hln) rfl (by show 2 * 0 + _ ≤ _; omega) (hb hby hd) (fun _ _ => ⟨rfl, eT, Nat.le_trans (Nat.add_le_add_right hc _) hkc, Nat.le_trans (Nat.add_le_add_right hs _) hks⟩)
  dsimp only [Pt.U, Pt.locs, Pt.cells, Pt.slots] at X' l' y' z' s' hQ'
  subst l' y' z'
  exact own_go (fun t q => s'.trans q) (k v' _ hQ'.1.1 T' _ _ _ X' (F.app hQ'.1.2) (Nat.add_le_add_right hc _) (Nat.add_le_add_right hs _) rfl (Nat.le_trans hk hQ'.2))
theorem own_invokevirtual (H : own_Ok B Z a0 l R y code N ret) {i w0 w1 w2 w3 w4 w5 : Nat} {C : String} {yc : MethodName} {bytes : ByteArray} {maxL : Nat} {rc : Option FieldType} {rm : Room} {Qc : Option Value → Heap → Prop} {a : Addr} {argsL rest : List Value} (hM : own_C l Z yc bytes maxL rc rm (.ref a :: argsL).toArray h n0 Qc) (E : Exa Z h a C)
    (q1 : tables_1[w1]? = some (Jvm.Cond.methodLink y.cls i yc)) (q0 : tables_1[w0]? = some (Jvm.Cond.declares yc)) (q5 : tables_1[w5]? = some (Jvm.Cond.selects C yc yc)) (q2 : tables_1[w2]? = some (Jvm.Cond.instanceMethod yc)) (qz : tables_1[w3]? = some (Jvm.Cond.initialized yc.cls)) (qc : tables_1[w4]? = some (Jvm.Cond.code yc bytes maxL rc)) {ps : List FieldType} {r : Option FieldType} (hpd : parseMethodDescriptor yc.desc = some ⟨ps, r⟩) (hln : argsL.length = ps.length) (W : Nat) (hne : yc.cls ≠ "java/lang/invoke/MethodHandle" ∧ yc.cls ≠ "java/lang/invoke/VarHandle")
    (hsz : Ls.size = N) (hfr : rm.frames + 1 ≤ R.frames) (hW : (rest.map fun v => v.category).sum ≤ W) (hlo : W + (maxL + 11) + rm.locals ≤ R.locals) (hkc : cells + rm.cells ≤ R.cells) (hks : slots + rm.slots ≤ R.slots) (hst : st = argsL.reverse ++ .ref a :: rest) (hd : decode code pc = .ok (.invokevirtual i, 3))
    (k : ∀ v h', Qc v h' → own_G B n0 Q kc ks (cells + rm.cells) (slots + rm.slots) h' (pc + 3) Ls (v.toList ++ rest)) : own_G B n0 Q kc ks cells slots h pc Ls st := by
  obtain ⟨p, l, e, R, s, m, args, below, meth, c, k0, P⟩ := B
  obtain ⟨rfl, rfl, hx, hZ, hown, hby, hml, hrt, hlk, hnm, hw, hPe⟩ := H
  intro T locs c1 s1 X F hc hs eT hk
  subst hst
  obtain ⟨cq, kq, qa, -, qb⟩ := isOf hZ eT E
  obtain ⟨v', _, ⟨T', L', k', n'⟩, -, X', ⟨Lc', hQ', l', y', z'⟩, s'⟩ := X.virtualBack hx (y := yc) (z := yc) hown (mvT hZ (hw _ _ q1)) (mvT hZ (hw _ _ q0)) (notFace_of_selects (args := #[]) (mvT hZ (hw _ _ q5))) (mvT hZ (hw _ _ q5)) (mvT hZ (hw _ _ q2)) hne (backOf (W := W) (bytes := bytes) (rm := rm) (Q := fun v hh L => (Qc v hh ∧ Fr n0 L) ∧ h.size ≤ hh.size) (h := h) (own_grow hM) hZ (hw _ _ qc) (hw _ _ qz) hfr hlo) qa qb (g := mkF m pc Ls (argsL.reverse ++ .ref a :: rest)) rfl (hsz.trans hml.symm) (Steps.refl _) (argsL := argsL) (rest := rest) (lenOf hpd hln) rfl (by show 2 * 0 + _ ≤ _; omega) (hb hby hd) (fun _ _ => ⟨rfl, eT, Nat.le_trans (Nat.add_le_add_right hc _) hkc, Nat.le_trans (Nat.add_le_add_right hs _) hks⟩)
  dsimp only [Pt.U, Pt.locs, Pt.cells, Pt.slots] at X' l' y' z' s' hQ'
  subst l' y' z'
  exact own_go (fun t q => s'.trans q) (k v' _ hQ'.1.1 T' _ _ _ X' (F.app hQ'.1.2) (Nat.add_le_add_right hc _) (Nat.add_le_add_right hs _) rfl (Nat.le_trans hk hQ'.2))
theorem own_newarrayE (H : own_Ok B Z a0 l R y code N ret) {aty : ArrayType} {w : Nat} (q : tables_1[w]? = some (Jvm.Cond.arrayClass (newarray.typeOf aty))) {n : Int32} (ad : String) (had : "[" ++ (newarray.typeOf aty).toString = ad) (hn : ¬ n < 0) (cap : Nat) (hcap : n.toNatClampNeg ≤ cap) (hcb : cap * 8 ≤ 536870912) (hd : decode code pc = .ok (.newarray aty, 2)) (hkc : cells + 1 ≤ R.cells) (hks : slots + cap ≤ R.slots)
    (k : ∀ h' a kA, a = h.size → Ext h h' → Arv Z h' a kA (newarray.typeOf aty) n [] (defaultValue (newarray.typeOf aty)) → Exa Z h' a ad → own_G B n0 Q kc ks (cells + 1) (slots + cap) h' (pc + 2) Ls (.ref a :: st)) : own_G B n0 Q kc ks cells slots h pc Ls (.int n :: st) := by
  obtain ⟨p, l, e, R, s, m, args, below, meth, c, k0, P⟩ := B
  obtain ⟨rfl, rfl, hx, hZ, hown, hby, hml, hrt, hlk, hnm, hw, hPe⟩ := H
  intro T locs c1 s1 X F hc hs eT hk
  obtain ⟨T', h', kA, X', e', E', A', Ex', s'⟩ := newPE X hx hZ (hw _ _ q) eT (g := mkF m pc Ls (.int n :: st)) rfl (hb hby hd) rfl hn hcap hcb (Nat.le_trans (Nat.add_le_add_right hc 1) hkc) (Nat.le_trans (Nat.add_le_add_right hs cap) hks) had
  exact own_go s' (k h' h.size kA rfl E' (Arv.new A' hn) Ex' T' locs _ _ X' F (Nat.add_le_add_right hc 1) (Nat.add_le_add_right hs cap) e' (Nat.le_trans hk E'.1))
theorem own_clone (H : own_Ok B Z a0 l R y code N ret) {ad : String} {i w1 w2 w3 w4 w5 w6 : Nat} (q1 : tables_1[w1]? = some (Jvm.Cond.methodLink y.cls i ⟨ad, "clone", "()Ljava/lang/Object;"⟩)) (q2 : tables_1[w2]? = some (Jvm.Cond.sameMethod ad "java/lang/Object" "clone" "()Ljava/lang/Object;")) (q3 : tables_1[w3]? = some (Jvm.Cond.native ⟨"java/lang/Object", "clone", "()Ljava/lang/Object;"⟩)) (q4 : tables_1[w4]? = some (Jvm.Cond.instanceMethod ⟨"java/lang/Object", "clone", "()Ljava/lang/Object;"⟩)) (q5 : tables_1[w5]? = some (Jvm.Cond.selects ad ⟨ad, "clone", "()Ljava/lang/Object;"⟩ ⟨"java/lang/Object", "clone", "()Ljava/lang/Object;"⟩)) (q6 : tables_1[w6]? = some (Jvm.Cond.castable ad "java/lang/Cloneable"))
    {a : Addr} {kA : ClassId} {ty : FieldType} {n : Int32} {vs : List Value} {dv : Value} (V : Arv Z h a kA ty n vs dv) (E : Exa Z h a ad) (hsz : Ls.size = N) (hf : 1 ≤ R.frames) (W : Nat) (hW : (st.map fun v => v.category).sum ≤ W) (hl : W + 14 ≤ R.locals) (cap : Nat) (hcap : n.toNatClampNeg ≤ cap) (hd : decode code pc = .ok (.invokevirtual i, 3)) (hkc : cells + 1 ≤ R.cells) (hks : slots + cap ≤ R.slots)
    (k : ∀ h' b, b = h.size → Ext h h' → Arv Z h' b kA ty n vs dv → Exa Z h' b ad → own_G B n0 Q kc ks (cells + 1) (slots + cap) h' (pc + 3) Ls (.ref b :: st)) : own_G B n0 Q kc ks cells slots h pc Ls (.ref a :: st) := by
  obtain ⟨p, l, e, R, s, m, args, below, meth, c, k0, P⟩ := B
  obtain ⟨rfl, rfl, hx, hZ, hown, hby, hml, hrt, hlk, hnm, hw, hPe⟩ := H
  intro T locs c1 s1 X F hc hs eT hk
  obtain ⟨T', h', X', e', E', A', Ex', s'⟩ := cloneH X hx hZ hown (hw _ _ q1) (hw _ _ q2) (hw _ _ q3) (hw _ _ q4) (hw _ _ q5) (hw _ _ q6) eT V.arh E (g := mkF m pc Ls (.ref a :: st)) rfl (hsz.trans hml.symm) rfl (hb hby hd) hf (W := W) (by show 2 * 0 + _ ≤ _; omega) hl hcap (Nat.le_trans (Nat.add_le_add_right hc 1) hkc) (Nat.le_trans (Nat.add_le_add_right hs cap) hks)
  exact own_go s' (k h' h.size rfl E' A' Ex' T' locs _ _ X' F (Nat.add_le_add_right hc 1) (Nat.add_le_add_right hs cap) e' (Nat.le_trans hk E'.1))
theorem own_checkcast (H : own_Ok B Z a0 l R y code N ret) {K : String} {i w : Nat} (q : tables_1[w]? = some (Jvm.Cond.classLink y.cls i K)) {a : Addr} (I : Ins Z h a K true) (hd : decode code pc = .ok (.checkcast i, 3)) (k : own_G B n0 Q kc ks cells slots h (pc + 3) Ls (.ref a :: st)) : own_G B n0 Q kc ks cells slots h pc Ls (.ref a :: st) := by
  obtain ⟨p, l, e, R, s, m, args, below, meth, c, k0, P⟩ := B
  obtain ⟨rfl, rfl, hx, hZ, hown, hby, hml, hrt, hlk, hnm, hw, hPe⟩ := H
  intro T locs c1 s1 X F hc hs eT hk
  obtain ⟨T', X', e', s'⟩ := castY X hx hZ hown (hw _ _ q) eT I (g := mkF m pc Ls (.ref a :: st)) rfl rfl (hb hby hd)
  exact own_go s' (k T' locs c1 s1 X' F hc hs e' hk)
theorem own_arraycopy (H : own_Ok B Z a0 l R y code N ret) {i w1 w2 w3 w4 : Nat} (q1 : tables_1[w1]? = some (Jvm.Cond.methodLink y.cls i Jvm.Stand.acN)) (q2 : tables_1[w2]? = some (Jvm.Cond.native Jvm.Stand.acN)) (q3 : tables_1[w3]? = some (Jvm.Cond.static Jvm.Stand.acN)) (q4 : tables_1[w4]? = some (Jvm.Cond.initialized "java/lang/System"))
    {a b : Addr} {kA kB : ClassId} {ty : FieldType} {n n' sp dp nn : Int32} {vs vd us : List Value} {dv dd : Value} (A : Arv Z h a kA ty n vs dv) (D : Arv Z h b kB ty n' vd dd) (hty : refKind ty = false) (h1 : ¬ sp < 0) (h2 : ¬ dp < 0) (h3 : ¬ nn < 0) (h4 : sp.toNatClampNeg + nn.toNatClampNeg ≤ n.toNatClampNeg) (h5 : dp.toNatClampNeg + nn.toNatClampNeg ≤ n'.toNatClampNeg)
    (hus : us = (List.range nn.toNatClampNeg).map fun i => vs.getD (sp.toNatClampNeg + i) dv) (hlv : dp.toNatClampNeg + nn.toNatClampNeg ≤ vd.length) (hb0 : n0 ≤ b) (hsz : Ls.size = N) (hf : 1 ≤ R.frames) (W : Nat) (hW : (st.map fun v => v.category).sum ≤ W) (hlo : W + (nativeFrameWords "java/lang/System" "arraycopy" 5 + 11) ≤ R.locals) (hd : decode code pc = .ok (.invokestatic i, 3))
    (k : ∀ h', Keep h h' [b] → Arv Z h' b kB ty n' (vd.take dp.toNatClampNeg ++ us ++ vd.drop (dp.toNatClampNeg + nn.toNatClampNeg)) dd → own_G B n0 Q kc ks cells slots h' (pc + 3) Ls st) : own_G B n0 Q kc ks cells slots h pc Ls (.int nn :: .int dp :: .ref b :: .int sp :: .ref a :: st) := by
  obtain ⟨p, l, e, R, s, m, args, below, meth, c, k0, P⟩ := B
  obtain ⟨rfl, rfl, hx, hZ, hown, hby, hml, hrt, hlk, hnm, hw, hPe⟩ := H
  intro T locs c1 s1 X F hc hs eT hk
  obtain ⟨T', h', L', X', e', F', K', A', s'⟩ := cpA X hx hZ hown (hw _ _ q1) (hw _ _ q2) (hw _ _ q3) (hw _ _ q4) eT A D (Or.inl ⟨rfl, hty⟩) h1 h2 h3 h4 h5 hus hlv F hb0 (g := mkF m pc Ls (.int nn :: .int dp :: .ref b :: .int sp :: .ref a :: st)) rfl (hsz.trans hml.symm) rfl (hb hby hd) hf (W := W) (by show 2 * 0 + _ ≤ _; omega) hlo
  exact own_go s' (k h' K' A' T' L' c1 s1 X' F' hc hs e' (Nat.le_trans hk K'.1))
theorem own_aastore (H : own_Ok B Z a0 l R y code N ret) {a : Addr} {cl : Cell} {ty : FieldType} {j : Int32} {v : Value} (A : Arr Z h a cl ty) (hty : ty.isReference = true) (S : Sto Z h a v) (hin : ¬ (j < 0 ∨ cl.slots.size ≤ j.toNatClampNeg)) (ha : n0 ≤ a) (hd : decode code pc = .ok (.aastore, 1)) (k : ∀ h', Wr h h' a j.toNatClampNeg v → own_G B n0 Q kc ks cells slots h' (pc + 1) Ls st) : own_G B n0 Q kc ks cells slots h pc Ls (v :: .int j :: .ref a :: st) := by
  obtain ⟨p, l, e, R, s, m, args, below, meth, c, k0, P⟩ := B
  obtain ⟨rfl, rfl, hx, hZ, hown, hby, hml, hrt, hlk, hnm, hw, hPe⟩ := H
  intro T locs c1 s1 X F hc hs eT hk
  obtain ⟨T', h', X', e', W', s'⟩ := stR X hx hZ eT A hin hty S (g := mkF m pc Ls (v :: .int j :: .ref a :: st)) rfl rfl (hb hby hd)
  exact own_go s' (k h' W' T' _ c1 s1 X' (Fr.snoc X' F ha) hc hs e' (by rw [W'.size]; exact hk))
theorem own_invokeprivate (H : own_Ok B Z a0 l R y code N ret) {i w1 w2 w3 w4 w5 w6 : Nat} {C : String} {yc : MethodName} {bytes : ByteArray} {maxL : Nat} {rc : Option FieldType} {rm : Room} {Qc : Option Value → Heap → Prop} {a : Addr} {argsL rest : List Value} (hM : own_C l Z yc bytes maxL rc rm (.ref a :: argsL).toArray h n0 Qc) (E : Exa Z h a C)
    (q1 : tables_1[w1]? = some (Jvm.Cond.methodLink y.cls i yc)) (q2 : tables_1[w2]? = some (Jvm.Cond.instanceMethod yc)) (q5 : tables_1[w5]? = some (Jvm.Cond.selects yc.cls yc yc)) (q6 : tables_1[w6]? = some (Jvm.Cond.privateMethod yc)) (qz : tables_1[w3]? = some (Jvm.Cond.initialized yc.cls)) (qc : tables_1[w4]? = some (Jvm.Cond.code yc bytes maxL rc)) {ps : List FieldType} {r : Option FieldType} (hpd : parseMethodDescriptor yc.desc = some ⟨ps, r⟩) (hln : argsL.length = ps.length) (W : Nat) (hne : yc.cls ≠ "java/lang/invoke/MethodHandle" ∧ yc.cls ≠ "java/lang/invoke/VarHandle")
    (hsz : Ls.size = N) (hfr : rm.frames + 1 ≤ R.frames) (hW : (rest.map fun v => v.category).sum ≤ W) (hlo : W + (maxL + 11) + rm.locals ≤ R.locals) (hkc : cells + rm.cells ≤ R.cells) (hks : slots + rm.slots ≤ R.slots) (hst : st = argsL.reverse ++ .ref a :: rest) (hd : decode code pc = .ok (.invokevirtual i, 3))
    (k : ∀ v h', Qc v h' → own_G B n0 Q kc ks (cells + rm.cells) (slots + rm.slots) h' (pc + 3) Ls (v.toList ++ rest)) : own_G B n0 Q kc ks cells slots h pc Ls st := by
  obtain ⟨p, l, e, R, s, m, args, below, meth, c, k0, P⟩ := B
  obtain ⟨rfl, rfl, hx, hZ, hown, hby, hml, hrt, hlk, hnm, hw, hPe⟩ := H
  intro T locs c1 s1 X F hc hs eT hk
  subst hst
  obtain ⟨cq, ce, co⟩ := E.cell
  obtain ⟨v', _, ⟨T', L', k', n'⟩, -, X', ⟨Lc', hQ', l', y', z'⟩, s'⟩ := X.privateBack hx (y := yc) hown (mvT hZ (hw _ _ q1)) (mvT hZ (hw _ _ q2)) (mvT hZ (hw _ _ q5)) (Cond.privateMethod_at (mvP hZ (hw _ _ q6) (args := #[]))) (mvT hZ (hw _ _ qc)) hne (backOf (W := W) (bytes := bytes) (rm := rm) (Q := fun v hh L => (Qc v hh ∧ Fr n0 L) ∧ h.size ≤ hh.size) (h := h) (own_grow hM) hZ (hw _ _ qc) (hw _ _ qz) hfr hlo) (g := mkF m pc Ls (argsL.reverse ++ .ref a :: rest)) rfl (hsz.trans hml.symm) (Steps.refl _) (a := a) (by rw [eT]; exact ce) co (argsL := argsL) (rest := rest) (lenOf hpd hln) rfl (by show 2 * 0 + _ ≤ _; omega) (hb hby hd) (fun _ _ => ⟨rfl, eT, Nat.le_trans (Nat.add_le_add_right hc _) hkc, Nat.le_trans (Nat.add_le_add_right hs _) hks⟩)
  dsimp only [Pt.U, Pt.locs, Pt.cells, Pt.slots] at X' l' y' z' s' hQ'
  subst l' y' z'
  exact own_go (fun t q => s'.trans q) (k v' _ hQ'.1.1 T' _ _ _ X' (F.app hQ'.1.2) (Nat.add_le_add_right hc _) (Nat.add_le_add_right hs _) rfl (Nat.le_trans hk hQ'.2))
theorem own_atoms (H : own_Ok B Z a0 l R y code N ret) {f : Fin 7 → Nat} (q0 : tables_1[f 0]? = some (Jvm.Cond.initialized "java/lang/String")) (q1 : tables_1[f 1]? = some (Jvm.Cond.instantiable "java/lang/String" 4)) (q2 : tables_1[f 2]? = some (Jvm.Cond.arrayClass .byte)) (q3 : tables_1[f 3]? = some (Jvm.Cond.laysFinal "java/lang/String" "java/lang/String" "value" "[B")) (q4 : tables_1[f 4]? = some (Jvm.Cond.laysFinal "java/lang/String" "java/lang/String" "coder" "B")) (q5 : tables_1[f 5]? = some (Jvm.Cond.soleField "java/lang/String" "value")) (q6 : tables_1[f 6]? = some (Jvm.Cond.soleField "java/lang/String" "coder")) : ∀ d ∈ Bundle.stringAtoms, d.before a0 Z = true := by
  have hw := own_hw H
  intro d hd
  simp only [Bundle.stringAtoms, List.mem_cons, List.not_mem_nil, or_false] at hd
  rcases hd with rfl | rfl | rfl | rfl | rfl | rfl | rfl
  · exact hw _ _ q0
  · exact hw _ _ q1
  · exact hw _ _ q2
  · exact hw _ _ q3
  · exact hw _ _ q4
  · exact hw _ _ q5
  · exact hw _ _ q6
theorem own_ldcS (H : own_Ok B Z a0 l R y code N ret) (D : own_Wd B) {i w : Nat} {text : String} (q : tables_1[w]? = some (Jvm.Cond.stringLink y.cls i text)) (wS : ∀ d ∈ Bundle.stringAtoms, d.before a0 Z = true) (n : Nat) (hn : 4 * text.toList.length ≤ n) (hbig : n ≤ 536870912) (hd : decode code pc = .ok (.ldc i, 2)) (hkc : cells + 2 ≤ R.cells) (hks : slots + (n + 4) ≤ R.slots)
    (k : ∀ (B' : own_B) (a : Addr) (h' : Heap), own_Ok B' Z a0 l R y code N ret → own_Wd B' → Ext h h' → own_G B' n0 Q kc ks (cells + 2) (slots + (n + 4)) h' (pc + 2) Ls (.ref a :: st)) : own_G B n0 Q kc ks cells slots h pc Ls st := by
  obtain ⟨p, l, e, R, s, m, args, below, meth, c, k0, P⟩ := B
  obtain ⟨rfl, rfl, hx, hZ, hown, hby, hml, hrt, hlk, hnm, hw, hPe⟩ := H
  obtain ⟨s0, vm0, rfl, rfl, hS⟩ := D
  intro T locs c1 s1 X F hc hs eT hk
  obtain ⟨a, T', h', k1, X', e', E', hS', hk', hZ', hown', s'⟩ := ldcS X hx hZ hown (hw _ _ q) wS eT hS hk (g := mkF m pc Ls st) rfl (hb hby hd) hn hbig (Nat.le_trans (Nat.add_le_add_right hc 2) hkc) (Nat.le_trans (Nat.add_le_add_right hs _) hks)
  exact own_go s' (k (p, l, e, R, s0.setVm T'.vm, m, args, below, meth, c, k1, ReturnedEndW s0) a h' ⟨rfl, rfl, hx, hZ', hown', hby, hml, hrt, hlk, hnm, hw, own_pe hS'⟩ ⟨s0, T'.vm, rfl, rfl, hS'⟩ E' T' locs _ _ X' F (Nat.add_le_add_right hc 2) (Nat.add_le_add_right hs _) e' hk')
theorem own_invokevirtualW (H : own_Ok B Z a0 l R y code N ret) (D : own_Wd B) {i w0 w1 w2 w3 w4 w5 : Nat} {C : String} {yc : MethodName} {bytes : ByteArray} {maxL : Nat} {rc : Option FieldType} {rm : Room} {Qc : Option Value → Heap → Prop} {a : Addr} {argsL rest : List Value} (hM : own_CW l Z yc bytes maxL rc rm (.ref a :: argsL).toArray h n0 Qc) (E : Exa Z h a C)
    (q1 : tables_1[w1]? = some (Jvm.Cond.methodLink y.cls i yc)) (q0 : tables_1[w0]? = some (Jvm.Cond.declares yc)) (q5 : tables_1[w5]? = some (Jvm.Cond.selects C yc yc)) (q2 : tables_1[w2]? = some (Jvm.Cond.instanceMethod yc)) (qz : tables_1[w3]? = some (Jvm.Cond.initialized yc.cls)) (qc : tables_1[w4]? = some (Jvm.Cond.code yc bytes maxL rc)) {ps : List FieldType} {r : Option FieldType} (hpd : parseMethodDescriptor yc.desc = some ⟨ps, r⟩) (hln : argsL.length = ps.length) (W : Nat) (hne : yc.cls ≠ "java/lang/invoke/MethodHandle" ∧ yc.cls ≠ "java/lang/invoke/VarHandle")
    (hsz : Ls.size = N) (hfr : rm.frames + 1 ≤ R.frames) (hW : (rest.map fun v => v.category).sum ≤ W) (hlo : W + (maxL + 11) + rm.locals ≤ R.locals) (hkc : cells + rm.cells ≤ R.cells) (hks : slots + rm.slots ≤ R.slots) (hst : st = argsL.reverse ++ .ref a :: rest) (hd : decode code pc = .ok (.invokevirtual i, 3))
    (k : ∀ (B' : own_B) v h', own_Ok B' Z a0 l R y code N ret → own_Wd B' → Qc v h' → own_G B' n0 Q kc ks (cells + rm.cells) (slots + rm.slots) h' (pc + 3) Ls (v.toList ++ rest)) : own_G B n0 Q kc ks cells slots h pc Ls st := by
  obtain ⟨p, l, e, R, s, m, args, below, meth, c, k0, P⟩ := B
  obtain ⟨rfl, rfl, hx, hZ, hown, hby, hml, hrt, hlk, hnm, hw, hPe⟩ := H
  obtain ⟨s0, vm0, rfl, rfl, hS⟩ := D
  intro T locs c1 s1 X F hc hs eT hk
  subst hst
  obtain ⟨cq, kq, qa, -, qb⟩ := isOf hZ eT E
  obtain ⟨v', _, ⟨T', L', k', n'⟩, -, X', hS', hgr, ⟨Lc', hQ', l', y', z'⟩, s'⟩ := X.virtualBackS hx (y := yc) (z := yc) hown (mvT hZ (hw _ _ q1)) (mvT hZ (hw _ _ q0)) (notFace_of_selects (args := #[]) (mvT hZ (hw _ _ q5))) (mvT hZ (hw _ _ q5)) (mvT hZ (hw _ _ q2)) hne (backOfS (W := W) (bytes := bytes) (rm := rm) (Q := fun v hh L => Qc v hh ∧ Fr n0 L) (h := h) hM hZ (hw _ _ qc) (hw _ _ qz) hfr hlo) qa qb (g := mkF m pc Ls (argsL.reverse ++ .ref a :: rest)) rfl (hsz.trans hml.symm) (Steps.refl _) (argsL := argsL) (rest := rest) (lenOf hpd hln) rfl (by show 2 * 0 + _ ≤ _; omega) (hb hby hd) (fun _ _ => ⟨rfl, eT, Nat.le_trans (Nat.add_le_add_right hc _) hkc, Nat.le_trans (Nat.add_le_add_right hs _) hks⟩)
  dsimp only [Pt.U, Pt.locs, Pt.cells, Pt.slots] at X' l' y' z' s' hQ' hS' hgr
  subst l' y' z'
  have hS2 : s0.Since T'.vm T'.heap.size := foldS (T := T) hS (by rw [eT]; exact hk) hS' hgr
  exact own_go (fun t q => s'.trans q) (k (p, l, e, R, s0.setVm T'.vm, m, args, below, meth, c, T'.heap.size, ReturnedEndW s0) v' _ ⟨rfl, rfl, hx, State.Warmed39.trans (t := s0.setVm vm0) hZ hS'.1, by rw [show (s0.setVm T'.vm).vm = T'.vm from rfl, hS'.1.alike.findClass]; exact hown, hby, hml, hrt, hlk, hnm, hw, own_pe hS2⟩ ⟨s0, T'.vm, rfl, rfl, hS2⟩ hQ'.1 T' _ _ _ X' (F.app hQ'.2) (Nat.add_le_add_right hc _) (Nat.add_le_add_right hs _) rfl (Nat.le_refl _))
theorem own_ldc2D (H : own_Ok B Z a0 l R y code N ret) {i w : Nat} {v : UInt64} (q : tables_1[w]? = some (Jvm.Cond.constantDouble y.cls i v)) (hd : decode code pc = .ok (.ldc2_w i, 3)) (k : own_G B n0 Q kc ks cells slots h (pc + 3) Ls (.double v :: st)) : own_G B n0 Q kc ks cells slots h pc Ls st := by
  obtain ⟨p, l, e, R, s, m, args, below, meth, c, k0, P⟩ := B
  obtain ⟨rfl, rfl, hx, hZ, hown, hby, hml, hrt, hlk, hnm, hw, hPe⟩ := H
  intro T locs c1 s1 X F hc hs eT hk
  exact own_go (fun t r => X.ldc2DoubleC hx hown (mvT hZ (hw _ _ q)) (g := mkF m pc Ls st) rfl (hb hby hd) _ r) (k T locs c1 s1 X F hc hs eT hk)
theorem own_daloadV (H : own_Ok B Z a0 l R y code N ret) {a : Addr} {kA : ClassId} {n j : Int32} {vs : List Value} {dv v : Value} (V : Arv Z h a kA .double n vs dv) (h1 : ¬ j < 0) (h2 : j < n) (hv : vs.getD j.toNatClampNeg dv = v) (hd : decode code pc = .ok (.daload, 1)) (k : own_G B n0 Q kc ks cells slots h (pc + 1) Ls (v :: st)) : own_G B n0 Q kc ks cells slots h pc Ls (.int j :: .ref a :: st) := by
  obtain ⟨cl, A, -, S, M, Hs, -⟩ := V
  obtain ⟨p, l, e, R, s, m, args, below, meth, c, k0, P⟩ := B
  obtain ⟨rfl, rfl, hx, hZ, hown, hby, hml, hrt, hlk, hnm, hw, hPe⟩ := H
  intro T locs c1 s1 X F hc hs eT hk
  exact own_go (fun t r => X.daload hx (j := j) (v := v) (by rw [eT]; exact A.1) (State.isArrayOf_alike hZ.alike A.2.1) A.2.2 (inb_of S ⟨h1, h2⟩) (Hs.at (inb_of S ⟨h1, h2⟩) hv) (g := mkF m pc Ls (.int j :: .ref a :: st)) rfl rfl (hb hby hd) _ r) (k T locs c1 s1 X F hc hs eT hk)
theorem own_dastoreV (H : own_Ok B Z a0 l R y code N ret) {a : Addr} {kA : ClassId} {n j : Int32} {vs : List Value} {dv : Value} {x : UInt64} (V : Arv Z h a kA .double n vs dv) (h1 : ¬ j < 0) (h2 : j < n) (i : Nat) (hj : j.toNatClampNeg = i) (hi : i < vs.length) (ha : n0 ≤ a) (hd : decode code pc = .ok (.dastore, 1)) (k : ∀ h', Wr h h' a j.toNatClampNeg (.double x) → Arv Z h' a kA .double n (vs.set i (.double x)) dv → own_G B n0 Q kc ks cells slots h' (pc + 1) Ls st) : own_G B n0 Q kc ks cells slots h pc Ls (.double x :: .int j :: .ref a :: st) := by
  obtain ⟨cl, A, q1, S, M, Hs, Fs⟩ := V
  obtain ⟨p, l, e, R, s, m, args, below, meth, c, k0, P⟩ := B
  obtain ⟨rfl, rfl, hx, hZ, hown, hby, hml, hrt, hlk, hnm, hw, hPe⟩ := H
  intro T locs c1 s1 X F hc hs eT hk
  have hj' := inb_of S ⟨h1, h2⟩
  obtain ⟨X', s'⟩ := X.dastore hx (by rw [eT]; exact A.1) (State.isArrayOf_alike hZ.alike A.2.1) A.2.2 hj' (x := x) (g := mkF m pc Ls (.double x :: .int j :: .ref a :: st)) rfl rfl (hb hby hd)
  have W' : Wr h (T.setCell a (cl.setSlot j.toNatClampNeg (.double x))).heap a j.toNatClampNeg (.double x) := ⟨cl, A.1, A.plain, Nat.lt_of_not_le fun q => hj' (Or.inr q), by rw [← eT]; rfl⟩
  exact own_go s' (k _ W' (Arv.set A q1 S M Hs Fs rfl W' i hj hi) _ _ c1 s1 X' (Fr.snoc X' F ha) hc hs rfl (by rw [W'.size]; exact hk))
theorem own_dcmp (H : own_Ok B Z a0 l R y code N ret) {o : CmpOp} {x z : UInt64} (v : Int32) (hv : cmpValue (FP.dcmp x z) o = v) (hd : decode code pc = .ok (.dcmp o, 1)) (k : own_G B n0 Q kc ks cells slots h (pc + 1) Ls (.int v :: st)) : own_G B n0 Q kc ks cells slots h pc Ls (.double z :: .double x :: st) := by
  obtain ⟨p, l, e, R, s, m, args, below, meth, c, k0, P⟩ := B
  obtain ⟨rfl, rfl, hx, hZ, hown, hby, hml, hrt, hlk, hnm, hw, hPe⟩ := H
  intro T locs c1 s1 X F hc hs eT hk
  exact own_go (fun t q => XS.dcmpS X.here hx rfl (hb hby hd) rfl hv q) (k T locs c1 s1 X F hc hs eT hk)
theorem own_dreturn (H : own_Ok B Z a0 l R y code N (some .double)) {z : UInt64} (hd : decode code pc = .ok (.dreturn, 1)) (hkc : cells ≤ kc) (hks : slots ≤ ks) (hQ : Q (some (.double z)) h) : own_G B n0 Q kc ks cells slots h pc Ls (.double z :: st) := by
  obtain ⟨p, l, e, R, s, m, args, below, meth, c, k0, P⟩ := B
  obtain ⟨rfl, rfl, hx, hZ, hown, hby, hml, hrt, hlk, hnm, hw, hPe⟩ := H
  intro T locs c1 s1 X F hc hs eT hk
  obtain ⟨fs, hr, hrun, hended, hW, hsame⟩ := X.leave (v := some (.double z)) (fun h => by rw [hrt] at h; cases h) hlk
  exact ⟨_, _, retOut X hx hrt rfl (Or.inr (Or.inr (Or.inl ⟨rfl, rfl, _, rfl⟩))) (hb hby hd) hr, hrun, hended, _, _, rfl, ⟨by show Q _ T.heap; rw [eT]; exact hQ, F⟩, hPe _ _ _ _ _ (by show k0 ≤ T.heap.size; rw [eT]; exact hk) ⟨⟨_, rfl⟩, hW, hsame.mono (Nat.le_trans hc hkc) (Nat.le_trans hs hks)⟩⟩

end Laws
end OwnKit
section OwnEmpty
/-- nothing has been written yet -/
def own_GE (B : own_B) (n0 : Nat) (Q : Option Value → Heap → Prop) (kc ks : Nat) (h : Heap) (Ls : Array Slot) : Prop :=
  match B with
  | (p, l, e, R, s, m, args, below, meth, c, k0, P) => ∀ (T : State), Stand p l e R s m args below meth c T [] 0 0 → T.heap = h → k0 ≤ h.size → own_Fin p e below P n0 Q kc ks (T.setTop (mkF m 0 Ls []))
/-- the table of interned texts is the start's -/
def own_Ib (B : own_B) (Z : State) (h : Heap) : Prop :=
  match B with
  | (p, l, e, R, s, m, args, below, meth, c, k0, P) => IB Z s.vm [] ∧ s.heap = h
def own_Lt (B : own_B) (own : String) (i : Nat) (a : Addr) : Prop :=
  match B with
  | (p, l, e, R, s, m, args, below, meth, c, k0, P) => Lit s own i a
def own_MetI (l : Launch) (Z : State) (ws : List Jvm.Cond) (y : MethodName) (bytes : ByteArray) (maxL : Nat) (ret : Option FieldType) (rm : Room) (as : Array Value) (h : Heap) (n0 kc ks : Nat) (Q : Option Value → Heap → Prop) : Prop :=
  MetFree l y (head1 (Jvm.Cond.code y bytes maxL ret :: ws) rm) (fun a U => a = as ∧ Z.Warmed39 U.vm ∧ U.heap = h ∧ IB Z U.vm []) (fun _ _ _ _ _ => True) (fun _ U o U' => ∃ v L, o = .returned v ∧ (Q v U'.heap ∧ Fr n0 L) ∧ ReturnedEndW U o U' L kc ks)
abbrev own_CI (l : Launch) (Z : State) (y : MethodName) (bytes : ByteArray) (maxL : Nat) (ret : Option FieldType) (rm : Room) (as : Array Value) (h : Heap) (n0 : Nat) (Q : Option Value → Heap → Prop) : Prop := own_MetI l Z [] y bytes maxL ret rm as h n0 rm.cells rm.slots Q
theorem own_metI {l : Launch} {Z : State} {a0 : Array Value} {ws : List Jvm.Cond} {y : MethodName} {bytes : ByteArray} {maxL : Nat} {ret : Option FieldType} {rm : Room} {as : Array Value} {h : Heap} {n0 kc ks : Nat} {Q : Option Value → Heap → Prop} {Ls : Array Slot}
    (hw : ∀ (i : Nat) (d : Jvm.Cond), tables_1[i]? = some d → d.before a0 Z = true) (hpl : plainFor y = true) (hef : ∀ m, entryFrame m as maxL = mkF m 0 Ls [])
    (body : ∀ B : own_B, own_Ok B Z a0 l rm y bytes maxL ret → own_Wd B → own_Ib B Z h → own_GE B n0 Q kc ks h Ls) : own_MetI l Z ws y bytes maxL ret rm as h n0 kc ks Q := by
  refine MetFree.of_bodySF hpl hisR ?_
  intro p e s m args below meth c s₁ Bd hml0 hP hK
  obtain ⟨rfl, hZ, hh, hI⟩ := hP
  have X0 := Stand.of_body Bd
  have e0 : s₁.heap = h := by rw [← hh, Bd.state]; rfl
  have q := body (p, l, e, rm, s, m, args, below, meth, c, 0, ReturnedEndW s) ⟨rfl, rfl, Bd.exec, hZ, findClass_of_methodNamed Bd.named, Bd.bytes, hml0, Bd.returns, Bd.notSynchronized, (name_of_methodNamed Bd.named Bd.method).1, hw, fun _ _ _ _ _ _ q => ReturnedEndW.of_narrow q.1 q.2.1 q.2.2⟩ ⟨s, s.vm, rfl, rfl, (State.WarmedH.refl s).since 0⟩ ⟨hI, hh⟩ s₁ X0 e0 (Nat.zero_le _)
  rw [hef m]
  exact q
section LawsE
variable {B : own_B} {Z : State} {a0 : Array Value} {l : Launch} {R : Room} {y : MethodName} {code : ByteArray} {N : Nat} {ret : Option FieldType} {n0 : Nat} {Q : Option Value → Heap → Prop} {kc ks cells slots : Nat} {h : Heap} {pc pc' : Nat} {Ls Ls' : Array Slot} {st : List Value}
theorem own_GE_of (k : own_G B n0 Q kc ks 0 0 h 0 Ls []) : own_GE B n0 Q kc ks h Ls := by
  obtain ⟨p, l, e, R, s, m, args, below, meth, c, k0, P⟩ := B
  intro T X eT hk
  exact k T [] 0 0 X (Fr.nil n0) (Nat.le_refl _) (Nat.le_refl _) eT hk
theorem own_backI {p : Program} {e : Env} {below : List Frame} {s : State} {args : Array Value} {y : MethodName} {bytes : ByteArray} {maxL : Nat} {ret : Option FieldType} {rm : Room} {len W : Nat} {as' : Array Value} {Q : Option Value → Heap → List Loc → Prop}
    (hM : MetFree l y (head1 [Jvm.Cond.code y bytes maxL ret] rm) (fun a U => a = as' ∧ Z.Warmed39 U.vm ∧ U.heap = h ∧ IB Z U.vm []) (fun _ _ _ _ _ => True) (fun _ U o U' => ∃ v L, o = .returned v ∧ Q v U'.heap L ∧ ReturnedEndW U o U' L rm.cells rm.slots))
    (hZ : Z.Warmed39 s.vm) (hI : IB Z s.vm []) (wc : (Jvm.Cond.code y bytes maxL ret).before a0 Z = true) (wz : (Jvm.Cond.initialized y.cls).before a0 Z = true) (hf : rm.frames + 1 ≤ R.frames) (hl : W + (maxL + 11) + rm.locals ≤ R.locals) :
    BackS l R p e below s args y len W (fun A a => a = as' ∧ A.U.heap = h ∧ A.cells + rm.cells ≤ R.cells ∧ A.slots + rm.slots ≤ R.slots)
      (fun A _ v B => ∃ L, Q v B.U.heap L ∧ B.locs = A.locs ++ L ∧ B.cells = A.cells + rm.cells ∧ B.slots = A.slots + rm.slots) :=
  BackS.of_freeW (bytes := bytes) (maxL := maxL) (ret := ret) (E := fun _ _ o t L k n => k = rm.cells ∧ n = rm.slots ∧ ∃ v, o = .returned v ∧ Q v t.heap L) hM hf hl
    (fun m meth c A a Y hp => have hU : Z.Warmed39 A.U.vm := wtrans hZ Y.warmed
      ⟨by show (Jvm.Cond.and _ .tt).before a A.U = true; rw [Cond.before_and, mv hU wc]; rfl, mv hU wc, mv hU wz, hp.2.2.1, hp.2.2.2⟩)
    (fun m meth c A a g mk Y hp => ⟨hp.1, wtrans hZ Y.warmed, hp.2.1, by
      obtain ⟨more, q1, q2⟩ := hI
      exact ⟨more, Y.warmed.interned_eq.trans q1, q2⟩⟩) (fun _ _ _ _ _ _ _ _ _ => trivial)
    (fun _ _ _ _ ⟨v, L, h1, h2, h3⟩ => ⟨L, _, _, h3, rfl, rfl, v, h1, h2⟩)
    (fun m meth c A a g mk v t L k n Y hp _ _ ⟨e1, e2, v', e3, e4⟩ => by cases e3; subst e1 e2; exact ⟨L, e4, rfl, rfl, rfl⟩)
theorem own_invokespecialI (H : own_Ok B Z a0 l R y code N ret) (D : own_Wd B) {hI : Heap} (I : own_Ib B Z hI) {i w1 w2 w3 w4 : Nat} {yc : MethodName} {bytes : ByteArray} {maxL : Nat} {rm : Room} {Qc : Option Value → Heap → Prop} {a : Addr} {argsL rest : List Value} (hM : own_CI l Z yc bytes maxL none rm (.ref a :: argsL).toArray h n0 Qc) (hin : yc.name = "<init>")
    (q1 : tables_1[w1]? = some (Jvm.Cond.methodLink y.cls i yc)) (q2 : tables_1[w2]? = some (Jvm.Cond.instanceMethod yc)) (qz : tables_1[w3]? = some (Jvm.Cond.initialized yc.cls)) (qc : tables_1[w4]? = some (Jvm.Cond.code yc bytes maxL none)) {ps : List FieldType} {r : Option FieldType} (hpd : parseMethodDescriptor yc.desc = some ⟨ps, r⟩) (hln : argsL.length = ps.length) (W : Nat) (hne : yc.cls ≠ "java/lang/invoke/MethodHandle" ∧ yc.cls ≠ "java/lang/invoke/VarHandle")
    (hsz : Ls.size = N) (hfr : rm.frames + 1 ≤ R.frames) (hW : (rest.map fun v => v.category).sum ≤ W) (hlo : W + (maxL + 11) + rm.locals ≤ R.locals) (hkc : cells + rm.cells ≤ R.cells) (hks : slots + rm.slots ≤ R.slots) (hst : st = argsL.reverse ++ .ref a :: rest) (hd : decode code pc = .ok (.invokespecial i, 3))
    (k : ∀ (B' : own_B) v h', own_Ok B' Z a0 l R y code N ret → own_Wd B' → Qc v h' → own_G B' n0 Q kc ks (cells + rm.cells) (slots + rm.slots) h' (pc + 3) Ls (v.toList ++ rest)) : own_G B n0 Q kc ks cells slots h pc Ls st := by
  obtain ⟨p, l, e, R, s, m, args, below, meth, c, k0, P⟩ := B
  obtain ⟨rfl, rfl, hx, hZ, hown, hby, hml, hrt, hlk, hnm, hw, hPe⟩ := H
  obtain ⟨s0, vm0, rfl, rfl, hS⟩ := D
  intro T locs c1 s1 X F hc hs eT hk
  subst hst
  obtain ⟨v', _, ⟨T', L', k', n'⟩, -, X', hS', hgr, ⟨Lc', hQ', l', y', z'⟩, s'⟩ := X.specialBackS hx (y := yc) hin hown (mvT hZ (hw _ _ q1)) (mvT hZ (hw _ _ q2)) (mvT hZ (hw _ _ qc)) hne (own_backI (W := W) (bytes := bytes) (rm := rm) (Q := fun v hh L => Qc v hh ∧ Fr n0 L) (h := h) hM hZ I.1 (hw _ _ qc) (hw _ _ qz) hfr hlo) (g := mkF m pc Ls (argsL.reverse ++ .ref a :: rest)) rfl (hsz.trans hml.symm) (Steps.refl _) (a := a) (argsL := argsL) (rest := rest) (lenOf hpd hln) rfl (by show 2 * 0 + _ ≤ _; omega) (hb hby hd) (fun _ _ => ⟨rfl, eT, Nat.le_trans (Nat.add_le_add_right hc _) hkc, Nat.le_trans (Nat.add_le_add_right hs _) hks⟩)
  dsimp only [Pt.U, Pt.locs, Pt.cells, Pt.slots] at X' l' y' z' s' hQ' hS' hgr
  subst l' y' z'
  have hS2 : s0.Since T'.vm T'.heap.size := foldS (T := T) hS (by rw [eT]; exact hk) hS' hgr
  exact own_go (fun t q => s'.trans q) (k (p, l, e, R, s0.setVm T'.vm, m, args, below, meth, c, T'.heap.size, ReturnedEndW s0) v' _ ⟨rfl, rfl, hx, State.Warmed39.trans (t := s0.setVm vm0) hZ hS'.1, by rw [show (s0.setVm T'.vm).vm = T'.vm from rfl, hS'.1.alike.findClass]; exact hown, hby, hml, hrt, hlk, hnm, hw, own_pe hS2⟩ ⟨s0, T'.vm, rfl, rfl, hS2⟩ hQ'.1 T' _ _ _ X' (F.app hQ'.2) (Nat.add_le_add_right hc _) (Nat.add_le_add_right hs _) rfl (Nat.le_refl _))
/-- the head of a body that loads the empty text ahead of any write -/
theorem own_ldcEmpty (H : own_Ok B Z a0 l R y code N ret) (D : own_Wd B) (I : own_Ib B Z h) (hkp : ∀ (b : Addr) (cl : Cell), Z.heap[b]? = some cl → h[b]? = some cl) {i j w w1 w2 w3 : Nat} (hh : Jvm.Lit.constHeld Z y.cls i) (hcw : Jvm.Lit.compactW.before a0 Z = true) (wS : ∀ d ∈ Bundle.stringAtoms, d.before a0 Z = true) (q : tables_1[w]? = some (Jvm.Cond.stringLink y.cls i ""))
    (q1 : tables_1[w1]? = some (Jvm.Cond.methodLink y.cls j Lib.objectInit)) (q2 : tables_1[w2]? = some (Jvm.Cond.instanceMethod Lib.objectInit)) (q3 : tables_1[w3]? = some (Jvm.Cond.code Lib.objectInit ⟨#[0xb1]⟩ 1 none)) {a : Addr} (hsz : Ls.size = N) (hf : 1 ≤ R.frames) (hl : 12 ≤ R.locals) (l0 : Ls[0]? = some (.val (.ref a))) (l3 : Ls[3]? = some (.val (.int 0)))
    (hkc : 2 ≤ R.cells) (hks : 4 ≤ R.slots) (d0 : decode code 0 = .ok (.aload_n 0, 1)) (d1 : decode code 1 = .ok (.invokespecial j, 3)) (d4 : decode code 4 = .ok (.iload_n 3, 1)) {o : Int} (d5 : decode code 5 = .ok (.ifCond .ne o, 3)) (d8 : decode code 8 = .ok (.aload_n 0, 1)) (d9 : decode code 9 = .ok (.ldc i, 2))
    (k : ∀ (B' : own_B) (r b : Addr) (h' : Heap), own_Ok B' Z a0 l R y code N ret → own_Wd B' → own_Lt B' y.cls i r → Ext h h' → Exa Z h' r "java/lang/String" → Fld Z h' r "java/lang/String" "coder" "B" (.int 0) → Fld Z h' r "java/lang/String" "value" "[B" (.ref b) → own_G B' n0 Q kc ks 2 4 h' 11 Ls [.ref r, .ref a]) : own_GE B n0 Q kc ks h Ls := by
  obtain ⟨p, l, e, R, s, m, args, below, meth, c, k0, P⟩ := B
  obtain ⟨rfl, rfl, hx, hZ, hown, hby, hml, hrt, hlk, hnm, hw, hPe⟩ := H
  obtain ⟨s0, vm0, rfl, rfl, hS⟩ := D
  obtain ⟨hI, hI2⟩ := I
  intro T X eT hk
  refine own_go (fun t r => XS.aloadN X.here hx rfl (hb hby d0) l0 rfl r) ?_
  obtain ⟨T', X', e', s'⟩ := initO X hx hZ hown (hw _ _ q1) (hw _ _ q2) (hw _ _ q3) eT (g := mkF m 1 Ls [.ref a]) rfl (hsz.trans hml.symm) rfl (hb hby d1) hf (W := 0) (Nat.le_refl _) hl
  refine own_go s' ?_
  refine own_go (fun t r => XS.iloadN X'.here hx rfl (hb hby d4) l3 r) ?_
  refine own_go (fun t r => XS.ifNo X'.here hx rfl (hb hby d5) rfl (XT.i0_ne_f rfl) r) ?_
  refine own_go (fun t r => XS.aloadN X'.here hx rfl (hb hby d8) l0 rfl r) ?_
  obtain ⟨r, T2, h2, k1, b, kA, X2, e2, E2, hS2, hk2, hZ2, hown2, f1, f2, f3, -, -, -, -, L2, s2⟩ := ldcSVL (s := s0) (vm0 := vm0) (text := "") (own := y.cls) (index := i) (Ts := []) (vs := []) (z := (0 : Int32)) (n := 0) X' hx hZ hown (hw _ _ q) wS e' hS hk (Fr.nil _) (fun b cl hb => by have := hkp b cl hb; rw [← hI2] at this; exact this) hI (by simp) hh hcw ⟨by simp, by simp⟩ (by decide) (by decide) (g := mkF m 9 Ls [.ref a]) rfl (hb hby d9) (by decide) (by decide) (by omega) (by omega)
  exact own_go s2 (k (p, l, e, R, s0.setVm T2.vm, m, args, below, meth, c, k1, ReturnedEndW s0) r b h2 ⟨rfl, rfl, hx, hZ2, hown2, hby, hml, hrt, hlk, hnm, hw, own_pe hS2⟩ ⟨s0, T2.vm, rfl, rfl, hS2⟩ L2 E2 f1 f2 f3 T2 [] _ _ X2 (Fr.nil n0) (Nat.le_refl _) (Nat.le_refl _) e2 hk2)
theorem own_ldcAgain (H : own_Ok B Z a0 l R y code N ret) (D : own_Wd B) {i w : Nat} {r : Addr} (L : own_Lt B y.cls i r) (q : tables_1[w]? = some (Jvm.Cond.stringLink y.cls i "")) (hd : decode code pc = .ok (.ldc i, 2)) (k : own_G B n0 Q kc ks cells slots h (pc + 2) Ls (.ref r :: st)) : own_G B n0 Q kc ks cells slots h pc Ls st := by
  obtain ⟨p, l, e, R, s, m, args, below, meth, c, k0, P⟩ := B
  obtain ⟨rfl, rfl, hx, hZ, hown, hby, hml, hrt, hlk, hnm, hw, hPe⟩ := H
  obtain ⟨s0, vm0, rfl, rfl, hS⟩ := D
  intro T locs c1 s1 X F hc hs eT hk
  exact own_go (fun t qq => ldcAgain (s := s0) (vm0 := vm0) X hx hZ hown (hw _ _ q) L (g := mkF m pc Ls st) rfl (hb hby hd) t qq) (k T locs c1 s1 X F hc hs eT hk)
end LawsE
end OwnEmpty

theorem d15_0 : decode jdk_43_method_3_code 0 = .ok (.iload_n 0, 1) := by decide +kernel
theorem d15_1 : decode jdk_43_method_3_code 1 = .ok (.sipush 255, 3) := by decide +kernel
theorem d15_4 : decode jdk_43_method_3_code 4 = .ok (.if_icmp .gt 7, 3) := by decide +kernel
theorem d15_7 : decode jdk_43_method_3_code 7 = .ok (.iconst 1, 1) := by decide +kernel
theorem d15_8 : decode jdk_43_method_3_code 8 = .ok (.goto 4, 3) := by decide +kernel
theorem d15_11 : decode jdk_43_method_3_code 11 = .ok (.iconst 0, 1) := by decide +kernel
theorem d15_12 : decode jdk_43_method_3_code 12 = .ok (.ireturn, 1) := by decide +kernel
theorem own_pl15 : plainFor (⟨"java/lang/StringLatin1", "canEncode", "(C)Z"⟩ : MethodName) = true := plainFor_of_name (by first | (simp [plainName, overriddenIn]; done) | decide +kernel)
theorem own_pd0 : parseMethodDescriptor "(C)Z" = some ⟨[.char], some .boolean⟩ := by decide +kernel
set_option maxHeartbeats 4000000 in
theorem rmCan (l : Launch) (Z : State) (a0 : Array Value) (hw : ∀ (i : Nat) (d : Jvm.Cond), tables_1[i]? = some d → d.before a0 Z = true) (h0 : Heap) (n0 : Nat) (q : Int32) (hq : ¬ (255 : Int32) < q) :
    own_C l Z (⟨"java/lang/StringLatin1", "canEncode", "(C)Z"⟩ : MethodName) jdk_43_method_3_code 1 (some .boolean) ({ frames := 0, cells := 0, slots := 0, locals := 0 } : Room) #[(.int q)] h0 n0 (fun v h' => v = some (.int (1 : Int32)) ∧ h0 = h') := by
  refine own_met (Ls := #[.val (.int q)]) hw own_pl15 (fun m => by first | (simp [entryFrame, mkF, argsToLocals, Value.category]; done) | rfl) ?_
  intro B H
  refine own_iload_n H rfl d15_0 ?_
  refine own_sipush H (255 : Int32) (by decide) d15_1 ?_
  refine own_icmpgt_f H d15_4 hq ?_
  refine own_iconst H (1 : Int32) (by decide) d15_7 ?_
  refine own_goto H (pc' := 12) d15_8 (by decide) (by decide) ?_
  exact own_ireturn H (by simp) (by decide) d15_12 (by decide) (by decide) ⟨rfl, rfl⟩
theorem d16_0 : decode jdk_43_method_46_code 0 = .ok (.iconst 1, 1) := by decide +kernel
theorem d16_1 : decode jdk_43_method_46_code 1 = .ok (.newarray .byte, 2) := by decide +kernel
theorem d16_3 : decode jdk_43_method_46_code 3 = .ok (.dup, 1) := by decide +kernel
theorem d16_4 : decode jdk_43_method_46_code 4 = .ok (.iconst 0, 1) := by decide +kernel
theorem d16_5 : decode jdk_43_method_46_code 5 = .ok (.iload_n 0, 1) := by decide +kernel
theorem d16_6 : decode jdk_43_method_46_code 6 = .ok (.i2b, 1) := by decide +kernel
theorem d16_7 : decode jdk_43_method_46_code 7 = .ok (.bastore, 1) := by decide +kernel
theorem d16_8 : decode jdk_43_method_46_code 8 = .ok (.areturn, 1) := by decide +kernel
theorem own_pl16 : plainFor (⟨"java/lang/StringLatin1", "toBytes", "(C)[B"⟩ : MethodName) = true := plainFor_of_name (by first | (simp [plainName, overriddenIn]; done) | decide +kernel)
theorem own_pd1 : parseMethodDescriptor "(C)[B" = some ⟨[.char], some (.array .byte)⟩ := by decide +kernel
set_option maxHeartbeats 4000000 in
theorem rmTob (l : Launch) (Z : State) (a0 : Array Value) (hw : ∀ (i : Nat) (d : Jvm.Cond), tables_1[i]? = some d → d.before a0 Z = true) (h0 : Heap) (n0 : Nat) (q : Int32) (hZ0 : n0 ≤ h0.size) :
    own_C l Z (⟨"java/lang/StringLatin1", "toBytes", "(C)[B"⟩ : MethodName) jdk_43_method_46_code 1 (some (.array .byte)) ({ frames := 0, cells := 1, slots := 1, locals := 0 } : Room) #[(.int q)] h0 n0 (fun v h' => ∃ (a2 : Addr) (kA3 : ClassId), v = some (.ref a2) ∧ Keep h0 h' [] ∧ n0 ≤ a2 ∧ h0.size ≤ a2 ∧ a2 < h'.size ∧ Arv Z h' a2 kA3 .byte (1 : Int32) [(.int (nar .byte (q.toInt8.toInt32)))] (.int 0)) := by
  refine own_met (Ls := #[.val (.int q)]) hw own_pl16 (fun m => by first | (simp [entryFrame, mkF, argsToLocals, Value.category]; done) | rfl) ?_
  intro B H
  have hK : Keep h0 h0 [] := Keep.refl _ _
  refine own_iconst H (1 : Int32) (by decide) d16_0 ?_
  refine own_newarray H (w := 16) (n := (1 : Int32)) rfl (by decide) 1 (by decide) (by decide) d16_1 (by decide) (by decide) ?_
  intro h1 a2 kA3 ha4 E5 V6
  have f8 : n0 ≤ a2 := by rw [ha4]; exact hZ0
  have f9 : h0.size ≤ a2 := by rw [ha4]; exact hK.1
  have f10 : n0 ≤ h1.size := Nat.le_trans hZ0 E5.1
  have f11 : Keep h0 h1 [] := hK.ext E5
  have f12 : Arv Z h1 a2 kA3 .byte (1 : Int32) [(.int 0)] (.int 0) := V6.pad (pad_rep [] (.int 0) 1)
  show own_G _ _ _ _ _ _ _ _ 3 #[.val (.int q)] [(.ref a2)]
  refine own_dup H rfl d16_3 ?_
  refine own_iconst H (0 : Int32) (by decide) d16_4 ?_
  refine own_iload_n H rfl d16_5 ?_
  refine own_i2b H rfl d16_6 ?_
  refine own_bastoreV H f12 (by decide) (by decide) 0 (by decide) (Nat.le_of_ble_eq_true rfl) f8 rfl d16_7 ?_
  intro h13 W14 V15
  have f16 : n0 ≤ h13.size := by rw [W14.size]; exact f10
  have f17 : Keep h0 h13 [] := f11.wr W14 (Or.inr f9)
  have f18 : Arv Z h13 a2 kA3 .byte (1 : Int32) [(.int (nar .byte (q.toInt8.toInt32)))] (.int 0) := V15
  exact own_areturn H rfl rfl rfl d16_8 (by decide) (by decide) ⟨a2, kA3, rfl, f17, f8, f9, f18.lt, f18⟩
theorem d17_0 : decode jdk_42_method_151_code 0 = .ok (.aload_n 0, 1) := by decide +kernel
theorem d17_1 : decode jdk_42_method_151_code 1 = .ok (.invokespecial 1, 3) := by decide +kernel
theorem d17_4 : decode jdk_42_method_151_code 4 = .ok (.aload_n 0, 1) := by decide +kernel
theorem d17_5 : decode jdk_42_method_151_code 5 = .ok (.aload_n 1, 1) := by decide +kernel
theorem d17_6 : decode jdk_42_method_151_code 6 = .ok (.putfield 9, 3) := by decide +kernel
theorem d17_9 : decode jdk_42_method_151_code 9 = .ok (.aload_n 0, 1) := by decide +kernel
theorem d17_10 : decode jdk_42_method_151_code 10 = .ok (.iload_n 2, 1) := by decide +kernel
theorem d17_11 : decode jdk_42_method_151_code 11 = .ok (.putfield 15, 3) := by decide +kernel
theorem d17_14 : decode jdk_42_method_151_code 14 = .ok (.return_, 1) := by decide +kernel
theorem own_pl17 : plainFor (⟨"java/lang/String", "<init>", "([BB)V"⟩ : MethodName) = true := plainFor_of_name (by first | (simp [plainName, overriddenIn]; done) | decide +kernel)
theorem own_pd2 : parseMethodDescriptor "([BB)V" = some ⟨[(.array .byte), .byte], none⟩ := by decide +kernel
set_option maxHeartbeats 4000000 in
theorem rmInB (l : Launch) (Z : State) (a0 : Array Value) (hw : ∀ (i : Nat) (d : Jvm.Cond), tables_1[i]? = some d → d.before a0 Z = true) (h0 : Heap) (n0 : Nat) (a : Addr) (t : Addr) (hZ0 : n0 ≤ h0.size) (hE : Exa Z h0 a "java/lang/String") (hF1 : Fld Z h0 a "java/lang/String" "value" "[B" .null) (hF2 : Fld Z h0 a "java/lang/String" "coder" "B" (.int (0 : Int32))) (hA_a : n0 ≤ a) :
    own_C l Z (⟨"java/lang/String", "<init>", "([BB)V"⟩ : MethodName) jdk_42_method_151_code 3 none ({ frames := 1, cells := 0, slots := 0, locals := 12 } : Room) #[(.ref a), (.ref t), (.int (0 : Int32))] h0 n0 (fun v h' => v = none ∧ Keep h0 h' [a]) := by
  refine own_met (Ls := #[.val (.ref a), .val (.ref t), .val (.int (0 : Int32))]) hw own_pl17 (fun m => by first | (simp [entryFrame, mkF, argsToLocals, Value.category]; done) | rfl) ?_
  intro B H
  have hK : Keep h0 h0 [a] := Keep.refl _ _
  refine own_aload_n H rfl rfl d17_0 ?_
  refine own_initObject H (w1 := 12) (w2 := 13) (w3 := 14) rfl rfl rfl 0 rfl (by decide) (Nat.le_of_eq rfl) (by decide) d17_1 ?_
  refine own_aload_n H rfl rfl d17_4 ?_
  refine own_aload_n H rfl rfl d17_5 ?_
  refine own_putfield H (w := 21) (wi := 2) rfl hF1 hE hA_a (Or.inr ⟨own_w H (i := 17) rfl, rfl, rfl⟩) rfl (ty := (.array .byte)) (by decide) rfl rfl d17_6 ?_
  intro h1 W2
  have f3 : Exa Z h1 a "java/lang/String" := hE.wr W2
  have f4 : Fld Z h1 a "java/lang/String" "value" "[B" (.ref t) := hF1.same W2
  have f5 : Fld Z h1 a "java/lang/String" "coder" "B" (.int (0 : Int32)) := hF2.other W2 (Or.inr (slot_ne (Or.inr (own_w H (i := 18) rfl)) (Or.inr (own_w H (i := 17) rfl)) (by decide) (t := .byte) (t' := (.array .byte)) (by decide) (by decide)))
  have f6 : n0 ≤ h1.size := by rw [W2.size]; exact hZ0
  have f7 : Keep h0 h1 [a] := hK.wr W2 (Or.inl (by simp))
  refine own_aload_n H rfl rfl d17_9 ?_
  refine own_iload_n H rfl d17_10 ?_
  refine own_putfield H (w := 22) (wi := 2) rfl f5 f3 hA_a (Or.inr ⟨own_w H (i := 18) rfl, rfl, rfl⟩) rfl (ty := .byte) (by decide) rfl rfl d17_11 ?_
  intro h8 W9
  have f10 : Exa Z h8 a "java/lang/String" := f3.wr W9
  have f11 : Fld Z h8 a "java/lang/String" "value" "[B" (.ref t) := f4.other W9 (Or.inr (slot_ne (Or.inr (own_w H (i := 17) rfl)) (Or.inr (own_w H (i := 18) rfl)) (by decide) (t := (.array .byte)) (t' := .byte) (by decide) (by decide)))
  have f12 : Fld Z h8 a "java/lang/String" "coder" "B" (.int (0 : Int32)) := f5.same W9
  have f13 : n0 ≤ h8.size := by rw [W9.size]; exact f6
  have f14 : Keep h0 h8 [a] := f7.wr W9 (Or.inl (by simp))
  exact own_return H d17_14 (by decide) (by decide) ⟨rfl, f14⟩
theorem d14_0 : decode jdk_42_method_139_code 0 = .ok (.getstatic 38, 3) := by decide +kernel
theorem d14_3 : decode jdk_42_method_139_code 3 = .ok (.ifCond .eq 23, 3) := by decide +kernel
theorem d14_6 : decode jdk_42_method_139_code 6 = .ok (.iload_n 0, 1) := by decide +kernel
theorem d14_7 : decode jdk_42_method_139_code 7 = .ok (.invokestatic 1015, 3) := by decide +kernel
theorem d14_10 : decode jdk_42_method_139_code 10 = .ok (.ifCond .eq 16, 3) := by decide +kernel
theorem d14_13 : decode jdk_42_method_139_code 13 = .ok (.new 10, 3) := by decide +kernel
theorem d14_16 : decode jdk_42_method_139_code 16 = .ok (.dup, 1) := by decide +kernel
theorem d14_17 : decode jdk_42_method_139_code 17 = .ok (.iload_n 0, 1) := by decide +kernel
theorem d14_18 : decode jdk_42_method_139_code 18 = .ok (.invokestatic 1018, 3) := by decide +kernel
theorem d14_21 : decode jdk_42_method_139_code 21 = .ok (.iconst 0, 1) := by decide +kernel
theorem d14_22 : decode jdk_42_method_139_code 22 = .ok (.invokespecial 209, 3) := by decide +kernel
theorem d14_25 : decode jdk_42_method_139_code 25 = .ok (.areturn, 1) := by decide +kernel
theorem d14_26 : decode jdk_42_method_139_code 26 = .ok (.new 10, 3) := by decide +kernel
theorem d14_29 : decode jdk_42_method_139_code 29 = .ok (.dup, 1) := by decide +kernel
theorem d14_30 : decode jdk_42_method_139_code 30 = .ok (.iload_n 0, 1) := by decide +kernel
theorem d14_31 : decode jdk_42_method_139_code 31 = .ok (.invokestatic 1021, 3) := by decide +kernel
theorem d14_34 : decode jdk_42_method_139_code 34 = .ok (.iconst 1, 1) := by decide +kernel
theorem d14_35 : decode jdk_42_method_139_code 35 = .ok (.invokespecial 209, 3) := by decide +kernel
theorem d14_38 : decode jdk_42_method_139_code 38 = .ok (.areturn, 1) := by decide +kernel
theorem own_pl14 : plainFor (⟨"java/lang/String", "valueOf", "(C)Ljava/lang/String;"⟩ : MethodName) = true := plainFor_of_name (by first | (simp [plainName, overriddenIn]; done) | decide +kernel)
theorem own_pd3 : parseMethodDescriptor "(C)Ljava/lang/String;" = some ⟨[.char], some (.object "java/lang/String")⟩ := by decide +kernel
set_option maxHeartbeats 4000000 in
theorem rmVal (l : Launch) (Z : State) (a0 : Array Value) (hw : ∀ (i : Nat) (d : Jvm.Cond), tables_1[i]? = some d → d.before a0 Z = true) (h0 : Heap) (n0 : Nat) (q : Int32) (cs : Int32) (hZ0 : n0 ≤ h0.size) (hS : Sta Z h0 "java/lang/String" "COMPACT_STRINGS" "Z" (.int cs)) (hcs : ¬ cs = 0) (hq : ¬ (255 : Int32) < q) :
    own_C l Z (⟨"java/lang/String", "valueOf", "(C)Ljava/lang/String;"⟩ : MethodName) jdk_42_method_139_code 1 (some (.object "java/lang/String")) ({ frames := 2, cells := 2, slots := 5, locals := 27 } : Room) #[(.int q)] h0 n0 (fun v h' => ∃ (a2 : Addr), v = some (.ref a2) ∧ Keep h0 h' [] ∧ n0 ≤ a2 ∧ h0.size ≤ a2 ∧ a2 < h'.size ∧ Exa Z h' a2 "java/lang/String") := by
  refine own_met (Ls := #[.val (.int q)]) hw own_pl14 (fun m => by first | (simp [entryFrame, mkF, argsToLocals, Value.category]; done) | rfl) ?_
  intro B H
  have hK : Keep h0 h0 [] := Keep.refl _ _
  refine own_getstatic H (w := 88) rfl hS d14_0 ?_
  refine own_ifeq_f H d14_3 hcs ?_
  refine own_iload_n H rfl d14_6 ?_
  refine own_invokestatic H (argsL := [(.int q)]) (rest := []) (rmCan l Z a0 (own_hw H) h0 n0 q hq) (w1 := 89) (w2 := 90) (w3 := 91) (w4 := 92) rfl rfl rfl rfl own_pd0 rfl 0 (by decide) rfl (by decide) (Nat.le_of_eq rfl) (by decide) (by decide) (by decide) rfl d14_7 ?_
  rintro _ _ ⟨rfl, rfl⟩
  show own_G _ _ _ _ _ _ _ _ 10 #[.val (.int q)] [(.int (1 : Int32))]
  refine own_ifeq_f H d14_10 (by decide) ?_
  refine own_new H (w := 93) (wi := 2) (wz := 3) rfl rfl rfl d14_13 (by decide) (by decide) ?_
  intro h1 a2 ha3 E4 X5 D6
  have f7 : n0 ≤ a2 := by rw [ha3]; exact hZ0
  have f8 : h0.size ≤ a2 := by rw [ha3]; exact hK.1
  have f9 : Sta Z h1 "java/lang/String" "COMPACT_STRINGS" "Z" (.int cs) := hS.ext E4
  have f10 : n0 ≤ h1.size := Nat.le_trans hZ0 E4.1
  have f11 : Keep h0 h1 [] := hK.ext E4
  have f12 : Fld Z h1 a2 "java/lang/String" "value" "[B" .null := D6 (Or.inr (own_w H (i := 17) rfl)) (ty := (.array .byte)) (by decide)
  have f13 : Fld Z h1 a2 "java/lang/String" "coder" "B" (.int (0 : Int32)) := D6 (Or.inr (own_w H (i := 18) rfl)) (ty := .byte) (by decide)
  show own_G _ _ _ _ _ _ _ _ 16 #[.val (.int q)] [(.ref a2)]
  refine own_dup H rfl d14_16 ?_
  refine own_iload_n H rfl d14_17 ?_
  refine own_invokestatic H (argsL := [(.int q)]) (rest := [(.ref a2), (.ref a2)]) (rmTob l Z a0 (own_hw H) h1 n0 q f10) (w1 := 94) (w2 := 95) (w3 := 91) (w4 := 96) rfl rfl rfl rfl own_pd1 rfl 2 (by decide) rfl (by decide) (Nat.le_of_eq rfl) (by decide) (by decide) (by decide) rfl d14_18 ?_
  rintro _ h14 ⟨a16, kA17, rfl, K15, f18, f19, f20, f21⟩
  have f22 : a2 ≠ a16 := Nat.ne_of_lt (Nat.lt_of_lt_of_le X5.lt f19)
  have f23 : h0.size ≤ a16 := Nat.le_trans f11.1 f19
  have f24 : n0 ≤ h14.size := Nat.le_trans f10 K15.1
  have f25 : Keep h0 h14 [] := f11.trans K15 all0
  have f26 : Exa Z h14 a2 "java/lang/String" := X5.keep K15
  have f27 : Fld Z h14 a2 "java/lang/String" "value" "[B" .null := f12.keep K15 nin0
  have f28 : Fld Z h14 a2 "java/lang/String" "coder" "B" (.int (0 : Int32)) := f13.keep K15 nin0
  show own_G _ _ _ _ _ _ _ _ 21 #[.val (.int q)] [(.ref a16), (.ref a2), (.ref a2)]
  refine own_iconst H (0 : Int32) (by decide) d14_21 ?_
  refine own_invokespecial H (a := a2) (argsL := [(.ref a16), (.int (0 : Int32))]) (rest := [(.ref a2)]) (rmInB l Z a0 (own_hw H) h14 n0 a2 a16 f24 f26 f27 f28 f7) rfl (w1 := 97) (w2 := 98) (w3 := 3) (w4 := 99) rfl rfl rfl rfl own_pd2 rfl 1 (by decide) rfl (by decide) (Nat.le_of_eq rfl) (by decide) (by decide) (by decide) rfl d14_22 ?_
  rintro _ h29 ⟨rfl, K30⟩
  have f31 : n0 ≤ h29.size := Nat.le_trans f24 K30.1
  have f32 : Keep h0 h29 [] := f25.trans K30 (allS (Or.inr f8) all0)
  have f33 : Exa Z h29 a2 "java/lang/String" := f26.keep K30
  have f34 : Arv Z h29 a16 kA17 .byte (1 : Int32) [(.int (nar .byte (q.toInt8.toInt32)))] (.int 0) := f21.keep K30 (ninS f22.symm nin0)
  show own_G _ _ _ _ _ _ _ _ 25 #[.val (.int q)] [(.ref a2)]
  exact own_areturn H rfl rfl rfl d14_25 (by decide) (by decide) ⟨a2, rfl, f32, f7, f8, f33.lt, f33⟩
theorem d19_0 : decode jdk_52_method_21_code 0 = .ok (.iconst 0, 1) := by decide +kernel
theorem d19_1 : decode jdk_52_method_21_code 1 = .ok (.istore 5, 2) := by decide +kernel
theorem d19_3 : decode jdk_52_method_21_code 3 = .ok (.iload 5, 2) := by decide +kernel
theorem d19_5 : decode jdk_52_method_21_code 5 = .ok (.iload 4, 2) := by decide +kernel
theorem d19_7 : decode jdk_52_method_21_code 7 = .ok (.if_icmp .ge 37, 3) := by decide +kernel
theorem d19_10 : decode jdk_52_method_21_code 10 = .ok (.aload_n 0, 1) := by decide +kernel
theorem d19_11 : decode jdk_52_method_21_code 11 = .ok (.iload_n 1, 1) := by decide +kernel
theorem d19_12 : decode jdk_52_method_21_code 12 = .ok (.caload, 1) := by decide +kernel
theorem d19_13 : decode jdk_52_method_21_code 13 = .ok (.istore 6, 2) := by decide +kernel
theorem d19_15 : decode jdk_52_method_21_code 15 = .ok (.iload 6, 2) := by decide +kernel
theorem d19_17 : decode jdk_52_method_21_code 17 = .ok (.sipush 255, 3) := by decide +kernel
theorem d19_20 : decode jdk_52_method_21_code 20 = .ok (.if_icmp .le 6, 3) := by decide +kernel
theorem d19_23 : decode jdk_52_method_21_code 23 = .ok (.iload 5, 2) := by decide +kernel
theorem d19_25 : decode jdk_52_method_21_code 25 = .ok (.ireturn, 1) := by decide +kernel
theorem d19_26 : decode jdk_52_method_21_code 26 = .ok (.aload_n 2, 1) := by decide +kernel
theorem d19_27 : decode jdk_52_method_21_code 27 = .ok (.iload_n 3, 1) := by decide +kernel
theorem d19_28 : decode jdk_52_method_21_code 28 = .ok (.iload 6, 2) := by decide +kernel
theorem d19_30 : decode jdk_52_method_21_code 30 = .ok (.i2b, 1) := by decide +kernel
theorem d19_31 : decode jdk_52_method_21_code 31 = .ok (.bastore, 1) := by decide +kernel
theorem d19_32 : decode jdk_52_method_21_code 32 = .ok (.iinc 1 1, 3) := by decide +kernel
theorem d19_35 : decode jdk_52_method_21_code 35 = .ok (.iinc 3 1, 3) := by decide +kernel
theorem d19_38 : decode jdk_52_method_21_code 38 = .ok (.iinc 5 1, 3) := by decide +kernel
theorem d19_41 : decode jdk_52_method_21_code 41 = .ok (.goto (-38), 3) := by decide +kernel
theorem d19_44 : decode jdk_52_method_21_code 44 = .ok (.iload 4, 2) := by decide +kernel
theorem d19_46 : decode jdk_52_method_21_code 46 = .ok (.ireturn, 1) := by decide +kernel
theorem own_pl19 : plainFor (⟨"java/lang/StringUTF16", "compress", "([CI[BII)I"⟩ : MethodName) = true := plainFor_of_name (by first | (simp [plainName, overriddenIn]; done) | decide +kernel)
theorem own_pd4 : parseMethodDescriptor "([CI[BII)I" = some ⟨[(.array .char), .int, (.array .byte), .int, .int], some .int⟩ := by decide +kernel
set_option maxHeartbeats 4000000 in
theorem rmCin (l : Launch) (Z : State) (a0 : Array Value) (hw : ∀ (i : Nat) (d : Jvm.Cond), tables_1[i]? = some d → d.before a0 Z = true) (h0 : Heap) (n0 : Nat) (t : Addr) (b : Addr) (c : Int32) (d : Int32) (kA : ClassId) (kB : ClassId) (hZ0 : n0 ≤ h0.size) (hV : Arv Z h0 t kA .char (2 : Int32) [(.int c), (.int d)] (.int 0)) (hVb : Arv Z h0 b kB .byte (2 : Int32) [(.int 0), (.int 0)] (.int 0)) (hne : t ≠ b) (hc : ¬ (255 : Int32) < c) (hd : ¬ (255 : Int32) < d) (hA_b : n0 ≤ b) :
    own_C l Z (⟨"java/lang/StringUTF16", "compress", "([CI[BII)I"⟩ : MethodName) jdk_52_method_21_code 7 (some .int) ({ frames := 0, cells := 0, slots := 0, locals := 0 } : Room) #[(.ref t), (.int (0 : Int32)), (.ref b), (.int (0 : Int32)), (.int (2 : Int32))] h0 n0 (fun v h' => v = some (.int (2 : Int32)) ∧ Keep h0 h' [b] ∧ Arv Z h' b kB .byte (2 : Int32) [(.int (nar .byte (c.toInt8.toInt32))), (.int (nar .byte (d.toInt8.toInt32)))] (.int 0)) := by
  refine own_met (Ls := #[.val (.ref t), .val (.int (0 : Int32)), .val (.ref b), .val (.int (0 : Int32)), .val (.int (2 : Int32)), .unset, .unset]) hw own_pl19 (fun m => by first | (simp [entryFrame, mkF, argsToLocals, Value.category]; done) | rfl) ?_
  intro B H
  have hK : Keep h0 h0 [b] := Keep.refl _ _
  refine own_iconst H (0 : Int32) (by decide) d19_0 ?_
  refine own_istore H #[.val (.ref t), .val (.int (0 : Int32)), .val (.ref b), .val (.int (0 : Int32)), .val (.int (2 : Int32)), .val (.int (0 : Int32)), .unset] rfl d19_1 ?_
  refine own_iload H rfl d19_3 ?_
  refine own_iload H rfl d19_5 ?_
  refine own_icmpge_f H d19_7 (by decide) ?_
  refine own_aload_n H rfl rfl d19_10 ?_
  refine own_iload_n H rfl d19_11 ?_
  refine own_caloadV H hV (by decide) (by decide) rfl d19_12 ?_
  refine own_istore H #[.val (.ref t), .val (.int (0 : Int32)), .val (.ref b), .val (.int (0 : Int32)), .val (.int (2 : Int32)), .val (.int (0 : Int32)), .val (.int c)] rfl d19_13 ?_
  refine own_iload H rfl d19_15 ?_
  refine own_sipush H (255 : Int32) (by decide) d19_17 ?_
  refine own_icmple_t H (pc' := 26) d19_20 (by decide) (by decide) hc ?_
  refine own_aload_n H rfl rfl d19_26 ?_
  refine own_iload_n H rfl d19_27 ?_
  refine own_iload H rfl d19_28 ?_
  refine own_i2b H rfl d19_30 ?_
  refine own_bastoreV H hVb (by decide) (by decide) 0 (by decide) (Nat.le_of_ble_eq_true rfl) hA_b rfl d19_31 ?_
  intro h1 W2 V3
  have f4 : Arv Z h1 t kA .char (2 : Int32) [(.int c), (.int d)] (.int 0) := hV.other W2 hne
  have f5 : n0 ≤ h1.size := by rw [W2.size]; exact hZ0
  have f6 : Keep h0 h1 [b] := hK.wr W2 (Or.inl (by simp))
  have f7 : Arv Z h1 b kB .byte (2 : Int32) [(.int (nar .byte (c.toInt8.toInt32))), (.int 0)] (.int 0) := V3
  refine own_iinc H (1 : Int32) (by decide) rfl (by decide) #[.val (.ref t), .val (.int (1 : Int32)), .val (.ref b), .val (.int (0 : Int32)), .val (.int (2 : Int32)), .val (.int (0 : Int32)), .val (.int c)] rfl d19_32 ?_
  refine own_iinc H (1 : Int32) (by decide) rfl (by decide) #[.val (.ref t), .val (.int (1 : Int32)), .val (.ref b), .val (.int (1 : Int32)), .val (.int (2 : Int32)), .val (.int (0 : Int32)), .val (.int c)] rfl d19_35 ?_
  refine own_iinc H (1 : Int32) (by decide) rfl (by decide) #[.val (.ref t), .val (.int (1 : Int32)), .val (.ref b), .val (.int (1 : Int32)), .val (.int (2 : Int32)), .val (.int (1 : Int32)), .val (.int c)] rfl d19_38 ?_
  refine own_goto H (pc' := 3) d19_41 (by decide) (by decide) ?_
  refine own_iload H rfl d19_3 ?_
  refine own_iload H rfl d19_5 ?_
  refine own_icmpge_f H d19_7 (by decide) ?_
  refine own_aload_n H rfl rfl d19_10 ?_
  refine own_iload_n H rfl d19_11 ?_
  refine own_caloadV H f4 (by decide) (by decide) rfl d19_12 ?_
  refine own_istore H #[.val (.ref t), .val (.int (1 : Int32)), .val (.ref b), .val (.int (1 : Int32)), .val (.int (2 : Int32)), .val (.int (1 : Int32)), .val (.int d)] rfl d19_13 ?_
  refine own_iload H rfl d19_15 ?_
  refine own_sipush H (255 : Int32) (by decide) d19_17 ?_
  refine own_icmple_t H (pc' := 26) d19_20 (by decide) (by decide) hd ?_
  refine own_aload_n H rfl rfl d19_26 ?_
  refine own_iload_n H rfl d19_27 ?_
  refine own_iload H rfl d19_28 ?_
  refine own_i2b H rfl d19_30 ?_
  refine own_bastoreV H f7 (by decide) (by decide) 1 (by decide) (Nat.le_of_ble_eq_true rfl) hA_b rfl d19_31 ?_
  intro h8 W9 V10
  have f11 : Arv Z h8 t kA .char (2 : Int32) [(.int c), (.int d)] (.int 0) := f4.other W9 hne
  have f12 : n0 ≤ h8.size := by rw [W9.size]; exact f5
  have f13 : Keep h0 h8 [b] := f6.wr W9 (Or.inl (by simp))
  have f14 : Arv Z h8 b kB .byte (2 : Int32) [(.int (nar .byte (c.toInt8.toInt32))), (.int (nar .byte (d.toInt8.toInt32)))] (.int 0) := V10
  refine own_iinc H (1 : Int32) (by decide) rfl (by decide) #[.val (.ref t), .val (.int (2 : Int32)), .val (.ref b), .val (.int (1 : Int32)), .val (.int (2 : Int32)), .val (.int (1 : Int32)), .val (.int d)] rfl d19_32 ?_
  refine own_iinc H (1 : Int32) (by decide) rfl (by decide) #[.val (.ref t), .val (.int (2 : Int32)), .val (.ref b), .val (.int (2 : Int32)), .val (.int (2 : Int32)), .val (.int (1 : Int32)), .val (.int d)] rfl d19_35 ?_
  refine own_iinc H (1 : Int32) (by decide) rfl (by decide) #[.val (.ref t), .val (.int (2 : Int32)), .val (.ref b), .val (.int (2 : Int32)), .val (.int (2 : Int32)), .val (.int (2 : Int32)), .val (.int d)] rfl d19_38 ?_
  refine own_goto H (pc' := 3) d19_41 (by decide) (by decide) ?_
  refine own_iload H rfl d19_3 ?_
  refine own_iload H rfl d19_5 ?_
  refine own_icmpge_t H (pc' := 44) d19_7 (by decide) (by decide) (by decide) ?_
  refine own_iload H rfl d19_44 ?_
  exact own_ireturn H (by simp) rfl d19_46 (by decide) (by decide) ⟨rfl, f13, f14⟩
theorem d18_0 : decode jdk_52_method_16_code 0 = .ok (.iload_n 2, 1) := by decide +kernel
theorem d18_1 : decode jdk_52_method_16_code 1 = .ok (.newarray .byte, 2) := by decide +kernel
theorem d18_3 : decode jdk_52_method_16_code 3 = .ok (.astore_n 3, 1) := by decide +kernel
theorem d18_4 : decode jdk_52_method_16_code 4 = .ok (.aload_n 0, 1) := by decide +kernel
theorem d18_5 : decode jdk_52_method_16_code 5 = .ok (.iload_n 1, 1) := by decide +kernel
theorem d18_6 : decode jdk_52_method_16_code 6 = .ok (.aload_n 3, 1) := by decide +kernel
theorem d18_7 : decode jdk_52_method_16_code 7 = .ok (.iconst 0, 1) := by decide +kernel
theorem d18_8 : decode jdk_52_method_16_code 8 = .ok (.iload_n 2, 1) := by decide +kernel
theorem d18_9 : decode jdk_52_method_16_code 9 = .ok (.invokestatic 115, 3) := by decide +kernel
theorem d18_12 : decode jdk_52_method_16_code 12 = .ok (.istore 4, 2) := by decide +kernel
theorem d18_14 : decode jdk_52_method_16_code 14 = .ok (.iload 4, 2) := by decide +kernel
theorem d18_16 : decode jdk_52_method_16_code 16 = .ok (.iload_n 2, 1) := by decide +kernel
theorem d18_17 : decode jdk_52_method_16_code 17 = .ok (.if_icmp .eq 40, 3) := by decide +kernel
theorem d18_20 : decode jdk_52_method_16_code 20 = .ok (.aload_n 0, 1) := by decide +kernel
theorem d18_21 : decode jdk_52_method_16_code 21 = .ok (.iload_n 1, 1) := by decide +kernel
theorem d18_22 : decode jdk_52_method_16_code 22 = .ok (.iload_n 2, 1) := by decide +kernel
theorem d18_23 : decode jdk_52_method_16_code 23 = .ok (.invokestatic 119, 3) := by decide +kernel
theorem d18_26 : decode jdk_52_method_16_code 26 = .ok (.astore 5, 2) := by decide +kernel
theorem d18_28 : decode jdk_52_method_16_code 28 = .ok (.aload 5, 2) := by decide +kernel
theorem d18_30 : decode jdk_52_method_16_code 30 = .ok (.iload 4, 2) := by decide +kernel
theorem d18_32 : decode jdk_52_method_16_code 32 = .ok (.invokestatic 71, 3) := by decide +kernel
theorem d18_35 : decode jdk_52_method_16_code 35 = .ok (.sipush 255, 3) := by decide +kernel
theorem d18_38 : decode jdk_52_method_16_code 38 = .ok (.if_icmp .gt 16, 3) := by decide +kernel
theorem d18_41 : decode jdk_52_method_16_code 41 = .ok (.aload 5, 2) := by decide +kernel
theorem d18_43 : decode jdk_52_method_16_code 43 = .ok (.iconst 0, 1) := by decide +kernel
theorem d18_44 : decode jdk_52_method_16_code 44 = .ok (.aload_n 3, 1) := by decide +kernel
theorem d18_45 : decode jdk_52_method_16_code 45 = .ok (.iconst 0, 1) := by decide +kernel
theorem d18_46 : decode jdk_52_method_16_code 46 = .ok (.iload_n 2, 1) := by decide +kernel
theorem d18_47 : decode jdk_52_method_16_code 47 = .ok (.invokestatic 123, 3) := by decide +kernel
theorem d18_50 : decode jdk_52_method_16_code 50 = .ok (.iload_n 2, 1) := by decide +kernel
theorem d18_51 : decode jdk_52_method_16_code 51 = .ok (.if_icmp .eq 6, 3) := by decide +kernel
theorem d18_54 : decode jdk_52_method_16_code 54 = .ok (.aload 5, 2) := by decide +kernel
theorem d18_56 : decode jdk_52_method_16_code 56 = .ok (.areturn, 1) := by decide +kernel
theorem d18_57 : decode jdk_52_method_16_code 57 = .ok (.aload_n 3, 1) := by decide +kernel
theorem d18_58 : decode jdk_52_method_16_code 58 = .ok (.areturn, 1) := by decide +kernel
theorem own_pl18 : plainFor (⟨"java/lang/StringUTF16", "compress", "([CII)[B"⟩ : MethodName) = true := plainFor_of_name (by first | (simp [plainName, overriddenIn]; done) | decide +kernel)
theorem own_pd5 : parseMethodDescriptor "([CII)[B" = some ⟨[(.array .char), .int, .int], some (.array .byte)⟩ := by decide +kernel
set_option maxHeartbeats 4000000 in
theorem rmCou (l : Launch) (Z : State) (a0 : Array Value) (hw : ∀ (i : Nat) (d : Jvm.Cond), tables_1[i]? = some d → d.before a0 Z = true) (h0 : Heap) (n0 : Nat) (t : Addr) (c : Int32) (d : Int32) (kA : ClassId) (hZ0 : n0 ≤ h0.size) (hV : Arv Z h0 t kA .char (2 : Int32) [(.int c), (.int d)] (.int 0)) (hc : ¬ (255 : Int32) < c) (hd : ¬ (255 : Int32) < d) :
    own_C l Z (⟨"java/lang/StringUTF16", "compress", "([CII)[B"⟩ : MethodName) jdk_52_method_16_code 6 (some (.array .byte)) ({ frames := 1, cells := 1, slots := 2, locals := 18 } : Room) #[(.ref t), (.int (0 : Int32)), (.int (2 : Int32))] h0 n0 (fun v h' => ∃ (a2 : Addr) (kA3 : ClassId), v = some (.ref a2) ∧ Keep h0 h' [] ∧ n0 ≤ a2 ∧ h0.size ≤ a2 ∧ a2 < h'.size ∧ Arv Z h' a2 kA3 .byte (2 : Int32) [(.int (nar .byte (c.toInt8.toInt32))), (.int (nar .byte (d.toInt8.toInt32)))] (.int 0)) := by
  refine own_met (Ls := #[.val (.ref t), .val (.int (0 : Int32)), .val (.int (2 : Int32)), .unset, .unset, .unset]) hw own_pl18 (fun m => by first | (simp [entryFrame, mkF, argsToLocals, Value.category]; done) | rfl) ?_
  intro B H
  have hK : Keep h0 h0 [] := Keep.refl _ _
  refine own_iload_n H rfl d18_0 ?_
  refine own_newarray H (w := 16) (n := (2 : Int32)) rfl (by decide) 2 (by decide) (by decide) d18_1 (by decide) (by decide) ?_
  intro h1 a2 kA3 ha4 E5 V6
  have f8 : t ≠ a2 := Nat.ne_of_lt (by rw [ha4]; exact hV.lt)
  have f9 : n0 ≤ a2 := by rw [ha4]; exact hZ0
  have f10 : h0.size ≤ a2 := by rw [ha4]; exact hK.1
  have f11 : Arv Z h1 t kA .char (2 : Int32) [(.int c), (.int d)] (.int 0) := hV.ext E5
  have f12 : n0 ≤ h1.size := Nat.le_trans hZ0 E5.1
  have f13 : Keep h0 h1 [] := hK.ext E5
  have f14 : Arv Z h1 a2 kA3 .byte (2 : Int32) [(.int 0), (.int 0)] (.int 0) := V6.pad (pad_rep [] (.int 0) 2)
  show own_G _ _ _ _ _ _ _ _ 3 #[.val (.ref t), .val (.int (0 : Int32)), .val (.int (2 : Int32)), .unset, .unset, .unset] [(.ref a2)]
  refine own_astore_n H rfl #[.val (.ref t), .val (.int (0 : Int32)), .val (.int (2 : Int32)), .val (.ref a2), .unset, .unset] rfl d18_3 ?_
  refine own_aload_n H rfl rfl d18_4 ?_
  refine own_iload_n H rfl d18_5 ?_
  refine own_aload_n H rfl rfl d18_6 ?_
  refine own_iconst H (0 : Int32) (by decide) d18_7 ?_
  refine own_iload_n H rfl d18_8 ?_
  refine own_invokestatic H (argsL := [(.ref t), (.int (0 : Int32)), (.ref a2), (.int (0 : Int32)), (.int (2 : Int32))]) (rest := []) (rmCin l Z a0 (own_hw H) h1 n0 t a2 c d kA kA3 f12 f11 f14 f8 hc hd f9) (w1 := 104) (w2 := 105) (w3 := 102) (w4 := 106) rfl rfl rfl rfl own_pd4 rfl 0 (by decide) rfl (by decide) (Nat.le_of_eq rfl) (by decide) (by decide) (by decide) rfl d18_9 ?_
  rintro _ h15 ⟨rfl, K16, f17⟩
  have f18 : Arv Z h15 t kA .char (2 : Int32) [(.int c), (.int d)] (.int 0) := f11.keep K16 (ninS f8 nin0)
  have f19 : n0 ≤ h15.size := Nat.le_trans f12 K16.1
  have f20 : Keep h0 h15 [] := f13.trans K16 (allS (Or.inr f10) all0)
  show own_G _ _ _ _ _ _ _ _ 12 #[.val (.ref t), .val (.int (0 : Int32)), .val (.int (2 : Int32)), .val (.ref a2), .unset, .unset] [(.int (2 : Int32))]
  refine own_istore H #[.val (.ref t), .val (.int (0 : Int32)), .val (.int (2 : Int32)), .val (.ref a2), .val (.int (2 : Int32)), .unset] rfl d18_12 ?_
  refine own_iload H rfl d18_14 ?_
  refine own_iload_n H rfl d18_16 ?_
  refine own_icmpeq_t H (pc' := 57) d18_17 (by decide) (by decide) (by decide) ?_
  refine own_aload_n H rfl rfl d18_57 ?_
  exact own_areturn H rfl rfl rfl d18_58 (by decide) (by decide) ⟨a2, kA3, rfl, f20, f9, f10, f17.lt, f17⟩
theorem d20_0 : decode jdk_52_method_15_code 0 = .ok (.iload_n 1, 1) := by decide +kernel
theorem d20_1 : decode jdk_52_method_15_code 1 = .ok (.aload_n 0, 1) := by decide +kernel
theorem d20_2 : decode jdk_52_method_15_code 2 = .ok (.arraylength, 1) := by decide +kernel
theorem d20_3 : decode jdk_52_method_15_code 3 = .ok (.isub, 1) := by decide +kernel
theorem d20_4 : decode jdk_52_method_15_code 4 = .ok (.bipush 31, 2) := by decide +kernel
theorem d20_6 : decode jdk_52_method_15_code 6 = .ok (.iushr, 1) := by decide +kernel
theorem d20_7 : decode jdk_52_method_15_code 7 = .ok (.i2b, 1) := by decide +kernel
theorem d20_8 : decode jdk_52_method_15_code 8 = .ok (.ireturn, 1) := by decide +kernel
theorem own_pl20 : plainFor (⟨"java/lang/StringUTF16", "coderFromArrayLen", "([BI)B"⟩ : MethodName) = true := plainFor_of_name (by first | (simp [plainName, overriddenIn]; done) | decide +kernel)
theorem own_pd6 : parseMethodDescriptor "([BI)B" = some ⟨[(.array .byte), .int], some .byte⟩ := by decide +kernel
set_option maxHeartbeats 4000000 in
theorem rmCod (l : Launch) (Z : State) (a0 : Array Value) (hw : ∀ (i : Nat) (d : Jvm.Cond), tables_1[i]? = some d → d.before a0 Z = true) (h0 : Heap) (n0 : Nat) (t : Addr) (kA : ClassId) (c : Int32) (d : Int32) (hV : Arv Z h0 t kA .byte (2 : Int32) [(.int c), (.int d)] (.int 0)) :
    own_C l Z (⟨"java/lang/StringUTF16", "coderFromArrayLen", "([BI)B"⟩ : MethodName) jdk_52_method_15_code 2 (some .byte) ({ frames := 0, cells := 0, slots := 0, locals := 0 } : Room) #[(.ref t), (.int (2 : Int32))] h0 n0 (fun v h' => v = some (.int (0 : Int32)) ∧ h0 = h') := by
  refine own_met (Ls := #[.val (.ref t), .val (.int (2 : Int32))]) hw own_pl20 (fun m => by first | (simp [entryFrame, mkF, argsToLocals, Value.category]; done) | rfl) ?_
  intro B H
  refine own_iload_n H rfl d20_0 ?_
  refine own_aload_n H rfl rfl d20_1 ?_
  refine own_arraylengthV H hV d20_2 ?_
  refine own_isub (v := (0 : Int32)) H (by decide) d20_3 ?_
  refine own_bipush H (31 : Int32) (by decide) d20_4 ?_
  refine own_iushr (v := (0 : Int32)) H (by decide) d20_6 ?_
  refine own_i2b H rfl d20_7 ?_
  exact own_ireturn H (by simp) (by decide) d20_8 (by decide) (by decide) ⟨rfl, rfl⟩
theorem d2_0 : decode jdk_42_method_149_code 0 = .ok (.aload_n 0, 1) := by decide +kernel
theorem d2_1 : decode jdk_42_method_149_code 1 = .ok (.invokespecial 1, 3) := by decide +kernel
theorem d2_4 : decode jdk_42_method_149_code 4 = .ok (.iload_n 3, 1) := by decide +kernel
theorem d2_5 : decode jdk_42_method_149_code 5 = .ok (.ifCond .ne 22, 3) := by decide +kernel
theorem d2_8 : decode jdk_42_method_149_code 8 = .ok (.aload_n 0, 1) := by decide +kernel
theorem d2_9 : decode jdk_42_method_149_code 9 = .ok (.ldc 7, 2) := by decide +kernel
theorem d2_11 : decode jdk_42_method_149_code 11 = .ok (.getfield 9, 3) := by decide +kernel
theorem d2_14 : decode jdk_42_method_149_code 14 = .ok (.putfield 9, 3) := by decide +kernel
theorem d2_17 : decode jdk_42_method_149_code 17 = .ok (.aload_n 0, 1) := by decide +kernel
theorem d2_18 : decode jdk_42_method_149_code 18 = .ok (.ldc 7, 2) := by decide +kernel
theorem d2_20 : decode jdk_42_method_149_code 20 = .ok (.getfield 15, 3) := by decide +kernel
theorem d2_23 : decode jdk_42_method_149_code 23 = .ok (.putfield 15, 3) := by decide +kernel
theorem d2_26 : decode jdk_42_method_149_code 26 = .ok (.return_, 1) := by decide +kernel
theorem d2_27 : decode jdk_42_method_149_code 27 = .ok (.getstatic 38, 3) := by decide +kernel
theorem d2_30 : decode jdk_42_method_149_code 30 = .ok (.ifCond .eq 28, 3) := by decide +kernel
theorem d2_33 : decode jdk_42_method_149_code 33 = .ok (.aload_n 1, 1) := by decide +kernel
theorem d2_34 : decode jdk_42_method_149_code 34 = .ok (.iload_n 2, 1) := by decide +kernel
theorem d2_35 : decode jdk_42_method_149_code 35 = .ok (.iload_n 3, 1) := by decide +kernel
theorem d2_36 : decode jdk_42_method_149_code 36 = .ok (.invokestatic 177, 3) := by decide +kernel
theorem d2_39 : decode jdk_42_method_149_code 39 = .ok (.astore 5, 2) := by decide +kernel
theorem d2_41 : decode jdk_42_method_149_code 41 = .ok (.aload_n 0, 1) := by decide +kernel
theorem d2_42 : decode jdk_42_method_149_code 42 = .ok (.aload 5, 2) := by decide +kernel
theorem d2_44 : decode jdk_42_method_149_code 44 = .ok (.iload_n 3, 1) := by decide +kernel
theorem d2_45 : decode jdk_42_method_149_code 45 = .ok (.invokestatic 47, 3) := by decide +kernel
theorem d2_48 : decode jdk_42_method_149_code 48 = .ok (.putfield 15, 3) := by decide +kernel
theorem d2_51 : decode jdk_42_method_149_code 51 = .ok (.aload_n 0, 1) := by decide +kernel
theorem d2_52 : decode jdk_42_method_149_code 52 = .ok (.aload 5, 2) := by decide +kernel
theorem d2_54 : decode jdk_42_method_149_code 54 = .ok (.putfield 9, 3) := by decide +kernel
theorem d2_57 : decode jdk_42_method_149_code 57 = .ok (.return_, 1) := by decide +kernel
theorem d2_58 : decode jdk_42_method_149_code 58 = .ok (.aload_n 0, 1) := by decide +kernel
theorem d2_59 : decode jdk_42_method_149_code 59 = .ok (.iconst 1, 1) := by decide +kernel
theorem d2_60 : decode jdk_42_method_149_code 60 = .ok (.putfield 15, 3) := by decide +kernel
theorem d2_63 : decode jdk_42_method_149_code 63 = .ok (.aload_n 0, 1) := by decide +kernel
theorem d2_64 : decode jdk_42_method_149_code 64 = .ok (.aload_n 1, 1) := by decide +kernel
theorem d2_65 : decode jdk_42_method_149_code 65 = .ok (.iload_n 2, 1) := by decide +kernel
theorem d2_66 : decode jdk_42_method_149_code 66 = .ok (.iload_n 3, 1) := by decide +kernel
theorem d2_67 : decode jdk_42_method_149_code 67 = .ok (.invokestatic 180, 3) := by decide +kernel
theorem d2_70 : decode jdk_42_method_149_code 70 = .ok (.putfield 9, 3) := by decide +kernel
theorem d2_73 : decode jdk_42_method_149_code 73 = .ok (.return_, 1) := by decide +kernel
theorem own_pl2 : plainFor (⟨"java/lang/String", "<init>", "([CIILjava/lang/Void;)V"⟩ : MethodName) = true := plainFor_of_name (by first | (simp [plainName, overriddenIn]; done) | decide +kernel)
theorem own_pd7 : parseMethodDescriptor "([CIILjava/lang/Void;)V" = some ⟨[(.array .char), .int, .int, (.object "java/lang/Void")], none⟩ := by decide +kernel
set_option maxHeartbeats 4000000 in
theorem rmIn4 (l : Launch) (Z : State) (a0 : Array Value) (hw : ∀ (i : Nat) (d : Jvm.Cond), tables_1[i]? = some d → d.before a0 Z = true) (h0 : Heap) (n0 : Nat) (a : Addr) (t : Addr) (c : Int32) (d : Int32) (kA : ClassId) (cs : Int32) (hZ0 : n0 ≤ h0.size) (hE : Exa Z h0 a "java/lang/String") (hF1 : Fld Z h0 a "java/lang/String" "value" "[B" .null) (hF2 : Fld Z h0 a "java/lang/String" "coder" "B" (.int (0 : Int32))) (hV : Arv Z h0 t kA .char (2 : Int32) [(.int c), (.int d)] (.int 0)) (hne : t ≠ a) (hS : Sta Z h0 "java/lang/String" "COMPACT_STRINGS" "Z" (.int cs)) (hc : ¬ (255 : Int32) < c) (hd : ¬ (255 : Int32) < d) (hcs : ¬ cs = 0) (hA_a : n0 ≤ a) :
    own_C l Z (⟨"java/lang/String", "<init>", "([CIILjava/lang/Void;)V"⟩ : MethodName) jdk_42_method_149_code 6 none ({ frames := 2, cells := 1, slots := 2, locals := 35 } : Room) #[(.ref a), (.ref t), (.int (0 : Int32)), (.int (2 : Int32)), .null] h0 n0 (fun v h' => v = none ∧ Keep h0 h' [a]) := by
  refine own_met (Ls := #[.val (.ref a), .val (.ref t), .val (.int (0 : Int32)), .val (.int (2 : Int32)), .val .null, .unset]) hw own_pl2 (fun m => by first | (simp [entryFrame, mkF, argsToLocals, Value.category]; done) | rfl) ?_
  intro B H
  have hK : Keep h0 h0 [a] := Keep.refl _ _
  refine own_aload_n H rfl rfl d2_0 ?_
  refine own_initObject H (w1 := 12) (w2 := 13) (w3 := 14) rfl rfl rfl 0 rfl (by decide) (Nat.le_of_eq rfl) (by decide) d2_1 ?_
  refine own_iload_n H rfl d2_4 ?_
  refine own_ifne_t H (pc' := 27) d2_5 (by decide) (by decide) (by decide) ?_
  refine own_getstatic H (w := 88) rfl hS d2_27 ?_
  refine own_ifeq_f H d2_30 hcs ?_
  refine own_aload_n H rfl rfl d2_33 ?_
  refine own_iload_n H rfl d2_34 ?_
  refine own_iload_n H rfl d2_35 ?_
  refine own_invokestatic H (argsL := [(.ref t), (.int (0 : Int32)), (.int (2 : Int32))]) (rest := []) (rmCou l Z a0 (own_hw H) h0 n0 t c d kA hZ0 hV hc hd) (w1 := 100) (w2 := 101) (w3 := 102) (w4 := 103) rfl rfl rfl rfl own_pd5 rfl 0 (by decide) rfl (by decide) (Nat.le_of_eq rfl) (by decide) (by decide) (by decide) rfl d2_36 ?_
  rintro _ h1 ⟨a3, kA4, rfl, K2, f5, f6, f7, f8⟩
  have f9 : a ≠ a3 := Nat.ne_of_lt (Nat.lt_of_lt_of_le hE.lt f6)
  have f10 : t ≠ a3 := Nat.ne_of_lt (Nat.lt_of_lt_of_le hV.lt f6)
  have f11 : h0.size ≤ a3 := Nat.le_trans hK.1 f6
  have f12 : Exa Z h1 a "java/lang/String" := hE.keep K2
  have f13 : Fld Z h1 a "java/lang/String" "value" "[B" .null := hF1.keep K2 nin0
  have f14 : Fld Z h1 a "java/lang/String" "coder" "B" (.int (0 : Int32)) := hF2.keep K2 nin0
  have f15 : Arv Z h1 t kA .char (2 : Int32) [(.int c), (.int d)] (.int 0) := hV.keep K2 nin0
  have f16 : n0 ≤ h1.size := Nat.le_trans hZ0 K2.1
  have f17 : Keep h0 h1 [a] := hK.trans K2 all0
  show own_G _ _ _ _ _ _ _ _ 39 #[.val (.ref a), .val (.ref t), .val (.int (0 : Int32)), .val (.int (2 : Int32)), .val .null, .unset] [(.ref a3)]
  refine own_astore H rfl #[.val (.ref a), .val (.ref t), .val (.int (0 : Int32)), .val (.int (2 : Int32)), .val .null, .val (.ref a3)] rfl d2_39 ?_
  refine own_aload_n H rfl rfl d2_41 ?_
  refine own_aload H rfl rfl d2_42 ?_
  refine own_iload_n H rfl d2_44 ?_
  refine own_invokestatic H (argsL := [(.ref a3), (.int (2 : Int32))]) (rest := [(.ref a)]) (rmCod l Z a0 (own_hw H) h1 n0 a3 kA4 (nar .byte (c.toInt8.toInt32)) (nar .byte (d.toInt8.toInt32)) f8) (w1 := 107) (w2 := 108) (w3 := 102) (w4 := 109) rfl rfl rfl rfl own_pd6 rfl 1 (by decide) rfl (by decide) (Nat.le_of_eq rfl) (by decide) (by decide) (by decide) rfl d2_45 ?_
  rintro _ _ ⟨rfl, rfl⟩
  show own_G _ _ _ _ _ _ _ _ 48 #[.val (.ref a), .val (.ref t), .val (.int (0 : Int32)), .val (.int (2 : Int32)), .val .null, .val (.ref a3)] [(.int (0 : Int32)), (.ref a)]
  refine own_putfield H (w := 22) (wi := 2) rfl f14 f12 hA_a (Or.inr ⟨own_w H (i := 18) rfl, rfl, rfl⟩) rfl (ty := .byte) (by decide) rfl rfl d2_48 ?_
  intro h18 W19
  have f20 : Exa Z h18 a "java/lang/String" := f12.wr W19
  have f21 : Fld Z h18 a "java/lang/String" "value" "[B" .null := f13.other W19 (Or.inr (slot_ne (Or.inr (own_w H (i := 17) rfl)) (Or.inr (own_w H (i := 18) rfl)) (by decide) (t := (.array .byte)) (t' := .byte) (by decide) (by decide)))
  have f22 : Fld Z h18 a "java/lang/String" "coder" "B" (.int (0 : Int32)) := f14.same W19
  have f23 : Arv Z h18 t kA .char (2 : Int32) [(.int c), (.int d)] (.int 0) := f15.other W19 hne
  have f24 : n0 ≤ h18.size := by rw [W19.size]; exact f16
  have f25 : Keep h0 h18 [a] := f17.wr W19 (Or.inl (by simp))
  have f26 : Arv Z h18 a3 kA4 .byte (2 : Int32) [(.int (nar .byte (c.toInt8.toInt32))), (.int (nar .byte (d.toInt8.toInt32)))] (.int 0) := f8.other W19 f9.symm
  refine own_aload_n H rfl rfl d2_51 ?_
  refine own_aload H rfl rfl d2_52 ?_
  refine own_putfield H (w := 21) (wi := 2) rfl f21 f20 hA_a (Or.inr ⟨own_w H (i := 17) rfl, rfl, rfl⟩) rfl (ty := (.array .byte)) (by decide) rfl rfl d2_54 ?_
  intro h27 W28
  have f29 : Exa Z h27 a "java/lang/String" := f20.wr W28
  have f30 : Fld Z h27 a "java/lang/String" "value" "[B" (.ref a3) := f21.same W28
  have f31 : Fld Z h27 a "java/lang/String" "coder" "B" (.int (0 : Int32)) := f22.other W28 (Or.inr (slot_ne (Or.inr (own_w H (i := 18) rfl)) (Or.inr (own_w H (i := 17) rfl)) (by decide) (t := .byte) (t' := (.array .byte)) (by decide) (by decide)))
  have f32 : Arv Z h27 t kA .char (2 : Int32) [(.int c), (.int d)] (.int 0) := f23.other W28 hne
  have f33 : n0 ≤ h27.size := by rw [W28.size]; exact f24
  have f34 : Keep h0 h27 [a] := f25.wr W28 (Or.inl (by simp))
  have f35 : Arv Z h27 a3 kA4 .byte (2 : Int32) [(.int (nar .byte (c.toInt8.toInt32))), (.int (nar .byte (d.toInt8.toInt32)))] (.int 0) := f26.other W28 f9.symm
  exact own_return H d2_57 (by decide) (by decide) ⟨rfl, f34⟩
theorem d1_0 : decode jdk_42_method_3_code 0 = .ok (.aload_n 0, 1) := by decide +kernel
theorem d1_1 : decode jdk_42_method_3_code 1 = .ok (.aload_n 1, 1) := by decide +kernel
theorem d1_2 : decode jdk_42_method_3_code 2 = .ok (.iconst 0, 1) := by decide +kernel
theorem d1_3 : decode jdk_42_method_3_code 3 = .ok (.aload_n 1, 1) := by decide +kernel
theorem d1_4 : decode jdk_42_method_3_code 4 = .ok (.arraylength, 1) := by decide +kernel
theorem d1_5 : decode jdk_42_method_3_code 5 = .ok (.aconst_null, 1) := by decide +kernel
theorem d1_6 : decode jdk_42_method_3_code 6 = .ok (.invokespecial 27, 3) := by decide +kernel
theorem d1_9 : decode jdk_42_method_3_code 9 = .ok (.return_, 1) := by decide +kernel
theorem own_pl1 : plainFor (⟨"java/lang/String", "<init>", "([C)V"⟩ : MethodName) = true := plainFor_of_name (by first | (simp [plainName, overriddenIn]; done) | decide +kernel)
theorem own_pd8 : parseMethodDescriptor "([C)V" = some ⟨[(.array .char)], none⟩ := by decide +kernel
set_option maxHeartbeats 4000000 in
theorem rmIn1 (l : Launch) (Z : State) (a0 : Array Value) (hw : ∀ (i : Nat) (d : Jvm.Cond), tables_1[i]? = some d → d.before a0 Z = true) (h0 : Heap) (n0 : Nat) (a : Addr) (t : Addr) (c : Int32) (d : Int32) (kA : ClassId) (cs : Int32) (hZ0 : n0 ≤ h0.size) (hE : Exa Z h0 a "java/lang/String") (hF1 : Fld Z h0 a "java/lang/String" "value" "[B" .null) (hF2 : Fld Z h0 a "java/lang/String" "coder" "B" (.int (0 : Int32))) (hV : Arv Z h0 t kA .char (2 : Int32) [(.int c), (.int d)] (.int 0)) (hne : t ≠ a) (hS : Sta Z h0 "java/lang/String" "COMPACT_STRINGS" "Z" (.int cs)) (hc : ¬ (255 : Int32) < c) (hd : ¬ (255 : Int32) < d) (hcs : ¬ cs = 0) (hA_a : n0 ≤ a) :
    own_C l Z (⟨"java/lang/String", "<init>", "([C)V"⟩ : MethodName) jdk_42_method_3_code 2 none ({ frames := 3, cells := 1, slots := 2, locals := 52 } : Room) #[(.ref a), (.ref t)] h0 n0 (fun v h' => v = none ∧ Keep h0 h' [a]) := by
  refine own_met (Ls := #[.val (.ref a), .val (.ref t)]) hw own_pl1 (fun m => by first | (simp [entryFrame, mkF, argsToLocals, Value.category]; done) | rfl) ?_
  intro B H
  have hK : Keep h0 h0 [a] := Keep.refl _ _
  refine own_aload_n H rfl rfl d1_0 ?_
  refine own_aload_n H rfl rfl d1_1 ?_
  refine own_iconst H (0 : Int32) (by decide) d1_2 ?_
  refine own_aload_n H rfl rfl d1_3 ?_
  refine own_arraylengthV H hV d1_4 ?_
  refine own_aconst_null H d1_5 ?_
  refine own_invokespecial H (a := a) (argsL := [(.ref t), (.int (0 : Int32)), (.int (2 : Int32)), .null]) (rest := []) (rmIn4 l Z a0 (own_hw H) h0 n0 a t c d kA cs hZ0 hE hF1 hF2 hV hne hS hc hd hcs hA_a) rfl (w1 := 8) (w2 := 9) (w3 := 3) (w4 := 11) rfl rfl rfl rfl own_pd7 rfl 0 (by decide) rfl (by decide) (Nat.le_of_eq rfl) (by decide) (by decide) (by decide) rfl d1_6 ?_
  rintro _ h1 ⟨rfl, K2⟩
  have f3 : Exa Z h1 a "java/lang/String" := hE.keep K2
  have f4 : Arv Z h1 t kA .char (2 : Int32) [(.int c), (.int d)] (.int 0) := hV.keep K2 (ninS hne nin0)
  have f5 : n0 ≤ h1.size := Nat.le_trans hZ0 K2.1
  have f6 : Keep h0 h1 [a] := hK.trans K2 (allS (Or.inl (by simp)) all0)
  show own_G _ _ _ _ _ _ _ _ 9 #[.val (.ref a), .val (.ref t)] []
  exact own_return H d1_9 (by decide) (by decide) ⟨rfl, f6⟩
set_option maxHeartbeats 4000000 in
theorem rmIe4 (l : Launch) (Z : State) (a0 : Array Value) (hw : ∀ (i : Nat) (d : Jvm.Cond), tables_1[i]? = some d → d.before a0 Z = true) (h0 : Heap) (n0 : Nat) (a : Addr) (t : Addr) (hZ0 : n0 ≤ h0.size) (hE : Exa Z h0 a "java/lang/String") (hF1 : Fld Z h0 a "java/lang/String" "value" "[B" .null) (hF2 : Fld Z h0 a "java/lang/String" "coder" "B" (.int (0 : Int32))) (hkp : ∀ (b : Addr) (cl : Cell), Z.heap[b]? = some cl → h0[b]? = some cl) (hh : Jvm.Lit.constHeld Z "java/lang/String" 7) (hcw : Jvm.Lit.compactW.before a0 Z = true) (hA_a : n0 ≤ a) :
    own_CI l Z (⟨"java/lang/String", "<init>", "([CIILjava/lang/Void;)V"⟩ : MethodName) jdk_42_method_149_code 6 none ({ frames := 1, cells := 2, slots := 4, locals := 12 } : Room) #[(.ref a), (.ref t), (.int (0 : Int32)), (.int (0 : Int32)), .null] h0 n0 (fun v h' => v = none ∧ Keep h0 h' [a]) := by
  refine own_metI (Ls := #[.val (.ref a), .val (.ref t), .val (.int (0 : Int32)), .val (.int (0 : Int32)), .val .null, .unset]) hw own_pl2 (fun m => by first | (simp [entryFrame, mkF, argsToLocals, Value.category]; done) | rfl) ?_
  intro B H D I
  have hK : Keep h0 h0 [a] := Keep.refl _ _
  refine own_ldcEmpty H D I hkp (w := 15) (w1 := 12) (w2 := 13) (w3 := 14) hh hcw (own_atoms H (f := fun i => [3, 2, 16, 17, 18, 19, 20].getD i.val 0) rfl rfl rfl rfl rfl rfl rfl) rfl rfl rfl rfl (a := a) rfl (by decide) (by decide) rfl rfl (by decide) (by decide) d2_0 d2_1 d2_4 d2_5 d2_8 d2_9 ?_
  intro B r b h1 H D Lt Ex Er FC FV
  have f1 : Exa Z h1 a "java/lang/String" := hE.ext Ex
  have f2 : Fld Z h1 a "java/lang/String" "value" "[B" .null := hF1.ext Ex
  have f3 : Fld Z h1 a "java/lang/String" "coder" "B" (.int (0 : Int32)) := hF2.ext Ex
  have f4 : n0 ≤ h1.size := Nat.le_trans hZ0 Ex.1
  have f5 : Keep h0 h1 [a] := hK.ext Ex
  show own_G _ _ _ _ _ _ _ _ 11 #[.val (.ref a), .val (.ref t), .val (.int (0 : Int32)), .val (.int (0 : Int32)), .val .null, .unset] [(.ref r), (.ref a)]
  refine own_getfield H (w := 21) rfl FV d2_11 ?_
  refine own_putfield H (w := 21) (wi := 2) rfl f2 f1 hA_a (Or.inr ⟨own_w H (i := 17) rfl, rfl, rfl⟩) rfl (ty := (.array .byte)) (by decide) rfl rfl d2_14 ?_
  intro h6 W7
  have f8 : Exa Z h6 a "java/lang/String" := f1.wr W7
  have f9 : Fld Z h6 a "java/lang/String" "value" "[B" (.ref b) := f2.same W7
  have f10 : Fld Z h6 a "java/lang/String" "coder" "B" (.int (0 : Int32)) := f3.other W7 (Or.inr (slot_ne (Or.inr (own_w H (i := 18) rfl)) (Or.inr (own_w H (i := 17) rfl)) (by decide) (t := .byte) (t' := (.array .byte)) (by decide) (by decide)))
  have f11 : n0 ≤ h6.size := by rw [W7.size]; exact f4
  have f12 : Keep h0 h6 [a] := f5.wr W7 (Or.inl (by simp))
  have f13 : Exa Z h6 r "java/lang/String" := Er.wr W7
  have f14 : Fld Z h6 r "java/lang/String" "coder" "B" (.int (0 : Int32)) := FC.other W7 (Or.inr (slot_ne (Or.inr (own_w H (i := 18) rfl)) (Or.inr (own_w H (i := 17) rfl)) (by decide) (t := .byte) (t' := (.array .byte)) (by decide) (by decide)))
  refine own_aload_n H rfl rfl d2_17 ?_
  refine own_ldcAgain H D Lt (w := 15) rfl d2_18 ?_
  refine own_getfield H (w := 22) rfl f14 d2_20 ?_
  refine own_putfield H (w := 22) (wi := 2) rfl f10 f8 hA_a (Or.inr ⟨own_w H (i := 18) rfl, rfl, rfl⟩) rfl (ty := .byte) (by decide) rfl rfl d2_23 ?_
  intro h15 W16
  have f17 : Exa Z h15 a "java/lang/String" := f8.wr W16
  have f18 : Fld Z h15 a "java/lang/String" "value" "[B" (.ref b) := f9.other W16 (Or.inr (slot_ne (Or.inr (own_w H (i := 17) rfl)) (Or.inr (own_w H (i := 18) rfl)) (by decide) (t := (.array .byte)) (t' := .byte) (by decide) (by decide)))
  have f19 : Fld Z h15 a "java/lang/String" "coder" "B" (.int (0 : Int32)) := f10.same W16
  have f20 : n0 ≤ h15.size := by rw [W16.size]; exact f11
  have f21 : Keep h0 h15 [a] := f12.wr W16 (Or.inl (by simp))
  have f22 : Exa Z h15 r "java/lang/String" := f13.wr W16
  exact own_return H d2_26 (by decide) (by decide) ⟨rfl, f21⟩
set_option maxHeartbeats 4000000 in
theorem rmIe1 (l : Launch) (Z : State) (a0 : Array Value) (hw : ∀ (i : Nat) (d : Jvm.Cond), tables_1[i]? = some d → d.before a0 Z = true) (h0 : Heap) (n0 : Nat) (a : Addr) (t : Addr) (kA : ClassId) (hZ0 : n0 ≤ h0.size) (hE : Exa Z h0 a "java/lang/String") (hF1 : Fld Z h0 a "java/lang/String" "value" "[B" .null) (hF2 : Fld Z h0 a "java/lang/String" "coder" "B" (.int (0 : Int32))) (hV : Arv Z h0 t kA .char (0 : Int32) [] (.int 0)) (hne : t ≠ a) (hkp : ∀ (b : Addr) (cl : Cell), Z.heap[b]? = some cl → h0[b]? = some cl) (hh : Jvm.Lit.constHeld Z "java/lang/String" 7) (hcw : Jvm.Lit.compactW.before a0 Z = true) (hA_a : n0 ≤ a) :
    own_CI l Z (⟨"java/lang/String", "<init>", "([C)V"⟩ : MethodName) jdk_42_method_3_code 2 none ({ frames := 2, cells := 2, slots := 4, locals := 29 } : Room) #[(.ref a), (.ref t)] h0 n0 (fun v h' => v = none ∧ Keep h0 h' [a]) := by
  refine own_metI (Ls := #[.val (.ref a), .val (.ref t)]) hw own_pl1 (fun m => by first | (simp [entryFrame, mkF, argsToLocals, Value.category]; done) | rfl) ?_
  intro B H D I
  have hK : Keep h0 h0 [a] := Keep.refl _ _
  refine own_GE_of ?_
  refine own_aload_n H rfl rfl d1_0 ?_
  refine own_aload_n H rfl rfl d1_1 ?_
  refine own_iconst H (0 : Int32) (by decide) d1_2 ?_
  refine own_aload_n H rfl rfl d1_3 ?_
  refine own_arraylengthV H hV d1_4 ?_
  refine own_aconst_null H d1_5 ?_
  refine own_invokespecialI H D I (a := a) (argsL := [(.ref t), (.int (0 : Int32)), (.int (0 : Int32)), .null]) (rest := []) (rmIe4 l Z a0 (own_hw H) h0 n0 a t hZ0 hE hF1 hF2 hkp hh hcw hA_a) rfl (w1 := 8) (w2 := 9) (w3 := 3) (w4 := 11) rfl rfl rfl rfl own_pd7 rfl 0 (by decide) rfl (by decide) (Nat.le_of_eq rfl) (by decide) (by decide) (by decide) rfl d1_6 ?_
  intro B _ h1 H D hq
  obtain ⟨rfl, K2⟩ := hq
  have f3 : Exa Z h1 a "java/lang/String" := hE.keep K2
  have f4 : Arv Z h1 t kA .char (0 : Int32) [] (.int 0) := hV.keep K2 (ninS hne nin0)
  have f5 : n0 ≤ h1.size := Nat.le_trans hZ0 K2.1
  have f6 : Keep h0 h1 [a] := hK.trans K2 (allS (Or.inl (by simp)) all0)
  show own_G _ _ _ _ _ _ _ _ 9 #[.val (.ref a), .val (.ref t)] []
  exact own_return H d1_9 (by decide) (by decide) ⟨rfl, f6⟩
theorem d5_0 : decode prog_13_method_1_code 0 = .ok (.aload_n 0, 1) := by decide +kernel
theorem d5_1 : decode prog_13_method_1_code 1 = .ok (.invokespecial 1, 3) := by decide +kernel
theorem d5_4 : decode prog_13_method_1_code 4 = .ok (.aload_n 0, 1) := by decide +kernel
theorem d5_5 : decode prog_13_method_1_code 5 = .ok (.aload_n 1, 1) := by decide +kernel
theorem d5_6 : decode prog_13_method_1_code 6 = .ok (.putfield 7, 3) := by decide +kernel
theorem d5_9 : decode prog_13_method_1_code 9 = .ok (.aload_n 0, 1) := by decide +kernel
theorem d5_10 : decode prog_13_method_1_code 10 = .ok (.aload_n 2, 1) := by decide +kernel
theorem d5_11 : decode prog_13_method_1_code 11 = .ok (.putfield 13, 3) := by decide +kernel
theorem d5_14 : decode prog_13_method_1_code 14 = .ok (.aload_n 0, 1) := by decide +kernel
theorem d5_15 : decode prog_13_method_1_code 15 = .ok (.lload_n 3, 1) := by decide +kernel
theorem d5_16 : decode prog_13_method_1_code 16 = .ok (.putfield 17, 3) := by decide +kernel
theorem d5_19 : decode prog_13_method_1_code 19 = .ok (.aload_n 0, 1) := by decide +kernel
theorem d5_20 : decode prog_13_method_1_code 20 = .ok (.iload 5, 2) := by decide +kernel
theorem d5_22 : decode prog_13_method_1_code 22 = .ok (.putfield 21, 3) := by decide +kernel
theorem d5_25 : decode prog_13_method_1_code 25 = .ok (.aload_n 0, 1) := by decide +kernel
theorem d5_26 : decode prog_13_method_1_code 26 = .ok (.lload 6, 2) := by decide +kernel
theorem d5_28 : decode prog_13_method_1_code 28 = .ok (.putfield 25, 3) := by decide +kernel
theorem d5_31 : decode prog_13_method_1_code 31 = .ok (.aload_n 0, 1) := by decide +kernel
theorem d5_32 : decode prog_13_method_1_code 32 = .ok (.aload 8, 2) := by decide +kernel
theorem d5_34 : decode prog_13_method_1_code 34 = .ok (.putfield 28, 3) := by decide +kernel
theorem d5_37 : decode prog_13_method_1_code 37 = .ok (.return_, 1) := by decide +kernel
theorem own_pl5 : plainFor (⟨"com/example/ring_to_run/ringtorun/service/Callback", "<init>", "(Ljava/lang/String;[BJIJLjava/lang/String;)V"⟩ : MethodName) = true := plainFor_of_name (by first | (simp [plainName, overriddenIn]; done) | decide +kernel)
theorem own_pd9 : parseMethodDescriptor "(Ljava/lang/String;[BJIJLjava/lang/String;)V" = some ⟨[(.object "java/lang/String"), (.array .byte), .long, .int, .long, (.object "java/lang/String")], none⟩ := by decide +kernel
set_option maxHeartbeats 4000000 in
theorem rmCb (l : Launch) (Z : State) (a0 : Array Value) (hw : ∀ (i : Nat) (d : Jvm.Cond), tables_1[i]? = some d → d.before a0 Z = true) (h0 : Heap) (n0 : Nat) (a : Addr) (u : Addr) (b : Addr) (q : Int64) (n : Int32) (e : Int64) (hZ0 : n0 ≤ h0.size) (hE : Exa Z h0 a "com/example/ring_to_run/ringtorun/service/Callback") (hF0 : Fld Z h0 a "com/example/ring_to_run/ringtorun/service/Callback" "url" "Ljava/lang/String;" .null) (hF1 : Fld Z h0 a "com/example/ring_to_run/ringtorun/service/Callback" "payloadJson" "[B" .null) (hF2 : Fld Z h0 a "com/example/ring_to_run/ringtorun/service/Callback" "sequence" "J" (.long (0 : Int64))) (hF3 : Fld Z h0 a "com/example/ring_to_run/ringtorun/service/Callback" "attempts" "I" (.int (0 : Int32))) (hF4 : Fld Z h0 a "com/example/ring_to_run/ringtorun/service/Callback" "dueAt" "J" (.long (0 : Int64))) (hF5 : Fld Z h0 a "com/example/ring_to_run/ringtorun/service/Callback" "lastError" "Ljava/lang/String;" .null) (hA_a : n0 ≤ a) :
    own_C l Z (⟨"com/example/ring_to_run/ringtorun/service/Callback", "<init>", "(Ljava/lang/String;[BJIJLjava/lang/String;)V"⟩ : MethodName) prog_13_method_1_code 9 none ({ frames := 1, cells := 0, slots := 0, locals := 12 } : Room) #[(.ref a), (.ref u), (.ref b), (.long q), (.int n), (.long e), .null] h0 n0 (fun v h' => v = none ∧ Keep h0 h' [a] ∧ Fld Z h' a "com/example/ring_to_run/ringtorun/service/Callback" "url" "Ljava/lang/String;" (.ref u) ∧ Fld Z h' a "com/example/ring_to_run/ringtorun/service/Callback" "payloadJson" "[B" (.ref b) ∧ Fld Z h' a "com/example/ring_to_run/ringtorun/service/Callback" "sequence" "J" (.long q) ∧ Fld Z h' a "com/example/ring_to_run/ringtorun/service/Callback" "attempts" "I" (.int n) ∧ Fld Z h' a "com/example/ring_to_run/ringtorun/service/Callback" "dueAt" "J" (.long e) ∧ Fld Z h' a "com/example/ring_to_run/ringtorun/service/Callback" "lastError" "Ljava/lang/String;" .null) := by
  refine own_met (Ls := #[.val (.ref a), .val (.ref u), .val (.ref b), .val (.long q), .second, .val (.int n), .val (.long e), .second, .val .null]) hw own_pl5 (fun m => by first | (simp [entryFrame, mkF, argsToLocals, Value.category]; done) | rfl) ?_
  intro B H
  have hK : Keep h0 h0 [a] := Keep.refl _ _
  refine own_aload_n H rfl rfl d5_0 ?_
  refine own_initObject H (w1 := 32) (w2 := 13) (w3 := 14) rfl rfl rfl 0 rfl (by decide) (Nat.le_of_eq rfl) (by decide) d5_1 ?_
  refine own_aload_n H rfl rfl d5_4 ?_
  refine own_aload_n H rfl rfl d5_5 ?_
  refine own_putfield H (w := 33) (wi := 28) rfl hF0 hE hA_a (Or.inr ⟨own_w H (i := 34) rfl, rfl, rfl⟩) rfl (ty := (.object "java/lang/String")) (by decide) rfl rfl d5_6 ?_
  intro h1 W2
  have f3 : Exa Z h1 a "com/example/ring_to_run/ringtorun/service/Callback" := hE.wr W2
  have f4 : Fld Z h1 a "com/example/ring_to_run/ringtorun/service/Callback" "url" "Ljava/lang/String;" (.ref u) := hF0.same W2
  have f5 : Fld Z h1 a "com/example/ring_to_run/ringtorun/service/Callback" "payloadJson" "[B" .null := hF1.other W2 (Or.inr (slot_ne (Or.inr (own_w H (i := 36) rfl)) (Or.inr (own_w H (i := 34) rfl)) (by decide) (t := (.array .byte)) (t' := (.object "java/lang/String")) (by decide) (by decide)))
  have f6 : Fld Z h1 a "com/example/ring_to_run/ringtorun/service/Callback" "sequence" "J" (.long (0 : Int64)) := hF2.other W2 (Or.inr (slot_ne (Or.inr (own_w H (i := 38) rfl)) (Or.inr (own_w H (i := 34) rfl)) (by decide) (t := .long) (t' := (.object "java/lang/String")) (by decide) (by decide)))
  have f7 : Fld Z h1 a "com/example/ring_to_run/ringtorun/service/Callback" "attempts" "I" (.int (0 : Int32)) := hF3.other W2 (Or.inr (slot_ne (Or.inr (own_w H (i := 40) rfl)) (Or.inr (own_w H (i := 34) rfl)) (by decide) (t := .int) (t' := (.object "java/lang/String")) (by decide) (by decide)))
  have f8 : Fld Z h1 a "com/example/ring_to_run/ringtorun/service/Callback" "dueAt" "J" (.long (0 : Int64)) := hF4.other W2 (Or.inr (slot_ne (Or.inr (own_w H (i := 42) rfl)) (Or.inr (own_w H (i := 34) rfl)) (by decide) (t := .long) (t' := (.object "java/lang/String")) (by decide) (by decide)))
  have f9 : Fld Z h1 a "com/example/ring_to_run/ringtorun/service/Callback" "lastError" "Ljava/lang/String;" .null := hF5.other W2 (Or.inr (slot_ne (Or.inr (own_w H (i := 44) rfl)) (Or.inr (own_w H (i := 34) rfl)) (by decide) (t := (.object "java/lang/String")) (t' := (.object "java/lang/String")) (by decide) (by decide)))
  have f10 : n0 ≤ h1.size := by rw [W2.size]; exact hZ0
  have f11 : Keep h0 h1 [a] := hK.wr W2 (Or.inl (by simp))
  refine own_aload_n H rfl rfl d5_9 ?_
  refine own_aload_n H rfl rfl d5_10 ?_
  refine own_putfield H (w := 35) (wi := 28) rfl f5 f3 hA_a (Or.inr ⟨own_w H (i := 36) rfl, rfl, rfl⟩) rfl (ty := (.array .byte)) (by decide) rfl rfl d5_11 ?_
  intro h12 W13
  have f14 : Exa Z h12 a "com/example/ring_to_run/ringtorun/service/Callback" := f3.wr W13
  have f15 : Fld Z h12 a "com/example/ring_to_run/ringtorun/service/Callback" "url" "Ljava/lang/String;" (.ref u) := f4.other W13 (Or.inr (slot_ne (Or.inr (own_w H (i := 34) rfl)) (Or.inr (own_w H (i := 36) rfl)) (by decide) (t := (.object "java/lang/String")) (t' := (.array .byte)) (by decide) (by decide)))
  have f16 : Fld Z h12 a "com/example/ring_to_run/ringtorun/service/Callback" "payloadJson" "[B" (.ref b) := f5.same W13
  have f17 : Fld Z h12 a "com/example/ring_to_run/ringtorun/service/Callback" "sequence" "J" (.long (0 : Int64)) := f6.other W13 (Or.inr (slot_ne (Or.inr (own_w H (i := 38) rfl)) (Or.inr (own_w H (i := 36) rfl)) (by decide) (t := .long) (t' := (.array .byte)) (by decide) (by decide)))
  have f18 : Fld Z h12 a "com/example/ring_to_run/ringtorun/service/Callback" "attempts" "I" (.int (0 : Int32)) := f7.other W13 (Or.inr (slot_ne (Or.inr (own_w H (i := 40) rfl)) (Or.inr (own_w H (i := 36) rfl)) (by decide) (t := .int) (t' := (.array .byte)) (by decide) (by decide)))
  have f19 : Fld Z h12 a "com/example/ring_to_run/ringtorun/service/Callback" "dueAt" "J" (.long (0 : Int64)) := f8.other W13 (Or.inr (slot_ne (Or.inr (own_w H (i := 42) rfl)) (Or.inr (own_w H (i := 36) rfl)) (by decide) (t := .long) (t' := (.array .byte)) (by decide) (by decide)))
  have f20 : Fld Z h12 a "com/example/ring_to_run/ringtorun/service/Callback" "lastError" "Ljava/lang/String;" .null := f9.other W13 (Or.inr (slot_ne (Or.inr (own_w H (i := 44) rfl)) (Or.inr (own_w H (i := 36) rfl)) (by decide) (t := (.object "java/lang/String")) (t' := (.array .byte)) (by decide) (by decide)))
  have f21 : n0 ≤ h12.size := by rw [W13.size]; exact f10
  have f22 : Keep h0 h12 [a] := f11.wr W13 (Or.inl (by simp))
  refine own_aload_n H rfl rfl d5_14 ?_
  refine own_lload_n H rfl d5_15 ?_
  refine own_putfield H (w := 37) (wi := 28) rfl f17 f14 hA_a (Or.inr ⟨own_w H (i := 38) rfl, rfl, rfl⟩) rfl (ty := .long) (by decide) rfl rfl d5_16 ?_
  intro h23 W24
  have f25 : Exa Z h23 a "com/example/ring_to_run/ringtorun/service/Callback" := f14.wr W24
  have f26 : Fld Z h23 a "com/example/ring_to_run/ringtorun/service/Callback" "url" "Ljava/lang/String;" (.ref u) := f15.other W24 (Or.inr (slot_ne (Or.inr (own_w H (i := 34) rfl)) (Or.inr (own_w H (i := 38) rfl)) (by decide) (t := (.object "java/lang/String")) (t' := .long) (by decide) (by decide)))
  have f27 : Fld Z h23 a "com/example/ring_to_run/ringtorun/service/Callback" "payloadJson" "[B" (.ref b) := f16.other W24 (Or.inr (slot_ne (Or.inr (own_w H (i := 36) rfl)) (Or.inr (own_w H (i := 38) rfl)) (by decide) (t := (.array .byte)) (t' := .long) (by decide) (by decide)))
  have f28 : Fld Z h23 a "com/example/ring_to_run/ringtorun/service/Callback" "sequence" "J" (.long q) := f17.same W24
  have f29 : Fld Z h23 a "com/example/ring_to_run/ringtorun/service/Callback" "attempts" "I" (.int (0 : Int32)) := f18.other W24 (Or.inr (slot_ne (Or.inr (own_w H (i := 40) rfl)) (Or.inr (own_w H (i := 38) rfl)) (by decide) (t := .int) (t' := .long) (by decide) (by decide)))
  have f30 : Fld Z h23 a "com/example/ring_to_run/ringtorun/service/Callback" "dueAt" "J" (.long (0 : Int64)) := f19.other W24 (Or.inr (slot_ne (Or.inr (own_w H (i := 42) rfl)) (Or.inr (own_w H (i := 38) rfl)) (by decide) (t := .long) (t' := .long) (by decide) (by decide)))
  have f31 : Fld Z h23 a "com/example/ring_to_run/ringtorun/service/Callback" "lastError" "Ljava/lang/String;" .null := f20.other W24 (Or.inr (slot_ne (Or.inr (own_w H (i := 44) rfl)) (Or.inr (own_w H (i := 38) rfl)) (by decide) (t := (.object "java/lang/String")) (t' := .long) (by decide) (by decide)))
  have f32 : n0 ≤ h23.size := by rw [W24.size]; exact f21
  have f33 : Keep h0 h23 [a] := f22.wr W24 (Or.inl (by simp))
  refine own_aload_n H rfl rfl d5_19 ?_
  refine own_iload H rfl d5_20 ?_
  refine own_putfield H (w := 39) (wi := 28) rfl f29 f25 hA_a (Or.inr ⟨own_w H (i := 40) rfl, rfl, rfl⟩) rfl (ty := .int) (by decide) rfl rfl d5_22 ?_
  intro h34 W35
  have f36 : Exa Z h34 a "com/example/ring_to_run/ringtorun/service/Callback" := f25.wr W35
  have f37 : Fld Z h34 a "com/example/ring_to_run/ringtorun/service/Callback" "url" "Ljava/lang/String;" (.ref u) := f26.other W35 (Or.inr (slot_ne (Or.inr (own_w H (i := 34) rfl)) (Or.inr (own_w H (i := 40) rfl)) (by decide) (t := (.object "java/lang/String")) (t' := .int) (by decide) (by decide)))
  have f38 : Fld Z h34 a "com/example/ring_to_run/ringtorun/service/Callback" "payloadJson" "[B" (.ref b) := f27.other W35 (Or.inr (slot_ne (Or.inr (own_w H (i := 36) rfl)) (Or.inr (own_w H (i := 40) rfl)) (by decide) (t := (.array .byte)) (t' := .int) (by decide) (by decide)))
  have f39 : Fld Z h34 a "com/example/ring_to_run/ringtorun/service/Callback" "sequence" "J" (.long q) := f28.other W35 (Or.inr (slot_ne (Or.inr (own_w H (i := 38) rfl)) (Or.inr (own_w H (i := 40) rfl)) (by decide) (t := .long) (t' := .int) (by decide) (by decide)))
  have f40 : Fld Z h34 a "com/example/ring_to_run/ringtorun/service/Callback" "attempts" "I" (.int n) := f29.same W35
  have f41 : Fld Z h34 a "com/example/ring_to_run/ringtorun/service/Callback" "dueAt" "J" (.long (0 : Int64)) := f30.other W35 (Or.inr (slot_ne (Or.inr (own_w H (i := 42) rfl)) (Or.inr (own_w H (i := 40) rfl)) (by decide) (t := .long) (t' := .int) (by decide) (by decide)))
  have f42 : Fld Z h34 a "com/example/ring_to_run/ringtorun/service/Callback" "lastError" "Ljava/lang/String;" .null := f31.other W35 (Or.inr (slot_ne (Or.inr (own_w H (i := 44) rfl)) (Or.inr (own_w H (i := 40) rfl)) (by decide) (t := (.object "java/lang/String")) (t' := .int) (by decide) (by decide)))
  have f43 : n0 ≤ h34.size := by rw [W35.size]; exact f32
  have f44 : Keep h0 h34 [a] := f33.wr W35 (Or.inl (by simp))
  refine own_aload_n H rfl rfl d5_25 ?_
  refine own_lload H rfl d5_26 ?_
  refine own_putfield H (w := 41) (wi := 28) rfl f41 f36 hA_a (Or.inr ⟨own_w H (i := 42) rfl, rfl, rfl⟩) rfl (ty := .long) (by decide) rfl rfl d5_28 ?_
  intro h45 W46
  have f47 : Exa Z h45 a "com/example/ring_to_run/ringtorun/service/Callback" := f36.wr W46
  have f48 : Fld Z h45 a "com/example/ring_to_run/ringtorun/service/Callback" "url" "Ljava/lang/String;" (.ref u) := f37.other W46 (Or.inr (slot_ne (Or.inr (own_w H (i := 34) rfl)) (Or.inr (own_w H (i := 42) rfl)) (by decide) (t := (.object "java/lang/String")) (t' := .long) (by decide) (by decide)))
  have f49 : Fld Z h45 a "com/example/ring_to_run/ringtorun/service/Callback" "payloadJson" "[B" (.ref b) := f38.other W46 (Or.inr (slot_ne (Or.inr (own_w H (i := 36) rfl)) (Or.inr (own_w H (i := 42) rfl)) (by decide) (t := (.array .byte)) (t' := .long) (by decide) (by decide)))
  have f50 : Fld Z h45 a "com/example/ring_to_run/ringtorun/service/Callback" "sequence" "J" (.long q) := f39.other W46 (Or.inr (slot_ne (Or.inr (own_w H (i := 38) rfl)) (Or.inr (own_w H (i := 42) rfl)) (by decide) (t := .long) (t' := .long) (by decide) (by decide)))
  have f51 : Fld Z h45 a "com/example/ring_to_run/ringtorun/service/Callback" "attempts" "I" (.int n) := f40.other W46 (Or.inr (slot_ne (Or.inr (own_w H (i := 40) rfl)) (Or.inr (own_w H (i := 42) rfl)) (by decide) (t := .int) (t' := .long) (by decide) (by decide)))
  have f52 : Fld Z h45 a "com/example/ring_to_run/ringtorun/service/Callback" "dueAt" "J" (.long e) := f41.same W46
  have f53 : Fld Z h45 a "com/example/ring_to_run/ringtorun/service/Callback" "lastError" "Ljava/lang/String;" .null := f42.other W46 (Or.inr (slot_ne (Or.inr (own_w H (i := 44) rfl)) (Or.inr (own_w H (i := 42) rfl)) (by decide) (t := (.object "java/lang/String")) (t' := .long) (by decide) (by decide)))
  have f54 : n0 ≤ h45.size := by rw [W46.size]; exact f43
  have f55 : Keep h0 h45 [a] := f44.wr W46 (Or.inl (by simp))
  refine own_aload_n H rfl rfl d5_31 ?_
  refine own_aload H rfl rfl d5_32 ?_
  refine own_putfield H (w := 43) (wi := 28) rfl f53 f47 hA_a (Or.inr ⟨own_w H (i := 44) rfl, rfl, rfl⟩) rfl (ty := (.object "java/lang/String")) (by decide) rfl rfl d5_34 ?_
  intro h56 W57
  have f58 : Exa Z h56 a "com/example/ring_to_run/ringtorun/service/Callback" := f47.wr W57
  have f59 : Fld Z h56 a "com/example/ring_to_run/ringtorun/service/Callback" "url" "Ljava/lang/String;" (.ref u) := f48.other W57 (Or.inr (slot_ne (Or.inr (own_w H (i := 34) rfl)) (Or.inr (own_w H (i := 44) rfl)) (by decide) (t := (.object "java/lang/String")) (t' := (.object "java/lang/String")) (by decide) (by decide)))
  have f60 : Fld Z h56 a "com/example/ring_to_run/ringtorun/service/Callback" "payloadJson" "[B" (.ref b) := f49.other W57 (Or.inr (slot_ne (Or.inr (own_w H (i := 36) rfl)) (Or.inr (own_w H (i := 44) rfl)) (by decide) (t := (.array .byte)) (t' := (.object "java/lang/String")) (by decide) (by decide)))
  have f61 : Fld Z h56 a "com/example/ring_to_run/ringtorun/service/Callback" "sequence" "J" (.long q) := f50.other W57 (Or.inr (slot_ne (Or.inr (own_w H (i := 38) rfl)) (Or.inr (own_w H (i := 44) rfl)) (by decide) (t := .long) (t' := (.object "java/lang/String")) (by decide) (by decide)))
  have f62 : Fld Z h56 a "com/example/ring_to_run/ringtorun/service/Callback" "attempts" "I" (.int n) := f51.other W57 (Or.inr (slot_ne (Or.inr (own_w H (i := 40) rfl)) (Or.inr (own_w H (i := 44) rfl)) (by decide) (t := .int) (t' := (.object "java/lang/String")) (by decide) (by decide)))
  have f63 : Fld Z h56 a "com/example/ring_to_run/ringtorun/service/Callback" "dueAt" "J" (.long e) := f52.other W57 (Or.inr (slot_ne (Or.inr (own_w H (i := 42) rfl)) (Or.inr (own_w H (i := 44) rfl)) (by decide) (t := .long) (t' := (.object "java/lang/String")) (by decide) (by decide)))
  have f64 : Fld Z h56 a "com/example/ring_to_run/ringtorun/service/Callback" "lastError" "Ljava/lang/String;" .null := f53.same W57
  have f65 : n0 ≤ h56.size := by rw [W57.size]; exact f54
  have f66 : Keep h0 h56 [a] := f55.wr W57 (Or.inl (by simp))
  exact own_return H d5_37 (by decide) (by decide) ⟨rfl, f66, f59, f60, f61, f62, f63, f64⟩
theorem d4_0 : decode prog_13_method_2_code 0 = .ok (.new 8, 3) := by decide +kernel
theorem d4_3 : decode prog_13_method_2_code 3 = .ok (.dup, 1) := by decide +kernel
theorem d4_4 : decode prog_13_method_2_code 4 = .ok (.aload_n 0, 1) := by decide +kernel
theorem d4_5 : decode prog_13_method_2_code 5 = .ok (.aload_n 1, 1) := by decide +kernel
theorem d4_6 : decode prog_13_method_2_code 6 = .ok (.lload_n 2, 1) := by decide +kernel
theorem d4_7 : decode prog_13_method_2_code 7 = .ok (.iconst 0, 1) := by decide +kernel
theorem d4_8 : decode prog_13_method_2_code 8 = .ok (.lconst 0, 1) := by decide +kernel
theorem d4_9 : decode prog_13_method_2_code 9 = .ok (.aconst_null, 1) := by decide +kernel
theorem d4_10 : decode prog_13_method_2_code 10 = .ok (.invokespecial 31, 3) := by decide +kernel
theorem d4_13 : decode prog_13_method_2_code 13 = .ok (.areturn, 1) := by decide +kernel
theorem own_pl4 : plainFor (⟨"com/example/ring_to_run/ringtorun/service/Callback", "posted", "(Ljava/lang/String;[BJ)Lcom/example/ring_to_run/ringtorun/service/Callback;"⟩ : MethodName) = true := plainFor_of_name (by first | (simp [plainName, overriddenIn]; done) | decide +kernel)
theorem own_pd10 : parseMethodDescriptor "(Ljava/lang/String;[BJ)Lcom/example/ring_to_run/ringtorun/service/Callback;" = some ⟨[(.object "java/lang/String"), (.array .byte), .long], some (.object "com/example/ring_to_run/ringtorun/service/Callback")⟩ := by decide +kernel
set_option maxHeartbeats 4000000 in
theorem rmPst (l : Launch) (Z : State) (a0 : Array Value) (hw : ∀ (i : Nat) (d : Jvm.Cond), tables_1[i]? = some d → d.before a0 Z = true) (h0 : Heap) (n0 : Nat) (u : Addr) (b : Addr) (q : Int64) (hZ0 : n0 ≤ h0.size) :
    own_C l Z (⟨"com/example/ring_to_run/ringtorun/service/Callback", "posted", "(Ljava/lang/String;[BJ)Lcom/example/ring_to_run/ringtorun/service/Callback;"⟩ : MethodName) prog_13_method_2_code 4 (some (.object "com/example/ring_to_run/ringtorun/service/Callback")) ({ frames := 2, cells := 1, slots := 6, locals := 33 } : Room) #[(.ref u), (.ref b), (.long q)] h0 n0 (fun v h' => ∃ (a2 : Addr), v = some (.ref a2) ∧ Keep h0 h' [] ∧ n0 ≤ a2 ∧ h0.size ≤ a2 ∧ a2 < h'.size ∧ Exa Z h' a2 "com/example/ring_to_run/ringtorun/service/Callback" ∧ Fld Z h' a2 "com/example/ring_to_run/ringtorun/service/Callback" "url" "Ljava/lang/String;" (.ref u) ∧ Fld Z h' a2 "com/example/ring_to_run/ringtorun/service/Callback" "payloadJson" "[B" (.ref b) ∧ Fld Z h' a2 "com/example/ring_to_run/ringtorun/service/Callback" "sequence" "J" (.long q) ∧ Fld Z h' a2 "com/example/ring_to_run/ringtorun/service/Callback" "attempts" "I" (.int (0 : Int32)) ∧ Fld Z h' a2 "com/example/ring_to_run/ringtorun/service/Callback" "dueAt" "J" (.long (0 : Int64)) ∧ Fld Z h' a2 "com/example/ring_to_run/ringtorun/service/Callback" "lastError" "Ljava/lang/String;" .null) := by
  refine own_met (Ls := #[.val (.ref u), .val (.ref b), .val (.long q), .second]) hw own_pl4 (fun m => by first | (simp [entryFrame, mkF, argsToLocals, Value.category]; done) | rfl) ?_
  intro B H
  have hK : Keep h0 h0 [] := Keep.refl _ _
  refine own_new H (w := 27) (wi := 28) (wz := 25) rfl rfl rfl d4_0 (by decide) (by decide) ?_
  intro h1 a2 ha3 E4 X5 D6
  have f7 : n0 ≤ a2 := by rw [ha3]; exact hZ0
  have f8 : h0.size ≤ a2 := by rw [ha3]; exact hK.1
  have f9 : n0 ≤ h1.size := Nat.le_trans hZ0 E4.1
  have f10 : Keep h0 h1 [] := hK.ext E4
  have f11 : Fld Z h1 a2 "com/example/ring_to_run/ringtorun/service/Callback" "url" "Ljava/lang/String;" .null := D6 (Or.inr (own_w H (i := 34) rfl)) (ty := (.object "java/lang/String")) (by decide)
  have f12 : Fld Z h1 a2 "com/example/ring_to_run/ringtorun/service/Callback" "payloadJson" "[B" .null := D6 (Or.inr (own_w H (i := 36) rfl)) (ty := (.array .byte)) (by decide)
  have f13 : Fld Z h1 a2 "com/example/ring_to_run/ringtorun/service/Callback" "sequence" "J" (.long (0 : Int64)) := D6 (Or.inr (own_w H (i := 38) rfl)) (ty := .long) (by decide)
  have f14 : Fld Z h1 a2 "com/example/ring_to_run/ringtorun/service/Callback" "attempts" "I" (.int (0 : Int32)) := D6 (Or.inr (own_w H (i := 40) rfl)) (ty := .int) (by decide)
  have f15 : Fld Z h1 a2 "com/example/ring_to_run/ringtorun/service/Callback" "dueAt" "J" (.long (0 : Int64)) := D6 (Or.inr (own_w H (i := 42) rfl)) (ty := .long) (by decide)
  have f16 : Fld Z h1 a2 "com/example/ring_to_run/ringtorun/service/Callback" "lastError" "Ljava/lang/String;" .null := D6 (Or.inr (own_w H (i := 44) rfl)) (ty := (.object "java/lang/String")) (by decide)
  show own_G _ _ _ _ _ _ _ _ 3 #[.val (.ref u), .val (.ref b), .val (.long q), .second] [(.ref a2)]
  refine own_dup H rfl d4_3 ?_
  refine own_aload_n H rfl rfl d4_4 ?_
  refine own_aload_n H rfl rfl d4_5 ?_
  refine own_lload_n H rfl d4_6 ?_
  refine own_iconst H (0 : Int32) (by decide) d4_7 ?_
  refine own_lconst H (0 : Int64) (by decide) d4_8 ?_
  refine own_aconst_null H d4_9 ?_
  refine own_invokespecial H (a := a2) (argsL := [(.ref u), (.ref b), (.long q), (.int (0 : Int32)), (.long (0 : Int64)), .null]) (rest := [(.ref a2)]) (rmCb l Z a0 (own_hw H) h1 n0 a2 u b q (0 : Int32) (0 : Int64) f9 X5 f11 f12 f13 f14 f15 f16 f7) rfl (w1 := 29) (w2 := 30) (w3 := 25) (w4 := 31) rfl rfl rfl rfl own_pd9 rfl 1 (by decide) rfl (by decide) (Nat.le_of_eq rfl) (by decide) (by decide) (by decide) rfl d4_10 ?_
  rintro _ h17 ⟨rfl, K18, f19, f20, f21, f22, f23, f24⟩
  have f25 : n0 ≤ h17.size := Nat.le_trans f9 K18.1
  have f26 : Keep h0 h17 [] := f10.trans K18 (allS (Or.inr f8) all0)
  have f27 : Exa Z h17 a2 "com/example/ring_to_run/ringtorun/service/Callback" := X5.keep K18
  show own_G _ _ _ _ _ _ _ _ 13 #[.val (.ref u), .val (.ref b), .val (.long q), .second] [(.ref a2)]
  exact own_areturn H rfl rfl rfl d4_13 (by decide) (by decide) ⟨a2, rfl, f26, f7, f8, f27.lt, f27, f19, f20, f21, f22, f23, f24⟩
theorem d12_0 : decode prog_13_method_7_code 0 = .ok (.new 8, 3) := by decide +kernel
theorem d12_3 : decode prog_13_method_7_code 3 = .ok (.dup, 1) := by decide +kernel
theorem d12_4 : decode prog_13_method_7_code 4 = .ok (.aload_n 0, 1) := by decide +kernel
theorem d12_5 : decode prog_13_method_7_code 5 = .ok (.getfield 7, 3) := by decide +kernel
theorem d12_8 : decode prog_13_method_7_code 8 = .ok (.aload_n 0, 1) := by decide +kernel
theorem d12_9 : decode prog_13_method_7_code 9 = .ok (.getfield 13, 3) := by decide +kernel
theorem d12_12 : decode prog_13_method_7_code 12 = .ok (.aload_n 0, 1) := by decide +kernel
theorem d12_13 : decode prog_13_method_7_code 13 = .ok (.getfield 17, 3) := by decide +kernel
theorem d12_16 : decode prog_13_method_7_code 16 = .ok (.aload_n 0, 1) := by decide +kernel
theorem d12_17 : decode prog_13_method_7_code 17 = .ok (.getfield 21, 3) := by decide +kernel
theorem d12_20 : decode prog_13_method_7_code 20 = .ok (.iconst 1, 1) := by decide +kernel
theorem d12_21 : decode prog_13_method_7_code 21 = .ok (.iadd, 1) := by decide +kernel
theorem d12_22 : decode prog_13_method_7_code 22 = .ok (.aload_n 0, 1) := by decide +kernel
theorem d12_23 : decode prog_13_method_7_code 23 = .ok (.getfield 21, 3) := by decide +kernel
theorem d12_26 : decode prog_13_method_7_code 26 = .ok (.ifCond .ne 7, 3) := by decide +kernel
theorem d12_29 : decode prog_13_method_7_code 29 = .ok (.lload_n 1, 1) := by decide +kernel
theorem d12_30 : decode prog_13_method_7_code 30 = .ok (.goto 7, 3) := by decide +kernel
theorem d12_33 : decode prog_13_method_7_code 33 = .ok (.aload_n 0, 1) := by decide +kernel
theorem d12_34 : decode prog_13_method_7_code 34 = .ok (.getfield 25, 3) := by decide +kernel
theorem d12_37 : decode prog_13_method_7_code 37 = .ok (.aload_n 0, 1) := by decide +kernel
theorem d12_38 : decode prog_13_method_7_code 38 = .ok (.getfield 28, 3) := by decide +kernel
theorem d12_41 : decode prog_13_method_7_code 41 = .ok (.invokespecial 31, 3) := by decide +kernel
theorem d12_44 : decode prog_13_method_7_code 44 = .ok (.areturn, 1) := by decide +kernel
theorem own_pl12 : plainFor (⟨"com/example/ring_to_run/ringtorun/service/Callback", "attempting", "(J)Lcom/example/ring_to_run/ringtorun/service/Callback;"⟩ : MethodName) = true := plainFor_of_name (by first | (simp [plainName, overriddenIn]; done) | decide +kernel)
theorem own_pd11 : parseMethodDescriptor "(J)Lcom/example/ring_to_run/ringtorun/service/Callback;" = some ⟨[.long], some (.object "com/example/ring_to_run/ringtorun/service/Callback")⟩ := by decide +kernel
set_option maxHeartbeats 4000000 in
theorem rmAtt (l : Launch) (Z : State) (a0 : Array Value) (hw : ∀ (i : Nat) (d : Jvm.Cond), tables_1[i]? = some d → d.before a0 Z = true) (h0 : Heap) (n0 : Nat) (a : Addr) (e : Int64) (u : Addr) (b : Addr) (q : Int64) (hZ0 : n0 ≤ h0.size) (hF0 : Fld Z h0 a "com/example/ring_to_run/ringtorun/service/Callback" "url" "Ljava/lang/String;" (.ref u)) (hF1 : Fld Z h0 a "com/example/ring_to_run/ringtorun/service/Callback" "payloadJson" "[B" (.ref b)) (hF2 : Fld Z h0 a "com/example/ring_to_run/ringtorun/service/Callback" "sequence" "J" (.long q)) (hF3 : Fld Z h0 a "com/example/ring_to_run/ringtorun/service/Callback" "attempts" "I" (.int (0 : Int32))) (hF5 : Fld Z h0 a "com/example/ring_to_run/ringtorun/service/Callback" "lastError" "Ljava/lang/String;" .null) :
    own_C l Z (⟨"com/example/ring_to_run/ringtorun/service/Callback", "attempting", "(J)Lcom/example/ring_to_run/ringtorun/service/Callback;"⟩ : MethodName) prog_13_method_7_code 3 (some (.object "com/example/ring_to_run/ringtorun/service/Callback")) ({ frames := 2, cells := 1, slots := 6, locals := 33 } : Room) #[(.ref a), (.long e)] h0 n0 (fun v h' => ∃ (a2 : Addr), v = some (.ref a2) ∧ Keep h0 h' [] ∧ n0 ≤ a2 ∧ h0.size ≤ a2 ∧ a2 < h'.size ∧ Exa Z h' a2 "com/example/ring_to_run/ringtorun/service/Callback" ∧ Fld Z h' a2 "com/example/ring_to_run/ringtorun/service/Callback" "attempts" "I" (.int (1 : Int32)) ∧ Fld Z h' a2 "com/example/ring_to_run/ringtorun/service/Callback" "dueAt" "J" (.long e)) := by
  refine own_met (Ls := #[.val (.ref a), .val (.long e), .second]) hw own_pl12 (fun m => by first | (simp [entryFrame, mkF, argsToLocals, Value.category]; done) | rfl) ?_
  intro B H
  have hK : Keep h0 h0 [] := Keep.refl _ _
  refine own_new H (w := 27) (wi := 28) (wz := 25) rfl rfl rfl d12_0 (by decide) (by decide) ?_
  intro h1 a2 ha3 E4 X5 D6
  have f7 : a ≠ a2 := Nat.ne_of_lt (by rw [ha3]; exact hF0.lt)
  have f8 : n0 ≤ a2 := by rw [ha3]; exact hZ0
  have f9 : h0.size ≤ a2 := by rw [ha3]; exact hK.1
  have f10 : Fld Z h1 a "com/example/ring_to_run/ringtorun/service/Callback" "url" "Ljava/lang/String;" (.ref u) := hF0.ext E4
  have f11 : Fld Z h1 a "com/example/ring_to_run/ringtorun/service/Callback" "payloadJson" "[B" (.ref b) := hF1.ext E4
  have f12 : Fld Z h1 a "com/example/ring_to_run/ringtorun/service/Callback" "sequence" "J" (.long q) := hF2.ext E4
  have f13 : Fld Z h1 a "com/example/ring_to_run/ringtorun/service/Callback" "attempts" "I" (.int (0 : Int32)) := hF3.ext E4
  have f14 : Fld Z h1 a "com/example/ring_to_run/ringtorun/service/Callback" "lastError" "Ljava/lang/String;" .null := hF5.ext E4
  have f15 : n0 ≤ h1.size := Nat.le_trans hZ0 E4.1
  have f16 : Keep h0 h1 [] := hK.ext E4
  have f17 : Fld Z h1 a2 "com/example/ring_to_run/ringtorun/service/Callback" "url" "Ljava/lang/String;" .null := D6 (Or.inr (own_w H (i := 34) rfl)) (ty := (.object "java/lang/String")) (by decide)
  have f18 : Fld Z h1 a2 "com/example/ring_to_run/ringtorun/service/Callback" "payloadJson" "[B" .null := D6 (Or.inr (own_w H (i := 36) rfl)) (ty := (.array .byte)) (by decide)
  have f19 : Fld Z h1 a2 "com/example/ring_to_run/ringtorun/service/Callback" "sequence" "J" (.long (0 : Int64)) := D6 (Or.inr (own_w H (i := 38) rfl)) (ty := .long) (by decide)
  have f20 : Fld Z h1 a2 "com/example/ring_to_run/ringtorun/service/Callback" "attempts" "I" (.int (0 : Int32)) := D6 (Or.inr (own_w H (i := 40) rfl)) (ty := .int) (by decide)
  have f21 : Fld Z h1 a2 "com/example/ring_to_run/ringtorun/service/Callback" "dueAt" "J" (.long (0 : Int64)) := D6 (Or.inr (own_w H (i := 42) rfl)) (ty := .long) (by decide)
  have f22 : Fld Z h1 a2 "com/example/ring_to_run/ringtorun/service/Callback" "lastError" "Ljava/lang/String;" .null := D6 (Or.inr (own_w H (i := 44) rfl)) (ty := (.object "java/lang/String")) (by decide)
  show own_G _ _ _ _ _ _ _ _ 3 #[.val (.ref a), .val (.long e), .second] [(.ref a2)]
  refine own_dup H rfl d12_3 ?_
  refine own_aload_n H rfl rfl d12_4 ?_
  refine own_getfield H (w := 33) rfl f10 d12_5 ?_
  refine own_aload_n H rfl rfl d12_8 ?_
  refine own_getfield H (w := 35) rfl f11 d12_9 ?_
  refine own_aload_n H rfl rfl d12_12 ?_
  refine own_getfield H (w := 37) rfl f12 d12_13 ?_
  refine own_aload_n H rfl rfl d12_16 ?_
  refine own_getfield H (w := 39) rfl f13 d12_17 ?_
  refine own_iconst H (1 : Int32) (by decide) d12_20 ?_
  refine own_iadd (v := (1 : Int32)) H (by decide) d12_21 ?_
  refine own_aload_n H rfl rfl d12_22 ?_
  refine own_getfield H (w := 39) rfl f13 d12_23 ?_
  refine own_ifne_f H d12_26 (by decide) ?_
  refine own_lload_n H rfl d12_29 ?_
  refine own_goto H (pc' := 37) d12_30 (by decide) (by decide) ?_
  refine own_aload_n H rfl rfl d12_37 ?_
  refine own_getfield H (w := 43) rfl f14 d12_38 ?_
  refine own_invokespecial H (a := a2) (argsL := [(.ref u), (.ref b), (.long q), (.int (1 : Int32)), (.long e), .null]) (rest := [(.ref a2)]) (rmCb l Z a0 (own_hw H) h1 n0 a2 u b q (1 : Int32) e f15 X5 f17 f18 f19 f20 f21 f22 f8) rfl (w1 := 29) (w2 := 30) (w3 := 25) (w4 := 31) rfl rfl rfl rfl own_pd9 rfl 1 (by decide) rfl (by decide) (Nat.le_of_eq rfl) (by decide) (by decide) (by decide) rfl d12_41 ?_
  rintro _ h23 ⟨rfl, K24, f25, f26, f27, f28, f29, f30⟩
  have f31 : Fld Z h23 a "com/example/ring_to_run/ringtorun/service/Callback" "url" "Ljava/lang/String;" (.ref u) := f10.keep K24 (ninS f7 nin0)
  have f32 : Fld Z h23 a "com/example/ring_to_run/ringtorun/service/Callback" "payloadJson" "[B" (.ref b) := f11.keep K24 (ninS f7 nin0)
  have f33 : Fld Z h23 a "com/example/ring_to_run/ringtorun/service/Callback" "sequence" "J" (.long q) := f12.keep K24 (ninS f7 nin0)
  have f34 : Fld Z h23 a "com/example/ring_to_run/ringtorun/service/Callback" "attempts" "I" (.int (0 : Int32)) := f13.keep K24 (ninS f7 nin0)
  have f35 : Fld Z h23 a "com/example/ring_to_run/ringtorun/service/Callback" "lastError" "Ljava/lang/String;" .null := f14.keep K24 (ninS f7 nin0)
  have f36 : n0 ≤ h23.size := Nat.le_trans f15 K24.1
  have f37 : Keep h0 h23 [] := f16.trans K24 (allS (Or.inr f9) all0)
  have f38 : Exa Z h23 a2 "com/example/ring_to_run/ringtorun/service/Callback" := X5.keep K24
  show own_G _ _ _ _ _ _ _ _ 44 #[.val (.ref a), .val (.long e), .second] [(.ref a2)]
  exact own_areturn H rfl rfl rfl d12_44 (by decide) (by decide) ⟨a2, rfl, f37, f8, f9, f38.lt, f38, f28, f29⟩
theorem d6_0 : decode prog_13_method_9_code 0 = .ok (.aload_n 0, 1) := by decide +kernel
theorem d6_1 : decode prog_13_method_9_code 1 = .ok (.getfield 7, 3) := by decide +kernel
theorem d6_4 : decode prog_13_method_9_code 4 = .ok (.areturn, 1) := by decide +kernel
theorem own_pl6 : plainFor (⟨"com/example/ring_to_run/ringtorun/service/Callback", "url", "()Ljava/lang/String;"⟩ : MethodName) = true := plainFor_of_name (by first | (simp [plainName, overriddenIn]; done) | decide +kernel)
theorem own_pd12 : parseMethodDescriptor "()Ljava/lang/String;" = some ⟨[], some (.object "java/lang/String")⟩ := by decide +kernel
set_option maxHeartbeats 4000000 in
theorem rmGurl (l : Launch) (Z : State) (a0 : Array Value) (hw : ∀ (i : Nat) (d : Jvm.Cond), tables_1[i]? = some d → d.before a0 Z = true) (h0 : Heap) (n0 : Nat) (a : Addr) (u : Addr) (hF : Fld Z h0 a "com/example/ring_to_run/ringtorun/service/Callback" "url" "Ljava/lang/String;" (.ref u)) :
    own_C l Z (⟨"com/example/ring_to_run/ringtorun/service/Callback", "url", "()Ljava/lang/String;"⟩ : MethodName) prog_13_method_9_code 1 (some (.object "java/lang/String")) ({ frames := 0, cells := 0, slots := 0, locals := 0 } : Room) #[(.ref a)] h0 n0 (fun v h' => v = some (.ref u) ∧ h0 = h') := by
  refine own_met (Ls := #[.val (.ref a)]) hw own_pl6 (fun m => by first | (simp [entryFrame, mkF, argsToLocals, Value.category]; done) | rfl) ?_
  intro B H
  refine own_aload_n H rfl rfl d6_0 ?_
  refine own_getfield H (w := 33) rfl hF d6_1 ?_
  exact own_areturn H rfl rfl rfl d6_4 (by decide) (by decide) ⟨rfl, rfl⟩
theorem d8_0 : decode prog_13_method_10_code 0 = .ok (.aload_n 0, 1) := by decide +kernel
theorem d8_1 : decode prog_13_method_10_code 1 = .ok (.getfield 13, 3) := by decide +kernel
theorem d8_4 : decode prog_13_method_10_code 4 = .ok (.areturn, 1) := by decide +kernel
theorem own_pl8 : plainFor (⟨"com/example/ring_to_run/ringtorun/service/Callback", "payloadJson", "()[B"⟩ : MethodName) = true := plainFor_of_name (by first | (simp [plainName, overriddenIn]; done) | decide +kernel)
theorem own_pd13 : parseMethodDescriptor "()[B" = some ⟨[], some (.array .byte)⟩ := by decide +kernel
set_option maxHeartbeats 4000000 in
theorem rmGpayloadJson (l : Launch) (Z : State) (a0 : Array Value) (hw : ∀ (i : Nat) (d : Jvm.Cond), tables_1[i]? = some d → d.before a0 Z = true) (h0 : Heap) (n0 : Nat) (a : Addr) (u : Addr) (hF : Fld Z h0 a "com/example/ring_to_run/ringtorun/service/Callback" "payloadJson" "[B" (.ref u)) :
    own_C l Z (⟨"com/example/ring_to_run/ringtorun/service/Callback", "payloadJson", "()[B"⟩ : MethodName) prog_13_method_10_code 1 (some (.array .byte)) ({ frames := 0, cells := 0, slots := 0, locals := 0 } : Room) #[(.ref a)] h0 n0 (fun v h' => v = some (.ref u) ∧ h0 = h') := by
  refine own_met (Ls := #[.val (.ref a)]) hw own_pl8 (fun m => by first | (simp [entryFrame, mkF, argsToLocals, Value.category]; done) | rfl) ?_
  intro B H
  refine own_aload_n H rfl rfl d8_0 ?_
  refine own_getfield H (w := 35) rfl hF d8_1 ?_
  exact own_areturn H rfl rfl rfl d8_4 (by decide) (by decide) ⟨rfl, rfl⟩
theorem d9_0 : decode prog_13_method_11_code 0 = .ok (.aload_n 0, 1) := by decide +kernel
theorem d9_1 : decode prog_13_method_11_code 1 = .ok (.getfield 17, 3) := by decide +kernel
theorem d9_4 : decode prog_13_method_11_code 4 = .ok (.lreturn, 1) := by decide +kernel
theorem own_pl9 : plainFor (⟨"com/example/ring_to_run/ringtorun/service/Callback", "sequence", "()J"⟩ : MethodName) = true := plainFor_of_name (by first | (simp [plainName, overriddenIn]; done) | decide +kernel)
theorem own_pd14 : parseMethodDescriptor "()J" = some ⟨[], some .long⟩ := by decide +kernel
set_option maxHeartbeats 4000000 in
theorem rmGsequence (l : Launch) (Z : State) (a0 : Array Value) (hw : ∀ (i : Nat) (d : Jvm.Cond), tables_1[i]? = some d → d.before a0 Z = true) (h0 : Heap) (n0 : Nat) (a : Addr) (u : Int64) (hF : Fld Z h0 a "com/example/ring_to_run/ringtorun/service/Callback" "sequence" "J" (.long u)) :
    own_C l Z (⟨"com/example/ring_to_run/ringtorun/service/Callback", "sequence", "()J"⟩ : MethodName) prog_13_method_11_code 1 (some .long) ({ frames := 0, cells := 0, slots := 0, locals := 0 } : Room) #[(.ref a)] h0 n0 (fun v h' => v = some (.long u) ∧ h0 = h') := by
  refine own_met (Ls := #[.val (.ref a)]) hw own_pl9 (fun m => by first | (simp [entryFrame, mkF, argsToLocals, Value.category]; done) | rfl) ?_
  intro B H
  refine own_aload_n H rfl rfl d9_0 ?_
  refine own_getfield H (w := 37) rfl hF d9_1 ?_
  exact own_lreturn H d9_4 (by decide) (by decide) ⟨rfl, rfl⟩
theorem d10_0 : decode prog_13_method_12_code 0 = .ok (.aload_n 0, 1) := by decide +kernel
theorem d10_1 : decode prog_13_method_12_code 1 = .ok (.getfield 21, 3) := by decide +kernel
theorem d10_4 : decode prog_13_method_12_code 4 = .ok (.ireturn, 1) := by decide +kernel
theorem own_pl10 : plainFor (⟨"com/example/ring_to_run/ringtorun/service/Callback", "attempts", "()I"⟩ : MethodName) = true := plainFor_of_name (by first | (simp [plainName, overriddenIn]; done) | decide +kernel)
theorem own_pd15 : parseMethodDescriptor "()I" = some ⟨[], some .int⟩ := by decide +kernel
set_option maxHeartbeats 4000000 in
theorem rmGattempts (l : Launch) (Z : State) (a0 : Array Value) (hw : ∀ (i : Nat) (d : Jvm.Cond), tables_1[i]? = some d → d.before a0 Z = true) (h0 : Heap) (n0 : Nat) (a : Addr) (u : Int32) (hF : Fld Z h0 a "com/example/ring_to_run/ringtorun/service/Callback" "attempts" "I" (.int u)) :
    own_C l Z (⟨"com/example/ring_to_run/ringtorun/service/Callback", "attempts", "()I"⟩ : MethodName) prog_13_method_12_code 1 (some .int) ({ frames := 0, cells := 0, slots := 0, locals := 0 } : Room) #[(.ref a)] h0 n0 (fun v h' => v = some (.int u) ∧ h0 = h') := by
  refine own_met (Ls := #[.val (.ref a)]) hw own_pl10 (fun m => by first | (simp [entryFrame, mkF, argsToLocals, Value.category]; done) | rfl) ?_
  intro B H
  refine own_aload_n H rfl rfl d10_0 ?_
  refine own_getfield H (w := 39) rfl hF d10_1 ?_
  exact own_ireturn H (by simp) rfl d10_4 (by decide) (by decide) ⟨rfl, rfl⟩
theorem d13_0 : decode prog_13_method_13_code 0 = .ok (.aload_n 0, 1) := by decide +kernel
theorem d13_1 : decode prog_13_method_13_code 1 = .ok (.getfield 25, 3) := by decide +kernel
theorem d13_4 : decode prog_13_method_13_code 4 = .ok (.lreturn, 1) := by decide +kernel
theorem own_pl13 : plainFor (⟨"com/example/ring_to_run/ringtorun/service/Callback", "dueAt", "()J"⟩ : MethodName) = true := plainFor_of_name (by first | (simp [plainName, overriddenIn]; done) | decide +kernel)
set_option maxHeartbeats 4000000 in
theorem rmGdueAt (l : Launch) (Z : State) (a0 : Array Value) (hw : ∀ (i : Nat) (d : Jvm.Cond), tables_1[i]? = some d → d.before a0 Z = true) (h0 : Heap) (n0 : Nat) (a : Addr) (u : Int64) (hF : Fld Z h0 a "com/example/ring_to_run/ringtorun/service/Callback" "dueAt" "J" (.long u)) :
    own_C l Z (⟨"com/example/ring_to_run/ringtorun/service/Callback", "dueAt", "()J"⟩ : MethodName) prog_13_method_13_code 1 (some .long) ({ frames := 0, cells := 0, slots := 0, locals := 0 } : Room) #[(.ref a)] h0 n0 (fun v h' => v = some (.long u) ∧ h0 = h') := by
  refine own_met (Ls := #[.val (.ref a)]) hw own_pl13 (fun m => by first | (simp [entryFrame, mkF, argsToLocals, Value.category]; done) | rfl) ?_
  intro B H
  refine own_aload_n H rfl rfl d13_0 ?_
  refine own_getfield H (w := 41) rfl hF d13_1 ?_
  exact own_lreturn H d13_4 (by decide) (by decide) ⟨rfl, rfl⟩
theorem d11_0 : decode prog_13_method_14_code 0 = .ok (.aload_n 0, 1) := by decide +kernel
theorem d11_1 : decode prog_13_method_14_code 1 = .ok (.getfield 28, 3) := by decide +kernel
theorem d11_4 : decode prog_13_method_14_code 4 = .ok (.areturn, 1) := by decide +kernel
theorem own_pl11 : plainFor (⟨"com/example/ring_to_run/ringtorun/service/Callback", "lastError", "()Ljava/lang/String;"⟩ : MethodName) = true := plainFor_of_name (by first | (simp [plainName, overriddenIn]; done) | decide +kernel)
set_option maxHeartbeats 4000000 in
theorem rmGlastError (l : Launch) (Z : State) (a0 : Array Value) (hw : ∀ (i : Nat) (d : Jvm.Cond), tables_1[i]? = some d → d.before a0 Z = true) (h0 : Heap) (n0 : Nat) (a : Addr) (hF : Fld Z h0 a "com/example/ring_to_run/ringtorun/service/Callback" "lastError" "Ljava/lang/String;" .null) :
    own_C l Z (⟨"com/example/ring_to_run/ringtorun/service/Callback", "lastError", "()Ljava/lang/String;"⟩ : MethodName) prog_13_method_14_code 1 (some (.object "java/lang/String")) ({ frames := 0, cells := 0, slots := 0, locals := 0 } : Room) #[(.ref a)] h0 n0 (fun v h' => v = some .null ∧ h0 = h') := by
  refine own_met (Ls := #[.val (.ref a)]) hw own_pl11 (fun m => by first | (simp [entryFrame, mkF, argsToLocals, Value.category]; done) | rfl) ?_
  intro B H
  refine own_aload_n H rfl rfl d11_0 ?_
  refine own_getfield H (w := 43) rfl hF d11_1 ?_
  exact own_areturn H rfl rfl rfl d11_4 (by decide) (by decide) ⟨rfl, rfl⟩
theorem d7_0 : decode jdk_42_method_66_code 0 = .ok (.aload_n 0, 1) := by decide +kernel
theorem d7_1 : decode jdk_42_method_66_code 1 = .ok (.aload_n 1, 1) := by decide +kernel
theorem d7_2 : decode jdk_42_method_66_code 2 = .ok (.if_acmp .ne 5, 3) := by decide +kernel
theorem d7_5 : decode jdk_42_method_66_code 5 = .ok (.iconst 1, 1) := by decide +kernel
theorem d7_6 : decode jdk_42_method_66_code 6 = .ok (.ireturn, 1) := by decide +kernel
theorem d7_7 : decode jdk_42_method_66_code 7 = .ok (.aload_n 1, 1) := by decide +kernel
theorem d7_8 : decode jdk_42_method_66_code 8 = .ok (.instanceof 10, 3) := by decide +kernel
theorem d7_11 : decode jdk_42_method_66_code 11 = .ok (.ifCond .eq 43, 3) := by decide +kernel
theorem d7_14 : decode jdk_42_method_66_code 14 = .ok (.aload_n 1, 1) := by decide +kernel
theorem d7_15 : decode jdk_42_method_66_code 15 = .ok (.checkcast 10, 3) := by decide +kernel
theorem d7_18 : decode jdk_42_method_66_code 18 = .ok (.astore_n 2, 1) := by decide +kernel
theorem d7_19 : decode jdk_42_method_66_code 19 = .ok (.getstatic 38, 3) := by decide +kernel
theorem d7_22 : decode jdk_42_method_66_code 22 = .ok (.ifCond .eq 14, 3) := by decide +kernel
theorem d7_25 : decode jdk_42_method_66_code 25 = .ok (.aload_n 0, 1) := by decide +kernel
theorem d7_26 : decode jdk_42_method_66_code 26 = .ok (.getfield 15, 3) := by decide +kernel
theorem d7_29 : decode jdk_42_method_66_code 29 = .ok (.aload_n 2, 1) := by decide +kernel
theorem d7_30 : decode jdk_42_method_66_code 30 = .ok (.getfield 15, 3) := by decide +kernel
theorem d7_33 : decode jdk_42_method_66_code 33 = .ok (.if_icmp .ne 21, 3) := by decide +kernel
theorem d7_36 : decode jdk_42_method_66_code 36 = .ok (.aload_n 0, 1) := by decide +kernel
theorem d7_37 : decode jdk_42_method_66_code 37 = .ok (.getfield 9, 3) := by decide +kernel
theorem d7_40 : decode jdk_42_method_66_code 40 = .ok (.aload_n 2, 1) := by decide +kernel
theorem d7_41 : decode jdk_42_method_66_code 41 = .ok (.getfield 9, 3) := by decide +kernel
theorem d7_44 : decode jdk_42_method_66_code 44 = .ok (.invokestatic 541, 3) := by decide +kernel
theorem d7_47 : decode jdk_42_method_66_code 47 = .ok (.ifCond .eq 7, 3) := by decide +kernel
theorem d7_50 : decode jdk_42_method_66_code 50 = .ok (.iconst 1, 1) := by decide +kernel
theorem d7_51 : decode jdk_42_method_66_code 51 = .ok (.goto 4, 3) := by decide +kernel
theorem d7_54 : decode jdk_42_method_66_code 54 = .ok (.iconst 0, 1) := by decide +kernel
theorem d7_55 : decode jdk_42_method_66_code 55 = .ok (.ireturn, 1) := by decide +kernel
theorem own_pl7 : plainFor (⟨"java/lang/String", "equals", "(Ljava/lang/Object;)Z"⟩ : MethodName) = true := plainFor_of_name (by first | (simp [plainName, overriddenIn]; done) | decide +kernel)
theorem own_pd16 : parseMethodDescriptor "(Ljava/lang/Object;)Z" = some ⟨[(.object "java/lang/Object")], some .boolean⟩ := by decide +kernel
set_option maxHeartbeats 4000000 in
theorem rmEqu (l : Launch) (Z : State) (a0 : Array Value) (hw : ∀ (i : Nat) (d : Jvm.Cond), tables_1[i]? = some d → d.before a0 Z = true) (h0 : Heap) (n0 : Nat) (a : Addr) (b : Addr) (hq : b = a) :
    own_C l Z (⟨"java/lang/String", "equals", "(Ljava/lang/Object;)Z"⟩ : MethodName) jdk_42_method_66_code 3 (some .boolean) ({ frames := 0, cells := 0, slots := 0, locals := 0 } : Room) #[(.ref a), (.ref b)] h0 n0 (fun v h' => v = some (.int (1 : Int32)) ∧ h0 = h') := by
  refine own_met (Ls := #[.val (.ref a), .val (.ref b), .unset]) hw own_pl7 (fun m => by first | (simp [entryFrame, mkF, argsToLocals, Value.category]; done) | rfl) ?_
  intro B H
  refine own_aload_n H rfl rfl d7_0 ?_
  refine own_aload_n H rfl rfl d7_1 ?_
  refine own_acmpne_f H d7_2 rfl rfl (by rw [hq]) ?_
  refine own_iconst H (1 : Int32) (by decide) d7_5 ?_
  exact own_ireturn H (by simp) (by decide) d7_6 (by decide) (by decide) ⟨rfl, rfl⟩
theorem own_and31 (p : Int32) : 0 ≤ (p &&& (2147483647 : Int32)).toInt := by
  have h : (p &&& (2147483647 : Int32)).toBitVec.toNat = p.toBitVec.toNat % 2147483648 := by
    have : (p &&& (2147483647 : Int32)).toBitVec.toNat = p.toBitVec.toNat &&& 2147483647 := by
      rw [Int32.toBitVec_and, BitVec.toNat_and]; rfl
    rw [this]
    exact Nat.and_two_pow_sub_one_eq_mod _ 31
  show 0 ≤ (p &&& (2147483647 : Int32)).toBitVec.toInt
  rw [BitVec.toInt_eq_toNat_cond, if_pos (by omega)]
  omega
theorem own_mod (p q : Int32) (hq : 0 < q.toInt) (hq2 : q.toInt < 1000) : 0 ≤ ((p &&& (2147483647 : Int32)) % q).toInt ∧ ((p &&& (2147483647 : Int32)) % q).toInt < q.toInt := by
  have h := own_and31 p
  rw [Int32.toInt_mod, Int.tmod_eq_emod_of_nonneg h]
  exact ⟨Int.emod_nonneg _ (by omega), Int.emod_lt_of_pos _ hq⟩

theorem own_k3 (p : Int32) (c0 : ¬ (p &&& (2147483647 : Int32)) % (3 : Int32) = (0 : Int32)) (c1 : ¬ (p &&& (2147483647 : Int32)) % (3 : Int32) = (1 : Int32)) : (p &&& (2147483647 : Int32)) % (3 : Int32) = (2 : Int32) := by
  obtain ⟨h1, h2⟩ := own_mod p 3 (by decide) (by decide)
  simp only [← Int32.toInt_inj] at *
  have e0 : (0 : Int32).toInt = 0 := rfl
  have e1 : (1 : Int32).toInt = 1 := by decide
  have e2 : (2 : Int32).toInt = 2 := by decide
  have e3 : (3 : Int32).toInt = 3 := by decide
  omega
theorem own_pl0 : plainFor x = true := plainFor_of_name (by first | (simp [plainName, overriddenIn]; done) | decide +kernel)
theorem own_and8 (x : Int32) : (x &&& (255 : Int32)).toBitVec.toNat = x.toBitVec.toNat % 256 := by
  have : (x &&& (255 : Int32)).toBitVec.toNat = x.toBitVec.toNat &&& 255 := by
    rw [Int32.toBitVec_and, BitVec.toNat_and]; rfl
  rw [this]
  exact Nat.and_two_pow_sub_one_eq_mod _ 8
theorem own_c16 (y : Int32) : (y.toUInt32.toUInt16.toUInt32.toInt32).toBitVec.toNat = y.toBitVec.toNat % 65536 := by
  show (y.toUInt32.toUInt16.toUInt32).toNat = _
  rw [UInt16.toNat_toUInt32, UInt32.toNat_toUInt16]
  rfl
theorem own_nle (v : Int32) (h : v.toBitVec.toNat < 256) : ¬ (255 : Int32) < v := by
  have e : v.toInt = v.toBitVec.toNat := by
    show v.toBitVec.toInt = _
    rw [BitVec.toInt_eq_toNat_cond, if_pos (by omega)]
  have e5 : (255 : Int32).toInt = 255 := by decide
  rw [Int32.lt_iff_toInt_lt, e, e5]
  omega
theorem own_cq (x : Int32) : ¬ (255 : Int32) < (x &&& (255 : Int32)).toUInt32.toUInt16.toUInt32.toInt32 := by
  apply own_nle
  rw [own_c16, own_and8]
  omega
theorem own_ch (x : Int32) : ¬ (255 : Int32) < nar .char ((x &&& (255 : Int32)).toUInt32.toUInt16.toUInt32.toInt32) := by
  apply own_nle
  show (((x &&& (255 : Int32)).toUInt32.toUInt16.toUInt32.toInt32).toUInt32.toUInt16.toUInt32.toInt32).toBitVec.toNat < 256
  rw [own_c16, own_c16, own_and8]
  omega
theorem own_nbi (x : Int32) : nar .byte (x.toInt8.toInt32) = x.toInt8.toInt32 := by
  show (x.toInt8.toInt32).toInt8.toInt32 = _
  rw [Int8.toInt8_toInt32]

set_option maxHeartbeats 40000000 in
theorem rm0 (l : Launch) (Z : State) (a0 : Array Value) (hw : ∀ (i : Nat) (d : Jvm.Cond), tables_1[i]? = some d → d.before a0 Z = true) (ws : List Jvm.Cond) (h0 : Heap) (n0 : Nat) (p1 p2 p3 : Int32) (p4 p5 : Int64) (p6 : Int32) (hZ0 : n0 ≤ h0.size) (hO : Old Z n0 h0) (cs : Int32) (hcs : ¬ cs = 0) (hS : Sta Z h0 "java/lang/String" "COMPACT_STRINGS" "Z" (.int cs)) (hh : Jvm.Lit.constHeld Z "java/lang/String" 7) (hcw : Jvm.Lit.compactW.before a0 Z = true) :
    own_MetI l Z ws x code maxLocals ret room_1 #[(.int p1), (.int p2), (.int p3), (.long p4), (.long p5), (.int p6)] h0 n0 24 1152 (fun v h' => v = some (.int 1)) := by
  refine own_metI (Ls := #[.val (.int p1), .val (.int p2), .val (.int p3), .val (.long p4), .second, .val (.long p5), .second, .val (.int p6), .unset, .unset, .unset, .unset, .unset, .unset, .unset, .unset, .unset, .unset, .unset, .unset]) hw own_pl0 (fun m => by first | (simp [entryFrame, mkF, argsToLocals, Value.category, maxLocals]; done) | rfl) ?_
  intro B H D I
  refine own_GE_of ?_
  refine own_iload_n H rfl at_0 ?_
  refine own_sipush H (255 : Int32) (by decide) at_1 ?_
  refine own_iand H rfl at_4 ?_
  refine own_i2c H rfl at_5 ?_
  refine own_istore H #[.val (.int p1), .val (.int p2), .val (.int p3), .val (.long p4), .second, .val (.long p5), .second, .val (.int p6), .val (.int ((p1 &&& (255 : Int32)).toUInt32.toUInt16.toUInt32.toInt32)), .unset, .unset, .unset, .unset, .unset, .unset, .unset, .unset, .unset, .unset, .unset] rfl at_6 ?_
  refine own_iload_n H rfl at_8 ?_
  refine own_sipush H (255 : Int32) (by decide) at_9 ?_
  refine own_iand H rfl at_12 ?_
  refine own_i2c H rfl at_13 ?_
  refine own_istore H #[.val (.int p1), .val (.int p2), .val (.int p3), .val (.long p4), .second, .val (.long p5), .second, .val (.int p6), .val (.int ((p1 &&& (255 : Int32)).toUInt32.toUInt16.toUInt32.toInt32)), .val (.int ((p2 &&& (255 : Int32)).toUInt32.toUInt16.toUInt32.toInt32)), .unset, .unset, .unset, .unset, .unset, .unset, .unset, .unset, .unset, .unset] rfl at_14 ?_
  refine own_iload H rfl at_16 ?_
  refine own_ldcI H (w := 0) rfl at_18 ?_
  refine own_iand H rfl at_20 ?_
  refine own_iconst H (3 : Int32) (by decide) at_21 ?_
  refine own_irem H rfl at_22 (by decide) ?_
  refine own_istore H #[.val (.int p1), .val (.int p2), .val (.int p3), .val (.long p4), .second, .val (.long p5), .second, .val (.int p6), .val (.int ((p1 &&& (255 : Int32)).toUInt32.toUInt16.toUInt32.toInt32)), .val (.int ((p2 &&& (255 : Int32)).toUInt32.toUInt16.toUInt32.toInt32)), .val (.int ((p6 &&& (2147483647 : Int32)) % (3 : Int32))), .unset, .unset, .unset, .unset, .unset, .unset, .unset, .unset, .unset] rfl at_23 ?_
  by_cases c1 : ((p6 &&& (2147483647 : Int32)) % (3 : Int32)) = (0 : Int32)
  ·
    rw [c1]
    show own_G _ _ _ _ _ _ _ _ 25 #[.val (.int p1), .val (.int p2), .val (.int p3), .val (.long p4), .second, .val (.long p5), .second, .val (.int p6), .val (.int ((p1 &&& (255 : Int32)).toUInt32.toUInt16.toUInt32.toInt32)), .val (.int ((p2 &&& (255 : Int32)).toUInt32.toUInt16.toUInt32.toInt32)), .val (.int (0 : Int32)), .unset, .unset, .unset, .unset, .unset, .unset, .unset, .unset, .unset] []
    refine own_iload H rfl at_25 ?_
    refine own_iconst H (2 : Int32) (by decide) at_27 ?_
    refine own_iushr H rfl at_28 ?_
    refine own_ldcI H (w := 0) rfl at_29 ?_
    refine own_iand H rfl at_31 ?_
    refine own_iconst H (3 : Int32) (by decide) at_32 ?_
    refine own_irem H rfl at_33 (by decide) ?_
    refine own_istore H #[.val (.int p1), .val (.int p2), .val (.int p3), .val (.long p4), .second, .val (.long p5), .second, .val (.int p6), .val (.int ((p1 &&& (255 : Int32)).toUInt32.toUInt16.toUInt32.toInt32)), .val (.int ((p2 &&& (255 : Int32)).toUInt32.toUInt16.toUInt32.toInt32)), .val (.int (0 : Int32)), .val (.int (((XT.ushr p6 (2 : Int32)) &&& (2147483647 : Int32)) % (3 : Int32))), .unset, .unset, .unset, .unset, .unset, .unset, .unset, .unset] rfl at_34 ?_
    by_cases c2 : (((XT.ushr p6 (2 : Int32)) &&& (2147483647 : Int32)) % (3 : Int32)) = (0 : Int32)
    ·
      rw [c2]
      show own_G _ _ _ _ _ _ _ _ 36 #[.val (.int p1), .val (.int p2), .val (.int p3), .val (.long p4), .second, .val (.long p5), .second, .val (.int p6), .val (.int ((p1 &&& (255 : Int32)).toUInt32.toUInt16.toUInt32.toInt32)), .val (.int ((p2 &&& (255 : Int32)).toUInt32.toUInt16.toUInt32.toInt32)), .val (.int (0 : Int32)), .val (.int (0 : Int32)), .unset, .unset, .unset, .unset, .unset, .unset, .unset, .unset] []
      refine own_iload H rfl at_36 ?_
      refine own_ifne_f H at_38 (by decide) ?_
      refine own_new H (w := 1) (wi := 2) (wz := 3) rfl rfl rfl at_41 (by decide) (by decide) ?_
      intro h3 a4 ha5 E6 X7 D8
      have f9 : n0 ≤ a4 := by rw [ha5]; exact hZ0
      have f10 : n0 ≤ h3.size := Nat.le_trans hZ0 E6.1
      have f11 : Old Z n0 h3 := hO.ext E6
      have f12 : Sta Z h3 "java/lang/String" "COMPACT_STRINGS" "Z" (.int cs) := hS.ext E6
      have f13 : Fld Z h3 a4 "java/lang/String" "value" "[B" .null := D8 (Or.inr (own_w H (i := 17) rfl)) (ty := (.array .byte)) (by decide)
      have f14 : Fld Z h3 a4 "java/lang/String" "coder" "B" (.int (0 : Int32)) := D8 (Or.inr (own_w H (i := 18) rfl)) (ty := .byte) (by decide)
      show own_G _ _ _ _ _ _ _ _ 44 #[.val (.int p1), .val (.int p2), .val (.int p3), .val (.long p4), .second, .val (.long p5), .second, .val (.int p6), .val (.int ((p1 &&& (255 : Int32)).toUInt32.toUInt16.toUInt32.toInt32)), .val (.int ((p2 &&& (255 : Int32)).toUInt32.toUInt16.toUInt32.toInt32)), .val (.int (0 : Int32)), .val (.int (0 : Int32)), .unset, .unset, .unset, .unset, .unset, .unset, .unset, .unset] [(.ref a4)]
      refine own_dup H rfl at_44 ?_
      refine own_iconst H (0 : Int32) (by decide) at_45 ?_
      refine own_newarray H (w := 4) (n := (0 : Int32)) rfl (by decide) 0 (by decide) (by decide) at_46 (by decide) (by decide) ?_
      intro h15 a16 kA17 ha18 E19 V20
      have f22 : a4 ≠ a16 := Nat.ne_of_lt (by rw [ha18]; exact X7.lt)
      have f23 : n0 ≤ a16 := by rw [ha18]; exact f10
      have f24 : n0 ≤ h15.size := Nat.le_trans f10 E19.1
      have f25 : Old Z n0 h15 := f11.ext E19
      have f26 : Sta Z h15 "java/lang/String" "COMPACT_STRINGS" "Z" (.int cs) := f12.ext E19
      have f27 : Exa Z h15 a4 "java/lang/String" := X7.ext E19
      have f28 : Fld Z h15 a4 "java/lang/String" "value" "[B" .null := f13.ext E19
      have f29 : Fld Z h15 a4 "java/lang/String" "coder" "B" (.int (0 : Int32)) := f14.ext E19
      have f30 : Arv Z h15 a16 kA17 .char (0 : Int32) [] (.int 0) := V20.pad (pad_rep [] (.int 0) 0)
      show own_G _ _ _ _ _ _ _ _ 48 #[.val (.int p1), .val (.int p2), .val (.int p3), .val (.long p4), .second, .val (.long p5), .second, .val (.int p6), .val (.int ((p1 &&& (255 : Int32)).toUInt32.toUInt16.toUInt32.toInt32)), .val (.int ((p2 &&& (255 : Int32)).toUInt32.toUInt16.toUInt32.toInt32)), .val (.int (0 : Int32)), .val (.int (0 : Int32)), .unset, .unset, .unset, .unset, .unset, .unset, .unset, .unset] [(.ref a16), (.ref a4), (.ref a4)]
      refine own_invokespecialI H D I (a := a4) (argsL := [(.ref a16)]) (rest := [(.ref a4)]) (rmIe1 l Z a0 (own_hw H) h15 n0 a4 a16 kA17 f24 f27 f28 f29 f30 f22.symm f25.2.2 hh hcw f9) rfl (w1 := 5) (w2 := 6) (w3 := 3) (w4 := 7) rfl rfl rfl rfl own_pd8 rfl 1 (by decide) rfl (by decide) (Nat.le_of_eq rfl) (by decide) (by decide) (by decide) rfl at_48 ?_
      intro B _ h31 H D hq
      obtain ⟨rfl, K32⟩ := hq
      have f33 : n0 ≤ h31.size := Nat.le_trans f24 K32.1
      have f34 : Old Z n0 h31 := f25.keep K32 (allS f9 all0)
      have f35 : Exa Z h31 a4 "java/lang/String" := f27.keep K32
      have f36 : Arv Z h31 a16 kA17 .char (0 : Int32) [] (.int 0) := f30.keep K32 (ninS f22.symm nin0)
      show own_G _ _ _ _ _ _ _ _ 51 #[.val (.int p1), .val (.int p2), .val (.int p3), .val (.long p4), .second, .val (.long p5), .second, .val (.int p6), .val (.int ((p1 &&& (255 : Int32)).toUInt32.toUInt16.toUInt32.toInt32)), .val (.int ((p2 &&& (255 : Int32)).toUInt32.toUInt16.toUInt32.toInt32)), .val (.int (0 : Int32)), .val (.int (0 : Int32)), .unset, .unset, .unset, .unset, .unset, .unset, .unset, .unset] [(.ref a4)]
      refine own_astore H rfl #[.val (.int p1), .val (.int p2), .val (.int p3), .val (.long p4), .second, .val (.long p5), .second, .val (.int p6), .val (.int ((p1 &&& (255 : Int32)).toUInt32.toUInt16.toUInt32.toInt32)), .val (.int ((p2 &&& (255 : Int32)).toUInt32.toUInt16.toUInt32.toInt32)), .val (.int (0 : Int32)), .val (.int (0 : Int32)), .val (.ref a4), .unset, .unset, .unset, .unset, .unset, .unset, .unset] rfl at_51 ?_
      refine own_goto H (pc' := 94) at_53 (by decide) (by decide) ?_
      refine own_iload_n H rfl at_94 ?_
      refine own_i2b H rfl at_95 ?_
      refine own_istore H #[.val (.int p1), .val (.int p2), .val (.int p3), .val (.long p4), .second, .val (.long p5), .second, .val (.int p6), .val (.int ((p1 &&& (255 : Int32)).toUInt32.toUInt16.toUInt32.toInt32)), .val (.int ((p2 &&& (255 : Int32)).toUInt32.toUInt16.toUInt32.toInt32)), .val (.int (0 : Int32)), .val (.int (0 : Int32)), .val (.ref a4), .val (.int (p3.toInt8.toInt32)), .unset, .unset, .unset, .unset, .unset, .unset] rfl at_96 ?_
      refine own_iload_n H rfl at_98 ?_
      refine own_bipush H (8 : Int32) (by decide) at_99 ?_
      refine own_ishr H rfl at_101 ?_
      refine own_i2b H rfl at_102 ?_
      refine own_istore H #[.val (.int p1), .val (.int p2), .val (.int p3), .val (.long p4), .second, .val (.long p5), .second, .val (.int p6), .val (.int ((p1 &&& (255 : Int32)).toUInt32.toUInt16.toUInt32.toInt32)), .val (.int ((p2 &&& (255 : Int32)).toUInt32.toUInt16.toUInt32.toInt32)), .val (.int (0 : Int32)), .val (.int (0 : Int32)), .val (.ref a4), .val (.int (p3.toInt8.toInt32)), .val (.int ((p3 >>> ((8 : Int32) &&& 31)).toInt8.toInt32)), .unset, .unset, .unset, .unset, .unset] rfl at_103 ?_
      refine own_iload H rfl at_105 ?_
      refine own_ifne_f H at_107 (by decide) ?_
      refine own_iconst H (0 : Int32) (by decide) at_110 ?_
      refine own_newarray H (w := 16) (n := (0 : Int32)) rfl (by decide) 0 (by decide) (by decide) at_111 (by decide) (by decide) ?_
      intro h37 a38 kA39 ha40 E41 V42
      have f44 : a16 ≠ a38 := Nat.ne_of_lt (by rw [ha40]; exact f36.lt)
      have f45 : a4 ≠ a38 := Nat.ne_of_lt (by rw [ha40]; exact f35.lt)
      have f46 : n0 ≤ a38 := by rw [ha40]; exact f33
      have f47 : n0 ≤ h37.size := Nat.le_trans f33 E41.1
      have f48 : Old Z n0 h37 := f34.ext E41
      have f49 : Exa Z h37 a4 "java/lang/String" := f35.ext E41
      have f50 : Arv Z h37 a16 kA17 .char (0 : Int32) [] (.int 0) := f36.ext E41
      have f51 : Arv Z h37 a38 kA39 .byte (0 : Int32) [] (.int 0) := V42.pad (pad_rep [] (.int 0) 0)
      show own_G _ _ _ _ _ _ _ _ 113 #[.val (.int p1), .val (.int p2), .val (.int p3), .val (.long p4), .second, .val (.long p5), .second, .val (.int p6), .val (.int ((p1 &&& (255 : Int32)).toUInt32.toUInt16.toUInt32.toInt32)), .val (.int ((p2 &&& (255 : Int32)).toUInt32.toUInt16.toUInt32.toInt32)), .val (.int (0 : Int32)), .val (.int (0 : Int32)), .val (.ref a4), .val (.int (p3.toInt8.toInt32)), .val (.int ((p3 >>> ((8 : Int32) &&& 31)).toInt8.toInt32)), .unset, .unset, .unset, .unset, .unset] [(.ref a38)]
      refine own_astore H rfl #[.val (.int p1), .val (.int p2), .val (.int p3), .val (.long p4), .second, .val (.long p5), .second, .val (.int p6), .val (.int ((p1 &&& (255 : Int32)).toUInt32.toUInt16.toUInt32.toInt32)), .val (.int ((p2 &&& (255 : Int32)).toUInt32.toUInt16.toUInt32.toInt32)), .val (.int (0 : Int32)), .val (.int (0 : Int32)), .val (.ref a4), .val (.int (p3.toInt8.toInt32)), .val (.int ((p3 >>> ((8 : Int32) &&& 31)).toInt8.toInt32)), .val (.ref a38), .unset, .unset, .unset, .unset] rfl at_113 ?_
      refine own_goto H (pc' := 152) at_115 (by decide) (by decide) ?_
      refine own_aload H rfl rfl at_152 ?_
      refine own_aload H rfl rfl at_154 ?_
      refine own_lload_n H rfl at_156 ?_
      refine own_invokestatic H (argsL := [(.ref a4), (.ref a38), (.long p4)]) (rest := []) (rmPst l Z a0 (own_hw H) h37 n0 a4 a38 p4 f47) (w1 := 23) (w2 := 24) (w3 := 25) (w4 := 26) rfl rfl rfl rfl own_pd10 rfl 0 (by decide) rfl (by decide) (Nat.le_of_eq rfl) (by decide) (by decide) (by decide) rfl at_157 ?_
      rintro _ h52 ⟨a54, rfl, K53, f55, f56, f57, f58, f59, f60, f61, f62, f63, f64⟩
      have f65 : a16 ≠ a54 := Nat.ne_of_lt (Nat.lt_of_lt_of_le f50.lt f56)
      have f66 : a38 ≠ a54 := Nat.ne_of_lt (Nat.lt_of_lt_of_le f51.lt f56)
      have f67 : a4 ≠ a54 := Nat.ne_of_lt (Nat.lt_of_lt_of_le f49.lt f56)
      have f68 : n0 ≤ h52.size := Nat.le_trans f47 K53.1
      have f69 : Old Z n0 h52 := f48.keep K53 all0
      have f70 : Exa Z h52 a4 "java/lang/String" := f49.keep K53
      have f71 : Arv Z h52 a16 kA17 .char (0 : Int32) [] (.int 0) := f50.keep K53 nin0
      have f72 : Arv Z h52 a38 kA39 .byte (0 : Int32) [] (.int 0) := f51.keep K53 nin0
      show own_G _ _ _ _ _ _ _ _ 160 #[.val (.int p1), .val (.int p2), .val (.int p3), .val (.long p4), .second, .val (.long p5), .second, .val (.int p6), .val (.int ((p1 &&& (255 : Int32)).toUInt32.toUInt16.toUInt32.toInt32)), .val (.int ((p2 &&& (255 : Int32)).toUInt32.toUInt16.toUInt32.toInt32)), .val (.int (0 : Int32)), .val (.int (0 : Int32)), .val (.ref a4), .val (.int (p3.toInt8.toInt32)), .val (.int ((p3 >>> ((8 : Int32) &&& 31)).toInt8.toInt32)), .val (.ref a38), .unset, .unset, .unset, .unset] [(.ref a54)]
      refine own_astore H rfl #[.val (.int p1), .val (.int p2), .val (.int p3), .val (.long p4), .second, .val (.long p5), .second, .val (.int p6), .val (.int ((p1 &&& (255 : Int32)).toUInt32.toUInt16.toUInt32.toInt32)), .val (.int ((p2 &&& (255 : Int32)).toUInt32.toUInt16.toUInt32.toInt32)), .val (.int (0 : Int32)), .val (.int (0 : Int32)), .val (.ref a4), .val (.int (p3.toInt8.toInt32)), .val (.int ((p3 >>> ((8 : Int32) &&& 31)).toInt8.toInt32)), .val (.ref a38), .val (.ref a54), .unset, .unset, .unset] rfl at_160 ?_
      refine own_aload H rfl rfl at_162 ?_
      refine own_invokevirtual H (a := a54) (argsL := []) (rest := []) (rmGurl l Z a0 (own_hw H) h52 n0 a54 a4 f59) f58 (w1 := 45) (w0 := 46) (w5 := 48) (w2 := 47) (w3 := 25) (w4 := 49) rfl rfl rfl rfl rfl rfl own_pd12 rfl 0 (by decide) rfl (by decide) (Nat.le_of_eq rfl) (by decide) (by decide) (by decide) rfl at_164 ?_
      rintro _ _ ⟨rfl, rfl⟩
      show own_G _ _ _ _ _ _ _ _ 167 #[.val (.int p1), .val (.int p2), .val (.int p3), .val (.long p4), .second, .val (.long p5), .second, .val (.int p6), .val (.int ((p1 &&& (255 : Int32)).toUInt32.toUInt16.toUInt32.toInt32)), .val (.int ((p2 &&& (255 : Int32)).toUInt32.toUInt16.toUInt32.toInt32)), .val (.int (0 : Int32)), .val (.int (0 : Int32)), .val (.ref a4), .val (.int (p3.toInt8.toInt32)), .val (.int ((p3 >>> ((8 : Int32) &&& 31)).toInt8.toInt32)), .val (.ref a38), .val (.ref a54), .unset, .unset, .unset] [(.ref a4)]
      refine own_astore H rfl #[.val (.int p1), .val (.int p2), .val (.int p3), .val (.long p4), .second, .val (.long p5), .second, .val (.int p6), .val (.int ((p1 &&& (255 : Int32)).toUInt32.toUInt16.toUInt32.toInt32)), .val (.int ((p2 &&& (255 : Int32)).toUInt32.toUInt16.toUInt32.toInt32)), .val (.int (0 : Int32)), .val (.int (0 : Int32)), .val (.ref a4), .val (.int (p3.toInt8.toInt32)), .val (.int ((p3 >>> ((8 : Int32) &&& 31)).toInt8.toInt32)), .val (.ref a38), .val (.ref a54), .val (.ref a4), .unset, .unset] rfl at_167 ?_
      refine own_aload H rfl rfl at_169 ?_
      refine own_ifnull_f H at_171 rfl (fun h => nomatch h) ?_
      refine own_aload H rfl rfl at_174 ?_
      refine own_aload H rfl rfl at_176 ?_
      refine own_invokevirtual H (a := a4) (argsL := [(.ref a4)]) (rest := []) (rmEqu l Z a0 (own_hw H) h52 n0 a4 a4 rfl) f70 (w1 := 50) (w0 := 51) (w5 := 53) (w2 := 52) (w3 := 3) (w4 := 54) rfl rfl rfl rfl rfl rfl own_pd16 rfl 0 (by decide) rfl (by decide) (Nat.le_of_eq rfl) (by decide) (by decide) (by decide) rfl at_178 ?_
      rintro _ _ ⟨rfl, rfl⟩
      show own_G _ _ _ _ _ _ _ _ 181 #[.val (.int p1), .val (.int p2), .val (.int p3), .val (.long p4), .second, .val (.long p5), .second, .val (.int p6), .val (.int ((p1 &&& (255 : Int32)).toUInt32.toUInt16.toUInt32.toInt32)), .val (.int ((p2 &&& (255 : Int32)).toUInt32.toUInt16.toUInt32.toInt32)), .val (.int (0 : Int32)), .val (.int (0 : Int32)), .val (.ref a4), .val (.int (p3.toInt8.toInt32)), .val (.int ((p3 >>> ((8 : Int32) &&& 31)).toInt8.toInt32)), .val (.ref a38), .val (.ref a54), .val (.ref a4), .unset, .unset] [(.int (1 : Int32))]
      refine own_ifne_t H (pc' := 186) at_181 (by decide) (by decide) (by decide) ?_
      refine own_aload H rfl rfl at_186 ?_
      refine own_invokevirtual H (a := a54) (argsL := []) (rest := []) (rmGpayloadJson l Z a0 (own_hw H) h52 n0 a54 a38 f60) f58 (w1 := 55) (w0 := 56) (w5 := 58) (w2 := 57) (w3 := 25) (w4 := 59) rfl rfl rfl rfl rfl rfl own_pd13 rfl 0 (by decide) rfl (by decide) (Nat.le_of_eq rfl) (by decide) (by decide) (by decide) rfl at_188 ?_
      rintro _ _ ⟨rfl, rfl⟩
      show own_G _ _ _ _ _ _ _ _ 191 #[.val (.int p1), .val (.int p2), .val (.int p3), .val (.long p4), .second, .val (.long p5), .second, .val (.int p6), .val (.int ((p1 &&& (255 : Int32)).toUInt32.toUInt16.toUInt32.toInt32)), .val (.int ((p2 &&& (255 : Int32)).toUInt32.toUInt16.toUInt32.toInt32)), .val (.int (0 : Int32)), .val (.int (0 : Int32)), .val (.ref a4), .val (.int (p3.toInt8.toInt32)), .val (.int ((p3 >>> ((8 : Int32) &&& 31)).toInt8.toInt32)), .val (.ref a38), .val (.ref a54), .val (.ref a4), .unset, .unset] [(.ref a38)]
      refine own_astore H rfl #[.val (.int p1), .val (.int p2), .val (.int p3), .val (.long p4), .second, .val (.long p5), .second, .val (.int p6), .val (.int ((p1 &&& (255 : Int32)).toUInt32.toUInt16.toUInt32.toInt32)), .val (.int ((p2 &&& (255 : Int32)).toUInt32.toUInt16.toUInt32.toInt32)), .val (.int (0 : Int32)), .val (.int (0 : Int32)), .val (.ref a4), .val (.int (p3.toInt8.toInt32)), .val (.int ((p3 >>> ((8 : Int32) &&& 31)).toInt8.toInt32)), .val (.ref a38), .val (.ref a54), .val (.ref a4), .val (.ref a38), .unset] rfl at_191 ?_
      refine own_aload H rfl rfl at_193 ?_
      refine own_ifnull_f H at_195 rfl (fun h => nomatch h) ?_
      refine own_aload H rfl rfl at_198 ?_
      refine own_arraylengthV H f72 at_200 ?_
      refine own_iload H rfl at_201 ?_
      refine own_icmpeq_t H (pc' := 208) at_203 (by decide) (by decide) (by decide) ?_
      refine own_iload H rfl at_208 ?_
      refine own_iconst H (1 : Int32) (by decide) at_210 ?_
      refine own_icmplt_t H (pc' := 225) at_211 (by decide) (by decide) (by decide) ?_
      refine own_iload H rfl at_225 ?_
      refine own_iconst H (2 : Int32) (by decide) at_227 ?_
      refine own_icmpne_t H (pc' := 242) at_228 (by decide) (by decide) (by decide) ?_
      refine own_aload H rfl rfl at_242 ?_
      refine own_invokevirtual H (a := a54) (argsL := []) (rest := []) (rmGsequence l Z a0 (own_hw H) h52 n0 a54 p4 f61) f58 (w1 := 60) (w0 := 61) (w5 := 63) (w2 := 62) (w3 := 25) (w4 := 64) rfl rfl rfl rfl rfl rfl own_pd14 rfl 0 (by decide) rfl (by decide) (Nat.le_of_eq rfl) (by decide) (by decide) (by decide) rfl at_244 ?_
      rintro _ _ ⟨rfl, rfl⟩
      show own_G _ _ _ _ _ _ _ _ 247 #[.val (.int p1), .val (.int p2), .val (.int p3), .val (.long p4), .second, .val (.long p5), .second, .val (.int p6), .val (.int ((p1 &&& (255 : Int32)).toUInt32.toUInt16.toUInt32.toInt32)), .val (.int ((p2 &&& (255 : Int32)).toUInt32.toUInt16.toUInt32.toInt32)), .val (.int (0 : Int32)), .val (.int (0 : Int32)), .val (.ref a4), .val (.int (p3.toInt8.toInt32)), .val (.int ((p3 >>> ((8 : Int32) &&& 31)).toInt8.toInt32)), .val (.ref a38), .val (.ref a54), .val (.ref a4), .val (.ref a38), .unset] [(.long p4)]
      refine own_lload_n H rfl at_247 ?_
      refine own_lcmpeq_t H (pc' := 254) at_248 at_249 (by decide) (by decide) rfl ?_
      refine own_aload H rfl rfl at_254 ?_
      refine own_invokevirtual H (a := a54) (argsL := []) (rest := []) (rmGattempts l Z a0 (own_hw H) h52 n0 a54 (0 : Int32) f62) f58 (w1 := 65) (w0 := 66) (w5 := 68) (w2 := 67) (w3 := 25) (w4 := 69) rfl rfl rfl rfl rfl rfl own_pd15 rfl 0 (by decide) rfl (by decide) (Nat.le_of_eq rfl) (by decide) (by decide) (by decide) rfl at_256 ?_
      rintro _ _ ⟨rfl, rfl⟩
      show own_G _ _ _ _ _ _ _ _ 259 #[.val (.int p1), .val (.int p2), .val (.int p3), .val (.long p4), .second, .val (.long p5), .second, .val (.int p6), .val (.int ((p1 &&& (255 : Int32)).toUInt32.toUInt16.toUInt32.toInt32)), .val (.int ((p2 &&& (255 : Int32)).toUInt32.toUInt16.toUInt32.toInt32)), .val (.int (0 : Int32)), .val (.int (0 : Int32)), .val (.ref a4), .val (.int (p3.toInt8.toInt32)), .val (.int ((p3 >>> ((8 : Int32) &&& 31)).toInt8.toInt32)), .val (.ref a38), .val (.ref a54), .val (.ref a4), .val (.ref a38), .unset] [(.int (0 : Int32))]
      refine own_ifeq_t H (pc' := 264) at_259 (by decide) (by decide) (by decide) ?_
      refine own_aload H rfl rfl at_264 ?_
      refine own_invokevirtual H (a := a54) (argsL := []) (rest := []) (rmGlastError l Z a0 (own_hw H) h52 n0 a54 f64) f58 (w1 := 70) (w0 := 71) (w5 := 73) (w2 := 72) (w3 := 25) (w4 := 74) rfl rfl rfl rfl rfl rfl own_pd12 rfl 0 (by decide) rfl (by decide) (Nat.le_of_eq rfl) (by decide) (by decide) (by decide) rfl at_266 ?_
      rintro _ _ ⟨rfl, rfl⟩
      show own_G _ _ _ _ _ _ _ _ 269 #[.val (.int p1), .val (.int p2), .val (.int p3), .val (.long p4), .second, .val (.long p5), .second, .val (.int p6), .val (.int ((p1 &&& (255 : Int32)).toUInt32.toUInt16.toUInt32.toInt32)), .val (.int ((p2 &&& (255 : Int32)).toUInt32.toUInt16.toUInt32.toInt32)), .val (.int (0 : Int32)), .val (.int (0 : Int32)), .val (.ref a4), .val (.int (p3.toInt8.toInt32)), .val (.int ((p3 >>> ((8 : Int32) &&& 31)).toInt8.toInt32)), .val (.ref a38), .val (.ref a54), .val (.ref a4), .val (.ref a38), .unset] [.null]
      refine own_ifnull_t H (pc' := 274) at_269 (by decide) (by decide) rfl rfl ?_
      refine own_aload H rfl rfl at_274 ?_
      refine own_lload H rfl at_276 ?_
      refine own_invokevirtual H (a := a54) (argsL := [(.long p5)]) (rest := []) (rmAtt l Z a0 (own_hw H) h52 n0 a54 p5 a4 a38 p4 f68 f59 f60 f61 f62 f64) f58 (w1 := 75) (w0 := 76) (w5 := 78) (w2 := 77) (w3 := 25) (w4 := 79) rfl rfl rfl rfl rfl rfl own_pd11 rfl 0 (by decide) rfl (by decide) (Nat.le_of_eq rfl) (by decide) (by decide) (by decide) rfl at_278 ?_
      rintro _ h73 ⟨a75, rfl, K74, f76, f77, f78, f79, f80, f81⟩
      have f82 : a16 ≠ a75 := Nat.ne_of_lt (Nat.lt_of_lt_of_le f71.lt f77)
      have f83 : a38 ≠ a75 := Nat.ne_of_lt (Nat.lt_of_lt_of_le f72.lt f77)
      have f84 : a4 ≠ a75 := Nat.ne_of_lt (Nat.lt_of_lt_of_le f70.lt f77)
      have f85 : a54 ≠ a75 := Nat.ne_of_lt (Nat.lt_of_lt_of_le f58.lt f77)
      have f86 : n0 ≤ h73.size := Nat.le_trans f68 K74.1
      have f87 : Old Z n0 h73 := f69.keep K74 all0
      have f88 : Exa Z h73 a4 "java/lang/String" := f70.keep K74
      have f89 : Arv Z h73 a16 kA17 .char (0 : Int32) [] (.int 0) := f71.keep K74 nin0
      have f90 : Arv Z h73 a38 kA39 .byte (0 : Int32) [] (.int 0) := f72.keep K74 nin0
      have f91 : Exa Z h73 a54 "com/example/ring_to_run/ringtorun/service/Callback" := f58.keep K74
      have f92 : Fld Z h73 a54 "com/example/ring_to_run/ringtorun/service/Callback" "url" "Ljava/lang/String;" (.ref a4) := f59.keep K74 nin0
      have f93 : Fld Z h73 a54 "com/example/ring_to_run/ringtorun/service/Callback" "payloadJson" "[B" (.ref a38) := f60.keep K74 nin0
      have f94 : Fld Z h73 a54 "com/example/ring_to_run/ringtorun/service/Callback" "sequence" "J" (.long p4) := f61.keep K74 nin0
      have f95 : Fld Z h73 a54 "com/example/ring_to_run/ringtorun/service/Callback" "attempts" "I" (.int (0 : Int32)) := f62.keep K74 nin0
      have f96 : Fld Z h73 a54 "com/example/ring_to_run/ringtorun/service/Callback" "dueAt" "J" (.long (0 : Int64)) := f63.keep K74 nin0
      have f97 : Fld Z h73 a54 "com/example/ring_to_run/ringtorun/service/Callback" "lastError" "Ljava/lang/String;" .null := f64.keep K74 nin0
      show own_G _ _ _ _ _ _ _ _ 281 #[.val (.int p1), .val (.int p2), .val (.int p3), .val (.long p4), .second, .val (.long p5), .second, .val (.int p6), .val (.int ((p1 &&& (255 : Int32)).toUInt32.toUInt16.toUInt32.toInt32)), .val (.int ((p2 &&& (255 : Int32)).toUInt32.toUInt16.toUInt32.toInt32)), .val (.int (0 : Int32)), .val (.int (0 : Int32)), .val (.ref a4), .val (.int (p3.toInt8.toInt32)), .val (.int ((p3 >>> ((8 : Int32) &&& 31)).toInt8.toInt32)), .val (.ref a38), .val (.ref a54), .val (.ref a4), .val (.ref a38), .unset] [(.ref a75)]
      refine own_astore H rfl #[.val (.int p1), .val (.int p2), .val (.int p3), .val (.long p4), .second, .val (.long p5), .second, .val (.int p6), .val (.int ((p1 &&& (255 : Int32)).toUInt32.toUInt16.toUInt32.toInt32)), .val (.int ((p2 &&& (255 : Int32)).toUInt32.toUInt16.toUInt32.toInt32)), .val (.int (0 : Int32)), .val (.int (0 : Int32)), .val (.ref a4), .val (.int (p3.toInt8.toInt32)), .val (.int ((p3 >>> ((8 : Int32) &&& 31)).toInt8.toInt32)), .val (.ref a38), .val (.ref a54), .val (.ref a4), .val (.ref a38), .val (.ref a75)] rfl at_281 ?_
      refine own_aload H rfl rfl at_283 ?_
      refine own_invokevirtual H (a := a75) (argsL := []) (rest := []) (rmGattempts l Z a0 (own_hw H) h73 n0 a75 (1 : Int32) f80) f79 (w1 := 65) (w0 := 66) (w5 := 68) (w2 := 67) (w3 := 25) (w4 := 69) rfl rfl rfl rfl rfl rfl own_pd15 rfl 0 (by decide) rfl (by decide) (Nat.le_of_eq rfl) (by decide) (by decide) (by decide) rfl at_285 ?_
      rintro _ _ ⟨rfl, rfl⟩
      show own_G _ _ _ _ _ _ _ _ 288 #[.val (.int p1), .val (.int p2), .val (.int p3), .val (.long p4), .second, .val (.long p5), .second, .val (.int p6), .val (.int ((p1 &&& (255 : Int32)).toUInt32.toUInt16.toUInt32.toInt32)), .val (.int ((p2 &&& (255 : Int32)).toUInt32.toUInt16.toUInt32.toInt32)), .val (.int (0 : Int32)), .val (.int (0 : Int32)), .val (.ref a4), .val (.int (p3.toInt8.toInt32)), .val (.int ((p3 >>> ((8 : Int32) &&& 31)).toInt8.toInt32)), .val (.ref a38), .val (.ref a54), .val (.ref a4), .val (.ref a38), .val (.ref a75)] [(.int (1 : Int32))]
      refine own_iconst H (1 : Int32) (by decide) at_288 ?_
      refine own_icmpne_f H at_289 (by decide) ?_
      refine own_aload H rfl rfl at_292 ?_
      refine own_invokevirtual H (a := a75) (argsL := []) (rest := []) (rmGdueAt l Z a0 (own_hw H) h73 n0 a75 p5 f81) f79 (w1 := 80) (w0 := 81) (w5 := 83) (w2 := 82) (w3 := 25) (w4 := 84) rfl rfl rfl rfl rfl rfl own_pd14 rfl 0 (by decide) rfl (by decide) (Nat.le_of_eq rfl) (by decide) (by decide) (by decide) rfl at_294 ?_
      rintro _ _ ⟨rfl, rfl⟩
      show own_G _ _ _ _ _ _ _ _ 297 #[.val (.int p1), .val (.int p2), .val (.int p3), .val (.long p4), .second, .val (.long p5), .second, .val (.int p6), .val (.int ((p1 &&& (255 : Int32)).toUInt32.toUInt16.toUInt32.toInt32)), .val (.int ((p2 &&& (255 : Int32)).toUInt32.toUInt16.toUInt32.toInt32)), .val (.int (0 : Int32)), .val (.int (0 : Int32)), .val (.ref a4), .val (.int (p3.toInt8.toInt32)), .val (.int ((p3 >>> ((8 : Int32) &&& 31)).toInt8.toInt32)), .val (.ref a38), .val (.ref a54), .val (.ref a4), .val (.ref a38), .val (.ref a75)] [(.long p5)]
      refine own_lload H rfl at_297 ?_
      refine own_lcmpne_f H at_299 at_300 rfl ?_
      refine own_iconst H (1 : Int32) (by decide) at_303 ?_
      refine own_goto H (pc' := 308) at_304 (by decide) (by decide) ?_
      exact own_ireturn H (by simp) (by decide) at_308 (by decide) (by decide) rfl
    ·
      by_cases c98 : (((XT.ushr p6 (2 : Int32)) &&& (2147483647 : Int32)) % (3 : Int32)) = (1 : Int32)
      ·
        rw [c98]
        show own_G _ _ _ _ _ _ _ _ 36 #[.val (.int p1), .val (.int p2), .val (.int p3), .val (.long p4), .second, .val (.long p5), .second, .val (.int p6), .val (.int ((p1 &&& (255 : Int32)).toUInt32.toUInt16.toUInt32.toInt32)), .val (.int ((p2 &&& (255 : Int32)).toUInt32.toUInt16.toUInt32.toInt32)), .val (.int (0 : Int32)), .val (.int (1 : Int32)), .unset, .unset, .unset, .unset, .unset, .unset, .unset, .unset] []
        refine own_iload H rfl at_36 ?_
        refine own_ifne_f H at_38 (by decide) ?_
        refine own_new H (w := 1) (wi := 2) (wz := 3) rfl rfl rfl at_41 (by decide) (by decide) ?_
        intro h99 a100 ha101 E102 X103 D104
        have f105 : n0 ≤ a100 := by rw [ha101]; exact hZ0
        have f106 : n0 ≤ h99.size := Nat.le_trans hZ0 E102.1
        have f107 : Old Z n0 h99 := hO.ext E102
        have f108 : Sta Z h99 "java/lang/String" "COMPACT_STRINGS" "Z" (.int cs) := hS.ext E102
        have f109 : Fld Z h99 a100 "java/lang/String" "value" "[B" .null := D104 (Or.inr (own_w H (i := 17) rfl)) (ty := (.array .byte)) (by decide)
        have f110 : Fld Z h99 a100 "java/lang/String" "coder" "B" (.int (0 : Int32)) := D104 (Or.inr (own_w H (i := 18) rfl)) (ty := .byte) (by decide)
        show own_G _ _ _ _ _ _ _ _ 44 #[.val (.int p1), .val (.int p2), .val (.int p3), .val (.long p4), .second, .val (.long p5), .second, .val (.int p6), .val (.int ((p1 &&& (255 : Int32)).toUInt32.toUInt16.toUInt32.toInt32)), .val (.int ((p2 &&& (255 : Int32)).toUInt32.toUInt16.toUInt32.toInt32)), .val (.int (0 : Int32)), .val (.int (1 : Int32)), .unset, .unset, .unset, .unset, .unset, .unset, .unset, .unset] [(.ref a100)]
        refine own_dup H rfl at_44 ?_
        refine own_iconst H (0 : Int32) (by decide) at_45 ?_
        refine own_newarray H (w := 4) (n := (0 : Int32)) rfl (by decide) 0 (by decide) (by decide) at_46 (by decide) (by decide) ?_
        intro h111 a112 kA113 ha114 E115 V116
        have f118 : a100 ≠ a112 := Nat.ne_of_lt (by rw [ha114]; exact X103.lt)
        have f119 : n0 ≤ a112 := by rw [ha114]; exact f106
        have f120 : n0 ≤ h111.size := Nat.le_trans f106 E115.1
        have f121 : Old Z n0 h111 := f107.ext E115
        have f122 : Sta Z h111 "java/lang/String" "COMPACT_STRINGS" "Z" (.int cs) := f108.ext E115
        have f123 : Exa Z h111 a100 "java/lang/String" := X103.ext E115
        have f124 : Fld Z h111 a100 "java/lang/String" "value" "[B" .null := f109.ext E115
        have f125 : Fld Z h111 a100 "java/lang/String" "coder" "B" (.int (0 : Int32)) := f110.ext E115
        have f126 : Arv Z h111 a112 kA113 .char (0 : Int32) [] (.int 0) := V116.pad (pad_rep [] (.int 0) 0)
        show own_G _ _ _ _ _ _ _ _ 48 #[.val (.int p1), .val (.int p2), .val (.int p3), .val (.long p4), .second, .val (.long p5), .second, .val (.int p6), .val (.int ((p1 &&& (255 : Int32)).toUInt32.toUInt16.toUInt32.toInt32)), .val (.int ((p2 &&& (255 : Int32)).toUInt32.toUInt16.toUInt32.toInt32)), .val (.int (0 : Int32)), .val (.int (1 : Int32)), .unset, .unset, .unset, .unset, .unset, .unset, .unset, .unset] [(.ref a112), (.ref a100), (.ref a100)]
        refine own_invokespecialI H D I (a := a100) (argsL := [(.ref a112)]) (rest := [(.ref a100)]) (rmIe1 l Z a0 (own_hw H) h111 n0 a100 a112 kA113 f120 f123 f124 f125 f126 f118.symm f121.2.2 hh hcw f105) rfl (w1 := 5) (w2 := 6) (w3 := 3) (w4 := 7) rfl rfl rfl rfl own_pd8 rfl 1 (by decide) rfl (by decide) (Nat.le_of_eq rfl) (by decide) (by decide) (by decide) rfl at_48 ?_
        intro B _ h127 H D hq
        obtain ⟨rfl, K128⟩ := hq
        have f129 : n0 ≤ h127.size := Nat.le_trans f120 K128.1
        have f130 : Old Z n0 h127 := f121.keep K128 (allS f105 all0)
        have f131 : Exa Z h127 a100 "java/lang/String" := f123.keep K128
        have f132 : Arv Z h127 a112 kA113 .char (0 : Int32) [] (.int 0) := f126.keep K128 (ninS f118.symm nin0)
        show own_G _ _ _ _ _ _ _ _ 51 #[.val (.int p1), .val (.int p2), .val (.int p3), .val (.long p4), .second, .val (.long p5), .second, .val (.int p6), .val (.int ((p1 &&& (255 : Int32)).toUInt32.toUInt16.toUInt32.toInt32)), .val (.int ((p2 &&& (255 : Int32)).toUInt32.toUInt16.toUInt32.toInt32)), .val (.int (0 : Int32)), .val (.int (1 : Int32)), .unset, .unset, .unset, .unset, .unset, .unset, .unset, .unset] [(.ref a100)]
        refine own_astore H rfl #[.val (.int p1), .val (.int p2), .val (.int p3), .val (.long p4), .second, .val (.long p5), .second, .val (.int p6), .val (.int ((p1 &&& (255 : Int32)).toUInt32.toUInt16.toUInt32.toInt32)), .val (.int ((p2 &&& (255 : Int32)).toUInt32.toUInt16.toUInt32.toInt32)), .val (.int (0 : Int32)), .val (.int (1 : Int32)), .val (.ref a100), .unset, .unset, .unset, .unset, .unset, .unset, .unset] rfl at_51 ?_
        refine own_goto H (pc' := 94) at_53 (by decide) (by decide) ?_
        refine own_iload_n H rfl at_94 ?_
        refine own_i2b H rfl at_95 ?_
        refine own_istore H #[.val (.int p1), .val (.int p2), .val (.int p3), .val (.long p4), .second, .val (.long p5), .second, .val (.int p6), .val (.int ((p1 &&& (255 : Int32)).toUInt32.toUInt16.toUInt32.toInt32)), .val (.int ((p2 &&& (255 : Int32)).toUInt32.toUInt16.toUInt32.toInt32)), .val (.int (0 : Int32)), .val (.int (1 : Int32)), .val (.ref a100), .val (.int (p3.toInt8.toInt32)), .unset, .unset, .unset, .unset, .unset, .unset] rfl at_96 ?_
        refine own_iload_n H rfl at_98 ?_
        refine own_bipush H (8 : Int32) (by decide) at_99 ?_
        refine own_ishr H rfl at_101 ?_
        refine own_i2b H rfl at_102 ?_
        refine own_istore H #[.val (.int p1), .val (.int p2), .val (.int p3), .val (.long p4), .second, .val (.long p5), .second, .val (.int p6), .val (.int ((p1 &&& (255 : Int32)).toUInt32.toUInt16.toUInt32.toInt32)), .val (.int ((p2 &&& (255 : Int32)).toUInt32.toUInt16.toUInt32.toInt32)), .val (.int (0 : Int32)), .val (.int (1 : Int32)), .val (.ref a100), .val (.int (p3.toInt8.toInt32)), .val (.int ((p3 >>> ((8 : Int32) &&& 31)).toInt8.toInt32)), .unset, .unset, .unset, .unset, .unset] rfl at_103 ?_
        refine own_iload H rfl at_105 ?_
        refine own_ifne_t H (pc' := 118) at_107 (by decide) (by decide) (by decide) ?_
        refine own_iload H rfl at_118 ?_
        refine own_iconst H (1 : Int32) (by decide) at_120 ?_
        refine own_icmpne_f H at_121 (by decide) ?_
        refine own_iconst H (1 : Int32) (by decide) at_124 ?_
        refine own_newarray H (w := 16) (n := (1 : Int32)) rfl (by decide) 1 (by decide) (by decide) at_125 (by decide) (by decide) ?_
        intro h133 a134 kA135 ha136 E137 V138
        have f140 : a100 ≠ a134 := Nat.ne_of_lt (by rw [ha136]; exact f131.lt)
        have f141 : a112 ≠ a134 := Nat.ne_of_lt (by rw [ha136]; exact f132.lt)
        have f142 : n0 ≤ a134 := by rw [ha136]; exact f129
        have f143 : n0 ≤ h133.size := Nat.le_trans f129 E137.1
        have f144 : Old Z n0 h133 := f130.ext E137
        have f145 : Exa Z h133 a100 "java/lang/String" := f131.ext E137
        have f146 : Arv Z h133 a112 kA113 .char (0 : Int32) [] (.int 0) := f132.ext E137
        have f147 : Arv Z h133 a134 kA135 .byte (1 : Int32) [(.int 0)] (.int 0) := V138.pad (pad_rep [] (.int 0) 1)
        show own_G _ _ _ _ _ _ _ _ 127 #[.val (.int p1), .val (.int p2), .val (.int p3), .val (.long p4), .second, .val (.long p5), .second, .val (.int p6), .val (.int ((p1 &&& (255 : Int32)).toUInt32.toUInt16.toUInt32.toInt32)), .val (.int ((p2 &&& (255 : Int32)).toUInt32.toUInt16.toUInt32.toInt32)), .val (.int (0 : Int32)), .val (.int (1 : Int32)), .val (.ref a100), .val (.int (p3.toInt8.toInt32)), .val (.int ((p3 >>> ((8 : Int32) &&& 31)).toInt8.toInt32)), .unset, .unset, .unset, .unset, .unset] [(.ref a134)]
        refine own_dup H rfl at_127 ?_
        refine own_iconst H (0 : Int32) (by decide) at_128 ?_
        refine own_iload H rfl at_129 ?_
        refine own_bastoreV H f147 (by decide) (by decide) 0 (by decide) (Nat.le_of_ble_eq_true rfl) f142 rfl at_131 ?_
        intro h148 W149 V150
        have f151 : n0 ≤ h148.size := by rw [W149.size]; exact f143
        have f152 : Old Z n0 h148 := f144.wr W149 f142
        have f153 : Exa Z h148 a100 "java/lang/String" := f145.wr W149
        have f154 : Arv Z h148 a112 kA113 .char (0 : Int32) [] (.int 0) := f146.other W149 f141
        have f155 : Arv Z h148 a134 kA135 .byte (1 : Int32) [(.int (nar .byte (p3.toInt8.toInt32)))] (.int 0) := V150
        refine own_astore H rfl #[.val (.int p1), .val (.int p2), .val (.int p3), .val (.long p4), .second, .val (.long p5), .second, .val (.int p6), .val (.int ((p1 &&& (255 : Int32)).toUInt32.toUInt16.toUInt32.toInt32)), .val (.int ((p2 &&& (255 : Int32)).toUInt32.toUInt16.toUInt32.toInt32)), .val (.int (0 : Int32)), .val (.int (1 : Int32)), .val (.ref a100), .val (.int (p3.toInt8.toInt32)), .val (.int ((p3 >>> ((8 : Int32) &&& 31)).toInt8.toInt32)), .val (.ref a134), .unset, .unset, .unset, .unset] rfl at_132 ?_
        refine own_goto H (pc' := 152) at_134 (by decide) (by decide) ?_
        refine own_aload H rfl rfl at_152 ?_
        refine own_aload H rfl rfl at_154 ?_
        refine own_lload_n H rfl at_156 ?_
        refine own_invokestatic H (argsL := [(.ref a100), (.ref a134), (.long p4)]) (rest := []) (rmPst l Z a0 (own_hw H) h148 n0 a100 a134 p4 f151) (w1 := 23) (w2 := 24) (w3 := 25) (w4 := 26) rfl rfl rfl rfl own_pd10 rfl 0 (by decide) rfl (by decide) (Nat.le_of_eq rfl) (by decide) (by decide) (by decide) rfl at_157 ?_
        rintro _ h156 ⟨a158, rfl, K157, f159, f160, f161, f162, f163, f164, f165, f166, f167, f168⟩
        have f169 : a100 ≠ a158 := Nat.ne_of_lt (Nat.lt_of_lt_of_le f153.lt f160)
        have f170 : a112 ≠ a158 := Nat.ne_of_lt (Nat.lt_of_lt_of_le f154.lt f160)
        have f171 : a134 ≠ a158 := Nat.ne_of_lt (Nat.lt_of_lt_of_le f155.lt f160)
        have f172 : n0 ≤ h156.size := Nat.le_trans f151 K157.1
        have f173 : Old Z n0 h156 := f152.keep K157 all0
        have f174 : Exa Z h156 a100 "java/lang/String" := f153.keep K157
        have f175 : Arv Z h156 a112 kA113 .char (0 : Int32) [] (.int 0) := f154.keep K157 nin0
        have f176 : Arv Z h156 a134 kA135 .byte (1 : Int32) [(.int (nar .byte (p3.toInt8.toInt32)))] (.int 0) := f155.keep K157 nin0
        show own_G _ _ _ _ _ _ _ _ 160 #[.val (.int p1), .val (.int p2), .val (.int p3), .val (.long p4), .second, .val (.long p5), .second, .val (.int p6), .val (.int ((p1 &&& (255 : Int32)).toUInt32.toUInt16.toUInt32.toInt32)), .val (.int ((p2 &&& (255 : Int32)).toUInt32.toUInt16.toUInt32.toInt32)), .val (.int (0 : Int32)), .val (.int (1 : Int32)), .val (.ref a100), .val (.int (p3.toInt8.toInt32)), .val (.int ((p3 >>> ((8 : Int32) &&& 31)).toInt8.toInt32)), .val (.ref a134), .unset, .unset, .unset, .unset] [(.ref a158)]
        refine own_astore H rfl #[.val (.int p1), .val (.int p2), .val (.int p3), .val (.long p4), .second, .val (.long p5), .second, .val (.int p6), .val (.int ((p1 &&& (255 : Int32)).toUInt32.toUInt16.toUInt32.toInt32)), .val (.int ((p2 &&& (255 : Int32)).toUInt32.toUInt16.toUInt32.toInt32)), .val (.int (0 : Int32)), .val (.int (1 : Int32)), .val (.ref a100), .val (.int (p3.toInt8.toInt32)), .val (.int ((p3 >>> ((8 : Int32) &&& 31)).toInt8.toInt32)), .val (.ref a134), .val (.ref a158), .unset, .unset, .unset] rfl at_160 ?_
        refine own_aload H rfl rfl at_162 ?_
        refine own_invokevirtual H (a := a158) (argsL := []) (rest := []) (rmGurl l Z a0 (own_hw H) h156 n0 a158 a100 f163) f162 (w1 := 45) (w0 := 46) (w5 := 48) (w2 := 47) (w3 := 25) (w4 := 49) rfl rfl rfl rfl rfl rfl own_pd12 rfl 0 (by decide) rfl (by decide) (Nat.le_of_eq rfl) (by decide) (by decide) (by decide) rfl at_164 ?_
        rintro _ _ ⟨rfl, rfl⟩
        show own_G _ _ _ _ _ _ _ _ 167 #[.val (.int p1), .val (.int p2), .val (.int p3), .val (.long p4), .second, .val (.long p5), .second, .val (.int p6), .val (.int ((p1 &&& (255 : Int32)).toUInt32.toUInt16.toUInt32.toInt32)), .val (.int ((p2 &&& (255 : Int32)).toUInt32.toUInt16.toUInt32.toInt32)), .val (.int (0 : Int32)), .val (.int (1 : Int32)), .val (.ref a100), .val (.int (p3.toInt8.toInt32)), .val (.int ((p3 >>> ((8 : Int32) &&& 31)).toInt8.toInt32)), .val (.ref a134), .val (.ref a158), .unset, .unset, .unset] [(.ref a100)]
        refine own_astore H rfl #[.val (.int p1), .val (.int p2), .val (.int p3), .val (.long p4), .second, .val (.long p5), .second, .val (.int p6), .val (.int ((p1 &&& (255 : Int32)).toUInt32.toUInt16.toUInt32.toInt32)), .val (.int ((p2 &&& (255 : Int32)).toUInt32.toUInt16.toUInt32.toInt32)), .val (.int (0 : Int32)), .val (.int (1 : Int32)), .val (.ref a100), .val (.int (p3.toInt8.toInt32)), .val (.int ((p3 >>> ((8 : Int32) &&& 31)).toInt8.toInt32)), .val (.ref a134), .val (.ref a158), .val (.ref a100), .unset, .unset] rfl at_167 ?_
        refine own_aload H rfl rfl at_169 ?_
        refine own_ifnull_f H at_171 rfl (fun h => nomatch h) ?_
        refine own_aload H rfl rfl at_174 ?_
        refine own_aload H rfl rfl at_176 ?_
        refine own_invokevirtual H (a := a100) (argsL := [(.ref a100)]) (rest := []) (rmEqu l Z a0 (own_hw H) h156 n0 a100 a100 rfl) f174 (w1 := 50) (w0 := 51) (w5 := 53) (w2 := 52) (w3 := 3) (w4 := 54) rfl rfl rfl rfl rfl rfl own_pd16 rfl 0 (by decide) rfl (by decide) (Nat.le_of_eq rfl) (by decide) (by decide) (by decide) rfl at_178 ?_
        rintro _ _ ⟨rfl, rfl⟩
        show own_G _ _ _ _ _ _ _ _ 181 #[.val (.int p1), .val (.int p2), .val (.int p3), .val (.long p4), .second, .val (.long p5), .second, .val (.int p6), .val (.int ((p1 &&& (255 : Int32)).toUInt32.toUInt16.toUInt32.toInt32)), .val (.int ((p2 &&& (255 : Int32)).toUInt32.toUInt16.toUInt32.toInt32)), .val (.int (0 : Int32)), .val (.int (1 : Int32)), .val (.ref a100), .val (.int (p3.toInt8.toInt32)), .val (.int ((p3 >>> ((8 : Int32) &&& 31)).toInt8.toInt32)), .val (.ref a134), .val (.ref a158), .val (.ref a100), .unset, .unset] [(.int (1 : Int32))]
        refine own_ifne_t H (pc' := 186) at_181 (by decide) (by decide) (by decide) ?_
        refine own_aload H rfl rfl at_186 ?_
        refine own_invokevirtual H (a := a158) (argsL := []) (rest := []) (rmGpayloadJson l Z a0 (own_hw H) h156 n0 a158 a134 f164) f162 (w1 := 55) (w0 := 56) (w5 := 58) (w2 := 57) (w3 := 25) (w4 := 59) rfl rfl rfl rfl rfl rfl own_pd13 rfl 0 (by decide) rfl (by decide) (Nat.le_of_eq rfl) (by decide) (by decide) (by decide) rfl at_188 ?_
        rintro _ _ ⟨rfl, rfl⟩
        show own_G _ _ _ _ _ _ _ _ 191 #[.val (.int p1), .val (.int p2), .val (.int p3), .val (.long p4), .second, .val (.long p5), .second, .val (.int p6), .val (.int ((p1 &&& (255 : Int32)).toUInt32.toUInt16.toUInt32.toInt32)), .val (.int ((p2 &&& (255 : Int32)).toUInt32.toUInt16.toUInt32.toInt32)), .val (.int (0 : Int32)), .val (.int (1 : Int32)), .val (.ref a100), .val (.int (p3.toInt8.toInt32)), .val (.int ((p3 >>> ((8 : Int32) &&& 31)).toInt8.toInt32)), .val (.ref a134), .val (.ref a158), .val (.ref a100), .unset, .unset] [(.ref a134)]
        refine own_astore H rfl #[.val (.int p1), .val (.int p2), .val (.int p3), .val (.long p4), .second, .val (.long p5), .second, .val (.int p6), .val (.int ((p1 &&& (255 : Int32)).toUInt32.toUInt16.toUInt32.toInt32)), .val (.int ((p2 &&& (255 : Int32)).toUInt32.toUInt16.toUInt32.toInt32)), .val (.int (0 : Int32)), .val (.int (1 : Int32)), .val (.ref a100), .val (.int (p3.toInt8.toInt32)), .val (.int ((p3 >>> ((8 : Int32) &&& 31)).toInt8.toInt32)), .val (.ref a134), .val (.ref a158), .val (.ref a100), .val (.ref a134), .unset] rfl at_191 ?_
        refine own_aload H rfl rfl at_193 ?_
        refine own_ifnull_f H at_195 rfl (fun h => nomatch h) ?_
        refine own_aload H rfl rfl at_198 ?_
        refine own_arraylengthV H f176 at_200 ?_
        refine own_iload H rfl at_201 ?_
        refine own_icmpeq_t H (pc' := 208) at_203 (by decide) (by decide) (by decide) ?_
        refine own_iload H rfl at_208 ?_
        refine own_iconst H (1 : Int32) (by decide) at_210 ?_
        refine own_icmplt_f H at_211 (by decide) ?_
        refine own_aload H rfl rfl at_214 ?_
        refine own_iconst H (0 : Int32) (by decide) at_216 ?_
        refine own_baloadV H f176 (by decide) (by decide) rfl at_217 ?_
        refine own_iload H rfl at_218 ?_
        refine own_icmpeq_t H (pc' := 225) at_220 (by decide) (by decide) (own_nbi _) ?_
        refine own_iload H rfl at_225 ?_
        refine own_iconst H (2 : Int32) (by decide) at_227 ?_
        refine own_icmpne_t H (pc' := 242) at_228 (by decide) (by decide) (by decide) ?_
        refine own_aload H rfl rfl at_242 ?_
        refine own_invokevirtual H (a := a158) (argsL := []) (rest := []) (rmGsequence l Z a0 (own_hw H) h156 n0 a158 p4 f165) f162 (w1 := 60) (w0 := 61) (w5 := 63) (w2 := 62) (w3 := 25) (w4 := 64) rfl rfl rfl rfl rfl rfl own_pd14 rfl 0 (by decide) rfl (by decide) (Nat.le_of_eq rfl) (by decide) (by decide) (by decide) rfl at_244 ?_
        rintro _ _ ⟨rfl, rfl⟩
        show own_G _ _ _ _ _ _ _ _ 247 #[.val (.int p1), .val (.int p2), .val (.int p3), .val (.long p4), .second, .val (.long p5), .second, .val (.int p6), .val (.int ((p1 &&& (255 : Int32)).toUInt32.toUInt16.toUInt32.toInt32)), .val (.int ((p2 &&& (255 : Int32)).toUInt32.toUInt16.toUInt32.toInt32)), .val (.int (0 : Int32)), .val (.int (1 : Int32)), .val (.ref a100), .val (.int (p3.toInt8.toInt32)), .val (.int ((p3 >>> ((8 : Int32) &&& 31)).toInt8.toInt32)), .val (.ref a134), .val (.ref a158), .val (.ref a100), .val (.ref a134), .unset] [(.long p4)]
        refine own_lload_n H rfl at_247 ?_
        refine own_lcmpeq_t H (pc' := 254) at_248 at_249 (by decide) (by decide) rfl ?_
        refine own_aload H rfl rfl at_254 ?_
        refine own_invokevirtual H (a := a158) (argsL := []) (rest := []) (rmGattempts l Z a0 (own_hw H) h156 n0 a158 (0 : Int32) f166) f162 (w1 := 65) (w0 := 66) (w5 := 68) (w2 := 67) (w3 := 25) (w4 := 69) rfl rfl rfl rfl rfl rfl own_pd15 rfl 0 (by decide) rfl (by decide) (Nat.le_of_eq rfl) (by decide) (by decide) (by decide) rfl at_256 ?_
        rintro _ _ ⟨rfl, rfl⟩
        show own_G _ _ _ _ _ _ _ _ 259 #[.val (.int p1), .val (.int p2), .val (.int p3), .val (.long p4), .second, .val (.long p5), .second, .val (.int p6), .val (.int ((p1 &&& (255 : Int32)).toUInt32.toUInt16.toUInt32.toInt32)), .val (.int ((p2 &&& (255 : Int32)).toUInt32.toUInt16.toUInt32.toInt32)), .val (.int (0 : Int32)), .val (.int (1 : Int32)), .val (.ref a100), .val (.int (p3.toInt8.toInt32)), .val (.int ((p3 >>> ((8 : Int32) &&& 31)).toInt8.toInt32)), .val (.ref a134), .val (.ref a158), .val (.ref a100), .val (.ref a134), .unset] [(.int (0 : Int32))]
        refine own_ifeq_t H (pc' := 264) at_259 (by decide) (by decide) (by decide) ?_
        refine own_aload H rfl rfl at_264 ?_
        refine own_invokevirtual H (a := a158) (argsL := []) (rest := []) (rmGlastError l Z a0 (own_hw H) h156 n0 a158 f168) f162 (w1 := 70) (w0 := 71) (w5 := 73) (w2 := 72) (w3 := 25) (w4 := 74) rfl rfl rfl rfl rfl rfl own_pd12 rfl 0 (by decide) rfl (by decide) (Nat.le_of_eq rfl) (by decide) (by decide) (by decide) rfl at_266 ?_
        rintro _ _ ⟨rfl, rfl⟩
        show own_G _ _ _ _ _ _ _ _ 269 #[.val (.int p1), .val (.int p2), .val (.int p3), .val (.long p4), .second, .val (.long p5), .second, .val (.int p6), .val (.int ((p1 &&& (255 : Int32)).toUInt32.toUInt16.toUInt32.toInt32)), .val (.int ((p2 &&& (255 : Int32)).toUInt32.toUInt16.toUInt32.toInt32)), .val (.int (0 : Int32)), .val (.int (1 : Int32)), .val (.ref a100), .val (.int (p3.toInt8.toInt32)), .val (.int ((p3 >>> ((8 : Int32) &&& 31)).toInt8.toInt32)), .val (.ref a134), .val (.ref a158), .val (.ref a100), .val (.ref a134), .unset] [.null]
        refine own_ifnull_t H (pc' := 274) at_269 (by decide) (by decide) rfl rfl ?_
        refine own_aload H rfl rfl at_274 ?_
        refine own_lload H rfl at_276 ?_
        refine own_invokevirtual H (a := a158) (argsL := [(.long p5)]) (rest := []) (rmAtt l Z a0 (own_hw H) h156 n0 a158 p5 a100 a134 p4 f172 f163 f164 f165 f166 f168) f162 (w1 := 75) (w0 := 76) (w5 := 78) (w2 := 77) (w3 := 25) (w4 := 79) rfl rfl rfl rfl rfl rfl own_pd11 rfl 0 (by decide) rfl (by decide) (Nat.le_of_eq rfl) (by decide) (by decide) (by decide) rfl at_278 ?_
        rintro _ h177 ⟨a179, rfl, K178, f180, f181, f182, f183, f184, f185⟩
        have f186 : a100 ≠ a179 := Nat.ne_of_lt (Nat.lt_of_lt_of_le f174.lt f181)
        have f187 : a112 ≠ a179 := Nat.ne_of_lt (Nat.lt_of_lt_of_le f175.lt f181)
        have f188 : a134 ≠ a179 := Nat.ne_of_lt (Nat.lt_of_lt_of_le f176.lt f181)
        have f189 : a158 ≠ a179 := Nat.ne_of_lt (Nat.lt_of_lt_of_le f162.lt f181)
        have f190 : n0 ≤ h177.size := Nat.le_trans f172 K178.1
        have f191 : Old Z n0 h177 := f173.keep K178 all0
        have f192 : Exa Z h177 a100 "java/lang/String" := f174.keep K178
        have f193 : Arv Z h177 a112 kA113 .char (0 : Int32) [] (.int 0) := f175.keep K178 nin0
        have f194 : Arv Z h177 a134 kA135 .byte (1 : Int32) [(.int (nar .byte (p3.toInt8.toInt32)))] (.int 0) := f176.keep K178 nin0
        have f195 : Exa Z h177 a158 "com/example/ring_to_run/ringtorun/service/Callback" := f162.keep K178
        have f196 : Fld Z h177 a158 "com/example/ring_to_run/ringtorun/service/Callback" "url" "Ljava/lang/String;" (.ref a100) := f163.keep K178 nin0
        have f197 : Fld Z h177 a158 "com/example/ring_to_run/ringtorun/service/Callback" "payloadJson" "[B" (.ref a134) := f164.keep K178 nin0
        have f198 : Fld Z h177 a158 "com/example/ring_to_run/ringtorun/service/Callback" "sequence" "J" (.long p4) := f165.keep K178 nin0
        have f199 : Fld Z h177 a158 "com/example/ring_to_run/ringtorun/service/Callback" "attempts" "I" (.int (0 : Int32)) := f166.keep K178 nin0
        have f200 : Fld Z h177 a158 "com/example/ring_to_run/ringtorun/service/Callback" "dueAt" "J" (.long (0 : Int64)) := f167.keep K178 nin0
        have f201 : Fld Z h177 a158 "com/example/ring_to_run/ringtorun/service/Callback" "lastError" "Ljava/lang/String;" .null := f168.keep K178 nin0
        show own_G _ _ _ _ _ _ _ _ 281 #[.val (.int p1), .val (.int p2), .val (.int p3), .val (.long p4), .second, .val (.long p5), .second, .val (.int p6), .val (.int ((p1 &&& (255 : Int32)).toUInt32.toUInt16.toUInt32.toInt32)), .val (.int ((p2 &&& (255 : Int32)).toUInt32.toUInt16.toUInt32.toInt32)), .val (.int (0 : Int32)), .val (.int (1 : Int32)), .val (.ref a100), .val (.int (p3.toInt8.toInt32)), .val (.int ((p3 >>> ((8 : Int32) &&& 31)).toInt8.toInt32)), .val (.ref a134), .val (.ref a158), .val (.ref a100), .val (.ref a134), .unset] [(.ref a179)]
        refine own_astore H rfl #[.val (.int p1), .val (.int p2), .val (.int p3), .val (.long p4), .second, .val (.long p5), .second, .val (.int p6), .val (.int ((p1 &&& (255 : Int32)).toUInt32.toUInt16.toUInt32.toInt32)), .val (.int ((p2 &&& (255 : Int32)).toUInt32.toUInt16.toUInt32.toInt32)), .val (.int (0 : Int32)), .val (.int (1 : Int32)), .val (.ref a100), .val (.int (p3.toInt8.toInt32)), .val (.int ((p3 >>> ((8 : Int32) &&& 31)).toInt8.toInt32)), .val (.ref a134), .val (.ref a158), .val (.ref a100), .val (.ref a134), .val (.ref a179)] rfl at_281 ?_
        refine own_aload H rfl rfl at_283 ?_
        refine own_invokevirtual H (a := a179) (argsL := []) (rest := []) (rmGattempts l Z a0 (own_hw H) h177 n0 a179 (1 : Int32) f184) f183 (w1 := 65) (w0 := 66) (w5 := 68) (w2 := 67) (w3 := 25) (w4 := 69) rfl rfl rfl rfl rfl rfl own_pd15 rfl 0 (by decide) rfl (by decide) (Nat.le_of_eq rfl) (by decide) (by decide) (by decide) rfl at_285 ?_
        rintro _ _ ⟨rfl, rfl⟩
        show own_G _ _ _ _ _ _ _ _ 288 #[.val (.int p1), .val (.int p2), .val (.int p3), .val (.long p4), .second, .val (.long p5), .second, .val (.int p6), .val (.int ((p1 &&& (255 : Int32)).toUInt32.toUInt16.toUInt32.toInt32)), .val (.int ((p2 &&& (255 : Int32)).toUInt32.toUInt16.toUInt32.toInt32)), .val (.int (0 : Int32)), .val (.int (1 : Int32)), .val (.ref a100), .val (.int (p3.toInt8.toInt32)), .val (.int ((p3 >>> ((8 : Int32) &&& 31)).toInt8.toInt32)), .val (.ref a134), .val (.ref a158), .val (.ref a100), .val (.ref a134), .val (.ref a179)] [(.int (1 : Int32))]
        refine own_iconst H (1 : Int32) (by decide) at_288 ?_
        refine own_icmpne_f H at_289 (by decide) ?_
        refine own_aload H rfl rfl at_292 ?_
        refine own_invokevirtual H (a := a179) (argsL := []) (rest := []) (rmGdueAt l Z a0 (own_hw H) h177 n0 a179 p5 f185) f183 (w1 := 80) (w0 := 81) (w5 := 83) (w2 := 82) (w3 := 25) (w4 := 84) rfl rfl rfl rfl rfl rfl own_pd14 rfl 0 (by decide) rfl (by decide) (Nat.le_of_eq rfl) (by decide) (by decide) (by decide) rfl at_294 ?_
        rintro _ _ ⟨rfl, rfl⟩
        show own_G _ _ _ _ _ _ _ _ 297 #[.val (.int p1), .val (.int p2), .val (.int p3), .val (.long p4), .second, .val (.long p5), .second, .val (.int p6), .val (.int ((p1 &&& (255 : Int32)).toUInt32.toUInt16.toUInt32.toInt32)), .val (.int ((p2 &&& (255 : Int32)).toUInt32.toUInt16.toUInt32.toInt32)), .val (.int (0 : Int32)), .val (.int (1 : Int32)), .val (.ref a100), .val (.int (p3.toInt8.toInt32)), .val (.int ((p3 >>> ((8 : Int32) &&& 31)).toInt8.toInt32)), .val (.ref a134), .val (.ref a158), .val (.ref a100), .val (.ref a134), .val (.ref a179)] [(.long p5)]
        refine own_lload H rfl at_297 ?_
        refine own_lcmpne_f H at_299 at_300 rfl ?_
        refine own_iconst H (1 : Int32) (by decide) at_303 ?_
        refine own_goto H (pc' := 308) at_304 (by decide) (by decide) ?_
        exact own_ireturn H (by simp) (by decide) at_308 (by decide) (by decide) rfl
      ·
        have c202 : (((XT.ushr p6 (2 : Int32)) &&& (2147483647 : Int32)) % (3 : Int32)) = (2 : Int32) := own_k3 _ c2 c98
        rw [c202]
        show own_G _ _ _ _ _ _ _ _ 36 #[.val (.int p1), .val (.int p2), .val (.int p3), .val (.long p4), .second, .val (.long p5), .second, .val (.int p6), .val (.int ((p1 &&& (255 : Int32)).toUInt32.toUInt16.toUInt32.toInt32)), .val (.int ((p2 &&& (255 : Int32)).toUInt32.toUInt16.toUInt32.toInt32)), .val (.int (0 : Int32)), .val (.int (2 : Int32)), .unset, .unset, .unset, .unset, .unset, .unset, .unset, .unset] []
        refine own_iload H rfl at_36 ?_
        refine own_ifne_f H at_38 (by decide) ?_
        refine own_new H (w := 1) (wi := 2) (wz := 3) rfl rfl rfl at_41 (by decide) (by decide) ?_
        intro h203 a204 ha205 E206 X207 D208
        have f209 : n0 ≤ a204 := by rw [ha205]; exact hZ0
        have f210 : n0 ≤ h203.size := Nat.le_trans hZ0 E206.1
        have f211 : Old Z n0 h203 := hO.ext E206
        have f212 : Sta Z h203 "java/lang/String" "COMPACT_STRINGS" "Z" (.int cs) := hS.ext E206
        have f213 : Fld Z h203 a204 "java/lang/String" "value" "[B" .null := D208 (Or.inr (own_w H (i := 17) rfl)) (ty := (.array .byte)) (by decide)
        have f214 : Fld Z h203 a204 "java/lang/String" "coder" "B" (.int (0 : Int32)) := D208 (Or.inr (own_w H (i := 18) rfl)) (ty := .byte) (by decide)
        show own_G _ _ _ _ _ _ _ _ 44 #[.val (.int p1), .val (.int p2), .val (.int p3), .val (.long p4), .second, .val (.long p5), .second, .val (.int p6), .val (.int ((p1 &&& (255 : Int32)).toUInt32.toUInt16.toUInt32.toInt32)), .val (.int ((p2 &&& (255 : Int32)).toUInt32.toUInt16.toUInt32.toInt32)), .val (.int (0 : Int32)), .val (.int (2 : Int32)), .unset, .unset, .unset, .unset, .unset, .unset, .unset, .unset] [(.ref a204)]
        refine own_dup H rfl at_44 ?_
        refine own_iconst H (0 : Int32) (by decide) at_45 ?_
        refine own_newarray H (w := 4) (n := (0 : Int32)) rfl (by decide) 0 (by decide) (by decide) at_46 (by decide) (by decide) ?_
        intro h215 a216 kA217 ha218 E219 V220
        have f222 : a204 ≠ a216 := Nat.ne_of_lt (by rw [ha218]; exact X207.lt)
        have f223 : n0 ≤ a216 := by rw [ha218]; exact f210
        have f224 : n0 ≤ h215.size := Nat.le_trans f210 E219.1
        have f225 : Old Z n0 h215 := f211.ext E219
        have f226 : Sta Z h215 "java/lang/String" "COMPACT_STRINGS" "Z" (.int cs) := f212.ext E219
        have f227 : Exa Z h215 a204 "java/lang/String" := X207.ext E219
        have f228 : Fld Z h215 a204 "java/lang/String" "value" "[B" .null := f213.ext E219
        have f229 : Fld Z h215 a204 "java/lang/String" "coder" "B" (.int (0 : Int32)) := f214.ext E219
        have f230 : Arv Z h215 a216 kA217 .char (0 : Int32) [] (.int 0) := V220.pad (pad_rep [] (.int 0) 0)
        show own_G _ _ _ _ _ _ _ _ 48 #[.val (.int p1), .val (.int p2), .val (.int p3), .val (.long p4), .second, .val (.long p5), .second, .val (.int p6), .val (.int ((p1 &&& (255 : Int32)).toUInt32.toUInt16.toUInt32.toInt32)), .val (.int ((p2 &&& (255 : Int32)).toUInt32.toUInt16.toUInt32.toInt32)), .val (.int (0 : Int32)), .val (.int (2 : Int32)), .unset, .unset, .unset, .unset, .unset, .unset, .unset, .unset] [(.ref a216), (.ref a204), (.ref a204)]
        refine own_invokespecialI H D I (a := a204) (argsL := [(.ref a216)]) (rest := [(.ref a204)]) (rmIe1 l Z a0 (own_hw H) h215 n0 a204 a216 kA217 f224 f227 f228 f229 f230 f222.symm f225.2.2 hh hcw f209) rfl (w1 := 5) (w2 := 6) (w3 := 3) (w4 := 7) rfl rfl rfl rfl own_pd8 rfl 1 (by decide) rfl (by decide) (Nat.le_of_eq rfl) (by decide) (by decide) (by decide) rfl at_48 ?_
        intro B _ h231 H D hq
        obtain ⟨rfl, K232⟩ := hq
        have f233 : n0 ≤ h231.size := Nat.le_trans f224 K232.1
        have f234 : Old Z n0 h231 := f225.keep K232 (allS f209 all0)
        have f235 : Exa Z h231 a204 "java/lang/String" := f227.keep K232
        have f236 : Arv Z h231 a216 kA217 .char (0 : Int32) [] (.int 0) := f230.keep K232 (ninS f222.symm nin0)
        show own_G _ _ _ _ _ _ _ _ 51 #[.val (.int p1), .val (.int p2), .val (.int p3), .val (.long p4), .second, .val (.long p5), .second, .val (.int p6), .val (.int ((p1 &&& (255 : Int32)).toUInt32.toUInt16.toUInt32.toInt32)), .val (.int ((p2 &&& (255 : Int32)).toUInt32.toUInt16.toUInt32.toInt32)), .val (.int (0 : Int32)), .val (.int (2 : Int32)), .unset, .unset, .unset, .unset, .unset, .unset, .unset, .unset] [(.ref a204)]
        refine own_astore H rfl #[.val (.int p1), .val (.int p2), .val (.int p3), .val (.long p4), .second, .val (.long p5), .second, .val (.int p6), .val (.int ((p1 &&& (255 : Int32)).toUInt32.toUInt16.toUInt32.toInt32)), .val (.int ((p2 &&& (255 : Int32)).toUInt32.toUInt16.toUInt32.toInt32)), .val (.int (0 : Int32)), .val (.int (2 : Int32)), .val (.ref a204), .unset, .unset, .unset, .unset, .unset, .unset, .unset] rfl at_51 ?_
        refine own_goto H (pc' := 94) at_53 (by decide) (by decide) ?_
        refine own_iload_n H rfl at_94 ?_
        refine own_i2b H rfl at_95 ?_
        refine own_istore H #[.val (.int p1), .val (.int p2), .val (.int p3), .val (.long p4), .second, .val (.long p5), .second, .val (.int p6), .val (.int ((p1 &&& (255 : Int32)).toUInt32.toUInt16.toUInt32.toInt32)), .val (.int ((p2 &&& (255 : Int32)).toUInt32.toUInt16.toUInt32.toInt32)), .val (.int (0 : Int32)), .val (.int (2 : Int32)), .val (.ref a204), .val (.int (p3.toInt8.toInt32)), .unset, .unset, .unset, .unset, .unset, .unset] rfl at_96 ?_
        refine own_iload_n H rfl at_98 ?_
        refine own_bipush H (8 : Int32) (by decide) at_99 ?_
        refine own_ishr H rfl at_101 ?_
        refine own_i2b H rfl at_102 ?_
        refine own_istore H #[.val (.int p1), .val (.int p2), .val (.int p3), .val (.long p4), .second, .val (.long p5), .second, .val (.int p6), .val (.int ((p1 &&& (255 : Int32)).toUInt32.toUInt16.toUInt32.toInt32)), .val (.int ((p2 &&& (255 : Int32)).toUInt32.toUInt16.toUInt32.toInt32)), .val (.int (0 : Int32)), .val (.int (2 : Int32)), .val (.ref a204), .val (.int (p3.toInt8.toInt32)), .val (.int ((p3 >>> ((8 : Int32) &&& 31)).toInt8.toInt32)), .unset, .unset, .unset, .unset, .unset] rfl at_103 ?_
        refine own_iload H rfl at_105 ?_
        refine own_ifne_t H (pc' := 118) at_107 (by decide) (by decide) (by decide) ?_
        refine own_iload H rfl at_118 ?_
        refine own_iconst H (1 : Int32) (by decide) at_120 ?_
        refine own_icmpne_t H (pc' := 137) at_121 (by decide) (by decide) (by decide) ?_
        refine own_iconst H (2 : Int32) (by decide) at_137 ?_
        refine own_newarray H (w := 16) (n := (2 : Int32)) rfl (by decide) 2 (by decide) (by decide) at_138 (by decide) (by decide) ?_
        intro h237 a238 kA239 ha240 E241 V242
        have f244 : a204 ≠ a238 := Nat.ne_of_lt (by rw [ha240]; exact f235.lt)
        have f245 : a216 ≠ a238 := Nat.ne_of_lt (by rw [ha240]; exact f236.lt)
        have f246 : n0 ≤ a238 := by rw [ha240]; exact f233
        have f247 : n0 ≤ h237.size := Nat.le_trans f233 E241.1
        have f248 : Old Z n0 h237 := f234.ext E241
        have f249 : Exa Z h237 a204 "java/lang/String" := f235.ext E241
        have f250 : Arv Z h237 a216 kA217 .char (0 : Int32) [] (.int 0) := f236.ext E241
        have f251 : Arv Z h237 a238 kA239 .byte (2 : Int32) [(.int 0), (.int 0)] (.int 0) := V242.pad (pad_rep [] (.int 0) 2)
        show own_G _ _ _ _ _ _ _ _ 140 #[.val (.int p1), .val (.int p2), .val (.int p3), .val (.long p4), .second, .val (.long p5), .second, .val (.int p6), .val (.int ((p1 &&& (255 : Int32)).toUInt32.toUInt16.toUInt32.toInt32)), .val (.int ((p2 &&& (255 : Int32)).toUInt32.toUInt16.toUInt32.toInt32)), .val (.int (0 : Int32)), .val (.int (2 : Int32)), .val (.ref a204), .val (.int (p3.toInt8.toInt32)), .val (.int ((p3 >>> ((8 : Int32) &&& 31)).toInt8.toInt32)), .unset, .unset, .unset, .unset, .unset] [(.ref a238)]
        refine own_dup H rfl at_140 ?_
        refine own_iconst H (0 : Int32) (by decide) at_141 ?_
        refine own_iload H rfl at_142 ?_
        refine own_bastoreV H f251 (by decide) (by decide) 0 (by decide) (Nat.le_of_ble_eq_true rfl) f246 rfl at_144 ?_
        intro h252 W253 V254
        have f255 : n0 ≤ h252.size := by rw [W253.size]; exact f247
        have f256 : Old Z n0 h252 := f248.wr W253 f246
        have f257 : Exa Z h252 a204 "java/lang/String" := f249.wr W253
        have f258 : Arv Z h252 a216 kA217 .char (0 : Int32) [] (.int 0) := f250.other W253 f245
        have f259 : Arv Z h252 a238 kA239 .byte (2 : Int32) [(.int (nar .byte (p3.toInt8.toInt32))), (.int 0)] (.int 0) := V254
        refine own_dup H rfl at_145 ?_
        refine own_iconst H (1 : Int32) (by decide) at_146 ?_
        refine own_iload H rfl at_147 ?_
        refine own_bastoreV H f259 (by decide) (by decide) 1 (by decide) (Nat.le_of_ble_eq_true rfl) f246 rfl at_149 ?_
        intro h260 W261 V262
        have f263 : n0 ≤ h260.size := by rw [W261.size]; exact f255
        have f264 : Old Z n0 h260 := f256.wr W261 f246
        have f265 : Exa Z h260 a204 "java/lang/String" := f257.wr W261
        have f266 : Arv Z h260 a216 kA217 .char (0 : Int32) [] (.int 0) := f258.other W261 f245
        have f267 : Arv Z h260 a238 kA239 .byte (2 : Int32) [(.int (nar .byte (p3.toInt8.toInt32))), (.int (nar .byte ((p3 >>> ((8 : Int32) &&& 31)).toInt8.toInt32)))] (.int 0) := V262
        refine own_astore H rfl #[.val (.int p1), .val (.int p2), .val (.int p3), .val (.long p4), .second, .val (.long p5), .second, .val (.int p6), .val (.int ((p1 &&& (255 : Int32)).toUInt32.toUInt16.toUInt32.toInt32)), .val (.int ((p2 &&& (255 : Int32)).toUInt32.toUInt16.toUInt32.toInt32)), .val (.int (0 : Int32)), .val (.int (2 : Int32)), .val (.ref a204), .val (.int (p3.toInt8.toInt32)), .val (.int ((p3 >>> ((8 : Int32) &&& 31)).toInt8.toInt32)), .val (.ref a238), .unset, .unset, .unset, .unset] rfl at_150 ?_
        refine own_aload H rfl rfl at_152 ?_
        refine own_aload H rfl rfl at_154 ?_
        refine own_lload_n H rfl at_156 ?_
        refine own_invokestatic H (argsL := [(.ref a204), (.ref a238), (.long p4)]) (rest := []) (rmPst l Z a0 (own_hw H) h260 n0 a204 a238 p4 f263) (w1 := 23) (w2 := 24) (w3 := 25) (w4 := 26) rfl rfl rfl rfl own_pd10 rfl 0 (by decide) rfl (by decide) (Nat.le_of_eq rfl) (by decide) (by decide) (by decide) rfl at_157 ?_
        rintro _ h268 ⟨a270, rfl, K269, f271, f272, f273, f274, f275, f276, f277, f278, f279, f280⟩
        have f281 : a204 ≠ a270 := Nat.ne_of_lt (Nat.lt_of_lt_of_le f265.lt f272)
        have f282 : a216 ≠ a270 := Nat.ne_of_lt (Nat.lt_of_lt_of_le f266.lt f272)
        have f283 : a238 ≠ a270 := Nat.ne_of_lt (Nat.lt_of_lt_of_le f267.lt f272)
        have f284 : n0 ≤ h268.size := Nat.le_trans f263 K269.1
        have f285 : Old Z n0 h268 := f264.keep K269 all0
        have f286 : Exa Z h268 a204 "java/lang/String" := f265.keep K269
        have f287 : Arv Z h268 a216 kA217 .char (0 : Int32) [] (.int 0) := f266.keep K269 nin0
        have f288 : Arv Z h268 a238 kA239 .byte (2 : Int32) [(.int (nar .byte (p3.toInt8.toInt32))), (.int (nar .byte ((p3 >>> ((8 : Int32) &&& 31)).toInt8.toInt32)))] (.int 0) := f267.keep K269 nin0
        show own_G _ _ _ _ _ _ _ _ 160 #[.val (.int p1), .val (.int p2), .val (.int p3), .val (.long p4), .second, .val (.long p5), .second, .val (.int p6), .val (.int ((p1 &&& (255 : Int32)).toUInt32.toUInt16.toUInt32.toInt32)), .val (.int ((p2 &&& (255 : Int32)).toUInt32.toUInt16.toUInt32.toInt32)), .val (.int (0 : Int32)), .val (.int (2 : Int32)), .val (.ref a204), .val (.int (p3.toInt8.toInt32)), .val (.int ((p3 >>> ((8 : Int32) &&& 31)).toInt8.toInt32)), .val (.ref a238), .unset, .unset, .unset, .unset] [(.ref a270)]
        refine own_astore H rfl #[.val (.int p1), .val (.int p2), .val (.int p3), .val (.long p4), .second, .val (.long p5), .second, .val (.int p6), .val (.int ((p1 &&& (255 : Int32)).toUInt32.toUInt16.toUInt32.toInt32)), .val (.int ((p2 &&& (255 : Int32)).toUInt32.toUInt16.toUInt32.toInt32)), .val (.int (0 : Int32)), .val (.int (2 : Int32)), .val (.ref a204), .val (.int (p3.toInt8.toInt32)), .val (.int ((p3 >>> ((8 : Int32) &&& 31)).toInt8.toInt32)), .val (.ref a238), .val (.ref a270), .unset, .unset, .unset] rfl at_160 ?_
        refine own_aload H rfl rfl at_162 ?_
        refine own_invokevirtual H (a := a270) (argsL := []) (rest := []) (rmGurl l Z a0 (own_hw H) h268 n0 a270 a204 f275) f274 (w1 := 45) (w0 := 46) (w5 := 48) (w2 := 47) (w3 := 25) (w4 := 49) rfl rfl rfl rfl rfl rfl own_pd12 rfl 0 (by decide) rfl (by decide) (Nat.le_of_eq rfl) (by decide) (by decide) (by decide) rfl at_164 ?_
        rintro _ _ ⟨rfl, rfl⟩
        show own_G _ _ _ _ _ _ _ _ 167 #[.val (.int p1), .val (.int p2), .val (.int p3), .val (.long p4), .second, .val (.long p5), .second, .val (.int p6), .val (.int ((p1 &&& (255 : Int32)).toUInt32.toUInt16.toUInt32.toInt32)), .val (.int ((p2 &&& (255 : Int32)).toUInt32.toUInt16.toUInt32.toInt32)), .val (.int (0 : Int32)), .val (.int (2 : Int32)), .val (.ref a204), .val (.int (p3.toInt8.toInt32)), .val (.int ((p3 >>> ((8 : Int32) &&& 31)).toInt8.toInt32)), .val (.ref a238), .val (.ref a270), .unset, .unset, .unset] [(.ref a204)]
        refine own_astore H rfl #[.val (.int p1), .val (.int p2), .val (.int p3), .val (.long p4), .second, .val (.long p5), .second, .val (.int p6), .val (.int ((p1 &&& (255 : Int32)).toUInt32.toUInt16.toUInt32.toInt32)), .val (.int ((p2 &&& (255 : Int32)).toUInt32.toUInt16.toUInt32.toInt32)), .val (.int (0 : Int32)), .val (.int (2 : Int32)), .val (.ref a204), .val (.int (p3.toInt8.toInt32)), .val (.int ((p3 >>> ((8 : Int32) &&& 31)).toInt8.toInt32)), .val (.ref a238), .val (.ref a270), .val (.ref a204), .unset, .unset] rfl at_167 ?_
        refine own_aload H rfl rfl at_169 ?_
        refine own_ifnull_f H at_171 rfl (fun h => nomatch h) ?_
        refine own_aload H rfl rfl at_174 ?_
        refine own_aload H rfl rfl at_176 ?_
        refine own_invokevirtual H (a := a204) (argsL := [(.ref a204)]) (rest := []) (rmEqu l Z a0 (own_hw H) h268 n0 a204 a204 rfl) f286 (w1 := 50) (w0 := 51) (w5 := 53) (w2 := 52) (w3 := 3) (w4 := 54) rfl rfl rfl rfl rfl rfl own_pd16 rfl 0 (by decide) rfl (by decide) (Nat.le_of_eq rfl) (by decide) (by decide) (by decide) rfl at_178 ?_
        rintro _ _ ⟨rfl, rfl⟩
        show own_G _ _ _ _ _ _ _ _ 181 #[.val (.int p1), .val (.int p2), .val (.int p3), .val (.long p4), .second, .val (.long p5), .second, .val (.int p6), .val (.int ((p1 &&& (255 : Int32)).toUInt32.toUInt16.toUInt32.toInt32)), .val (.int ((p2 &&& (255 : Int32)).toUInt32.toUInt16.toUInt32.toInt32)), .val (.int (0 : Int32)), .val (.int (2 : Int32)), .val (.ref a204), .val (.int (p3.toInt8.toInt32)), .val (.int ((p3 >>> ((8 : Int32) &&& 31)).toInt8.toInt32)), .val (.ref a238), .val (.ref a270), .val (.ref a204), .unset, .unset] [(.int (1 : Int32))]
        refine own_ifne_t H (pc' := 186) at_181 (by decide) (by decide) (by decide) ?_
        refine own_aload H rfl rfl at_186 ?_
        refine own_invokevirtual H (a := a270) (argsL := []) (rest := []) (rmGpayloadJson l Z a0 (own_hw H) h268 n0 a270 a238 f276) f274 (w1 := 55) (w0 := 56) (w5 := 58) (w2 := 57) (w3 := 25) (w4 := 59) rfl rfl rfl rfl rfl rfl own_pd13 rfl 0 (by decide) rfl (by decide) (Nat.le_of_eq rfl) (by decide) (by decide) (by decide) rfl at_188 ?_
        rintro _ _ ⟨rfl, rfl⟩
        show own_G _ _ _ _ _ _ _ _ 191 #[.val (.int p1), .val (.int p2), .val (.int p3), .val (.long p4), .second, .val (.long p5), .second, .val (.int p6), .val (.int ((p1 &&& (255 : Int32)).toUInt32.toUInt16.toUInt32.toInt32)), .val (.int ((p2 &&& (255 : Int32)).toUInt32.toUInt16.toUInt32.toInt32)), .val (.int (0 : Int32)), .val (.int (2 : Int32)), .val (.ref a204), .val (.int (p3.toInt8.toInt32)), .val (.int ((p3 >>> ((8 : Int32) &&& 31)).toInt8.toInt32)), .val (.ref a238), .val (.ref a270), .val (.ref a204), .unset, .unset] [(.ref a238)]
        refine own_astore H rfl #[.val (.int p1), .val (.int p2), .val (.int p3), .val (.long p4), .second, .val (.long p5), .second, .val (.int p6), .val (.int ((p1 &&& (255 : Int32)).toUInt32.toUInt16.toUInt32.toInt32)), .val (.int ((p2 &&& (255 : Int32)).toUInt32.toUInt16.toUInt32.toInt32)), .val (.int (0 : Int32)), .val (.int (2 : Int32)), .val (.ref a204), .val (.int (p3.toInt8.toInt32)), .val (.int ((p3 >>> ((8 : Int32) &&& 31)).toInt8.toInt32)), .val (.ref a238), .val (.ref a270), .val (.ref a204), .val (.ref a238), .unset] rfl at_191 ?_
        refine own_aload H rfl rfl at_193 ?_
        refine own_ifnull_f H at_195 rfl (fun h => nomatch h) ?_
        refine own_aload H rfl rfl at_198 ?_
        refine own_arraylengthV H f288 at_200 ?_
        refine own_iload H rfl at_201 ?_
        refine own_icmpeq_t H (pc' := 208) at_203 (by decide) (by decide) (by decide) ?_
        refine own_iload H rfl at_208 ?_
        refine own_iconst H (1 : Int32) (by decide) at_210 ?_
        refine own_icmplt_f H at_211 (by decide) ?_
        refine own_aload H rfl rfl at_214 ?_
        refine own_iconst H (0 : Int32) (by decide) at_216 ?_
        refine own_baloadV H f288 (by decide) (by decide) rfl at_217 ?_
        refine own_iload H rfl at_218 ?_
        refine own_icmpeq_t H (pc' := 225) at_220 (by decide) (by decide) (own_nbi _) ?_
        refine own_iload H rfl at_225 ?_
        refine own_iconst H (2 : Int32) (by decide) at_227 ?_
        refine own_icmpne_f H at_228 (by decide) ?_
        refine own_aload H rfl rfl at_231 ?_
        refine own_iconst H (1 : Int32) (by decide) at_233 ?_
        refine own_baloadV H f288 (by decide) (by decide) rfl at_234 ?_
        refine own_iload H rfl at_235 ?_
        refine own_icmpeq_t H (pc' := 242) at_237 (by decide) (by decide) (own_nbi _) ?_
        refine own_aload H rfl rfl at_242 ?_
        refine own_invokevirtual H (a := a270) (argsL := []) (rest := []) (rmGsequence l Z a0 (own_hw H) h268 n0 a270 p4 f277) f274 (w1 := 60) (w0 := 61) (w5 := 63) (w2 := 62) (w3 := 25) (w4 := 64) rfl rfl rfl rfl rfl rfl own_pd14 rfl 0 (by decide) rfl (by decide) (Nat.le_of_eq rfl) (by decide) (by decide) (by decide) rfl at_244 ?_
        rintro _ _ ⟨rfl, rfl⟩
        show own_G _ _ _ _ _ _ _ _ 247 #[.val (.int p1), .val (.int p2), .val (.int p3), .val (.long p4), .second, .val (.long p5), .second, .val (.int p6), .val (.int ((p1 &&& (255 : Int32)).toUInt32.toUInt16.toUInt32.toInt32)), .val (.int ((p2 &&& (255 : Int32)).toUInt32.toUInt16.toUInt32.toInt32)), .val (.int (0 : Int32)), .val (.int (2 : Int32)), .val (.ref a204), .val (.int (p3.toInt8.toInt32)), .val (.int ((p3 >>> ((8 : Int32) &&& 31)).toInt8.toInt32)), .val (.ref a238), .val (.ref a270), .val (.ref a204), .val (.ref a238), .unset] [(.long p4)]
        refine own_lload_n H rfl at_247 ?_
        refine own_lcmpeq_t H (pc' := 254) at_248 at_249 (by decide) (by decide) rfl ?_
        refine own_aload H rfl rfl at_254 ?_
        refine own_invokevirtual H (a := a270) (argsL := []) (rest := []) (rmGattempts l Z a0 (own_hw H) h268 n0 a270 (0 : Int32) f278) f274 (w1 := 65) (w0 := 66) (w5 := 68) (w2 := 67) (w3 := 25) (w4 := 69) rfl rfl rfl rfl rfl rfl own_pd15 rfl 0 (by decide) rfl (by decide) (Nat.le_of_eq rfl) (by decide) (by decide) (by decide) rfl at_256 ?_
        rintro _ _ ⟨rfl, rfl⟩
        show own_G _ _ _ _ _ _ _ _ 259 #[.val (.int p1), .val (.int p2), .val (.int p3), .val (.long p4), .second, .val (.long p5), .second, .val (.int p6), .val (.int ((p1 &&& (255 : Int32)).toUInt32.toUInt16.toUInt32.toInt32)), .val (.int ((p2 &&& (255 : Int32)).toUInt32.toUInt16.toUInt32.toInt32)), .val (.int (0 : Int32)), .val (.int (2 : Int32)), .val (.ref a204), .val (.int (p3.toInt8.toInt32)), .val (.int ((p3 >>> ((8 : Int32) &&& 31)).toInt8.toInt32)), .val (.ref a238), .val (.ref a270), .val (.ref a204), .val (.ref a238), .unset] [(.int (0 : Int32))]
        refine own_ifeq_t H (pc' := 264) at_259 (by decide) (by decide) (by decide) ?_
        refine own_aload H rfl rfl at_264 ?_
        refine own_invokevirtual H (a := a270) (argsL := []) (rest := []) (rmGlastError l Z a0 (own_hw H) h268 n0 a270 f280) f274 (w1 := 70) (w0 := 71) (w5 := 73) (w2 := 72) (w3 := 25) (w4 := 74) rfl rfl rfl rfl rfl rfl own_pd12 rfl 0 (by decide) rfl (by decide) (Nat.le_of_eq rfl) (by decide) (by decide) (by decide) rfl at_266 ?_
        rintro _ _ ⟨rfl, rfl⟩
        show own_G _ _ _ _ _ _ _ _ 269 #[.val (.int p1), .val (.int p2), .val (.int p3), .val (.long p4), .second, .val (.long p5), .second, .val (.int p6), .val (.int ((p1 &&& (255 : Int32)).toUInt32.toUInt16.toUInt32.toInt32)), .val (.int ((p2 &&& (255 : Int32)).toUInt32.toUInt16.toUInt32.toInt32)), .val (.int (0 : Int32)), .val (.int (2 : Int32)), .val (.ref a204), .val (.int (p3.toInt8.toInt32)), .val (.int ((p3 >>> ((8 : Int32) &&& 31)).toInt8.toInt32)), .val (.ref a238), .val (.ref a270), .val (.ref a204), .val (.ref a238), .unset] [.null]
        refine own_ifnull_t H (pc' := 274) at_269 (by decide) (by decide) rfl rfl ?_
        refine own_aload H rfl rfl at_274 ?_
        refine own_lload H rfl at_276 ?_
        refine own_invokevirtual H (a := a270) (argsL := [(.long p5)]) (rest := []) (rmAtt l Z a0 (own_hw H) h268 n0 a270 p5 a204 a238 p4 f284 f275 f276 f277 f278 f280) f274 (w1 := 75) (w0 := 76) (w5 := 78) (w2 := 77) (w3 := 25) (w4 := 79) rfl rfl rfl rfl rfl rfl own_pd11 rfl 0 (by decide) rfl (by decide) (Nat.le_of_eq rfl) (by decide) (by decide) (by decide) rfl at_278 ?_
        rintro _ h289 ⟨a291, rfl, K290, f292, f293, f294, f295, f296, f297⟩
        have f298 : a204 ≠ a291 := Nat.ne_of_lt (Nat.lt_of_lt_of_le f286.lt f293)
        have f299 : a216 ≠ a291 := Nat.ne_of_lt (Nat.lt_of_lt_of_le f287.lt f293)
        have f300 : a238 ≠ a291 := Nat.ne_of_lt (Nat.lt_of_lt_of_le f288.lt f293)
        have f301 : a270 ≠ a291 := Nat.ne_of_lt (Nat.lt_of_lt_of_le f274.lt f293)
        have f302 : n0 ≤ h289.size := Nat.le_trans f284 K290.1
        have f303 : Old Z n0 h289 := f285.keep K290 all0
        have f304 : Exa Z h289 a204 "java/lang/String" := f286.keep K290
        have f305 : Arv Z h289 a216 kA217 .char (0 : Int32) [] (.int 0) := f287.keep K290 nin0
        have f306 : Arv Z h289 a238 kA239 .byte (2 : Int32) [(.int (nar .byte (p3.toInt8.toInt32))), (.int (nar .byte ((p3 >>> ((8 : Int32) &&& 31)).toInt8.toInt32)))] (.int 0) := f288.keep K290 nin0
        have f307 : Exa Z h289 a270 "com/example/ring_to_run/ringtorun/service/Callback" := f274.keep K290
        have f308 : Fld Z h289 a270 "com/example/ring_to_run/ringtorun/service/Callback" "url" "Ljava/lang/String;" (.ref a204) := f275.keep K290 nin0
        have f309 : Fld Z h289 a270 "com/example/ring_to_run/ringtorun/service/Callback" "payloadJson" "[B" (.ref a238) := f276.keep K290 nin0
        have f310 : Fld Z h289 a270 "com/example/ring_to_run/ringtorun/service/Callback" "sequence" "J" (.long p4) := f277.keep K290 nin0
        have f311 : Fld Z h289 a270 "com/example/ring_to_run/ringtorun/service/Callback" "attempts" "I" (.int (0 : Int32)) := f278.keep K290 nin0
        have f312 : Fld Z h289 a270 "com/example/ring_to_run/ringtorun/service/Callback" "dueAt" "J" (.long (0 : Int64)) := f279.keep K290 nin0
        have f313 : Fld Z h289 a270 "com/example/ring_to_run/ringtorun/service/Callback" "lastError" "Ljava/lang/String;" .null := f280.keep K290 nin0
        show own_G _ _ _ _ _ _ _ _ 281 #[.val (.int p1), .val (.int p2), .val (.int p3), .val (.long p4), .second, .val (.long p5), .second, .val (.int p6), .val (.int ((p1 &&& (255 : Int32)).toUInt32.toUInt16.toUInt32.toInt32)), .val (.int ((p2 &&& (255 : Int32)).toUInt32.toUInt16.toUInt32.toInt32)), .val (.int (0 : Int32)), .val (.int (2 : Int32)), .val (.ref a204), .val (.int (p3.toInt8.toInt32)), .val (.int ((p3 >>> ((8 : Int32) &&& 31)).toInt8.toInt32)), .val (.ref a238), .val (.ref a270), .val (.ref a204), .val (.ref a238), .unset] [(.ref a291)]
        refine own_astore H rfl #[.val (.int p1), .val (.int p2), .val (.int p3), .val (.long p4), .second, .val (.long p5), .second, .val (.int p6), .val (.int ((p1 &&& (255 : Int32)).toUInt32.toUInt16.toUInt32.toInt32)), .val (.int ((p2 &&& (255 : Int32)).toUInt32.toUInt16.toUInt32.toInt32)), .val (.int (0 : Int32)), .val (.int (2 : Int32)), .val (.ref a204), .val (.int (p3.toInt8.toInt32)), .val (.int ((p3 >>> ((8 : Int32) &&& 31)).toInt8.toInt32)), .val (.ref a238), .val (.ref a270), .val (.ref a204), .val (.ref a238), .val (.ref a291)] rfl at_281 ?_
        refine own_aload H rfl rfl at_283 ?_
        refine own_invokevirtual H (a := a291) (argsL := []) (rest := []) (rmGattempts l Z a0 (own_hw H) h289 n0 a291 (1 : Int32) f296) f295 (w1 := 65) (w0 := 66) (w5 := 68) (w2 := 67) (w3 := 25) (w4 := 69) rfl rfl rfl rfl rfl rfl own_pd15 rfl 0 (by decide) rfl (by decide) (Nat.le_of_eq rfl) (by decide) (by decide) (by decide) rfl at_285 ?_
        rintro _ _ ⟨rfl, rfl⟩
        show own_G _ _ _ _ _ _ _ _ 288 #[.val (.int p1), .val (.int p2), .val (.int p3), .val (.long p4), .second, .val (.long p5), .second, .val (.int p6), .val (.int ((p1 &&& (255 : Int32)).toUInt32.toUInt16.toUInt32.toInt32)), .val (.int ((p2 &&& (255 : Int32)).toUInt32.toUInt16.toUInt32.toInt32)), .val (.int (0 : Int32)), .val (.int (2 : Int32)), .val (.ref a204), .val (.int (p3.toInt8.toInt32)), .val (.int ((p3 >>> ((8 : Int32) &&& 31)).toInt8.toInt32)), .val (.ref a238), .val (.ref a270), .val (.ref a204), .val (.ref a238), .val (.ref a291)] [(.int (1 : Int32))]
        refine own_iconst H (1 : Int32) (by decide) at_288 ?_
        refine own_icmpne_f H at_289 (by decide) ?_
        refine own_aload H rfl rfl at_292 ?_
        refine own_invokevirtual H (a := a291) (argsL := []) (rest := []) (rmGdueAt l Z a0 (own_hw H) h289 n0 a291 p5 f297) f295 (w1 := 80) (w0 := 81) (w5 := 83) (w2 := 82) (w3 := 25) (w4 := 84) rfl rfl rfl rfl rfl rfl own_pd14 rfl 0 (by decide) rfl (by decide) (Nat.le_of_eq rfl) (by decide) (by decide) (by decide) rfl at_294 ?_
        rintro _ _ ⟨rfl, rfl⟩
        show own_G _ _ _ _ _ _ _ _ 297 #[.val (.int p1), .val (.int p2), .val (.int p3), .val (.long p4), .second, .val (.long p5), .second, .val (.int p6), .val (.int ((p1 &&& (255 : Int32)).toUInt32.toUInt16.toUInt32.toInt32)), .val (.int ((p2 &&& (255 : Int32)).toUInt32.toUInt16.toUInt32.toInt32)), .val (.int (0 : Int32)), .val (.int (2 : Int32)), .val (.ref a204), .val (.int (p3.toInt8.toInt32)), .val (.int ((p3 >>> ((8 : Int32) &&& 31)).toInt8.toInt32)), .val (.ref a238), .val (.ref a270), .val (.ref a204), .val (.ref a238), .val (.ref a291)] [(.long p5)]
        refine own_lload H rfl at_297 ?_
        refine own_lcmpne_f H at_299 at_300 rfl ?_
        refine own_iconst H (1 : Int32) (by decide) at_303 ?_
        refine own_goto H (pc' := 308) at_304 (by decide) (by decide) ?_
        exact own_ireturn H (by simp) (by decide) at_308 (by decide) (by decide) rfl
  ·
    by_cases c314 : ((p6 &&& (2147483647 : Int32)) % (3 : Int32)) = (1 : Int32)
    ·
      rw [c314]
      show own_G _ _ _ _ _ _ _ _ 25 #[.val (.int p1), .val (.int p2), .val (.int p3), .val (.long p4), .second, .val (.long p5), .second, .val (.int p6), .val (.int ((p1 &&& (255 : Int32)).toUInt32.toUInt16.toUInt32.toInt32)), .val (.int ((p2 &&& (255 : Int32)).toUInt32.toUInt16.toUInt32.toInt32)), .val (.int (1 : Int32)), .unset, .unset, .unset, .unset, .unset, .unset, .unset, .unset, .unset] []
      refine own_iload H rfl at_25 ?_
      refine own_iconst H (2 : Int32) (by decide) at_27 ?_
      refine own_iushr H rfl at_28 ?_
      refine own_ldcI H (w := 0) rfl at_29 ?_
      refine own_iand H rfl at_31 ?_
      refine own_iconst H (3 : Int32) (by decide) at_32 ?_
      refine own_irem H rfl at_33 (by decide) ?_
      refine own_istore H #[.val (.int p1), .val (.int p2), .val (.int p3), .val (.long p4), .second, .val (.long p5), .second, .val (.int p6), .val (.int ((p1 &&& (255 : Int32)).toUInt32.toUInt16.toUInt32.toInt32)), .val (.int ((p2 &&& (255 : Int32)).toUInt32.toUInt16.toUInt32.toInt32)), .val (.int (1 : Int32)), .val (.int (((XT.ushr p6 (2 : Int32)) &&& (2147483647 : Int32)) % (3 : Int32))), .unset, .unset, .unset, .unset, .unset, .unset, .unset, .unset] rfl at_34 ?_
      by_cases c315 : (((XT.ushr p6 (2 : Int32)) &&& (2147483647 : Int32)) % (3 : Int32)) = (0 : Int32)
      ·
        rw [c315]
        show own_G _ _ _ _ _ _ _ _ 36 #[.val (.int p1), .val (.int p2), .val (.int p3), .val (.long p4), .second, .val (.long p5), .second, .val (.int p6), .val (.int ((p1 &&& (255 : Int32)).toUInt32.toUInt16.toUInt32.toInt32)), .val (.int ((p2 &&& (255 : Int32)).toUInt32.toUInt16.toUInt32.toInt32)), .val (.int (1 : Int32)), .val (.int (0 : Int32)), .unset, .unset, .unset, .unset, .unset, .unset, .unset, .unset] []
        refine own_iload H rfl at_36 ?_
        refine own_ifne_t H (pc' := 56) at_38 (by decide) (by decide) (by decide) ?_
        refine own_iload H rfl at_56 ?_
        refine own_iconst H (1 : Int32) (by decide) at_58 ?_
        refine own_icmpne_f H at_59 (by decide) ?_
        refine own_iload H rfl at_62 ?_
        refine own_invokestatic H (argsL := [(.int ((p1 &&& (255 : Int32)).toUInt32.toUInt16.toUInt32.toInt32))]) (rest := []) (rmVal l Z a0 (own_hw H) h0 n0 ((p1 &&& (255 : Int32)).toUInt32.toUInt16.toUInt32.toInt32) cs hZ0 hS hcs (own_cq _)) (w1 := 85) (w2 := 86) (w3 := 3) (w4 := 87) rfl rfl rfl rfl own_pd3 rfl 0 (by decide) rfl (by decide) (Nat.le_of_eq rfl) (by decide) (by decide) (by decide) rfl at_64 ?_
        rintro _ h316 ⟨a318, rfl, K317, f319, f320, f321, f322⟩
        have f323 : n0 ≤ h316.size := Nat.le_trans hZ0 K317.1
        have f324 : Old Z n0 h316 := hO.keep K317 all0
        show own_G _ _ _ _ _ _ _ _ 67 #[.val (.int p1), .val (.int p2), .val (.int p3), .val (.long p4), .second, .val (.long p5), .second, .val (.int p6), .val (.int ((p1 &&& (255 : Int32)).toUInt32.toUInt16.toUInt32.toInt32)), .val (.int ((p2 &&& (255 : Int32)).toUInt32.toUInt16.toUInt32.toInt32)), .val (.int (1 : Int32)), .val (.int (0 : Int32)), .unset, .unset, .unset, .unset, .unset, .unset, .unset, .unset] [(.ref a318)]
        refine own_astore H rfl #[.val (.int p1), .val (.int p2), .val (.int p3), .val (.long p4), .second, .val (.long p5), .second, .val (.int p6), .val (.int ((p1 &&& (255 : Int32)).toUInt32.toUInt16.toUInt32.toInt32)), .val (.int ((p2 &&& (255 : Int32)).toUInt32.toUInt16.toUInt32.toInt32)), .val (.int (1 : Int32)), .val (.int (0 : Int32)), .val (.ref a318), .unset, .unset, .unset, .unset, .unset, .unset, .unset] rfl at_67 ?_
        refine own_goto H (pc' := 94) at_69 (by decide) (by decide) ?_
        refine own_iload_n H rfl at_94 ?_
        refine own_i2b H rfl at_95 ?_
        refine own_istore H #[.val (.int p1), .val (.int p2), .val (.int p3), .val (.long p4), .second, .val (.long p5), .second, .val (.int p6), .val (.int ((p1 &&& (255 : Int32)).toUInt32.toUInt16.toUInt32.toInt32)), .val (.int ((p2 &&& (255 : Int32)).toUInt32.toUInt16.toUInt32.toInt32)), .val (.int (1 : Int32)), .val (.int (0 : Int32)), .val (.ref a318), .val (.int (p3.toInt8.toInt32)), .unset, .unset, .unset, .unset, .unset, .unset] rfl at_96 ?_
        refine own_iload_n H rfl at_98 ?_
        refine own_bipush H (8 : Int32) (by decide) at_99 ?_
        refine own_ishr H rfl at_101 ?_
        refine own_i2b H rfl at_102 ?_
        refine own_istore H #[.val (.int p1), .val (.int p2), .val (.int p3), .val (.long p4), .second, .val (.long p5), .second, .val (.int p6), .val (.int ((p1 &&& (255 : Int32)).toUInt32.toUInt16.toUInt32.toInt32)), .val (.int ((p2 &&& (255 : Int32)).toUInt32.toUInt16.toUInt32.toInt32)), .val (.int (1 : Int32)), .val (.int (0 : Int32)), .val (.ref a318), .val (.int (p3.toInt8.toInt32)), .val (.int ((p3 >>> ((8 : Int32) &&& 31)).toInt8.toInt32)), .unset, .unset, .unset, .unset, .unset] rfl at_103 ?_
        refine own_iload H rfl at_105 ?_
        refine own_ifne_f H at_107 (by decide) ?_
        refine own_iconst H (0 : Int32) (by decide) at_110 ?_
        refine own_newarray H (w := 16) (n := (0 : Int32)) rfl (by decide) 0 (by decide) (by decide) at_111 (by decide) (by decide) ?_
        intro h325 a326 kA327 ha328 E329 V330
        have f332 : a318 ≠ a326 := Nat.ne_of_lt (by rw [ha328]; exact f322.lt)
        have f333 : n0 ≤ a326 := by rw [ha328]; exact f323
        have f334 : n0 ≤ h325.size := Nat.le_trans f323 E329.1
        have f335 : Old Z n0 h325 := f324.ext E329
        have f336 : Exa Z h325 a318 "java/lang/String" := f322.ext E329
        have f337 : Arv Z h325 a326 kA327 .byte (0 : Int32) [] (.int 0) := V330.pad (pad_rep [] (.int 0) 0)
        show own_G _ _ _ _ _ _ _ _ 113 #[.val (.int p1), .val (.int p2), .val (.int p3), .val (.long p4), .second, .val (.long p5), .second, .val (.int p6), .val (.int ((p1 &&& (255 : Int32)).toUInt32.toUInt16.toUInt32.toInt32)), .val (.int ((p2 &&& (255 : Int32)).toUInt32.toUInt16.toUInt32.toInt32)), .val (.int (1 : Int32)), .val (.int (0 : Int32)), .val (.ref a318), .val (.int (p3.toInt8.toInt32)), .val (.int ((p3 >>> ((8 : Int32) &&& 31)).toInt8.toInt32)), .unset, .unset, .unset, .unset, .unset] [(.ref a326)]
        refine own_astore H rfl #[.val (.int p1), .val (.int p2), .val (.int p3), .val (.long p4), .second, .val (.long p5), .second, .val (.int p6), .val (.int ((p1 &&& (255 : Int32)).toUInt32.toUInt16.toUInt32.toInt32)), .val (.int ((p2 &&& (255 : Int32)).toUInt32.toUInt16.toUInt32.toInt32)), .val (.int (1 : Int32)), .val (.int (0 : Int32)), .val (.ref a318), .val (.int (p3.toInt8.toInt32)), .val (.int ((p3 >>> ((8 : Int32) &&& 31)).toInt8.toInt32)), .val (.ref a326), .unset, .unset, .unset, .unset] rfl at_113 ?_
        refine own_goto H (pc' := 152) at_115 (by decide) (by decide) ?_
        refine own_aload H rfl rfl at_152 ?_
        refine own_aload H rfl rfl at_154 ?_
        refine own_lload_n H rfl at_156 ?_
        refine own_invokestatic H (argsL := [(.ref a318), (.ref a326), (.long p4)]) (rest := []) (rmPst l Z a0 (own_hw H) h325 n0 a318 a326 p4 f334) (w1 := 23) (w2 := 24) (w3 := 25) (w4 := 26) rfl rfl rfl rfl own_pd10 rfl 0 (by decide) rfl (by decide) (Nat.le_of_eq rfl) (by decide) (by decide) (by decide) rfl at_157 ?_
        rintro _ h338 ⟨a340, rfl, K339, f341, f342, f343, f344, f345, f346, f347, f348, f349, f350⟩
        have f351 : a318 ≠ a340 := Nat.ne_of_lt (Nat.lt_of_lt_of_le f336.lt f342)
        have f352 : a326 ≠ a340 := Nat.ne_of_lt (Nat.lt_of_lt_of_le f337.lt f342)
        have f353 : n0 ≤ h338.size := Nat.le_trans f334 K339.1
        have f354 : Old Z n0 h338 := f335.keep K339 all0
        have f355 : Exa Z h338 a318 "java/lang/String" := f336.keep K339
        have f356 : Arv Z h338 a326 kA327 .byte (0 : Int32) [] (.int 0) := f337.keep K339 nin0
        show own_G _ _ _ _ _ _ _ _ 160 #[.val (.int p1), .val (.int p2), .val (.int p3), .val (.long p4), .second, .val (.long p5), .second, .val (.int p6), .val (.int ((p1 &&& (255 : Int32)).toUInt32.toUInt16.toUInt32.toInt32)), .val (.int ((p2 &&& (255 : Int32)).toUInt32.toUInt16.toUInt32.toInt32)), .val (.int (1 : Int32)), .val (.int (0 : Int32)), .val (.ref a318), .val (.int (p3.toInt8.toInt32)), .val (.int ((p3 >>> ((8 : Int32) &&& 31)).toInt8.toInt32)), .val (.ref a326), .unset, .unset, .unset, .unset] [(.ref a340)]
        refine own_astore H rfl #[.val (.int p1), .val (.int p2), .val (.int p3), .val (.long p4), .second, .val (.long p5), .second, .val (.int p6), .val (.int ((p1 &&& (255 : Int32)).toUInt32.toUInt16.toUInt32.toInt32)), .val (.int ((p2 &&& (255 : Int32)).toUInt32.toUInt16.toUInt32.toInt32)), .val (.int (1 : Int32)), .val (.int (0 : Int32)), .val (.ref a318), .val (.int (p3.toInt8.toInt32)), .val (.int ((p3 >>> ((8 : Int32) &&& 31)).toInt8.toInt32)), .val (.ref a326), .val (.ref a340), .unset, .unset, .unset] rfl at_160 ?_
        refine own_aload H rfl rfl at_162 ?_
        refine own_invokevirtual H (a := a340) (argsL := []) (rest := []) (rmGurl l Z a0 (own_hw H) h338 n0 a340 a318 f345) f344 (w1 := 45) (w0 := 46) (w5 := 48) (w2 := 47) (w3 := 25) (w4 := 49) rfl rfl rfl rfl rfl rfl own_pd12 rfl 0 (by decide) rfl (by decide) (Nat.le_of_eq rfl) (by decide) (by decide) (by decide) rfl at_164 ?_
        rintro _ _ ⟨rfl, rfl⟩
        show own_G _ _ _ _ _ _ _ _ 167 #[.val (.int p1), .val (.int p2), .val (.int p3), .val (.long p4), .second, .val (.long p5), .second, .val (.int p6), .val (.int ((p1 &&& (255 : Int32)).toUInt32.toUInt16.toUInt32.toInt32)), .val (.int ((p2 &&& (255 : Int32)).toUInt32.toUInt16.toUInt32.toInt32)), .val (.int (1 : Int32)), .val (.int (0 : Int32)), .val (.ref a318), .val (.int (p3.toInt8.toInt32)), .val (.int ((p3 >>> ((8 : Int32) &&& 31)).toInt8.toInt32)), .val (.ref a326), .val (.ref a340), .unset, .unset, .unset] [(.ref a318)]
        refine own_astore H rfl #[.val (.int p1), .val (.int p2), .val (.int p3), .val (.long p4), .second, .val (.long p5), .second, .val (.int p6), .val (.int ((p1 &&& (255 : Int32)).toUInt32.toUInt16.toUInt32.toInt32)), .val (.int ((p2 &&& (255 : Int32)).toUInt32.toUInt16.toUInt32.toInt32)), .val (.int (1 : Int32)), .val (.int (0 : Int32)), .val (.ref a318), .val (.int (p3.toInt8.toInt32)), .val (.int ((p3 >>> ((8 : Int32) &&& 31)).toInt8.toInt32)), .val (.ref a326), .val (.ref a340), .val (.ref a318), .unset, .unset] rfl at_167 ?_
        refine own_aload H rfl rfl at_169 ?_
        refine own_ifnull_f H at_171 rfl (fun h => nomatch h) ?_
        refine own_aload H rfl rfl at_174 ?_
        refine own_aload H rfl rfl at_176 ?_
        refine own_invokevirtual H (a := a318) (argsL := [(.ref a318)]) (rest := []) (rmEqu l Z a0 (own_hw H) h338 n0 a318 a318 rfl) f355 (w1 := 50) (w0 := 51) (w5 := 53) (w2 := 52) (w3 := 3) (w4 := 54) rfl rfl rfl rfl rfl rfl own_pd16 rfl 0 (by decide) rfl (by decide) (Nat.le_of_eq rfl) (by decide) (by decide) (by decide) rfl at_178 ?_
        rintro _ _ ⟨rfl, rfl⟩
        show own_G _ _ _ _ _ _ _ _ 181 #[.val (.int p1), .val (.int p2), .val (.int p3), .val (.long p4), .second, .val (.long p5), .second, .val (.int p6), .val (.int ((p1 &&& (255 : Int32)).toUInt32.toUInt16.toUInt32.toInt32)), .val (.int ((p2 &&& (255 : Int32)).toUInt32.toUInt16.toUInt32.toInt32)), .val (.int (1 : Int32)), .val (.int (0 : Int32)), .val (.ref a318), .val (.int (p3.toInt8.toInt32)), .val (.int ((p3 >>> ((8 : Int32) &&& 31)).toInt8.toInt32)), .val (.ref a326), .val (.ref a340), .val (.ref a318), .unset, .unset] [(.int (1 : Int32))]
        refine own_ifne_t H (pc' := 186) at_181 (by decide) (by decide) (by decide) ?_
        refine own_aload H rfl rfl at_186 ?_
        refine own_invokevirtual H (a := a340) (argsL := []) (rest := []) (rmGpayloadJson l Z a0 (own_hw H) h338 n0 a340 a326 f346) f344 (w1 := 55) (w0 := 56) (w5 := 58) (w2 := 57) (w3 := 25) (w4 := 59) rfl rfl rfl rfl rfl rfl own_pd13 rfl 0 (by decide) rfl (by decide) (Nat.le_of_eq rfl) (by decide) (by decide) (by decide) rfl at_188 ?_
        rintro _ _ ⟨rfl, rfl⟩
        show own_G _ _ _ _ _ _ _ _ 191 #[.val (.int p1), .val (.int p2), .val (.int p3), .val (.long p4), .second, .val (.long p5), .second, .val (.int p6), .val (.int ((p1 &&& (255 : Int32)).toUInt32.toUInt16.toUInt32.toInt32)), .val (.int ((p2 &&& (255 : Int32)).toUInt32.toUInt16.toUInt32.toInt32)), .val (.int (1 : Int32)), .val (.int (0 : Int32)), .val (.ref a318), .val (.int (p3.toInt8.toInt32)), .val (.int ((p3 >>> ((8 : Int32) &&& 31)).toInt8.toInt32)), .val (.ref a326), .val (.ref a340), .val (.ref a318), .unset, .unset] [(.ref a326)]
        refine own_astore H rfl #[.val (.int p1), .val (.int p2), .val (.int p3), .val (.long p4), .second, .val (.long p5), .second, .val (.int p6), .val (.int ((p1 &&& (255 : Int32)).toUInt32.toUInt16.toUInt32.toInt32)), .val (.int ((p2 &&& (255 : Int32)).toUInt32.toUInt16.toUInt32.toInt32)), .val (.int (1 : Int32)), .val (.int (0 : Int32)), .val (.ref a318), .val (.int (p3.toInt8.toInt32)), .val (.int ((p3 >>> ((8 : Int32) &&& 31)).toInt8.toInt32)), .val (.ref a326), .val (.ref a340), .val (.ref a318), .val (.ref a326), .unset] rfl at_191 ?_
        refine own_aload H rfl rfl at_193 ?_
        refine own_ifnull_f H at_195 rfl (fun h => nomatch h) ?_
        refine own_aload H rfl rfl at_198 ?_
        refine own_arraylengthV H f356 at_200 ?_
        refine own_iload H rfl at_201 ?_
        refine own_icmpeq_t H (pc' := 208) at_203 (by decide) (by decide) (by decide) ?_
        refine own_iload H rfl at_208 ?_
        refine own_iconst H (1 : Int32) (by decide) at_210 ?_
        refine own_icmplt_t H (pc' := 225) at_211 (by decide) (by decide) (by decide) ?_
        refine own_iload H rfl at_225 ?_
        refine own_iconst H (2 : Int32) (by decide) at_227 ?_
        refine own_icmpne_t H (pc' := 242) at_228 (by decide) (by decide) (by decide) ?_
        refine own_aload H rfl rfl at_242 ?_
        refine own_invokevirtual H (a := a340) (argsL := []) (rest := []) (rmGsequence l Z a0 (own_hw H) h338 n0 a340 p4 f347) f344 (w1 := 60) (w0 := 61) (w5 := 63) (w2 := 62) (w3 := 25) (w4 := 64) rfl rfl rfl rfl rfl rfl own_pd14 rfl 0 (by decide) rfl (by decide) (Nat.le_of_eq rfl) (by decide) (by decide) (by decide) rfl at_244 ?_
        rintro _ _ ⟨rfl, rfl⟩
        show own_G _ _ _ _ _ _ _ _ 247 #[.val (.int p1), .val (.int p2), .val (.int p3), .val (.long p4), .second, .val (.long p5), .second, .val (.int p6), .val (.int ((p1 &&& (255 : Int32)).toUInt32.toUInt16.toUInt32.toInt32)), .val (.int ((p2 &&& (255 : Int32)).toUInt32.toUInt16.toUInt32.toInt32)), .val (.int (1 : Int32)), .val (.int (0 : Int32)), .val (.ref a318), .val (.int (p3.toInt8.toInt32)), .val (.int ((p3 >>> ((8 : Int32) &&& 31)).toInt8.toInt32)), .val (.ref a326), .val (.ref a340), .val (.ref a318), .val (.ref a326), .unset] [(.long p4)]
        refine own_lload_n H rfl at_247 ?_
        refine own_lcmpeq_t H (pc' := 254) at_248 at_249 (by decide) (by decide) rfl ?_
        refine own_aload H rfl rfl at_254 ?_
        refine own_invokevirtual H (a := a340) (argsL := []) (rest := []) (rmGattempts l Z a0 (own_hw H) h338 n0 a340 (0 : Int32) f348) f344 (w1 := 65) (w0 := 66) (w5 := 68) (w2 := 67) (w3 := 25) (w4 := 69) rfl rfl rfl rfl rfl rfl own_pd15 rfl 0 (by decide) rfl (by decide) (Nat.le_of_eq rfl) (by decide) (by decide) (by decide) rfl at_256 ?_
        rintro _ _ ⟨rfl, rfl⟩
        show own_G _ _ _ _ _ _ _ _ 259 #[.val (.int p1), .val (.int p2), .val (.int p3), .val (.long p4), .second, .val (.long p5), .second, .val (.int p6), .val (.int ((p1 &&& (255 : Int32)).toUInt32.toUInt16.toUInt32.toInt32)), .val (.int ((p2 &&& (255 : Int32)).toUInt32.toUInt16.toUInt32.toInt32)), .val (.int (1 : Int32)), .val (.int (0 : Int32)), .val (.ref a318), .val (.int (p3.toInt8.toInt32)), .val (.int ((p3 >>> ((8 : Int32) &&& 31)).toInt8.toInt32)), .val (.ref a326), .val (.ref a340), .val (.ref a318), .val (.ref a326), .unset] [(.int (0 : Int32))]
        refine own_ifeq_t H (pc' := 264) at_259 (by decide) (by decide) (by decide) ?_
        refine own_aload H rfl rfl at_264 ?_
        refine own_invokevirtual H (a := a340) (argsL := []) (rest := []) (rmGlastError l Z a0 (own_hw H) h338 n0 a340 f350) f344 (w1 := 70) (w0 := 71) (w5 := 73) (w2 := 72) (w3 := 25) (w4 := 74) rfl rfl rfl rfl rfl rfl own_pd12 rfl 0 (by decide) rfl (by decide) (Nat.le_of_eq rfl) (by decide) (by decide) (by decide) rfl at_266 ?_
        rintro _ _ ⟨rfl, rfl⟩
        show own_G _ _ _ _ _ _ _ _ 269 #[.val (.int p1), .val (.int p2), .val (.int p3), .val (.long p4), .second, .val (.long p5), .second, .val (.int p6), .val (.int ((p1 &&& (255 : Int32)).toUInt32.toUInt16.toUInt32.toInt32)), .val (.int ((p2 &&& (255 : Int32)).toUInt32.toUInt16.toUInt32.toInt32)), .val (.int (1 : Int32)), .val (.int (0 : Int32)), .val (.ref a318), .val (.int (p3.toInt8.toInt32)), .val (.int ((p3 >>> ((8 : Int32) &&& 31)).toInt8.toInt32)), .val (.ref a326), .val (.ref a340), .val (.ref a318), .val (.ref a326), .unset] [.null]
        refine own_ifnull_t H (pc' := 274) at_269 (by decide) (by decide) rfl rfl ?_
        refine own_aload H rfl rfl at_274 ?_
        refine own_lload H rfl at_276 ?_
        refine own_invokevirtual H (a := a340) (argsL := [(.long p5)]) (rest := []) (rmAtt l Z a0 (own_hw H) h338 n0 a340 p5 a318 a326 p4 f353 f345 f346 f347 f348 f350) f344 (w1 := 75) (w0 := 76) (w5 := 78) (w2 := 77) (w3 := 25) (w4 := 79) rfl rfl rfl rfl rfl rfl own_pd11 rfl 0 (by decide) rfl (by decide) (Nat.le_of_eq rfl) (by decide) (by decide) (by decide) rfl at_278 ?_
        rintro _ h357 ⟨a359, rfl, K358, f360, f361, f362, f363, f364, f365⟩
        have f366 : a318 ≠ a359 := Nat.ne_of_lt (Nat.lt_of_lt_of_le f355.lt f361)
        have f367 : a326 ≠ a359 := Nat.ne_of_lt (Nat.lt_of_lt_of_le f356.lt f361)
        have f368 : a340 ≠ a359 := Nat.ne_of_lt (Nat.lt_of_lt_of_le f344.lt f361)
        have f369 : n0 ≤ h357.size := Nat.le_trans f353 K358.1
        have f370 : Old Z n0 h357 := f354.keep K358 all0
        have f371 : Exa Z h357 a318 "java/lang/String" := f355.keep K358
        have f372 : Arv Z h357 a326 kA327 .byte (0 : Int32) [] (.int 0) := f356.keep K358 nin0
        have f373 : Exa Z h357 a340 "com/example/ring_to_run/ringtorun/service/Callback" := f344.keep K358
        have f374 : Fld Z h357 a340 "com/example/ring_to_run/ringtorun/service/Callback" "url" "Ljava/lang/String;" (.ref a318) := f345.keep K358 nin0
        have f375 : Fld Z h357 a340 "com/example/ring_to_run/ringtorun/service/Callback" "payloadJson" "[B" (.ref a326) := f346.keep K358 nin0
        have f376 : Fld Z h357 a340 "com/example/ring_to_run/ringtorun/service/Callback" "sequence" "J" (.long p4) := f347.keep K358 nin0
        have f377 : Fld Z h357 a340 "com/example/ring_to_run/ringtorun/service/Callback" "attempts" "I" (.int (0 : Int32)) := f348.keep K358 nin0
        have f378 : Fld Z h357 a340 "com/example/ring_to_run/ringtorun/service/Callback" "dueAt" "J" (.long (0 : Int64)) := f349.keep K358 nin0
        have f379 : Fld Z h357 a340 "com/example/ring_to_run/ringtorun/service/Callback" "lastError" "Ljava/lang/String;" .null := f350.keep K358 nin0
        show own_G _ _ _ _ _ _ _ _ 281 #[.val (.int p1), .val (.int p2), .val (.int p3), .val (.long p4), .second, .val (.long p5), .second, .val (.int p6), .val (.int ((p1 &&& (255 : Int32)).toUInt32.toUInt16.toUInt32.toInt32)), .val (.int ((p2 &&& (255 : Int32)).toUInt32.toUInt16.toUInt32.toInt32)), .val (.int (1 : Int32)), .val (.int (0 : Int32)), .val (.ref a318), .val (.int (p3.toInt8.toInt32)), .val (.int ((p3 >>> ((8 : Int32) &&& 31)).toInt8.toInt32)), .val (.ref a326), .val (.ref a340), .val (.ref a318), .val (.ref a326), .unset] [(.ref a359)]
        refine own_astore H rfl #[.val (.int p1), .val (.int p2), .val (.int p3), .val (.long p4), .second, .val (.long p5), .second, .val (.int p6), .val (.int ((p1 &&& (255 : Int32)).toUInt32.toUInt16.toUInt32.toInt32)), .val (.int ((p2 &&& (255 : Int32)).toUInt32.toUInt16.toUInt32.toInt32)), .val (.int (1 : Int32)), .val (.int (0 : Int32)), .val (.ref a318), .val (.int (p3.toInt8.toInt32)), .val (.int ((p3 >>> ((8 : Int32) &&& 31)).toInt8.toInt32)), .val (.ref a326), .val (.ref a340), .val (.ref a318), .val (.ref a326), .val (.ref a359)] rfl at_281 ?_
        refine own_aload H rfl rfl at_283 ?_
        refine own_invokevirtual H (a := a359) (argsL := []) (rest := []) (rmGattempts l Z a0 (own_hw H) h357 n0 a359 (1 : Int32) f364) f363 (w1 := 65) (w0 := 66) (w5 := 68) (w2 := 67) (w3 := 25) (w4 := 69) rfl rfl rfl rfl rfl rfl own_pd15 rfl 0 (by decide) rfl (by decide) (Nat.le_of_eq rfl) (by decide) (by decide) (by decide) rfl at_285 ?_
        rintro _ _ ⟨rfl, rfl⟩
        show own_G _ _ _ _ _ _ _ _ 288 #[.val (.int p1), .val (.int p2), .val (.int p3), .val (.long p4), .second, .val (.long p5), .second, .val (.int p6), .val (.int ((p1 &&& (255 : Int32)).toUInt32.toUInt16.toUInt32.toInt32)), .val (.int ((p2 &&& (255 : Int32)).toUInt32.toUInt16.toUInt32.toInt32)), .val (.int (1 : Int32)), .val (.int (0 : Int32)), .val (.ref a318), .val (.int (p3.toInt8.toInt32)), .val (.int ((p3 >>> ((8 : Int32) &&& 31)).toInt8.toInt32)), .val (.ref a326), .val (.ref a340), .val (.ref a318), .val (.ref a326), .val (.ref a359)] [(.int (1 : Int32))]
        refine own_iconst H (1 : Int32) (by decide) at_288 ?_
        refine own_icmpne_f H at_289 (by decide) ?_
        refine own_aload H rfl rfl at_292 ?_
        refine own_invokevirtual H (a := a359) (argsL := []) (rest := []) (rmGdueAt l Z a0 (own_hw H) h357 n0 a359 p5 f365) f363 (w1 := 80) (w0 := 81) (w5 := 83) (w2 := 82) (w3 := 25) (w4 := 84) rfl rfl rfl rfl rfl rfl own_pd14 rfl 0 (by decide) rfl (by decide) (Nat.le_of_eq rfl) (by decide) (by decide) (by decide) rfl at_294 ?_
        rintro _ _ ⟨rfl, rfl⟩
        show own_G _ _ _ _ _ _ _ _ 297 #[.val (.int p1), .val (.int p2), .val (.int p3), .val (.long p4), .second, .val (.long p5), .second, .val (.int p6), .val (.int ((p1 &&& (255 : Int32)).toUInt32.toUInt16.toUInt32.toInt32)), .val (.int ((p2 &&& (255 : Int32)).toUInt32.toUInt16.toUInt32.toInt32)), .val (.int (1 : Int32)), .val (.int (0 : Int32)), .val (.ref a318), .val (.int (p3.toInt8.toInt32)), .val (.int ((p3 >>> ((8 : Int32) &&& 31)).toInt8.toInt32)), .val (.ref a326), .val (.ref a340), .val (.ref a318), .val (.ref a326), .val (.ref a359)] [(.long p5)]
        refine own_lload H rfl at_297 ?_
        refine own_lcmpne_f H at_299 at_300 rfl ?_
        refine own_iconst H (1 : Int32) (by decide) at_303 ?_
        refine own_goto H (pc' := 308) at_304 (by decide) (by decide) ?_
        exact own_ireturn H (by simp) (by decide) at_308 (by decide) (by decide) rfl
      ·
        by_cases c380 : (((XT.ushr p6 (2 : Int32)) &&& (2147483647 : Int32)) % (3 : Int32)) = (1 : Int32)
        ·
          rw [c380]
          show own_G _ _ _ _ _ _ _ _ 36 #[.val (.int p1), .val (.int p2), .val (.int p3), .val (.long p4), .second, .val (.long p5), .second, .val (.int p6), .val (.int ((p1 &&& (255 : Int32)).toUInt32.toUInt16.toUInt32.toInt32)), .val (.int ((p2 &&& (255 : Int32)).toUInt32.toUInt16.toUInt32.toInt32)), .val (.int (1 : Int32)), .val (.int (1 : Int32)), .unset, .unset, .unset, .unset, .unset, .unset, .unset, .unset] []
          refine own_iload H rfl at_36 ?_
          refine own_ifne_t H (pc' := 56) at_38 (by decide) (by decide) (by decide) ?_
          refine own_iload H rfl at_56 ?_
          refine own_iconst H (1 : Int32) (by decide) at_58 ?_
          refine own_icmpne_f H at_59 (by decide) ?_
          refine own_iload H rfl at_62 ?_
          refine own_invokestatic H (argsL := [(.int ((p1 &&& (255 : Int32)).toUInt32.toUInt16.toUInt32.toInt32))]) (rest := []) (rmVal l Z a0 (own_hw H) h0 n0 ((p1 &&& (255 : Int32)).toUInt32.toUInt16.toUInt32.toInt32) cs hZ0 hS hcs (own_cq _)) (w1 := 85) (w2 := 86) (w3 := 3) (w4 := 87) rfl rfl rfl rfl own_pd3 rfl 0 (by decide) rfl (by decide) (Nat.le_of_eq rfl) (by decide) (by decide) (by decide) rfl at_64 ?_
          rintro _ h381 ⟨a383, rfl, K382, f384, f385, f386, f387⟩
          have f388 : n0 ≤ h381.size := Nat.le_trans hZ0 K382.1
          have f389 : Old Z n0 h381 := hO.keep K382 all0
          show own_G _ _ _ _ _ _ _ _ 67 #[.val (.int p1), .val (.int p2), .val (.int p3), .val (.long p4), .second, .val (.long p5), .second, .val (.int p6), .val (.int ((p1 &&& (255 : Int32)).toUInt32.toUInt16.toUInt32.toInt32)), .val (.int ((p2 &&& (255 : Int32)).toUInt32.toUInt16.toUInt32.toInt32)), .val (.int (1 : Int32)), .val (.int (1 : Int32)), .unset, .unset, .unset, .unset, .unset, .unset, .unset, .unset] [(.ref a383)]
          refine own_astore H rfl #[.val (.int p1), .val (.int p2), .val (.int p3), .val (.long p4), .second, .val (.long p5), .second, .val (.int p6), .val (.int ((p1 &&& (255 : Int32)).toUInt32.toUInt16.toUInt32.toInt32)), .val (.int ((p2 &&& (255 : Int32)).toUInt32.toUInt16.toUInt32.toInt32)), .val (.int (1 : Int32)), .val (.int (1 : Int32)), .val (.ref a383), .unset, .unset, .unset, .unset, .unset, .unset, .unset] rfl at_67 ?_
          refine own_goto H (pc' := 94) at_69 (by decide) (by decide) ?_
          refine own_iload_n H rfl at_94 ?_
          refine own_i2b H rfl at_95 ?_
          refine own_istore H #[.val (.int p1), .val (.int p2), .val (.int p3), .val (.long p4), .second, .val (.long p5), .second, .val (.int p6), .val (.int ((p1 &&& (255 : Int32)).toUInt32.toUInt16.toUInt32.toInt32)), .val (.int ((p2 &&& (255 : Int32)).toUInt32.toUInt16.toUInt32.toInt32)), .val (.int (1 : Int32)), .val (.int (1 : Int32)), .val (.ref a383), .val (.int (p3.toInt8.toInt32)), .unset, .unset, .unset, .unset, .unset, .unset] rfl at_96 ?_
          refine own_iload_n H rfl at_98 ?_
          refine own_bipush H (8 : Int32) (by decide) at_99 ?_
          refine own_ishr H rfl at_101 ?_
          refine own_i2b H rfl at_102 ?_
          refine own_istore H #[.val (.int p1), .val (.int p2), .val (.int p3), .val (.long p4), .second, .val (.long p5), .second, .val (.int p6), .val (.int ((p1 &&& (255 : Int32)).toUInt32.toUInt16.toUInt32.toInt32)), .val (.int ((p2 &&& (255 : Int32)).toUInt32.toUInt16.toUInt32.toInt32)), .val (.int (1 : Int32)), .val (.int (1 : Int32)), .val (.ref a383), .val (.int (p3.toInt8.toInt32)), .val (.int ((p3 >>> ((8 : Int32) &&& 31)).toInt8.toInt32)), .unset, .unset, .unset, .unset, .unset] rfl at_103 ?_
          refine own_iload H rfl at_105 ?_
          refine own_ifne_t H (pc' := 118) at_107 (by decide) (by decide) (by decide) ?_
          refine own_iload H rfl at_118 ?_
          refine own_iconst H (1 : Int32) (by decide) at_120 ?_
          refine own_icmpne_f H at_121 (by decide) ?_
          refine own_iconst H (1 : Int32) (by decide) at_124 ?_
          refine own_newarray H (w := 16) (n := (1 : Int32)) rfl (by decide) 1 (by decide) (by decide) at_125 (by decide) (by decide) ?_
          intro h390 a391 kA392 ha393 E394 V395
          have f397 : a383 ≠ a391 := Nat.ne_of_lt (by rw [ha393]; exact f387.lt)
          have f398 : n0 ≤ a391 := by rw [ha393]; exact f388
          have f399 : n0 ≤ h390.size := Nat.le_trans f388 E394.1
          have f400 : Old Z n0 h390 := f389.ext E394
          have f401 : Exa Z h390 a383 "java/lang/String" := f387.ext E394
          have f402 : Arv Z h390 a391 kA392 .byte (1 : Int32) [(.int 0)] (.int 0) := V395.pad (pad_rep [] (.int 0) 1)
          show own_G _ _ _ _ _ _ _ _ 127 #[.val (.int p1), .val (.int p2), .val (.int p3), .val (.long p4), .second, .val (.long p5), .second, .val (.int p6), .val (.int ((p1 &&& (255 : Int32)).toUInt32.toUInt16.toUInt32.toInt32)), .val (.int ((p2 &&& (255 : Int32)).toUInt32.toUInt16.toUInt32.toInt32)), .val (.int (1 : Int32)), .val (.int (1 : Int32)), .val (.ref a383), .val (.int (p3.toInt8.toInt32)), .val (.int ((p3 >>> ((8 : Int32) &&& 31)).toInt8.toInt32)), .unset, .unset, .unset, .unset, .unset] [(.ref a391)]
          refine own_dup H rfl at_127 ?_
          refine own_iconst H (0 : Int32) (by decide) at_128 ?_
          refine own_iload H rfl at_129 ?_
          refine own_bastoreV H f402 (by decide) (by decide) 0 (by decide) (Nat.le_of_ble_eq_true rfl) f398 rfl at_131 ?_
          intro h403 W404 V405
          have f406 : n0 ≤ h403.size := by rw [W404.size]; exact f399
          have f407 : Old Z n0 h403 := f400.wr W404 f398
          have f408 : Exa Z h403 a383 "java/lang/String" := f401.wr W404
          have f409 : Arv Z h403 a391 kA392 .byte (1 : Int32) [(.int (nar .byte (p3.toInt8.toInt32)))] (.int 0) := V405
          refine own_astore H rfl #[.val (.int p1), .val (.int p2), .val (.int p3), .val (.long p4), .second, .val (.long p5), .second, .val (.int p6), .val (.int ((p1 &&& (255 : Int32)).toUInt32.toUInt16.toUInt32.toInt32)), .val (.int ((p2 &&& (255 : Int32)).toUInt32.toUInt16.toUInt32.toInt32)), .val (.int (1 : Int32)), .val (.int (1 : Int32)), .val (.ref a383), .val (.int (p3.toInt8.toInt32)), .val (.int ((p3 >>> ((8 : Int32) &&& 31)).toInt8.toInt32)), .val (.ref a391), .unset, .unset, .unset, .unset] rfl at_132 ?_
          refine own_goto H (pc' := 152) at_134 (by decide) (by decide) ?_
          refine own_aload H rfl rfl at_152 ?_
          refine own_aload H rfl rfl at_154 ?_
          refine own_lload_n H rfl at_156 ?_
          refine own_invokestatic H (argsL := [(.ref a383), (.ref a391), (.long p4)]) (rest := []) (rmPst l Z a0 (own_hw H) h403 n0 a383 a391 p4 f406) (w1 := 23) (w2 := 24) (w3 := 25) (w4 := 26) rfl rfl rfl rfl own_pd10 rfl 0 (by decide) rfl (by decide) (Nat.le_of_eq rfl) (by decide) (by decide) (by decide) rfl at_157 ?_
          rintro _ h410 ⟨a412, rfl, K411, f413, f414, f415, f416, f417, f418, f419, f420, f421, f422⟩
          have f423 : a383 ≠ a412 := Nat.ne_of_lt (Nat.lt_of_lt_of_le f408.lt f414)
          have f424 : a391 ≠ a412 := Nat.ne_of_lt (Nat.lt_of_lt_of_le f409.lt f414)
          have f425 : n0 ≤ h410.size := Nat.le_trans f406 K411.1
          have f426 : Old Z n0 h410 := f407.keep K411 all0
          have f427 : Exa Z h410 a383 "java/lang/String" := f408.keep K411
          have f428 : Arv Z h410 a391 kA392 .byte (1 : Int32) [(.int (nar .byte (p3.toInt8.toInt32)))] (.int 0) := f409.keep K411 nin0
          show own_G _ _ _ _ _ _ _ _ 160 #[.val (.int p1), .val (.int p2), .val (.int p3), .val (.long p4), .second, .val (.long p5), .second, .val (.int p6), .val (.int ((p1 &&& (255 : Int32)).toUInt32.toUInt16.toUInt32.toInt32)), .val (.int ((p2 &&& (255 : Int32)).toUInt32.toUInt16.toUInt32.toInt32)), .val (.int (1 : Int32)), .val (.int (1 : Int32)), .val (.ref a383), .val (.int (p3.toInt8.toInt32)), .val (.int ((p3 >>> ((8 : Int32) &&& 31)).toInt8.toInt32)), .val (.ref a391), .unset, .unset, .unset, .unset] [(.ref a412)]
          refine own_astore H rfl #[.val (.int p1), .val (.int p2), .val (.int p3), .val (.long p4), .second, .val (.long p5), .second, .val (.int p6), .val (.int ((p1 &&& (255 : Int32)).toUInt32.toUInt16.toUInt32.toInt32)), .val (.int ((p2 &&& (255 : Int32)).toUInt32.toUInt16.toUInt32.toInt32)), .val (.int (1 : Int32)), .val (.int (1 : Int32)), .val (.ref a383), .val (.int (p3.toInt8.toInt32)), .val (.int ((p3 >>> ((8 : Int32) &&& 31)).toInt8.toInt32)), .val (.ref a391), .val (.ref a412), .unset, .unset, .unset] rfl at_160 ?_
          refine own_aload H rfl rfl at_162 ?_
          refine own_invokevirtual H (a := a412) (argsL := []) (rest := []) (rmGurl l Z a0 (own_hw H) h410 n0 a412 a383 f417) f416 (w1 := 45) (w0 := 46) (w5 := 48) (w2 := 47) (w3 := 25) (w4 := 49) rfl rfl rfl rfl rfl rfl own_pd12 rfl 0 (by decide) rfl (by decide) (Nat.le_of_eq rfl) (by decide) (by decide) (by decide) rfl at_164 ?_
          rintro _ _ ⟨rfl, rfl⟩
          show own_G _ _ _ _ _ _ _ _ 167 #[.val (.int p1), .val (.int p2), .val (.int p3), .val (.long p4), .second, .val (.long p5), .second, .val (.int p6), .val (.int ((p1 &&& (255 : Int32)).toUInt32.toUInt16.toUInt32.toInt32)), .val (.int ((p2 &&& (255 : Int32)).toUInt32.toUInt16.toUInt32.toInt32)), .val (.int (1 : Int32)), .val (.int (1 : Int32)), .val (.ref a383), .val (.int (p3.toInt8.toInt32)), .val (.int ((p3 >>> ((8 : Int32) &&& 31)).toInt8.toInt32)), .val (.ref a391), .val (.ref a412), .unset, .unset, .unset] [(.ref a383)]
          refine own_astore H rfl #[.val (.int p1), .val (.int p2), .val (.int p3), .val (.long p4), .second, .val (.long p5), .second, .val (.int p6), .val (.int ((p1 &&& (255 : Int32)).toUInt32.toUInt16.toUInt32.toInt32)), .val (.int ((p2 &&& (255 : Int32)).toUInt32.toUInt16.toUInt32.toInt32)), .val (.int (1 : Int32)), .val (.int (1 : Int32)), .val (.ref a383), .val (.int (p3.toInt8.toInt32)), .val (.int ((p3 >>> ((8 : Int32) &&& 31)).toInt8.toInt32)), .val (.ref a391), .val (.ref a412), .val (.ref a383), .unset, .unset] rfl at_167 ?_
          refine own_aload H rfl rfl at_169 ?_
          refine own_ifnull_f H at_171 rfl (fun h => nomatch h) ?_
          refine own_aload H rfl rfl at_174 ?_
          refine own_aload H rfl rfl at_176 ?_
          refine own_invokevirtual H (a := a383) (argsL := [(.ref a383)]) (rest := []) (rmEqu l Z a0 (own_hw H) h410 n0 a383 a383 rfl) f427 (w1 := 50) (w0 := 51) (w5 := 53) (w2 := 52) (w3 := 3) (w4 := 54) rfl rfl rfl rfl rfl rfl own_pd16 rfl 0 (by decide) rfl (by decide) (Nat.le_of_eq rfl) (by decide) (by decide) (by decide) rfl at_178 ?_
          rintro _ _ ⟨rfl, rfl⟩
          show own_G _ _ _ _ _ _ _ _ 181 #[.val (.int p1), .val (.int p2), .val (.int p3), .val (.long p4), .second, .val (.long p5), .second, .val (.int p6), .val (.int ((p1 &&& (255 : Int32)).toUInt32.toUInt16.toUInt32.toInt32)), .val (.int ((p2 &&& (255 : Int32)).toUInt32.toUInt16.toUInt32.toInt32)), .val (.int (1 : Int32)), .val (.int (1 : Int32)), .val (.ref a383), .val (.int (p3.toInt8.toInt32)), .val (.int ((p3 >>> ((8 : Int32) &&& 31)).toInt8.toInt32)), .val (.ref a391), .val (.ref a412), .val (.ref a383), .unset, .unset] [(.int (1 : Int32))]
          refine own_ifne_t H (pc' := 186) at_181 (by decide) (by decide) (by decide) ?_
          refine own_aload H rfl rfl at_186 ?_
          refine own_invokevirtual H (a := a412) (argsL := []) (rest := []) (rmGpayloadJson l Z a0 (own_hw H) h410 n0 a412 a391 f418) f416 (w1 := 55) (w0 := 56) (w5 := 58) (w2 := 57) (w3 := 25) (w4 := 59) rfl rfl rfl rfl rfl rfl own_pd13 rfl 0 (by decide) rfl (by decide) (Nat.le_of_eq rfl) (by decide) (by decide) (by decide) rfl at_188 ?_
          rintro _ _ ⟨rfl, rfl⟩
          show own_G _ _ _ _ _ _ _ _ 191 #[.val (.int p1), .val (.int p2), .val (.int p3), .val (.long p4), .second, .val (.long p5), .second, .val (.int p6), .val (.int ((p1 &&& (255 : Int32)).toUInt32.toUInt16.toUInt32.toInt32)), .val (.int ((p2 &&& (255 : Int32)).toUInt32.toUInt16.toUInt32.toInt32)), .val (.int (1 : Int32)), .val (.int (1 : Int32)), .val (.ref a383), .val (.int (p3.toInt8.toInt32)), .val (.int ((p3 >>> ((8 : Int32) &&& 31)).toInt8.toInt32)), .val (.ref a391), .val (.ref a412), .val (.ref a383), .unset, .unset] [(.ref a391)]
          refine own_astore H rfl #[.val (.int p1), .val (.int p2), .val (.int p3), .val (.long p4), .second, .val (.long p5), .second, .val (.int p6), .val (.int ((p1 &&& (255 : Int32)).toUInt32.toUInt16.toUInt32.toInt32)), .val (.int ((p2 &&& (255 : Int32)).toUInt32.toUInt16.toUInt32.toInt32)), .val (.int (1 : Int32)), .val (.int (1 : Int32)), .val (.ref a383), .val (.int (p3.toInt8.toInt32)), .val (.int ((p3 >>> ((8 : Int32) &&& 31)).toInt8.toInt32)), .val (.ref a391), .val (.ref a412), .val (.ref a383), .val (.ref a391), .unset] rfl at_191 ?_
          refine own_aload H rfl rfl at_193 ?_
          refine own_ifnull_f H at_195 rfl (fun h => nomatch h) ?_
          refine own_aload H rfl rfl at_198 ?_
          refine own_arraylengthV H f428 at_200 ?_
          refine own_iload H rfl at_201 ?_
          refine own_icmpeq_t H (pc' := 208) at_203 (by decide) (by decide) (by decide) ?_
          refine own_iload H rfl at_208 ?_
          refine own_iconst H (1 : Int32) (by decide) at_210 ?_
          refine own_icmplt_f H at_211 (by decide) ?_
          refine own_aload H rfl rfl at_214 ?_
          refine own_iconst H (0 : Int32) (by decide) at_216 ?_
          refine own_baloadV H f428 (by decide) (by decide) rfl at_217 ?_
          refine own_iload H rfl at_218 ?_
          refine own_icmpeq_t H (pc' := 225) at_220 (by decide) (by decide) (own_nbi _) ?_
          refine own_iload H rfl at_225 ?_
          refine own_iconst H (2 : Int32) (by decide) at_227 ?_
          refine own_icmpne_t H (pc' := 242) at_228 (by decide) (by decide) (by decide) ?_
          refine own_aload H rfl rfl at_242 ?_
          refine own_invokevirtual H (a := a412) (argsL := []) (rest := []) (rmGsequence l Z a0 (own_hw H) h410 n0 a412 p4 f419) f416 (w1 := 60) (w0 := 61) (w5 := 63) (w2 := 62) (w3 := 25) (w4 := 64) rfl rfl rfl rfl rfl rfl own_pd14 rfl 0 (by decide) rfl (by decide) (Nat.le_of_eq rfl) (by decide) (by decide) (by decide) rfl at_244 ?_
          rintro _ _ ⟨rfl, rfl⟩
          show own_G _ _ _ _ _ _ _ _ 247 #[.val (.int p1), .val (.int p2), .val (.int p3), .val (.long p4), .second, .val (.long p5), .second, .val (.int p6), .val (.int ((p1 &&& (255 : Int32)).toUInt32.toUInt16.toUInt32.toInt32)), .val (.int ((p2 &&& (255 : Int32)).toUInt32.toUInt16.toUInt32.toInt32)), .val (.int (1 : Int32)), .val (.int (1 : Int32)), .val (.ref a383), .val (.int (p3.toInt8.toInt32)), .val (.int ((p3 >>> ((8 : Int32) &&& 31)).toInt8.toInt32)), .val (.ref a391), .val (.ref a412), .val (.ref a383), .val (.ref a391), .unset] [(.long p4)]
          refine own_lload_n H rfl at_247 ?_
          refine own_lcmpeq_t H (pc' := 254) at_248 at_249 (by decide) (by decide) rfl ?_
          refine own_aload H rfl rfl at_254 ?_
          refine own_invokevirtual H (a := a412) (argsL := []) (rest := []) (rmGattempts l Z a0 (own_hw H) h410 n0 a412 (0 : Int32) f420) f416 (w1 := 65) (w0 := 66) (w5 := 68) (w2 := 67) (w3 := 25) (w4 := 69) rfl rfl rfl rfl rfl rfl own_pd15 rfl 0 (by decide) rfl (by decide) (Nat.le_of_eq rfl) (by decide) (by decide) (by decide) rfl at_256 ?_
          rintro _ _ ⟨rfl, rfl⟩
          show own_G _ _ _ _ _ _ _ _ 259 #[.val (.int p1), .val (.int p2), .val (.int p3), .val (.long p4), .second, .val (.long p5), .second, .val (.int p6), .val (.int ((p1 &&& (255 : Int32)).toUInt32.toUInt16.toUInt32.toInt32)), .val (.int ((p2 &&& (255 : Int32)).toUInt32.toUInt16.toUInt32.toInt32)), .val (.int (1 : Int32)), .val (.int (1 : Int32)), .val (.ref a383), .val (.int (p3.toInt8.toInt32)), .val (.int ((p3 >>> ((8 : Int32) &&& 31)).toInt8.toInt32)), .val (.ref a391), .val (.ref a412), .val (.ref a383), .val (.ref a391), .unset] [(.int (0 : Int32))]
          refine own_ifeq_t H (pc' := 264) at_259 (by decide) (by decide) (by decide) ?_
          refine own_aload H rfl rfl at_264 ?_
          refine own_invokevirtual H (a := a412) (argsL := []) (rest := []) (rmGlastError l Z a0 (own_hw H) h410 n0 a412 f422) f416 (w1 := 70) (w0 := 71) (w5 := 73) (w2 := 72) (w3 := 25) (w4 := 74) rfl rfl rfl rfl rfl rfl own_pd12 rfl 0 (by decide) rfl (by decide) (Nat.le_of_eq rfl) (by decide) (by decide) (by decide) rfl at_266 ?_
          rintro _ _ ⟨rfl, rfl⟩
          show own_G _ _ _ _ _ _ _ _ 269 #[.val (.int p1), .val (.int p2), .val (.int p3), .val (.long p4), .second, .val (.long p5), .second, .val (.int p6), .val (.int ((p1 &&& (255 : Int32)).toUInt32.toUInt16.toUInt32.toInt32)), .val (.int ((p2 &&& (255 : Int32)).toUInt32.toUInt16.toUInt32.toInt32)), .val (.int (1 : Int32)), .val (.int (1 : Int32)), .val (.ref a383), .val (.int (p3.toInt8.toInt32)), .val (.int ((p3 >>> ((8 : Int32) &&& 31)).toInt8.toInt32)), .val (.ref a391), .val (.ref a412), .val (.ref a383), .val (.ref a391), .unset] [.null]
          refine own_ifnull_t H (pc' := 274) at_269 (by decide) (by decide) rfl rfl ?_
          refine own_aload H rfl rfl at_274 ?_
          refine own_lload H rfl at_276 ?_
          refine own_invokevirtual H (a := a412) (argsL := [(.long p5)]) (rest := []) (rmAtt l Z a0 (own_hw H) h410 n0 a412 p5 a383 a391 p4 f425 f417 f418 f419 f420 f422) f416 (w1 := 75) (w0 := 76) (w5 := 78) (w2 := 77) (w3 := 25) (w4 := 79) rfl rfl rfl rfl rfl rfl own_pd11 rfl 0 (by decide) rfl (by decide) (Nat.le_of_eq rfl) (by decide) (by decide) (by decide) rfl at_278 ?_
          rintro _ h429 ⟨a431, rfl, K430, f432, f433, f434, f435, f436, f437⟩
          have f438 : a383 ≠ a431 := Nat.ne_of_lt (Nat.lt_of_lt_of_le f427.lt f433)
          have f439 : a391 ≠ a431 := Nat.ne_of_lt (Nat.lt_of_lt_of_le f428.lt f433)
          have f440 : a412 ≠ a431 := Nat.ne_of_lt (Nat.lt_of_lt_of_le f416.lt f433)
          have f441 : n0 ≤ h429.size := Nat.le_trans f425 K430.1
          have f442 : Old Z n0 h429 := f426.keep K430 all0
          have f443 : Exa Z h429 a383 "java/lang/String" := f427.keep K430
          have f444 : Arv Z h429 a391 kA392 .byte (1 : Int32) [(.int (nar .byte (p3.toInt8.toInt32)))] (.int 0) := f428.keep K430 nin0
          have f445 : Exa Z h429 a412 "com/example/ring_to_run/ringtorun/service/Callback" := f416.keep K430
          have f446 : Fld Z h429 a412 "com/example/ring_to_run/ringtorun/service/Callback" "url" "Ljava/lang/String;" (.ref a383) := f417.keep K430 nin0
          have f447 : Fld Z h429 a412 "com/example/ring_to_run/ringtorun/service/Callback" "payloadJson" "[B" (.ref a391) := f418.keep K430 nin0
          have f448 : Fld Z h429 a412 "com/example/ring_to_run/ringtorun/service/Callback" "sequence" "J" (.long p4) := f419.keep K430 nin0
          have f449 : Fld Z h429 a412 "com/example/ring_to_run/ringtorun/service/Callback" "attempts" "I" (.int (0 : Int32)) := f420.keep K430 nin0
          have f450 : Fld Z h429 a412 "com/example/ring_to_run/ringtorun/service/Callback" "dueAt" "J" (.long (0 : Int64)) := f421.keep K430 nin0
          have f451 : Fld Z h429 a412 "com/example/ring_to_run/ringtorun/service/Callback" "lastError" "Ljava/lang/String;" .null := f422.keep K430 nin0
          show own_G _ _ _ _ _ _ _ _ 281 #[.val (.int p1), .val (.int p2), .val (.int p3), .val (.long p4), .second, .val (.long p5), .second, .val (.int p6), .val (.int ((p1 &&& (255 : Int32)).toUInt32.toUInt16.toUInt32.toInt32)), .val (.int ((p2 &&& (255 : Int32)).toUInt32.toUInt16.toUInt32.toInt32)), .val (.int (1 : Int32)), .val (.int (1 : Int32)), .val (.ref a383), .val (.int (p3.toInt8.toInt32)), .val (.int ((p3 >>> ((8 : Int32) &&& 31)).toInt8.toInt32)), .val (.ref a391), .val (.ref a412), .val (.ref a383), .val (.ref a391), .unset] [(.ref a431)]
          refine own_astore H rfl #[.val (.int p1), .val (.int p2), .val (.int p3), .val (.long p4), .second, .val (.long p5), .second, .val (.int p6), .val (.int ((p1 &&& (255 : Int32)).toUInt32.toUInt16.toUInt32.toInt32)), .val (.int ((p2 &&& (255 : Int32)).toUInt32.toUInt16.toUInt32.toInt32)), .val (.int (1 : Int32)), .val (.int (1 : Int32)), .val (.ref a383), .val (.int (p3.toInt8.toInt32)), .val (.int ((p3 >>> ((8 : Int32) &&& 31)).toInt8.toInt32)), .val (.ref a391), .val (.ref a412), .val (.ref a383), .val (.ref a391), .val (.ref a431)] rfl at_281 ?_
          refine own_aload H rfl rfl at_283 ?_
          refine own_invokevirtual H (a := a431) (argsL := []) (rest := []) (rmGattempts l Z a0 (own_hw H) h429 n0 a431 (1 : Int32) f436) f435 (w1 := 65) (w0 := 66) (w5 := 68) (w2 := 67) (w3 := 25) (w4 := 69) rfl rfl rfl rfl rfl rfl own_pd15 rfl 0 (by decide) rfl (by decide) (Nat.le_of_eq rfl) (by decide) (by decide) (by decide) rfl at_285 ?_
          rintro _ _ ⟨rfl, rfl⟩
          show own_G _ _ _ _ _ _ _ _ 288 #[.val (.int p1), .val (.int p2), .val (.int p3), .val (.long p4), .second, .val (.long p5), .second, .val (.int p6), .val (.int ((p1 &&& (255 : Int32)).toUInt32.toUInt16.toUInt32.toInt32)), .val (.int ((p2 &&& (255 : Int32)).toUInt32.toUInt16.toUInt32.toInt32)), .val (.int (1 : Int32)), .val (.int (1 : Int32)), .val (.ref a383), .val (.int (p3.toInt8.toInt32)), .val (.int ((p3 >>> ((8 : Int32) &&& 31)).toInt8.toInt32)), .val (.ref a391), .val (.ref a412), .val (.ref a383), .val (.ref a391), .val (.ref a431)] [(.int (1 : Int32))]
          refine own_iconst H (1 : Int32) (by decide) at_288 ?_
          refine own_icmpne_f H at_289 (by decide) ?_
          refine own_aload H rfl rfl at_292 ?_
          refine own_invokevirtual H (a := a431) (argsL := []) (rest := []) (rmGdueAt l Z a0 (own_hw H) h429 n0 a431 p5 f437) f435 (w1 := 80) (w0 := 81) (w5 := 83) (w2 := 82) (w3 := 25) (w4 := 84) rfl rfl rfl rfl rfl rfl own_pd14 rfl 0 (by decide) rfl (by decide) (Nat.le_of_eq rfl) (by decide) (by decide) (by decide) rfl at_294 ?_
          rintro _ _ ⟨rfl, rfl⟩
          show own_G _ _ _ _ _ _ _ _ 297 #[.val (.int p1), .val (.int p2), .val (.int p3), .val (.long p4), .second, .val (.long p5), .second, .val (.int p6), .val (.int ((p1 &&& (255 : Int32)).toUInt32.toUInt16.toUInt32.toInt32)), .val (.int ((p2 &&& (255 : Int32)).toUInt32.toUInt16.toUInt32.toInt32)), .val (.int (1 : Int32)), .val (.int (1 : Int32)), .val (.ref a383), .val (.int (p3.toInt8.toInt32)), .val (.int ((p3 >>> ((8 : Int32) &&& 31)).toInt8.toInt32)), .val (.ref a391), .val (.ref a412), .val (.ref a383), .val (.ref a391), .val (.ref a431)] [(.long p5)]
          refine own_lload H rfl at_297 ?_
          refine own_lcmpne_f H at_299 at_300 rfl ?_
          refine own_iconst H (1 : Int32) (by decide) at_303 ?_
          refine own_goto H (pc' := 308) at_304 (by decide) (by decide) ?_
          exact own_ireturn H (by simp) (by decide) at_308 (by decide) (by decide) rfl
        ·
          have c452 : (((XT.ushr p6 (2 : Int32)) &&& (2147483647 : Int32)) % (3 : Int32)) = (2 : Int32) := own_k3 _ c315 c380
          rw [c452]
          show own_G _ _ _ _ _ _ _ _ 36 #[.val (.int p1), .val (.int p2), .val (.int p3), .val (.long p4), .second, .val (.long p5), .second, .val (.int p6), .val (.int ((p1 &&& (255 : Int32)).toUInt32.toUInt16.toUInt32.toInt32)), .val (.int ((p2 &&& (255 : Int32)).toUInt32.toUInt16.toUInt32.toInt32)), .val (.int (1 : Int32)), .val (.int (2 : Int32)), .unset, .unset, .unset, .unset, .unset, .unset, .unset, .unset] []
          refine own_iload H rfl at_36 ?_
          refine own_ifne_t H (pc' := 56) at_38 (by decide) (by decide) (by decide) ?_
          refine own_iload H rfl at_56 ?_
          refine own_iconst H (1 : Int32) (by decide) at_58 ?_
          refine own_icmpne_f H at_59 (by decide) ?_
          refine own_iload H rfl at_62 ?_
          refine own_invokestatic H (argsL := [(.int ((p1 &&& (255 : Int32)).toUInt32.toUInt16.toUInt32.toInt32))]) (rest := []) (rmVal l Z a0 (own_hw H) h0 n0 ((p1 &&& (255 : Int32)).toUInt32.toUInt16.toUInt32.toInt32) cs hZ0 hS hcs (own_cq _)) (w1 := 85) (w2 := 86) (w3 := 3) (w4 := 87) rfl rfl rfl rfl own_pd3 rfl 0 (by decide) rfl (by decide) (Nat.le_of_eq rfl) (by decide) (by decide) (by decide) rfl at_64 ?_
          rintro _ h453 ⟨a455, rfl, K454, f456, f457, f458, f459⟩
          have f460 : n0 ≤ h453.size := Nat.le_trans hZ0 K454.1
          have f461 : Old Z n0 h453 := hO.keep K454 all0
          show own_G _ _ _ _ _ _ _ _ 67 #[.val (.int p1), .val (.int p2), .val (.int p3), .val (.long p4), .second, .val (.long p5), .second, .val (.int p6), .val (.int ((p1 &&& (255 : Int32)).toUInt32.toUInt16.toUInt32.toInt32)), .val (.int ((p2 &&& (255 : Int32)).toUInt32.toUInt16.toUInt32.toInt32)), .val (.int (1 : Int32)), .val (.int (2 : Int32)), .unset, .unset, .unset, .unset, .unset, .unset, .unset, .unset] [(.ref a455)]
          refine own_astore H rfl #[.val (.int p1), .val (.int p2), .val (.int p3), .val (.long p4), .second, .val (.long p5), .second, .val (.int p6), .val (.int ((p1 &&& (255 : Int32)).toUInt32.toUInt16.toUInt32.toInt32)), .val (.int ((p2 &&& (255 : Int32)).toUInt32.toUInt16.toUInt32.toInt32)), .val (.int (1 : Int32)), .val (.int (2 : Int32)), .val (.ref a455), .unset, .unset, .unset, .unset, .unset, .unset, .unset] rfl at_67 ?_
          refine own_goto H (pc' := 94) at_69 (by decide) (by decide) ?_
          refine own_iload_n H rfl at_94 ?_
          refine own_i2b H rfl at_95 ?_
          refine own_istore H #[.val (.int p1), .val (.int p2), .val (.int p3), .val (.long p4), .second, .val (.long p5), .second, .val (.int p6), .val (.int ((p1 &&& (255 : Int32)).toUInt32.toUInt16.toUInt32.toInt32)), .val (.int ((p2 &&& (255 : Int32)).toUInt32.toUInt16.toUInt32.toInt32)), .val (.int (1 : Int32)), .val (.int (2 : Int32)), .val (.ref a455), .val (.int (p3.toInt8.toInt32)), .unset, .unset, .unset, .unset, .unset, .unset] rfl at_96 ?_
          refine own_iload_n H rfl at_98 ?_
          refine own_bipush H (8 : Int32) (by decide) at_99 ?_
          refine own_ishr H rfl at_101 ?_
          refine own_i2b H rfl at_102 ?_
          refine own_istore H #[.val (.int p1), .val (.int p2), .val (.int p3), .val (.long p4), .second, .val (.long p5), .second, .val (.int p6), .val (.int ((p1 &&& (255 : Int32)).toUInt32.toUInt16.toUInt32.toInt32)), .val (.int ((p2 &&& (255 : Int32)).toUInt32.toUInt16.toUInt32.toInt32)), .val (.int (1 : Int32)), .val (.int (2 : Int32)), .val (.ref a455), .val (.int (p3.toInt8.toInt32)), .val (.int ((p3 >>> ((8 : Int32) &&& 31)).toInt8.toInt32)), .unset, .unset, .unset, .unset, .unset] rfl at_103 ?_
          refine own_iload H rfl at_105 ?_
          refine own_ifne_t H (pc' := 118) at_107 (by decide) (by decide) (by decide) ?_
          refine own_iload H rfl at_118 ?_
          refine own_iconst H (1 : Int32) (by decide) at_120 ?_
          refine own_icmpne_t H (pc' := 137) at_121 (by decide) (by decide) (by decide) ?_
          refine own_iconst H (2 : Int32) (by decide) at_137 ?_
          refine own_newarray H (w := 16) (n := (2 : Int32)) rfl (by decide) 2 (by decide) (by decide) at_138 (by decide) (by decide) ?_
          intro h462 a463 kA464 ha465 E466 V467
          have f469 : a455 ≠ a463 := Nat.ne_of_lt (by rw [ha465]; exact f459.lt)
          have f470 : n0 ≤ a463 := by rw [ha465]; exact f460
          have f471 : n0 ≤ h462.size := Nat.le_trans f460 E466.1
          have f472 : Old Z n0 h462 := f461.ext E466
          have f473 : Exa Z h462 a455 "java/lang/String" := f459.ext E466
          have f474 : Arv Z h462 a463 kA464 .byte (2 : Int32) [(.int 0), (.int 0)] (.int 0) := V467.pad (pad_rep [] (.int 0) 2)
          show own_G _ _ _ _ _ _ _ _ 140 #[.val (.int p1), .val (.int p2), .val (.int p3), .val (.long p4), .second, .val (.long p5), .second, .val (.int p6), .val (.int ((p1 &&& (255 : Int32)).toUInt32.toUInt16.toUInt32.toInt32)), .val (.int ((p2 &&& (255 : Int32)).toUInt32.toUInt16.toUInt32.toInt32)), .val (.int (1 : Int32)), .val (.int (2 : Int32)), .val (.ref a455), .val (.int (p3.toInt8.toInt32)), .val (.int ((p3 >>> ((8 : Int32) &&& 31)).toInt8.toInt32)), .unset, .unset, .unset, .unset, .unset] [(.ref a463)]
          refine own_dup H rfl at_140 ?_
          refine own_iconst H (0 : Int32) (by decide) at_141 ?_
          refine own_iload H rfl at_142 ?_
          refine own_bastoreV H f474 (by decide) (by decide) 0 (by decide) (Nat.le_of_ble_eq_true rfl) f470 rfl at_144 ?_
          intro h475 W476 V477
          have f478 : n0 ≤ h475.size := by rw [W476.size]; exact f471
          have f479 : Old Z n0 h475 := f472.wr W476 f470
          have f480 : Exa Z h475 a455 "java/lang/String" := f473.wr W476
          have f481 : Arv Z h475 a463 kA464 .byte (2 : Int32) [(.int (nar .byte (p3.toInt8.toInt32))), (.int 0)] (.int 0) := V477
          refine own_dup H rfl at_145 ?_
          refine own_iconst H (1 : Int32) (by decide) at_146 ?_
          refine own_iload H rfl at_147 ?_
          refine own_bastoreV H f481 (by decide) (by decide) 1 (by decide) (Nat.le_of_ble_eq_true rfl) f470 rfl at_149 ?_
          intro h482 W483 V484
          have f485 : n0 ≤ h482.size := by rw [W483.size]; exact f478
          have f486 : Old Z n0 h482 := f479.wr W483 f470
          have f487 : Exa Z h482 a455 "java/lang/String" := f480.wr W483
          have f488 : Arv Z h482 a463 kA464 .byte (2 : Int32) [(.int (nar .byte (p3.toInt8.toInt32))), (.int (nar .byte ((p3 >>> ((8 : Int32) &&& 31)).toInt8.toInt32)))] (.int 0) := V484
          refine own_astore H rfl #[.val (.int p1), .val (.int p2), .val (.int p3), .val (.long p4), .second, .val (.long p5), .second, .val (.int p6), .val (.int ((p1 &&& (255 : Int32)).toUInt32.toUInt16.toUInt32.toInt32)), .val (.int ((p2 &&& (255 : Int32)).toUInt32.toUInt16.toUInt32.toInt32)), .val (.int (1 : Int32)), .val (.int (2 : Int32)), .val (.ref a455), .val (.int (p3.toInt8.toInt32)), .val (.int ((p3 >>> ((8 : Int32) &&& 31)).toInt8.toInt32)), .val (.ref a463), .unset, .unset, .unset, .unset] rfl at_150 ?_
          refine own_aload H rfl rfl at_152 ?_
          refine own_aload H rfl rfl at_154 ?_
          refine own_lload_n H rfl at_156 ?_
          refine own_invokestatic H (argsL := [(.ref a455), (.ref a463), (.long p4)]) (rest := []) (rmPst l Z a0 (own_hw H) h482 n0 a455 a463 p4 f485) (w1 := 23) (w2 := 24) (w3 := 25) (w4 := 26) rfl rfl rfl rfl own_pd10 rfl 0 (by decide) rfl (by decide) (Nat.le_of_eq rfl) (by decide) (by decide) (by decide) rfl at_157 ?_
          rintro _ h489 ⟨a491, rfl, K490, f492, f493, f494, f495, f496, f497, f498, f499, f500, f501⟩
          have f502 : a455 ≠ a491 := Nat.ne_of_lt (Nat.lt_of_lt_of_le f487.lt f493)
          have f503 : a463 ≠ a491 := Nat.ne_of_lt (Nat.lt_of_lt_of_le f488.lt f493)
          have f504 : n0 ≤ h489.size := Nat.le_trans f485 K490.1
          have f505 : Old Z n0 h489 := f486.keep K490 all0
          have f506 : Exa Z h489 a455 "java/lang/String" := f487.keep K490
          have f507 : Arv Z h489 a463 kA464 .byte (2 : Int32) [(.int (nar .byte (p3.toInt8.toInt32))), (.int (nar .byte ((p3 >>> ((8 : Int32) &&& 31)).toInt8.toInt32)))] (.int 0) := f488.keep K490 nin0
          show own_G _ _ _ _ _ _ _ _ 160 #[.val (.int p1), .val (.int p2), .val (.int p3), .val (.long p4), .second, .val (.long p5), .second, .val (.int p6), .val (.int ((p1 &&& (255 : Int32)).toUInt32.toUInt16.toUInt32.toInt32)), .val (.int ((p2 &&& (255 : Int32)).toUInt32.toUInt16.toUInt32.toInt32)), .val (.int (1 : Int32)), .val (.int (2 : Int32)), .val (.ref a455), .val (.int (p3.toInt8.toInt32)), .val (.int ((p3 >>> ((8 : Int32) &&& 31)).toInt8.toInt32)), .val (.ref a463), .unset, .unset, .unset, .unset] [(.ref a491)]
          refine own_astore H rfl #[.val (.int p1), .val (.int p2), .val (.int p3), .val (.long p4), .second, .val (.long p5), .second, .val (.int p6), .val (.int ((p1 &&& (255 : Int32)).toUInt32.toUInt16.toUInt32.toInt32)), .val (.int ((p2 &&& (255 : Int32)).toUInt32.toUInt16.toUInt32.toInt32)), .val (.int (1 : Int32)), .val (.int (2 : Int32)), .val (.ref a455), .val (.int (p3.toInt8.toInt32)), .val (.int ((p3 >>> ((8 : Int32) &&& 31)).toInt8.toInt32)), .val (.ref a463), .val (.ref a491), .unset, .unset, .unset] rfl at_160 ?_
          refine own_aload H rfl rfl at_162 ?_
          refine own_invokevirtual H (a := a491) (argsL := []) (rest := []) (rmGurl l Z a0 (own_hw H) h489 n0 a491 a455 f496) f495 (w1 := 45) (w0 := 46) (w5 := 48) (w2 := 47) (w3 := 25) (w4 := 49) rfl rfl rfl rfl rfl rfl own_pd12 rfl 0 (by decide) rfl (by decide) (Nat.le_of_eq rfl) (by decide) (by decide) (by decide) rfl at_164 ?_
          rintro _ _ ⟨rfl, rfl⟩
          show own_G _ _ _ _ _ _ _ _ 167 #[.val (.int p1), .val (.int p2), .val (.int p3), .val (.long p4), .second, .val (.long p5), .second, .val (.int p6), .val (.int ((p1 &&& (255 : Int32)).toUInt32.toUInt16.toUInt32.toInt32)), .val (.int ((p2 &&& (255 : Int32)).toUInt32.toUInt16.toUInt32.toInt32)), .val (.int (1 : Int32)), .val (.int (2 : Int32)), .val (.ref a455), .val (.int (p3.toInt8.toInt32)), .val (.int ((p3 >>> ((8 : Int32) &&& 31)).toInt8.toInt32)), .val (.ref a463), .val (.ref a491), .unset, .unset, .unset] [(.ref a455)]
          refine own_astore H rfl #[.val (.int p1), .val (.int p2), .val (.int p3), .val (.long p4), .second, .val (.long p5), .second, .val (.int p6), .val (.int ((p1 &&& (255 : Int32)).toUInt32.toUInt16.toUInt32.toInt32)), .val (.int ((p2 &&& (255 : Int32)).toUInt32.toUInt16.toUInt32.toInt32)), .val (.int (1 : Int32)), .val (.int (2 : Int32)), .val (.ref a455), .val (.int (p3.toInt8.toInt32)), .val (.int ((p3 >>> ((8 : Int32) &&& 31)).toInt8.toInt32)), .val (.ref a463), .val (.ref a491), .val (.ref a455), .unset, .unset] rfl at_167 ?_
          refine own_aload H rfl rfl at_169 ?_
          refine own_ifnull_f H at_171 rfl (fun h => nomatch h) ?_
          refine own_aload H rfl rfl at_174 ?_
          refine own_aload H rfl rfl at_176 ?_
          refine own_invokevirtual H (a := a455) (argsL := [(.ref a455)]) (rest := []) (rmEqu l Z a0 (own_hw H) h489 n0 a455 a455 rfl) f506 (w1 := 50) (w0 := 51) (w5 := 53) (w2 := 52) (w3 := 3) (w4 := 54) rfl rfl rfl rfl rfl rfl own_pd16 rfl 0 (by decide) rfl (by decide) (Nat.le_of_eq rfl) (by decide) (by decide) (by decide) rfl at_178 ?_
          rintro _ _ ⟨rfl, rfl⟩
          show own_G _ _ _ _ _ _ _ _ 181 #[.val (.int p1), .val (.int p2), .val (.int p3), .val (.long p4), .second, .val (.long p5), .second, .val (.int p6), .val (.int ((p1 &&& (255 : Int32)).toUInt32.toUInt16.toUInt32.toInt32)), .val (.int ((p2 &&& (255 : Int32)).toUInt32.toUInt16.toUInt32.toInt32)), .val (.int (1 : Int32)), .val (.int (2 : Int32)), .val (.ref a455), .val (.int (p3.toInt8.toInt32)), .val (.int ((p3 >>> ((8 : Int32) &&& 31)).toInt8.toInt32)), .val (.ref a463), .val (.ref a491), .val (.ref a455), .unset, .unset] [(.int (1 : Int32))]
          refine own_ifne_t H (pc' := 186) at_181 (by decide) (by decide) (by decide) ?_
          refine own_aload H rfl rfl at_186 ?_
          refine own_invokevirtual H (a := a491) (argsL := []) (rest := []) (rmGpayloadJson l Z a0 (own_hw H) h489 n0 a491 a463 f497) f495 (w1 := 55) (w0 := 56) (w5 := 58) (w2 := 57) (w3 := 25) (w4 := 59) rfl rfl rfl rfl rfl rfl own_pd13 rfl 0 (by decide) rfl (by decide) (Nat.le_of_eq rfl) (by decide) (by decide) (by decide) rfl at_188 ?_
          rintro _ _ ⟨rfl, rfl⟩
          show own_G _ _ _ _ _ _ _ _ 191 #[.val (.int p1), .val (.int p2), .val (.int p3), .val (.long p4), .second, .val (.long p5), .second, .val (.int p6), .val (.int ((p1 &&& (255 : Int32)).toUInt32.toUInt16.toUInt32.toInt32)), .val (.int ((p2 &&& (255 : Int32)).toUInt32.toUInt16.toUInt32.toInt32)), .val (.int (1 : Int32)), .val (.int (2 : Int32)), .val (.ref a455), .val (.int (p3.toInt8.toInt32)), .val (.int ((p3 >>> ((8 : Int32) &&& 31)).toInt8.toInt32)), .val (.ref a463), .val (.ref a491), .val (.ref a455), .unset, .unset] [(.ref a463)]
          refine own_astore H rfl #[.val (.int p1), .val (.int p2), .val (.int p3), .val (.long p4), .second, .val (.long p5), .second, .val (.int p6), .val (.int ((p1 &&& (255 : Int32)).toUInt32.toUInt16.toUInt32.toInt32)), .val (.int ((p2 &&& (255 : Int32)).toUInt32.toUInt16.toUInt32.toInt32)), .val (.int (1 : Int32)), .val (.int (2 : Int32)), .val (.ref a455), .val (.int (p3.toInt8.toInt32)), .val (.int ((p3 >>> ((8 : Int32) &&& 31)).toInt8.toInt32)), .val (.ref a463), .val (.ref a491), .val (.ref a455), .val (.ref a463), .unset] rfl at_191 ?_
          refine own_aload H rfl rfl at_193 ?_
          refine own_ifnull_f H at_195 rfl (fun h => nomatch h) ?_
          refine own_aload H rfl rfl at_198 ?_
          refine own_arraylengthV H f507 at_200 ?_
          refine own_iload H rfl at_201 ?_
          refine own_icmpeq_t H (pc' := 208) at_203 (by decide) (by decide) (by decide) ?_
          refine own_iload H rfl at_208 ?_
          refine own_iconst H (1 : Int32) (by decide) at_210 ?_
          refine own_icmplt_f H at_211 (by decide) ?_
          refine own_aload H rfl rfl at_214 ?_
          refine own_iconst H (0 : Int32) (by decide) at_216 ?_
          refine own_baloadV H f507 (by decide) (by decide) rfl at_217 ?_
          refine own_iload H rfl at_218 ?_
          refine own_icmpeq_t H (pc' := 225) at_220 (by decide) (by decide) (own_nbi _) ?_
          refine own_iload H rfl at_225 ?_
          refine own_iconst H (2 : Int32) (by decide) at_227 ?_
          refine own_icmpne_f H at_228 (by decide) ?_
          refine own_aload H rfl rfl at_231 ?_
          refine own_iconst H (1 : Int32) (by decide) at_233 ?_
          refine own_baloadV H f507 (by decide) (by decide) rfl at_234 ?_
          refine own_iload H rfl at_235 ?_
          refine own_icmpeq_t H (pc' := 242) at_237 (by decide) (by decide) (own_nbi _) ?_
          refine own_aload H rfl rfl at_242 ?_
          refine own_invokevirtual H (a := a491) (argsL := []) (rest := []) (rmGsequence l Z a0 (own_hw H) h489 n0 a491 p4 f498) f495 (w1 := 60) (w0 := 61) (w5 := 63) (w2 := 62) (w3 := 25) (w4 := 64) rfl rfl rfl rfl rfl rfl own_pd14 rfl 0 (by decide) rfl (by decide) (Nat.le_of_eq rfl) (by decide) (by decide) (by decide) rfl at_244 ?_
          rintro _ _ ⟨rfl, rfl⟩
          show own_G _ _ _ _ _ _ _ _ 247 #[.val (.int p1), .val (.int p2), .val (.int p3), .val (.long p4), .second, .val (.long p5), .second, .val (.int p6), .val (.int ((p1 &&& (255 : Int32)).toUInt32.toUInt16.toUInt32.toInt32)), .val (.int ((p2 &&& (255 : Int32)).toUInt32.toUInt16.toUInt32.toInt32)), .val (.int (1 : Int32)), .val (.int (2 : Int32)), .val (.ref a455), .val (.int (p3.toInt8.toInt32)), .val (.int ((p3 >>> ((8 : Int32) &&& 31)).toInt8.toInt32)), .val (.ref a463), .val (.ref a491), .val (.ref a455), .val (.ref a463), .unset] [(.long p4)]
          refine own_lload_n H rfl at_247 ?_
          refine own_lcmpeq_t H (pc' := 254) at_248 at_249 (by decide) (by decide) rfl ?_
          refine own_aload H rfl rfl at_254 ?_
          refine own_invokevirtual H (a := a491) (argsL := []) (rest := []) (rmGattempts l Z a0 (own_hw H) h489 n0 a491 (0 : Int32) f499) f495 (w1 := 65) (w0 := 66) (w5 := 68) (w2 := 67) (w3 := 25) (w4 := 69) rfl rfl rfl rfl rfl rfl own_pd15 rfl 0 (by decide) rfl (by decide) (Nat.le_of_eq rfl) (by decide) (by decide) (by decide) rfl at_256 ?_
          rintro _ _ ⟨rfl, rfl⟩
          show own_G _ _ _ _ _ _ _ _ 259 #[.val (.int p1), .val (.int p2), .val (.int p3), .val (.long p4), .second, .val (.long p5), .second, .val (.int p6), .val (.int ((p1 &&& (255 : Int32)).toUInt32.toUInt16.toUInt32.toInt32)), .val (.int ((p2 &&& (255 : Int32)).toUInt32.toUInt16.toUInt32.toInt32)), .val (.int (1 : Int32)), .val (.int (2 : Int32)), .val (.ref a455), .val (.int (p3.toInt8.toInt32)), .val (.int ((p3 >>> ((8 : Int32) &&& 31)).toInt8.toInt32)), .val (.ref a463), .val (.ref a491), .val (.ref a455), .val (.ref a463), .unset] [(.int (0 : Int32))]
          refine own_ifeq_t H (pc' := 264) at_259 (by decide) (by decide) (by decide) ?_
          refine own_aload H rfl rfl at_264 ?_
          refine own_invokevirtual H (a := a491) (argsL := []) (rest := []) (rmGlastError l Z a0 (own_hw H) h489 n0 a491 f501) f495 (w1 := 70) (w0 := 71) (w5 := 73) (w2 := 72) (w3 := 25) (w4 := 74) rfl rfl rfl rfl rfl rfl own_pd12 rfl 0 (by decide) rfl (by decide) (Nat.le_of_eq rfl) (by decide) (by decide) (by decide) rfl at_266 ?_
          rintro _ _ ⟨rfl, rfl⟩
          show own_G _ _ _ _ _ _ _ _ 269 #[.val (.int p1), .val (.int p2), .val (.int p3), .val (.long p4), .second, .val (.long p5), .second, .val (.int p6), .val (.int ((p1 &&& (255 : Int32)).toUInt32.toUInt16.toUInt32.toInt32)), .val (.int ((p2 &&& (255 : Int32)).toUInt32.toUInt16.toUInt32.toInt32)), .val (.int (1 : Int32)), .val (.int (2 : Int32)), .val (.ref a455), .val (.int (p3.toInt8.toInt32)), .val (.int ((p3 >>> ((8 : Int32) &&& 31)).toInt8.toInt32)), .val (.ref a463), .val (.ref a491), .val (.ref a455), .val (.ref a463), .unset] [.null]
          refine own_ifnull_t H (pc' := 274) at_269 (by decide) (by decide) rfl rfl ?_
          refine own_aload H rfl rfl at_274 ?_
          refine own_lload H rfl at_276 ?_
          refine own_invokevirtual H (a := a491) (argsL := [(.long p5)]) (rest := []) (rmAtt l Z a0 (own_hw H) h489 n0 a491 p5 a455 a463 p4 f504 f496 f497 f498 f499 f501) f495 (w1 := 75) (w0 := 76) (w5 := 78) (w2 := 77) (w3 := 25) (w4 := 79) rfl rfl rfl rfl rfl rfl own_pd11 rfl 0 (by decide) rfl (by decide) (Nat.le_of_eq rfl) (by decide) (by decide) (by decide) rfl at_278 ?_
          rintro _ h508 ⟨a510, rfl, K509, f511, f512, f513, f514, f515, f516⟩
          have f517 : a455 ≠ a510 := Nat.ne_of_lt (Nat.lt_of_lt_of_le f506.lt f512)
          have f518 : a463 ≠ a510 := Nat.ne_of_lt (Nat.lt_of_lt_of_le f507.lt f512)
          have f519 : a491 ≠ a510 := Nat.ne_of_lt (Nat.lt_of_lt_of_le f495.lt f512)
          have f520 : n0 ≤ h508.size := Nat.le_trans f504 K509.1
          have f521 : Old Z n0 h508 := f505.keep K509 all0
          have f522 : Exa Z h508 a455 "java/lang/String" := f506.keep K509
          have f523 : Arv Z h508 a463 kA464 .byte (2 : Int32) [(.int (nar .byte (p3.toInt8.toInt32))), (.int (nar .byte ((p3 >>> ((8 : Int32) &&& 31)).toInt8.toInt32)))] (.int 0) := f507.keep K509 nin0
          have f524 : Exa Z h508 a491 "com/example/ring_to_run/ringtorun/service/Callback" := f495.keep K509
          have f525 : Fld Z h508 a491 "com/example/ring_to_run/ringtorun/service/Callback" "url" "Ljava/lang/String;" (.ref a455) := f496.keep K509 nin0
          have f526 : Fld Z h508 a491 "com/example/ring_to_run/ringtorun/service/Callback" "payloadJson" "[B" (.ref a463) := f497.keep K509 nin0
          have f527 : Fld Z h508 a491 "com/example/ring_to_run/ringtorun/service/Callback" "sequence" "J" (.long p4) := f498.keep K509 nin0
          have f528 : Fld Z h508 a491 "com/example/ring_to_run/ringtorun/service/Callback" "attempts" "I" (.int (0 : Int32)) := f499.keep K509 nin0
          have f529 : Fld Z h508 a491 "com/example/ring_to_run/ringtorun/service/Callback" "dueAt" "J" (.long (0 : Int64)) := f500.keep K509 nin0
          have f530 : Fld Z h508 a491 "com/example/ring_to_run/ringtorun/service/Callback" "lastError" "Ljava/lang/String;" .null := f501.keep K509 nin0
          show own_G _ _ _ _ _ _ _ _ 281 #[.val (.int p1), .val (.int p2), .val (.int p3), .val (.long p4), .second, .val (.long p5), .second, .val (.int p6), .val (.int ((p1 &&& (255 : Int32)).toUInt32.toUInt16.toUInt32.toInt32)), .val (.int ((p2 &&& (255 : Int32)).toUInt32.toUInt16.toUInt32.toInt32)), .val (.int (1 : Int32)), .val (.int (2 : Int32)), .val (.ref a455), .val (.int (p3.toInt8.toInt32)), .val (.int ((p3 >>> ((8 : Int32) &&& 31)).toInt8.toInt32)), .val (.ref a463), .val (.ref a491), .val (.ref a455), .val (.ref a463), .unset] [(.ref a510)]
          refine own_astore H rfl #[.val (.int p1), .val (.int p2), .val (.int p3), .val (.long p4), .second, .val (.long p5), .second, .val (.int p6), .val (.int ((p1 &&& (255 : Int32)).toUInt32.toUInt16.toUInt32.toInt32)), .val (.int ((p2 &&& (255 : Int32)).toUInt32.toUInt16.toUInt32.toInt32)), .val (.int (1 : Int32)), .val (.int (2 : Int32)), .val (.ref a455), .val (.int (p3.toInt8.toInt32)), .val (.int ((p3 >>> ((8 : Int32) &&& 31)).toInt8.toInt32)), .val (.ref a463), .val (.ref a491), .val (.ref a455), .val (.ref a463), .val (.ref a510)] rfl at_281 ?_
          refine own_aload H rfl rfl at_283 ?_
          refine own_invokevirtual H (a := a510) (argsL := []) (rest := []) (rmGattempts l Z a0 (own_hw H) h508 n0 a510 (1 : Int32) f515) f514 (w1 := 65) (w0 := 66) (w5 := 68) (w2 := 67) (w3 := 25) (w4 := 69) rfl rfl rfl rfl rfl rfl own_pd15 rfl 0 (by decide) rfl (by decide) (Nat.le_of_eq rfl) (by decide) (by decide) (by decide) rfl at_285 ?_
          rintro _ _ ⟨rfl, rfl⟩
          show own_G _ _ _ _ _ _ _ _ 288 #[.val (.int p1), .val (.int p2), .val (.int p3), .val (.long p4), .second, .val (.long p5), .second, .val (.int p6), .val (.int ((p1 &&& (255 : Int32)).toUInt32.toUInt16.toUInt32.toInt32)), .val (.int ((p2 &&& (255 : Int32)).toUInt32.toUInt16.toUInt32.toInt32)), .val (.int (1 : Int32)), .val (.int (2 : Int32)), .val (.ref a455), .val (.int (p3.toInt8.toInt32)), .val (.int ((p3 >>> ((8 : Int32) &&& 31)).toInt8.toInt32)), .val (.ref a463), .val (.ref a491), .val (.ref a455), .val (.ref a463), .val (.ref a510)] [(.int (1 : Int32))]
          refine own_iconst H (1 : Int32) (by decide) at_288 ?_
          refine own_icmpne_f H at_289 (by decide) ?_
          refine own_aload H rfl rfl at_292 ?_
          refine own_invokevirtual H (a := a510) (argsL := []) (rest := []) (rmGdueAt l Z a0 (own_hw H) h508 n0 a510 p5 f516) f514 (w1 := 80) (w0 := 81) (w5 := 83) (w2 := 82) (w3 := 25) (w4 := 84) rfl rfl rfl rfl rfl rfl own_pd14 rfl 0 (by decide) rfl (by decide) (Nat.le_of_eq rfl) (by decide) (by decide) (by decide) rfl at_294 ?_
          rintro _ _ ⟨rfl, rfl⟩
          show own_G _ _ _ _ _ _ _ _ 297 #[.val (.int p1), .val (.int p2), .val (.int p3), .val (.long p4), .second, .val (.long p5), .second, .val (.int p6), .val (.int ((p1 &&& (255 : Int32)).toUInt32.toUInt16.toUInt32.toInt32)), .val (.int ((p2 &&& (255 : Int32)).toUInt32.toUInt16.toUInt32.toInt32)), .val (.int (1 : Int32)), .val (.int (2 : Int32)), .val (.ref a455), .val (.int (p3.toInt8.toInt32)), .val (.int ((p3 >>> ((8 : Int32) &&& 31)).toInt8.toInt32)), .val (.ref a463), .val (.ref a491), .val (.ref a455), .val (.ref a463), .val (.ref a510)] [(.long p5)]
          refine own_lload H rfl at_297 ?_
          refine own_lcmpne_f H at_299 at_300 rfl ?_
          refine own_iconst H (1 : Int32) (by decide) at_303 ?_
          refine own_goto H (pc' := 308) at_304 (by decide) (by decide) ?_
          exact own_ireturn H (by simp) (by decide) at_308 (by decide) (by decide) rfl
    ·
      have c531 : ((p6 &&& (2147483647 : Int32)) % (3 : Int32)) = (2 : Int32) := own_k3 _ c1 c314
      rw [c531]
      show own_G _ _ _ _ _ _ _ _ 25 #[.val (.int p1), .val (.int p2), .val (.int p3), .val (.long p4), .second, .val (.long p5), .second, .val (.int p6), .val (.int ((p1 &&& (255 : Int32)).toUInt32.toUInt16.toUInt32.toInt32)), .val (.int ((p2 &&& (255 : Int32)).toUInt32.toUInt16.toUInt32.toInt32)), .val (.int (2 : Int32)), .unset, .unset, .unset, .unset, .unset, .unset, .unset, .unset, .unset] []
      refine own_iload H rfl at_25 ?_
      refine own_iconst H (2 : Int32) (by decide) at_27 ?_
      refine own_iushr H rfl at_28 ?_
      refine own_ldcI H (w := 0) rfl at_29 ?_
      refine own_iand H rfl at_31 ?_
      refine own_iconst H (3 : Int32) (by decide) at_32 ?_
      refine own_irem H rfl at_33 (by decide) ?_
      refine own_istore H #[.val (.int p1), .val (.int p2), .val (.int p3), .val (.long p4), .second, .val (.long p5), .second, .val (.int p6), .val (.int ((p1 &&& (255 : Int32)).toUInt32.toUInt16.toUInt32.toInt32)), .val (.int ((p2 &&& (255 : Int32)).toUInt32.toUInt16.toUInt32.toInt32)), .val (.int (2 : Int32)), .val (.int (((XT.ushr p6 (2 : Int32)) &&& (2147483647 : Int32)) % (3 : Int32))), .unset, .unset, .unset, .unset, .unset, .unset, .unset, .unset] rfl at_34 ?_
      by_cases c532 : (((XT.ushr p6 (2 : Int32)) &&& (2147483647 : Int32)) % (3 : Int32)) = (0 : Int32)
      ·
        rw [c532]
        show own_G _ _ _ _ _ _ _ _ 36 #[.val (.int p1), .val (.int p2), .val (.int p3), .val (.long p4), .second, .val (.long p5), .second, .val (.int p6), .val (.int ((p1 &&& (255 : Int32)).toUInt32.toUInt16.toUInt32.toInt32)), .val (.int ((p2 &&& (255 : Int32)).toUInt32.toUInt16.toUInt32.toInt32)), .val (.int (2 : Int32)), .val (.int (0 : Int32)), .unset, .unset, .unset, .unset, .unset, .unset, .unset, .unset] []
        refine own_iload H rfl at_36 ?_
        refine own_ifne_t H (pc' := 56) at_38 (by decide) (by decide) (by decide) ?_
        refine own_iload H rfl at_56 ?_
        refine own_iconst H (1 : Int32) (by decide) at_58 ?_
        refine own_icmpne_t H (pc' := 72) at_59 (by decide) (by decide) (by decide) ?_
        refine own_new H (w := 1) (wi := 2) (wz := 3) rfl rfl rfl at_72 (by decide) (by decide) ?_
        intro h533 a534 ha535 E536 X537 D538
        have f539 : n0 ≤ a534 := by rw [ha535]; exact hZ0
        have f540 : n0 ≤ h533.size := Nat.le_trans hZ0 E536.1
        have f541 : Old Z n0 h533 := hO.ext E536
        have f542 : Sta Z h533 "java/lang/String" "COMPACT_STRINGS" "Z" (.int cs) := hS.ext E536
        have f543 : Fld Z h533 a534 "java/lang/String" "value" "[B" .null := D538 (Or.inr (own_w H (i := 17) rfl)) (ty := (.array .byte)) (by decide)
        have f544 : Fld Z h533 a534 "java/lang/String" "coder" "B" (.int (0 : Int32)) := D538 (Or.inr (own_w H (i := 18) rfl)) (ty := .byte) (by decide)
        show own_G _ _ _ _ _ _ _ _ 75 #[.val (.int p1), .val (.int p2), .val (.int p3), .val (.long p4), .second, .val (.long p5), .second, .val (.int p6), .val (.int ((p1 &&& (255 : Int32)).toUInt32.toUInt16.toUInt32.toInt32)), .val (.int ((p2 &&& (255 : Int32)).toUInt32.toUInt16.toUInt32.toInt32)), .val (.int (2 : Int32)), .val (.int (0 : Int32)), .unset, .unset, .unset, .unset, .unset, .unset, .unset, .unset] [(.ref a534)]
        refine own_dup H rfl at_75 ?_
        refine own_iconst H (2 : Int32) (by decide) at_76 ?_
        refine own_newarray H (w := 4) (n := (2 : Int32)) rfl (by decide) 2 (by decide) (by decide) at_77 (by decide) (by decide) ?_
        intro h545 a546 kA547 ha548 E549 V550
        have f552 : a534 ≠ a546 := Nat.ne_of_lt (by rw [ha548]; exact X537.lt)
        have f553 : n0 ≤ a546 := by rw [ha548]; exact f540
        have f554 : n0 ≤ h545.size := Nat.le_trans f540 E549.1
        have f555 : Old Z n0 h545 := f541.ext E549
        have f556 : Sta Z h545 "java/lang/String" "COMPACT_STRINGS" "Z" (.int cs) := f542.ext E549
        have f557 : Exa Z h545 a534 "java/lang/String" := X537.ext E549
        have f558 : Fld Z h545 a534 "java/lang/String" "value" "[B" .null := f543.ext E549
        have f559 : Fld Z h545 a534 "java/lang/String" "coder" "B" (.int (0 : Int32)) := f544.ext E549
        have f560 : Arv Z h545 a546 kA547 .char (2 : Int32) [(.int 0), (.int 0)] (.int 0) := V550.pad (pad_rep [] (.int 0) 2)
        show own_G _ _ _ _ _ _ _ _ 79 #[.val (.int p1), .val (.int p2), .val (.int p3), .val (.long p4), .second, .val (.long p5), .second, .val (.int p6), .val (.int ((p1 &&& (255 : Int32)).toUInt32.toUInt16.toUInt32.toInt32)), .val (.int ((p2 &&& (255 : Int32)).toUInt32.toUInt16.toUInt32.toInt32)), .val (.int (2 : Int32)), .val (.int (0 : Int32)), .unset, .unset, .unset, .unset, .unset, .unset, .unset, .unset] [(.ref a546), (.ref a534), (.ref a534)]
        refine own_dup H rfl at_79 ?_
        refine own_iconst H (0 : Int32) (by decide) at_80 ?_
        refine own_iload H rfl at_81 ?_
        refine own_castoreV H f560 (by decide) (by decide) 0 (by decide) (Nat.le_of_ble_eq_true rfl) f553 rfl at_83 ?_
        intro h561 W562 V563
        have f564 : n0 ≤ h561.size := by rw [W562.size]; exact f554
        have f565 : Old Z n0 h561 := f555.wr W562 f553
        have f566 : Sta Z h561 "java/lang/String" "COMPACT_STRINGS" "Z" (.int cs) := f556.wr W562
        have f567 : Exa Z h561 a534 "java/lang/String" := f557.wr W562
        have f568 : Fld Z h561 a534 "java/lang/String" "value" "[B" .null := f558.other W562 (Or.inl f552)
        have f569 : Fld Z h561 a534 "java/lang/String" "coder" "B" (.int (0 : Int32)) := f559.other W562 (Or.inl f552)
        have f570 : Arv Z h561 a546 kA547 .char (2 : Int32) [(.int (nar .char ((p1 &&& (255 : Int32)).toUInt32.toUInt16.toUInt32.toInt32))), (.int 0)] (.int 0) := V563
        refine own_dup H rfl at_84 ?_
        refine own_iconst H (1 : Int32) (by decide) at_85 ?_
        refine own_iload H rfl at_86 ?_
        refine own_castoreV H f570 (by decide) (by decide) 1 (by decide) (Nat.le_of_ble_eq_true rfl) f553 rfl at_88 ?_
        intro h571 W572 V573
        have f574 : n0 ≤ h571.size := by rw [W572.size]; exact f564
        have f575 : Old Z n0 h571 := f565.wr W572 f553
        have f576 : Sta Z h571 "java/lang/String" "COMPACT_STRINGS" "Z" (.int cs) := f566.wr W572
        have f577 : Exa Z h571 a534 "java/lang/String" := f567.wr W572
        have f578 : Fld Z h571 a534 "java/lang/String" "value" "[B" .null := f568.other W572 (Or.inl f552)
        have f579 : Fld Z h571 a534 "java/lang/String" "coder" "B" (.int (0 : Int32)) := f569.other W572 (Or.inl f552)
        have f580 : Arv Z h571 a546 kA547 .char (2 : Int32) [(.int (nar .char ((p1 &&& (255 : Int32)).toUInt32.toUInt16.toUInt32.toInt32))), (.int (nar .char ((p2 &&& (255 : Int32)).toUInt32.toUInt16.toUInt32.toInt32)))] (.int 0) := V573
        refine own_invokespecial H (a := a534) (argsL := [(.ref a546)]) (rest := [(.ref a534)]) (rmIn1 l Z a0 (own_hw H) h571 n0 a534 a546 (nar .char ((p1 &&& (255 : Int32)).toUInt32.toUInt16.toUInt32.toInt32)) (nar .char ((p2 &&& (255 : Int32)).toUInt32.toUInt16.toUInt32.toInt32)) kA547 cs f574 f577 f578 f579 f580 f552.symm f576 (own_ch _) (own_ch _) hcs f539) rfl (w1 := 5) (w2 := 6) (w3 := 3) (w4 := 7) rfl rfl rfl rfl own_pd8 rfl 1 (by decide) rfl (by decide) (Nat.le_of_eq rfl) (by decide) (by decide) (by decide) rfl at_89 ?_
        rintro _ h581 ⟨rfl, K582⟩
        have f583 : n0 ≤ h581.size := Nat.le_trans f574 K582.1
        have f584 : Old Z n0 h581 := f575.keep K582 (allS f539 all0)
        have f585 : Exa Z h581 a534 "java/lang/String" := f577.keep K582
        have f586 : Arv Z h581 a546 kA547 .char (2 : Int32) [(.int (nar .char ((p1 &&& (255 : Int32)).toUInt32.toUInt16.toUInt32.toInt32))), (.int (nar .char ((p2 &&& (255 : Int32)).toUInt32.toUInt16.toUInt32.toInt32)))] (.int 0) := f580.keep K582 (ninS f552.symm nin0)
        show own_G _ _ _ _ _ _ _ _ 92 #[.val (.int p1), .val (.int p2), .val (.int p3), .val (.long p4), .second, .val (.long p5), .second, .val (.int p6), .val (.int ((p1 &&& (255 : Int32)).toUInt32.toUInt16.toUInt32.toInt32)), .val (.int ((p2 &&& (255 : Int32)).toUInt32.toUInt16.toUInt32.toInt32)), .val (.int (2 : Int32)), .val (.int (0 : Int32)), .unset, .unset, .unset, .unset, .unset, .unset, .unset, .unset] [(.ref a534)]
        refine own_astore H rfl #[.val (.int p1), .val (.int p2), .val (.int p3), .val (.long p4), .second, .val (.long p5), .second, .val (.int p6), .val (.int ((p1 &&& (255 : Int32)).toUInt32.toUInt16.toUInt32.toInt32)), .val (.int ((p2 &&& (255 : Int32)).toUInt32.toUInt16.toUInt32.toInt32)), .val (.int (2 : Int32)), .val (.int (0 : Int32)), .val (.ref a534), .unset, .unset, .unset, .unset, .unset, .unset, .unset] rfl at_92 ?_
        refine own_iload_n H rfl at_94 ?_
        refine own_i2b H rfl at_95 ?_
        refine own_istore H #[.val (.int p1), .val (.int p2), .val (.int p3), .val (.long p4), .second, .val (.long p5), .second, .val (.int p6), .val (.int ((p1 &&& (255 : Int32)).toUInt32.toUInt16.toUInt32.toInt32)), .val (.int ((p2 &&& (255 : Int32)).toUInt32.toUInt16.toUInt32.toInt32)), .val (.int (2 : Int32)), .val (.int (0 : Int32)), .val (.ref a534), .val (.int (p3.toInt8.toInt32)), .unset, .unset, .unset, .unset, .unset, .unset] rfl at_96 ?_
        refine own_iload_n H rfl at_98 ?_
        refine own_bipush H (8 : Int32) (by decide) at_99 ?_
        refine own_ishr H rfl at_101 ?_
        refine own_i2b H rfl at_102 ?_
        refine own_istore H #[.val (.int p1), .val (.int p2), .val (.int p3), .val (.long p4), .second, .val (.long p5), .second, .val (.int p6), .val (.int ((p1 &&& (255 : Int32)).toUInt32.toUInt16.toUInt32.toInt32)), .val (.int ((p2 &&& (255 : Int32)).toUInt32.toUInt16.toUInt32.toInt32)), .val (.int (2 : Int32)), .val (.int (0 : Int32)), .val (.ref a534), .val (.int (p3.toInt8.toInt32)), .val (.int ((p3 >>> ((8 : Int32) &&& 31)).toInt8.toInt32)), .unset, .unset, .unset, .unset, .unset] rfl at_103 ?_
        refine own_iload H rfl at_105 ?_
        refine own_ifne_f H at_107 (by decide) ?_
        refine own_iconst H (0 : Int32) (by decide) at_110 ?_
        refine own_newarray H (w := 16) (n := (0 : Int32)) rfl (by decide) 0 (by decide) (by decide) at_111 (by decide) (by decide) ?_
        intro h587 a588 kA589 ha590 E591 V592
        have f594 : a534 ≠ a588 := Nat.ne_of_lt (by rw [ha590]; exact f585.lt)
        have f595 : a546 ≠ a588 := Nat.ne_of_lt (by rw [ha590]; exact f586.lt)
        have f596 : n0 ≤ a588 := by rw [ha590]; exact f583
        have f597 : n0 ≤ h587.size := Nat.le_trans f583 E591.1
        have f598 : Old Z n0 h587 := f584.ext E591
        have f599 : Exa Z h587 a534 "java/lang/String" := f585.ext E591
        have f600 : Arv Z h587 a546 kA547 .char (2 : Int32) [(.int (nar .char ((p1 &&& (255 : Int32)).toUInt32.toUInt16.toUInt32.toInt32))), (.int (nar .char ((p2 &&& (255 : Int32)).toUInt32.toUInt16.toUInt32.toInt32)))] (.int 0) := f586.ext E591
        have f601 : Arv Z h587 a588 kA589 .byte (0 : Int32) [] (.int 0) := V592.pad (pad_rep [] (.int 0) 0)
        show own_G _ _ _ _ _ _ _ _ 113 #[.val (.int p1), .val (.int p2), .val (.int p3), .val (.long p4), .second, .val (.long p5), .second, .val (.int p6), .val (.int ((p1 &&& (255 : Int32)).toUInt32.toUInt16.toUInt32.toInt32)), .val (.int ((p2 &&& (255 : Int32)).toUInt32.toUInt16.toUInt32.toInt32)), .val (.int (2 : Int32)), .val (.int (0 : Int32)), .val (.ref a534), .val (.int (p3.toInt8.toInt32)), .val (.int ((p3 >>> ((8 : Int32) &&& 31)).toInt8.toInt32)), .unset, .unset, .unset, .unset, .unset] [(.ref a588)]
        refine own_astore H rfl #[.val (.int p1), .val (.int p2), .val (.int p3), .val (.long p4), .second, .val (.long p5), .second, .val (.int p6), .val (.int ((p1 &&& (255 : Int32)).toUInt32.toUInt16.toUInt32.toInt32)), .val (.int ((p2 &&& (255 : Int32)).toUInt32.toUInt16.toUInt32.toInt32)), .val (.int (2 : Int32)), .val (.int (0 : Int32)), .val (.ref a534), .val (.int (p3.toInt8.toInt32)), .val (.int ((p3 >>> ((8 : Int32) &&& 31)).toInt8.toInt32)), .val (.ref a588), .unset, .unset, .unset, .unset] rfl at_113 ?_
        refine own_goto H (pc' := 152) at_115 (by decide) (by decide) ?_
        refine own_aload H rfl rfl at_152 ?_
        refine own_aload H rfl rfl at_154 ?_
        refine own_lload_n H rfl at_156 ?_
        refine own_invokestatic H (argsL := [(.ref a534), (.ref a588), (.long p4)]) (rest := []) (rmPst l Z a0 (own_hw H) h587 n0 a534 a588 p4 f597) (w1 := 23) (w2 := 24) (w3 := 25) (w4 := 26) rfl rfl rfl rfl own_pd10 rfl 0 (by decide) rfl (by decide) (Nat.le_of_eq rfl) (by decide) (by decide) (by decide) rfl at_157 ?_
        rintro _ h602 ⟨a604, rfl, K603, f605, f606, f607, f608, f609, f610, f611, f612, f613, f614⟩
        have f615 : a534 ≠ a604 := Nat.ne_of_lt (Nat.lt_of_lt_of_le f599.lt f606)
        have f616 : a546 ≠ a604 := Nat.ne_of_lt (Nat.lt_of_lt_of_le f600.lt f606)
        have f617 : a588 ≠ a604 := Nat.ne_of_lt (Nat.lt_of_lt_of_le f601.lt f606)
        have f618 : n0 ≤ h602.size := Nat.le_trans f597 K603.1
        have f619 : Old Z n0 h602 := f598.keep K603 all0
        have f620 : Exa Z h602 a534 "java/lang/String" := f599.keep K603
        have f621 : Arv Z h602 a546 kA547 .char (2 : Int32) [(.int (nar .char ((p1 &&& (255 : Int32)).toUInt32.toUInt16.toUInt32.toInt32))), (.int (nar .char ((p2 &&& (255 : Int32)).toUInt32.toUInt16.toUInt32.toInt32)))] (.int 0) := f600.keep K603 nin0
        have f622 : Arv Z h602 a588 kA589 .byte (0 : Int32) [] (.int 0) := f601.keep K603 nin0
        show own_G _ _ _ _ _ _ _ _ 160 #[.val (.int p1), .val (.int p2), .val (.int p3), .val (.long p4), .second, .val (.long p5), .second, .val (.int p6), .val (.int ((p1 &&& (255 : Int32)).toUInt32.toUInt16.toUInt32.toInt32)), .val (.int ((p2 &&& (255 : Int32)).toUInt32.toUInt16.toUInt32.toInt32)), .val (.int (2 : Int32)), .val (.int (0 : Int32)), .val (.ref a534), .val (.int (p3.toInt8.toInt32)), .val (.int ((p3 >>> ((8 : Int32) &&& 31)).toInt8.toInt32)), .val (.ref a588), .unset, .unset, .unset, .unset] [(.ref a604)]
        refine own_astore H rfl #[.val (.int p1), .val (.int p2), .val (.int p3), .val (.long p4), .second, .val (.long p5), .second, .val (.int p6), .val (.int ((p1 &&& (255 : Int32)).toUInt32.toUInt16.toUInt32.toInt32)), .val (.int ((p2 &&& (255 : Int32)).toUInt32.toUInt16.toUInt32.toInt32)), .val (.int (2 : Int32)), .val (.int (0 : Int32)), .val (.ref a534), .val (.int (p3.toInt8.toInt32)), .val (.int ((p3 >>> ((8 : Int32) &&& 31)).toInt8.toInt32)), .val (.ref a588), .val (.ref a604), .unset, .unset, .unset] rfl at_160 ?_
        refine own_aload H rfl rfl at_162 ?_
        refine own_invokevirtual H (a := a604) (argsL := []) (rest := []) (rmGurl l Z a0 (own_hw H) h602 n0 a604 a534 f609) f608 (w1 := 45) (w0 := 46) (w5 := 48) (w2 := 47) (w3 := 25) (w4 := 49) rfl rfl rfl rfl rfl rfl own_pd12 rfl 0 (by decide) rfl (by decide) (Nat.le_of_eq rfl) (by decide) (by decide) (by decide) rfl at_164 ?_
        rintro _ _ ⟨rfl, rfl⟩
        show own_G _ _ _ _ _ _ _ _ 167 #[.val (.int p1), .val (.int p2), .val (.int p3), .val (.long p4), .second, .val (.long p5), .second, .val (.int p6), .val (.int ((p1 &&& (255 : Int32)).toUInt32.toUInt16.toUInt32.toInt32)), .val (.int ((p2 &&& (255 : Int32)).toUInt32.toUInt16.toUInt32.toInt32)), .val (.int (2 : Int32)), .val (.int (0 : Int32)), .val (.ref a534), .val (.int (p3.toInt8.toInt32)), .val (.int ((p3 >>> ((8 : Int32) &&& 31)).toInt8.toInt32)), .val (.ref a588), .val (.ref a604), .unset, .unset, .unset] [(.ref a534)]
        refine own_astore H rfl #[.val (.int p1), .val (.int p2), .val (.int p3), .val (.long p4), .second, .val (.long p5), .second, .val (.int p6), .val (.int ((p1 &&& (255 : Int32)).toUInt32.toUInt16.toUInt32.toInt32)), .val (.int ((p2 &&& (255 : Int32)).toUInt32.toUInt16.toUInt32.toInt32)), .val (.int (2 : Int32)), .val (.int (0 : Int32)), .val (.ref a534), .val (.int (p3.toInt8.toInt32)), .val (.int ((p3 >>> ((8 : Int32) &&& 31)).toInt8.toInt32)), .val (.ref a588), .val (.ref a604), .val (.ref a534), .unset, .unset] rfl at_167 ?_
        refine own_aload H rfl rfl at_169 ?_
        refine own_ifnull_f H at_171 rfl (fun h => nomatch h) ?_
        refine own_aload H rfl rfl at_174 ?_
        refine own_aload H rfl rfl at_176 ?_
        refine own_invokevirtual H (a := a534) (argsL := [(.ref a534)]) (rest := []) (rmEqu l Z a0 (own_hw H) h602 n0 a534 a534 rfl) f620 (w1 := 50) (w0 := 51) (w5 := 53) (w2 := 52) (w3 := 3) (w4 := 54) rfl rfl rfl rfl rfl rfl own_pd16 rfl 0 (by decide) rfl (by decide) (Nat.le_of_eq rfl) (by decide) (by decide) (by decide) rfl at_178 ?_
        rintro _ _ ⟨rfl, rfl⟩
        show own_G _ _ _ _ _ _ _ _ 181 #[.val (.int p1), .val (.int p2), .val (.int p3), .val (.long p4), .second, .val (.long p5), .second, .val (.int p6), .val (.int ((p1 &&& (255 : Int32)).toUInt32.toUInt16.toUInt32.toInt32)), .val (.int ((p2 &&& (255 : Int32)).toUInt32.toUInt16.toUInt32.toInt32)), .val (.int (2 : Int32)), .val (.int (0 : Int32)), .val (.ref a534), .val (.int (p3.toInt8.toInt32)), .val (.int ((p3 >>> ((8 : Int32) &&& 31)).toInt8.toInt32)), .val (.ref a588), .val (.ref a604), .val (.ref a534), .unset, .unset] [(.int (1 : Int32))]
        refine own_ifne_t H (pc' := 186) at_181 (by decide) (by decide) (by decide) ?_
        refine own_aload H rfl rfl at_186 ?_
        refine own_invokevirtual H (a := a604) (argsL := []) (rest := []) (rmGpayloadJson l Z a0 (own_hw H) h602 n0 a604 a588 f610) f608 (w1 := 55) (w0 := 56) (w5 := 58) (w2 := 57) (w3 := 25) (w4 := 59) rfl rfl rfl rfl rfl rfl own_pd13 rfl 0 (by decide) rfl (by decide) (Nat.le_of_eq rfl) (by decide) (by decide) (by decide) rfl at_188 ?_
        rintro _ _ ⟨rfl, rfl⟩
        show own_G _ _ _ _ _ _ _ _ 191 #[.val (.int p1), .val (.int p2), .val (.int p3), .val (.long p4), .second, .val (.long p5), .second, .val (.int p6), .val (.int ((p1 &&& (255 : Int32)).toUInt32.toUInt16.toUInt32.toInt32)), .val (.int ((p2 &&& (255 : Int32)).toUInt32.toUInt16.toUInt32.toInt32)), .val (.int (2 : Int32)), .val (.int (0 : Int32)), .val (.ref a534), .val (.int (p3.toInt8.toInt32)), .val (.int ((p3 >>> ((8 : Int32) &&& 31)).toInt8.toInt32)), .val (.ref a588), .val (.ref a604), .val (.ref a534), .unset, .unset] [(.ref a588)]
        refine own_astore H rfl #[.val (.int p1), .val (.int p2), .val (.int p3), .val (.long p4), .second, .val (.long p5), .second, .val (.int p6), .val (.int ((p1 &&& (255 : Int32)).toUInt32.toUInt16.toUInt32.toInt32)), .val (.int ((p2 &&& (255 : Int32)).toUInt32.toUInt16.toUInt32.toInt32)), .val (.int (2 : Int32)), .val (.int (0 : Int32)), .val (.ref a534), .val (.int (p3.toInt8.toInt32)), .val (.int ((p3 >>> ((8 : Int32) &&& 31)).toInt8.toInt32)), .val (.ref a588), .val (.ref a604), .val (.ref a534), .val (.ref a588), .unset] rfl at_191 ?_
        refine own_aload H rfl rfl at_193 ?_
        refine own_ifnull_f H at_195 rfl (fun h => nomatch h) ?_
        refine own_aload H rfl rfl at_198 ?_
        refine own_arraylengthV H f622 at_200 ?_
        refine own_iload H rfl at_201 ?_
        refine own_icmpeq_t H (pc' := 208) at_203 (by decide) (by decide) (by decide) ?_
        refine own_iload H rfl at_208 ?_
        refine own_iconst H (1 : Int32) (by decide) at_210 ?_
        refine own_icmplt_t H (pc' := 225) at_211 (by decide) (by decide) (by decide) ?_
        refine own_iload H rfl at_225 ?_
        refine own_iconst H (2 : Int32) (by decide) at_227 ?_
        refine own_icmpne_t H (pc' := 242) at_228 (by decide) (by decide) (by decide) ?_
        refine own_aload H rfl rfl at_242 ?_
        refine own_invokevirtual H (a := a604) (argsL := []) (rest := []) (rmGsequence l Z a0 (own_hw H) h602 n0 a604 p4 f611) f608 (w1 := 60) (w0 := 61) (w5 := 63) (w2 := 62) (w3 := 25) (w4 := 64) rfl rfl rfl rfl rfl rfl own_pd14 rfl 0 (by decide) rfl (by decide) (Nat.le_of_eq rfl) (by decide) (by decide) (by decide) rfl at_244 ?_
        rintro _ _ ⟨rfl, rfl⟩
        show own_G _ _ _ _ _ _ _ _ 247 #[.val (.int p1), .val (.int p2), .val (.int p3), .val (.long p4), .second, .val (.long p5), .second, .val (.int p6), .val (.int ((p1 &&& (255 : Int32)).toUInt32.toUInt16.toUInt32.toInt32)), .val (.int ((p2 &&& (255 : Int32)).toUInt32.toUInt16.toUInt32.toInt32)), .val (.int (2 : Int32)), .val (.int (0 : Int32)), .val (.ref a534), .val (.int (p3.toInt8.toInt32)), .val (.int ((p3 >>> ((8 : Int32) &&& 31)).toInt8.toInt32)), .val (.ref a588), .val (.ref a604), .val (.ref a534), .val (.ref a588), .unset] [(.long p4)]
        refine own_lload_n H rfl at_247 ?_
        refine own_lcmpeq_t H (pc' := 254) at_248 at_249 (by decide) (by decide) rfl ?_
        refine own_aload H rfl rfl at_254 ?_
        refine own_invokevirtual H (a := a604) (argsL := []) (rest := []) (rmGattempts l Z a0 (own_hw H) h602 n0 a604 (0 : Int32) f612) f608 (w1 := 65) (w0 := 66) (w5 := 68) (w2 := 67) (w3 := 25) (w4 := 69) rfl rfl rfl rfl rfl rfl own_pd15 rfl 0 (by decide) rfl (by decide) (Nat.le_of_eq rfl) (by decide) (by decide) (by decide) rfl at_256 ?_
        rintro _ _ ⟨rfl, rfl⟩
        show own_G _ _ _ _ _ _ _ _ 259 #[.val (.int p1), .val (.int p2), .val (.int p3), .val (.long p4), .second, .val (.long p5), .second, .val (.int p6), .val (.int ((p1 &&& (255 : Int32)).toUInt32.toUInt16.toUInt32.toInt32)), .val (.int ((p2 &&& (255 : Int32)).toUInt32.toUInt16.toUInt32.toInt32)), .val (.int (2 : Int32)), .val (.int (0 : Int32)), .val (.ref a534), .val (.int (p3.toInt8.toInt32)), .val (.int ((p3 >>> ((8 : Int32) &&& 31)).toInt8.toInt32)), .val (.ref a588), .val (.ref a604), .val (.ref a534), .val (.ref a588), .unset] [(.int (0 : Int32))]
        refine own_ifeq_t H (pc' := 264) at_259 (by decide) (by decide) (by decide) ?_
        refine own_aload H rfl rfl at_264 ?_
        refine own_invokevirtual H (a := a604) (argsL := []) (rest := []) (rmGlastError l Z a0 (own_hw H) h602 n0 a604 f614) f608 (w1 := 70) (w0 := 71) (w5 := 73) (w2 := 72) (w3 := 25) (w4 := 74) rfl rfl rfl rfl rfl rfl own_pd12 rfl 0 (by decide) rfl (by decide) (Nat.le_of_eq rfl) (by decide) (by decide) (by decide) rfl at_266 ?_
        rintro _ _ ⟨rfl, rfl⟩
        show own_G _ _ _ _ _ _ _ _ 269 #[.val (.int p1), .val (.int p2), .val (.int p3), .val (.long p4), .second, .val (.long p5), .second, .val (.int p6), .val (.int ((p1 &&& (255 : Int32)).toUInt32.toUInt16.toUInt32.toInt32)), .val (.int ((p2 &&& (255 : Int32)).toUInt32.toUInt16.toUInt32.toInt32)), .val (.int (2 : Int32)), .val (.int (0 : Int32)), .val (.ref a534), .val (.int (p3.toInt8.toInt32)), .val (.int ((p3 >>> ((8 : Int32) &&& 31)).toInt8.toInt32)), .val (.ref a588), .val (.ref a604), .val (.ref a534), .val (.ref a588), .unset] [.null]
        refine own_ifnull_t H (pc' := 274) at_269 (by decide) (by decide) rfl rfl ?_
        refine own_aload H rfl rfl at_274 ?_
        refine own_lload H rfl at_276 ?_
        refine own_invokevirtual H (a := a604) (argsL := [(.long p5)]) (rest := []) (rmAtt l Z a0 (own_hw H) h602 n0 a604 p5 a534 a588 p4 f618 f609 f610 f611 f612 f614) f608 (w1 := 75) (w0 := 76) (w5 := 78) (w2 := 77) (w3 := 25) (w4 := 79) rfl rfl rfl rfl rfl rfl own_pd11 rfl 0 (by decide) rfl (by decide) (Nat.le_of_eq rfl) (by decide) (by decide) (by decide) rfl at_278 ?_
        rintro _ h623 ⟨a625, rfl, K624, f626, f627, f628, f629, f630, f631⟩
        have f632 : a534 ≠ a625 := Nat.ne_of_lt (Nat.lt_of_lt_of_le f620.lt f627)
        have f633 : a546 ≠ a625 := Nat.ne_of_lt (Nat.lt_of_lt_of_le f621.lt f627)
        have f634 : a588 ≠ a625 := Nat.ne_of_lt (Nat.lt_of_lt_of_le f622.lt f627)
        have f635 : a604 ≠ a625 := Nat.ne_of_lt (Nat.lt_of_lt_of_le f608.lt f627)
        have f636 : n0 ≤ h623.size := Nat.le_trans f618 K624.1
        have f637 : Old Z n0 h623 := f619.keep K624 all0
        have f638 : Exa Z h623 a534 "java/lang/String" := f620.keep K624
        have f639 : Arv Z h623 a546 kA547 .char (2 : Int32) [(.int (nar .char ((p1 &&& (255 : Int32)).toUInt32.toUInt16.toUInt32.toInt32))), (.int (nar .char ((p2 &&& (255 : Int32)).toUInt32.toUInt16.toUInt32.toInt32)))] (.int 0) := f621.keep K624 nin0
        have f640 : Arv Z h623 a588 kA589 .byte (0 : Int32) [] (.int 0) := f622.keep K624 nin0
        have f641 : Exa Z h623 a604 "com/example/ring_to_run/ringtorun/service/Callback" := f608.keep K624
        have f642 : Fld Z h623 a604 "com/example/ring_to_run/ringtorun/service/Callback" "url" "Ljava/lang/String;" (.ref a534) := f609.keep K624 nin0
        have f643 : Fld Z h623 a604 "com/example/ring_to_run/ringtorun/service/Callback" "payloadJson" "[B" (.ref a588) := f610.keep K624 nin0
        have f644 : Fld Z h623 a604 "com/example/ring_to_run/ringtorun/service/Callback" "sequence" "J" (.long p4) := f611.keep K624 nin0
        have f645 : Fld Z h623 a604 "com/example/ring_to_run/ringtorun/service/Callback" "attempts" "I" (.int (0 : Int32)) := f612.keep K624 nin0
        have f646 : Fld Z h623 a604 "com/example/ring_to_run/ringtorun/service/Callback" "dueAt" "J" (.long (0 : Int64)) := f613.keep K624 nin0
        have f647 : Fld Z h623 a604 "com/example/ring_to_run/ringtorun/service/Callback" "lastError" "Ljava/lang/String;" .null := f614.keep K624 nin0
        show own_G _ _ _ _ _ _ _ _ 281 #[.val (.int p1), .val (.int p2), .val (.int p3), .val (.long p4), .second, .val (.long p5), .second, .val (.int p6), .val (.int ((p1 &&& (255 : Int32)).toUInt32.toUInt16.toUInt32.toInt32)), .val (.int ((p2 &&& (255 : Int32)).toUInt32.toUInt16.toUInt32.toInt32)), .val (.int (2 : Int32)), .val (.int (0 : Int32)), .val (.ref a534), .val (.int (p3.toInt8.toInt32)), .val (.int ((p3 >>> ((8 : Int32) &&& 31)).toInt8.toInt32)), .val (.ref a588), .val (.ref a604), .val (.ref a534), .val (.ref a588), .unset] [(.ref a625)]
        refine own_astore H rfl #[.val (.int p1), .val (.int p2), .val (.int p3), .val (.long p4), .second, .val (.long p5), .second, .val (.int p6), .val (.int ((p1 &&& (255 : Int32)).toUInt32.toUInt16.toUInt32.toInt32)), .val (.int ((p2 &&& (255 : Int32)).toUInt32.toUInt16.toUInt32.toInt32)), .val (.int (2 : Int32)), .val (.int (0 : Int32)), .val (.ref a534), .val (.int (p3.toInt8.toInt32)), .val (.int ((p3 >>> ((8 : Int32) &&& 31)).toInt8.toInt32)), .val (.ref a588), .val (.ref a604), .val (.ref a534), .val (.ref a588), .val (.ref a625)] rfl at_281 ?_
        refine own_aload H rfl rfl at_283 ?_
        refine own_invokevirtual H (a := a625) (argsL := []) (rest := []) (rmGattempts l Z a0 (own_hw H) h623 n0 a625 (1 : Int32) f630) f629 (w1 := 65) (w0 := 66) (w5 := 68) (w2 := 67) (w3 := 25) (w4 := 69) rfl rfl rfl rfl rfl rfl own_pd15 rfl 0 (by decide) rfl (by decide) (Nat.le_of_eq rfl) (by decide) (by decide) (by decide) rfl at_285 ?_
        rintro _ _ ⟨rfl, rfl⟩
        show own_G _ _ _ _ _ _ _ _ 288 #[.val (.int p1), .val (.int p2), .val (.int p3), .val (.long p4), .second, .val (.long p5), .second, .val (.int p6), .val (.int ((p1 &&& (255 : Int32)).toUInt32.toUInt16.toUInt32.toInt32)), .val (.int ((p2 &&& (255 : Int32)).toUInt32.toUInt16.toUInt32.toInt32)), .val (.int (2 : Int32)), .val (.int (0 : Int32)), .val (.ref a534), .val (.int (p3.toInt8.toInt32)), .val (.int ((p3 >>> ((8 : Int32) &&& 31)).toInt8.toInt32)), .val (.ref a588), .val (.ref a604), .val (.ref a534), .val (.ref a588), .val (.ref a625)] [(.int (1 : Int32))]
        refine own_iconst H (1 : Int32) (by decide) at_288 ?_
        refine own_icmpne_f H at_289 (by decide) ?_
        refine own_aload H rfl rfl at_292 ?_
        refine own_invokevirtual H (a := a625) (argsL := []) (rest := []) (rmGdueAt l Z a0 (own_hw H) h623 n0 a625 p5 f631) f629 (w1 := 80) (w0 := 81) (w5 := 83) (w2 := 82) (w3 := 25) (w4 := 84) rfl rfl rfl rfl rfl rfl own_pd14 rfl 0 (by decide) rfl (by decide) (Nat.le_of_eq rfl) (by decide) (by decide) (by decide) rfl at_294 ?_
        rintro _ _ ⟨rfl, rfl⟩
        show own_G _ _ _ _ _ _ _ _ 297 #[.val (.int p1), .val (.int p2), .val (.int p3), .val (.long p4), .second, .val (.long p5), .second, .val (.int p6), .val (.int ((p1 &&& (255 : Int32)).toUInt32.toUInt16.toUInt32.toInt32)), .val (.int ((p2 &&& (255 : Int32)).toUInt32.toUInt16.toUInt32.toInt32)), .val (.int (2 : Int32)), .val (.int (0 : Int32)), .val (.ref a534), .val (.int (p3.toInt8.toInt32)), .val (.int ((p3 >>> ((8 : Int32) &&& 31)).toInt8.toInt32)), .val (.ref a588), .val (.ref a604), .val (.ref a534), .val (.ref a588), .val (.ref a625)] [(.long p5)]
        refine own_lload H rfl at_297 ?_
        refine own_lcmpne_f H at_299 at_300 rfl ?_
        refine own_iconst H (1 : Int32) (by decide) at_303 ?_
        refine own_goto H (pc' := 308) at_304 (by decide) (by decide) ?_
        exact own_ireturn H (by simp) (by decide) at_308 (by decide) (by decide) rfl
      ·
        by_cases c648 : (((XT.ushr p6 (2 : Int32)) &&& (2147483647 : Int32)) % (3 : Int32)) = (1 : Int32)
        ·
          rw [c648]
          show own_G _ _ _ _ _ _ _ _ 36 #[.val (.int p1), .val (.int p2), .val (.int p3), .val (.long p4), .second, .val (.long p5), .second, .val (.int p6), .val (.int ((p1 &&& (255 : Int32)).toUInt32.toUInt16.toUInt32.toInt32)), .val (.int ((p2 &&& (255 : Int32)).toUInt32.toUInt16.toUInt32.toInt32)), .val (.int (2 : Int32)), .val (.int (1 : Int32)), .unset, .unset, .unset, .unset, .unset, .unset, .unset, .unset] []
          refine own_iload H rfl at_36 ?_
          refine own_ifne_t H (pc' := 56) at_38 (by decide) (by decide) (by decide) ?_
          refine own_iload H rfl at_56 ?_
          refine own_iconst H (1 : Int32) (by decide) at_58 ?_
          refine own_icmpne_t H (pc' := 72) at_59 (by decide) (by decide) (by decide) ?_
          refine own_new H (w := 1) (wi := 2) (wz := 3) rfl rfl rfl at_72 (by decide) (by decide) ?_
          intro h649 a650 ha651 E652 X653 D654
          have f655 : n0 ≤ a650 := by rw [ha651]; exact hZ0
          have f656 : n0 ≤ h649.size := Nat.le_trans hZ0 E652.1
          have f657 : Old Z n0 h649 := hO.ext E652
          have f658 : Sta Z h649 "java/lang/String" "COMPACT_STRINGS" "Z" (.int cs) := hS.ext E652
          have f659 : Fld Z h649 a650 "java/lang/String" "value" "[B" .null := D654 (Or.inr (own_w H (i := 17) rfl)) (ty := (.array .byte)) (by decide)
          have f660 : Fld Z h649 a650 "java/lang/String" "coder" "B" (.int (0 : Int32)) := D654 (Or.inr (own_w H (i := 18) rfl)) (ty := .byte) (by decide)
          show own_G _ _ _ _ _ _ _ _ 75 #[.val (.int p1), .val (.int p2), .val (.int p3), .val (.long p4), .second, .val (.long p5), .second, .val (.int p6), .val (.int ((p1 &&& (255 : Int32)).toUInt32.toUInt16.toUInt32.toInt32)), .val (.int ((p2 &&& (255 : Int32)).toUInt32.toUInt16.toUInt32.toInt32)), .val (.int (2 : Int32)), .val (.int (1 : Int32)), .unset, .unset, .unset, .unset, .unset, .unset, .unset, .unset] [(.ref a650)]
          refine own_dup H rfl at_75 ?_
          refine own_iconst H (2 : Int32) (by decide) at_76 ?_
          refine own_newarray H (w := 4) (n := (2 : Int32)) rfl (by decide) 2 (by decide) (by decide) at_77 (by decide) (by decide) ?_
          intro h661 a662 kA663 ha664 E665 V666
          have f668 : a650 ≠ a662 := Nat.ne_of_lt (by rw [ha664]; exact X653.lt)
          have f669 : n0 ≤ a662 := by rw [ha664]; exact f656
          have f670 : n0 ≤ h661.size := Nat.le_trans f656 E665.1
          have f671 : Old Z n0 h661 := f657.ext E665
          have f672 : Sta Z h661 "java/lang/String" "COMPACT_STRINGS" "Z" (.int cs) := f658.ext E665
          have f673 : Exa Z h661 a650 "java/lang/String" := X653.ext E665
          have f674 : Fld Z h661 a650 "java/lang/String" "value" "[B" .null := f659.ext E665
          have f675 : Fld Z h661 a650 "java/lang/String" "coder" "B" (.int (0 : Int32)) := f660.ext E665
          have f676 : Arv Z h661 a662 kA663 .char (2 : Int32) [(.int 0), (.int 0)] (.int 0) := V666.pad (pad_rep [] (.int 0) 2)
          show own_G _ _ _ _ _ _ _ _ 79 #[.val (.int p1), .val (.int p2), .val (.int p3), .val (.long p4), .second, .val (.long p5), .second, .val (.int p6), .val (.int ((p1 &&& (255 : Int32)).toUInt32.toUInt16.toUInt32.toInt32)), .val (.int ((p2 &&& (255 : Int32)).toUInt32.toUInt16.toUInt32.toInt32)), .val (.int (2 : Int32)), .val (.int (1 : Int32)), .unset, .unset, .unset, .unset, .unset, .unset, .unset, .unset] [(.ref a662), (.ref a650), (.ref a650)]
          refine own_dup H rfl at_79 ?_
          refine own_iconst H (0 : Int32) (by decide) at_80 ?_
          refine own_iload H rfl at_81 ?_
          refine own_castoreV H f676 (by decide) (by decide) 0 (by decide) (Nat.le_of_ble_eq_true rfl) f669 rfl at_83 ?_
          intro h677 W678 V679
          have f680 : n0 ≤ h677.size := by rw [W678.size]; exact f670
          have f681 : Old Z n0 h677 := f671.wr W678 f669
          have f682 : Sta Z h677 "java/lang/String" "COMPACT_STRINGS" "Z" (.int cs) := f672.wr W678
          have f683 : Exa Z h677 a650 "java/lang/String" := f673.wr W678
          have f684 : Fld Z h677 a650 "java/lang/String" "value" "[B" .null := f674.other W678 (Or.inl f668)
          have f685 : Fld Z h677 a650 "java/lang/String" "coder" "B" (.int (0 : Int32)) := f675.other W678 (Or.inl f668)
          have f686 : Arv Z h677 a662 kA663 .char (2 : Int32) [(.int (nar .char ((p1 &&& (255 : Int32)).toUInt32.toUInt16.toUInt32.toInt32))), (.int 0)] (.int 0) := V679
          refine own_dup H rfl at_84 ?_
          refine own_iconst H (1 : Int32) (by decide) at_85 ?_
          refine own_iload H rfl at_86 ?_
          refine own_castoreV H f686 (by decide) (by decide) 1 (by decide) (Nat.le_of_ble_eq_true rfl) f669 rfl at_88 ?_
          intro h687 W688 V689
          have f690 : n0 ≤ h687.size := by rw [W688.size]; exact f680
          have f691 : Old Z n0 h687 := f681.wr W688 f669
          have f692 : Sta Z h687 "java/lang/String" "COMPACT_STRINGS" "Z" (.int cs) := f682.wr W688
          have f693 : Exa Z h687 a650 "java/lang/String" := f683.wr W688
          have f694 : Fld Z h687 a650 "java/lang/String" "value" "[B" .null := f684.other W688 (Or.inl f668)
          have f695 : Fld Z h687 a650 "java/lang/String" "coder" "B" (.int (0 : Int32)) := f685.other W688 (Or.inl f668)
          have f696 : Arv Z h687 a662 kA663 .char (2 : Int32) [(.int (nar .char ((p1 &&& (255 : Int32)).toUInt32.toUInt16.toUInt32.toInt32))), (.int (nar .char ((p2 &&& (255 : Int32)).toUInt32.toUInt16.toUInt32.toInt32)))] (.int 0) := V689
          refine own_invokespecial H (a := a650) (argsL := [(.ref a662)]) (rest := [(.ref a650)]) (rmIn1 l Z a0 (own_hw H) h687 n0 a650 a662 (nar .char ((p1 &&& (255 : Int32)).toUInt32.toUInt16.toUInt32.toInt32)) (nar .char ((p2 &&& (255 : Int32)).toUInt32.toUInt16.toUInt32.toInt32)) kA663 cs f690 f693 f694 f695 f696 f668.symm f692 (own_ch _) (own_ch _) hcs f655) rfl (w1 := 5) (w2 := 6) (w3 := 3) (w4 := 7) rfl rfl rfl rfl own_pd8 rfl 1 (by decide) rfl (by decide) (Nat.le_of_eq rfl) (by decide) (by decide) (by decide) rfl at_89 ?_
          rintro _ h697 ⟨rfl, K698⟩
          have f699 : n0 ≤ h697.size := Nat.le_trans f690 K698.1
          have f700 : Old Z n0 h697 := f691.keep K698 (allS f655 all0)
          have f701 : Exa Z h697 a650 "java/lang/String" := f693.keep K698
          have f702 : Arv Z h697 a662 kA663 .char (2 : Int32) [(.int (nar .char ((p1 &&& (255 : Int32)).toUInt32.toUInt16.toUInt32.toInt32))), (.int (nar .char ((p2 &&& (255 : Int32)).toUInt32.toUInt16.toUInt32.toInt32)))] (.int 0) := f696.keep K698 (ninS f668.symm nin0)
          show own_G _ _ _ _ _ _ _ _ 92 #[.val (.int p1), .val (.int p2), .val (.int p3), .val (.long p4), .second, .val (.long p5), .second, .val (.int p6), .val (.int ((p1 &&& (255 : Int32)).toUInt32.toUInt16.toUInt32.toInt32)), .val (.int ((p2 &&& (255 : Int32)).toUInt32.toUInt16.toUInt32.toInt32)), .val (.int (2 : Int32)), .val (.int (1 : Int32)), .unset, .unset, .unset, .unset, .unset, .unset, .unset, .unset] [(.ref a650)]
          refine own_astore H rfl #[.val (.int p1), .val (.int p2), .val (.int p3), .val (.long p4), .second, .val (.long p5), .second, .val (.int p6), .val (.int ((p1 &&& (255 : Int32)).toUInt32.toUInt16.toUInt32.toInt32)), .val (.int ((p2 &&& (255 : Int32)).toUInt32.toUInt16.toUInt32.toInt32)), .val (.int (2 : Int32)), .val (.int (1 : Int32)), .val (.ref a650), .unset, .unset, .unset, .unset, .unset, .unset, .unset] rfl at_92 ?_
          refine own_iload_n H rfl at_94 ?_
          refine own_i2b H rfl at_95 ?_
          refine own_istore H #[.val (.int p1), .val (.int p2), .val (.int p3), .val (.long p4), .second, .val (.long p5), .second, .val (.int p6), .val (.int ((p1 &&& (255 : Int32)).toUInt32.toUInt16.toUInt32.toInt32)), .val (.int ((p2 &&& (255 : Int32)).toUInt32.toUInt16.toUInt32.toInt32)), .val (.int (2 : Int32)), .val (.int (1 : Int32)), .val (.ref a650), .val (.int (p3.toInt8.toInt32)), .unset, .unset, .unset, .unset, .unset, .unset] rfl at_96 ?_
          refine own_iload_n H rfl at_98 ?_
          refine own_bipush H (8 : Int32) (by decide) at_99 ?_
          refine own_ishr H rfl at_101 ?_
          refine own_i2b H rfl at_102 ?_
          refine own_istore H #[.val (.int p1), .val (.int p2), .val (.int p3), .val (.long p4), .second, .val (.long p5), .second, .val (.int p6), .val (.int ((p1 &&& (255 : Int32)).toUInt32.toUInt16.toUInt32.toInt32)), .val (.int ((p2 &&& (255 : Int32)).toUInt32.toUInt16.toUInt32.toInt32)), .val (.int (2 : Int32)), .val (.int (1 : Int32)), .val (.ref a650), .val (.int (p3.toInt8.toInt32)), .val (.int ((p3 >>> ((8 : Int32) &&& 31)).toInt8.toInt32)), .unset, .unset, .unset, .unset, .unset] rfl at_103 ?_
          refine own_iload H rfl at_105 ?_
          refine own_ifne_t H (pc' := 118) at_107 (by decide) (by decide) (by decide) ?_
          refine own_iload H rfl at_118 ?_
          refine own_iconst H (1 : Int32) (by decide) at_120 ?_
          refine own_icmpne_f H at_121 (by decide) ?_
          refine own_iconst H (1 : Int32) (by decide) at_124 ?_
          refine own_newarray H (w := 16) (n := (1 : Int32)) rfl (by decide) 1 (by decide) (by decide) at_125 (by decide) (by decide) ?_
          intro h703 a704 kA705 ha706 E707 V708
          have f710 : a650 ≠ a704 := Nat.ne_of_lt (by rw [ha706]; exact f701.lt)
          have f711 : a662 ≠ a704 := Nat.ne_of_lt (by rw [ha706]; exact f702.lt)
          have f712 : n0 ≤ a704 := by rw [ha706]; exact f699
          have f713 : n0 ≤ h703.size := Nat.le_trans f699 E707.1
          have f714 : Old Z n0 h703 := f700.ext E707
          have f715 : Exa Z h703 a650 "java/lang/String" := f701.ext E707
          have f716 : Arv Z h703 a662 kA663 .char (2 : Int32) [(.int (nar .char ((p1 &&& (255 : Int32)).toUInt32.toUInt16.toUInt32.toInt32))), (.int (nar .char ((p2 &&& (255 : Int32)).toUInt32.toUInt16.toUInt32.toInt32)))] (.int 0) := f702.ext E707
          have f717 : Arv Z h703 a704 kA705 .byte (1 : Int32) [(.int 0)] (.int 0) := V708.pad (pad_rep [] (.int 0) 1)
          show own_G _ _ _ _ _ _ _ _ 127 #[.val (.int p1), .val (.int p2), .val (.int p3), .val (.long p4), .second, .val (.long p5), .second, .val (.int p6), .val (.int ((p1 &&& (255 : Int32)).toUInt32.toUInt16.toUInt32.toInt32)), .val (.int ((p2 &&& (255 : Int32)).toUInt32.toUInt16.toUInt32.toInt32)), .val (.int (2 : Int32)), .val (.int (1 : Int32)), .val (.ref a650), .val (.int (p3.toInt8.toInt32)), .val (.int ((p3 >>> ((8 : Int32) &&& 31)).toInt8.toInt32)), .unset, .unset, .unset, .unset, .unset] [(.ref a704)]
          refine own_dup H rfl at_127 ?_
          refine own_iconst H (0 : Int32) (by decide) at_128 ?_
          refine own_iload H rfl at_129 ?_
          refine own_bastoreV H f717 (by decide) (by decide) 0 (by decide) (Nat.le_of_ble_eq_true rfl) f712 rfl at_131 ?_
          intro h718 W719 V720
          have f721 : n0 ≤ h718.size := by rw [W719.size]; exact f713
          have f722 : Old Z n0 h718 := f714.wr W719 f712
          have f723 : Exa Z h718 a650 "java/lang/String" := f715.wr W719
          have f724 : Arv Z h718 a662 kA663 .char (2 : Int32) [(.int (nar .char ((p1 &&& (255 : Int32)).toUInt32.toUInt16.toUInt32.toInt32))), (.int (nar .char ((p2 &&& (255 : Int32)).toUInt32.toUInt16.toUInt32.toInt32)))] (.int 0) := f716.other W719 f711
          have f725 : Arv Z h718 a704 kA705 .byte (1 : Int32) [(.int (nar .byte (p3.toInt8.toInt32)))] (.int 0) := V720
          refine own_astore H rfl #[.val (.int p1), .val (.int p2), .val (.int p3), .val (.long p4), .second, .val (.long p5), .second, .val (.int p6), .val (.int ((p1 &&& (255 : Int32)).toUInt32.toUInt16.toUInt32.toInt32)), .val (.int ((p2 &&& (255 : Int32)).toUInt32.toUInt16.toUInt32.toInt32)), .val (.int (2 : Int32)), .val (.int (1 : Int32)), .val (.ref a650), .val (.int (p3.toInt8.toInt32)), .val (.int ((p3 >>> ((8 : Int32) &&& 31)).toInt8.toInt32)), .val (.ref a704), .unset, .unset, .unset, .unset] rfl at_132 ?_
          refine own_goto H (pc' := 152) at_134 (by decide) (by decide) ?_
          refine own_aload H rfl rfl at_152 ?_
          refine own_aload H rfl rfl at_154 ?_
          refine own_lload_n H rfl at_156 ?_
          refine own_invokestatic H (argsL := [(.ref a650), (.ref a704), (.long p4)]) (rest := []) (rmPst l Z a0 (own_hw H) h718 n0 a650 a704 p4 f721) (w1 := 23) (w2 := 24) (w3 := 25) (w4 := 26) rfl rfl rfl rfl own_pd10 rfl 0 (by decide) rfl (by decide) (Nat.le_of_eq rfl) (by decide) (by decide) (by decide) rfl at_157 ?_
          rintro _ h726 ⟨a728, rfl, K727, f729, f730, f731, f732, f733, f734, f735, f736, f737, f738⟩
          have f739 : a650 ≠ a728 := Nat.ne_of_lt (Nat.lt_of_lt_of_le f723.lt f730)
          have f740 : a662 ≠ a728 := Nat.ne_of_lt (Nat.lt_of_lt_of_le f724.lt f730)
          have f741 : a704 ≠ a728 := Nat.ne_of_lt (Nat.lt_of_lt_of_le f725.lt f730)
          have f742 : n0 ≤ h726.size := Nat.le_trans f721 K727.1
          have f743 : Old Z n0 h726 := f722.keep K727 all0
          have f744 : Exa Z h726 a650 "java/lang/String" := f723.keep K727
          have f745 : Arv Z h726 a662 kA663 .char (2 : Int32) [(.int (nar .char ((p1 &&& (255 : Int32)).toUInt32.toUInt16.toUInt32.toInt32))), (.int (nar .char ((p2 &&& (255 : Int32)).toUInt32.toUInt16.toUInt32.toInt32)))] (.int 0) := f724.keep K727 nin0
          have f746 : Arv Z h726 a704 kA705 .byte (1 : Int32) [(.int (nar .byte (p3.toInt8.toInt32)))] (.int 0) := f725.keep K727 nin0
          show own_G _ _ _ _ _ _ _ _ 160 #[.val (.int p1), .val (.int p2), .val (.int p3), .val (.long p4), .second, .val (.long p5), .second, .val (.int p6), .val (.int ((p1 &&& (255 : Int32)).toUInt32.toUInt16.toUInt32.toInt32)), .val (.int ((p2 &&& (255 : Int32)).toUInt32.toUInt16.toUInt32.toInt32)), .val (.int (2 : Int32)), .val (.int (1 : Int32)), .val (.ref a650), .val (.int (p3.toInt8.toInt32)), .val (.int ((p3 >>> ((8 : Int32) &&& 31)).toInt8.toInt32)), .val (.ref a704), .unset, .unset, .unset, .unset] [(.ref a728)]
          refine own_astore H rfl #[.val (.int p1), .val (.int p2), .val (.int p3), .val (.long p4), .second, .val (.long p5), .second, .val (.int p6), .val (.int ((p1 &&& (255 : Int32)).toUInt32.toUInt16.toUInt32.toInt32)), .val (.int ((p2 &&& (255 : Int32)).toUInt32.toUInt16.toUInt32.toInt32)), .val (.int (2 : Int32)), .val (.int (1 : Int32)), .val (.ref a650), .val (.int (p3.toInt8.toInt32)), .val (.int ((p3 >>> ((8 : Int32) &&& 31)).toInt8.toInt32)), .val (.ref a704), .val (.ref a728), .unset, .unset, .unset] rfl at_160 ?_
          refine own_aload H rfl rfl at_162 ?_
          refine own_invokevirtual H (a := a728) (argsL := []) (rest := []) (rmGurl l Z a0 (own_hw H) h726 n0 a728 a650 f733) f732 (w1 := 45) (w0 := 46) (w5 := 48) (w2 := 47) (w3 := 25) (w4 := 49) rfl rfl rfl rfl rfl rfl own_pd12 rfl 0 (by decide) rfl (by decide) (Nat.le_of_eq rfl) (by decide) (by decide) (by decide) rfl at_164 ?_
          rintro _ _ ⟨rfl, rfl⟩
          show own_G _ _ _ _ _ _ _ _ 167 #[.val (.int p1), .val (.int p2), .val (.int p3), .val (.long p4), .second, .val (.long p5), .second, .val (.int p6), .val (.int ((p1 &&& (255 : Int32)).toUInt32.toUInt16.toUInt32.toInt32)), .val (.int ((p2 &&& (255 : Int32)).toUInt32.toUInt16.toUInt32.toInt32)), .val (.int (2 : Int32)), .val (.int (1 : Int32)), .val (.ref a650), .val (.int (p3.toInt8.toInt32)), .val (.int ((p3 >>> ((8 : Int32) &&& 31)).toInt8.toInt32)), .val (.ref a704), .val (.ref a728), .unset, .unset, .unset] [(.ref a650)]
          refine own_astore H rfl #[.val (.int p1), .val (.int p2), .val (.int p3), .val (.long p4), .second, .val (.long p5), .second, .val (.int p6), .val (.int ((p1 &&& (255 : Int32)).toUInt32.toUInt16.toUInt32.toInt32)), .val (.int ((p2 &&& (255 : Int32)).toUInt32.toUInt16.toUInt32.toInt32)), .val (.int (2 : Int32)), .val (.int (1 : Int32)), .val (.ref a650), .val (.int (p3.toInt8.toInt32)), .val (.int ((p3 >>> ((8 : Int32) &&& 31)).toInt8.toInt32)), .val (.ref a704), .val (.ref a728), .val (.ref a650), .unset, .unset] rfl at_167 ?_
          refine own_aload H rfl rfl at_169 ?_
          refine own_ifnull_f H at_171 rfl (fun h => nomatch h) ?_
          refine own_aload H rfl rfl at_174 ?_
          refine own_aload H rfl rfl at_176 ?_
          refine own_invokevirtual H (a := a650) (argsL := [(.ref a650)]) (rest := []) (rmEqu l Z a0 (own_hw H) h726 n0 a650 a650 rfl) f744 (w1 := 50) (w0 := 51) (w5 := 53) (w2 := 52) (w3 := 3) (w4 := 54) rfl rfl rfl rfl rfl rfl own_pd16 rfl 0 (by decide) rfl (by decide) (Nat.le_of_eq rfl) (by decide) (by decide) (by decide) rfl at_178 ?_
          rintro _ _ ⟨rfl, rfl⟩
          show own_G _ _ _ _ _ _ _ _ 181 #[.val (.int p1), .val (.int p2), .val (.int p3), .val (.long p4), .second, .val (.long p5), .second, .val (.int p6), .val (.int ((p1 &&& (255 : Int32)).toUInt32.toUInt16.toUInt32.toInt32)), .val (.int ((p2 &&& (255 : Int32)).toUInt32.toUInt16.toUInt32.toInt32)), .val (.int (2 : Int32)), .val (.int (1 : Int32)), .val (.ref a650), .val (.int (p3.toInt8.toInt32)), .val (.int ((p3 >>> ((8 : Int32) &&& 31)).toInt8.toInt32)), .val (.ref a704), .val (.ref a728), .val (.ref a650), .unset, .unset] [(.int (1 : Int32))]
          refine own_ifne_t H (pc' := 186) at_181 (by decide) (by decide) (by decide) ?_
          refine own_aload H rfl rfl at_186 ?_
          refine own_invokevirtual H (a := a728) (argsL := []) (rest := []) (rmGpayloadJson l Z a0 (own_hw H) h726 n0 a728 a704 f734) f732 (w1 := 55) (w0 := 56) (w5 := 58) (w2 := 57) (w3 := 25) (w4 := 59) rfl rfl rfl rfl rfl rfl own_pd13 rfl 0 (by decide) rfl (by decide) (Nat.le_of_eq rfl) (by decide) (by decide) (by decide) rfl at_188 ?_
          rintro _ _ ⟨rfl, rfl⟩
          show own_G _ _ _ _ _ _ _ _ 191 #[.val (.int p1), .val (.int p2), .val (.int p3), .val (.long p4), .second, .val (.long p5), .second, .val (.int p6), .val (.int ((p1 &&& (255 : Int32)).toUInt32.toUInt16.toUInt32.toInt32)), .val (.int ((p2 &&& (255 : Int32)).toUInt32.toUInt16.toUInt32.toInt32)), .val (.int (2 : Int32)), .val (.int (1 : Int32)), .val (.ref a650), .val (.int (p3.toInt8.toInt32)), .val (.int ((p3 >>> ((8 : Int32) &&& 31)).toInt8.toInt32)), .val (.ref a704), .val (.ref a728), .val (.ref a650), .unset, .unset] [(.ref a704)]
          refine own_astore H rfl #[.val (.int p1), .val (.int p2), .val (.int p3), .val (.long p4), .second, .val (.long p5), .second, .val (.int p6), .val (.int ((p1 &&& (255 : Int32)).toUInt32.toUInt16.toUInt32.toInt32)), .val (.int ((p2 &&& (255 : Int32)).toUInt32.toUInt16.toUInt32.toInt32)), .val (.int (2 : Int32)), .val (.int (1 : Int32)), .val (.ref a650), .val (.int (p3.toInt8.toInt32)), .val (.int ((p3 >>> ((8 : Int32) &&& 31)).toInt8.toInt32)), .val (.ref a704), .val (.ref a728), .val (.ref a650), .val (.ref a704), .unset] rfl at_191 ?_
          refine own_aload H rfl rfl at_193 ?_
          refine own_ifnull_f H at_195 rfl (fun h => nomatch h) ?_
          refine own_aload H rfl rfl at_198 ?_
          refine own_arraylengthV H f746 at_200 ?_
          refine own_iload H rfl at_201 ?_
          refine own_icmpeq_t H (pc' := 208) at_203 (by decide) (by decide) (by decide) ?_
          refine own_iload H rfl at_208 ?_
          refine own_iconst H (1 : Int32) (by decide) at_210 ?_
          refine own_icmplt_f H at_211 (by decide) ?_
          refine own_aload H rfl rfl at_214 ?_
          refine own_iconst H (0 : Int32) (by decide) at_216 ?_
          refine own_baloadV H f746 (by decide) (by decide) rfl at_217 ?_
          refine own_iload H rfl at_218 ?_
          refine own_icmpeq_t H (pc' := 225) at_220 (by decide) (by decide) (own_nbi _) ?_
          refine own_iload H rfl at_225 ?_
          refine own_iconst H (2 : Int32) (by decide) at_227 ?_
          refine own_icmpne_t H (pc' := 242) at_228 (by decide) (by decide) (by decide) ?_
          refine own_aload H rfl rfl at_242 ?_
          refine own_invokevirtual H (a := a728) (argsL := []) (rest := []) (rmGsequence l Z a0 (own_hw H) h726 n0 a728 p4 f735) f732 (w1 := 60) (w0 := 61) (w5 := 63) (w2 := 62) (w3 := 25) (w4 := 64) rfl rfl rfl rfl rfl rfl own_pd14 rfl 0 (by decide) rfl (by decide) (Nat.le_of_eq rfl) (by decide) (by decide) (by decide) rfl at_244 ?_
          rintro _ _ ⟨rfl, rfl⟩
          show own_G _ _ _ _ _ _ _ _ 247 #[.val (.int p1), .val (.int p2), .val (.int p3), .val (.long p4), .second, .val (.long p5), .second, .val (.int p6), .val (.int ((p1 &&& (255 : Int32)).toUInt32.toUInt16.toUInt32.toInt32)), .val (.int ((p2 &&& (255 : Int32)).toUInt32.toUInt16.toUInt32.toInt32)), .val (.int (2 : Int32)), .val (.int (1 : Int32)), .val (.ref a650), .val (.int (p3.toInt8.toInt32)), .val (.int ((p3 >>> ((8 : Int32) &&& 31)).toInt8.toInt32)), .val (.ref a704), .val (.ref a728), .val (.ref a650), .val (.ref a704), .unset] [(.long p4)]
          refine own_lload_n H rfl at_247 ?_
          refine own_lcmpeq_t H (pc' := 254) at_248 at_249 (by decide) (by decide) rfl ?_
          refine own_aload H rfl rfl at_254 ?_
          refine own_invokevirtual H (a := a728) (argsL := []) (rest := []) (rmGattempts l Z a0 (own_hw H) h726 n0 a728 (0 : Int32) f736) f732 (w1 := 65) (w0 := 66) (w5 := 68) (w2 := 67) (w3 := 25) (w4 := 69) rfl rfl rfl rfl rfl rfl own_pd15 rfl 0 (by decide) rfl (by decide) (Nat.le_of_eq rfl) (by decide) (by decide) (by decide) rfl at_256 ?_
          rintro _ _ ⟨rfl, rfl⟩
          show own_G _ _ _ _ _ _ _ _ 259 #[.val (.int p1), .val (.int p2), .val (.int p3), .val (.long p4), .second, .val (.long p5), .second, .val (.int p6), .val (.int ((p1 &&& (255 : Int32)).toUInt32.toUInt16.toUInt32.toInt32)), .val (.int ((p2 &&& (255 : Int32)).toUInt32.toUInt16.toUInt32.toInt32)), .val (.int (2 : Int32)), .val (.int (1 : Int32)), .val (.ref a650), .val (.int (p3.toInt8.toInt32)), .val (.int ((p3 >>> ((8 : Int32) &&& 31)).toInt8.toInt32)), .val (.ref a704), .val (.ref a728), .val (.ref a650), .val (.ref a704), .unset] [(.int (0 : Int32))]
          refine own_ifeq_t H (pc' := 264) at_259 (by decide) (by decide) (by decide) ?_
          refine own_aload H rfl rfl at_264 ?_
          refine own_invokevirtual H (a := a728) (argsL := []) (rest := []) (rmGlastError l Z a0 (own_hw H) h726 n0 a728 f738) f732 (w1 := 70) (w0 := 71) (w5 := 73) (w2 := 72) (w3 := 25) (w4 := 74) rfl rfl rfl rfl rfl rfl own_pd12 rfl 0 (by decide) rfl (by decide) (Nat.le_of_eq rfl) (by decide) (by decide) (by decide) rfl at_266 ?_
          rintro _ _ ⟨rfl, rfl⟩
          show own_G _ _ _ _ _ _ _ _ 269 #[.val (.int p1), .val (.int p2), .val (.int p3), .val (.long p4), .second, .val (.long p5), .second, .val (.int p6), .val (.int ((p1 &&& (255 : Int32)).toUInt32.toUInt16.toUInt32.toInt32)), .val (.int ((p2 &&& (255 : Int32)).toUInt32.toUInt16.toUInt32.toInt32)), .val (.int (2 : Int32)), .val (.int (1 : Int32)), .val (.ref a650), .val (.int (p3.toInt8.toInt32)), .val (.int ((p3 >>> ((8 : Int32) &&& 31)).toInt8.toInt32)), .val (.ref a704), .val (.ref a728), .val (.ref a650), .val (.ref a704), .unset] [.null]
          refine own_ifnull_t H (pc' := 274) at_269 (by decide) (by decide) rfl rfl ?_
          refine own_aload H rfl rfl at_274 ?_
          refine own_lload H rfl at_276 ?_
          refine own_invokevirtual H (a := a728) (argsL := [(.long p5)]) (rest := []) (rmAtt l Z a0 (own_hw H) h726 n0 a728 p5 a650 a704 p4 f742 f733 f734 f735 f736 f738) f732 (w1 := 75) (w0 := 76) (w5 := 78) (w2 := 77) (w3 := 25) (w4 := 79) rfl rfl rfl rfl rfl rfl own_pd11 rfl 0 (by decide) rfl (by decide) (Nat.le_of_eq rfl) (by decide) (by decide) (by decide) rfl at_278 ?_
          rintro _ h747 ⟨a749, rfl, K748, f750, f751, f752, f753, f754, f755⟩
          have f756 : a650 ≠ a749 := Nat.ne_of_lt (Nat.lt_of_lt_of_le f744.lt f751)
          have f757 : a662 ≠ a749 := Nat.ne_of_lt (Nat.lt_of_lt_of_le f745.lt f751)
          have f758 : a704 ≠ a749 := Nat.ne_of_lt (Nat.lt_of_lt_of_le f746.lt f751)
          have f759 : a728 ≠ a749 := Nat.ne_of_lt (Nat.lt_of_lt_of_le f732.lt f751)
          have f760 : n0 ≤ h747.size := Nat.le_trans f742 K748.1
          have f761 : Old Z n0 h747 := f743.keep K748 all0
          have f762 : Exa Z h747 a650 "java/lang/String" := f744.keep K748
          have f763 : Arv Z h747 a662 kA663 .char (2 : Int32) [(.int (nar .char ((p1 &&& (255 : Int32)).toUInt32.toUInt16.toUInt32.toInt32))), (.int (nar .char ((p2 &&& (255 : Int32)).toUInt32.toUInt16.toUInt32.toInt32)))] (.int 0) := f745.keep K748 nin0
          have f764 : Arv Z h747 a704 kA705 .byte (1 : Int32) [(.int (nar .byte (p3.toInt8.toInt32)))] (.int 0) := f746.keep K748 nin0
          have f765 : Exa Z h747 a728 "com/example/ring_to_run/ringtorun/service/Callback" := f732.keep K748
          have f766 : Fld Z h747 a728 "com/example/ring_to_run/ringtorun/service/Callback" "url" "Ljava/lang/String;" (.ref a650) := f733.keep K748 nin0
          have f767 : Fld Z h747 a728 "com/example/ring_to_run/ringtorun/service/Callback" "payloadJson" "[B" (.ref a704) := f734.keep K748 nin0
          have f768 : Fld Z h747 a728 "com/example/ring_to_run/ringtorun/service/Callback" "sequence" "J" (.long p4) := f735.keep K748 nin0
          have f769 : Fld Z h747 a728 "com/example/ring_to_run/ringtorun/service/Callback" "attempts" "I" (.int (0 : Int32)) := f736.keep K748 nin0
          have f770 : Fld Z h747 a728 "com/example/ring_to_run/ringtorun/service/Callback" "dueAt" "J" (.long (0 : Int64)) := f737.keep K748 nin0
          have f771 : Fld Z h747 a728 "com/example/ring_to_run/ringtorun/service/Callback" "lastError" "Ljava/lang/String;" .null := f738.keep K748 nin0
          show own_G _ _ _ _ _ _ _ _ 281 #[.val (.int p1), .val (.int p2), .val (.int p3), .val (.long p4), .second, .val (.long p5), .second, .val (.int p6), .val (.int ((p1 &&& (255 : Int32)).toUInt32.toUInt16.toUInt32.toInt32)), .val (.int ((p2 &&& (255 : Int32)).toUInt32.toUInt16.toUInt32.toInt32)), .val (.int (2 : Int32)), .val (.int (1 : Int32)), .val (.ref a650), .val (.int (p3.toInt8.toInt32)), .val (.int ((p3 >>> ((8 : Int32) &&& 31)).toInt8.toInt32)), .val (.ref a704), .val (.ref a728), .val (.ref a650), .val (.ref a704), .unset] [(.ref a749)]
          refine own_astore H rfl #[.val (.int p1), .val (.int p2), .val (.int p3), .val (.long p4), .second, .val (.long p5), .second, .val (.int p6), .val (.int ((p1 &&& (255 : Int32)).toUInt32.toUInt16.toUInt32.toInt32)), .val (.int ((p2 &&& (255 : Int32)).toUInt32.toUInt16.toUInt32.toInt32)), .val (.int (2 : Int32)), .val (.int (1 : Int32)), .val (.ref a650), .val (.int (p3.toInt8.toInt32)), .val (.int ((p3 >>> ((8 : Int32) &&& 31)).toInt8.toInt32)), .val (.ref a704), .val (.ref a728), .val (.ref a650), .val (.ref a704), .val (.ref a749)] rfl at_281 ?_
          refine own_aload H rfl rfl at_283 ?_
          refine own_invokevirtual H (a := a749) (argsL := []) (rest := []) (rmGattempts l Z a0 (own_hw H) h747 n0 a749 (1 : Int32) f754) f753 (w1 := 65) (w0 := 66) (w5 := 68) (w2 := 67) (w3 := 25) (w4 := 69) rfl rfl rfl rfl rfl rfl own_pd15 rfl 0 (by decide) rfl (by decide) (Nat.le_of_eq rfl) (by decide) (by decide) (by decide) rfl at_285 ?_
          rintro _ _ ⟨rfl, rfl⟩
          show own_G _ _ _ _ _ _ _ _ 288 #[.val (.int p1), .val (.int p2), .val (.int p3), .val (.long p4), .second, .val (.long p5), .second, .val (.int p6), .val (.int ((p1 &&& (255 : Int32)).toUInt32.toUInt16.toUInt32.toInt32)), .val (.int ((p2 &&& (255 : Int32)).toUInt32.toUInt16.toUInt32.toInt32)), .val (.int (2 : Int32)), .val (.int (1 : Int32)), .val (.ref a650), .val (.int (p3.toInt8.toInt32)), .val (.int ((p3 >>> ((8 : Int32) &&& 31)).toInt8.toInt32)), .val (.ref a704), .val (.ref a728), .val (.ref a650), .val (.ref a704), .val (.ref a749)] [(.int (1 : Int32))]
          refine own_iconst H (1 : Int32) (by decide) at_288 ?_
          refine own_icmpne_f H at_289 (by decide) ?_
          refine own_aload H rfl rfl at_292 ?_
          refine own_invokevirtual H (a := a749) (argsL := []) (rest := []) (rmGdueAt l Z a0 (own_hw H) h747 n0 a749 p5 f755) f753 (w1 := 80) (w0 := 81) (w5 := 83) (w2 := 82) (w3 := 25) (w4 := 84) rfl rfl rfl rfl rfl rfl own_pd14 rfl 0 (by decide) rfl (by decide) (Nat.le_of_eq rfl) (by decide) (by decide) (by decide) rfl at_294 ?_
          rintro _ _ ⟨rfl, rfl⟩
          show own_G _ _ _ _ _ _ _ _ 297 #[.val (.int p1), .val (.int p2), .val (.int p3), .val (.long p4), .second, .val (.long p5), .second, .val (.int p6), .val (.int ((p1 &&& (255 : Int32)).toUInt32.toUInt16.toUInt32.toInt32)), .val (.int ((p2 &&& (255 : Int32)).toUInt32.toUInt16.toUInt32.toInt32)), .val (.int (2 : Int32)), .val (.int (1 : Int32)), .val (.ref a650), .val (.int (p3.toInt8.toInt32)), .val (.int ((p3 >>> ((8 : Int32) &&& 31)).toInt8.toInt32)), .val (.ref a704), .val (.ref a728), .val (.ref a650), .val (.ref a704), .val (.ref a749)] [(.long p5)]
          refine own_lload H rfl at_297 ?_
          refine own_lcmpne_f H at_299 at_300 rfl ?_
          refine own_iconst H (1 : Int32) (by decide) at_303 ?_
          refine own_goto H (pc' := 308) at_304 (by decide) (by decide) ?_
          exact own_ireturn H (by simp) (by decide) at_308 (by decide) (by decide) rfl
        ·
          have c772 : (((XT.ushr p6 (2 : Int32)) &&& (2147483647 : Int32)) % (3 : Int32)) = (2 : Int32) := own_k3 _ c532 c648
          rw [c772]
          show own_G _ _ _ _ _ _ _ _ 36 #[.val (.int p1), .val (.int p2), .val (.int p3), .val (.long p4), .second, .val (.long p5), .second, .val (.int p6), .val (.int ((p1 &&& (255 : Int32)).toUInt32.toUInt16.toUInt32.toInt32)), .val (.int ((p2 &&& (255 : Int32)).toUInt32.toUInt16.toUInt32.toInt32)), .val (.int (2 : Int32)), .val (.int (2 : Int32)), .unset, .unset, .unset, .unset, .unset, .unset, .unset, .unset] []
          refine own_iload H rfl at_36 ?_
          refine own_ifne_t H (pc' := 56) at_38 (by decide) (by decide) (by decide) ?_
          refine own_iload H rfl at_56 ?_
          refine own_iconst H (1 : Int32) (by decide) at_58 ?_
          refine own_icmpne_t H (pc' := 72) at_59 (by decide) (by decide) (by decide) ?_
          refine own_new H (w := 1) (wi := 2) (wz := 3) rfl rfl rfl at_72 (by decide) (by decide) ?_
          intro h773 a774 ha775 E776 X777 D778
          have f779 : n0 ≤ a774 := by rw [ha775]; exact hZ0
          have f780 : n0 ≤ h773.size := Nat.le_trans hZ0 E776.1
          have f781 : Old Z n0 h773 := hO.ext E776
          have f782 : Sta Z h773 "java/lang/String" "COMPACT_STRINGS" "Z" (.int cs) := hS.ext E776
          have f783 : Fld Z h773 a774 "java/lang/String" "value" "[B" .null := D778 (Or.inr (own_w H (i := 17) rfl)) (ty := (.array .byte)) (by decide)
          have f784 : Fld Z h773 a774 "java/lang/String" "coder" "B" (.int (0 : Int32)) := D778 (Or.inr (own_w H (i := 18) rfl)) (ty := .byte) (by decide)
          show own_G _ _ _ _ _ _ _ _ 75 #[.val (.int p1), .val (.int p2), .val (.int p3), .val (.long p4), .second, .val (.long p5), .second, .val (.int p6), .val (.int ((p1 &&& (255 : Int32)).toUInt32.toUInt16.toUInt32.toInt32)), .val (.int ((p2 &&& (255 : Int32)).toUInt32.toUInt16.toUInt32.toInt32)), .val (.int (2 : Int32)), .val (.int (2 : Int32)), .unset, .unset, .unset, .unset, .unset, .unset, .unset, .unset] [(.ref a774)]
          refine own_dup H rfl at_75 ?_
          refine own_iconst H (2 : Int32) (by decide) at_76 ?_
          refine own_newarray H (w := 4) (n := (2 : Int32)) rfl (by decide) 2 (by decide) (by decide) at_77 (by decide) (by decide) ?_
          intro h785 a786 kA787 ha788 E789 V790
          have f792 : a774 ≠ a786 := Nat.ne_of_lt (by rw [ha788]; exact X777.lt)
          have f793 : n0 ≤ a786 := by rw [ha788]; exact f780
          have f794 : n0 ≤ h785.size := Nat.le_trans f780 E789.1
          have f795 : Old Z n0 h785 := f781.ext E789
          have f796 : Sta Z h785 "java/lang/String" "COMPACT_STRINGS" "Z" (.int cs) := f782.ext E789
          have f797 : Exa Z h785 a774 "java/lang/String" := X777.ext E789
          have f798 : Fld Z h785 a774 "java/lang/String" "value" "[B" .null := f783.ext E789
          have f799 : Fld Z h785 a774 "java/lang/String" "coder" "B" (.int (0 : Int32)) := f784.ext E789
          have f800 : Arv Z h785 a786 kA787 .char (2 : Int32) [(.int 0), (.int 0)] (.int 0) := V790.pad (pad_rep [] (.int 0) 2)
          show own_G _ _ _ _ _ _ _ _ 79 #[.val (.int p1), .val (.int p2), .val (.int p3), .val (.long p4), .second, .val (.long p5), .second, .val (.int p6), .val (.int ((p1 &&& (255 : Int32)).toUInt32.toUInt16.toUInt32.toInt32)), .val (.int ((p2 &&& (255 : Int32)).toUInt32.toUInt16.toUInt32.toInt32)), .val (.int (2 : Int32)), .val (.int (2 : Int32)), .unset, .unset, .unset, .unset, .unset, .unset, .unset, .unset] [(.ref a786), (.ref a774), (.ref a774)]
          refine own_dup H rfl at_79 ?_
          refine own_iconst H (0 : Int32) (by decide) at_80 ?_
          refine own_iload H rfl at_81 ?_
          refine own_castoreV H f800 (by decide) (by decide) 0 (by decide) (Nat.le_of_ble_eq_true rfl) f793 rfl at_83 ?_
          intro h801 W802 V803
          have f804 : n0 ≤ h801.size := by rw [W802.size]; exact f794
          have f805 : Old Z n0 h801 := f795.wr W802 f793
          have f806 : Sta Z h801 "java/lang/String" "COMPACT_STRINGS" "Z" (.int cs) := f796.wr W802
          have f807 : Exa Z h801 a774 "java/lang/String" := f797.wr W802
          have f808 : Fld Z h801 a774 "java/lang/String" "value" "[B" .null := f798.other W802 (Or.inl f792)
          have f809 : Fld Z h801 a774 "java/lang/String" "coder" "B" (.int (0 : Int32)) := f799.other W802 (Or.inl f792)
          have f810 : Arv Z h801 a786 kA787 .char (2 : Int32) [(.int (nar .char ((p1 &&& (255 : Int32)).toUInt32.toUInt16.toUInt32.toInt32))), (.int 0)] (.int 0) := V803
          refine own_dup H rfl at_84 ?_
          refine own_iconst H (1 : Int32) (by decide) at_85 ?_
          refine own_iload H rfl at_86 ?_
          refine own_castoreV H f810 (by decide) (by decide) 1 (by decide) (Nat.le_of_ble_eq_true rfl) f793 rfl at_88 ?_
          intro h811 W812 V813
          have f814 : n0 ≤ h811.size := by rw [W812.size]; exact f804
          have f815 : Old Z n0 h811 := f805.wr W812 f793
          have f816 : Sta Z h811 "java/lang/String" "COMPACT_STRINGS" "Z" (.int cs) := f806.wr W812
          have f817 : Exa Z h811 a774 "java/lang/String" := f807.wr W812
          have f818 : Fld Z h811 a774 "java/lang/String" "value" "[B" .null := f808.other W812 (Or.inl f792)
          have f819 : Fld Z h811 a774 "java/lang/String" "coder" "B" (.int (0 : Int32)) := f809.other W812 (Or.inl f792)
          have f820 : Arv Z h811 a786 kA787 .char (2 : Int32) [(.int (nar .char ((p1 &&& (255 : Int32)).toUInt32.toUInt16.toUInt32.toInt32))), (.int (nar .char ((p2 &&& (255 : Int32)).toUInt32.toUInt16.toUInt32.toInt32)))] (.int 0) := V813
          refine own_invokespecial H (a := a774) (argsL := [(.ref a786)]) (rest := [(.ref a774)]) (rmIn1 l Z a0 (own_hw H) h811 n0 a774 a786 (nar .char ((p1 &&& (255 : Int32)).toUInt32.toUInt16.toUInt32.toInt32)) (nar .char ((p2 &&& (255 : Int32)).toUInt32.toUInt16.toUInt32.toInt32)) kA787 cs f814 f817 f818 f819 f820 f792.symm f816 (own_ch _) (own_ch _) hcs f779) rfl (w1 := 5) (w2 := 6) (w3 := 3) (w4 := 7) rfl rfl rfl rfl own_pd8 rfl 1 (by decide) rfl (by decide) (Nat.le_of_eq rfl) (by decide) (by decide) (by decide) rfl at_89 ?_
          rintro _ h821 ⟨rfl, K822⟩
          have f823 : n0 ≤ h821.size := Nat.le_trans f814 K822.1
          have f824 : Old Z n0 h821 := f815.keep K822 (allS f779 all0)
          have f825 : Exa Z h821 a774 "java/lang/String" := f817.keep K822
          have f826 : Arv Z h821 a786 kA787 .char (2 : Int32) [(.int (nar .char ((p1 &&& (255 : Int32)).toUInt32.toUInt16.toUInt32.toInt32))), (.int (nar .char ((p2 &&& (255 : Int32)).toUInt32.toUInt16.toUInt32.toInt32)))] (.int 0) := f820.keep K822 (ninS f792.symm nin0)
          show own_G _ _ _ _ _ _ _ _ 92 #[.val (.int p1), .val (.int p2), .val (.int p3), .val (.long p4), .second, .val (.long p5), .second, .val (.int p6), .val (.int ((p1 &&& (255 : Int32)).toUInt32.toUInt16.toUInt32.toInt32)), .val (.int ((p2 &&& (255 : Int32)).toUInt32.toUInt16.toUInt32.toInt32)), .val (.int (2 : Int32)), .val (.int (2 : Int32)), .unset, .unset, .unset, .unset, .unset, .unset, .unset, .unset] [(.ref a774)]
          refine own_astore H rfl #[.val (.int p1), .val (.int p2), .val (.int p3), .val (.long p4), .second, .val (.long p5), .second, .val (.int p6), .val (.int ((p1 &&& (255 : Int32)).toUInt32.toUInt16.toUInt32.toInt32)), .val (.int ((p2 &&& (255 : Int32)).toUInt32.toUInt16.toUInt32.toInt32)), .val (.int (2 : Int32)), .val (.int (2 : Int32)), .val (.ref a774), .unset, .unset, .unset, .unset, .unset, .unset, .unset] rfl at_92 ?_
          refine own_iload_n H rfl at_94 ?_
          refine own_i2b H rfl at_95 ?_
          refine own_istore H #[.val (.int p1), .val (.int p2), .val (.int p3), .val (.long p4), .second, .val (.long p5), .second, .val (.int p6), .val (.int ((p1 &&& (255 : Int32)).toUInt32.toUInt16.toUInt32.toInt32)), .val (.int ((p2 &&& (255 : Int32)).toUInt32.toUInt16.toUInt32.toInt32)), .val (.int (2 : Int32)), .val (.int (2 : Int32)), .val (.ref a774), .val (.int (p3.toInt8.toInt32)), .unset, .unset, .unset, .unset, .unset, .unset] rfl at_96 ?_
          refine own_iload_n H rfl at_98 ?_
          refine own_bipush H (8 : Int32) (by decide) at_99 ?_
          refine own_ishr H rfl at_101 ?_
          refine own_i2b H rfl at_102 ?_
          refine own_istore H #[.val (.int p1), .val (.int p2), .val (.int p3), .val (.long p4), .second, .val (.long p5), .second, .val (.int p6), .val (.int ((p1 &&& (255 : Int32)).toUInt32.toUInt16.toUInt32.toInt32)), .val (.int ((p2 &&& (255 : Int32)).toUInt32.toUInt16.toUInt32.toInt32)), .val (.int (2 : Int32)), .val (.int (2 : Int32)), .val (.ref a774), .val (.int (p3.toInt8.toInt32)), .val (.int ((p3 >>> ((8 : Int32) &&& 31)).toInt8.toInt32)), .unset, .unset, .unset, .unset, .unset] rfl at_103 ?_
          refine own_iload H rfl at_105 ?_
          refine own_ifne_t H (pc' := 118) at_107 (by decide) (by decide) (by decide) ?_
          refine own_iload H rfl at_118 ?_
          refine own_iconst H (1 : Int32) (by decide) at_120 ?_
          refine own_icmpne_t H (pc' := 137) at_121 (by decide) (by decide) (by decide) ?_
          refine own_iconst H (2 : Int32) (by decide) at_137 ?_
          refine own_newarray H (w := 16) (n := (2 : Int32)) rfl (by decide) 2 (by decide) (by decide) at_138 (by decide) (by decide) ?_
          intro h827 a828 kA829 ha830 E831 V832
          have f834 : a774 ≠ a828 := Nat.ne_of_lt (by rw [ha830]; exact f825.lt)
          have f835 : a786 ≠ a828 := Nat.ne_of_lt (by rw [ha830]; exact f826.lt)
          have f836 : n0 ≤ a828 := by rw [ha830]; exact f823
          have f837 : n0 ≤ h827.size := Nat.le_trans f823 E831.1
          have f838 : Old Z n0 h827 := f824.ext E831
          have f839 : Exa Z h827 a774 "java/lang/String" := f825.ext E831
          have f840 : Arv Z h827 a786 kA787 .char (2 : Int32) [(.int (nar .char ((p1 &&& (255 : Int32)).toUInt32.toUInt16.toUInt32.toInt32))), (.int (nar .char ((p2 &&& (255 : Int32)).toUInt32.toUInt16.toUInt32.toInt32)))] (.int 0) := f826.ext E831
          have f841 : Arv Z h827 a828 kA829 .byte (2 : Int32) [(.int 0), (.int 0)] (.int 0) := V832.pad (pad_rep [] (.int 0) 2)
          show own_G _ _ _ _ _ _ _ _ 140 #[.val (.int p1), .val (.int p2), .val (.int p3), .val (.long p4), .second, .val (.long p5), .second, .val (.int p6), .val (.int ((p1 &&& (255 : Int32)).toUInt32.toUInt16.toUInt32.toInt32)), .val (.int ((p2 &&& (255 : Int32)).toUInt32.toUInt16.toUInt32.toInt32)), .val (.int (2 : Int32)), .val (.int (2 : Int32)), .val (.ref a774), .val (.int (p3.toInt8.toInt32)), .val (.int ((p3 >>> ((8 : Int32) &&& 31)).toInt8.toInt32)), .unset, .unset, .unset, .unset, .unset] [(.ref a828)]
          refine own_dup H rfl at_140 ?_
          refine own_iconst H (0 : Int32) (by decide) at_141 ?_
          refine own_iload H rfl at_142 ?_
          refine own_bastoreV H f841 (by decide) (by decide) 0 (by decide) (Nat.le_of_ble_eq_true rfl) f836 rfl at_144 ?_
          intro h842 W843 V844
          have f845 : n0 ≤ h842.size := by rw [W843.size]; exact f837
          have f846 : Old Z n0 h842 := f838.wr W843 f836
          have f847 : Exa Z h842 a774 "java/lang/String" := f839.wr W843
          have f848 : Arv Z h842 a786 kA787 .char (2 : Int32) [(.int (nar .char ((p1 &&& (255 : Int32)).toUInt32.toUInt16.toUInt32.toInt32))), (.int (nar .char ((p2 &&& (255 : Int32)).toUInt32.toUInt16.toUInt32.toInt32)))] (.int 0) := f840.other W843 f835
          have f849 : Arv Z h842 a828 kA829 .byte (2 : Int32) [(.int (nar .byte (p3.toInt8.toInt32))), (.int 0)] (.int 0) := V844
          refine own_dup H rfl at_145 ?_
          refine own_iconst H (1 : Int32) (by decide) at_146 ?_
          refine own_iload H rfl at_147 ?_
          refine own_bastoreV H f849 (by decide) (by decide) 1 (by decide) (Nat.le_of_ble_eq_true rfl) f836 rfl at_149 ?_
          intro h850 W851 V852
          have f853 : n0 ≤ h850.size := by rw [W851.size]; exact f845
          have f854 : Old Z n0 h850 := f846.wr W851 f836
          have f855 : Exa Z h850 a774 "java/lang/String" := f847.wr W851
          have f856 : Arv Z h850 a786 kA787 .char (2 : Int32) [(.int (nar .char ((p1 &&& (255 : Int32)).toUInt32.toUInt16.toUInt32.toInt32))), (.int (nar .char ((p2 &&& (255 : Int32)).toUInt32.toUInt16.toUInt32.toInt32)))] (.int 0) := f848.other W851 f835
          have f857 : Arv Z h850 a828 kA829 .byte (2 : Int32) [(.int (nar .byte (p3.toInt8.toInt32))), (.int (nar .byte ((p3 >>> ((8 : Int32) &&& 31)).toInt8.toInt32)))] (.int 0) := V852
          refine own_astore H rfl #[.val (.int p1), .val (.int p2), .val (.int p3), .val (.long p4), .second, .val (.long p5), .second, .val (.int p6), .val (.int ((p1 &&& (255 : Int32)).toUInt32.toUInt16.toUInt32.toInt32)), .val (.int ((p2 &&& (255 : Int32)).toUInt32.toUInt16.toUInt32.toInt32)), .val (.int (2 : Int32)), .val (.int (2 : Int32)), .val (.ref a774), .val (.int (p3.toInt8.toInt32)), .val (.int ((p3 >>> ((8 : Int32) &&& 31)).toInt8.toInt32)), .val (.ref a828), .unset, .unset, .unset, .unset] rfl at_150 ?_
          refine own_aload H rfl rfl at_152 ?_
          refine own_aload H rfl rfl at_154 ?_
          refine own_lload_n H rfl at_156 ?_
          refine own_invokestatic H (argsL := [(.ref a774), (.ref a828), (.long p4)]) (rest := []) (rmPst l Z a0 (own_hw H) h850 n0 a774 a828 p4 f853) (w1 := 23) (w2 := 24) (w3 := 25) (w4 := 26) rfl rfl rfl rfl own_pd10 rfl 0 (by decide) rfl (by decide) (Nat.le_of_eq rfl) (by decide) (by decide) (by decide) rfl at_157 ?_
          rintro _ h858 ⟨a860, rfl, K859, f861, f862, f863, f864, f865, f866, f867, f868, f869, f870⟩
          have f871 : a774 ≠ a860 := Nat.ne_of_lt (Nat.lt_of_lt_of_le f855.lt f862)
          have f872 : a786 ≠ a860 := Nat.ne_of_lt (Nat.lt_of_lt_of_le f856.lt f862)
          have f873 : a828 ≠ a860 := Nat.ne_of_lt (Nat.lt_of_lt_of_le f857.lt f862)
          have f874 : n0 ≤ h858.size := Nat.le_trans f853 K859.1
          have f875 : Old Z n0 h858 := f854.keep K859 all0
          have f876 : Exa Z h858 a774 "java/lang/String" := f855.keep K859
          have f877 : Arv Z h858 a786 kA787 .char (2 : Int32) [(.int (nar .char ((p1 &&& (255 : Int32)).toUInt32.toUInt16.toUInt32.toInt32))), (.int (nar .char ((p2 &&& (255 : Int32)).toUInt32.toUInt16.toUInt32.toInt32)))] (.int 0) := f856.keep K859 nin0
          have f878 : Arv Z h858 a828 kA829 .byte (2 : Int32) [(.int (nar .byte (p3.toInt8.toInt32))), (.int (nar .byte ((p3 >>> ((8 : Int32) &&& 31)).toInt8.toInt32)))] (.int 0) := f857.keep K859 nin0
          show own_G _ _ _ _ _ _ _ _ 160 #[.val (.int p1), .val (.int p2), .val (.int p3), .val (.long p4), .second, .val (.long p5), .second, .val (.int p6), .val (.int ((p1 &&& (255 : Int32)).toUInt32.toUInt16.toUInt32.toInt32)), .val (.int ((p2 &&& (255 : Int32)).toUInt32.toUInt16.toUInt32.toInt32)), .val (.int (2 : Int32)), .val (.int (2 : Int32)), .val (.ref a774), .val (.int (p3.toInt8.toInt32)), .val (.int ((p3 >>> ((8 : Int32) &&& 31)).toInt8.toInt32)), .val (.ref a828), .unset, .unset, .unset, .unset] [(.ref a860)]
          refine own_astore H rfl #[.val (.int p1), .val (.int p2), .val (.int p3), .val (.long p4), .second, .val (.long p5), .second, .val (.int p6), .val (.int ((p1 &&& (255 : Int32)).toUInt32.toUInt16.toUInt32.toInt32)), .val (.int ((p2 &&& (255 : Int32)).toUInt32.toUInt16.toUInt32.toInt32)), .val (.int (2 : Int32)), .val (.int (2 : Int32)), .val (.ref a774), .val (.int (p3.toInt8.toInt32)), .val (.int ((p3 >>> ((8 : Int32) &&& 31)).toInt8.toInt32)), .val (.ref a828), .val (.ref a860), .unset, .unset, .unset] rfl at_160 ?_
          refine own_aload H rfl rfl at_162 ?_
          refine own_invokevirtual H (a := a860) (argsL := []) (rest := []) (rmGurl l Z a0 (own_hw H) h858 n0 a860 a774 f865) f864 (w1 := 45) (w0 := 46) (w5 := 48) (w2 := 47) (w3 := 25) (w4 := 49) rfl rfl rfl rfl rfl rfl own_pd12 rfl 0 (by decide) rfl (by decide) (Nat.le_of_eq rfl) (by decide) (by decide) (by decide) rfl at_164 ?_
          rintro _ _ ⟨rfl, rfl⟩
          show own_G _ _ _ _ _ _ _ _ 167 #[.val (.int p1), .val (.int p2), .val (.int p3), .val (.long p4), .second, .val (.long p5), .second, .val (.int p6), .val (.int ((p1 &&& (255 : Int32)).toUInt32.toUInt16.toUInt32.toInt32)), .val (.int ((p2 &&& (255 : Int32)).toUInt32.toUInt16.toUInt32.toInt32)), .val (.int (2 : Int32)), .val (.int (2 : Int32)), .val (.ref a774), .val (.int (p3.toInt8.toInt32)), .val (.int ((p3 >>> ((8 : Int32) &&& 31)).toInt8.toInt32)), .val (.ref a828), .val (.ref a860), .unset, .unset, .unset] [(.ref a774)]
          refine own_astore H rfl #[.val (.int p1), .val (.int p2), .val (.int p3), .val (.long p4), .second, .val (.long p5), .second, .val (.int p6), .val (.int ((p1 &&& (255 : Int32)).toUInt32.toUInt16.toUInt32.toInt32)), .val (.int ((p2 &&& (255 : Int32)).toUInt32.toUInt16.toUInt32.toInt32)), .val (.int (2 : Int32)), .val (.int (2 : Int32)), .val (.ref a774), .val (.int (p3.toInt8.toInt32)), .val (.int ((p3 >>> ((8 : Int32) &&& 31)).toInt8.toInt32)), .val (.ref a828), .val (.ref a860), .val (.ref a774), .unset, .unset] rfl at_167 ?_
          refine own_aload H rfl rfl at_169 ?_
          refine own_ifnull_f H at_171 rfl (fun h => nomatch h) ?_
          refine own_aload H rfl rfl at_174 ?_
          refine own_aload H rfl rfl at_176 ?_
          refine own_invokevirtual H (a := a774) (argsL := [(.ref a774)]) (rest := []) (rmEqu l Z a0 (own_hw H) h858 n0 a774 a774 rfl) f876 (w1 := 50) (w0 := 51) (w5 := 53) (w2 := 52) (w3 := 3) (w4 := 54) rfl rfl rfl rfl rfl rfl own_pd16 rfl 0 (by decide) rfl (by decide) (Nat.le_of_eq rfl) (by decide) (by decide) (by decide) rfl at_178 ?_
          rintro _ _ ⟨rfl, rfl⟩
          show own_G _ _ _ _ _ _ _ _ 181 #[.val (.int p1), .val (.int p2), .val (.int p3), .val (.long p4), .second, .val (.long p5), .second, .val (.int p6), .val (.int ((p1 &&& (255 : Int32)).toUInt32.toUInt16.toUInt32.toInt32)), .val (.int ((p2 &&& (255 : Int32)).toUInt32.toUInt16.toUInt32.toInt32)), .val (.int (2 : Int32)), .val (.int (2 : Int32)), .val (.ref a774), .val (.int (p3.toInt8.toInt32)), .val (.int ((p3 >>> ((8 : Int32) &&& 31)).toInt8.toInt32)), .val (.ref a828), .val (.ref a860), .val (.ref a774), .unset, .unset] [(.int (1 : Int32))]
          refine own_ifne_t H (pc' := 186) at_181 (by decide) (by decide) (by decide) ?_
          refine own_aload H rfl rfl at_186 ?_
          refine own_invokevirtual H (a := a860) (argsL := []) (rest := []) (rmGpayloadJson l Z a0 (own_hw H) h858 n0 a860 a828 f866) f864 (w1 := 55) (w0 := 56) (w5 := 58) (w2 := 57) (w3 := 25) (w4 := 59) rfl rfl rfl rfl rfl rfl own_pd13 rfl 0 (by decide) rfl (by decide) (Nat.le_of_eq rfl) (by decide) (by decide) (by decide) rfl at_188 ?_
          rintro _ _ ⟨rfl, rfl⟩
          show own_G _ _ _ _ _ _ _ _ 191 #[.val (.int p1), .val (.int p2), .val (.int p3), .val (.long p4), .second, .val (.long p5), .second, .val (.int p6), .val (.int ((p1 &&& (255 : Int32)).toUInt32.toUInt16.toUInt32.toInt32)), .val (.int ((p2 &&& (255 : Int32)).toUInt32.toUInt16.toUInt32.toInt32)), .val (.int (2 : Int32)), .val (.int (2 : Int32)), .val (.ref a774), .val (.int (p3.toInt8.toInt32)), .val (.int ((p3 >>> ((8 : Int32) &&& 31)).toInt8.toInt32)), .val (.ref a828), .val (.ref a860), .val (.ref a774), .unset, .unset] [(.ref a828)]
          refine own_astore H rfl #[.val (.int p1), .val (.int p2), .val (.int p3), .val (.long p4), .second, .val (.long p5), .second, .val (.int p6), .val (.int ((p1 &&& (255 : Int32)).toUInt32.toUInt16.toUInt32.toInt32)), .val (.int ((p2 &&& (255 : Int32)).toUInt32.toUInt16.toUInt32.toInt32)), .val (.int (2 : Int32)), .val (.int (2 : Int32)), .val (.ref a774), .val (.int (p3.toInt8.toInt32)), .val (.int ((p3 >>> ((8 : Int32) &&& 31)).toInt8.toInt32)), .val (.ref a828), .val (.ref a860), .val (.ref a774), .val (.ref a828), .unset] rfl at_191 ?_
          refine own_aload H rfl rfl at_193 ?_
          refine own_ifnull_f H at_195 rfl (fun h => nomatch h) ?_
          refine own_aload H rfl rfl at_198 ?_
          refine own_arraylengthV H f878 at_200 ?_
          refine own_iload H rfl at_201 ?_
          refine own_icmpeq_t H (pc' := 208) at_203 (by decide) (by decide) (by decide) ?_
          refine own_iload H rfl at_208 ?_
          refine own_iconst H (1 : Int32) (by decide) at_210 ?_
          refine own_icmplt_f H at_211 (by decide) ?_
          refine own_aload H rfl rfl at_214 ?_
          refine own_iconst H (0 : Int32) (by decide) at_216 ?_
          refine own_baloadV H f878 (by decide) (by decide) rfl at_217 ?_
          refine own_iload H rfl at_218 ?_
          refine own_icmpeq_t H (pc' := 225) at_220 (by decide) (by decide) (own_nbi _) ?_
          refine own_iload H rfl at_225 ?_
          refine own_iconst H (2 : Int32) (by decide) at_227 ?_
          refine own_icmpne_f H at_228 (by decide) ?_
          refine own_aload H rfl rfl at_231 ?_
          refine own_iconst H (1 : Int32) (by decide) at_233 ?_
          refine own_baloadV H f878 (by decide) (by decide) rfl at_234 ?_
          refine own_iload H rfl at_235 ?_
          refine own_icmpeq_t H (pc' := 242) at_237 (by decide) (by decide) (own_nbi _) ?_
          refine own_aload H rfl rfl at_242 ?_
          refine own_invokevirtual H (a := a860) (argsL := []) (rest := []) (rmGsequence l Z a0 (own_hw H) h858 n0 a860 p4 f867) f864 (w1 := 60) (w0 := 61) (w5 := 63) (w2 := 62) (w3 := 25) (w4 := 64) rfl rfl rfl rfl rfl rfl own_pd14 rfl 0 (by decide) rfl (by decide) (Nat.le_of_eq rfl) (by decide) (by decide) (by decide) rfl at_244 ?_
          rintro _ _ ⟨rfl, rfl⟩
          show own_G _ _ _ _ _ _ _ _ 247 #[.val (.int p1), .val (.int p2), .val (.int p3), .val (.long p4), .second, .val (.long p5), .second, .val (.int p6), .val (.int ((p1 &&& (255 : Int32)).toUInt32.toUInt16.toUInt32.toInt32)), .val (.int ((p2 &&& (255 : Int32)).toUInt32.toUInt16.toUInt32.toInt32)), .val (.int (2 : Int32)), .val (.int (2 : Int32)), .val (.ref a774), .val (.int (p3.toInt8.toInt32)), .val (.int ((p3 >>> ((8 : Int32) &&& 31)).toInt8.toInt32)), .val (.ref a828), .val (.ref a860), .val (.ref a774), .val (.ref a828), .unset] [(.long p4)]
          refine own_lload_n H rfl at_247 ?_
          refine own_lcmpeq_t H (pc' := 254) at_248 at_249 (by decide) (by decide) rfl ?_
          refine own_aload H rfl rfl at_254 ?_
          refine own_invokevirtual H (a := a860) (argsL := []) (rest := []) (rmGattempts l Z a0 (own_hw H) h858 n0 a860 (0 : Int32) f868) f864 (w1 := 65) (w0 := 66) (w5 := 68) (w2 := 67) (w3 := 25) (w4 := 69) rfl rfl rfl rfl rfl rfl own_pd15 rfl 0 (by decide) rfl (by decide) (Nat.le_of_eq rfl) (by decide) (by decide) (by decide) rfl at_256 ?_
          rintro _ _ ⟨rfl, rfl⟩
          show own_G _ _ _ _ _ _ _ _ 259 #[.val (.int p1), .val (.int p2), .val (.int p3), .val (.long p4), .second, .val (.long p5), .second, .val (.int p6), .val (.int ((p1 &&& (255 : Int32)).toUInt32.toUInt16.toUInt32.toInt32)), .val (.int ((p2 &&& (255 : Int32)).toUInt32.toUInt16.toUInt32.toInt32)), .val (.int (2 : Int32)), .val (.int (2 : Int32)), .val (.ref a774), .val (.int (p3.toInt8.toInt32)), .val (.int ((p3 >>> ((8 : Int32) &&& 31)).toInt8.toInt32)), .val (.ref a828), .val (.ref a860), .val (.ref a774), .val (.ref a828), .unset] [(.int (0 : Int32))]
          refine own_ifeq_t H (pc' := 264) at_259 (by decide) (by decide) (by decide) ?_
          refine own_aload H rfl rfl at_264 ?_
          refine own_invokevirtual H (a := a860) (argsL := []) (rest := []) (rmGlastError l Z a0 (own_hw H) h858 n0 a860 f870) f864 (w1 := 70) (w0 := 71) (w5 := 73) (w2 := 72) (w3 := 25) (w4 := 74) rfl rfl rfl rfl rfl rfl own_pd12 rfl 0 (by decide) rfl (by decide) (Nat.le_of_eq rfl) (by decide) (by decide) (by decide) rfl at_266 ?_
          rintro _ _ ⟨rfl, rfl⟩
          show own_G _ _ _ _ _ _ _ _ 269 #[.val (.int p1), .val (.int p2), .val (.int p3), .val (.long p4), .second, .val (.long p5), .second, .val (.int p6), .val (.int ((p1 &&& (255 : Int32)).toUInt32.toUInt16.toUInt32.toInt32)), .val (.int ((p2 &&& (255 : Int32)).toUInt32.toUInt16.toUInt32.toInt32)), .val (.int (2 : Int32)), .val (.int (2 : Int32)), .val (.ref a774), .val (.int (p3.toInt8.toInt32)), .val (.int ((p3 >>> ((8 : Int32) &&& 31)).toInt8.toInt32)), .val (.ref a828), .val (.ref a860), .val (.ref a774), .val (.ref a828), .unset] [.null]
          refine own_ifnull_t H (pc' := 274) at_269 (by decide) (by decide) rfl rfl ?_
          refine own_aload H rfl rfl at_274 ?_
          refine own_lload H rfl at_276 ?_
          refine own_invokevirtual H (a := a860) (argsL := [(.long p5)]) (rest := []) (rmAtt l Z a0 (own_hw H) h858 n0 a860 p5 a774 a828 p4 f874 f865 f866 f867 f868 f870) f864 (w1 := 75) (w0 := 76) (w5 := 78) (w2 := 77) (w3 := 25) (w4 := 79) rfl rfl rfl rfl rfl rfl own_pd11 rfl 0 (by decide) rfl (by decide) (Nat.le_of_eq rfl) (by decide) (by decide) (by decide) rfl at_278 ?_
          rintro _ h879 ⟨a881, rfl, K880, f882, f883, f884, f885, f886, f887⟩
          have f888 : a774 ≠ a881 := Nat.ne_of_lt (Nat.lt_of_lt_of_le f876.lt f883)
          have f889 : a786 ≠ a881 := Nat.ne_of_lt (Nat.lt_of_lt_of_le f877.lt f883)
          have f890 : a828 ≠ a881 := Nat.ne_of_lt (Nat.lt_of_lt_of_le f878.lt f883)
          have f891 : a860 ≠ a881 := Nat.ne_of_lt (Nat.lt_of_lt_of_le f864.lt f883)
          have f892 : n0 ≤ h879.size := Nat.le_trans f874 K880.1
          have f893 : Old Z n0 h879 := f875.keep K880 all0
          have f894 : Exa Z h879 a774 "java/lang/String" := f876.keep K880
          have f895 : Arv Z h879 a786 kA787 .char (2 : Int32) [(.int (nar .char ((p1 &&& (255 : Int32)).toUInt32.toUInt16.toUInt32.toInt32))), (.int (nar .char ((p2 &&& (255 : Int32)).toUInt32.toUInt16.toUInt32.toInt32)))] (.int 0) := f877.keep K880 nin0
          have f896 : Arv Z h879 a828 kA829 .byte (2 : Int32) [(.int (nar .byte (p3.toInt8.toInt32))), (.int (nar .byte ((p3 >>> ((8 : Int32) &&& 31)).toInt8.toInt32)))] (.int 0) := f878.keep K880 nin0
          have f897 : Exa Z h879 a860 "com/example/ring_to_run/ringtorun/service/Callback" := f864.keep K880
          have f898 : Fld Z h879 a860 "com/example/ring_to_run/ringtorun/service/Callback" "url" "Ljava/lang/String;" (.ref a774) := f865.keep K880 nin0
          have f899 : Fld Z h879 a860 "com/example/ring_to_run/ringtorun/service/Callback" "payloadJson" "[B" (.ref a828) := f866.keep K880 nin0
          have f900 : Fld Z h879 a860 "com/example/ring_to_run/ringtorun/service/Callback" "sequence" "J" (.long p4) := f867.keep K880 nin0
          have f901 : Fld Z h879 a860 "com/example/ring_to_run/ringtorun/service/Callback" "attempts" "I" (.int (0 : Int32)) := f868.keep K880 nin0
          have f902 : Fld Z h879 a860 "com/example/ring_to_run/ringtorun/service/Callback" "dueAt" "J" (.long (0 : Int64)) := f869.keep K880 nin0
          have f903 : Fld Z h879 a860 "com/example/ring_to_run/ringtorun/service/Callback" "lastError" "Ljava/lang/String;" .null := f870.keep K880 nin0
          show own_G _ _ _ _ _ _ _ _ 281 #[.val (.int p1), .val (.int p2), .val (.int p3), .val (.long p4), .second, .val (.long p5), .second, .val (.int p6), .val (.int ((p1 &&& (255 : Int32)).toUInt32.toUInt16.toUInt32.toInt32)), .val (.int ((p2 &&& (255 : Int32)).toUInt32.toUInt16.toUInt32.toInt32)), .val (.int (2 : Int32)), .val (.int (2 : Int32)), .val (.ref a774), .val (.int (p3.toInt8.toInt32)), .val (.int ((p3 >>> ((8 : Int32) &&& 31)).toInt8.toInt32)), .val (.ref a828), .val (.ref a860), .val (.ref a774), .val (.ref a828), .unset] [(.ref a881)]
          refine own_astore H rfl #[.val (.int p1), .val (.int p2), .val (.int p3), .val (.long p4), .second, .val (.long p5), .second, .val (.int p6), .val (.int ((p1 &&& (255 : Int32)).toUInt32.toUInt16.toUInt32.toInt32)), .val (.int ((p2 &&& (255 : Int32)).toUInt32.toUInt16.toUInt32.toInt32)), .val (.int (2 : Int32)), .val (.int (2 : Int32)), .val (.ref a774), .val (.int (p3.toInt8.toInt32)), .val (.int ((p3 >>> ((8 : Int32) &&& 31)).toInt8.toInt32)), .val (.ref a828), .val (.ref a860), .val (.ref a774), .val (.ref a828), .val (.ref a881)] rfl at_281 ?_
          refine own_aload H rfl rfl at_283 ?_
          refine own_invokevirtual H (a := a881) (argsL := []) (rest := []) (rmGattempts l Z a0 (own_hw H) h879 n0 a881 (1 : Int32) f886) f885 (w1 := 65) (w0 := 66) (w5 := 68) (w2 := 67) (w3 := 25) (w4 := 69) rfl rfl rfl rfl rfl rfl own_pd15 rfl 0 (by decide) rfl (by decide) (Nat.le_of_eq rfl) (by decide) (by decide) (by decide) rfl at_285 ?_
          rintro _ _ ⟨rfl, rfl⟩
          show own_G _ _ _ _ _ _ _ _ 288 #[.val (.int p1), .val (.int p2), .val (.int p3), .val (.long p4), .second, .val (.long p5), .second, .val (.int p6), .val (.int ((p1 &&& (255 : Int32)).toUInt32.toUInt16.toUInt32.toInt32)), .val (.int ((p2 &&& (255 : Int32)).toUInt32.toUInt16.toUInt32.toInt32)), .val (.int (2 : Int32)), .val (.int (2 : Int32)), .val (.ref a774), .val (.int (p3.toInt8.toInt32)), .val (.int ((p3 >>> ((8 : Int32) &&& 31)).toInt8.toInt32)), .val (.ref a828), .val (.ref a860), .val (.ref a774), .val (.ref a828), .val (.ref a881)] [(.int (1 : Int32))]
          refine own_iconst H (1 : Int32) (by decide) at_288 ?_
          refine own_icmpne_f H at_289 (by decide) ?_
          refine own_aload H rfl rfl at_292 ?_
          refine own_invokevirtual H (a := a881) (argsL := []) (rest := []) (rmGdueAt l Z a0 (own_hw H) h879 n0 a881 p5 f887) f885 (w1 := 80) (w0 := 81) (w5 := 83) (w2 := 82) (w3 := 25) (w4 := 84) rfl rfl rfl rfl rfl rfl own_pd14 rfl 0 (by decide) rfl (by decide) (Nat.le_of_eq rfl) (by decide) (by decide) (by decide) rfl at_294 ?_
          rintro _ _ ⟨rfl, rfl⟩
          show own_G _ _ _ _ _ _ _ _ 297 #[.val (.int p1), .val (.int p2), .val (.int p3), .val (.long p4), .second, .val (.long p5), .second, .val (.int p6), .val (.int ((p1 &&& (255 : Int32)).toUInt32.toUInt16.toUInt32.toInt32)), .val (.int ((p2 &&& (255 : Int32)).toUInt32.toUInt16.toUInt32.toInt32)), .val (.int (2 : Int32)), .val (.int (2 : Int32)), .val (.ref a774), .val (.int (p3.toInt8.toInt32)), .val (.int ((p3 >>> ((8 : Int32) &&& 31)).toInt8.toInt32)), .val (.ref a828), .val (.ref a860), .val (.ref a774), .val (.ref a828), .val (.ref a881)] [(.long p5)]
          refine own_lload H rfl at_297 ?_
          refine own_lcmpne_f H at_299 at_300 rfl ?_
          refine own_iconst H (1 : Int32) (by decide) at_303 ?_
          refine own_goto H (pc' := 308) at_304 (by decide) (by decide) ?_
          exact own_ireturn H (by simp) (by decide) at_308 (by decide) (by decide) rfl
set_option maxHeartbeats 40000000 in
theorem comes_1 {Post : Tables → Env → Array Value → State → Outcome → State → Prop} (hpost : ∀ tb e args s v u, (limb_1_1.after args s (.returned v) u = true ∧ limb_1_2.after args s (.returned v) u = true ∧ True) → ReturnedEndW s (.returned v) u (Jvm.fieldLocs frame_1_writes args s ++ Jvm.arrayLocs frame_1_arrays args s ++ Jvm.staticLocs frame_1_statics s) 24 1152 → Post tb e args s (.returned v) u) :
    ArmFor flags0 classFile x code maxLocals ret World_1 tables_1 room_1 Calls_1 rest_1 Pre_1 Post := by
  intro l hfl _ _ p e ha hc hk s m args below hf hA hF happ hP
  obtain ⟨hcalls, hrest, hpre⟩ := hP
  obtain ⟨-, -, -, hnamed, -, -, -, hat⟩ := (Spec.applies_iff hf).mp happ
  obtain ⟨hg, hn⟩ := and_e (Cond.before_iff.mp (show (Jvm.Cond.and given_1 narrow_1).before args s = true from hpre))
  obtain ⟨h1, g0⟩ := and_e hg
  obtain ⟨w0, w1, w2, w3, w4, w5, rfl⟩ : ∃ w0 w1 w2 w3 w4 w5 : Value, args = #[w0, w1, w2, w3, w4, w5] := by
    have hs : args.size = 6 := by simpa [Cond.value, given_1] using h1
    obtain ⟨L⟩ := args
    match L, hs with
    | [w0, w1, w2, w3, w4, w5], _ => exact ⟨w0, w1, w2, w3, w4, w5, rfl⟩
  have hw := fun d (hd : d ∈ tables_1) => atoms_spec (ws := Jvm.Cond.code x code maxLocals ret :: tables_1) hat d (List.mem_cons_of_mem _ hd)
  have hw' : ∀ (i : Nat) (d : Jvm.Cond), tables_1[i]? = some d → d.before _ s = true := fun i d q => hw d (List.mem_of_getElem? q)
  obtain ⟨u0, g1⟩ := and_e g0
  obtain ⟨i0, e0⟩ := is_v u0
  obtain rfl : w0 = (.int i0) := Option.some.inj e0
  obtain ⟨u1, g2⟩ := and_e g1
  obtain ⟨i1, e1⟩ := is_v u1
  obtain rfl : w1 = (.int i1) := Option.some.inj e1
  obtain ⟨u2, g3⟩ := and_e g2
  obtain ⟨i2, e2⟩ := is_v u2
  obtain rfl : w2 = (.int i2) := Option.some.inj e2
  obtain ⟨u3, g4⟩ := and_e g3
  obtain ⟨i3, e3⟩ := isL_v u3
  obtain rfl : w3 = (.long i3) := Option.some.inj e3
  obtain ⟨u4, g5⟩ := and_e g4
  obtain ⟨i4, e4⟩ := isL_v u4
  obtain rfl : w4 = (.long i4) := Option.some.inj e4
  obtain ⟨i5, e5⟩ := is_v g5
  obtain rfl : w5 = (.int i5) := Option.some.inj e5
  have hr : rest_1_c.before _ s = true := hrest
  simp only [rest_1_c, Cond.before_and, Bool.and_eq_true] at hr
  obtain ⟨hr0, hr1, hr2, -⟩ := hr
  obtain ⟨cs, ev⟩ := is_v (Cond.before_iff.mp hr1)
  have hS := Sta.start ev (Or.inl hr0)
  have hcs : ¬ cs = 0 := by
    intro q
    subst q
    have hr3 := Cond.before_iff.mp hr2
    simp [Cond.value, ev, Term.int_eval] at hr3
  have hh : Jvm.Lit.constHeld s "java/lang/String" 7 := hcalls.1 ("java/lang/String", 7) (by simp [consts_1])
  obtain ⟨n, o, h1, h2, h3, _, L, rfl, ⟨rfl, N⟩, hq⟩ := rm0 l s _ hw' tables_1 s.heap s.heap.size i0 i1 i2 i3 i4 i5 (Nat.le_refl _) (Old.start s) cs hcs hS hh hr2 p e ha hc hk s m _ below hf ((Spec.applies_iff_loose hf).mp happ).1 ⟨rfl, State.Warmed39.refl s, rfl, IB.start⟩ trivial
  refine ⟨n, _, h1, h2, h3, hpost _ _ _ _ _ _ ⟨Cond.after_iff.mpr rfl, Cond.after_iff.mpr (eq_i res_at (Term.int_eval (1)) (rfl)), trivial⟩ ⟨hq.1, hq.2.1, hq.2.2.1, (hq.2.2.2.sift fun y hy => Or.inr (N y hy)).mono (by decide) (by decide)⟩⟩
theorem main_1_1 : Claimed_1_1 := comes_1 fun _ _ _ _ _ _ h hF => ⟨h.1, hF⟩
theorem main_1_2 : Claimed_1_2 := comes_1 fun _ _ _ _ _ _ h hF => ⟨h.2.1, hF⟩
end Jvm.Pilot.@@N@@
namespace Jvm.Pilot.@@N@@
open Jvm Jvm.ClassFile Sem Op Lib Jvm.Free Jvm.Stand Jvm.Pilot.@@N@@.Jvm.D
/-! MADE BY PROGRAM (witnessworld.py) out of the Statement's table words and the real class files: 20 classes; the members and pool entries that the words name. The judged class is class 1, her method 1. -/
namespace start1
open Jvm.ClassFile
def u (s : String) : CpInfo := .utf8 (stringToUtf16 s)
/-- a pool by its gaps: so many unusable entries, then the entry; so many at the end -/
def gap : Nat → List CpInfo → List CpInfo
  | 0, r => r
  | n + 1, r => .unusable :: gap n r
def poolList (es : List (Nat × CpInfo)) (last : Nat) : List CpInfo := es.foldr (fun e r => gap e.1 (e.2 :: r)) (gap last [])
def pool (es : List (Nat × CpInfo)) (last : Nat) : Array CpInfo := ⟨poolList es last⟩
def fileOf (pool : Array CpInfo) (this : Nat) (attrs : Array Attribute := #[]) (ms : Array MethodInfo := #[]) (fl : Nat := 33) (sup : Nat := 0) (ifs : Array Nat := #[]) (fds : Array FieldInfo := #[]) : ClassFile where
  minorVersion := 0
  majorVersion := 65
  constantPool := pool
  accessFlags := fl
  thisClass := this
  superClass := sup
  interfaces := ifs
  fields := fds
  methods := ms
  attributes := attrs
def plain (name : String) (sup : Option ClassId) : Class where
  name := name
  kind := .ordinary
  loader := none
  accessFlags := 33
  super := sup
  interfaces := #[]
  cf := none
  fields := #[]
  methods := #[]
  instanceTypes := #[]
  staticTypes := #[]
  resolved := #[]
  callSites := []
  init := .initialized
  statics := none
  mirror := none

def pool0 : Array CpInfo := pool [(5, u "<init>"), (0, u "()V"), (1, .class_ 10), (1, u "java/lang/Object")] 113

def k0c0 : Code := { maxStack := 0, maxLocals := 1, code := object_method_1_code, exceptionTable := #[], attributes := #[] }
def k0m0 : Method := { name := "<init>", desc := "()V", sig := { parameters := [], returnType := none }, accessFlags := 1, code := some k0c0 }
/-- java/lang/Object -/
def k0 : Class := { plain "java/lang/Object" none with
  accessFlags := 33
  interfaces := #[]
  cf := some (fileOf pool0 8 #[] #[{ accessFlags := 1, nameIndex := 5, descriptorIndex := 6, attributes := #[] }] 33 0 #[] #[])
  fields := #[]
  methods := #[k0m0]
  instanceTypes := #[]
  staticTypes := #[]
  resolved := Array.replicate 124 none
  statics := none }

def pool1 : Array CpInfo := pool [(2, .class_ 4), (1, u "java/lang/Object"), (0, u "<init>"), (0, u "()V"), (0, .integer 2147483647), (0, .class_ 9), (0, u "java/lang/String"), (0, .methodref 8 11), (0, .nameAndType 5 12), (0, u "([C)V"), (0, .methodref 8 14), (0, .nameAndType 15 16), (0, u "valueOf"), (0, u "(C)Ljava/lang/String;"), (0, .methodref 18 19), (0, .class_ 20), (0, .nameAndType 21 22), (0, u "com/example/ring_to_run/ringtorun/service/Callback"), (0, u "posted"), (0, u "(Ljava/lang/String;[BJ)Lcom/example/ring_to_run/ringtorun/service/Callback;"), (0, .methodref 18 24), (0, .nameAndType 25 26), (0, u "url"), (0, u "()Ljava/lang/String;"), (0, .methodref 8 28), (0, .nameAndType 29 30), (0, u "equals"), (0, u "(Ljava/lang/Object;)Z"), (0, .methodref 18 32), (0, .nameAndType 33 34), (0, u "payloadJson"), (0, u "()[B"), (0, .methodref 18 36), (0, .nameAndType 37 38), (0, u "sequence"), (0, u "()J"), (0, .methodref 18 40), (0, .nameAndType 41 42), (0, u "attempts"), (0, u "()I"), (0, .methodref 18 44), (0, .nameAndType 45 26), (0, u "lastError"), (0, .methodref 18 47), (0, .nameAndType 48 49), (0, u "attempting"), (0, u "(J)Lcom/example/ring_to_run/ringtorun/service/Callback;"), (0, .methodref 18 51), (0, .nameAndType 52 38), (0, u "dueAt"), (0, .class_ 54), (0, u "com/example/ring_to_run/ringtorun/service/CallbackPostedPinLaw"), (2, u "law"), (0, u "(IIIJJI)Z")] 5

def k1m0 : Method := { name := "<init>", desc := "()V", sig := { parameters := [], returnType := none }, accessFlags := 1, code := none }
def k1c1 : Code := { maxStack := 6, maxLocals := 20, code := code, exceptionTable := #[], attributes := #[] }
def k1m1 : Method := { name := "law", desc := "(IIIJJI)Z", sig := { parameters := [.int, .int, .int, .long, .long, .int], returnType := some .boolean }, accessFlags := 9, code := some k1c1 }
/-- com/example/ring_to_run/ringtorun/service/CallbackPostedPinLaw -/
def k1 : Class := { plain "com/example/ring_to_run/ringtorun/service/CallbackPostedPinLaw" (some 0) with
  accessFlags := 49
  interfaces := #[]
  cf := some (fileOf pool1 53 #[] #[{ accessFlags := 1, nameIndex := 5, descriptorIndex := 6, attributes := #[] }, { accessFlags := 9, nameIndex := 57, descriptorIndex := 58, attributes := #[] }] 49 2 #[] #[])
  fields := #[]
  methods := #[k1m0, k1m1]
  instanceTypes := #[]
  staticTypes := #[]
  resolved := Array.replicate 64 none
  statics := none }

def pool2 : Array CpInfo := pool [(1, .class_ 2), (0, u "java/io/Serializable"), (0, .class_ 4), (0, u "java/lang/Object")] 2

/-- java/io/Serializable -/
def k2 : Class := { plain "java/io/Serializable" (some 0) with
  accessFlags := 1537
  interfaces := #[]
  cf := some (fileOf pool2 1 #[] #[] 1537 3 #[] #[])
  fields := #[]
  methods := #[]
  instanceTypes := #[]
  staticTypes := #[]
  resolved := Array.replicate 7 none
  statics := none }

def pool3 : Array CpInfo := pool [(1, .class_ 2), (0, u "java/lang/Comparable"), (0, .class_ 4), (0, u "java/lang/Object")] 7

/-- java/lang/Comparable -/
def k3 : Class := { plain "java/lang/Comparable" (some 0) with
  accessFlags := 1537
  interfaces := #[]
  cf := some (fileOf pool3 1 #[] #[] 1537 3 #[] #[])
  fields := #[]
  methods := #[]
  instanceTypes := #[]
  staticTypes := #[]
  resolved := Array.replicate 12 none
  statics := none }

def pool4 : Array CpInfo := pool [(2, .class_ 4), (1, u "java/lang/CharSequence"), (42, .class_ 48), (0, u "java/lang/CharSequence$1CodePointIterator"), (10, .class_ 60), (0, u "java/lang/CharSequence$1CharIterator"), (5, .class_ 67), (0, u "java/lang/Object")] 63

/-- java/lang/CharSequence -/
def k4 : Class := { plain "java/lang/CharSequence" (some 0) with
  accessFlags := 1537
  interfaces := #[]
  cf := some (fileOf pool4 2 #[.nestMembers #[47, 59]] #[] 1537 66 #[] #[])
  fields := #[]
  methods := #[]
  instanceTypes := #[]
  staticTypes := #[]
  resolved := Array.replicate 131 none
  statics := none }

def pool5 : Array CpInfo := pool [(1, .class_ 2), (0, u "java/lang/constant/Constable"), (0, .class_ 4), (0, u "java/lang/Object")] 6

/-- java/lang/constant/Constable -/
def k5 : Class := { plain "java/lang/constant/Constable" (some 0) with
  accessFlags := 1537
  interfaces := #[]
  cf := some (fileOf pool5 1 #[] #[] 1537 3 #[] #[])
  fields := #[]
  methods := #[]
  instanceTypes := #[]
  staticTypes := #[]
  resolved := Array.replicate 11 none
  statics := none }

def pool6 : Array CpInfo := pool [(1, .class_ 2), (0, u "java/lang/constant/ConstantDesc"), (0, .class_ 4), (0, u "java/lang/Object")] 32

/-- java/lang/constant/ConstantDesc -/
def k6 : Class := { plain "java/lang/constant/ConstantDesc" (some 0) with
  accessFlags := 1537
  interfaces := #[]
  cf := some (fileOf pool6 1 #[] #[] 1537 3 #[] #[])
  fields := #[]
  methods := #[]
  instanceTypes := #[]
  staticTypes := #[]
  resolved := Array.replicate 37 none
  statics := none }

def pool7 : Array CpInfo := pool [(1, .methodref 2 3), (0, .class_ 4), (0, .nameAndType 5 6), (0, u "java/lang/Object"), (0, u "<init>"), (0, u "()V"), (0, .string 8), (0, u ""), (0, .fieldref 10 11), (0, .class_ 12), (0, .nameAndType 13 14), (0, u "java/lang/String"), (0, u "value"), (0, u "[B"), (0, .fieldref 10 16), (0, .nameAndType 17 18), (0, u "coder"), (0, u "B"), (2, u "hash"), (0, u "I"), (2, u "hashIsZero"), (0, u "Z"), (0, .methodref 10 28), (0, .nameAndType 5 29), (0, u "([CIILjava/lang/Void;)V"), (8, .fieldref 10 39), (0, .nameAndType 40 26), (0, u "COMPACT_STRINGS"), (1, .class_ 44), (1, u "java/lang/StringUTF16"), (0, u "compress"), (1, .methodref 42 48), (0, .nameAndType 49 50), (0, u "coderFromArrayLen"), (0, u "([BI)B"), (2, u "toBytes"), (53, .class_ 109), (1, u "java/lang/StringLatin1"), (67, .methodref 42 178), (0, .nameAndType 45 179), (0, u "([CII)[B"), (29, .methodref 10 210), (0, .nameAndType 5 211), (0, u "([BB)V"), (157, u "(C)Z"), (173, u "equals"), (29, u "(Ljava/lang/Object;)Z"), (1, .class_ 576), (0, u "java/lang/CharSequence"), (22, u "CASE_INSENSITIVE_ORDER"), (0, u "Ljava/util/Comparator;"), (181, u "valueOf"), (0, u "(C)Ljava/lang/String;"), (226, u "([C)V"), (4, .methodref 107 1016), (0, .nameAndType 1017 369), (0, u "canEncode"), (0, .methodref 107 1019), (0, .nameAndType 53 1020), (0, u "(C)[B"), (80, u "serialPersistentFields"), (0, u "[Ljava/io/ObjectStreamField;"), (0, .class_ 1104), (0, u "java/lang/String$CaseInsensitiveComparator"), (1, .class_ 1107), (0, u "java/io/Serializable"), (0, .class_ 1109), (0, u "java/lang/Comparable"), (0, .class_ 1111), (0, u "java/lang/constant/Constable"), (0, .class_ 1113), (0, u "java/lang/constant/ConstantDesc"), (2, u "serialVersionUID"), (0, u "J"), (3, u "REPL"), (0, u "C"), (2, u "LATIN1"), (1, u "UTF16")] 323

def k7m0 : Method := { name := "<init>", desc := "()V", sig := { parameters := [], returnType := none }, accessFlags := 1, code := none }
def k7c1 : Code := { maxStack := 5, maxLocals := 2, code := jdk_42_method_3_code, exceptionTable := #[], attributes := #[] }
def k7m1 : Method := { name := "<init>", desc := "([C)V", sig := { parameters := [(.array .char)], returnType := none }, accessFlags := 1, code := some k7c1 }
def k7c2 : Code := { maxStack := 2, maxLocals := 3, code := jdk_42_method_66_code, exceptionTable := #[], attributes := #[] }
def k7m2 : Method := { name := "equals", desc := "(Ljava/lang/Object;)Z", sig := { parameters := [(.object "java/lang/Object")], returnType := some .boolean }, accessFlags := 1, code := some k7c2 }
def k7c3 : Code := { maxStack := 4, maxLocals := 1, code := jdk_42_method_139_code, exceptionTable := #[], attributes := #[] }
def k7m3 : Method := { name := "valueOf", desc := "(C)Ljava/lang/String;", sig := { parameters := [.char], returnType := some (.object "java/lang/String") }, accessFlags := 9, code := some k7c3 }
def k7c4 : Code := { maxStack := 4, maxLocals := 6, code := jdk_42_method_149_code, exceptionTable := #[], attributes := #[] }
def k7m4 : Method := { name := "<init>", desc := "([CIILjava/lang/Void;)V", sig := { parameters := [(.array .char), .int, .int, (.object "java/lang/Void")], returnType := none }, accessFlags := 2, code := some k7c4 }
def k7c5 : Code := { maxStack := 2, maxLocals := 3, code := jdk_42_method_151_code, exceptionTable := #[], attributes := #[] }
def k7m5 : Method := { name := "<init>", desc := "([BB)V", sig := { parameters := [(.array .byte), .byte], returnType := none }, accessFlags := 0, code := some k7c5 }
/-- java/lang/String -/
def k7 : Class := { plain "java/lang/String" (some 0) with
  accessFlags := 49
  interfaces := #[2, 3, 4, 5, 6]
  cf := some (fileOf pool7 10 #[.nestMembers #[1103]] #[{ accessFlags := 1, nameIndex := 5, descriptorIndex := 6, attributes := #[] }, { accessFlags := 1, nameIndex := 5, descriptorIndex := 1010, attributes := #[] }, { accessFlags := 1, nameIndex := 543, descriptorIndex := 573, attributes := #[] }, { accessFlags := 9, nameIndex := 782, descriptorIndex := 783, attributes := #[] }, { accessFlags := 2, nameIndex := 5, descriptorIndex := 29, attributes := #[] }, { accessFlags := 0, nameIndex := 5, descriptorIndex := 211, attributes := #[] }] 49 2 #[1106, 1108, 575, 1110, 1112] #[{ accessFlags := 18, nameIndex := 13, descriptorIndex := 14, attributes := #[] }, { accessFlags := 18, nameIndex := 17, descriptorIndex := 18, attributes := #[] }, { accessFlags := 2, nameIndex := 21, descriptorIndex := 22, attributes := #[] }, { accessFlags := 2, nameIndex := 25, descriptorIndex := 26, attributes := #[] }, { accessFlags := 26, nameIndex := 1116, descriptorIndex := 1117, attributes := #[] }, { accessFlags := 24, nameIndex := 40, descriptorIndex := 26, attributes := #[] }, { accessFlags := 26, nameIndex := 1101, descriptorIndex := 1102, attributes := #[] }, { accessFlags := 26, nameIndex := 1121, descriptorIndex := 1122, attributes := #[] }, { accessFlags := 25, nameIndex := 599, descriptorIndex := 600, attributes := #[] }, { accessFlags := 24, nameIndex := 1125, descriptorIndex := 18, attributes := #[] }, { accessFlags := 24, nameIndex := 1127, descriptorIndex := 18, attributes := #[] }])
  fields := #[{ name := "value", type := (.array .byte), accessFlags := 18, slot := 0, constantValue := 0 }, { name := "coder", type := .byte, accessFlags := 18, slot := 1, constantValue := 0 }, { name := "hash", type := .int, accessFlags := 2, slot := 2, constantValue := 0 }, { name := "hashIsZero", type := .boolean, accessFlags := 2, slot := 3, constantValue := 0 }, { name := "serialVersionUID", type := .long, accessFlags := 26, slot := 0, constantValue := 0 }, { name := "COMPACT_STRINGS", type := .boolean, accessFlags := 24, slot := 1, constantValue := 0 }, { name := "serialPersistentFields", type := (.array (.object "java/io/ObjectStreamField")), accessFlags := 26, slot := 2, constantValue := 0 }, { name := "REPL", type := .char, accessFlags := 26, slot := 3, constantValue := 0 }, { name := "CASE_INSENSITIVE_ORDER", type := (.object "java/util/Comparator"), accessFlags := 25, slot := 4, constantValue := 0 }, { name := "LATIN1", type := .byte, accessFlags := 24, slot := 5, constantValue := 0 }, { name := "UTF16", type := .byte, accessFlags := 24, slot := 6, constantValue := 0 }]
  methods := #[k7m0, k7m1, k7m2, k7m3, k7m4, k7m5]
  instanceTypes := #[(.array .byte), .byte, .int, .boolean]
  staticTypes := #[.long, .boolean, (.array (.object "java/io/ObjectStreamField")), .char, (.object "java/util/Comparator"), .byte, .byte]
  resolved := Array.replicate 1451 none
  statics := some 0 }

def pool8 : Array CpInfo := pool [(1, .methodref 2 3), (0, .class_ 4), (0, .nameAndType 5 6), (0, u "java/lang/Object"), (0, u "<init>"), (0, u "()V"), (0, .fieldref 8 9), (0, .class_ 10), (0, .nameAndType 11 12), (0, u "com/example/ring_to_run/ringtorun/service/Callback"), (0, u "url"), (0, u "Ljava/lang/String;"), (0, .fieldref 8 14), (0, .nameAndType 15 16), (0, u "payloadJson"), (0, u "[B"), (0, .fieldref 8 18), (0, .nameAndType 19 20), (0, u "sequence"), (0, u "J"), (0, .fieldref 8 22), (0, .nameAndType 23 24), (0, u "attempts"), (0, u "I"), (0, .fieldref 8 26), (0, .nameAndType 27 20), (0, u "dueAt"), (0, .fieldref 8 29), (0, .nameAndType 30 12), (0, u "lastError"), (0, .methodref 8 32), (0, .nameAndType 5 33), (0, u "(Ljava/lang/String;[BJIJLjava/lang/String;)V"), (9, u "()J"), (3, u "()I"), (20, u "()[B"), (34, u "NO_ERROR"), (4, u "posted"), (0, u "(Ljava/lang/String;[BJ)Lcom/example/ring_to_run/ringtorun/service/Callback;"), (7, u "attempting"), (0, u "(J)Lcom/example/ring_to_run/ringtorun/service/Callback;"), (2, u "()Ljava/lang/String;")] 2

def k8c0 : Code := { maxStack := 3, maxLocals := 9, code := prog_13_method_1_code, exceptionTable := #[], attributes := #[] }
def k8m0 : Method := { name := "<init>", desc := "(Ljava/lang/String;[BJIJLjava/lang/String;)V", sig := { parameters := [(.object "java/lang/String"), (.array .byte), .long, .int, .long, (.object "java/lang/String")], returnType := none }, accessFlags := 2, code := some k8c0 }
def k8c1 : Code := { maxStack := 10, maxLocals := 4, code := prog_13_method_2_code, exceptionTable := #[], attributes := #[] }
def k8m1 : Method := { name := "posted", desc := "(Ljava/lang/String;[BJ)Lcom/example/ring_to_run/ringtorun/service/Callback;", sig := { parameters := [(.object "java/lang/String"), (.array .byte), .long], returnType := some (.object "com/example/ring_to_run/ringtorun/service/Callback") }, accessFlags := 8, code := some k8c1 }
def k8c2 : Code := { maxStack := 10, maxLocals := 3, code := prog_13_method_7_code, exceptionTable := #[], attributes := #[] }
def k8m2 : Method := { name := "attempting", desc := "(J)Lcom/example/ring_to_run/ringtorun/service/Callback;", sig := { parameters := [.long], returnType := some (.object "com/example/ring_to_run/ringtorun/service/Callback") }, accessFlags := 0, code := some k8c2 }
def k8c3 : Code := { maxStack := 1, maxLocals := 1, code := prog_13_method_9_code, exceptionTable := #[], attributes := #[] }
def k8m3 : Method := { name := "url", desc := "()Ljava/lang/String;", sig := { parameters := [], returnType := some (.object "java/lang/String") }, accessFlags := 0, code := some k8c3 }
def k8c4 : Code := { maxStack := 1, maxLocals := 1, code := prog_13_method_10_code, exceptionTable := #[], attributes := #[] }
def k8m4 : Method := { name := "payloadJson", desc := "()[B", sig := { parameters := [], returnType := some (.array .byte) }, accessFlags := 0, code := some k8c4 }
def k8c5 : Code := { maxStack := 2, maxLocals := 1, code := prog_13_method_11_code, exceptionTable := #[], attributes := #[] }
def k8m5 : Method := { name := "sequence", desc := "()J", sig := { parameters := [], returnType := some .long }, accessFlags := 0, code := some k8c5 }
def k8c6 : Code := { maxStack := 1, maxLocals := 1, code := prog_13_method_12_code, exceptionTable := #[], attributes := #[] }
def k8m6 : Method := { name := "attempts", desc := "()I", sig := { parameters := [], returnType := some .int }, accessFlags := 0, code := some k8c6 }
def k8c7 : Code := { maxStack := 2, maxLocals := 1, code := prog_13_method_13_code, exceptionTable := #[], attributes := #[] }
def k8m7 : Method := { name := "dueAt", desc := "()J", sig := { parameters := [], returnType := some .long }, accessFlags := 0, code := some k8c7 }
def k8c8 : Code := { maxStack := 1, maxLocals := 1, code := prog_13_method_14_code, exceptionTable := #[], attributes := #[] }
def k8m8 : Method := { name := "lastError", desc := "()Ljava/lang/String;", sig := { parameters := [], returnType := some (.object "java/lang/String") }, accessFlags := 0, code := some k8c8 }
/-- com/example/ring_to_run/ringtorun/service/Callback -/
def k8 : Class := { plain "com/example/ring_to_run/ringtorun/service/Callback" (some 0) with
  accessFlags := 48
  interfaces := #[]
  cf := some (fileOf pool8 8 #[] #[{ accessFlags := 2, nameIndex := 5, descriptorIndex := 33, attributes := #[] }, { accessFlags := 8, nameIndex := 108, descriptorIndex := 109, attributes := #[] }, { accessFlags := 0, nameIndex := 117, descriptorIndex := 118, attributes := #[] }, { accessFlags := 0, nameIndex := 11, descriptorIndex := 121, attributes := #[] }, { accessFlags := 0, nameIndex := 15, descriptorIndex := 68, attributes := #[] }, { accessFlags := 0, nameIndex := 19, descriptorIndex := 43, attributes := #[] }, { accessFlags := 0, nameIndex := 23, descriptorIndex := 47, attributes := #[] }, { accessFlags := 0, nameIndex := 27, descriptorIndex := 43, attributes := #[] }, { accessFlags := 0, nameIndex := 30, descriptorIndex := 121, attributes := #[] }] 48 2 #[] #[{ accessFlags := 26, nameIndex := 103, descriptorIndex := 24, attributes := #[] }, { accessFlags := 18, nameIndex := 11, descriptorIndex := 12, attributes := #[] }, { accessFlags := 18, nameIndex := 15, descriptorIndex := 16, attributes := #[] }, { accessFlags := 18, nameIndex := 19, descriptorIndex := 20, attributes := #[] }, { accessFlags := 18, nameIndex := 23, descriptorIndex := 24, attributes := #[] }, { accessFlags := 18, nameIndex := 27, descriptorIndex := 20, attributes := #[] }, { accessFlags := 18, nameIndex := 30, descriptorIndex := 12, attributes := #[] }])
  fields := #[{ name := "NO_ERROR", type := .int, accessFlags := 26, slot := 0, constantValue := 0 }, { name := "url", type := (.object "java/lang/String"), accessFlags := 18, slot := 0, constantValue := 0 }, { name := "payloadJson", type := (.array .byte), accessFlags := 18, slot := 1, constantValue := 0 }, { name := "sequence", type := .long, accessFlags := 18, slot := 2, constantValue := 0 }, { name := "attempts", type := .int, accessFlags := 18, slot := 3, constantValue := 0 }, { name := "dueAt", type := .long, accessFlags := 18, slot := 4, constantValue := 0 }, { name := "lastError", type := (.object "java/lang/String"), accessFlags := 18, slot := 5, constantValue := 0 }]
  methods := #[k8m0, k8m1, k8m2, k8m3, k8m4, k8m5, k8m6, k8m7, k8m8]
  instanceTypes := #[(.object "java/lang/String"), (.array .byte), .long, .int, .long, (.object "java/lang/String")]
  staticTypes := #[.int]
  resolved := Array.replicate 124 none
  statics := none }

def pool9 : Array CpInfo := pool [(4, .class_ 6), (1, u "java/lang/Object"), (0, u "<init>"), (0, u "()V"), (5, .class_ 16), (1, u "java/lang/StringLatin1"), (73, u "canEncode"), (14, u "(C)Z"), (15, u "$assertionsDisabled"), (0, u "Z"), (98, .class_ 223), (1, u "java/lang/StringLatin1$LinesSpliterator"), (156, u "toBytes"), (1, u "(C)[B"), (7, .class_ 391), (0, u "java/lang/StringLatin1$CharsSpliterator")] 3

def k9m0 : Method := { name := "<init>", desc := "()V", sig := { parameters := [], returnType := none }, accessFlags := 0, code := none }
def k9c1 : Code := { maxStack := 2, maxLocals := 1, code := jdk_43_method_3_code, exceptionTable := #[], attributes := #[] }
def k9m1 : Method := { name := "canEncode", desc := "(C)Z", sig := { parameters := [.char], returnType := some .boolean }, accessFlags := 9, code := some k9c1 }
def k9c2 : Code := { maxStack := 4, maxLocals := 1, code := jdk_43_method_46_code, exceptionTable := #[], attributes := #[] }
def k9m2 : Method := { name := "toBytes", desc := "(C)[B", sig := { parameters := [.char], returnType := some (.array .byte) }, accessFlags := 9, code := some k9c2 }
/-- java/lang/StringLatin1 -/
def k9 : Class := { plain "java/lang/StringLatin1" (some 0) with
  accessFlags := 48
  interfaces := #[]
  cf := some (fileOf pool9 14 #[.nestMembers #[390, 221]] #[{ accessFlags := 0, nameIndex := 7, descriptorIndex := 8, attributes := #[] }, { accessFlags := 9, nameIndex := 90, descriptorIndex := 105, attributes := #[] }, { accessFlags := 9, nameIndex := 380, descriptorIndex := 382, attributes := #[] }] 48 4 #[] #[{ accessFlags := 4120, nameIndex := 121, descriptorIndex := 122, attributes := #[] }])
  fields := #[{ name := "$assertionsDisabled", type := .boolean, accessFlags := 4120, slot := 0, constantValue := 0 }]
  methods := #[k9m0, k9m1, k9m2]
  instanceTypes := #[]
  staticTypes := #[.boolean]
  resolved := Array.replicate 395 none
  statics := none }

def pool10 : Array CpInfo := pool [(6, .class_ 8), (1, u "java/lang/Object"), (0, u "<init>"), (0, u "()V"), (1, .class_ 14), (1, u "java/lang/StringUTF16"), (31, u "$assertionsDisabled"), (0, u "Z"), (13, u "HI_BYTE_SHIFT"), (0, u "I"), (2, u "LO_BYTE_SHIFT"), (49, .methodref 12 116), (0, .nameAndType 117 118), (0, u "compress"), (0, u "([CI[BII)I"), (3, u "([CII)[B"), (138, u "coderFromArrayLen"), (0, u "([BI)B"), (106, .class_ 371), (1, u "java/lang/StringUTF16$LinesSpliterator"), (58, u "MAX_LENGTH"), (196, .class_ 628), (0, u "java/lang/StringUTF16$CodePointsSpliterator"), (0, .class_ 630), (0, u "java/lang/StringUTF16$CharsSpliterator")] 4

def k10m0 : Method := { name := "<init>", desc := "()V", sig := { parameters := [], returnType := none }, accessFlags := 0, code := none }
def k10c1 : Code := { maxStack := 2, maxLocals := 2, code := jdk_52_method_15_code, exceptionTable := #[], attributes := #[] }
def k10m1 : Method := { name := "coderFromArrayLen", desc := "([BI)B", sig := { parameters := [(.array .byte), .int], returnType := some .byte }, accessFlags := 8, code := some k10c1 }
def k10c2 : Code := { maxStack := 5, maxLocals := 6, code := jdk_52_method_16_code, exceptionTable := #[], attributes := #[] }
def k10m2 : Method := { name := "compress", desc := "([CII)[B", sig := { parameters := [(.array .char), .int, .int], returnType := some (.array .byte) }, accessFlags := 9, code := some k10c2 }
def k10c3 : Code := { maxStack := 3, maxLocals := 7, code := jdk_52_method_21_code, exceptionTable := #[], attributes := #[] }
def k10m3 : Method := { name := "compress", desc := "([CI[BII)I", sig := { parameters := [(.array .char), .int, (.array .byte), .int, .int], returnType := some .int }, accessFlags := 9, code := some k10c3 }
/-- java/lang/StringUTF16 -/
def k10 : Class := { plain "java/lang/StringUTF16" (some 0) with
  accessFlags := 48
  interfaces := #[]
  cf := some (fileOf pool10 12 #[.nestMembers #[627, 629, 369]] #[{ accessFlags := 0, nameIndex := 9, descriptorIndex := 10, attributes := #[] }, { accessFlags := 8, nameIndex := 261, descriptorIndex := 262, attributes := #[] }, { accessFlags := 9, nameIndex := 117, descriptorIndex := 122, attributes := #[] }, { accessFlags := 9, nameIndex := 117, descriptorIndex := 118, attributes := #[] }] 48 6 #[] #[{ accessFlags := 26, nameIndex := 61, descriptorIndex := 62, attributes := #[] }, { accessFlags := 26, nameIndex := 65, descriptorIndex := 62, attributes := #[] }, { accessFlags := 24, nameIndex := 430, descriptorIndex := 62, attributes := #[] }, { accessFlags := 4120, nameIndex := 46, descriptorIndex := 47, attributes := #[] }])
  fields := #[{ name := "HI_BYTE_SHIFT", type := .int, accessFlags := 26, slot := 0, constantValue := 0 }, { name := "LO_BYTE_SHIFT", type := .int, accessFlags := 26, slot := 1, constantValue := 0 }, { name := "MAX_LENGTH", type := .int, accessFlags := 24, slot := 2, constantValue := 0 }, { name := "$assertionsDisabled", type := .boolean, accessFlags := 4120, slot := 3, constantValue := 0 }]
  methods := #[k10m0, k10m1, k10m2, k10m3]
  instanceTypes := #[]
  staticTypes := #[.int, .int, .int, .boolean]
  resolved := Array.replicate 635 none
  statics := none }

def pool11 : Array CpInfo := pool [(2, .class_ 4), (1, u "java/lang/Object"), (0, u "<init>"), (0, u "()V"), (17, .class_ 26), (1, u "jdk/internal/util/Preconditions"), (28, .class_ 56), (0, u "jdk/internal/util/Preconditions$4"), (57, .class_ 115), (0, u "jdk/internal/util/Preconditions$1"), (7, u "SIOOBE_FORMATTER"), (0, u "Ljava/util/function/BiFunction;"), (0, .class_ 126), (0, u "jdk/internal/util/Preconditions$2"), (3, u "AIOOBE_FORMATTER"), (0, .class_ 132), (0, u "jdk/internal/util/Preconditions$3"), (3, u "IOOBE_FORMATTER")] 57

def k11m0 : Method := { name := "<init>", desc := "()V", sig := { parameters := [], returnType := none }, accessFlags := 1, code := none }
/-- jdk/internal/util/Preconditions -/
def k11 : Class := { plain "jdk/internal/util/Preconditions" (some 0) with
  accessFlags := 33
  interfaces := #[]
  cf := some (fileOf pool11 24 #[.nestMembers #[55, 131, 125, 114]] #[{ accessFlags := 1, nameIndex := 5, descriptorIndex := 6, attributes := #[] }] 33 2 #[] #[{ accessFlags := 25, nameIndex := 123, descriptorIndex := 124, attributes := #[] }, { accessFlags := 25, nameIndex := 130, descriptorIndex := 124, attributes := #[] }, { accessFlags := 25, nameIndex := 136, descriptorIndex := 124, attributes := #[] }])
  fields := #[{ name := "SIOOBE_FORMATTER", type := (.object "java/util/function/BiFunction"), accessFlags := 25, slot := 0, constantValue := 0 }, { name := "AIOOBE_FORMATTER", type := (.object "java/util/function/BiFunction"), accessFlags := 25, slot := 1, constantValue := 0 }, { name := "IOOBE_FORMATTER", type := (.object "java/util/function/BiFunction"), accessFlags := 25, slot := 2, constantValue := 0 }]
  methods := #[k11m0]
  instanceTypes := #[]
  staticTypes := #[(.object "java/util/function/BiFunction"), (.object "java/util/function/BiFunction"), (.object "java/util/function/BiFunction")]
  resolved := Array.replicate 194 none
  statics := some 1 }

def pool12 : Array CpInfo := pool [(9, u "<init>"), (6, .class_ 18), (1, u "java/lang/Object"), (0, u "()V"), (1, .class_ 23), (1, u "jdk/internal/util/ArraysSupport"), (0, u "LOG2_ARRAY_LONG_INDEX_SCALE"), (0, u "I"), (2, u "U"), (0, u "Ljdk/internal/misc/Unsafe;"), (8, u "BIG_ENDIAN"), (0, u "Z"), (8, u "LOG2_BYTE_BIT_SIZE"), (4, u "LOG2_ARRAY_INT_INDEX_SCALE"), (54, u "JLA"), (0, u "Ljdk/internal/access/JavaLangAccess;"), (11, u "LOG2_ARRAY_BOOLEAN_INDEX_SCALE"), (9, u "LOG2_ARRAY_BYTE_INDEX_SCALE"), (5, u "LOG2_ARRAY_CHAR_INDEX_SCALE"), (5, u "LOG2_ARRAY_SHORT_INDEX_SCALE"), (18, u "LOG2_ARRAY_FLOAT_INDEX_SCALE"), (24, u "LOG2_ARRAY_DOUBLE_INDEX_SCALE"), (89, u "T_BOOLEAN"), (2, u "T_CHAR"), (1, u "T_FLOAT"), (1, u "T_DOUBLE"), (1, u "T_BYTE"), (1, u "T_SHORT"), (1, u "T_INT"), (1, u "T_LONG"), (1, u "SOFT_MAX_ARRAY_LENGTH")] 83

def k12m0 : Method := { name := "<init>", desc := "()V", sig := { parameters := [], returnType := none }, accessFlags := 2, code := none }
/-- jdk/internal/util/ArraysSupport -/
def k12 : Class := { plain "jdk/internal/util/ArraysSupport" (some 0) with
  accessFlags := 33
  interfaces := #[]
  cf := some (fileOf pool12 21 #[] #[{ accessFlags := 2, nameIndex := 9, descriptorIndex := 19, attributes := #[] }] 33 16 #[] #[{ accessFlags := 24, nameIndex := 28, descriptorIndex := 29, attributes := #[] }, { accessFlags := 26, nameIndex := 38, descriptorIndex := 39, attributes := #[] }, { accessFlags := 25, nameIndex := 121, descriptorIndex := 25, attributes := #[] }, { accessFlags := 25, nameIndex := 131, descriptorIndex := 25, attributes := #[] }, { accessFlags := 25, nameIndex := 137, descriptorIndex := 25, attributes := #[] }, { accessFlags := 25, nameIndex := 143, descriptorIndex := 25, attributes := #[] }, { accessFlags := 25, nameIndex := 53, descriptorIndex := 25, attributes := #[] }, { accessFlags := 25, nameIndex := 24, descriptorIndex := 25, attributes := #[] }, { accessFlags := 25, nameIndex := 162, descriptorIndex := 25, attributes := #[] }, { accessFlags := 25, nameIndex := 187, descriptorIndex := 25, attributes := #[] }, { accessFlags := 26, nameIndex := 48, descriptorIndex := 25, attributes := #[] }, { accessFlags := 25, nameIndex := 277, descriptorIndex := 25, attributes := #[] }, { accessFlags := 25, nameIndex := 280, descriptorIndex := 25, attributes := #[] }, { accessFlags := 25, nameIndex := 282, descriptorIndex := 25, attributes := #[] }, { accessFlags := 25, nameIndex := 284, descriptorIndex := 25, attributes := #[] }, { accessFlags := 25, nameIndex := 286, descriptorIndex := 25, attributes := #[] }, { accessFlags := 25, nameIndex := 288, descriptorIndex := 25, attributes := #[] }, { accessFlags := 25, nameIndex := 290, descriptorIndex := 25, attributes := #[] }, { accessFlags := 25, nameIndex := 292, descriptorIndex := 25, attributes := #[] }, { accessFlags := 26, nameIndex := 108, descriptorIndex := 109, attributes := #[] }, { accessFlags := 25, nameIndex := 294, descriptorIndex := 25, attributes := #[] }])
  fields := #[{ name := "U", type := (.object "jdk/internal/misc/Unsafe"), accessFlags := 24, slot := 0, constantValue := 0 }, { name := "BIG_ENDIAN", type := .boolean, accessFlags := 26, slot := 1, constantValue := 0 }, { name := "LOG2_ARRAY_BOOLEAN_INDEX_SCALE", type := .int, accessFlags := 25, slot := 2, constantValue := 0 }, { name := "LOG2_ARRAY_BYTE_INDEX_SCALE", type := .int, accessFlags := 25, slot := 3, constantValue := 0 }, { name := "LOG2_ARRAY_CHAR_INDEX_SCALE", type := .int, accessFlags := 25, slot := 4, constantValue := 0 }, { name := "LOG2_ARRAY_SHORT_INDEX_SCALE", type := .int, accessFlags := 25, slot := 5, constantValue := 0 }, { name := "LOG2_ARRAY_INT_INDEX_SCALE", type := .int, accessFlags := 25, slot := 6, constantValue := 0 }, { name := "LOG2_ARRAY_LONG_INDEX_SCALE", type := .int, accessFlags := 25, slot := 7, constantValue := 0 }, { name := "LOG2_ARRAY_FLOAT_INDEX_SCALE", type := .int, accessFlags := 25, slot := 8, constantValue := 0 }, { name := "LOG2_ARRAY_DOUBLE_INDEX_SCALE", type := .int, accessFlags := 25, slot := 9, constantValue := 0 }, { name := "LOG2_BYTE_BIT_SIZE", type := .int, accessFlags := 26, slot := 10, constantValue := 0 }, { name := "T_BOOLEAN", type := .int, accessFlags := 25, slot := 11, constantValue := 0 }, { name := "T_CHAR", type := .int, accessFlags := 25, slot := 12, constantValue := 0 }, { name := "T_FLOAT", type := .int, accessFlags := 25, slot := 13, constantValue := 0 }, { name := "T_DOUBLE", type := .int, accessFlags := 25, slot := 14, constantValue := 0 }, { name := "T_BYTE", type := .int, accessFlags := 25, slot := 15, constantValue := 0 }, { name := "T_SHORT", type := .int, accessFlags := 25, slot := 16, constantValue := 0 }, { name := "T_INT", type := .int, accessFlags := 25, slot := 17, constantValue := 0 }, { name := "T_LONG", type := .int, accessFlags := 25, slot := 18, constantValue := 0 }, { name := "JLA", type := (.object "jdk/internal/access/JavaLangAccess"), accessFlags := 26, slot := 19, constantValue := 0 }, { name := "SOFT_MAX_ARRAY_LENGTH", type := .int, accessFlags := 25, slot := 20, constantValue := 0 }]
  methods := #[k12m0]
  instanceTypes := #[]
  staticTypes := #[(.object "jdk/internal/misc/Unsafe"), .boolean, .int, .int, .int, .int, .int, .int, .int, .int, .int, .int, .int, .int, .int, .int, .int, .int, .int, (.object "jdk/internal/access/JavaLangAccess"), .int]
  resolved := Array.replicate 378 none
  statics := none }

def pool13 : Array CpInfo := pool [(1, u "java/lang/Cloneable"), (0, .class_ 1), (0, u "java/lang/Object"), (0, .class_ 3)] 3

/-- java/lang/Cloneable -/
def k13 : Class := { plain "java/lang/Cloneable" (some 0) with
  accessFlags := 1537
  interfaces := #[]
  cf := some (fileOf pool13 2 #[] #[] 1537 4 #[] #[])
  fields := #[]
  methods := #[]
  instanceTypes := #[]
  staticTypes := #[]
  resolved := Array.replicate 8 none
  statics := none }

/-- the primitive byte -/
def k14 : Class := { plain "byte" none with kind := .primitive 'B', accessFlags := 0x411 }
/-- [B -/
def k15 : Class := { plain "[B" (some 0) with kind := .array 14 .byte, interfaces := #[13, 2], accessFlags := 1041 }

/-- the primitive char -/
def k16 : Class := { plain "char" none with kind := .primitive 'C', accessFlags := 0x411 }
/-- [C -/
def k17 : Class := { plain "[C" (some 0) with kind := .array 16 .char, interfaces := #[13, 2], accessFlags := 1041 }

/-- the primitive int -/
def k18 : Class := { plain "int" none with kind := .primitive 'I', accessFlags := 0x411 }
/-- [I -/
def k19 : Class := { plain "[I" (some 0) with kind := .array 18 .int, interfaces := #[13, 2], accessFlags := 1041 }

def heap : Heap := #[{ cls := 7, slots := #[.long 0, .int 1, .null, .int 0, .null, .int 0, .int 0], vm := .statics 7 },
  { cls := 11, slots := #[.null, .null, .null], vm := .statics 11 }]
def classes : Array Class := #[k0, k1, k2, k3, k4, k5, k6, k7, k8, k9, k10, k11, k12, k13, k14, k15, k16, k17, k18, k19]
def interned : List (Array UInt16 × Addr) := []
def slotsUsed : Nat := 10
def theMethod : MethodId := ⟨1, 1⟩
def args0 : Array Value := #[.int 65, .int 66, .int 300, .long 7, .long 9, .int 1]
def aboutOver (below : List Frame) : State where
  vm := { classes := classes, interned := interned.toArray }
  heap := heap
  slotsUsed := slotsUsed
  threads := #[{ frames := .invoking theMethod args0 :: below }]
def below0 : List Frame := [.native { method := ⟨0, 0⟩, args := #[] }]
def about1 : State := aboutOver below0
def p0 : Program := .bare "" "" ""
def e0 : Env := launch0.env 0 0 0
theorem w_frames : about1.frames = Frame.invoking theMethod args0 :: below0 := rfl
set_option maxRecDepth 65536 in
theorem w_args : argsFit about1.vm theMethod args0 = true := by decide +kernel
set_option maxRecDepth 65536 in
theorem w_heap : heapFits about1 = true := by decide +kernel
set_option maxRecDepth 65536 in
theorem w_runnable : about1.curStatus? = some .runnable := by decide +kernel
set_option maxRecDepth 65536 in
theorem w_alone : about1.alone = true := by decide +kernel
set_option maxRecDepth 65536 in
theorem w_named : about1.methodNamed? x = some theMethod := by decide +kernel
set_option maxRecDepth 65536 in
theorem w_hears : about1.hears theMethod below0 = true := by decide +kernel
set_option maxRecDepth 65536 in
theorem w_ripe : about1.ripe theMethod args0 below0 = true := by decide +kernel
theorem w_running : about1.status = .running := rfl
set_option maxRecDepth 65536 in
theorem w_room : about1.hasRoom e0.platform room_1 = true :=
  launch0.hasRoom_least _ room_1 (by decide +kernel) (by decide +kernel) (by decide +kernel) (by decide +kernel) (by decide +kernel) (by decide +kernel)
theorem allAtoms_all (ts : List Jvm.Cond) (a : Array Jvm.Value) (st : Jvm.State) : (allAtoms ts).before a st = ts.all (fun c => c.before a st) := by
  induction ts with
  | nil => rfl
  | cons c t ih =>
    show (Jvm.Cond.and c (allAtoms t)).before a st = _
    rw [Jvm.Cond.before_and, ih, List.all_cons]
def words1 : List Jvm.Cond := Jvm.Cond.code x code maxLocals ret :: tables_1
/-- a 'code' word, met by the world's own term for the bytes: nothing is compared byte by byte -/
theorem code_word {y : MethodName} {bytes : ByteArray} {mx : Nat} {rt : Option FieldType} {a : Array Value} {s : State} {m : MethodId} {meth : Method} {c : Code} (h1 : s.methodNamed? y = some m) (h2 : s.vm.method? m = some meth) (h3 : meth.code = some c) (h4 : c.code = bytes)
    (h5 : (c.maxLocals == mx && c.exceptionTable.isEmpty && decide (c.maxStack ≤ mostOperands) && decide (meth.sig.returnType = rt) && !meth.locks && decide (parseMethodDescriptor y.desc = some meth.sig)) = true) : (Jvm.Cond.code y bytes mx rt).before a s = true := by
  simp only [Bool.and_eq_true, beq_iff_eq, Bool.not_eq_true', decide_eq_true_eq] at h5
  obtain ⟨⟨⟨⟨⟨g1, g2⟩, g3⟩, g4⟩, g5⟩, g6⟩ := h5
  simp [Cond.before, Cond.holds, Cond.value, h1, h2, h3, h4, g1, g2, g3, g4, g5, g6]
def isCode : Jvm.Cond → Bool
  | .code _ _ _ _ => true
  | _ => false
theorem all_split {L : List Jvm.Cond} {P : Jvm.Cond → Bool} (h1 : L.all (fun c => isCode c || P c) = true) (h2 : ∀ c ∈ L.filter isCode, P c = true) : L.all P = true := by
  refine List.all_eq_true.mpr fun c hc => ?_
  have h := List.all_eq_true.mp h1 c hc
  rcases Bool.eq_false_or_eq_true (isCode c) with hi | hi
  · exact h2 c (List.mem_filter.mpr ⟨hc, hi⟩)
  · simpa [hi] using h
set_option maxRecDepth 65536 in
theorem w_c0 : (Jvm.Cond.code x code maxLocals ret).before args0 about1 = true := code_word (m := ⟨1, 1⟩) (meth := k1m1) (c := k1c1) (by decide +kernel) rfl rfl rfl (by decide +kernel)
set_option maxRecDepth 65536 in
theorem w_c1 : (Jvm.Cond.code ({ cls := "java/lang/String", name := "<init>", desc := "([C)V" } : Jvm.MethodName) jdk_42_method_3_code (2 : Nat) (Option.none : Option Jvm.ClassFile.FieldType)).before args0 about1 = true := code_word (m := ⟨7, 1⟩) (meth := k7m1) (c := k7c1) (by decide +kernel) rfl rfl rfl (by decide +kernel)
set_option maxRecDepth 65536 in
theorem w_c2 : (Jvm.Cond.code ({ cls := "java/lang/String", name := "<init>", desc := "([CIILjava/lang/Void;)V" } : Jvm.MethodName) jdk_42_method_149_code (6 : Nat) (Option.none : Option Jvm.ClassFile.FieldType)).before args0 about1 = true := code_word (m := ⟨7, 4⟩) (meth := k7m4) (c := k7c4) (by decide +kernel) rfl rfl rfl (by decide +kernel)
set_option maxRecDepth 65536 in
theorem w_c3 : (Jvm.Cond.code ({ cls := "java/lang/Object", name := "<init>", desc := "()V" } : Jvm.MethodName) object_method_1_code (1 : Nat) (Option.none : Option Jvm.ClassFile.FieldType)).before args0 about1 = true := code_word (m := ⟨0, 0⟩) (meth := k0m0) (c := k0c0) (by decide +kernel) rfl rfl rfl (by decide +kernel)
set_option maxRecDepth 65536 in
theorem w_c4 : (Jvm.Cond.code ({ cls := "com/example/ring_to_run/ringtorun/service/Callback", name := "posted", desc := "(Ljava/lang/String;[BJ)Lcom/example/ring_to_run/ringtorun/service/Callback;" } : Jvm.MethodName) prog_13_method_2_code (4 : Nat) (Option.some (Jvm.ClassFile.FieldType.object "com/example/ring_to_run/ringtorun/service/Callback"))).before args0 about1 = true := code_word (m := ⟨8, 1⟩) (meth := k8m1) (c := k8c1) (by decide +kernel) rfl rfl rfl (by decide +kernel)
set_option maxRecDepth 65536 in
theorem w_c5 : (Jvm.Cond.code ({ cls := "com/example/ring_to_run/ringtorun/service/Callback", name := "<init>", desc := "(Ljava/lang/String;[BJIJLjava/lang/String;)V" } : Jvm.MethodName) prog_13_method_1_code (9 : Nat) (Option.none : Option Jvm.ClassFile.FieldType)).before args0 about1 = true := code_word (m := ⟨8, 0⟩) (meth := k8m0) (c := k8c0) (by decide +kernel) rfl rfl rfl (by decide +kernel)
set_option maxRecDepth 65536 in
theorem w_c6 : (Jvm.Cond.code ({ cls := "com/example/ring_to_run/ringtorun/service/Callback", name := "url", desc := "()Ljava/lang/String;" } : Jvm.MethodName) prog_13_method_9_code (1 : Nat) (Option.some (Jvm.ClassFile.FieldType.object "java/lang/String"))).before args0 about1 = true := code_word (m := ⟨8, 3⟩) (meth := k8m3) (c := k8c3) (by decide +kernel) rfl rfl rfl (by decide +kernel)
set_option maxRecDepth 65536 in
theorem w_c7 : (Jvm.Cond.code ({ cls := "java/lang/String", name := "equals", desc := "(Ljava/lang/Object;)Z" } : Jvm.MethodName) jdk_42_method_66_code (3 : Nat) (Option.some Jvm.ClassFile.FieldType.boolean)).before args0 about1 = true := code_word (m := ⟨7, 2⟩) (meth := k7m2) (c := k7c2) (by decide +kernel) rfl rfl rfl (by decide +kernel)
set_option maxRecDepth 65536 in
theorem w_c8 : (Jvm.Cond.code ({ cls := "com/example/ring_to_run/ringtorun/service/Callback", name := "payloadJson", desc := "()[B" } : Jvm.MethodName) prog_13_method_10_code (1 : Nat) (Option.some (Jvm.ClassFile.FieldType.array Jvm.ClassFile.FieldType.byte))).before args0 about1 = true := code_word (m := ⟨8, 4⟩) (meth := k8m4) (c := k8c4) (by decide +kernel) rfl rfl rfl (by decide +kernel)
set_option maxRecDepth 65536 in
theorem w_c9 : (Jvm.Cond.code ({ cls := "com/example/ring_to_run/ringtorun/service/Callback", name := "sequence", desc := "()J" } : Jvm.MethodName) prog_13_method_11_code (1 : Nat) (Option.some Jvm.ClassFile.FieldType.long)).before args0 about1 = true := code_word (m := ⟨8, 5⟩) (meth := k8m5) (c := k8c5) (by decide +kernel) rfl rfl rfl (by decide +kernel)
set_option maxRecDepth 65536 in
theorem w_c10 : (Jvm.Cond.code ({ cls := "com/example/ring_to_run/ringtorun/service/Callback", name := "attempts", desc := "()I" } : Jvm.MethodName) prog_13_method_12_code (1 : Nat) (Option.some Jvm.ClassFile.FieldType.int)).before args0 about1 = true := code_word (m := ⟨8, 6⟩) (meth := k8m6) (c := k8c6) (by decide +kernel) rfl rfl rfl (by decide +kernel)
set_option maxRecDepth 65536 in
theorem w_c11 : (Jvm.Cond.code ({ cls := "com/example/ring_to_run/ringtorun/service/Callback", name := "lastError", desc := "()Ljava/lang/String;" } : Jvm.MethodName) prog_13_method_14_code (1 : Nat) (Option.some (Jvm.ClassFile.FieldType.object "java/lang/String"))).before args0 about1 = true := code_word (m := ⟨8, 8⟩) (meth := k8m8) (c := k8c8) (by decide +kernel) rfl rfl rfl (by decide +kernel)
set_option maxRecDepth 65536 in
theorem w_c12 : (Jvm.Cond.code ({ cls := "com/example/ring_to_run/ringtorun/service/Callback", name := "attempting", desc := "(J)Lcom/example/ring_to_run/ringtorun/service/Callback;" } : Jvm.MethodName) prog_13_method_7_code (3 : Nat) (Option.some (Jvm.ClassFile.FieldType.object "com/example/ring_to_run/ringtorun/service/Callback"))).before args0 about1 = true := code_word (m := ⟨8, 2⟩) (meth := k8m2) (c := k8c2) (by decide +kernel) rfl rfl rfl (by decide +kernel)
set_option maxRecDepth 65536 in
theorem w_c13 : (Jvm.Cond.code ({ cls := "com/example/ring_to_run/ringtorun/service/Callback", name := "dueAt", desc := "()J" } : Jvm.MethodName) prog_13_method_13_code (1 : Nat) (Option.some Jvm.ClassFile.FieldType.long)).before args0 about1 = true := code_word (m := ⟨8, 7⟩) (meth := k8m7) (c := k8c7) (by decide +kernel) rfl rfl rfl (by decide +kernel)
set_option maxRecDepth 65536 in
theorem w_c14 : (Jvm.Cond.code ({ cls := "java/lang/String", name := "valueOf", desc := "(C)Ljava/lang/String;" } : Jvm.MethodName) jdk_42_method_139_code (1 : Nat) (Option.some (Jvm.ClassFile.FieldType.object "java/lang/String"))).before args0 about1 = true := code_word (m := ⟨7, 3⟩) (meth := k7m3) (c := k7c3) (by decide +kernel) rfl rfl rfl (by decide +kernel)
set_option maxRecDepth 65536 in
theorem w_c15 : (Jvm.Cond.code ({ cls := "java/lang/StringLatin1", name := "canEncode", desc := "(C)Z" } : Jvm.MethodName) jdk_43_method_3_code (1 : Nat) (Option.some Jvm.ClassFile.FieldType.boolean)).before args0 about1 = true := code_word (m := ⟨9, 1⟩) (meth := k9m1) (c := k9c1) (by decide +kernel) rfl rfl rfl (by decide +kernel)
set_option maxRecDepth 65536 in
theorem w_c16 : (Jvm.Cond.code ({ cls := "java/lang/StringLatin1", name := "toBytes", desc := "(C)[B" } : Jvm.MethodName) jdk_43_method_46_code (1 : Nat) (Option.some (Jvm.ClassFile.FieldType.array Jvm.ClassFile.FieldType.byte))).before args0 about1 = true := code_word (m := ⟨9, 2⟩) (meth := k9m2) (c := k9c2) (by decide +kernel) rfl rfl rfl (by decide +kernel)
set_option maxRecDepth 65536 in
theorem w_c17 : (Jvm.Cond.code ({ cls := "java/lang/String", name := "<init>", desc := "([BB)V" } : Jvm.MethodName) jdk_42_method_151_code (3 : Nat) (Option.none : Option Jvm.ClassFile.FieldType)).before args0 about1 = true := code_word (m := ⟨7, 5⟩) (meth := k7m5) (c := k7c5) (by decide +kernel) rfl rfl rfl (by decide +kernel)
set_option maxRecDepth 65536 in
theorem w_c18 : (Jvm.Cond.code ({ cls := "java/lang/StringUTF16", name := "compress", desc := "([CII)[B" } : Jvm.MethodName) jdk_52_method_16_code (6 : Nat) (Option.some (Jvm.ClassFile.FieldType.array Jvm.ClassFile.FieldType.byte))).before args0 about1 = true := code_word (m := ⟨10, 2⟩) (meth := k10m2) (c := k10c2) (by decide +kernel) rfl rfl rfl (by decide +kernel)
set_option maxRecDepth 65536 in
theorem w_c19 : (Jvm.Cond.code ({ cls := "java/lang/StringUTF16", name := "compress", desc := "([CI[BII)I" } : Jvm.MethodName) jdk_52_method_21_code (7 : Nat) (Option.some Jvm.ClassFile.FieldType.int)).before args0 about1 = true := code_word (m := ⟨10, 3⟩) (meth := k10m3) (c := k10c3) (by decide +kernel) rfl rfl rfl (by decide +kernel)
set_option maxRecDepth 65536 in
theorem w_c20 : (Jvm.Cond.code ({ cls := "java/lang/StringUTF16", name := "coderFromArrayLen", desc := "([BI)B" } : Jvm.MethodName) jdk_52_method_15_code (2 : Nat) (Option.some Jvm.ClassFile.FieldType.byte)).before args0 about1 = true := code_word (m := ⟨10, 1⟩) (meth := k10m1) (c := k10c1) (by decide +kernel) rfl rfl rfl (by decide +kernel)
def codes1 : List Jvm.Cond := [Jvm.Cond.code x code maxLocals ret, Jvm.Cond.code ({ cls := "java/lang/String", name := "<init>", desc := "([C)V" } : Jvm.MethodName) jdk_42_method_3_code (2 : Nat) (Option.none : Option Jvm.ClassFile.FieldType), Jvm.Cond.code ({ cls := "java/lang/String", name := "<init>", desc := "([CIILjava/lang/Void;)V" } : Jvm.MethodName) jdk_42_method_149_code (6 : Nat) (Option.none : Option Jvm.ClassFile.FieldType), Jvm.Cond.code ({ cls := "java/lang/Object", name := "<init>", desc := "()V" } : Jvm.MethodName) object_method_1_code (1 : Nat) (Option.none : Option Jvm.ClassFile.FieldType), Jvm.Cond.code ({ cls := "com/example/ring_to_run/ringtorun/service/Callback", name := "posted", desc := "(Ljava/lang/String;[BJ)Lcom/example/ring_to_run/ringtorun/service/Callback;" } : Jvm.MethodName) prog_13_method_2_code (4 : Nat) (Option.some (Jvm.ClassFile.FieldType.object "com/example/ring_to_run/ringtorun/service/Callback")), Jvm.Cond.code ({ cls := "com/example/ring_to_run/ringtorun/service/Callback", name := "<init>", desc := "(Ljava/lang/String;[BJIJLjava/lang/String;)V" } : Jvm.MethodName) prog_13_method_1_code (9 : Nat) (Option.none : Option Jvm.ClassFile.FieldType), Jvm.Cond.code ({ cls := "com/example/ring_to_run/ringtorun/service/Callback", name := "url", desc := "()Ljava/lang/String;" } : Jvm.MethodName) prog_13_method_9_code (1 : Nat) (Option.some (Jvm.ClassFile.FieldType.object "java/lang/String")), Jvm.Cond.code ({ cls := "java/lang/String", name := "equals", desc := "(Ljava/lang/Object;)Z" } : Jvm.MethodName) jdk_42_method_66_code (3 : Nat) (Option.some Jvm.ClassFile.FieldType.boolean), Jvm.Cond.code ({ cls := "com/example/ring_to_run/ringtorun/service/Callback", name := "payloadJson", desc := "()[B" } : Jvm.MethodName) prog_13_method_10_code (1 : Nat) (Option.some (Jvm.ClassFile.FieldType.array Jvm.ClassFile.FieldType.byte)), Jvm.Cond.code ({ cls := "com/example/ring_to_run/ringtorun/service/Callback", name := "sequence", desc := "()J" } : Jvm.MethodName) prog_13_method_11_code (1 : Nat) (Option.some Jvm.ClassFile.FieldType.long), Jvm.Cond.code ({ cls := "com/example/ring_to_run/ringtorun/service/Callback", name := "attempts", desc := "()I" } : Jvm.MethodName) prog_13_method_12_code (1 : Nat) (Option.some Jvm.ClassFile.FieldType.int), Jvm.Cond.code ({ cls := "com/example/ring_to_run/ringtorun/service/Callback", name := "lastError", desc := "()Ljava/lang/String;" } : Jvm.MethodName) prog_13_method_14_code (1 : Nat) (Option.some (Jvm.ClassFile.FieldType.object "java/lang/String")), Jvm.Cond.code ({ cls := "com/example/ring_to_run/ringtorun/service/Callback", name := "attempting", desc := "(J)Lcom/example/ring_to_run/ringtorun/service/Callback;" } : Jvm.MethodName) prog_13_method_7_code (3 : Nat) (Option.some (Jvm.ClassFile.FieldType.object "com/example/ring_to_run/ringtorun/service/Callback")), Jvm.Cond.code ({ cls := "com/example/ring_to_run/ringtorun/service/Callback", name := "dueAt", desc := "()J" } : Jvm.MethodName) prog_13_method_13_code (1 : Nat) (Option.some Jvm.ClassFile.FieldType.long), Jvm.Cond.code ({ cls := "java/lang/String", name := "valueOf", desc := "(C)Ljava/lang/String;" } : Jvm.MethodName) jdk_42_method_139_code (1 : Nat) (Option.some (Jvm.ClassFile.FieldType.object "java/lang/String")), Jvm.Cond.code ({ cls := "java/lang/StringLatin1", name := "canEncode", desc := "(C)Z" } : Jvm.MethodName) jdk_43_method_3_code (1 : Nat) (Option.some Jvm.ClassFile.FieldType.boolean), Jvm.Cond.code ({ cls := "java/lang/StringLatin1", name := "toBytes", desc := "(C)[B" } : Jvm.MethodName) jdk_43_method_46_code (1 : Nat) (Option.some (Jvm.ClassFile.FieldType.array Jvm.ClassFile.FieldType.byte)), Jvm.Cond.code ({ cls := "java/lang/String", name := "<init>", desc := "([BB)V" } : Jvm.MethodName) jdk_42_method_151_code (3 : Nat) (Option.none : Option Jvm.ClassFile.FieldType), Jvm.Cond.code ({ cls := "java/lang/StringUTF16", name := "compress", desc := "([CII)[B" } : Jvm.MethodName) jdk_52_method_16_code (6 : Nat) (Option.some (Jvm.ClassFile.FieldType.array Jvm.ClassFile.FieldType.byte)), Jvm.Cond.code ({ cls := "java/lang/StringUTF16", name := "compress", desc := "([CI[BII)I" } : Jvm.MethodName) jdk_52_method_21_code (7 : Nat) (Option.some Jvm.ClassFile.FieldType.int), Jvm.Cond.code ({ cls := "java/lang/StringUTF16", name := "coderFromArrayLen", desc := "([BI)B" } : Jvm.MethodName) jdk_52_method_15_code (2 : Nat) (Option.some Jvm.ClassFile.FieldType.byte)]
set_option maxRecDepth 65536 in
theorem codes_eq : words1.filter isCode = codes1 := rfl
theorem w_codes : ∀ c ∈ words1.filter isCode, c.before args0 about1 = true := by
  rw [codes_eq]
  intro c hc
  simp only [codes1, List.mem_cons, List.not_mem_nil, or_false] at hc
  rcases hc with rfl | rfl | rfl | rfl | rfl | rfl | rfl | rfl | rfl | rfl | rfl | rfl | rfl | rfl | rfl | rfl | rfl | rfl | rfl | rfl | rfl
  · exact w_c0
  · exact w_c1
  · exact w_c2
  · exact w_c3
  · exact w_c4
  · exact w_c5
  · exact w_c6
  · exact w_c7
  · exact w_c8
  · exact w_c9
  · exact w_c10
  · exact w_c11
  · exact w_c12
  · exact w_c13
  · exact w_c14
  · exact w_c15
  · exact w_c16
  · exact w_c17
  · exact w_c18
  · exact w_c19
  · exact w_c20
set_option maxRecDepth 65536 in
theorem w_t1 : (words1.take 24).all (fun c => isCode c || c.before args0 about1) = true := by decide +kernel
set_option maxRecDepth 65536 in
theorem w_t2 : ((words1.drop 24).take 24).all (fun c => isCode c || c.before args0 about1) = true := by decide +kernel
set_option maxRecDepth 65536 in
theorem w_t3 : (((words1.drop 24).drop 24).take 24).all (fun c => isCode c || c.before args0 about1) = true := by decide +kernel
set_option maxRecDepth 65536 in
theorem w_t4 : ((((words1.drop 24).drop 24).drop 24).take 24).all (fun c => isCode c || c.before args0 about1) = true := by decide +kernel
set_option maxRecDepth 65536 in
theorem w_t5 : ((((words1.drop 24).drop 24).drop 24).drop 24).all (fun c => isCode c || c.before args0 about1) = true := by decide +kernel
theorem w_tables : (allAtoms (Jvm.Cond.code x code maxLocals ret :: tables_1)).before args0 about1 = true := by
  rw [allAtoms_all]
  show words1.all (fun c => c.before args0 about1) = true
  refine all_split ?_ w_codes
  rw [← List.take_append_drop 24 words1, List.all_append, w_t1, ← List.take_append_drop 24 (words1.drop 24), List.all_append, w_t2, ← List.take_append_drop 24 ((words1.drop 24).drop 24), List.all_append, w_t3, ← List.take_append_drop 24 (((words1.drop 24).drop 24).drop 24), List.all_append, w_t4, w_t5]
  rfl
set_option maxRecDepth 65536 in
theorem w_rest : rest_1_c.before args0 about1 = true := by decide +kernel
set_option maxRecDepth 65536 in
theorem w_case : (Jvm.Cond.and given_1 narrow_1).before args0 about1 = true := by decide +kernel
set_option maxRecDepth 65536 in
theorem w_consts : constsHeld consts_1 about1 := Jvm.Lit.constsHeldB_iff.mp (by decide +kernel)
theorem w_applies : (headSpec (Jvm.Cond.code x code maxLocals ret :: tables_1) room_1).applies x e0.platform about1 = true :=
  (Spec.applies_iff w_frames).mpr ⟨w_running, w_runnable, w_alone, w_named, w_hears, w_ripe, w_room, w_tables⟩
theorem atStart : AtStart classFile x code maxLocals ret World_1 tables_1 room_1 Calls_1 rest_1 Pre_1 launch0 p0 e0 about1 theMethod args0 below0 :=
  ⟨lists_1, trivial, launch0.admits_env _ _ _, launch0.least_env, fairChoices_fair.cas, fairChoices_fair.clock, w_frames, w_args, w_heap, w_applies, ⟨w_consts, trivial⟩, w_rest, w_case⟩
end start1
theorem witness_1 : WitnessClaimed_1 := ⟨start1.p0, start1.e0, start1.about1, start1.theMethod, start1.args0, start1.below0, start1.atStart⟩
end Jvm.Pilot.@@N@@
