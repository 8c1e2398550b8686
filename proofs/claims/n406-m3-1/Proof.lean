import JvmDerived
import JvmDerived.Pilot.@@N@@Statement
import JvmDerived.Pilot.@@N@@Code
set_option linter.unusedVariables false
set_option linter.unusedSimpArgs false
set_option maxRecDepth 65536
namespace Jvm.Pilot.@@N@@
open Jvm Jvm.ClassFile Sem Op Lib Jvm.Free Jvm.Stand Jvm.LawKit Jvm.RoadKit Bundle Jvm.Pilot.@@N@@.Jvm.D

section OwnKit
/-- a walk's fixed things: program, launch, environment, room, first state, method, arguments, frames below, the method, its code -/
abbrev own_B : Type := Program × Launch × Env × Room × State × MethodId × Array Value × List Frame × Method × Code × Nat × (Outcome → State → List Loc → Nat → Nat → Prop)
def own_Ok (B : own_B) (Z : State) (a0 : Array Value) (l0 : Launch) (R0 : Room) (y : MethodName) (code : ByteArray) (N : Nat) (ret : Option FieldType) : Prop :=
  match B with
  | (p, l, e, R, s, m, args, below, meth, c, k0, P) => l = l0 ∧ R = R0 ∧ p.tables.exec = Jvm.exec ∧ Z.Warmed39 s.vm ∧ s.vm.findClass y.cls = some m.cls ∧ c.code = code ∧ c.maxLocals = N ∧ meth.sig.returnType = ret ∧ meth.locks = false ∧ meth.name = y.name ∧ (∀ (i : Nat) (d : Jvm.Cond), tables_1[i]? = some d → d.before a0 Z = true) ∧ (∀ o t L a b, k0 ≤ t.heap.size → FrameEnd s o t L a b → P o t L a b)
/-- the rest of the walk ends well -/
def own_Fin (p : Program) (e : Env) (below : List Frame) (P : Outcome → State → List Loc → Nat → Nat → Prop) (n0 : Nat) (Q : Option Value → Heap → Prop) (kc ks : Nat) (A : State) : Prop :=
  ∃ s₂ o, Steps p.tables e below A s₂ ∧ s₂.status = .running ∧ Ended s₂ below o ∧ ∃ v L, o = .returned v ∧ (Q v s₂.heap ∧ Fr n0 L) ∧ P o s₂ L kc ks
theorem own_go {p : Program} {e : Env} {below : List Frame} {P : Outcome → State → List Loc → Nat → Nat → Prop} {n0 : Nat} {Q : Option Value → Heap → Prop} {kc ks : Nat} {A A' : State} (st : ∀ t, Steps p.tables e below A' t → Steps p.tables e below A t) (k : own_Fin p e below P n0 Q kc ks A') : own_Fin p e below P n0 Q kc ks A := by
  obtain ⟨s2, o, h1, r⟩ := k
  exact ⟨s2, o, st _ h1, r⟩
/-- from this point (heap h, at most so many cells and slots made, pc, locals, stack) the walk ends in Q -/
def own_G (B : own_B) (n0 : Nat) (Q : Option Value → Heap → Prop) (kc ks cells slots : Nat) (h : Heap) (pc : Nat) (Ls : Array Slot) (st : List Value) : Prop :=
  match B with
  | (p, l, e, R, s, m, args, below, meth, c, k0, P) => ∀ (T : State) (locs : List Loc) (c1 s1 : Nat), Stand p l e R s m args below meth c T locs c1 s1 → Fr n0 locs → c1 ≤ cells → s1 ≤ slots → T.heap = h → k0 ≤ h.size → own_Fin p e below P n0 Q kc ks (T.setTop (mkF m pc Ls st))
/-- a method's contract -/
def own_Met (l : Launch) (Z : State) (ws : List Jvm.Cond) (y : MethodName) (bytes : ByteArray) (maxL : Nat) (ret : Option FieldType) (rm : Room) (as : Array Value) (h : Heap) (n0 kc ks : Nat) (Q : Option Value → Heap → Prop) : Prop :=
  MetFree l y (head1 (Jvm.Cond.code y bytes maxL ret :: ws) rm) (fun a U => a = as ∧ Z.Warmed39 U.vm ∧ U.heap = h) (fun _ _ _ _ _ => True) (fun _ U o U' => ∃ v L, o = .returned v ∧ (Q v U'.heap ∧ Fr n0 L) ∧ FrameEnd U o U' L kc ks)
/-- a callee's contract -/
abbrev own_C (l : Launch) (Z : State) (y : MethodName) (bytes : ByteArray) (maxL : Nat) (ret : Option FieldType) (rm : Room) (as : Array Value) (h : Heap) (n0 : Nat) (Q : Option Value → Heap → Prop) : Prop := own_Met l Z [] y bytes maxL ret rm as h n0 rm.cells rm.slots Q
/-- a callee that returns w and leaves the heap -/
abbrev own_P (l : Launch) (Z : State) (y : MethodName) (bytes : ByteArray) (maxL : Nat) (ret : Option FieldType) (rm : Room) (as : Array Value) (h : Heap) (n0 : Nat) (w : Value) : Prop := own_C l Z y bytes maxL ret rm as h n0 (fun v h' => v = some w ∧ h = h')
abbrev own_rm (f lo : Nat) : Room := { frames := f, cells := 0, slots := 0, locals := lo }
theorem own_met {l : Launch} {Z : State} {a0 : Array Value} {ws : List Jvm.Cond} {y : MethodName} {bytes : ByteArray} {maxL : Nat} {ret : Option FieldType} {rm : Room} {as : Array Value} {h : Heap} {n0 kc ks : Nat} {Q : Option Value → Heap → Prop} {Ls : Array Slot}
    (hw : ∀ (i : Nat) (d : Jvm.Cond), tables_1[i]? = some d → d.before a0 Z = true) (hpl : plainFor y = true) (hef : ∀ m, entryFrame m as maxL = mkF m 0 Ls [])
    (body : ∀ B : own_B, own_Ok B Z a0 l rm y bytes maxL ret → own_G B n0 Q kc ks 0 0 h 0 Ls []) : own_Met l Z ws y bytes maxL ret rm as h n0 kc ks Q := by
  refine MetFree.of_bodySF hpl hisR ?_
  intro p e s m args below meth c s₁ Bd hml0 hP hK
  obtain ⟨rfl, hZ, hh⟩ := hP
  have X0 := Stand.of_body Bd
  have e0 : s₁.heap = h := by rw [← hh, Bd.state]; rfl
  have q := body (p, l, e, rm, s, m, args, below, meth, c, 0, FrameEnd s) ⟨rfl, rfl, Bd.exec, hZ, findClass_of_methodNamed Bd.named, Bd.bytes, hml0, Bd.returns, Bd.notSynchronized, (name_of_methodNamed Bd.named Bd.method).1, hw, fun _ _ _ _ _ _ q => q⟩ s₁ [] 0 0 X0 (Fr.nil n0) (Nat.le_refl _) (Nat.le_refl _) e0 (Nat.zero_le _)
  rw [hef m]
  exact q
theorem own_grow {l : Launch} {Z : State} {ws : List Jvm.Cond} {y : MethodName} {bytes : ByteArray} {maxL : Nat} {ret : Option FieldType} {rm : Room} {as : Array Value} {h : Heap} {n0 kc ks : Nat} {Q : Option Value → Heap → Prop} (hM : own_Met l Z ws y bytes maxL ret rm as h n0 kc ks Q) :
    MetFree l y (head1 (Jvm.Cond.code y bytes maxL ret :: ws) rm) (fun a U => a = as ∧ Z.Warmed39 U.vm ∧ U.heap = h) (fun _ _ _ _ _ => True) (fun _ U o U' => ∃ v L, o = .returned v ∧ ((Q v U'.heap ∧ Fr n0 L) ∧ h.size ≤ U'.heap.size) ∧ FrameEnd U o U' L kc ks) := by
  intro p e ha hc hk s m args below hf happ hP hK
  obtain ⟨n, o, h1, h2, h3, v, L, e1, e2, e3⟩ := hM p e ha hc hk s m args below hf happ hP hK
  refine ⟨n, o, h1, h2, h3, v, L, e1, ⟨e2, ?_⟩, e3⟩
  have q := e3.2.2.2.1
  rw [← hP.2.2]
  exact q
/-- the wide contract: String constants may have been resolved -/
def own_MetW (l : Launch) (Z : State) (ws : List Jvm.Cond) (y : MethodName) (bytes : ByteArray) (maxL : Nat) (ret : Option FieldType) (rm : Room) (as : Array Value) (h : Heap) (n0 kc ks : Nat) (Q : Option Value → Heap → Prop) : Prop :=
  MetFree l y (head1 (Jvm.Cond.code y bytes maxL ret :: ws) rm) (fun a U => a = as ∧ Z.Warmed39 U.vm ∧ U.heap = h) (fun _ _ _ _ _ => True) (fun _ U o U' => ∃ v L, o = .returned v ∧ (Q v U'.heap ∧ Fr n0 L) ∧ ReturnedEndW U o U' L kc ks)
abbrev own_CW (l : Launch) (Z : State) (y : MethodName) (bytes : ByteArray) (maxL : Nat) (ret : Option FieldType) (rm : Room) (as : Array Value) (h : Heap) (n0 : Nat) (Q : Option Value → Heap → Prop) : Prop := own_MetW l Z [] y bytes maxL ret rm as h n0 rm.cells rm.slots Q
/-- the walk's first state is a re-based one, and its end is said of the true start -/
def own_Wd (B : own_B) : Prop :=
  match B with
  | (p, l, e, R, s, m, args, below, meth, c, k0, P) => ∃ (s0 : State) (vm0 : Vm), P = ReturnedEndW s0 ∧ s = s0.setVm vm0 ∧ s0.Since vm0 k0
theorem own_metW {l : Launch} {Z : State} {a0 : Array Value} {ws : List Jvm.Cond} {y : MethodName} {bytes : ByteArray} {maxL : Nat} {ret : Option FieldType} {rm : Room} {as : Array Value} {h : Heap} {n0 kc ks : Nat} {Q : Option Value → Heap → Prop} {Ls : Array Slot}
    (hw : ∀ (i : Nat) (d : Jvm.Cond), tables_1[i]? = some d → d.before a0 Z = true) (hpl : plainFor y = true) (hef : ∀ m, entryFrame m as maxL = mkF m 0 Ls [])
    (body : ∀ B : own_B, own_Ok B Z a0 l rm y bytes maxL ret → own_Wd B → own_G B n0 Q kc ks 0 0 h 0 Ls []) : own_MetW l Z ws y bytes maxL ret rm as h n0 kc ks Q := by
  refine MetFree.of_bodySF hpl hisR ?_
  intro p e s m args below meth c s₁ Bd hml0 hP hK
  obtain ⟨rfl, hZ, hh⟩ := hP
  have X0 := Stand.of_body Bd
  have e0 : s₁.heap = h := by rw [← hh, Bd.state]; rfl
  have q := body (p, l, e, rm, s, m, args, below, meth, c, 0, ReturnedEndW s) ⟨rfl, rfl, Bd.exec, hZ, findClass_of_methodNamed Bd.named, Bd.bytes, hml0, Bd.returns, Bd.notSynchronized, (name_of_methodNamed Bd.named Bd.method).1, hw, fun _ _ _ _ _ _ q => ReturnedEndW.of_narrow q.1 q.2.1 q.2.2⟩ ⟨s, s.vm, rfl, rfl, (State.WarmedH.refl s).since 0⟩ s₁ [] 0 0 X0 (Fr.nil n0) (Nat.le_refl _) (Nat.le_refl _) e0 (Nat.zero_le _)
  rw [hef m]
  exact q
theorem own_pe {s0 : State} {vm1 : Vm} {k1 : Nat} (hS : s0.Since vm1 k1) : ∀ o t L a b, k1 ≤ t.heap.size → FrameEnd (s0.setVm vm1) o t L a b → ReturnedEndW s0 o t L a b := fun o t L a b hk q => by
  obtain ⟨w1, w2, w3⟩ := hS.ended q.2.1 hk q.2.2
  exact ⟨q.1, w1, w2, w3⟩
section Laws
variable {B : own_B} {Z : State} {a0 : Array Value} {l : Launch} {R : Room} {y : MethodName} {code : ByteArray} {N : Nat} {ret : Option FieldType} {n0 : Nat} {Q : Option Value → Heap → Prop} {kc ks cells slots : Nat} {h : Heap} {pc pc' : Nat} {Ls Ls' : Array Slot} {st : List Value}
theorem own_mono {cells' slots' : Nat} (hc : cells ≤ cells') (hs : slots ≤ slots') (k : own_G B n0 Q kc ks cells' slots' h pc Ls st) : own_G B n0 Q kc ks cells slots h pc Ls st := by
  obtain ⟨p, l, e, R, s, m, args, below, meth, c, k0, P⟩ := B
  intro T locs c1 s1 X F q1 q2 eT hk
  exact k T locs c1 s1 X F (Nat.le_trans q1 hc) (Nat.le_trans q2 hs) eT hk
theorem own_cut (pc' : Nat) (Ls' : Array Slot) (st' : List Value) (f : own_G B n0 Q kc ks cells slots h pc' Ls' st' → own_G B n0 Q kc ks cells slots h pc Ls st) (k : own_G B n0 Q kc ks cells slots h pc' Ls' st') : own_G B n0 Q kc ks cells slots h pc Ls st := f k
theorem own_cast {Ls' : Array Slot} {st' : List Value} (hL : Ls = Ls') (hS : st = st') (k : own_G B n0 Q kc ks cells slots h pc Ls' st') : own_G B n0 Q kc ks cells slots h pc Ls st := by
  subst hL hS
  exact k
theorem own_w (H : own_Ok B Z a0 l R y code N ret) {i : Nat} {d : Jvm.Cond} (q : tables_1[i]? = some d) : d.before a0 Z = true := by
  obtain ⟨p, l, e, R, s, m, args, below, meth, c, k0, P⟩ := B
  exact H.2.2.2.2.2.2.2.2.2.2.1 i d q
theorem own_hw (H : own_Ok B Z a0 l R y code N ret) : ∀ (i : Nat) (d : Jvm.Cond), tables_1[i]? = some d → d.before a0 Z = true := by
  obtain ⟨p, l, e, R, s, m, args, below, meth, c, k0, P⟩ := B
  exact H.2.2.2.2.2.2.2.2.2.2.1
theorem own_iadd (H : own_Ok B Z a0 l R y code N ret) {x z v : Int32} (hv : x + z = v) (hd : decode code pc = .ok (.iadd, 1)) (k : own_G B n0 Q kc ks cells slots h (pc + 1) Ls (.int v :: st)) : own_G B n0 Q kc ks cells slots h pc Ls (.int z :: .int x :: st) := by
  subst hv
  obtain ⟨p, l, e, R, s, m, args, below, meth, c, k0, P⟩ := B
  obtain ⟨rfl, rfl, hx, hZ, hown, hby, hml, hrt, hlk, hnm, hw, hPe⟩ := H
  intro T locs c1 s1 X F hc hs eT hk
  exact own_go (fun t q => XS.iadd X.here hx rfl (hb hby hd) rfl q) (k T locs c1 s1 X F hc hs eT hk)
theorem own_isub (H : own_Ok B Z a0 l R y code N ret) {x z v : Int32} (hv : x - z = v) (hd : decode code pc = .ok (.isub, 1)) (k : own_G B n0 Q kc ks cells slots h (pc + 1) Ls (.int v :: st)) : own_G B n0 Q kc ks cells slots h pc Ls (.int z :: .int x :: st) := by
  subst hv
  obtain ⟨p, l, e, R, s, m, args, below, meth, c, k0, P⟩ := B
  obtain ⟨rfl, rfl, hx, hZ, hown, hby, hml, hrt, hlk, hnm, hw, hPe⟩ := H
  intro T locs c1 s1 X F hc hs eT hk
  exact own_go (fun t q => XS.isub X.here hx rfl (hb hby hd) rfl q) (k T locs c1 s1 X F hc hs eT hk)
theorem own_imul (H : own_Ok B Z a0 l R y code N ret) {x z v : Int32} (hv : x * z = v) (hd : decode code pc = .ok (.imul, 1)) (k : own_G B n0 Q kc ks cells slots h (pc + 1) Ls (.int v :: st)) : own_G B n0 Q kc ks cells slots h pc Ls (.int z :: .int x :: st) := by
  subst hv
  obtain ⟨p, l, e, R, s, m, args, below, meth, c, k0, P⟩ := B
  obtain ⟨rfl, rfl, hx, hZ, hown, hby, hml, hrt, hlk, hnm, hw, hPe⟩ := H
  intro T locs c1 s1 X F hc hs eT hk
  exact own_go (fun t q => XS.imul X.here hx rfl (hb hby hd) rfl q) (k T locs c1 s1 X F hc hs eT hk)
theorem own_iand (H : own_Ok B Z a0 l R y code N ret) {x z v : Int32} (hv : x &&& z = v) (hd : decode code pc = .ok (.iand, 1)) (k : own_G B n0 Q kc ks cells slots h (pc + 1) Ls (.int v :: st)) : own_G B n0 Q kc ks cells slots h pc Ls (.int z :: .int x :: st) := by
  subst hv
  obtain ⟨p, l, e, R, s, m, args, below, meth, c, k0, P⟩ := B
  obtain ⟨rfl, rfl, hx, hZ, hown, hby, hml, hrt, hlk, hnm, hw, hPe⟩ := H
  intro T locs c1 s1 X F hc hs eT hk
  exact own_go (fun t q => XS.iand X.here hx rfl (hb hby hd) rfl q) (k T locs c1 s1 X F hc hs eT hk)
theorem own_ior (H : own_Ok B Z a0 l R y code N ret) {x z v : Int32} (hv : x ||| z = v) (hd : decode code pc = .ok (.ior, 1)) (k : own_G B n0 Q kc ks cells slots h (pc + 1) Ls (.int v :: st)) : own_G B n0 Q kc ks cells slots h pc Ls (.int z :: .int x :: st) := by
  subst hv
  obtain ⟨p, l, e, R, s, m, args, below, meth, c, k0, P⟩ := B
  obtain ⟨rfl, rfl, hx, hZ, hown, hby, hml, hrt, hlk, hnm, hw, hPe⟩ := H
  intro T locs c1 s1 X F hc hs eT hk
  exact own_go (fun t q => XT.ior X.here hx rfl (hb hby hd) rfl q) (k T locs c1 s1 X F hc hs eT hk)
theorem own_ixor (H : own_Ok B Z a0 l R y code N ret) {x z v : Int32} (hv : x ^^^ z = v) (hd : decode code pc = .ok (.ixor, 1)) (k : own_G B n0 Q kc ks cells slots h (pc + 1) Ls (.int v :: st)) : own_G B n0 Q kc ks cells slots h pc Ls (.int z :: .int x :: st) := by
  subst hv
  obtain ⟨p, l, e, R, s, m, args, below, meth, c, k0, P⟩ := B
  obtain ⟨rfl, rfl, hx, hZ, hown, hby, hml, hrt, hlk, hnm, hw, hPe⟩ := H
  intro T locs c1 s1 X F hc hs eT hk
  exact own_go (fun t q => XT.ixor X.here hx rfl (hb hby hd) rfl q) (k T locs c1 s1 X F hc hs eT hk)
theorem own_ishl (H : own_Ok B Z a0 l R y code N ret) {x z v : Int32} (hv : x <<< (z &&& 31) = v) (hd : decode code pc = .ok (.ishl, 1)) (k : own_G B n0 Q kc ks cells slots h (pc + 1) Ls (.int v :: st)) : own_G B n0 Q kc ks cells slots h pc Ls (.int z :: .int x :: st) := by
  subst hv
  obtain ⟨p, l, e, R, s, m, args, below, meth, c, k0, P⟩ := B
  obtain ⟨rfl, rfl, hx, hZ, hown, hby, hml, hrt, hlk, hnm, hw, hPe⟩ := H
  intro T locs c1 s1 X F hc hs eT hk
  exact own_go (fun t q => XT.ishl X.here hx rfl (hb hby hd) rfl q) (k T locs c1 s1 X F hc hs eT hk)
theorem own_ishr (H : own_Ok B Z a0 l R y code N ret) {x z v : Int32} (hv : x >>> (z &&& 31) = v) (hd : decode code pc = .ok (.ishr, 1)) (k : own_G B n0 Q kc ks cells slots h (pc + 1) Ls (.int v :: st)) : own_G B n0 Q kc ks cells slots h pc Ls (.int z :: .int x :: st) := by
  subst hv
  obtain ⟨p, l, e, R, s, m, args, below, meth, c, k0, P⟩ := B
  obtain ⟨rfl, rfl, hx, hZ, hown, hby, hml, hrt, hlk, hnm, hw, hPe⟩ := H
  intro T locs c1 s1 X F hc hs eT hk
  exact own_go (fun t q => XT.ishr X.here hx rfl (hb hby hd) rfl q) (k T locs c1 s1 X F hc hs eT hk)
theorem own_iushr (H : own_Ok B Z a0 l R y code N ret) {x z v : Int32} (hv : XT.ushr x z = v) (hd : decode code pc = .ok (.iushr, 1)) (k : own_G B n0 Q kc ks cells slots h (pc + 1) Ls (.int v :: st)) : own_G B n0 Q kc ks cells slots h pc Ls (.int z :: .int x :: st) := by
  subst hv
  obtain ⟨p, l, e, R, s, m, args, below, meth, c, k0, P⟩ := B
  obtain ⟨rfl, rfl, hx, hZ, hown, hby, hml, hrt, hlk, hnm, hw, hPe⟩ := H
  intro T locs c1 s1 X F hc hs eT hk
  exact own_go (fun t q => XT.iushr X.here hx rfl (hb hby hd) rfl q) (k T locs c1 s1 X F hc hs eT hk)
theorem own_ladd (H : own_Ok B Z a0 l R y code N ret) {x z v : Int64} (hv : x + z = v) (hd : decode code pc = .ok (.ladd, 1)) (k : own_G B n0 Q kc ks cells slots h (pc + 1) Ls (.long v :: st)) : own_G B n0 Q kc ks cells slots h pc Ls (.long z :: .long x :: st) := by
  subst hv
  obtain ⟨p, l, e, R, s, m, args, below, meth, c, k0, P⟩ := B
  obtain ⟨rfl, rfl, hx, hZ, hown, hby, hml, hrt, hlk, hnm, hw, hPe⟩ := H
  intro T locs c1 s1 X F hc hs eT hk
  exact own_go (fun t q => XT.ladd X.here hx rfl (hb hby hd) rfl q) (k T locs c1 s1 X F hc hs eT hk)
theorem own_lsub (H : own_Ok B Z a0 l R y code N ret) {x z v : Int64} (hv : x - z = v) (hd : decode code pc = .ok (.lsub, 1)) (k : own_G B n0 Q kc ks cells slots h (pc + 1) Ls (.long v :: st)) : own_G B n0 Q kc ks cells slots h pc Ls (.long z :: .long x :: st) := by
  subst hv
  obtain ⟨p, l, e, R, s, m, args, below, meth, c, k0, P⟩ := B
  obtain ⟨rfl, rfl, hx, hZ, hown, hby, hml, hrt, hlk, hnm, hw, hPe⟩ := H
  intro T locs c1 s1 X F hc hs eT hk
  exact own_go (fun t q => XT.lsub X.here hx rfl (hb hby hd) rfl q) (k T locs c1 s1 X F hc hs eT hk)
theorem own_lmul (H : own_Ok B Z a0 l R y code N ret) {x z v : Int64} (hv : x * z = v) (hd : decode code pc = .ok (.lmul, 1)) (k : own_G B n0 Q kc ks cells slots h (pc + 1) Ls (.long v :: st)) : own_G B n0 Q kc ks cells slots h pc Ls (.long z :: .long x :: st) := by
  subst hv
  obtain ⟨p, l, e, R, s, m, args, below, meth, c, k0, P⟩ := B
  obtain ⟨rfl, rfl, hx, hZ, hown, hby, hml, hrt, hlk, hnm, hw, hPe⟩ := H
  intro T locs c1 s1 X F hc hs eT hk
  exact own_go (fun t q => XT.lmul X.here hx rfl (hb hby hd) rfl q) (k T locs c1 s1 X F hc hs eT hk)
theorem own_land (H : own_Ok B Z a0 l R y code N ret) {x z v : Int64} (hv : x &&& z = v) (hd : decode code pc = .ok (.land, 1)) (k : own_G B n0 Q kc ks cells slots h (pc + 1) Ls (.long v :: st)) : own_G B n0 Q kc ks cells slots h pc Ls (.long z :: .long x :: st) := by
  subst hv
  obtain ⟨p, l, e, R, s, m, args, below, meth, c, k0, P⟩ := B
  obtain ⟨rfl, rfl, hx, hZ, hown, hby, hml, hrt, hlk, hnm, hw, hPe⟩ := H
  intro T locs c1 s1 X F hc hs eT hk
  exact own_go (fun t q => XT.land X.here hx rfl (hb hby hd) rfl q) (k T locs c1 s1 X F hc hs eT hk)
theorem own_lor (H : own_Ok B Z a0 l R y code N ret) {x z v : Int64} (hv : x ||| z = v) (hd : decode code pc = .ok (.lor, 1)) (k : own_G B n0 Q kc ks cells slots h (pc + 1) Ls (.long v :: st)) : own_G B n0 Q kc ks cells slots h pc Ls (.long z :: .long x :: st) := by
  subst hv
  obtain ⟨p, l, e, R, s, m, args, below, meth, c, k0, P⟩ := B
  obtain ⟨rfl, rfl, hx, hZ, hown, hby, hml, hrt, hlk, hnm, hw, hPe⟩ := H
  intro T locs c1 s1 X F hc hs eT hk
  exact own_go (fun t q => XT.lor X.here hx rfl (hb hby hd) rfl q) (k T locs c1 s1 X F hc hs eT hk)
theorem own_lxor (H : own_Ok B Z a0 l R y code N ret) {x z v : Int64} (hv : x ^^^ z = v) (hd : decode code pc = .ok (.lxor, 1)) (k : own_G B n0 Q kc ks cells slots h (pc + 1) Ls (.long v :: st)) : own_G B n0 Q kc ks cells slots h pc Ls (.long z :: .long x :: st) := by
  subst hv
  obtain ⟨p, l, e, R, s, m, args, below, meth, c, k0, P⟩ := B
  obtain ⟨rfl, rfl, hx, hZ, hown, hby, hml, hrt, hlk, hnm, hw, hPe⟩ := H
  intro T locs c1 s1 X F hc hs eT hk
  exact own_go (fun t q => XT.lxor X.here hx rfl (hb hby hd) rfl q) (k T locs c1 s1 X F hc hs eT hk)
theorem own_idiv (H : own_Ok B Z a0 l R y code N ret) {x z v : Int32} (hv : x / z = v) (hd : decode code pc = .ok (.idiv, 1)) (hz : z ≠ 0) (k : own_G B n0 Q kc ks cells slots h (pc + 1) Ls (.int v :: st)) : own_G B n0 Q kc ks cells slots h pc Ls (.int z :: .int x :: st) := by
  subst hv
  obtain ⟨p, l, e, R, s, m, args, below, meth, c, k0, P⟩ := B
  obtain ⟨rfl, rfl, hx, hZ, hown, hby, hml, hrt, hlk, hnm, hw, hPe⟩ := H
  intro T locs c1 s1 X F hc hs eT hk
  exact own_go (fun t q => XS.idiv X.here hx rfl (hb hby hd) rfl hz q) (k T locs c1 s1 X F hc hs eT hk)
theorem own_irem (H : own_Ok B Z a0 l R y code N ret) {x z v : Int32} (hv : x % z = v) (hd : decode code pc = .ok (.irem, 1)) (hz : z ≠ 0) (k : own_G B n0 Q kc ks cells slots h (pc + 1) Ls (.int v :: st)) : own_G B n0 Q kc ks cells slots h pc Ls (.int z :: .int x :: st) := by
  subst hv
  obtain ⟨p, l, e, R, s, m, args, below, meth, c, k0, P⟩ := B
  obtain ⟨rfl, rfl, hx, hZ, hown, hby, hml, hrt, hlk, hnm, hw, hPe⟩ := H
  intro T locs c1 s1 X F hc hs eT hk
  exact own_go (fun t q => iremM X hx rfl (hb hby hd) rfl hz q) (k T locs c1 s1 X F hc hs eT hk)
theorem own_ldiv (H : own_Ok B Z a0 l R y code N ret) {x z v : Int64} (hv : x / z = v) (hd : decode code pc = .ok (.ldiv, 1)) (hz : z ≠ 0) (k : own_G B n0 Q kc ks cells slots h (pc + 1) Ls (.long v :: st)) : own_G B n0 Q kc ks cells slots h pc Ls (.long z :: .long x :: st) := by
  subst hv
  obtain ⟨p, l, e, R, s, m, args, below, meth, c, k0, P⟩ := B
  obtain ⟨rfl, rfl, hx, hZ, hown, hby, hml, hrt, hlk, hnm, hw, hPe⟩ := H
  intro T locs c1 s1 X F hc hs eT hk
  exact own_go (fun t q => XT.ldiv X.here hx rfl (hb hby hd) rfl hz q) (k T locs c1 s1 X F hc hs eT hk)
theorem own_lrem (H : own_Ok B Z a0 l R y code N ret) {x z v : Int64} (hv : x - x / z * z = v) (hd : decode code pc = .ok (.lrem, 1)) (hz : z ≠ 0) (k : own_G B n0 Q kc ks cells slots h (pc + 1) Ls (.long v :: st)) : own_G B n0 Q kc ks cells slots h pc Ls (.long z :: .long x :: st) := by
  subst hv
  obtain ⟨p, l, e, R, s, m, args, below, meth, c, k0, P⟩ := B
  obtain ⟨rfl, rfl, hx, hZ, hown, hby, hml, hrt, hlk, hnm, hw, hPe⟩ := H
  intro T locs c1 s1 X F hc hs eT hk
  exact own_go (fun t q => XT.lrem X.here hx rfl (hb hby hd) rfl hz q) (k T locs c1 s1 X F hc hs eT hk)
theorem own_lshl (H : own_Ok B Z a0 l R y code N ret) {x v : Int64} {z : Int32} (hv : x <<< (z.toInt64 &&& 63) = v) (hd : decode code pc = .ok (.lshl, 1)) (k : own_G B n0 Q kc ks cells slots h (pc + 1) Ls (.long v :: st)) : own_G B n0 Q kc ks cells slots h pc Ls (.int z :: .long x :: st) := by
  subst hv
  obtain ⟨p, l, e, R, s, m, args, below, meth, c, k0, P⟩ := B
  obtain ⟨rfl, rfl, hx, hZ, hown, hby, hml, hrt, hlk, hnm, hw, hPe⟩ := H
  intro T locs c1 s1 X F hc hs eT hk
  exact own_go (fun t q => XT.lshl X.here hx rfl (hb hby hd) rfl q) (k T locs c1 s1 X F hc hs eT hk)
theorem own_lshr (H : own_Ok B Z a0 l R y code N ret) {x v : Int64} {z : Int32} (hv : x >>> (z.toInt64 &&& 63) = v) (hd : decode code pc = .ok (.lshr, 1)) (k : own_G B n0 Q kc ks cells slots h (pc + 1) Ls (.long v :: st)) : own_G B n0 Q kc ks cells slots h pc Ls (.int z :: .long x :: st) := by
  subst hv
  obtain ⟨p, l, e, R, s, m, args, below, meth, c, k0, P⟩ := B
  obtain ⟨rfl, rfl, hx, hZ, hown, hby, hml, hrt, hlk, hnm, hw, hPe⟩ := H
  intro T locs c1 s1 X F hc hs eT hk
  exact own_go (fun t q => XT.lshr X.here hx rfl (hb hby hd) rfl q) (k T locs c1 s1 X F hc hs eT hk)
theorem own_lushr (H : own_Ok B Z a0 l R y code N ret) {x v : Int64} {z : Int32} (hv : XT.ushrL x z = v) (hd : decode code pc = .ok (.lushr, 1)) (k : own_G B n0 Q kc ks cells slots h (pc + 1) Ls (.long v :: st)) : own_G B n0 Q kc ks cells slots h pc Ls (.int z :: .long x :: st) := by
  subst hv
  obtain ⟨p, l, e, R, s, m, args, below, meth, c, k0, P⟩ := B
  obtain ⟨rfl, rfl, hx, hZ, hown, hby, hml, hrt, hlk, hnm, hw, hPe⟩ := H
  intro T locs c1 s1 X F hc hs eT hk
  exact own_go (fun t q => XT.lushr X.here hx rfl (hb hby hd) rfl q) (k T locs c1 s1 X F hc hs eT hk)
theorem own_ineg (H : own_Ok B Z a0 l R y code N ret) {x : Int32} {v : Int32} (hv : -x = v) (hd : decode code pc = .ok (.ineg, 1)) (k : own_G B n0 Q kc ks cells slots h (pc + 1) Ls (.int v :: st)) : own_G B n0 Q kc ks cells slots h pc Ls (.int x :: st) := by
  subst hv
  obtain ⟨p, l, e, R, s, m, args, below, meth, c, k0, P⟩ := B
  obtain ⟨rfl, rfl, hx, hZ, hown, hby, hml, hrt, hlk, hnm, hw, hPe⟩ := H
  intro T locs c1 s1 X F hc hs eT hk
  exact own_go (fun t q => XS.ineg X.here hx rfl (hb hby hd) rfl q) (k T locs c1 s1 X F hc hs eT hk)
theorem own_lneg (H : own_Ok B Z a0 l R y code N ret) {x : Int64} {v : Int64} (hv : -x = v) (hd : decode code pc = .ok (.lneg, 1)) (k : own_G B n0 Q kc ks cells slots h (pc + 1) Ls (.long v :: st)) : own_G B n0 Q kc ks cells slots h pc Ls (.long x :: st) := by
  subst hv
  obtain ⟨p, l, e, R, s, m, args, below, meth, c, k0, P⟩ := B
  obtain ⟨rfl, rfl, hx, hZ, hown, hby, hml, hrt, hlk, hnm, hw, hPe⟩ := H
  intro T locs c1 s1 X F hc hs eT hk
  exact own_go (fun t q => XT.lneg X.here hx rfl (hb hby hd) rfl q) (k T locs c1 s1 X F hc hs eT hk)
theorem own_i2l (H : own_Ok B Z a0 l R y code N ret) {x : Int32} {v : Int64} (hv : x.toInt64 = v) (hd : decode code pc = .ok (.i2l, 1)) (k : own_G B n0 Q kc ks cells slots h (pc + 1) Ls (.long v :: st)) : own_G B n0 Q kc ks cells slots h pc Ls (.int x :: st) := by
  subst hv
  obtain ⟨p, l, e, R, s, m, args, below, meth, c, k0, P⟩ := B
  obtain ⟨rfl, rfl, hx, hZ, hown, hby, hml, hrt, hlk, hnm, hw, hPe⟩ := H
  intro T locs c1 s1 X F hc hs eT hk
  exact own_go (fun t q => XT.i2l X.here hx rfl (hb hby hd) rfl q) (k T locs c1 s1 X F hc hs eT hk)
theorem own_l2i (H : own_Ok B Z a0 l R y code N ret) {x : Int64} {v : Int32} (hv : x.toInt32 = v) (hd : decode code pc = .ok (.l2i, 1)) (k : own_G B n0 Q kc ks cells slots h (pc + 1) Ls (.int v :: st)) : own_G B n0 Q kc ks cells slots h pc Ls (.long x :: st) := by
  subst hv
  obtain ⟨p, l, e, R, s, m, args, below, meth, c, k0, P⟩ := B
  obtain ⟨rfl, rfl, hx, hZ, hown, hby, hml, hrt, hlk, hnm, hw, hPe⟩ := H
  intro T locs c1 s1 X F hc hs eT hk
  exact own_go (fun t q => XT.l2i X.here hx rfl (hb hby hd) rfl q) (k T locs c1 s1 X F hc hs eT hk)
theorem own_i2b (H : own_Ok B Z a0 l R y code N ret) {x : Int32} {v : Int32} (hv : x.toInt8.toInt32 = v) (hd : decode code pc = .ok (.i2b, 1)) (k : own_G B n0 Q kc ks cells slots h (pc + 1) Ls (.int v :: st)) : own_G B n0 Q kc ks cells slots h pc Ls (.int x :: st) := by
  subst hv
  obtain ⟨p, l, e, R, s, m, args, below, meth, c, k0, P⟩ := B
  obtain ⟨rfl, rfl, hx, hZ, hown, hby, hml, hrt, hlk, hnm, hw, hPe⟩ := H
  intro T locs c1 s1 X F hc hs eT hk
  exact own_go (fun t q => XT.i2b X.here hx rfl (hb hby hd) rfl q) (k T locs c1 s1 X F hc hs eT hk)
theorem own_i2c (H : own_Ok B Z a0 l R y code N ret) {x : Int32} {v : Int32} (hv : x.toUInt32.toUInt16.toUInt32.toInt32 = v) (hd : decode code pc = .ok (.i2c, 1)) (k : own_G B n0 Q kc ks cells slots h (pc + 1) Ls (.int v :: st)) : own_G B n0 Q kc ks cells slots h pc Ls (.int x :: st) := by
  subst hv
  obtain ⟨p, l, e, R, s, m, args, below, meth, c, k0, P⟩ := B
  obtain ⟨rfl, rfl, hx, hZ, hown, hby, hml, hrt, hlk, hnm, hw, hPe⟩ := H
  intro T locs c1 s1 X F hc hs eT hk
  exact own_go (fun t q => XT.i2c X.here hx rfl (hb hby hd) rfl q) (k T locs c1 s1 X F hc hs eT hk)
theorem own_i2s (H : own_Ok B Z a0 l R y code N ret) {x : Int32} {v : Int32} (hv : x.toInt16.toInt32 = v) (hd : decode code pc = .ok (.i2s, 1)) (k : own_G B n0 Q kc ks cells slots h (pc + 1) Ls (.int v :: st)) : own_G B n0 Q kc ks cells slots h pc Ls (.int x :: st) := by
  subst hv
  obtain ⟨p, l, e, R, s, m, args, below, meth, c, k0, P⟩ := B
  obtain ⟨rfl, rfl, hx, hZ, hown, hby, hml, hrt, hlk, hnm, hw, hPe⟩ := H
  intro T locs c1 s1 X F hc hs eT hk
  exact own_go (fun t q => XT.i2s X.here hx rfl (hb hby hd) rfl q) (k T locs c1 s1 X F hc hs eT hk)
theorem own_iconst (H : own_Ok B Z a0 l R y code N ret) {i : Int} (v : Int32) (hv : Int32.ofInt i = v) (hd : decode code pc = .ok (.iconst i, 1)) (k : own_G B n0 Q kc ks cells slots h (pc + 1) Ls (.int v :: st)) : own_G B n0 Q kc ks cells slots h pc Ls st := by
  obtain ⟨p, l, e, R, s, m, args, below, meth, c, k0, P⟩ := B
  obtain ⟨rfl, rfl, hx, hZ, hown, hby, hml, hrt, hlk, hnm, hw, hPe⟩ := H
  intro T locs c1 s1 X F hc hs eT hk
  exact own_go (fun t q => XT.iconstV X.here hx rfl v (hb hby hd) hv q) (k T locs c1 s1 X F hc hs eT hk)
theorem own_bipush (H : own_Ok B Z a0 l R y code N ret) {i : Int} (v : Int32) (hv : (Int8.ofInt i).toInt32 = v) (hd : decode code pc = .ok (.bipush i, 2)) (k : own_G B n0 Q kc ks cells slots h (pc + 2) Ls (.int v :: st)) : own_G B n0 Q kc ks cells slots h pc Ls st := by
  obtain ⟨p, l, e, R, s, m, args, below, meth, c, k0, P⟩ := B
  obtain ⟨rfl, rfl, hx, hZ, hown, hby, hml, hrt, hlk, hnm, hw, hPe⟩ := H
  intro T locs c1 s1 X F hc hs eT hk
  exact own_go (fun t q => XT.bipushV X.here hx rfl v (hb hby hd) hv q) (k T locs c1 s1 X F hc hs eT hk)
theorem own_sipush (H : own_Ok B Z a0 l R y code N ret) {i : Int} (v : Int32) (hv : (Int16.ofInt i).toInt32 = v) (hd : decode code pc = .ok (.sipush i, 3)) (k : own_G B n0 Q kc ks cells slots h (pc + 3) Ls (.int v :: st)) : own_G B n0 Q kc ks cells slots h pc Ls st := by
  obtain ⟨p, l, e, R, s, m, args, below, meth, c, k0, P⟩ := B
  obtain ⟨rfl, rfl, hx, hZ, hown, hby, hml, hrt, hlk, hnm, hw, hPe⟩ := H
  intro T locs c1 s1 X F hc hs eT hk
  exact own_go (fun t q => XT.sipushV X.here hx rfl v (hb hby hd) hv q) (k T locs c1 s1 X F hc hs eT hk)
theorem own_lconst (H : own_Ok B Z a0 l R y code N ret) {i : Fin 2} (v : Int64) (hv : Int64.ofNat i = v) (hd : decode code pc = .ok (.lconst i, 1)) (k : own_G B n0 Q kc ks cells slots h (pc + 1) Ls (.long v :: st)) : own_G B n0 Q kc ks cells slots h pc Ls st := by
  obtain ⟨p, l, e, R, s, m, args, below, meth, c, k0, P⟩ := B
  obtain ⟨rfl, rfl, hx, hZ, hown, hby, hml, hrt, hlk, hnm, hw, hPe⟩ := H
  intro T locs c1 s1 X F hc hs eT hk
  exact own_go (fun t q => XT.lconstV X.here hx rfl v (hb hby hd) hv q) (k T locs c1 s1 X F hc hs eT hk)
theorem own_aconst_null (H : own_Ok B Z a0 l R y code N ret)  (hd : decode code pc = .ok (.aconst_null, 1)) (k : own_G B n0 Q kc ks cells slots h (pc + 1) Ls (.null :: st)) : own_G B n0 Q kc ks cells slots h pc Ls st := by
  obtain ⟨p, l, e, R, s, m, args, below, meth, c, k0, P⟩ := B
  obtain ⟨rfl, rfl, hx, hZ, hown, hby, hml, hrt, hlk, hnm, hw, hPe⟩ := H
  intro T locs c1 s1 X F hc hs eT hk
  exact own_go (fun t q => XS.aconstNull X.here hx rfl (hb hby hd)  q) (k T locs c1 s1 X F hc hs eT hk)
theorem own_dup (H : own_Ok B Z a0 l R y code N ret) {x : Value} (hq : x.category = 1) (hd : decode code pc = .ok (.dup, 1)) (k : own_G B n0 Q kc ks cells slots h (pc + 1) Ls (x :: x :: st)) : own_G B n0 Q kc ks cells slots h pc Ls (x :: st) := by
  obtain ⟨p, l, e, R, s, m, args, below, meth, c, k0, P⟩ := B
  obtain ⟨rfl, rfl, hx, hZ, hown, hby, hml, hrt, hlk, hnm, hw, hPe⟩ := H
  intro T locs c1 s1 X F hc hs eT hk
  exact own_go (fun t q => XS.dup X.here hx rfl (hb hby hd) rfl hq q) (k T locs c1 s1 X F hc hs eT hk)
theorem own_dup2 (H : own_Ok B Z a0 l R y code N ret) {x z : Value} (hq : x.category = 1) (hq' : z.category = 1) (hd : decode code pc = .ok (.dup2, 1)) (k : own_G B n0 Q kc ks cells slots h (pc + 1) Ls (x :: z :: x :: z :: st)) : own_G B n0 Q kc ks cells slots h pc Ls (x :: z :: st) := by
  obtain ⟨p, l, e, R, s, m, args, below, meth, c, k0, P⟩ := B
  obtain ⟨rfl, rfl, hx, hZ, hown, hby, hml, hrt, hlk, hnm, hw, hPe⟩ := H
  intro T locs c1 s1 X F hc hs eT hk
  exact own_go (fun t q => XT.dup2 X.here hx rfl (hb hby hd) rfl hq hq' q) (k T locs c1 s1 X F hc hs eT hk)
theorem own_dup2L (H : own_Ok B Z a0 l R y code N ret) {x : Int64} (hd : decode code pc = .ok (.dup2, 1)) (k : own_G B n0 Q kc ks cells slots h (pc + 1) Ls (.long x :: .long x :: st)) : own_G B n0 Q kc ks cells slots h pc Ls (.long x :: st) := by
  obtain ⟨p, l, e, R, s, m, args, below, meth, c, k0, P⟩ := B
  obtain ⟨rfl, rfl, hx, hZ, hown, hby, hml, hrt, hlk, hnm, hw, hPe⟩ := H
  intro T locs c1 s1 X F hc hs eT hk
  exact own_go (fun t q => XT.dup2L X.here hx rfl (hb hby hd) rfl q) (k T locs c1 s1 X F hc hs eT hk)
theorem own_dup_x1 (H : own_Ok B Z a0 l R y code N ret) {x z : Value} (hq : x.category = 1) (hq' : z.category = 1) (hd : decode code pc = .ok (.dup_x1, 1)) (k : own_G B n0 Q kc ks cells slots h (pc + 1) Ls (x :: z :: x :: st)) : own_G B n0 Q kc ks cells slots h pc Ls (x :: z :: st) := by
  obtain ⟨p, l, e, R, s, m, args, below, meth, c, k0, P⟩ := B
  obtain ⟨rfl, rfl, hx, hZ, hown, hby, hml, hrt, hlk, hnm, hw, hPe⟩ := H
  intro T locs c1 s1 X F hc hs eT hk
  exact own_go (fun t q => XT.dupX1 X.here hx rfl (hb hby hd) rfl hq hq' q) (k T locs c1 s1 X F hc hs eT hk)
theorem own_pop (H : own_Ok B Z a0 l R y code N ret) {x : Value} (hq : x.category = 1) (hd : decode code pc = .ok (.pop, 1)) (k : own_G B n0 Q kc ks cells slots h (pc + 1) Ls st) : own_G B n0 Q kc ks cells slots h pc Ls (x :: st) := by
  obtain ⟨p, l, e, R, s, m, args, below, meth, c, k0, P⟩ := B
  obtain ⟨rfl, rfl, hx, hZ, hown, hby, hml, hrt, hlk, hnm, hw, hPe⟩ := H
  intro T locs c1 s1 X F hc hs eT hk
  exact own_go (fun t q => XT.pop X.here hx rfl (hb hby hd) rfl hq q) (k T locs c1 s1 X F hc hs eT hk)
theorem own_iload_n (H : own_Ok B Z a0 l R y code N ret) {i : Fin 4} {v : Int32} (hl : Ls[i.val]? = some (.val (.int v))) (hd : decode code pc = .ok (.iload_n i, 1)) (k : own_G B n0 Q kc ks cells slots h (pc + 1) Ls (.int v :: st)) : own_G B n0 Q kc ks cells slots h pc Ls st := by
  obtain ⟨p, l, e, R, s, m, args, below, meth, c, k0, P⟩ := B
  obtain ⟨rfl, rfl, hx, hZ, hown, hby, hml, hrt, hlk, hnm, hw, hPe⟩ := H
  intro T locs c1 s1 X F hc hs eT hk
  exact own_go (fun t q => XS.iloadN X.here hx rfl (hb hby hd) hl q) (k T locs c1 s1 X F hc hs eT hk)
theorem own_iload (H : own_Ok B Z a0 l R y code N ret) {i : Nat} {v : Int32} (hl : Ls[i]? = some (.val (.int v))) (hd : decode code pc = .ok (.iload i, 2)) (k : own_G B n0 Q kc ks cells slots h (pc + 2) Ls (.int v :: st)) : own_G B n0 Q kc ks cells slots h pc Ls st := by
  obtain ⟨p, l, e, R, s, m, args, below, meth, c, k0, P⟩ := B
  obtain ⟨rfl, rfl, hx, hZ, hown, hby, hml, hrt, hlk, hnm, hw, hPe⟩ := H
  intro T locs c1 s1 X F hc hs eT hk
  exact own_go (fun t q => XS.iload X.here hx rfl (hb hby hd) hl q) (k T locs c1 s1 X F hc hs eT hk)
theorem own_lload_n (H : own_Ok B Z a0 l R y code N ret) {i : Fin 4} {v : Int64} (hl : Ls[i.val]? = some (.val (.long v))) (hd : decode code pc = .ok (.lload_n i, 1)) (k : own_G B n0 Q kc ks cells slots h (pc + 1) Ls (.long v :: st)) : own_G B n0 Q kc ks cells slots h pc Ls st := by
  obtain ⟨p, l, e, R, s, m, args, below, meth, c, k0, P⟩ := B
  obtain ⟨rfl, rfl, hx, hZ, hown, hby, hml, hrt, hlk, hnm, hw, hPe⟩ := H
  intro T locs c1 s1 X F hc hs eT hk
  exact own_go (fun t q => XT.lloadN X.here hx rfl (hb hby hd) hl q) (k T locs c1 s1 X F hc hs eT hk)
theorem own_lload (H : own_Ok B Z a0 l R y code N ret) {i : Nat} {v : Int64} (hl : Ls[i]? = some (.val (.long v))) (hd : decode code pc = .ok (.lload i, 2)) (k : own_G B n0 Q kc ks cells slots h (pc + 2) Ls (.long v :: st)) : own_G B n0 Q kc ks cells slots h pc Ls st := by
  obtain ⟨p, l, e, R, s, m, args, below, meth, c, k0, P⟩ := B
  obtain ⟨rfl, rfl, hx, hZ, hown, hby, hml, hrt, hlk, hnm, hw, hPe⟩ := H
  intro T locs c1 s1 X F hc hs eT hk
  exact own_go (fun t q => XT.lload X.here hx rfl (hb hby hd) hl q) (k T locs c1 s1 X F hc hs eT hk)
theorem own_aload_n (H : own_Ok B Z a0 l R y code N ret) {i : Fin 4} {v : Value} (hl : Ls[i.val]? = some (.val v)) (hv : v.isRef = true) (hd : decode code pc = .ok (.aload_n i, 1)) (k : own_G B n0 Q kc ks cells slots h (pc + 1) Ls (v :: st)) : own_G B n0 Q kc ks cells slots h pc Ls st := by
  obtain ⟨p, l, e, R, s, m, args, below, meth, c, k0, P⟩ := B
  obtain ⟨rfl, rfl, hx, hZ, hown, hby, hml, hrt, hlk, hnm, hw, hPe⟩ := H
  intro T locs c1 s1 X F hc hs eT hk
  exact own_go (fun t q => XS.aloadN X.here hx rfl (hb hby hd) hl hv q) (k T locs c1 s1 X F hc hs eT hk)
theorem own_aload (H : own_Ok B Z a0 l R y code N ret) {i : Nat} {v : Value} (hl : Ls[i]? = some (.val v)) (hv : v.isRef = true) (hd : decode code pc = .ok (.aload i, 2)) (k : own_G B n0 Q kc ks cells slots h (pc + 2) Ls (v :: st)) : own_G B n0 Q kc ks cells slots h pc Ls st := by
  obtain ⟨p, l, e, R, s, m, args, below, meth, c, k0, P⟩ := B
  obtain ⟨rfl, rfl, hx, hZ, hown, hby, hml, hrt, hlk, hnm, hw, hPe⟩ := H
  intro T locs c1 s1 X F hc hs eT hk
  exact own_go (fun t q => XS.aload X.here hx rfl (hb hby hd) hl hv q) (k T locs c1 s1 X F hc hs eT hk)
theorem own_istore_n (H : own_Ok B Z a0 l R y code N ret) {i : Fin 4} {x : Int32} (Ls' : Array Slot) (hl : storeLocals Ls i.val (.int x) = some Ls') (hd : decode code pc = .ok (.istore_n i, 1)) (k : own_G B n0 Q kc ks cells slots h (pc + 1) Ls' st) : own_G B n0 Q kc ks cells slots h pc Ls (.int x :: st) := by
  obtain ⟨p, l, e, R, s, m, args, below, meth, c, k0, P⟩ := B
  obtain ⟨rfl, rfl, hx, hZ, hown, hby, hml, hrt, hlk, hnm, hw, hPe⟩ := H
  intro T locs c1 s1 X F hc hs eT hk
  exact own_go (fun t q => XS.istoreN X.here hx rfl (hb hby hd) rfl hl q) (k T locs c1 s1 X F hc hs eT hk)
theorem own_istore (H : own_Ok B Z a0 l R y code N ret) {i : Nat} {x : Int32} (Ls' : Array Slot) (hl : storeLocals Ls i (.int x) = some Ls') (hd : decode code pc = .ok (.istore i, 2)) (k : own_G B n0 Q kc ks cells slots h (pc + 2) Ls' st) : own_G B n0 Q kc ks cells slots h pc Ls (.int x :: st) := by
  obtain ⟨p, l, e, R, s, m, args, below, meth, c, k0, P⟩ := B
  obtain ⟨rfl, rfl, hx, hZ, hown, hby, hml, hrt, hlk, hnm, hw, hPe⟩ := H
  intro T locs c1 s1 X F hc hs eT hk
  exact own_go (fun t q => XS.istore X.here hx rfl (hb hby hd) rfl hl q) (k T locs c1 s1 X F hc hs eT hk)
theorem own_lstore_n (H : own_Ok B Z a0 l R y code N ret) {i : Fin 4} {x : Int64} (Ls' : Array Slot) (hl : storeLocals Ls i.val (.long x) = some Ls') (hd : decode code pc = .ok (.lstore_n i, 1)) (k : own_G B n0 Q kc ks cells slots h (pc + 1) Ls' st) : own_G B n0 Q kc ks cells slots h pc Ls (.long x :: st) := by
  obtain ⟨p, l, e, R, s, m, args, below, meth, c, k0, P⟩ := B
  obtain ⟨rfl, rfl, hx, hZ, hown, hby, hml, hrt, hlk, hnm, hw, hPe⟩ := H
  intro T locs c1 s1 X F hc hs eT hk
  exact own_go (fun t q => XT.lstoreN X.here hx rfl (hb hby hd) rfl hl q) (k T locs c1 s1 X F hc hs eT hk)
theorem own_lstore (H : own_Ok B Z a0 l R y code N ret) {i : Nat} {x : Int64} (Ls' : Array Slot) (hl : storeLocals Ls i (.long x) = some Ls') (hd : decode code pc = .ok (.lstore i, 2)) (k : own_G B n0 Q kc ks cells slots h (pc + 2) Ls' st) : own_G B n0 Q kc ks cells slots h pc Ls (.long x :: st) := by
  obtain ⟨p, l, e, R, s, m, args, below, meth, c, k0, P⟩ := B
  obtain ⟨rfl, rfl, hx, hZ, hown, hby, hml, hrt, hlk, hnm, hw, hPe⟩ := H
  intro T locs c1 s1 X F hc hs eT hk
  exact own_go (fun t q => XT.lstore X.here hx rfl (hb hby hd) rfl hl q) (k T locs c1 s1 X F hc hs eT hk)
theorem own_astore_n (H : own_Ok B Z a0 l R y code N ret) {i : Fin 4} {x : Value} (hv : x.isRef = true) (Ls' : Array Slot) (hl : storeLocals Ls i.val x = some Ls') (hd : decode code pc = .ok (.astore_n i, 1)) (k : own_G B n0 Q kc ks cells slots h (pc + 1) Ls' st) : own_G B n0 Q kc ks cells slots h pc Ls (x :: st) := by
  obtain ⟨p, l, e, R, s, m, args, below, meth, c, k0, P⟩ := B
  obtain ⟨rfl, rfl, hx, hZ, hown, hby, hml, hrt, hlk, hnm, hw, hPe⟩ := H
  intro T locs c1 s1 X F hc hs eT hk
  exact own_go (fun t q => XS.astoreN X.here hx rfl (hb hby hd) rfl hv hl q) (k T locs c1 s1 X F hc hs eT hk)
theorem own_astore (H : own_Ok B Z a0 l R y code N ret) {i : Nat} {x : Value} (hv : x.isRef = true) (Ls' : Array Slot) (hl : storeLocals Ls i x = some Ls') (hd : decode code pc = .ok (.astore i, 2)) (k : own_G B n0 Q kc ks cells slots h (pc + 2) Ls' st) : own_G B n0 Q kc ks cells slots h pc Ls (x :: st) := by
  obtain ⟨p, l, e, R, s, m, args, below, meth, c, k0, P⟩ := B
  obtain ⟨rfl, rfl, hx, hZ, hown, hby, hml, hrt, hlk, hnm, hw, hPe⟩ := H
  intro T locs c1 s1 X F hc hs eT hk
  exact own_go (fun t q => XS.astore X.here hx rfl (hb hby hd) rfl hv hl q) (k T locs c1 s1 X F hc hs eT hk)
theorem own_iinc (H : own_Ok B Z a0 l R y code N ret) {i : Nat} {cst : Int} {x u : Int32} (v : Int32) (hv : Int32.ofInt cst = v) (hl : Ls[i]? = some (.val (.int x))) (hu : x + v = u) (Ls' : Array Slot) (hl' : storeLocals Ls i (.int u) = some Ls') (hd : decode code pc = .ok (.iinc i cst, 3)) (k : own_G B n0 Q kc ks cells slots h (pc + 3) Ls' st) : own_G B n0 Q kc ks cells slots h pc Ls st := by
  subst hu
  obtain ⟨p, l, e, R, s, m, args, below, meth, c, k0, P⟩ := B
  obtain ⟨rfl, rfl, hx, hZ, hown, hby, hml, hrt, hlk, hnm, hw, hPe⟩ := H
  intro T locs c1 s1 X F hc hs eT hk
  exact own_go (fun t q => XT.iincV X.here hx rfl v (hb hby hd) hv hl hl' q) (k T locs c1 s1 X F hc hs eT hk)
theorem own_goto (H : own_Ok B Z a0 l R y code N ret) {o : Int} (hd : decode code pc = .ok (.goto o, 3)) (ho : 0 ≤ (pc : Int) + o) (hp : ((pc : Int) + o).toNat = pc') (k : own_G B n0 Q kc ks cells slots h pc' Ls st) : own_G B n0 Q kc ks cells slots h pc Ls st := by
  obtain ⟨p, l, e, R, s, m, args, below, meth, c, k0, P⟩ := B
  obtain ⟨rfl, rfl, hx, hZ, hown, hby, hml, hrt, hlk, hnm, hw, hPe⟩ := H
  intro T locs c1 s1 X F hc hs eT hk
  exact own_go (fun t q => XS.goto X.here hx rfl rfl (hb hby hd) ho hp q) (k T locs c1 s1 X F hc hs eT hk)
theorem own_ifeq_t (H : own_Ok B Z a0 l R y code N ret) {x : Int32} {o : Int} (hd : decode code pc = .ok (.ifCond .eq o, 3)) (ho : 0 ≤ (pc : Int) + o) (hp : ((pc : Int) + o).toNat = pc') (hq : x = 0) (k : own_G B n0 Q kc ks cells slots h pc' Ls st) : own_G B n0 Q kc ks cells slots h pc Ls (.int x :: st) := by
  obtain ⟨p, l, e, R, s, m, args, below, meth, c, k0, P⟩ := B
  obtain ⟨rfl, rfl, hx, hZ, hown, hby, hml, hrt, hlk, hnm, hw, hPe⟩ := H
  intro T locs c1 s1 X F hc hs eT hk
  exact own_go (fun t q => XS.ifYes X.here hx rfl rfl (hb hby hd) rfl (XT.i0_eq_t hq) ho hp q) (k T locs c1 s1 X F hc hs eT hk)
theorem own_ifeq_f (H : own_Ok B Z a0 l R y code N ret) {x : Int32} {o : Int} (hd : decode code pc = .ok (.ifCond .eq o, 3)) (hq : ¬ x = 0) (k : own_G B n0 Q kc ks cells slots h (pc + 3) Ls st) : own_G B n0 Q kc ks cells slots h pc Ls (.int x :: st) := by
  obtain ⟨p, l, e, R, s, m, args, below, meth, c, k0, P⟩ := B
  obtain ⟨rfl, rfl, hx, hZ, hown, hby, hml, hrt, hlk, hnm, hw, hPe⟩ := H
  intro T locs c1 s1 X F hc hs eT hk
  exact own_go (fun t q => XS.ifNo X.here hx rfl (hb hby hd) rfl (XT.i0_eq_f hq) q) (k T locs c1 s1 X F hc hs eT hk)
theorem own_icmpeq_t (H : own_Ok B Z a0 l R y code N ret) {x z : Int32} {o : Int} (hd : decode code pc = .ok (.if_icmp .eq o, 3)) (ho : 0 ≤ (pc : Int) + o) (hp : ((pc : Int) + o).toNat = pc') (hq : x = z) (k : own_G B n0 Q kc ks cells slots h pc' Ls st) : own_G B n0 Q kc ks cells slots h pc Ls (.int z :: .int x :: st) := by
  obtain ⟨p, l, e, R, s, m, args, below, meth, c, k0, P⟩ := B
  obtain ⟨rfl, rfl, hx, hZ, hown, hby, hml, hrt, hlk, hnm, hw, hPe⟩ := H
  intro T locs c1 s1 X F hc hs eT hk
  exact own_go (fun t q => XS.icmpYes X.here hx rfl rfl (hb hby hd) rfl (XT.ii_eq_t hq) ho hp q) (k T locs c1 s1 X F hc hs eT hk)
theorem own_icmpeq_f (H : own_Ok B Z a0 l R y code N ret) {x z : Int32} {o : Int} (hd : decode code pc = .ok (.if_icmp .eq o, 3)) (hq : ¬ x = z) (k : own_G B n0 Q kc ks cells slots h (pc + 3) Ls st) : own_G B n0 Q kc ks cells slots h pc Ls (.int z :: .int x :: st) := by
  obtain ⟨p, l, e, R, s, m, args, below, meth, c, k0, P⟩ := B
  obtain ⟨rfl, rfl, hx, hZ, hown, hby, hml, hrt, hlk, hnm, hw, hPe⟩ := H
  intro T locs c1 s1 X F hc hs eT hk
  exact own_go (fun t q => XS.icmpNo X.here hx rfl (hb hby hd) rfl (XT.ii_eq_f hq) q) (k T locs c1 s1 X F hc hs eT hk)
theorem own_lcmpeq_t (H : own_Ok B Z a0 l R y code N ret) {x z : Int64} {o : Int} (hd0 : decode code pc = .ok (.lcmp, 1)) (hd : decode code (pc + 1) = .ok (.ifCond .eq o, 3)) (ho : 0 ≤ ((pc + 1 : Nat) : Int) + o) (hp : (((pc + 1 : Nat) : Int) + o).toNat = pc') (hq : x = z) (k : own_G B n0 Q kc ks cells slots h pc' Ls st) : own_G B n0 Q kc ks cells slots h pc Ls (.long z :: .long x :: st) := by
  obtain ⟨p, l, e, R, s, m, args, below, meth, c, k0, P⟩ := B
  obtain ⟨rfl, rfl, hx, hZ, hown, hby, hml, hrt, hlk, hnm, hw, hPe⟩ := H
  intro T locs c1 s1 X F hc hs eT hk
  exact own_go (fun t q => XT.lcmp X.here hx rfl (hb hby hd0) rfl (XS.ifYes X.here hx rfl rfl (hb hby hd) rfl (XT.ll_eq_t hq) ho hp q)) (k T locs c1 s1 X F hc hs eT hk)
theorem own_lcmpeq_f (H : own_Ok B Z a0 l R y code N ret) {x z : Int64} {o : Int} (hd0 : decode code pc = .ok (.lcmp, 1)) (hd : decode code (pc + 1) = .ok (.ifCond .eq o, 3)) (hq : ¬ x = z) (k : own_G B n0 Q kc ks cells slots h (pc + 4) Ls st) : own_G B n0 Q kc ks cells slots h pc Ls (.long z :: .long x :: st) := by
  obtain ⟨p, l, e, R, s, m, args, below, meth, c, k0, P⟩ := B
  obtain ⟨rfl, rfl, hx, hZ, hown, hby, hml, hrt, hlk, hnm, hw, hPe⟩ := H
  intro T locs c1 s1 X F hc hs eT hk
  exact own_go (fun t q => XT.lcmp X.here hx rfl (hb hby hd0) rfl (XS.ifNo X.here hx rfl (hb hby hd) rfl (XT.ll_eq_f hq) q)) (k T locs c1 s1 X F hc hs eT hk)
theorem own_ifne_t (H : own_Ok B Z a0 l R y code N ret) {x : Int32} {o : Int} (hd : decode code pc = .ok (.ifCond .ne o, 3)) (ho : 0 ≤ (pc : Int) + o) (hp : ((pc : Int) + o).toNat = pc') (hq : ¬ x = 0) (k : own_G B n0 Q kc ks cells slots h pc' Ls st) : own_G B n0 Q kc ks cells slots h pc Ls (.int x :: st) := by
  obtain ⟨p, l, e, R, s, m, args, below, meth, c, k0, P⟩ := B
  obtain ⟨rfl, rfl, hx, hZ, hown, hby, hml, hrt, hlk, hnm, hw, hPe⟩ := H
  intro T locs c1 s1 X F hc hs eT hk
  exact own_go (fun t q => XS.ifYes X.here hx rfl rfl (hb hby hd) rfl (XT.i0_ne_t hq) ho hp q) (k T locs c1 s1 X F hc hs eT hk)
theorem own_ifne_f (H : own_Ok B Z a0 l R y code N ret) {x : Int32} {o : Int} (hd : decode code pc = .ok (.ifCond .ne o, 3)) (hq : x = 0) (k : own_G B n0 Q kc ks cells slots h (pc + 3) Ls st) : own_G B n0 Q kc ks cells slots h pc Ls (.int x :: st) := by
  obtain ⟨p, l, e, R, s, m, args, below, meth, c, k0, P⟩ := B
  obtain ⟨rfl, rfl, hx, hZ, hown, hby, hml, hrt, hlk, hnm, hw, hPe⟩ := H
  intro T locs c1 s1 X F hc hs eT hk
  exact own_go (fun t q => XS.ifNo X.here hx rfl (hb hby hd) rfl (XT.i0_ne_f hq) q) (k T locs c1 s1 X F hc hs eT hk)
theorem own_icmpne_t (H : own_Ok B Z a0 l R y code N ret) {x z : Int32} {o : Int} (hd : decode code pc = .ok (.if_icmp .ne o, 3)) (ho : 0 ≤ (pc : Int) + o) (hp : ((pc : Int) + o).toNat = pc') (hq : ¬ x = z) (k : own_G B n0 Q kc ks cells slots h pc' Ls st) : own_G B n0 Q kc ks cells slots h pc Ls (.int z :: .int x :: st) := by
  obtain ⟨p, l, e, R, s, m, args, below, meth, c, k0, P⟩ := B
  obtain ⟨rfl, rfl, hx, hZ, hown, hby, hml, hrt, hlk, hnm, hw, hPe⟩ := H
  intro T locs c1 s1 X F hc hs eT hk
  exact own_go (fun t q => XS.icmpYes X.here hx rfl rfl (hb hby hd) rfl (XT.ii_ne_t hq) ho hp q) (k T locs c1 s1 X F hc hs eT hk)
theorem own_icmpne_f (H : own_Ok B Z a0 l R y code N ret) {x z : Int32} {o : Int} (hd : decode code pc = .ok (.if_icmp .ne o, 3)) (hq : x = z) (k : own_G B n0 Q kc ks cells slots h (pc + 3) Ls st) : own_G B n0 Q kc ks cells slots h pc Ls (.int z :: .int x :: st) := by
  obtain ⟨p, l, e, R, s, m, args, below, meth, c, k0, P⟩ := B
  obtain ⟨rfl, rfl, hx, hZ, hown, hby, hml, hrt, hlk, hnm, hw, hPe⟩ := H
  intro T locs c1 s1 X F hc hs eT hk
  exact own_go (fun t q => XS.icmpNo X.here hx rfl (hb hby hd) rfl (XT.ii_ne_f hq) q) (k T locs c1 s1 X F hc hs eT hk)
theorem own_lcmpne_t (H : own_Ok B Z a0 l R y code N ret) {x z : Int64} {o : Int} (hd0 : decode code pc = .ok (.lcmp, 1)) (hd : decode code (pc + 1) = .ok (.ifCond .ne o, 3)) (ho : 0 ≤ ((pc + 1 : Nat) : Int) + o) (hp : (((pc + 1 : Nat) : Int) + o).toNat = pc') (hq : ¬ x = z) (k : own_G B n0 Q kc ks cells slots h pc' Ls st) : own_G B n0 Q kc ks cells slots h pc Ls (.long z :: .long x :: st) := by
  obtain ⟨p, l, e, R, s, m, args, below, meth, c, k0, P⟩ := B
  obtain ⟨rfl, rfl, hx, hZ, hown, hby, hml, hrt, hlk, hnm, hw, hPe⟩ := H
  intro T locs c1 s1 X F hc hs eT hk
  exact own_go (fun t q => XT.lcmp X.here hx rfl (hb hby hd0) rfl (XS.ifYes X.here hx rfl rfl (hb hby hd) rfl (XT.ll_ne_t hq) ho hp q)) (k T locs c1 s1 X F hc hs eT hk)
theorem own_lcmpne_f (H : own_Ok B Z a0 l R y code N ret) {x z : Int64} {o : Int} (hd0 : decode code pc = .ok (.lcmp, 1)) (hd : decode code (pc + 1) = .ok (.ifCond .ne o, 3)) (hq : x = z) (k : own_G B n0 Q kc ks cells slots h (pc + 4) Ls st) : own_G B n0 Q kc ks cells slots h pc Ls (.long z :: .long x :: st) := by
  obtain ⟨p, l, e, R, s, m, args, below, meth, c, k0, P⟩ := B
  obtain ⟨rfl, rfl, hx, hZ, hown, hby, hml, hrt, hlk, hnm, hw, hPe⟩ := H
  intro T locs c1 s1 X F hc hs eT hk
  exact own_go (fun t q => XT.lcmp X.here hx rfl (hb hby hd0) rfl (XS.ifNo X.here hx rfl (hb hby hd) rfl (XT.ll_ne_f hq) q)) (k T locs c1 s1 X F hc hs eT hk)
theorem own_iflt_t (H : own_Ok B Z a0 l R y code N ret) {x : Int32} {o : Int} (hd : decode code pc = .ok (.ifCond .lt o, 3)) (ho : 0 ≤ (pc : Int) + o) (hp : ((pc : Int) + o).toNat = pc') (hq : x < 0) (k : own_G B n0 Q kc ks cells slots h pc' Ls st) : own_G B n0 Q kc ks cells slots h pc Ls (.int x :: st) := by
  obtain ⟨p, l, e, R, s, m, args, below, meth, c, k0, P⟩ := B
  obtain ⟨rfl, rfl, hx, hZ, hown, hby, hml, hrt, hlk, hnm, hw, hPe⟩ := H
  intro T locs c1 s1 X F hc hs eT hk
  exact own_go (fun t q => XS.ifYes X.here hx rfl rfl (hb hby hd) rfl (XT.i0_lt_t hq) ho hp q) (k T locs c1 s1 X F hc hs eT hk)
theorem own_iflt_f (H : own_Ok B Z a0 l R y code N ret) {x : Int32} {o : Int} (hd : decode code pc = .ok (.ifCond .lt o, 3)) (hq : ¬ x < 0) (k : own_G B n0 Q kc ks cells slots h (pc + 3) Ls st) : own_G B n0 Q kc ks cells slots h pc Ls (.int x :: st) := by
  obtain ⟨p, l, e, R, s, m, args, below, meth, c, k0, P⟩ := B
  obtain ⟨rfl, rfl, hx, hZ, hown, hby, hml, hrt, hlk, hnm, hw, hPe⟩ := H
  intro T locs c1 s1 X F hc hs eT hk
  exact own_go (fun t q => XS.ifNo X.here hx rfl (hb hby hd) rfl (XT.i0_lt_f hq) q) (k T locs c1 s1 X F hc hs eT hk)
theorem own_icmplt_t (H : own_Ok B Z a0 l R y code N ret) {x z : Int32} {o : Int} (hd : decode code pc = .ok (.if_icmp .lt o, 3)) (ho : 0 ≤ (pc : Int) + o) (hp : ((pc : Int) + o).toNat = pc') (hq : x < z) (k : own_G B n0 Q kc ks cells slots h pc' Ls st) : own_G B n0 Q kc ks cells slots h pc Ls (.int z :: .int x :: st) := by
  obtain ⟨p, l, e, R, s, m, args, below, meth, c, k0, P⟩ := B
  obtain ⟨rfl, rfl, hx, hZ, hown, hby, hml, hrt, hlk, hnm, hw, hPe⟩ := H
  intro T locs c1 s1 X F hc hs eT hk
  exact own_go (fun t q => XS.icmpYes X.here hx rfl rfl (hb hby hd) rfl (XT.ii_lt_t hq) ho hp q) (k T locs c1 s1 X F hc hs eT hk)
theorem own_icmplt_f (H : own_Ok B Z a0 l R y code N ret) {x z : Int32} {o : Int} (hd : decode code pc = .ok (.if_icmp .lt o, 3)) (hq : ¬ x < z) (k : own_G B n0 Q kc ks cells slots h (pc + 3) Ls st) : own_G B n0 Q kc ks cells slots h pc Ls (.int z :: .int x :: st) := by
  obtain ⟨p, l, e, R, s, m, args, below, meth, c, k0, P⟩ := B
  obtain ⟨rfl, rfl, hx, hZ, hown, hby, hml, hrt, hlk, hnm, hw, hPe⟩ := H
  intro T locs c1 s1 X F hc hs eT hk
  exact own_go (fun t q => XS.icmpNo X.here hx rfl (hb hby hd) rfl (XT.ii_lt_f hq) q) (k T locs c1 s1 X F hc hs eT hk)
theorem own_lcmplt_t (H : own_Ok B Z a0 l R y code N ret) {x z : Int64} {o : Int} (hd0 : decode code pc = .ok (.lcmp, 1)) (hd : decode code (pc + 1) = .ok (.ifCond .lt o, 3)) (ho : 0 ≤ ((pc + 1 : Nat) : Int) + o) (hp : (((pc + 1 : Nat) : Int) + o).toNat = pc') (hq : x < z) (k : own_G B n0 Q kc ks cells slots h pc' Ls st) : own_G B n0 Q kc ks cells slots h pc Ls (.long z :: .long x :: st) := by
  obtain ⟨p, l, e, R, s, m, args, below, meth, c, k0, P⟩ := B
  obtain ⟨rfl, rfl, hx, hZ, hown, hby, hml, hrt, hlk, hnm, hw, hPe⟩ := H
  intro T locs c1 s1 X F hc hs eT hk
  exact own_go (fun t q => XT.lcmp X.here hx rfl (hb hby hd0) rfl (XS.ifYes X.here hx rfl rfl (hb hby hd) rfl (XT.ll_lt_t hq) ho hp q)) (k T locs c1 s1 X F hc hs eT hk)
theorem own_lcmplt_f (H : own_Ok B Z a0 l R y code N ret) {x z : Int64} {o : Int} (hd0 : decode code pc = .ok (.lcmp, 1)) (hd : decode code (pc + 1) = .ok (.ifCond .lt o, 3)) (hq : ¬ x < z) (k : own_G B n0 Q kc ks cells slots h (pc + 4) Ls st) : own_G B n0 Q kc ks cells slots h pc Ls (.long z :: .long x :: st) := by
  obtain ⟨p, l, e, R, s, m, args, below, meth, c, k0, P⟩ := B
  obtain ⟨rfl, rfl, hx, hZ, hown, hby, hml, hrt, hlk, hnm, hw, hPe⟩ := H
  intro T locs c1 s1 X F hc hs eT hk
  exact own_go (fun t q => XT.lcmp X.here hx rfl (hb hby hd0) rfl (XS.ifNo X.here hx rfl (hb hby hd) rfl (XT.ll_lt_f hq) q)) (k T locs c1 s1 X F hc hs eT hk)
theorem own_ifge_t (H : own_Ok B Z a0 l R y code N ret) {x : Int32} {o : Int} (hd : decode code pc = .ok (.ifCond .ge o, 3)) (ho : 0 ≤ (pc : Int) + o) (hp : ((pc : Int) + o).toNat = pc') (hq : ¬ x < 0) (k : own_G B n0 Q kc ks cells slots h pc' Ls st) : own_G B n0 Q kc ks cells slots h pc Ls (.int x :: st) := by
  obtain ⟨p, l, e, R, s, m, args, below, meth, c, k0, P⟩ := B
  obtain ⟨rfl, rfl, hx, hZ, hown, hby, hml, hrt, hlk, hnm, hw, hPe⟩ := H
  intro T locs c1 s1 X F hc hs eT hk
  exact own_go (fun t q => XS.ifYes X.here hx rfl rfl (hb hby hd) rfl (XT.i0_ge_t hq) ho hp q) (k T locs c1 s1 X F hc hs eT hk)
theorem own_ifge_f (H : own_Ok B Z a0 l R y code N ret) {x : Int32} {o : Int} (hd : decode code pc = .ok (.ifCond .ge o, 3)) (hq : x < 0) (k : own_G B n0 Q kc ks cells slots h (pc + 3) Ls st) : own_G B n0 Q kc ks cells slots h pc Ls (.int x :: st) := by
  obtain ⟨p, l, e, R, s, m, args, below, meth, c, k0, P⟩ := B
  obtain ⟨rfl, rfl, hx, hZ, hown, hby, hml, hrt, hlk, hnm, hw, hPe⟩ := H
  intro T locs c1 s1 X F hc hs eT hk
  exact own_go (fun t q => XS.ifNo X.here hx rfl (hb hby hd) rfl (XT.i0_ge_f hq) q) (k T locs c1 s1 X F hc hs eT hk)
theorem own_icmpge_t (H : own_Ok B Z a0 l R y code N ret) {x z : Int32} {o : Int} (hd : decode code pc = .ok (.if_icmp .ge o, 3)) (ho : 0 ≤ (pc : Int) + o) (hp : ((pc : Int) + o).toNat = pc') (hq : ¬ x < z) (k : own_G B n0 Q kc ks cells slots h pc' Ls st) : own_G B n0 Q kc ks cells slots h pc Ls (.int z :: .int x :: st) := by
  obtain ⟨p, l, e, R, s, m, args, below, meth, c, k0, P⟩ := B
  obtain ⟨rfl, rfl, hx, hZ, hown, hby, hml, hrt, hlk, hnm, hw, hPe⟩ := H
  intro T locs c1 s1 X F hc hs eT hk
  exact own_go (fun t q => XS.icmpYes X.here hx rfl rfl (hb hby hd) rfl (XT.ii_ge_t hq) ho hp q) (k T locs c1 s1 X F hc hs eT hk)
theorem own_icmpge_f (H : own_Ok B Z a0 l R y code N ret) {x z : Int32} {o : Int} (hd : decode code pc = .ok (.if_icmp .ge o, 3)) (hq : x < z) (k : own_G B n0 Q kc ks cells slots h (pc + 3) Ls st) : own_G B n0 Q kc ks cells slots h pc Ls (.int z :: .int x :: st) := by
  obtain ⟨p, l, e, R, s, m, args, below, meth, c, k0, P⟩ := B
  obtain ⟨rfl, rfl, hx, hZ, hown, hby, hml, hrt, hlk, hnm, hw, hPe⟩ := H
  intro T locs c1 s1 X F hc hs eT hk
  exact own_go (fun t q => XS.icmpNo X.here hx rfl (hb hby hd) rfl (XT.ii_ge_f hq) q) (k T locs c1 s1 X F hc hs eT hk)
theorem own_lcmpge_t (H : own_Ok B Z a0 l R y code N ret) {x z : Int64} {o : Int} (hd0 : decode code pc = .ok (.lcmp, 1)) (hd : decode code (pc + 1) = .ok (.ifCond .ge o, 3)) (ho : 0 ≤ ((pc + 1 : Nat) : Int) + o) (hp : (((pc + 1 : Nat) : Int) + o).toNat = pc') (hq : ¬ x < z) (k : own_G B n0 Q kc ks cells slots h pc' Ls st) : own_G B n0 Q kc ks cells slots h pc Ls (.long z :: .long x :: st) := by
  obtain ⟨p, l, e, R, s, m, args, below, meth, c, k0, P⟩ := B
  obtain ⟨rfl, rfl, hx, hZ, hown, hby, hml, hrt, hlk, hnm, hw, hPe⟩ := H
  intro T locs c1 s1 X F hc hs eT hk
  exact own_go (fun t q => XT.lcmp X.here hx rfl (hb hby hd0) rfl (XS.ifYes X.here hx rfl rfl (hb hby hd) rfl (XT.ll_ge_t hq) ho hp q)) (k T locs c1 s1 X F hc hs eT hk)
theorem own_lcmpge_f (H : own_Ok B Z a0 l R y code N ret) {x z : Int64} {o : Int} (hd0 : decode code pc = .ok (.lcmp, 1)) (hd : decode code (pc + 1) = .ok (.ifCond .ge o, 3)) (hq : x < z) (k : own_G B n0 Q kc ks cells slots h (pc + 4) Ls st) : own_G B n0 Q kc ks cells slots h pc Ls (.long z :: .long x :: st) := by
  obtain ⟨p, l, e, R, s, m, args, below, meth, c, k0, P⟩ := B
  obtain ⟨rfl, rfl, hx, hZ, hown, hby, hml, hrt, hlk, hnm, hw, hPe⟩ := H
  intro T locs c1 s1 X F hc hs eT hk
  exact own_go (fun t q => XT.lcmp X.here hx rfl (hb hby hd0) rfl (XS.ifNo X.here hx rfl (hb hby hd) rfl (XT.ll_ge_f hq) q)) (k T locs c1 s1 X F hc hs eT hk)
theorem own_ifgt_t (H : own_Ok B Z a0 l R y code N ret) {x : Int32} {o : Int} (hd : decode code pc = .ok (.ifCond .gt o, 3)) (ho : 0 ≤ (pc : Int) + o) (hp : ((pc : Int) + o).toNat = pc') (hq : 0 < x) (k : own_G B n0 Q kc ks cells slots h pc' Ls st) : own_G B n0 Q kc ks cells slots h pc Ls (.int x :: st) := by
  obtain ⟨p, l, e, R, s, m, args, below, meth, c, k0, P⟩ := B
  obtain ⟨rfl, rfl, hx, hZ, hown, hby, hml, hrt, hlk, hnm, hw, hPe⟩ := H
  intro T locs c1 s1 X F hc hs eT hk
  exact own_go (fun t q => XS.ifYes X.here hx rfl rfl (hb hby hd) rfl (XT.i0_gt_t hq) ho hp q) (k T locs c1 s1 X F hc hs eT hk)
theorem own_ifgt_f (H : own_Ok B Z a0 l R y code N ret) {x : Int32} {o : Int} (hd : decode code pc = .ok (.ifCond .gt o, 3)) (hq : ¬ 0 < x) (k : own_G B n0 Q kc ks cells slots h (pc + 3) Ls st) : own_G B n0 Q kc ks cells slots h pc Ls (.int x :: st) := by
  obtain ⟨p, l, e, R, s, m, args, below, meth, c, k0, P⟩ := B
  obtain ⟨rfl, rfl, hx, hZ, hown, hby, hml, hrt, hlk, hnm, hw, hPe⟩ := H
  intro T locs c1 s1 X F hc hs eT hk
  exact own_go (fun t q => XS.ifNo X.here hx rfl (hb hby hd) rfl (XT.i0_gt_f hq) q) (k T locs c1 s1 X F hc hs eT hk)
theorem own_icmpgt_t (H : own_Ok B Z a0 l R y code N ret) {x z : Int32} {o : Int} (hd : decode code pc = .ok (.if_icmp .gt o, 3)) (ho : 0 ≤ (pc : Int) + o) (hp : ((pc : Int) + o).toNat = pc') (hq : z < x) (k : own_G B n0 Q kc ks cells slots h pc' Ls st) : own_G B n0 Q kc ks cells slots h pc Ls (.int z :: .int x :: st) := by
  obtain ⟨p, l, e, R, s, m, args, below, meth, c, k0, P⟩ := B
  obtain ⟨rfl, rfl, hx, hZ, hown, hby, hml, hrt, hlk, hnm, hw, hPe⟩ := H
  intro T locs c1 s1 X F hc hs eT hk
  exact own_go (fun t q => XS.icmpYes X.here hx rfl rfl (hb hby hd) rfl (XT.ii_gt_t hq) ho hp q) (k T locs c1 s1 X F hc hs eT hk)
theorem own_icmpgt_f (H : own_Ok B Z a0 l R y code N ret) {x z : Int32} {o : Int} (hd : decode code pc = .ok (.if_icmp .gt o, 3)) (hq : ¬ z < x) (k : own_G B n0 Q kc ks cells slots h (pc + 3) Ls st) : own_G B n0 Q kc ks cells slots h pc Ls (.int z :: .int x :: st) := by
  obtain ⟨p, l, e, R, s, m, args, below, meth, c, k0, P⟩ := B
  obtain ⟨rfl, rfl, hx, hZ, hown, hby, hml, hrt, hlk, hnm, hw, hPe⟩ := H
  intro T locs c1 s1 X F hc hs eT hk
  exact own_go (fun t q => XS.icmpNo X.here hx rfl (hb hby hd) rfl (XT.ii_gt_f hq) q) (k T locs c1 s1 X F hc hs eT hk)
theorem own_lcmpgt_t (H : own_Ok B Z a0 l R y code N ret) {x z : Int64} {o : Int} (hd0 : decode code pc = .ok (.lcmp, 1)) (hd : decode code (pc + 1) = .ok (.ifCond .gt o, 3)) (ho : 0 ≤ ((pc + 1 : Nat) : Int) + o) (hp : (((pc + 1 : Nat) : Int) + o).toNat = pc') (hq : z < x) (k : own_G B n0 Q kc ks cells slots h pc' Ls st) : own_G B n0 Q kc ks cells slots h pc Ls (.long z :: .long x :: st) := by
  obtain ⟨p, l, e, R, s, m, args, below, meth, c, k0, P⟩ := B
  obtain ⟨rfl, rfl, hx, hZ, hown, hby, hml, hrt, hlk, hnm, hw, hPe⟩ := H
  intro T locs c1 s1 X F hc hs eT hk
  exact own_go (fun t q => XT.lcmp X.here hx rfl (hb hby hd0) rfl (XS.ifYes X.here hx rfl rfl (hb hby hd) rfl (XT.ll_gt_t hq) ho hp q)) (k T locs c1 s1 X F hc hs eT hk)
theorem own_lcmpgt_f (H : own_Ok B Z a0 l R y code N ret) {x z : Int64} {o : Int} (hd0 : decode code pc = .ok (.lcmp, 1)) (hd : decode code (pc + 1) = .ok (.ifCond .gt o, 3)) (hq : ¬ z < x) (k : own_G B n0 Q kc ks cells slots h (pc + 4) Ls st) : own_G B n0 Q kc ks cells slots h pc Ls (.long z :: .long x :: st) := by
  obtain ⟨p, l, e, R, s, m, args, below, meth, c, k0, P⟩ := B
  obtain ⟨rfl, rfl, hx, hZ, hown, hby, hml, hrt, hlk, hnm, hw, hPe⟩ := H
  intro T locs c1 s1 X F hc hs eT hk
  exact own_go (fun t q => XT.lcmp X.here hx rfl (hb hby hd0) rfl (XS.ifNo X.here hx rfl (hb hby hd) rfl (XT.ll_gt_f hq) q)) (k T locs c1 s1 X F hc hs eT hk)
theorem own_ifle_t (H : own_Ok B Z a0 l R y code N ret) {x : Int32} {o : Int} (hd : decode code pc = .ok (.ifCond .le o, 3)) (ho : 0 ≤ (pc : Int) + o) (hp : ((pc : Int) + o).toNat = pc') (hq : ¬ 0 < x) (k : own_G B n0 Q kc ks cells slots h pc' Ls st) : own_G B n0 Q kc ks cells slots h pc Ls (.int x :: st) := by
  obtain ⟨p, l, e, R, s, m, args, below, meth, c, k0, P⟩ := B
  obtain ⟨rfl, rfl, hx, hZ, hown, hby, hml, hrt, hlk, hnm, hw, hPe⟩ := H
  intro T locs c1 s1 X F hc hs eT hk
  exact own_go (fun t q => XS.ifYes X.here hx rfl rfl (hb hby hd) rfl (XT.i0_le_t hq) ho hp q) (k T locs c1 s1 X F hc hs eT hk)
theorem own_ifle_f (H : own_Ok B Z a0 l R y code N ret) {x : Int32} {o : Int} (hd : decode code pc = .ok (.ifCond .le o, 3)) (hq : 0 < x) (k : own_G B n0 Q kc ks cells slots h (pc + 3) Ls st) : own_G B n0 Q kc ks cells slots h pc Ls (.int x :: st) := by
  obtain ⟨p, l, e, R, s, m, args, below, meth, c, k0, P⟩ := B
  obtain ⟨rfl, rfl, hx, hZ, hown, hby, hml, hrt, hlk, hnm, hw, hPe⟩ := H
  intro T locs c1 s1 X F hc hs eT hk
  exact own_go (fun t q => XS.ifNo X.here hx rfl (hb hby hd) rfl (XT.i0_le_f hq) q) (k T locs c1 s1 X F hc hs eT hk)
theorem own_icmple_t (H : own_Ok B Z a0 l R y code N ret) {x z : Int32} {o : Int} (hd : decode code pc = .ok (.if_icmp .le o, 3)) (ho : 0 ≤ (pc : Int) + o) (hp : ((pc : Int) + o).toNat = pc') (hq : ¬ z < x) (k : own_G B n0 Q kc ks cells slots h pc' Ls st) : own_G B n0 Q kc ks cells slots h pc Ls (.int z :: .int x :: st) := by
  obtain ⟨p, l, e, R, s, m, args, below, meth, c, k0, P⟩ := B
  obtain ⟨rfl, rfl, hx, hZ, hown, hby, hml, hrt, hlk, hnm, hw, hPe⟩ := H
  intro T locs c1 s1 X F hc hs eT hk
  exact own_go (fun t q => XS.icmpYes X.here hx rfl rfl (hb hby hd) rfl (XT.ii_le_t hq) ho hp q) (k T locs c1 s1 X F hc hs eT hk)
theorem own_icmple_f (H : own_Ok B Z a0 l R y code N ret) {x z : Int32} {o : Int} (hd : decode code pc = .ok (.if_icmp .le o, 3)) (hq : z < x) (k : own_G B n0 Q kc ks cells slots h (pc + 3) Ls st) : own_G B n0 Q kc ks cells slots h pc Ls (.int z :: .int x :: st) := by
  obtain ⟨p, l, e, R, s, m, args, below, meth, c, k0, P⟩ := B
  obtain ⟨rfl, rfl, hx, hZ, hown, hby, hml, hrt, hlk, hnm, hw, hPe⟩ := H
  intro T locs c1 s1 X F hc hs eT hk
  exact own_go (fun t q => XS.icmpNo X.here hx rfl (hb hby hd) rfl (XT.ii_le_f hq) q) (k T locs c1 s1 X F hc hs eT hk)
theorem own_lcmple_t (H : own_Ok B Z a0 l R y code N ret) {x z : Int64} {o : Int} (hd0 : decode code pc = .ok (.lcmp, 1)) (hd : decode code (pc + 1) = .ok (.ifCond .le o, 3)) (ho : 0 ≤ ((pc + 1 : Nat) : Int) + o) (hp : (((pc + 1 : Nat) : Int) + o).toNat = pc') (hq : ¬ z < x) (k : own_G B n0 Q kc ks cells slots h pc' Ls st) : own_G B n0 Q kc ks cells slots h pc Ls (.long z :: .long x :: st) := by
  obtain ⟨p, l, e, R, s, m, args, below, meth, c, k0, P⟩ := B
  obtain ⟨rfl, rfl, hx, hZ, hown, hby, hml, hrt, hlk, hnm, hw, hPe⟩ := H
  intro T locs c1 s1 X F hc hs eT hk
  exact own_go (fun t q => XT.lcmp X.here hx rfl (hb hby hd0) rfl (XS.ifYes X.here hx rfl rfl (hb hby hd) rfl (XT.ll_le_t hq) ho hp q)) (k T locs c1 s1 X F hc hs eT hk)
theorem own_lcmple_f (H : own_Ok B Z a0 l R y code N ret) {x z : Int64} {o : Int} (hd0 : decode code pc = .ok (.lcmp, 1)) (hd : decode code (pc + 1) = .ok (.ifCond .le o, 3)) (hq : z < x) (k : own_G B n0 Q kc ks cells slots h (pc + 4) Ls st) : own_G B n0 Q kc ks cells slots h pc Ls (.long z :: .long x :: st) := by
  obtain ⟨p, l, e, R, s, m, args, below, meth, c, k0, P⟩ := B
  obtain ⟨rfl, rfl, hx, hZ, hown, hby, hml, hrt, hlk, hnm, hw, hPe⟩ := H
  intro T locs c1 s1 X F hc hs eT hk
  exact own_go (fun t q => XT.lcmp X.here hx rfl (hb hby hd0) rfl (XS.ifNo X.here hx rfl (hb hby hd) rfl (XT.ll_le_f hq) q)) (k T locs c1 s1 X F hc hs eT hk)
theorem own_acmpeq_t (H : own_Ok B Z a0 l R y code N ret) {x z : Value} {o : Int} (hd : decode code pc = .ok (.if_acmp .eq o, 3)) (ho : 0 ≤ (pc : Int) + o) (hp : ((pc : Int) + o).toNat = pc') (h1 : x.isRef = true) (h2 : z.isRef = true) (hq : x = z) (k : own_G B n0 Q kc ks cells slots h pc' Ls st) : own_G B n0 Q kc ks cells slots h pc Ls (z :: x :: st) := by
  obtain ⟨p, l, e, R, s, m, args, below, meth, c, k0, P⟩ := B
  obtain ⟨rfl, rfl, hx, hZ, hown, hby, hml, hrt, hlk, hnm, hw, hPe⟩ := H
  intro T locs c1 s1 X F hc hs eT hk
  exact own_go (fun t q => XT.acmpYes X.here hx rfl rfl (hb hby hd) rfl h1 h2 (XT.aa_eq_t hq) ho hp q) (k T locs c1 s1 X F hc hs eT hk)
theorem own_acmpeq_f (H : own_Ok B Z a0 l R y code N ret) {x z : Value} {o : Int} (hd : decode code pc = .ok (.if_acmp .eq o, 3)) (h1 : x.isRef = true) (h2 : z.isRef = true) (hq : ¬ x = z) (k : own_G B n0 Q kc ks cells slots h (pc + 3) Ls st) : own_G B n0 Q kc ks cells slots h pc Ls (z :: x :: st) := by
  obtain ⟨p, l, e, R, s, m, args, below, meth, c, k0, P⟩ := B
  obtain ⟨rfl, rfl, hx, hZ, hown, hby, hml, hrt, hlk, hnm, hw, hPe⟩ := H
  intro T locs c1 s1 X F hc hs eT hk
  exact own_go (fun t q => XT.acmpNo X.here hx rfl (hb hby hd) rfl h1 h2 (XT.aa_eq_f hq) q) (k T locs c1 s1 X F hc hs eT hk)
theorem own_acmpne_t (H : own_Ok B Z a0 l R y code N ret) {x z : Value} {o : Int} (hd : decode code pc = .ok (.if_acmp .ne o, 3)) (ho : 0 ≤ (pc : Int) + o) (hp : ((pc : Int) + o).toNat = pc') (h1 : x.isRef = true) (h2 : z.isRef = true) (hq : ¬ x = z) (k : own_G B n0 Q kc ks cells slots h pc' Ls st) : own_G B n0 Q kc ks cells slots h pc Ls (z :: x :: st) := by
  obtain ⟨p, l, e, R, s, m, args, below, meth, c, k0, P⟩ := B
  obtain ⟨rfl, rfl, hx, hZ, hown, hby, hml, hrt, hlk, hnm, hw, hPe⟩ := H
  intro T locs c1 s1 X F hc hs eT hk
  exact own_go (fun t q => XT.acmpYes X.here hx rfl rfl (hb hby hd) rfl h1 h2 (XT.aa_ne_t hq) ho hp q) (k T locs c1 s1 X F hc hs eT hk)
theorem own_acmpne_f (H : own_Ok B Z a0 l R y code N ret) {x z : Value} {o : Int} (hd : decode code pc = .ok (.if_acmp .ne o, 3)) (h1 : x.isRef = true) (h2 : z.isRef = true) (hq : x = z) (k : own_G B n0 Q kc ks cells slots h (pc + 3) Ls st) : own_G B n0 Q kc ks cells slots h pc Ls (z :: x :: st) := by
  obtain ⟨p, l, e, R, s, m, args, below, meth, c, k0, P⟩ := B
  obtain ⟨rfl, rfl, hx, hZ, hown, hby, hml, hrt, hlk, hnm, hw, hPe⟩ := H
  intro T locs c1 s1 X F hc hs eT hk
  exact own_go (fun t q => XT.acmpNo X.here hx rfl (hb hby hd) rfl h1 h2 (XT.aa_ne_f hq) q) (k T locs c1 s1 X F hc hs eT hk)
theorem own_ifnull_t (H : own_Ok B Z a0 l R y code N ret) {x : Value} {o : Int} (hd : decode code pc = .ok (.ifnull o, 3)) (ho : 0 ≤ (pc : Int) + o) (hp : ((pc : Int) + o).toNat = pc') (h1 : x.isRef = true) (hq : x = .null) (k : own_G B n0 Q kc ks cells slots h pc' Ls st) : own_G B n0 Q kc ks cells slots h pc Ls (x :: st) := by
  obtain ⟨p, l, e, R, s, m, args, below, meth, c, k0, P⟩ := B
  obtain ⟨rfl, rfl, hx, hZ, hown, hby, hml, hrt, hlk, hnm, hw, hPe⟩ := H
  intro T locs c1 s1 X F hc hs eT hk
  exact own_go (fun t q => XT.nullYes X.here hx rfl rfl (hb hby hd) rfl hq ho hp q) (k T locs c1 s1 X F hc hs eT hk)
theorem own_ifnull_f (H : own_Ok B Z a0 l R y code N ret) {x : Value} {o : Int} (hd : decode code pc = .ok (.ifnull o, 3)) (h1 : x.isRef = true) (hq : ¬ x = .null) (k : own_G B n0 Q kc ks cells slots h (pc + 3) Ls st) : own_G B n0 Q kc ks cells slots h pc Ls (x :: st) := by
  obtain ⟨p, l, e, R, s, m, args, below, meth, c, k0, P⟩ := B
  obtain ⟨rfl, rfl, hx, hZ, hown, hby, hml, hrt, hlk, hnm, hw, hPe⟩ := H
  intro T locs c1 s1 X F hc hs eT hk
  exact own_go (fun t q => XT.nullNo X.here hx rfl (hb hby hd) rfl h1 hq q) (k T locs c1 s1 X F hc hs eT hk)
theorem own_ifnonnull_t (H : own_Ok B Z a0 l R y code N ret) {x : Value} {o : Int} (hd : decode code pc = .ok (.ifnonnull o, 3)) (ho : 0 ≤ (pc : Int) + o) (hp : ((pc : Int) + o).toNat = pc') (h1 : x.isRef = true) (hq : ¬ x = .null) (k : own_G B n0 Q kc ks cells slots h pc' Ls st) : own_G B n0 Q kc ks cells slots h pc Ls (x :: st) := by
  obtain ⟨p, l, e, R, s, m, args, below, meth, c, k0, P⟩ := B
  obtain ⟨rfl, rfl, hx, hZ, hown, hby, hml, hrt, hlk, hnm, hw, hPe⟩ := H
  intro T locs c1 s1 X F hc hs eT hk
  exact own_go (fun t q => XT.nonnullYes X.here hx rfl rfl (hb hby hd) rfl h1 hq ho hp q) (k T locs c1 s1 X F hc hs eT hk)
theorem own_ifnonnull_f (H : own_Ok B Z a0 l R y code N ret) {x : Value} {o : Int} (hd : decode code pc = .ok (.ifnonnull o, 3)) (h1 : x.isRef = true) (hq : x = .null) (k : own_G B n0 Q kc ks cells slots h (pc + 3) Ls st) : own_G B n0 Q kc ks cells slots h pc Ls (x :: st) := by
  obtain ⟨p, l, e, R, s, m, args, below, meth, c, k0, P⟩ := B
  obtain ⟨rfl, rfl, hx, hZ, hown, hby, hml, hrt, hlk, hnm, hw, hPe⟩ := H
  intro T locs c1 s1 X F hc hs eT hk
  exact own_go (fun t q => XT.nonnullNo X.here hx rfl (hb hby hd) rfl hq q) (k T locs c1 s1 X F hc hs eT hk)
theorem own_ldcI (H : own_Ok B Z a0 l R y code N ret) {i w : Nat} {v : Int32} (q : tables_1[w]? = some (Jvm.Cond.constant y.cls i v)) (hd : decode code pc = .ok (.ldc i, 2)) (k : own_G B n0 Q kc ks cells slots h (pc + 2) Ls (.int v :: st)) : own_G B n0 Q kc ks cells slots h pc Ls st := by
  obtain ⟨p, l, e, R, s, m, args, below, meth, c, k0, P⟩ := B
  obtain ⟨rfl, rfl, hx, hZ, hown, hby, hml, hrt, hlk, hnm, hw, hPe⟩ := H
  intro T locs c1 s1 X F hc hs eT hk
  exact own_go (fun t r => X.ldcInt hx hown (mvT hZ (hw _ _ q)) (g := mkF m pc Ls st) rfl (hb hby hd) _ r) (k T locs c1 s1 X F hc hs eT hk)
theorem own_ldcwI (H : own_Ok B Z a0 l R y code N ret) {i w : Nat} {v : Int32} (q : tables_1[w]? = some (Jvm.Cond.constant y.cls i v)) (hd : decode code pc = .ok (.ldc_w i, 3)) (k : own_G B n0 Q kc ks cells slots h (pc + 3) Ls (.int v :: st)) : own_G B n0 Q kc ks cells slots h pc Ls st := by
  obtain ⟨p, l, e, R, s, m, args, below, meth, c, k0, P⟩ := B
  obtain ⟨rfl, rfl, hx, hZ, hown, hby, hml, hrt, hlk, hnm, hw, hPe⟩ := H
  intro T locs c1 s1 X F hc hs eT hk
  exact own_go (fun t r => X.ldcwInt hx hown (mvT hZ (hw _ _ q)) (g := mkF m pc Ls st) rfl (hb hby hd) _ r) (k T locs c1 s1 X F hc hs eT hk)
theorem own_ldc2J (H : own_Ok B Z a0 l R y code N ret) {i w : Nat} {v : Int64} (q : tables_1[w]? = some (Jvm.Cond.constantLong y.cls i v)) (hd : decode code pc = .ok (.ldc2_w i, 3)) (k : own_G B n0 Q kc ks cells slots h (pc + 3) Ls (.long v :: st)) : own_G B n0 Q kc ks cells slots h pc Ls st := by
  obtain ⟨p, l, e, R, s, m, args, below, meth, c, k0, P⟩ := B
  obtain ⟨rfl, rfl, hx, hZ, hown, hby, hml, hrt, hlk, hnm, hw, hPe⟩ := H
  intro T locs c1 s1 X F hc hs eT hk
  exact own_go (fun t r => X.ldc2Long hx hown (mvT hZ (hw _ _ q)) (g := mkF m pc Ls st) rfl (hb hby hd) _ r) (k T locs c1 s1 X F hc hs eT hk)
theorem own_ireturn {t : FieldType} (H : own_Ok B Z a0 l R y code N (some t)) {z : Int32} (ht : t = .int ∨ t = .boolean ∨ t = .byte ∨ t = .char ∨ t = .short) (hn : narrow t (.int z) = .int z) (hd : decode code pc = .ok (.ireturn, 1)) (hkc : cells ≤ kc) (hks : slots ≤ ks) (hQ : Q (some (.int z)) h) : own_G B n0 Q kc ks cells slots h pc Ls (.int z :: st) := by
  obtain ⟨p, l, e, R, s, m, args, below, meth, c, k0, P⟩ := B
  obtain ⟨rfl, rfl, hx, hZ, hown, hby, hml, hrt, hlk, hnm, hw, hPe⟩ := H
  intro T locs c1 s1 X F hc hs eT hk
  obtain ⟨fs, hr, hrun, hended, hW, hsame⟩ := X.leave (v := some (.int z)) (fun h => by rw [hrt] at h; cases h) hlk
  exact ⟨_, _, retOut X hx hrt hn (Or.inl ⟨rfl, ht, _, rfl⟩) (hb hby hd) hr, hrun, hended, _, _, rfl, ⟨by show Q _ T.heap; rw [eT]; exact hQ, F⟩, hPe _ _ _ _ _ (by show k0 ≤ T.heap.size; rw [eT]; exact hk) ⟨⟨_, rfl⟩, hW, hsame.mono (Nat.le_trans hc hkc) (Nat.le_trans hs hks)⟩⟩
theorem own_lreturn (H : own_Ok B Z a0 l R y code N (some .long)) {z : Int64} (hd : decode code pc = .ok (.lreturn, 1)) (hkc : cells ≤ kc) (hks : slots ≤ ks) (hQ : Q (some (.long z)) h) : own_G B n0 Q kc ks cells slots h pc Ls (.long z :: st) := by
  obtain ⟨p, l, e, R, s, m, args, below, meth, c, k0, P⟩ := B
  obtain ⟨rfl, rfl, hx, hZ, hown, hby, hml, hrt, hlk, hnm, hw, hPe⟩ := H
  intro T locs c1 s1 X F hc hs eT hk
  obtain ⟨fs, hr, hrun, hended, hW, hsame⟩ := X.leave (v := some (.long z)) (fun h => by rw [hrt] at h; cases h) hlk
  exact ⟨_, _, retOut X hx hrt rfl (Or.inr (Or.inl ⟨rfl, rfl, _, rfl⟩)) (hb hby hd) hr, hrun, hended, _, _, rfl, ⟨by show Q _ T.heap; rw [eT]; exact hQ, F⟩, hPe _ _ _ _ _ (by show k0 ≤ T.heap.size; rw [eT]; exact hk) ⟨⟨_, rfl⟩, hW, hsame.mono (Nat.le_trans hc hkc) (Nat.le_trans hs hks)⟩⟩
theorem own_areturn {t : FieldType} (H : own_Ok B Z a0 l R y code N (some t)) (ht : t.isReference = true) {z : Value} (hz : z.isRef = true) (hn : narrow t z = z) (hd : decode code pc = .ok (.areturn, 1)) (hkc : cells ≤ kc) (hks : slots ≤ ks) (hQ : Q (some z) h) : own_G B n0 Q kc ks cells slots h pc Ls (z :: st) := by
  obtain ⟨p, l, e, R, s, m, args, below, meth, c, k0, P⟩ := B
  obtain ⟨rfl, rfl, hx, hZ, hown, hby, hml, hrt, hlk, hnm, hw, hPe⟩ := H
  intro T locs c1 s1 X F hc hs eT hk
  obtain ⟨fs, hr, hrun, hended, hW, hsame⟩ := X.leave (v := some z) (fun h => by rw [hrt] at h; cases h) hlk
  exact ⟨_, _, retOut X hx hrt hn (Or.inr (Or.inr (Or.inr (Or.inr ⟨rfl, ht, hz⟩)))) (hb hby hd) hr, hrun, hended, _, _, rfl, ⟨by show Q _ T.heap; rw [eT]; exact hQ, F⟩, hPe _ _ _ _ _ (by show k0 ≤ T.heap.size; rw [eT]; exact hk) ⟨⟨_, rfl⟩, hW, hsame.mono (Nat.le_trans hc hkc) (Nat.le_trans hs hks)⟩⟩
theorem own_return (H : own_Ok B Z a0 l R y code N none) (hd : decode code pc = .ok (.return_, 1)) (hkc : cells ≤ kc) (hks : slots ≤ ks) (hQ : Q none h) : own_G B n0 Q kc ks cells slots h pc Ls [] := by
  obtain ⟨p, l, e, R, s, m, args, below, meth, c, k0, P⟩ := B
  obtain ⟨rfl, rfl, hx, hZ, hown, hby, hml, hrt, hlk, hnm, hw, hPe⟩ := H
  intro T locs c1 s1 X F hc hs eT hk
  obtain ⟨fs, hr, hrun, hended, hW, hsame⟩ := X.leave (v := none) (fun h => rfl) hlk
  exact ⟨_, _, X.returnOut hx hrt (hb hby hd) hr, hrun, hended, _, _, rfl, ⟨by show Q _ T.heap; rw [eT]; exact hQ, F⟩, hPe _ _ _ _ _ (by show k0 ≤ T.heap.size; rw [eT]; exact hk) ⟨⟨_, rfl⟩, hW, hsame.mono (Nat.le_trans hc hkc) (Nat.le_trans hs hks)⟩⟩
theorem own_getfield (H : own_Ok B Z a0 l R y code N ret) {O n d : String} {i w : Nat} (q : tables_1[w]? = some (Jvm.Cond.fieldLink y.cls i O n d)) {a : Addr} {v : Value} (Fd : Fld Z h a O n d v) (hd : decode code pc = .ok (.getfield i, 3)) (k : own_G B n0 Q kc ks cells slots h (pc + 3) Ls (v :: st)) : own_G B n0 Q kc ks cells slots h pc Ls (.ref a :: st) := by
  obtain ⟨p, l, e, R, s, m, args, below, meth, c, k0, P⟩ := B
  obtain ⟨rfl, rfl, hx, hZ, hown, hby, hml, hrt, hlk, hnm, hw, hPe⟩ := H
  intro T locs c1 s1 X F hc hs eT hk
  obtain ⟨T', X', e', s'⟩ := getF X hx hZ hown (host := "") (Or.inl (hw _ _ q)) Via.refl eT Fd (g := mkF m pc Ls (.ref a :: st)) rfl rfl (hb hby hd)
  exact own_go s' (k T' locs c1 s1 X' F hc hs e' hk)
theorem own_getstatic (H : own_Ok B Z a0 l R y code N ret) {O n d : String} {i w : Nat} (q : tables_1[w]? = some (Jvm.Cond.fieldLink y.cls i O n d)) {v : Value} (Fd : Sta Z h O n d v) (hd : decode code pc = .ok (.getstatic i, 3)) (k : own_G B n0 Q kc ks cells slots h (pc + 3) Ls (v :: st)) : own_G B n0 Q kc ks cells slots h pc Ls st := by
  obtain ⟨p, l, e, R, s, m, args, below, meth, c, k0, P⟩ := B
  obtain ⟨rfl, rfl, hx, hZ, hown, hby, hml, hrt, hlk, hnm, hw, hPe⟩ := H
  intro T locs c1 s1 X F hc hs eT hk
  obtain ⟨T', X', e', s'⟩ := getS X hx hZ hown (host := "") (hw _ _ q) Via.refl eT Fd (g := mkF m pc Ls st) rfl (hb hby hd)
  exact own_go s' (k T' locs c1 s1 X' F hc hs e' hk)
theorem own_putfield (H : own_Ok B Z a0 l R y code N ret) {O n d C : String} {i w wi kk : Nat} {ty : FieldType} (q : tables_1[w]? = some (Jvm.Cond.fieldLink y.cls i O n d)) {a : Addr} {v old : Value} (Fd : Fld Z h a O n d old) (E : Exa Z h a C) (ha : n0 ≤ a)
    (Lw : (Jvm.Cond.lays C O n d).before a0 Z = true ∨ ((Jvm.Cond.laysFinal C O n d).before a0 Z = true ∧ y.cls = O ∧ y.name = "<init>")) (qi : tables_1[wi]? = some (Jvm.Cond.instantiable C kk)) (hty : parseFieldDescriptor d = some ty) (hn : narrow ty v = v) (hf : fits ty v = true)
    (hd : decode code pc = .ok (.putfield i, 3)) (k : ∀ h', Wr h h' a (Jvm.RoadKit.slotOf Z O n d) v → own_G B n0 Q kc ks cells slots h' (pc + 3) Ls st) : own_G B n0 Q kc ks cells slots h pc Ls (v :: .ref a :: st) := by
  obtain ⟨p, l, e, R, s, m, args, below, meth, c, k0, P⟩ := B
  obtain ⟨rfl, rfl, hx, hZ, hown, hby, hml, hrt, hlk, hnm, hw, hPe⟩ := H
  intro T locs c1 s1 X F hc hs eT hk
  obtain ⟨T', h', X', e', W', s'⟩ := putF X hx hZ hown (host := "") (Or.inl (hw _ _ q)) Via.refl eT Fd E (Lw.imp id fun z => ⟨z.1, z.2.1, hnm.trans z.2.2⟩) (hw _ _ qi) hty hn hf (g := mkF m pc Ls (v :: .ref a :: st)) rfl rfl (hb hby hd)
  exact own_go s' (k h' W' T' _ c1 s1 X' (Fr.snoc X' F ha) hc hs e' (by rw [W'.size]; exact hk))
theorem own_new (H : own_Ok B Z a0 l R y code N ret) {C : String} {i n w wi wz : Nat} (q : tables_1[w]? = some (Jvm.Cond.classLink y.cls i C)) (qi : tables_1[wi]? = some (Jvm.Cond.instantiable C n)) (qz : tables_1[wz]? = some (Jvm.Cond.initialized C)) (hd : decode code pc = .ok (.new i, 3)) (hkc : cells + 1 ≤ R.cells) (hks : slots + n ≤ R.slots)
    (k : ∀ h' a, a = h.size → Ext h h' → Exa Z h' a C → (∀ {O nm d : String} {ty : FieldType}, Laid Z a0 C O nm d → parseFieldDescriptor d = some ty → Fld Z h' a O nm d (defaultValue ty)) → own_G B n0 Q kc ks (cells + 1) (slots + n) h' (pc + 3) Ls (.ref a :: st)) : own_G B n0 Q kc ks cells slots h pc Ls st := by
  obtain ⟨p, l, e, R, s, m, args, below, meth, c, k0, P⟩ := B
  obtain ⟨rfl, rfl, hx, hZ, hown, hby, hml, hrt, hlk, hnm, hw, hPe⟩ := H
  intro T locs c1 s1 X F hc hs eT hk
  obtain ⟨T', h', X', e', E', A', D', -, s'⟩ := newO X hx hZ hown (hw _ _ q) (hw _ _ qi) (hw _ _ qz) eT (g := mkF m pc Ls st) rfl (hb hby hd) (Nat.le_trans (Nat.add_le_add_right hc 1) hkc) (Nat.le_trans (Nat.add_le_add_right hs n) hks)
  exact own_go s' (k h' h.size rfl E' A' D' T' locs _ _ X' F (Nat.add_le_add_right hc 1) (Nat.add_le_add_right hs n) e' (Nat.le_trans hk E'.1))
theorem own_newarray (H : own_Ok B Z a0 l R y code N ret) {aty : ArrayType} {w : Nat} (q : tables_1[w]? = some (Jvm.Cond.arrayClass (newarray.typeOf aty))) {n : Int32} (hn : ¬ n < 0) (cap : Nat) (hcap : n.toNatClampNeg ≤ cap) (hcb : cap * 8 ≤ 536870912) (hd : decode code pc = .ok (.newarray aty, 2)) (hkc : cells + 1 ≤ R.cells) (hks : slots + cap ≤ R.slots)
    (k : ∀ h' a kA, a = h.size → Ext h h' → Arv Z h' a kA (newarray.typeOf aty) n [] (defaultValue (newarray.typeOf aty)) → own_G B n0 Q kc ks (cells + 1) (slots + cap) h' (pc + 2) Ls (.ref a :: st)) : own_G B n0 Q kc ks cells slots h pc Ls (.int n :: st) := by
  obtain ⟨p, l, e, R, s, m, args, below, meth, c, k0, P⟩ := B
  obtain ⟨rfl, rfl, hx, hZ, hown, hby, hml, hrt, hlk, hnm, hw, hPe⟩ := H
  intro T locs c1 s1 X F hc hs eT hk
  obtain ⟨T', h', kA, X', e', E', A', s'⟩ := newP X hx hZ (hw _ _ q) eT (g := mkF m pc Ls (.int n :: st)) rfl (hb hby hd) rfl hn hcap hcb (Nat.le_trans (Nat.add_le_add_right hc 1) hkc) (Nat.le_trans (Nat.add_le_add_right hs cap) hks)
  exact own_go s' (k h' h.size kA rfl E' (Arv.new A' hn) T' locs _ _ X' F (Nat.add_le_add_right hc 1) (Nat.add_le_add_right hs cap) e' (Nat.le_trans hk E'.1))
theorem own_anewarray (H : own_Ok B Z a0 l R y code N ret) {C : String} {i w w2 : Nat} (q : tables_1[w]? = some (Jvm.Cond.classLink y.cls i C)) (q2 : tables_1[w2]? = some (Jvm.Cond.arrayOver (.object C))) {n : Int32} (hn : ¬ n < 0) (cap : Nat) (hcap : n.toNatClampNeg ≤ cap) (hcb : cap * 8 ≤ 536870912) (hd : decode code pc = .ok (.anewarray i, 3)) (hkc : cells + 1 ≤ R.cells) (hks : slots + cap ≤ R.slots)
    (k : ∀ h' a kA, a = h.size → Ext h h' → Arv Z h' a kA (.object C) n [] .null → Ovr Z kA C → own_G B n0 Q kc ks (cells + 1) (slots + cap) h' (pc + 3) Ls (.ref a :: st)) : own_G B n0 Q kc ks cells slots h pc Ls (.int n :: st) := by
  obtain ⟨p, l, e, R, s, m, args, below, meth, c, k0, P⟩ := B
  obtain ⟨rfl, rfl, hx, hZ, hown, hby, hml, hrt, hlk, hnm, hw, hPe⟩ := H
  intro T locs c1 s1 X F hc hs eT hk
  obtain ⟨T', h', kA, X', e', E', A', O', s'⟩ := newR X hx hZ hown (hw _ _ q) (hw _ _ q2) eT (g := mkF m pc Ls (.int n :: st)) rfl (hb hby hd) rfl hn hcap hcb (Nat.le_trans (Nat.add_le_add_right hc 1) hkc) (Nat.le_trans (Nat.add_le_add_right hs cap) hks)
  exact own_go s' (k h' h.size kA rfl E' (Arv.new A' hn) O' T' locs _ _ X' F (Nat.add_le_add_right hc 1) (Nat.add_le_add_right hs cap) e' (Nat.le_trans hk E'.1))
theorem own_iaload (H : own_Ok B Z a0 l R y code N ret) {a : Addr} {cl : Cell} {j : Int32} {v : Value} (A : Arr Z h a cl .int) (hin : ¬ (j < 0 ∨ cl.slots.size ≤ j.toNatClampNeg)) (hv : cl.slots[j.toNatClampNeg]? = some v) (hd : decode code pc = .ok (.iaload, 1)) (k : own_G B n0 Q kc ks cells slots h (pc + 1) Ls (v :: st)) : own_G B n0 Q kc ks cells slots h pc Ls (.int j :: .ref a :: st) := by
  obtain ⟨p, l, e, R, s, m, args, below, meth, c, k0, P⟩ := B
  obtain ⟨rfl, rfl, hx, hZ, hown, hby, hml, hrt, hlk, hnm, hw, hPe⟩ := H
  intro T locs c1 s1 X F hc hs eT hk
  exact own_go (fun t r => X.iaload hx (j := j) (v := v) (by rw [eT]; exact A.1) (State.isArrayOf_alike hZ.alike A.2.1) A.2.2 hin hv (g := mkF m pc Ls (.int j :: .ref a :: st)) rfl rfl (hb hby hd) _ r) (k T locs c1 s1 X F hc hs eT hk)
theorem own_laload (H : own_Ok B Z a0 l R y code N ret) {a : Addr} {cl : Cell} {j : Int32} {v : Value} (A : Arr Z h a cl .long) (hin : ¬ (j < 0 ∨ cl.slots.size ≤ j.toNatClampNeg)) (hv : cl.slots[j.toNatClampNeg]? = some v) (hd : decode code pc = .ok (.laload, 1)) (k : own_G B n0 Q kc ks cells slots h (pc + 1) Ls (v :: st)) : own_G B n0 Q kc ks cells slots h pc Ls (.int j :: .ref a :: st) := by
  obtain ⟨p, l, e, R, s, m, args, below, meth, c, k0, P⟩ := B
  obtain ⟨rfl, rfl, hx, hZ, hown, hby, hml, hrt, hlk, hnm, hw, hPe⟩ := H
  intro T locs c1 s1 X F hc hs eT hk
  exact own_go (fun t r => X.laload hx (j := j) (v := v) (by rw [eT]; exact A.1) (State.isArrayOf_alike hZ.alike A.2.1) A.2.2 hin hv (g := mkF m pc Ls (.int j :: .ref a :: st)) rfl rfl (hb hby hd) _ r) (k T locs c1 s1 X F hc hs eT hk)
theorem own_caload (H : own_Ok B Z a0 l R y code N ret) {a : Addr} {cl : Cell} {j : Int32} {v : Value} (A : Arr Z h a cl .char) (hin : ¬ (j < 0 ∨ cl.slots.size ≤ j.toNatClampNeg)) (hv : cl.slots[j.toNatClampNeg]? = some v) (hd : decode code pc = .ok (.caload, 1)) (k : own_G B n0 Q kc ks cells slots h (pc + 1) Ls (v :: st)) : own_G B n0 Q kc ks cells slots h pc Ls (.int j :: .ref a :: st) := by
  obtain ⟨p, l, e, R, s, m, args, below, meth, c, k0, P⟩ := B
  obtain ⟨rfl, rfl, hx, hZ, hown, hby, hml, hrt, hlk, hnm, hw, hPe⟩ := H
  intro T locs c1 s1 X F hc hs eT hk
  exact own_go (fun t r => X.caload hx (j := j) (v := v) (by rw [eT]; exact A.1) (State.isArrayOf_alike hZ.alike A.2.1) A.2.2 hin hv (g := mkF m pc Ls (.int j :: .ref a :: st)) rfl rfl (hb hby hd) _ r) (k T locs c1 s1 X F hc hs eT hk)
theorem own_baload (H : own_Ok B Z a0 l R y code N ret) {a : Addr} {cl : Cell} {j : Int32} {v : Value} (A : Arr Z h a cl .byte) (hin : ¬ (j < 0 ∨ cl.slots.size ≤ j.toNatClampNeg)) (hv : cl.slots[j.toNatClampNeg]? = some v) (hd : decode code pc = .ok (.baload, 1)) (k : own_G B n0 Q kc ks cells slots h (pc + 1) Ls (v :: st)) : own_G B n0 Q kc ks cells slots h pc Ls (.int j :: .ref a :: st) := by
  obtain ⟨p, l, e, R, s, m, args, below, meth, c, k0, P⟩ := B
  obtain ⟨rfl, rfl, hx, hZ, hown, hby, hml, hrt, hlk, hnm, hw, hPe⟩ := H
  intro T locs c1 s1 X F hc hs eT hk
  exact own_go (fun t r => X.baloadBytes hx (j := j) (v := v) (by rw [eT]; exact A.1) (State.isArrayOf_alike hZ.alike A.2.1) A.2.2 hin hv (g := mkF m pc Ls (.int j :: .ref a :: st)) rfl rfl (hb hby hd) _ r) (k T locs c1 s1 X F hc hs eT hk)
theorem own_aaload (H : own_Ok B Z a0 l R y code N ret) {a : Addr} {cl : Cell} {ty : FieldType} {j : Int32} {v : Value} (A : Arr Z h a cl ty) (hty : ty.isReference = true) (hin : ¬ (j < 0 ∨ cl.slots.size ≤ j.toNatClampNeg)) (hv : cl.slots[j.toNatClampNeg]? = some v) (hd : decode code pc = .ok (.aaload, 1)) (k : own_G B n0 Q kc ks cells slots h (pc + 1) Ls (v :: st)) : own_G B n0 Q kc ks cells slots h pc Ls (.int j :: .ref a :: st) := by
  obtain ⟨p, l, e, R, s, m, args, below, meth, c, k0, P⟩ := B
  obtain ⟨rfl, rfl, hx, hZ, hown, hby, hml, hrt, hlk, hnm, hw, hPe⟩ := H
  intro T locs c1 s1 X F hc hs eT hk
  exact own_go (fun t r => X.aaload hx (j := j) (v := v) (by rw [eT]; exact A.1) (State.isArrayOf_alike hZ.alike A.2.1) hty A.2.2 hin hv (g := mkF m pc Ls (.int j :: .ref a :: st)) rfl rfl (hb hby hd) _ r) (k T locs c1 s1 X F hc hs eT hk)
theorem own_arraylength (H : own_Ok B Z a0 l R y code N ret) {a : Addr} {cl : Cell} {ty : FieldType} {z : Int32} (A : Arr Z h a cl ty) (S : cl.slots.size = z.toNatClampNeg) (hz : ¬ z < 0) (hd : decode code pc = .ok (.arraylength, 1)) (k : own_G B n0 Q kc ks cells slots h (pc + 1) Ls (.int z :: st)) : own_G B n0 Q kc ks cells slots h pc Ls (.ref a :: st) := by
  obtain ⟨p, l, e, R, s, m, args, below, meth, c, k0, P⟩ := B
  obtain ⟨rfl, rfl, hx, hZ, hown, hby, hml, hrt, hlk, hnm, hw, hPe⟩ := H
  intro T locs c1 s1 X F hc hs eT hk
  refine own_go (fun t r => X.arraylength hx (by rw [eT]; exact A.1) (State.isArrayOf_alike hZ.alike A.2.1) (g := mkF m pc Ls (.ref a :: st)) rfl rfl (hb hby hd) _ r) ?_
  rw [len_of S hz]
  exact k T locs c1 s1 X F hc hs eT hk
theorem own_iastore (H : own_Ok B Z a0 l R y code N ret) {a : Addr} {cl : Cell} {j : Int32} {x : Int32} (A : Arr Z h a cl .int) (hin : ¬ (j < 0 ∨ cl.slots.size ≤ j.toNatClampNeg)) (ha : n0 ≤ a) (hd : decode code pc = .ok (.iastore, 1)) (k : ∀ h', Wr h h' a j.toNatClampNeg (.int x) → own_G B n0 Q kc ks cells slots h' (pc + 1) Ls st) : own_G B n0 Q kc ks cells slots h pc Ls (.int x :: .int j :: .ref a :: st) := by
  obtain ⟨p, l, e, R, s, m, args, below, meth, c, k0, P⟩ := B
  obtain ⟨rfl, rfl, hx, hZ, hown, hby, hml, hrt, hlk, hnm, hw, hPe⟩ := H
  intro T locs c1 s1 X F hc hs eT hk
  obtain ⟨T', h', X', e', W', s'⟩ := stI X hx hZ eT A hin (g := mkF m pc Ls (.int x :: .int j :: .ref a :: st)) rfl rfl (hb hby hd)
  exact own_go s' (k h' W' T' _ c1 s1 X' (Fr.snoc X' F ha) hc hs e' (by rw [W'.size]; exact hk))
theorem own_lastore (H : own_Ok B Z a0 l R y code N ret) {a : Addr} {cl : Cell} {j : Int32} {x : Int64} (A : Arr Z h a cl .long) (hin : ¬ (j < 0 ∨ cl.slots.size ≤ j.toNatClampNeg)) (ha : n0 ≤ a) (hd : decode code pc = .ok (.lastore, 1)) (k : ∀ h', Wr h h' a j.toNatClampNeg (.long x) → own_G B n0 Q kc ks cells slots h' (pc + 1) Ls st) : own_G B n0 Q kc ks cells slots h pc Ls (.long x :: .int j :: .ref a :: st) := by
  obtain ⟨p, l, e, R, s, m, args, below, meth, c, k0, P⟩ := B
  obtain ⟨rfl, rfl, hx, hZ, hown, hby, hml, hrt, hlk, hnm, hw, hPe⟩ := H
  intro T locs c1 s1 X F hc hs eT hk
  obtain ⟨T', h', X', e', W', s'⟩ := stJ X hx hZ eT A hin (g := mkF m pc Ls (.long x :: .int j :: .ref a :: st)) rfl rfl (hb hby hd)
  exact own_go s' (k h' W' T' _ c1 s1 X' (Fr.snoc X' F ha) hc hs e' (by rw [W'.size]; exact hk))
theorem own_bastore (H : own_Ok B Z a0 l R y code N ret) {a : Addr} {cl : Cell} {j : Int32} {x : Int32} (A : Arr Z h a cl .byte) (hin : ¬ (j < 0 ∨ cl.slots.size ≤ j.toNatClampNeg)) (ha : n0 ≤ a) (hd : decode code pc = .ok (.bastore, 1)) (k : ∀ h', Wr h h' a j.toNatClampNeg (.int (nar .byte x)) → own_G B n0 Q kc ks cells slots h' (pc + 1) Ls st) : own_G B n0 Q kc ks cells slots h pc Ls (.int x :: .int j :: .ref a :: st) := by
  obtain ⟨p, l, e, R, s, m, args, below, meth, c, k0, P⟩ := B
  obtain ⟨rfl, rfl, hx, hZ, hown, hby, hml, hrt, hlk, hnm, hw, hPe⟩ := H
  intro T locs c1 s1 X F hc hs eT hk
  obtain ⟨T', h', X', e', W', s'⟩ := stB X hx hZ eT A hin (g := mkF m pc Ls (.int x :: .int j :: .ref a :: st)) rfl rfl (hb hby hd)
  exact own_go s' (k h' W' T' _ c1 s1 X' (Fr.snoc X' F ha) hc hs e' (by rw [W'.size]; exact hk))
theorem own_castore (H : own_Ok B Z a0 l R y code N ret) {a : Addr} {cl : Cell} {j : Int32} {x : Int32} (A : Arr Z h a cl .char) (hin : ¬ (j < 0 ∨ cl.slots.size ≤ j.toNatClampNeg)) (ha : n0 ≤ a) (hd : decode code pc = .ok (.castore, 1)) (k : ∀ h', Wr h h' a j.toNatClampNeg (.int (nar .char x)) → own_G B n0 Q kc ks cells slots h' (pc + 1) Ls st) : own_G B n0 Q kc ks cells slots h pc Ls (.int x :: .int j :: .ref a :: st) := by
  obtain ⟨p, l, e, R, s, m, args, below, meth, c, k0, P⟩ := B
  obtain ⟨rfl, rfl, hx, hZ, hown, hby, hml, hrt, hlk, hnm, hw, hPe⟩ := H
  intro T locs c1 s1 X F hc hs eT hk
  obtain ⟨T', h', X', e', W', s'⟩ := stC X hx hZ eT A hin (g := mkF m pc Ls (.int x :: .int j :: .ref a :: st)) rfl rfl (hb hby hd)
  exact own_go s' (k h' W' T' _ c1 s1 X' (Fr.snoc X' F ha) hc hs e' (by rw [W'.size]; exact hk))
theorem own_ialoadV (H : own_Ok B Z a0 l R y code N ret) {a : Addr} {kA : ClassId} {n j : Int32} {vs : List Value} {dv v : Value} (V : Arv Z h a kA .int n vs dv) (h1 : ¬ j < 0) (h2 : j < n) (hv : vs.getD j.toNatClampNeg dv = v) (hd : decode code pc = .ok (.iaload, 1)) (k : own_G B n0 Q kc ks cells slots h (pc + 1) Ls (v :: st)) : own_G B n0 Q kc ks cells slots h pc Ls (.int j :: .ref a :: st) := by
  obtain ⟨cl, A, -, S, M, Hs, -⟩ := V
  exact own_iaload H A (inb_of S ⟨h1, h2⟩) (Hs.at (inb_of S ⟨h1, h2⟩) hv) hd k
theorem own_laloadV (H : own_Ok B Z a0 l R y code N ret) {a : Addr} {kA : ClassId} {n j : Int32} {vs : List Value} {dv v : Value} (V : Arv Z h a kA .long n vs dv) (h1 : ¬ j < 0) (h2 : j < n) (hv : vs.getD j.toNatClampNeg dv = v) (hd : decode code pc = .ok (.laload, 1)) (k : own_G B n0 Q kc ks cells slots h (pc + 1) Ls (v :: st)) : own_G B n0 Q kc ks cells slots h pc Ls (.int j :: .ref a :: st) := by
  obtain ⟨cl, A, -, S, M, Hs, -⟩ := V
  exact own_laload H A (inb_of S ⟨h1, h2⟩) (Hs.at (inb_of S ⟨h1, h2⟩) hv) hd k
theorem own_caloadV (H : own_Ok B Z a0 l R y code N ret) {a : Addr} {kA : ClassId} {n j : Int32} {vs : List Value} {dv v : Value} (V : Arv Z h a kA .char n vs dv) (h1 : ¬ j < 0) (h2 : j < n) (hv : vs.getD j.toNatClampNeg dv = v) (hd : decode code pc = .ok (.caload, 1)) (k : own_G B n0 Q kc ks cells slots h (pc + 1) Ls (v :: st)) : own_G B n0 Q kc ks cells slots h pc Ls (.int j :: .ref a :: st) := by
  obtain ⟨cl, A, -, S, M, Hs, -⟩ := V
  exact own_caload H A (inb_of S ⟨h1, h2⟩) (Hs.at (inb_of S ⟨h1, h2⟩) hv) hd k
theorem own_baloadV (H : own_Ok B Z a0 l R y code N ret) {a : Addr} {kA : ClassId} {n j : Int32} {vs : List Value} {dv v : Value} (V : Arv Z h a kA .byte n vs dv) (h1 : ¬ j < 0) (h2 : j < n) (hv : vs.getD j.toNatClampNeg dv = v) (hd : decode code pc = .ok (.baload, 1)) (k : own_G B n0 Q kc ks cells slots h (pc + 1) Ls (v :: st)) : own_G B n0 Q kc ks cells slots h pc Ls (.int j :: .ref a :: st) := by
  obtain ⟨cl, A, -, S, M, Hs, -⟩ := V
  exact own_baload H A (inb_of S ⟨h1, h2⟩) (Hs.at (inb_of S ⟨h1, h2⟩) hv) hd k
theorem own_aaloadV (H : own_Ok B Z a0 l R y code N ret) {a : Addr} {kA : ClassId} {ty : FieldType} {n j : Int32} {vs : List Value} {dv v : Value} (V : Arv Z h a kA ty n vs dv) (hty : ty.isReference = true) (h1 : ¬ j < 0) (h2 : j < n) (hv : vs.getD j.toNatClampNeg dv = v) (hd : decode code pc = .ok (.aaload, 1)) (k : own_G B n0 Q kc ks cells slots h (pc + 1) Ls (v :: st)) : own_G B n0 Q kc ks cells slots h pc Ls (.int j :: .ref a :: st) := by
  obtain ⟨cl, A, -, S, M, Hs, -⟩ := V
  exact own_aaload H A hty (inb_of S ⟨h1, h2⟩) (Hs.at (inb_of S ⟨h1, h2⟩) hv) hd k
theorem own_arraylengthV (H : own_Ok B Z a0 l R y code N ret) {a : Addr} {kA : ClassId} {ty : FieldType} {n : Int32} {vs : List Value} {dv : Value} (V : Arv Z h a kA ty n vs dv) (hd : decode code pc = .ok (.arraylength, 1)) (k : own_G B n0 Q kc ks cells slots h (pc + 1) Ls (.int n :: st)) : own_G B n0 Q kc ks cells slots h pc Ls (.ref a :: st) := by
  obtain ⟨cl, A, -, S, M, -, -⟩ := V
  exact own_arraylength H A S M hd k
theorem own_iastoreV (H : own_Ok B Z a0 l R y code N ret) {a : Addr} {kA : ClassId} {n j : Int32} {vs : List Value} {dv u : Value} {x : Int32} (V : Arv Z h a kA .int n vs dv) (h1 : ¬ j < 0) (h2 : j < n) (i : Nat) (hj : j.toNatClampNeg = i) (hi : i < vs.length) (ha : n0 ≤ a) (hu : (.int x) = u) (hd : decode code pc = .ok (.iastore, 1)) (k : ∀ h', Wr h h' a j.toNatClampNeg u → Arv Z h' a kA .int n (vs.set i u) dv → own_G B n0 Q kc ks cells slots h' (pc + 1) Ls st) : own_G B n0 Q kc ks cells slots h pc Ls (.int x :: .int j :: .ref a :: st) := by
  subst hu
  obtain ⟨cl, A, q1, S, M, Hs, Fs⟩ := V
  exact own_iastore H A (inb_of S ⟨h1, h2⟩) ha hd fun h' W => k h' W (Arv.set A q1 S M Hs Fs rfl W i hj hi)
theorem own_lastoreV (H : own_Ok B Z a0 l R y code N ret) {a : Addr} {kA : ClassId} {n j : Int32} {vs : List Value} {dv u : Value} {x : Int64} (V : Arv Z h a kA .long n vs dv) (h1 : ¬ j < 0) (h2 : j < n) (i : Nat) (hj : j.toNatClampNeg = i) (hi : i < vs.length) (ha : n0 ≤ a) (hu : (.long x) = u) (hd : decode code pc = .ok (.lastore, 1)) (k : ∀ h', Wr h h' a j.toNatClampNeg u → Arv Z h' a kA .long n (vs.set i u) dv → own_G B n0 Q kc ks cells slots h' (pc + 1) Ls st) : own_G B n0 Q kc ks cells slots h pc Ls (.long x :: .int j :: .ref a :: st) := by
  subst hu
  obtain ⟨cl, A, q1, S, M, Hs, Fs⟩ := V
  exact own_lastore H A (inb_of S ⟨h1, h2⟩) ha hd fun h' W => k h' W (Arv.set A q1 S M Hs Fs rfl W i hj hi)
theorem own_bastoreV (H : own_Ok B Z a0 l R y code N ret) {a : Addr} {kA : ClassId} {n j : Int32} {vs : List Value} {dv u : Value} {x : Int32} (V : Arv Z h a kA .byte n vs dv) (h1 : ¬ j < 0) (h2 : j < n) (i : Nat) (hj : j.toNatClampNeg = i) (hi : i < vs.length) (ha : n0 ≤ a) (hu : (.int (nar .byte x)) = u) (hd : decode code pc = .ok (.bastore, 1)) (k : ∀ h', Wr h h' a j.toNatClampNeg u → Arv Z h' a kA .byte n (vs.set i u) dv → own_G B n0 Q kc ks cells slots h' (pc + 1) Ls st) : own_G B n0 Q kc ks cells slots h pc Ls (.int x :: .int j :: .ref a :: st) := by
  subst hu
  obtain ⟨cl, A, q1, S, M, Hs, Fs⟩ := V
  exact own_bastore H A (inb_of S ⟨h1, h2⟩) ha hd fun h' W => k h' W (Arv.set A q1 S M Hs Fs (fits_nar_byte x) W i hj hi)
theorem own_castoreV (H : own_Ok B Z a0 l R y code N ret) {a : Addr} {kA : ClassId} {n j : Int32} {vs : List Value} {dv u : Value} {x : Int32} (V : Arv Z h a kA .char n vs dv) (h1 : ¬ j < 0) (h2 : j < n) (i : Nat) (hj : j.toNatClampNeg = i) (hi : i < vs.length) (ha : n0 ≤ a) (hu : (.int (nar .char x)) = u) (hd : decode code pc = .ok (.castore, 1)) (k : ∀ h', Wr h h' a j.toNatClampNeg u → Arv Z h' a kA .char n (vs.set i u) dv → own_G B n0 Q kc ks cells slots h' (pc + 1) Ls st) : own_G B n0 Q kc ks cells slots h pc Ls (.int x :: .int j :: .ref a :: st) := by
  subst hu
  obtain ⟨cl, A, q1, S, M, Hs, Fs⟩ := V
  exact own_castore H A (inb_of S ⟨h1, h2⟩) ha hd fun h' W => k h' W (Arv.set A q1 S M Hs Fs (fits_nar_char x) W i hj hi)
theorem own_initObject (H : own_Ok B Z a0 l R y code N ret) {i w1 w2 w3 : Nat} (q1 : tables_1[w1]? = some (Jvm.Cond.methodLink y.cls i Lib.objectInit)) (q2 : tables_1[w2]? = some (Jvm.Cond.instanceMethod Lib.objectInit)) (q3 : tables_1[w3]? = some (Jvm.Cond.code Lib.objectInit ⟨#[0xb1]⟩ 1 none)) {a : Addr} (W : Nat) (hsz : Ls.size = N) (hf : 1 ≤ R.frames) (hW : (st.map fun v => v.category).sum ≤ W) (hl : W + 12 ≤ R.locals)
    (hd : decode code pc = .ok (.invokespecial i, 3)) (k : own_G B n0 Q kc ks cells slots h (pc + 3) Ls st) : own_G B n0 Q kc ks cells slots h pc Ls (.ref a :: st) := by
  obtain ⟨p, l, e, R, s, m, args, below, meth, c, k0, P⟩ := B
  obtain ⟨rfl, rfl, hx, hZ, hown, hby, hml, hrt, hlk, hnm, hw, hPe⟩ := H
  intro T locs c1 s1 X F hc hs eT hk
  obtain ⟨T', X', e', s'⟩ := initO X hx hZ hown (hw _ _ q1) (hw _ _ q2) (hw _ _ q3) eT (g := mkF m pc Ls (.ref a :: st)) rfl (hsz.trans hml.symm) rfl (hb hby hd) hf (W := W) (by show 2 * 0 + _ ≤ _; omega) hl
  exact own_go s' (k T' locs c1 s1 X' F hc hs e' hk)
theorem own_invokestatic (H : own_Ok B Z a0 l R y code N ret) {i w1 w2 w3 w4 : Nat} {yc : MethodName} {bytes : ByteArray} {maxL : Nat} {rc : Option FieldType} {rm : Room} {Qc : Option Value → Heap → Prop} {argsL rest : List Value} (hM : own_C l Z yc bytes maxL rc rm argsL.toArray h n0 Qc)
    (q1 : tables_1[w1]? = some (Jvm.Cond.methodLink y.cls i yc)) (q2 : tables_1[w2]? = some (Jvm.Cond.static yc)) (qz : tables_1[w3]? = some (Jvm.Cond.initialized yc.cls)) (qc : tables_1[w4]? = some (Jvm.Cond.code yc bytes maxL rc)) {ps : List FieldType} {r : Option FieldType} (hpd : parseMethodDescriptor yc.desc = some ⟨ps, r⟩) (hln : argsL.length = ps.length) (W : Nat) (hne : yc.cls ≠ "java/lang/invoke/MethodHandle" ∧ yc.cls ≠ "java/lang/invoke/VarHandle")
    (hsz : Ls.size = N) (hfr : rm.frames + 1 ≤ R.frames) (hW : (rest.map fun v => v.category).sum ≤ W) (hlo : W + (maxL + 11) + rm.locals ≤ R.locals) (hkc : cells + rm.cells ≤ R.cells) (hks : slots + rm.slots ≤ R.slots) (hst : st = argsL.reverse ++ rest) (hd : decode code pc = .ok (.invokestatic i, 3))
    (k : ∀ v h', Qc v h' → own_G B n0 Q kc ks (cells + rm.cells) (slots + rm.slots) h' (pc + 3) Ls (v.toList ++ rest)) : own_G B n0 Q kc ks cells slots h pc Ls st := by
  obtain ⟨p, l, e, R, s, m, args, below, meth, c, k0, P⟩ := B
  obtain ⟨rfl, rfl, hx, hZ, hown, hby, hml, hrt, hlk, hnm, hw, hPe⟩ := H
  intro T locs c1 s1 X F hc hs eT hk
  subst hst
  obtain ⟨v', _, ⟨T', L', k', n'⟩, -, X', ⟨Lc', hQ', l', y', z'⟩, s'⟩ := Jvm.LawKit.callS X hx (y := yc) hown (mvT hZ (hw _ _ q1)) (mvT hZ (hw _ _ q2)) (mvT hZ (hw _ _ qz)) (mvT hZ (hw _ _ qc)) hne (backOf (W := W) (bytes := bytes) (rm := rm) (Q := fun v hh L => (Qc v hh ∧ Fr n0 L) ∧ h.size ≤ hh.size) (h := h) (own_grow hM) hZ (hw _ _ qc) (hw _ _ qz) hfr hlo) (g := mkF m pc Ls (argsL.reverse ++ rest)) rfl (hsz.trans hml.symm) (argsL := argsL) (rest := rest) (lenOf hpd hln) rfl (by show 2 * 0 + _ ≤ _; omega) (hb hby hd) (fun _ _ => ⟨rfl, eT, Nat.le_trans (Nat.add_le_add_right hc _) hkc, Nat.le_trans (Nat.add_le_add_right hs _) hks⟩)
  dsimp only [Pt.U, Pt.locs, Pt.cells, Pt.slots] at X' l' y' z' s' hQ'
  subst l' y' z'
  exact own_go s' (k v' _ hQ'.1.1 T' _ _ _ X' (F.app hQ'.1.2) (Nat.add_le_add_right hc _) (Nat.add_le_add_right hs _) rfl (Nat.le_trans hk hQ'.2))
theorem own_invokespecial (H : own_Ok B Z a0 l R y code N ret) {i w1 w2 w3 w4 : Nat} {yc : MethodName} {bytes : ByteArray} {maxL : Nat} {rm : Room} {Qc : Option Value → Heap → Prop} {a : Addr} {argsL rest : List Value} (hM : own_C l Z yc bytes maxL none rm (.ref a :: argsL).toArray h n0 Qc) (hin : yc.name = "<init>")
    (q1 : tables_1[w1]? = some (Jvm.Cond.methodLink y.cls i yc)) (q2 : tables_1[w2]? = some (Jvm.Cond.instanceMethod yc)) (qz : tables_1[w3]? = some (Jvm.Cond.initialized yc.cls)) (qc : tables_1[w4]? = some (Jvm.Cond.code yc bytes maxL none)) {ps : List FieldType} {r : Option FieldType} (hpd : parseMethodDescriptor yc.desc = some ⟨ps, r⟩) (hln : argsL.length = ps.length) (W : Nat) (hne : yc.cls ≠ "java/lang/invoke/MethodHandle" ∧ yc.cls ≠ "java/lang/invoke/VarHandle")
    (hsz : Ls.size = N) (hfr : rm.frames + 1 ≤ R.frames) (hW : (rest.map fun v => v.category).sum ≤ W) (hlo : W + (maxL + 11) + rm.locals ≤ R.locals) (hkc : cells + rm.cells ≤ R.cells) (hks : slots + rm.slots ≤ R.slots) (hst : st = argsL.reverse ++ .ref a :: rest) (hd : decode code pc = .ok (.invokespecial i, 3))
    (k : ∀ v h', Qc v h' → own_G B n0 Q kc ks (cells + rm.cells) (slots + rm.slots) h' (pc + 3) Ls (v.toList ++ rest)) : own_G B n0 Q kc ks cells slots h pc Ls st := by
  obtain ⟨p, l, e, R, s, m, args, below, meth, c, k0, P⟩ := B
  obtain ⟨rfl, rfl, hx, hZ, hown, hby, hml, hrt, hlk, hnm, hw, hPe⟩ := H
  intro T locs c1 s1 X F hc hs eT hk
  subst hst
  obtain ⟨v', _, ⟨T', L', k', n'⟩, -, X', ⟨Lc', hQ', l', y', z'⟩, s'⟩ := X.specialBack hx (y := yc) hin hown (mvT hZ (hw _ _ q1)) (mvT hZ (hw _ _ q2)) (mvT hZ (hw _ _ qc)) hne (backOf (W := W) (bytes := bytes) (rm := rm) (Q := fun v hh L => (Qc v hh ∧ Fr n0 L) ∧ h.size ≤ hh.size) (h := h) (own_grow hM) hZ (hw _ _ qc) (hw _ _ qz) hfr hlo) (g := mkF m pc Ls (argsL.reverse ++ .ref a :: rest)) rfl (hsz.trans hml.symm) (Steps.refl _) (a := a) (argsL := argsL) (rest := rest) (lenOf hpd hln) rfl (by show 2 * 0 + _ ≤ _; omega) (hb hby hd) (fun _ _ => ⟨rfl, eT, Nat.le_trans (Nat.add_le_add_right hc _) hkc, Nat.le_trans (Nat.add_le_add_right hs _) hks⟩)
  dsimp only [Pt.U, Pt.locs, Pt.cells, Pt.slots] at X' l' y' z' s' hQ'
  subst l' y' z'
  exact own_go (fun t q => s'.trans q) (k v' _ hQ'.1.1 T' _ _ _ X' (F.app hQ'.1.2) (Nat.add_le_add_right hc _) (Nat.add_le_add_right hs _) rfl (Nat.le_trans hk hQ'.2))
theorem own_invokevirtual (H : own_Ok B Z a0 l R y code N ret) {i w0 w1 w2 w3 w4 w5 : Nat} {C : String} {yc : MethodName} {bytes : ByteArray} {maxL : Nat} {rc : Option FieldType} {rm : Room} {Qc : Option Value → Heap → Prop} {a : Addr} {argsL rest : List Value} (hM : own_C l Z yc bytes maxL rc rm (.ref a :: argsL).toArray h n0 Qc) (E : Exa Z h a C)
    (q1 : tables_1[w1]? = some (Jvm.Cond.methodLink y.cls i yc)) (q0 : tables_1[w0]? = some (Jvm.Cond.declares yc)) (q5 : tables_1[w5]? = some (Jvm.Cond.selects C yc yc)) (q2 : tables_1[w2]? = some (Jvm.Cond.instanceMethod yc)) (qz : tables_1[w3]? = some (Jvm.Cond.initialized yc.cls)) (qc : tables_1[w4]? = some (Jvm.Cond.code yc bytes maxL rc)) {ps : List FieldType} {r : Option FieldType} (hpd : parseMethodDescriptor yc.desc = some ⟨ps, r⟩) (hln : argsL.length = ps.length) (W : Nat) (hne : yc.cls ≠ "java/lang/invoke/MethodHandle" ∧ yc.cls ≠ "java/lang/invoke/VarHandle")
    (hsz : Ls.size = N) (hfr : rm.frames + 1 ≤ R.frames) (hW : (rest.map fun v => v.category).sum ≤ W) (hlo : W + (maxL + 11) + rm.locals ≤ R.locals) (hkc : cells + rm.cells ≤ R.cells) (hks : slots + rm.slots ≤ R.slots) (hst : st = argsL.reverse ++ .ref a :: rest) (hd : decode code pc = .ok (.invokevirtual i, 3))
    (k : ∀ v h', Qc v h' → own_G B n0 Q kc ks (cells + rm.cells) (slots + rm.slots) h' (pc + 3) Ls (v.toList ++ rest)) : own_G B n0 Q kc ks cells slots h pc Ls st := by
  obtain ⟨p, l, e, R, s, m, args, below, meth, c, k0, P⟩ := B
  obtain ⟨rfl, rfl, hx, hZ, hown, hby, hml, hrt, hlk, hnm, hw, hPe⟩ := H
  intro T locs c1 s1 X F hc hs eT hk
  subst hst
  obtain ⟨cq, kq, qa, -, qb⟩ := isOf hZ eT E
  obtain ⟨v', _, ⟨T', L', k', n'⟩, -, X', ⟨Lc', hQ', l', y', z'⟩, s'⟩ := X.virtualBack hx (y := yc) (z := yc) hown (mvT hZ (hw _ _ q1)) (mvT hZ (hw _ _ q0)) (notFace_of_selects (args := #[]) (mvT hZ (hw _ _ q5))) (mvT hZ (hw _ _ q5)) (mvT hZ (hw _ _ q2)) hne (backOf (W := W) (bytes := bytes) (rm := rm) (Q := fun v hh L => (Qc v hh ∧ Fr n0 L) ∧ h.size ≤ hh.size) (h := h) (own_grow hM) hZ (hw _ _ qc) (hw _ _ qz) hfr hlo) qa qb (g := mkF m pc Ls (argsL.reverse ++ .ref a :: rest)) rfl (hsz.trans hml.symm) (Steps.refl _) (argsL := argsL) (rest := rest) (lenOf hpd hln) rfl (by show 2 * 0 + _ ≤ _; omega) (hb hby hd) (fun _ _ => ⟨rfl, eT, Nat.le_trans (Nat.add_le_add_right hc _) hkc, Nat.le_trans (Nat.add_le_add_right hs _) hks⟩)
  dsimp only [Pt.U, Pt.locs, Pt.cells, Pt.slots] at X' l' y' z' s' hQ'
  subst l' y' z'
  exact own_go (fun t q => s'.trans q) (k v' _ hQ'.1.1 T' _ _ _ X' (F.app hQ'.1.2) (Nat.add_le_add_right hc _) (Nat.add_le_add_right hs _) rfl (Nat.le_trans hk hQ'.2))
theorem own_newarrayE (H : own_Ok B Z a0 l R y code N ret) {aty : ArrayType} {w : Nat} (q : tables_1[w]? = some (Jvm.Cond.arrayClass (newarray.typeOf aty))) {n : Int32} (ad : String) (had : "[" ++ (newarray.typeOf aty).toString = ad) (hn : ¬ n < 0) (cap : Nat) (hcap : n.toNatClampNeg ≤ cap) (hcb : cap * 8 ≤ 536870912) (hd : decode code pc = .ok (.newarray aty, 2)) (hkc : cells + 1 ≤ R.cells) (hks : slots + cap ≤ R.slots)
    (k : ∀ h' a kA, a = h.size → Ext h h' → Arv Z h' a kA (newarray.typeOf aty) n [] (defaultValue (newarray.typeOf aty)) → Exa Z h' a ad → own_G B n0 Q kc ks (cells + 1) (slots + cap) h' (pc + 2) Ls (.ref a :: st)) : own_G B n0 Q kc ks cells slots h pc Ls (.int n :: st) := by
  obtain ⟨p, l, e, R, s, m, args, below, meth, c, k0, P⟩ := B
  obtain ⟨rfl, rfl, hx, hZ, hown, hby, hml, hrt, hlk, hnm, hw, hPe⟩ := H
  intro T locs c1 s1 X F hc hs eT hk
  obtain ⟨T', h', kA, X', e', E', A', Ex', s'⟩ := newPE X hx hZ (hw _ _ q) eT (g := mkF m pc Ls (.int n :: st)) rfl (hb hby hd) rfl hn hcap hcb (Nat.le_trans (Nat.add_le_add_right hc 1) hkc) (Nat.le_trans (Nat.add_le_add_right hs cap) hks) had
  exact own_go s' (k h' h.size kA rfl E' (Arv.new A' hn) Ex' T' locs _ _ X' F (Nat.add_le_add_right hc 1) (Nat.add_le_add_right hs cap) e' (Nat.le_trans hk E'.1))
theorem own_clone (H : own_Ok B Z a0 l R y code N ret) {ad : String} {i w1 w2 w3 w4 w5 w6 : Nat} (q1 : tables_1[w1]? = some (Jvm.Cond.methodLink y.cls i ⟨ad, "clone", "()Ljava/lang/Object;"⟩)) (q2 : tables_1[w2]? = some (Jvm.Cond.sameMethod ad "java/lang/Object" "clone" "()Ljava/lang/Object;")) (q3 : tables_1[w3]? = some (Jvm.Cond.native ⟨"java/lang/Object", "clone", "()Ljava/lang/Object;"⟩)) (q4 : tables_1[w4]? = some (Jvm.Cond.instanceMethod ⟨"java/lang/Object", "clone", "()Ljava/lang/Object;"⟩)) (q5 : tables_1[w5]? = some (Jvm.Cond.selects ad ⟨ad, "clone", "()Ljava/lang/Object;"⟩ ⟨"java/lang/Object", "clone", "()Ljava/lang/Object;"⟩)) (q6 : tables_1[w6]? = some (Jvm.Cond.castable ad "java/lang/Cloneable"))
    {a : Addr} {kA : ClassId} {ty : FieldType} {n : Int32} {vs : List Value} {dv : Value} (V : Arv Z h a kA ty n vs dv) (E : Exa Z h a ad) (hsz : Ls.size = N) (hf : 1 ≤ R.frames) (W : Nat) (hW : (st.map fun v => v.category).sum ≤ W) (hl : W + 14 ≤ R.locals) (cap : Nat) (hcap : n.toNatClampNeg ≤ cap) (hd : decode code pc = .ok (.invokevirtual i, 3)) (hkc : cells + 1 ≤ R.cells) (hks : slots + cap ≤ R.slots)
    (k : ∀ h' b, b = h.size → Ext h h' → Arv Z h' b kA ty n vs dv → Exa Z h' b ad → own_G B n0 Q kc ks (cells + 1) (slots + cap) h' (pc + 3) Ls (.ref b :: st)) : own_G B n0 Q kc ks cells slots h pc Ls (.ref a :: st) := by
  obtain ⟨p, l, e, R, s, m, args, below, meth, c, k0, P⟩ := B
  obtain ⟨rfl, rfl, hx, hZ, hown, hby, hml, hrt, hlk, hnm, hw, hPe⟩ := H
  intro T locs c1 s1 X F hc hs eT hk
  obtain ⟨T', h', X', e', E', A', Ex', s'⟩ := cloneH X hx hZ hown (hw _ _ q1) (hw _ _ q2) (hw _ _ q3) (hw _ _ q4) (hw _ _ q5) (hw _ _ q6) eT V.arh E (g := mkF m pc Ls (.ref a :: st)) rfl (hsz.trans hml.symm) rfl (hb hby hd) hf (W := W) (by show 2 * 0 + _ ≤ _; omega) hl hcap (Nat.le_trans (Nat.add_le_add_right hc 1) hkc) (Nat.le_trans (Nat.add_le_add_right hs cap) hks)
  exact own_go s' (k h' h.size rfl E' A' Ex' T' locs _ _ X' F (Nat.add_le_add_right hc 1) (Nat.add_le_add_right hs cap) e' (Nat.le_trans hk E'.1))
theorem own_checkcast (H : own_Ok B Z a0 l R y code N ret) {K : String} {i w : Nat} (q : tables_1[w]? = some (Jvm.Cond.classLink y.cls i K)) {a : Addr} (I : Ins Z h a K true) (hd : decode code pc = .ok (.checkcast i, 3)) (k : own_G B n0 Q kc ks cells slots h (pc + 3) Ls (.ref a :: st)) : own_G B n0 Q kc ks cells slots h pc Ls (.ref a :: st) := by
  obtain ⟨p, l, e, R, s, m, args, below, meth, c, k0, P⟩ := B
  obtain ⟨rfl, rfl, hx, hZ, hown, hby, hml, hrt, hlk, hnm, hw, hPe⟩ := H
  intro T locs c1 s1 X F hc hs eT hk
  obtain ⟨T', X', e', s'⟩ := castY X hx hZ hown (hw _ _ q) eT I (g := mkF m pc Ls (.ref a :: st)) rfl rfl (hb hby hd)
  exact own_go s' (k T' locs c1 s1 X' F hc hs e' hk)
theorem own_arraycopy (H : own_Ok B Z a0 l R y code N ret) {i w1 w2 w3 w4 : Nat} (q1 : tables_1[w1]? = some (Jvm.Cond.methodLink y.cls i Jvm.Stand.acN)) (q2 : tables_1[w2]? = some (Jvm.Cond.native Jvm.Stand.acN)) (q3 : tables_1[w3]? = some (Jvm.Cond.static Jvm.Stand.acN)) (q4 : tables_1[w4]? = some (Jvm.Cond.initialized "java/lang/System"))
    {a b : Addr} {kA kB : ClassId} {ty : FieldType} {n n' sp dp nn : Int32} {vs vd us : List Value} {dv dd : Value} (A : Arv Z h a kA ty n vs dv) (D : Arv Z h b kB ty n' vd dd) (hty : refKind ty = false) (h1 : ¬ sp < 0) (h2 : ¬ dp < 0) (h3 : ¬ nn < 0) (h4 : sp.toNatClampNeg + nn.toNatClampNeg ≤ n.toNatClampNeg) (h5 : dp.toNatClampNeg + nn.toNatClampNeg ≤ n'.toNatClampNeg)
    (hus : us = (List.range nn.toNatClampNeg).map fun i => vs.getD (sp.toNatClampNeg + i) dv) (hlv : dp.toNatClampNeg + nn.toNatClampNeg ≤ vd.length) (hb0 : n0 ≤ b) (hsz : Ls.size = N) (hf : 1 ≤ R.frames) (W : Nat) (hW : (st.map fun v => v.category).sum ≤ W) (hlo : W + (nativeFrameWords "java/lang/System" "arraycopy" 5 + 11) ≤ R.locals) (hd : decode code pc = .ok (.invokestatic i, 3))
    (k : ∀ h', Keep h h' [b] → Arv Z h' b kB ty n' (vd.take dp.toNatClampNeg ++ us ++ vd.drop (dp.toNatClampNeg + nn.toNatClampNeg)) dd → own_G B n0 Q kc ks cells slots h' (pc + 3) Ls st) : own_G B n0 Q kc ks cells slots h pc Ls (.int nn :: .int dp :: .ref b :: .int sp :: .ref a :: st) := by
  obtain ⟨p, l, e, R, s, m, args, below, meth, c, k0, P⟩ := B
  obtain ⟨rfl, rfl, hx, hZ, hown, hby, hml, hrt, hlk, hnm, hw, hPe⟩ := H
  intro T locs c1 s1 X F hc hs eT hk
  obtain ⟨T', h', L', X', e', F', K', A', s'⟩ := cpA X hx hZ hown (hw _ _ q1) (hw _ _ q2) (hw _ _ q3) (hw _ _ q4) eT A D (Or.inl ⟨rfl, hty⟩) h1 h2 h3 h4 h5 hus hlv F hb0 (g := mkF m pc Ls (.int nn :: .int dp :: .ref b :: .int sp :: .ref a :: st)) rfl (hsz.trans hml.symm) rfl (hb hby hd) hf (W := W) (by show 2 * 0 + _ ≤ _; omega) hlo
  exact own_go s' (k h' K' A' T' L' c1 s1 X' F' hc hs e' (Nat.le_trans hk K'.1))
theorem own_aastore (H : own_Ok B Z a0 l R y code N ret) {a : Addr} {cl : Cell} {ty : FieldType} {j : Int32} {v : Value} (A : Arr Z h a cl ty) (hty : ty.isReference = true) (S : Sto Z h a v) (hin : ¬ (j < 0 ∨ cl.slots.size ≤ j.toNatClampNeg)) (ha : n0 ≤ a) (hd : decode code pc = .ok (.aastore, 1)) (k : ∀ h', Wr h h' a j.toNatClampNeg v → own_G B n0 Q kc ks cells slots h' (pc + 1) Ls st) : own_G B n0 Q kc ks cells slots h pc Ls (v :: .int j :: .ref a :: st) := by
  obtain ⟨p, l, e, R, s, m, args, below, meth, c, k0, P⟩ := B
  obtain ⟨rfl, rfl, hx, hZ, hown, hby, hml, hrt, hlk, hnm, hw, hPe⟩ := H
  intro T locs c1 s1 X F hc hs eT hk
  obtain ⟨T', h', X', e', W', s'⟩ := stR X hx hZ eT A hin hty S (g := mkF m pc Ls (v :: .int j :: .ref a :: st)) rfl rfl (hb hby hd)
  exact own_go s' (k h' W' T' _ c1 s1 X' (Fr.snoc X' F ha) hc hs e' (by rw [W'.size]; exact hk))
theorem own_invokeprivate (H : own_Ok B Z a0 l R y code N ret) {i w1 w2 w3 w4 w5 w6 : Nat} {C : String} {yc : MethodName} {bytes : ByteArray} {maxL : Nat} {rc : Option FieldType} {rm : Room} {Qc : Option Value → Heap → Prop} {a : Addr} {argsL rest : List Value} (hM : own_C l Z yc bytes maxL rc rm (.ref a :: argsL).toArray h n0 Qc) (E : Exa Z h a C)
    (q1 : tables_1[w1]? = some (Jvm.Cond.methodLink y.cls i yc)) (q2 : tables_1[w2]? = some (Jvm.Cond.instanceMethod yc)) (q5 : tables_1[w5]? = some (Jvm.Cond.selects yc.cls yc yc)) (q6 : tables_1[w6]? = some (Jvm.Cond.privateMethod yc)) (qz : tables_1[w3]? = some (Jvm.Cond.initialized yc.cls)) (qc : tables_1[w4]? = some (Jvm.Cond.code yc bytes maxL rc)) {ps : List FieldType} {r : Option FieldType} (hpd : parseMethodDescriptor yc.desc = some ⟨ps, r⟩) (hln : argsL.length = ps.length) (W : Nat) (hne : yc.cls ≠ "java/lang/invoke/MethodHandle" ∧ yc.cls ≠ "java/lang/invoke/VarHandle")
    (hsz : Ls.size = N) (hfr : rm.frames + 1 ≤ R.frames) (hW : (rest.map fun v => v.category).sum ≤ W) (hlo : W + (maxL + 11) + rm.locals ≤ R.locals) (hkc : cells + rm.cells ≤ R.cells) (hks : slots + rm.slots ≤ R.slots) (hst : st = argsL.reverse ++ .ref a :: rest) (hd : decode code pc = .ok (.invokevirtual i, 3))
    (k : ∀ v h', Qc v h' → own_G B n0 Q kc ks (cells + rm.cells) (slots + rm.slots) h' (pc + 3) Ls (v.toList ++ rest)) : own_G B n0 Q kc ks cells slots h pc Ls st := by
  obtain ⟨p, l, e, R, s, m, args, below, meth, c, k0, P⟩ := B
  obtain ⟨rfl, rfl, hx, hZ, hown, hby, hml, hrt, hlk, hnm, hw, hPe⟩ := H
  intro T locs c1 s1 X F hc hs eT hk
  subst hst
  obtain ⟨cq, ce, co⟩ := E.cell
  obtain ⟨v', _, ⟨T', L', k', n'⟩, -, X', ⟨Lc', hQ', l', y', z'⟩, s'⟩ := X.privateBack hx (y := yc) hown (mvT hZ (hw _ _ q1)) (mvT hZ (hw _ _ q2)) (mvT hZ (hw _ _ q5)) (Cond.privateMethod_at (mvP hZ (hw _ _ q6) (args := #[]))) (mvT hZ (hw _ _ qc)) hne (backOf (W := W) (bytes := bytes) (rm := rm) (Q := fun v hh L => (Qc v hh ∧ Fr n0 L) ∧ h.size ≤ hh.size) (h := h) (own_grow hM) hZ (hw _ _ qc) (hw _ _ qz) hfr hlo) (g := mkF m pc Ls (argsL.reverse ++ .ref a :: rest)) rfl (hsz.trans hml.symm) (Steps.refl _) (a := a) (by rw [eT]; exact ce) co (argsL := argsL) (rest := rest) (lenOf hpd hln) rfl (by show 2 * 0 + _ ≤ _; omega) (hb hby hd) (fun _ _ => ⟨rfl, eT, Nat.le_trans (Nat.add_le_add_right hc _) hkc, Nat.le_trans (Nat.add_le_add_right hs _) hks⟩)
  dsimp only [Pt.U, Pt.locs, Pt.cells, Pt.slots] at X' l' y' z' s' hQ'
  subst l' y' z'
  exact own_go (fun t q => s'.trans q) (k v' _ hQ'.1.1 T' _ _ _ X' (F.app hQ'.1.2) (Nat.add_le_add_right hc _) (Nat.add_le_add_right hs _) rfl (Nat.le_trans hk hQ'.2))
theorem own_atoms (H : own_Ok B Z a0 l R y code N ret) {f : Fin 7 → Nat} (q0 : tables_1[f 0]? = some (Jvm.Cond.initialized "java/lang/String")) (q1 : tables_1[f 1]? = some (Jvm.Cond.instantiable "java/lang/String" 4)) (q2 : tables_1[f 2]? = some (Jvm.Cond.arrayClass .byte)) (q3 : tables_1[f 3]? = some (Jvm.Cond.laysFinal "java/lang/String" "java/lang/String" "value" "[B")) (q4 : tables_1[f 4]? = some (Jvm.Cond.laysFinal "java/lang/String" "java/lang/String" "coder" "B")) (q5 : tables_1[f 5]? = some (Jvm.Cond.soleField "java/lang/String" "value")) (q6 : tables_1[f 6]? = some (Jvm.Cond.soleField "java/lang/String" "coder")) : ∀ d ∈ Bundle.stringAtoms, d.before a0 Z = true := by
  have hw := own_hw H
  intro d hd
  simp only [Bundle.stringAtoms, List.mem_cons, List.not_mem_nil, or_false] at hd
  rcases hd with rfl | rfl | rfl | rfl | rfl | rfl | rfl
  · exact hw _ _ q0
  · exact hw _ _ q1
  · exact hw _ _ q2
  · exact hw _ _ q3
  · exact hw _ _ q4
  · exact hw _ _ q5
  · exact hw _ _ q6
theorem own_ldcS (H : own_Ok B Z a0 l R y code N ret) (D : own_Wd B) {i w : Nat} {text : String} (q : tables_1[w]? = some (Jvm.Cond.stringLink y.cls i text)) (wS : ∀ d ∈ Bundle.stringAtoms, d.before a0 Z = true) (n : Nat) (hn : 4 * text.toList.length ≤ n) (hbig : n ≤ 536870912) (hd : decode code pc = .ok (.ldc i, 2)) (hkc : cells + 2 ≤ R.cells) (hks : slots + (n + 4) ≤ R.slots)
    (k : ∀ (B' : own_B) (a : Addr) (h' : Heap), own_Ok B' Z a0 l R y code N ret → own_Wd B' → Ext h h' → own_G B' n0 Q kc ks (cells + 2) (slots + (n + 4)) h' (pc + 2) Ls (.ref a :: st)) : own_G B n0 Q kc ks cells slots h pc Ls st := by
  obtain ⟨p, l, e, R, s, m, args, below, meth, c, k0, P⟩ := B
  obtain ⟨rfl, rfl, hx, hZ, hown, hby, hml, hrt, hlk, hnm, hw, hPe⟩ := H
  obtain ⟨s0, vm0, rfl, rfl, hS⟩ := D
  intro T locs c1 s1 X F hc hs eT hk
  obtain ⟨a, T', h', k1, X', e', E', hS', hk', hZ', hown', s'⟩ := ldcS X hx hZ hown (hw _ _ q) wS eT hS hk (g := mkF m pc Ls st) rfl (hb hby hd) hn hbig (Nat.le_trans (Nat.add_le_add_right hc 2) hkc) (Nat.le_trans (Nat.add_le_add_right hs _) hks)
  exact own_go s' (k (p, l, e, R, s0.setVm T'.vm, m, args, below, meth, c, k1, ReturnedEndW s0) a h' ⟨rfl, rfl, hx, hZ', hown', hby, hml, hrt, hlk, hnm, hw, own_pe hS'⟩ ⟨s0, T'.vm, rfl, rfl, hS'⟩ E' T' locs _ _ X' F (Nat.add_le_add_right hc 2) (Nat.add_le_add_right hs _) e' hk')
theorem own_invokevirtualW (H : own_Ok B Z a0 l R y code N ret) (D : own_Wd B) {i w0 w1 w2 w3 w4 w5 : Nat} {C : String} {yc : MethodName} {bytes : ByteArray} {maxL : Nat} {rc : Option FieldType} {rm : Room} {Qc : Option Value → Heap → Prop} {a : Addr} {argsL rest : List Value} (hM : own_CW l Z yc bytes maxL rc rm (.ref a :: argsL).toArray h n0 Qc) (E : Exa Z h a C)
    (q1 : tables_1[w1]? = some (Jvm.Cond.methodLink y.cls i yc)) (q0 : tables_1[w0]? = some (Jvm.Cond.declares yc)) (q5 : tables_1[w5]? = some (Jvm.Cond.selects C yc yc)) (q2 : tables_1[w2]? = some (Jvm.Cond.instanceMethod yc)) (qz : tables_1[w3]? = some (Jvm.Cond.initialized yc.cls)) (qc : tables_1[w4]? = some (Jvm.Cond.code yc bytes maxL rc)) {ps : List FieldType} {r : Option FieldType} (hpd : parseMethodDescriptor yc.desc = some ⟨ps, r⟩) (hln : argsL.length = ps.length) (W : Nat) (hne : yc.cls ≠ "java/lang/invoke/MethodHandle" ∧ yc.cls ≠ "java/lang/invoke/VarHandle")
    (hsz : Ls.size = N) (hfr : rm.frames + 1 ≤ R.frames) (hW : (rest.map fun v => v.category).sum ≤ W) (hlo : W + (maxL + 11) + rm.locals ≤ R.locals) (hkc : cells + rm.cells ≤ R.cells) (hks : slots + rm.slots ≤ R.slots) (hst : st = argsL.reverse ++ .ref a :: rest) (hd : decode code pc = .ok (.invokevirtual i, 3))
    (k : ∀ (B' : own_B) v h', own_Ok B' Z a0 l R y code N ret → own_Wd B' → Qc v h' → own_G B' n0 Q kc ks (cells + rm.cells) (slots + rm.slots) h' (pc + 3) Ls (v.toList ++ rest)) : own_G B n0 Q kc ks cells slots h pc Ls st := by
  obtain ⟨p, l, e, R, s, m, args, below, meth, c, k0, P⟩ := B
  obtain ⟨rfl, rfl, hx, hZ, hown, hby, hml, hrt, hlk, hnm, hw, hPe⟩ := H
  obtain ⟨s0, vm0, rfl, rfl, hS⟩ := D
  intro T locs c1 s1 X F hc hs eT hk
  subst hst
  obtain ⟨cq, kq, qa, -, qb⟩ := isOf hZ eT E
  obtain ⟨v', _, ⟨T', L', k', n'⟩, -, X', hS', hgr, ⟨Lc', hQ', l', y', z'⟩, s'⟩ := X.virtualBackS hx (y := yc) (z := yc) hown (mvT hZ (hw _ _ q1)) (mvT hZ (hw _ _ q0)) (notFace_of_selects (args := #[]) (mvT hZ (hw _ _ q5))) (mvT hZ (hw _ _ q5)) (mvT hZ (hw _ _ q2)) hne (backOfS (W := W) (bytes := bytes) (rm := rm) (Q := fun v hh L => Qc v hh ∧ Fr n0 L) (h := h) hM hZ (hw _ _ qc) (hw _ _ qz) hfr hlo) qa qb (g := mkF m pc Ls (argsL.reverse ++ .ref a :: rest)) rfl (hsz.trans hml.symm) (Steps.refl _) (argsL := argsL) (rest := rest) (lenOf hpd hln) rfl (by show 2 * 0 + _ ≤ _; omega) (hb hby hd) (fun _ _ => ⟨rfl, eT, Nat.le_trans (Nat.add_le_add_right hc _) hkc, Nat.le_trans (Nat.add_le_add_right hs _) hks⟩)
  dsimp only [Pt.U, Pt.locs, Pt.cells, Pt.slots] at X' l' y' z' s' hQ' hS' hgr
  subst l' y' z'
  have hS2 : s0.Since T'.vm T'.heap.size := foldS (T := T) hS (by rw [eT]; exact hk) hS' hgr
  exact own_go (fun t q => s'.trans q) (k (p, l, e, R, s0.setVm T'.vm, m, args, below, meth, c, T'.heap.size, ReturnedEndW s0) v' _ ⟨rfl, rfl, hx, State.Warmed39.trans (t := s0.setVm vm0) hZ hS'.1, by rw [show (s0.setVm T'.vm).vm = T'.vm from rfl, hS'.1.alike.findClass]; exact hown, hby, hml, hrt, hlk, hnm, hw, own_pe hS2⟩ ⟨s0, T'.vm, rfl, rfl, hS2⟩ hQ'.1 T' _ _ _ X' (F.app hQ'.2) (Nat.add_le_add_right hc _) (Nat.add_le_add_right hs _) rfl (Nat.le_refl _))
theorem own_ldc2D (H : own_Ok B Z a0 l R y code N ret) {i w : Nat} {v : UInt64} (q : tables_1[w]? = some (Jvm.Cond.constantDouble y.cls i v)) (hd : decode code pc = .ok (.ldc2_w i, 3)) (k : own_G B n0 Q kc ks cells slots h (pc + 3) Ls (.double v :: st)) : own_G B n0 Q kc ks cells slots h pc Ls st := by
  obtain ⟨p, l, e, R, s, m, args, below, meth, c, k0, P⟩ := B
  obtain ⟨rfl, rfl, hx, hZ, hown, hby, hml, hrt, hlk, hnm, hw, hPe⟩ := H
  intro T locs c1 s1 X F hc hs eT hk
  exact own_go (fun t r => X.ldc2DoubleC hx hown (mvT hZ (hw _ _ q)) (g := mkF m pc Ls st) rfl (hb hby hd) _ r) (k T locs c1 s1 X F hc hs eT hk)
theorem own_daloadV (H : own_Ok B Z a0 l R y code N ret) {a : Addr} {kA : ClassId} {n j : Int32} {vs : List Value} {dv v : Value} (V : Arv Z h a kA .double n vs dv) (h1 : ¬ j < 0) (h2 : j < n) (hv : vs.getD j.toNatClampNeg dv = v) (hd : decode code pc = .ok (.daload, 1)) (k : own_G B n0 Q kc ks cells slots h (pc + 1) Ls (v :: st)) : own_G B n0 Q kc ks cells slots h pc Ls (.int j :: .ref a :: st) := by
  obtain ⟨cl, A, -, S, M, Hs, -⟩ := V
  obtain ⟨p, l, e, R, s, m, args, below, meth, c, k0, P⟩ := B
  obtain ⟨rfl, rfl, hx, hZ, hown, hby, hml, hrt, hlk, hnm, hw, hPe⟩ := H
  intro T locs c1 s1 X F hc hs eT hk
  exact own_go (fun t r => X.daload hx (j := j) (v := v) (by rw [eT]; exact A.1) (State.isArrayOf_alike hZ.alike A.2.1) A.2.2 (inb_of S ⟨h1, h2⟩) (Hs.at (inb_of S ⟨h1, h2⟩) hv) (g := mkF m pc Ls (.int j :: .ref a :: st)) rfl rfl (hb hby hd) _ r) (k T locs c1 s1 X F hc hs eT hk)
theorem own_dastoreV (H : own_Ok B Z a0 l R y code N ret) {a : Addr} {kA : ClassId} {n j : Int32} {vs : List Value} {dv : Value} {x : UInt64} (V : Arv Z h a kA .double n vs dv) (h1 : ¬ j < 0) (h2 : j < n) (i : Nat) (hj : j.toNatClampNeg = i) (hi : i < vs.length) (ha : n0 ≤ a) (hd : decode code pc = .ok (.dastore, 1)) (k : ∀ h', Wr h h' a j.toNatClampNeg (.double x) → Arv Z h' a kA .double n (vs.set i (.double x)) dv → own_G B n0 Q kc ks cells slots h' (pc + 1) Ls st) : own_G B n0 Q kc ks cells slots h pc Ls (.double x :: .int j :: .ref a :: st) := by
  obtain ⟨cl, A, q1, S, M, Hs, Fs⟩ := V
  obtain ⟨p, l, e, R, s, m, args, below, meth, c, k0, P⟩ := B
  obtain ⟨rfl, rfl, hx, hZ, hown, hby, hml, hrt, hlk, hnm, hw, hPe⟩ := H
  intro T locs c1 s1 X F hc hs eT hk
  have hj' := inb_of S ⟨h1, h2⟩
  obtain ⟨X', s'⟩ := X.dastore hx (by rw [eT]; exact A.1) (State.isArrayOf_alike hZ.alike A.2.1) A.2.2 hj' (x := x) (g := mkF m pc Ls (.double x :: .int j :: .ref a :: st)) rfl rfl (hb hby hd)
  have W' : Wr h (T.setCell a (cl.setSlot j.toNatClampNeg (.double x))).heap a j.toNatClampNeg (.double x) := ⟨cl, A.1, A.plain, Nat.lt_of_not_le fun q => hj' (Or.inr q), by rw [← eT]; rfl⟩
  exact own_go s' (k _ W' (Arv.set A q1 S M Hs Fs rfl W' i hj hi) _ _ c1 s1 X' (Fr.snoc X' F ha) hc hs rfl (by rw [W'.size]; exact hk))
theorem own_dcmp (H : own_Ok B Z a0 l R y code N ret) {o : CmpOp} {x z : UInt64} (v : Int32) (hv : cmpValue (FP.dcmp x z) o = v) (hd : decode code pc = .ok (.dcmp o, 1)) (k : own_G B n0 Q kc ks cells slots h (pc + 1) Ls (.int v :: st)) : own_G B n0 Q kc ks cells slots h pc Ls (.double z :: .double x :: st) := by
  obtain ⟨p, l, e, R, s, m, args, below, meth, c, k0, P⟩ := B
  obtain ⟨rfl, rfl, hx, hZ, hown, hby, hml, hrt, hlk, hnm, hw, hPe⟩ := H
  intro T locs c1 s1 X F hc hs eT hk
  exact own_go (fun t q => XS.dcmpS X.here hx rfl (hb hby hd) rfl hv q) (k T locs c1 s1 X F hc hs eT hk)
theorem own_dreturn (H : own_Ok B Z a0 l R y code N (some .double)) {z : UInt64} (hd : decode code pc = .ok (.dreturn, 1)) (hkc : cells ≤ kc) (hks : slots ≤ ks) (hQ : Q (some (.double z)) h) : own_G B n0 Q kc ks cells slots h pc Ls (.double z :: st) := by
  obtain ⟨p, l, e, R, s, m, args, below, meth, c, k0, P⟩ := B
  obtain ⟨rfl, rfl, hx, hZ, hown, hby, hml, hrt, hlk, hnm, hw, hPe⟩ := H
  intro T locs c1 s1 X F hc hs eT hk
  obtain ⟨fs, hr, hrun, hended, hW, hsame⟩ := X.leave (v := some (.double z)) (fun h => by rw [hrt] at h; cases h) hlk
  exact ⟨_, _, retOut X hx hrt rfl (Or.inr (Or.inr (Or.inl ⟨rfl, rfl, _, rfl⟩))) (hb hby hd) hr, hrun, hended, _, _, rfl, ⟨by show Q _ T.heap; rw [eT]; exact hQ, F⟩, hPe _ _ _ _ _ (by show k0 ≤ T.heap.size; rw [eT]; exact hk) ⟨⟨_, rfl⟩, hW, hsame.mono (Nat.le_trans hc hkc) (Nat.le_trans hs hks)⟩⟩

end Laws
end OwnKit
theorem d1_0 : decode jdk_29_method_66_code 0 = .ok (.lload_n 0, 1) := by decide +kernel
theorem d1_1 : decode jdk_29_method_66_code 1 = .ok (.lload_n 2, 1) := by decide +kernel
theorem d1_2 : decode jdk_29_method_66_code 2 = .ok (.lcmp, 1) := by decide +kernel
theorem d1_3 : decode jdk_29_method_66_code 3 = .ok (.ifCond .lt 7, 3) := by decide +kernel
theorem d1_6 : decode jdk_29_method_66_code 6 = .ok (.lload_n 0, 1) := by decide +kernel
theorem d1_7 : decode jdk_29_method_66_code 7 = .ok (.goto 4, 3) := by decide +kernel
theorem d1_10 : decode jdk_29_method_66_code 10 = .ok (.lload_n 2, 1) := by decide +kernel
theorem d1_11 : decode jdk_29_method_66_code 11 = .ok (.lreturn, 1) := by decide +kernel
theorem own_pl1 : plainFor (⟨"java/lang/Math", "max", "(JJ)J"⟩ : MethodName) = true := Jvm.Free.JP.mathPlain rfl (by decide +kernel)
theorem own_pd0 : parseMethodDescriptor "(JJ)J" = some ⟨[.long, .long], some .long⟩ := by decide +kernel
def FMaxJ (p1 : Int64) (p2 : Int64) : Int64 := if p1 < p2 then p2 else p1
set_option maxHeartbeats 4000000 in
theorem rmMaxJ (l : Launch) (Z : State) (a0 : Array Value) (hw : ∀ (i : Nat) (d : Jvm.Cond), tables_1[i]? = some d → d.before a0 Z = true) (h0 : Heap) (n0 : Nat) (p1 : Int64) (p2 : Int64) :
    own_P l Z (⟨"java/lang/Math", "max", "(JJ)J"⟩ : MethodName) jdk_29_method_66_code 4 (some .long) (own_rm 0 0) #[(.long p1), (.long p2)] h0 n0 (.long (FMaxJ p1 p2)) := by
  refine own_met (Ls := #[.val (.long p1), .second, .val (.long p2), .second]) hw own_pl1 (fun m => by first | (simp [entryFrame, mkF, argsToLocals, Value.category]; done) | rfl) ?_
  intro B H
  refine own_lload_n H rfl d1_0 ?_
  refine own_lload_n H rfl d1_1 ?_
  by_cases c1 : p1 < p2
  ·
    refine own_lcmplt_t H (pc' := 10) d1_2 d1_3 (by decide) (by decide) c1 ?_
    refine own_lload_n H rfl d1_10 ?_
    exact own_lreturn H d1_11 (Nat.le_refl _) (Nat.le_refl _) ⟨by show some _ = some _; rw [FMaxJ, if_pos c1], rfl⟩
  ·
    refine own_lcmplt_f H d1_2 d1_3 c1 ?_
    refine own_lload_n H rfl d1_6 ?_
    refine own_goto H (pc' := 11) d1_7 (by decide) (by decide) ?_
    exact own_lreturn H d1_11 (Nat.le_refl _) (Nat.le_refl _) ⟨by show some _ = some _; rw [FMaxJ, if_neg c1], rfl⟩
theorem d2_0 : decode jdk_29_method_70_code 0 = .ok (.lload_n 0, 1) := by decide +kernel
theorem d2_1 : decode jdk_29_method_70_code 1 = .ok (.lload_n 2, 1) := by decide +kernel
theorem d2_2 : decode jdk_29_method_70_code 2 = .ok (.lcmp, 1) := by decide +kernel
theorem d2_3 : decode jdk_29_method_70_code 3 = .ok (.ifCond .gt 7, 3) := by decide +kernel
theorem d2_6 : decode jdk_29_method_70_code 6 = .ok (.lload_n 0, 1) := by decide +kernel
theorem d2_7 : decode jdk_29_method_70_code 7 = .ok (.goto 4, 3) := by decide +kernel
theorem d2_10 : decode jdk_29_method_70_code 10 = .ok (.lload_n 2, 1) := by decide +kernel
theorem d2_11 : decode jdk_29_method_70_code 11 = .ok (.lreturn, 1) := by decide +kernel
theorem own_pl2 : plainFor (⟨"java/lang/Math", "min", "(JJ)J"⟩ : MethodName) = true := Jvm.Free.JP.mathPlain rfl (by decide +kernel)
def FMinJ (p1 : Int64) (p2 : Int64) : Int64 := if p2 < p1 then p2 else p1
set_option maxHeartbeats 4000000 in
theorem rmMinJ (l : Launch) (Z : State) (a0 : Array Value) (hw : ∀ (i : Nat) (d : Jvm.Cond), tables_1[i]? = some d → d.before a0 Z = true) (h0 : Heap) (n0 : Nat) (p1 : Int64) (p2 : Int64) :
    own_P l Z (⟨"java/lang/Math", "min", "(JJ)J"⟩ : MethodName) jdk_29_method_70_code 4 (some .long) (own_rm 0 0) #[(.long p1), (.long p2)] h0 n0 (.long (FMinJ p1 p2)) := by
  refine own_met (Ls := #[.val (.long p1), .second, .val (.long p2), .second]) hw own_pl2 (fun m => by first | (simp [entryFrame, mkF, argsToLocals, Value.category]; done) | rfl) ?_
  intro B H
  refine own_lload_n H rfl d2_0 ?_
  refine own_lload_n H rfl d2_1 ?_
  by_cases c1 : p2 < p1
  ·
    refine own_lcmpgt_t H (pc' := 10) d2_2 d2_3 (by decide) (by decide) c1 ?_
    refine own_lload_n H rfl d2_10 ?_
    exact own_lreturn H d2_11 (Nat.le_refl _) (Nat.le_refl _) ⟨by show some _ = some _; rw [FMinJ, if_pos c1], rfl⟩
  ·
    refine own_lcmpgt_f H d2_2 d2_3 c1 ?_
    refine own_lload_n H rfl d2_6 ?_
    refine own_goto H (pc' := 11) d2_7 (by decide) (by decide) ?_
    exact own_lreturn H d2_11 (Nat.le_refl _) (Nat.le_refl _) ⟨by show some _ = some _; rw [FMinJ, if_neg c1], rfl⟩
theorem d7_0 : decode jdk_29_method_65_code 0 = .ok (.iload_n 0, 1) := by decide +kernel
theorem d7_1 : decode jdk_29_method_65_code 1 = .ok (.iload_n 1, 1) := by decide +kernel
theorem d7_2 : decode jdk_29_method_65_code 2 = .ok (.if_icmp .lt 7, 3) := by decide +kernel
theorem d7_5 : decode jdk_29_method_65_code 5 = .ok (.iload_n 0, 1) := by decide +kernel
theorem d7_6 : decode jdk_29_method_65_code 6 = .ok (.goto 4, 3) := by decide +kernel
theorem d7_9 : decode jdk_29_method_65_code 9 = .ok (.iload_n 1, 1) := by decide +kernel
theorem d7_10 : decode jdk_29_method_65_code 10 = .ok (.ireturn, 1) := by decide +kernel
theorem own_pl7 : plainFor (⟨"java/lang/Math", "max", "(II)I"⟩ : MethodName) = true := Jvm.Free.JP.mathPlain rfl (by decide +kernel)
theorem own_pd1 : parseMethodDescriptor "(II)I" = some ⟨[.int, .int], some .int⟩ := by decide +kernel
def FMaxI (p1 : Int32) (p2 : Int32) : Int32 := if p1 < p2 then p2 else p1
set_option maxHeartbeats 4000000 in
theorem rmMaxI (l : Launch) (Z : State) (a0 : Array Value) (hw : ∀ (i : Nat) (d : Jvm.Cond), tables_1[i]? = some d → d.before a0 Z = true) (h0 : Heap) (n0 : Nat) (p1 : Int32) (p2 : Int32) :
    own_P l Z (⟨"java/lang/Math", "max", "(II)I"⟩ : MethodName) jdk_29_method_65_code 2 (some .int) (own_rm 0 0) #[(.int p1), (.int p2)] h0 n0 (.int (FMaxI p1 p2)) := by
  refine own_met (Ls := #[.val (.int p1), .val (.int p2)]) hw own_pl7 (fun m => by first | (simp [entryFrame, mkF, argsToLocals, Value.category]; done) | rfl) ?_
  intro B H
  refine own_iload_n H rfl d7_0 ?_
  refine own_iload_n H rfl d7_1 ?_
  by_cases c1 : p1 < p2
  ·
    refine own_icmplt_t H (pc' := 9) d7_2 (by decide) (by decide) c1 ?_
    refine own_iload_n H rfl d7_9 ?_
    exact own_ireturn H (by simp) rfl d7_10 (Nat.le_refl _) (Nat.le_refl _) ⟨by show some _ = some _; rw [FMaxI, if_pos c1], rfl⟩
  ·
    refine own_icmplt_f H d7_2 c1 ?_
    refine own_iload_n H rfl d7_5 ?_
    refine own_goto H (pc' := 10) d7_6 (by decide) (by decide) ?_
    exact own_ireturn H (by simp) rfl d7_10 (Nat.le_refl _) (Nat.le_refl _) ⟨by show some _ = some _; rw [FMaxI, if_neg c1], rfl⟩
theorem d6_0 : decode jdk_33_method_47_code 0 = .ok (.iload_n 0, 1) := by decide +kernel
theorem d6_1 : decode jdk_33_method_47_code 1 = .ok (.ifCond .gt 14, 3) := by decide +kernel
theorem d6_4 : decode jdk_33_method_47_code 4 = .ok (.iload_n 0, 1) := by decide +kernel
theorem d6_5 : decode jdk_33_method_47_code 5 = .ok (.ifCond .ne 8, 3) := by decide +kernel
theorem d6_8 : decode jdk_33_method_47_code 8 = .ok (.bipush 32, 2) := by decide +kernel
theorem d6_10 : decode jdk_33_method_47_code 10 = .ok (.goto 4, 3) := by decide +kernel
theorem d6_13 : decode jdk_33_method_47_code 13 = .ok (.iconst 0, 1) := by decide +kernel
theorem d6_14 : decode jdk_33_method_47_code 14 = .ok (.ireturn, 1) := by decide +kernel
theorem d6_15 : decode jdk_33_method_47_code 15 = .ok (.bipush 31, 2) := by decide +kernel
theorem d6_17 : decode jdk_33_method_47_code 17 = .ok (.istore_n 1, 1) := by decide +kernel
theorem d6_18 : decode jdk_33_method_47_code 18 = .ok (.iload_n 0, 1) := by decide +kernel
theorem d6_19 : decode jdk_33_method_47_code 19 = .ok (.ldc_w 264, 3) := by decide +kernel
theorem d6_22 : decode jdk_33_method_47_code 22 = .ok (.if_icmp .lt 11, 3) := by decide +kernel
theorem d6_25 : decode jdk_33_method_47_code 25 = .ok (.iinc 1 (-16), 3) := by decide +kernel
theorem d6_28 : decode jdk_33_method_47_code 28 = .ok (.iload_n 0, 1) := by decide +kernel
theorem d6_29 : decode jdk_33_method_47_code 29 = .ok (.bipush 16, 2) := by decide +kernel
theorem d6_31 : decode jdk_33_method_47_code 31 = .ok (.iushr, 1) := by decide +kernel
theorem d6_32 : decode jdk_33_method_47_code 32 = .ok (.istore_n 0, 1) := by decide +kernel
theorem d6_33 : decode jdk_33_method_47_code 33 = .ok (.iload_n 0, 1) := by decide +kernel
theorem d6_34 : decode jdk_33_method_47_code 34 = .ok (.sipush 256, 3) := by decide +kernel
theorem d6_37 : decode jdk_33_method_47_code 37 = .ok (.if_icmp .lt 11, 3) := by decide +kernel
theorem d6_40 : decode jdk_33_method_47_code 40 = .ok (.iinc 1 (-8), 3) := by decide +kernel
theorem d6_43 : decode jdk_33_method_47_code 43 = .ok (.iload_n 0, 1) := by decide +kernel
theorem d6_44 : decode jdk_33_method_47_code 44 = .ok (.bipush 8, 2) := by decide +kernel
theorem d6_46 : decode jdk_33_method_47_code 46 = .ok (.iushr, 1) := by decide +kernel
theorem d6_47 : decode jdk_33_method_47_code 47 = .ok (.istore_n 0, 1) := by decide +kernel
theorem d6_48 : decode jdk_33_method_47_code 48 = .ok (.iload_n 0, 1) := by decide +kernel
theorem d6_49 : decode jdk_33_method_47_code 49 = .ok (.bipush 16, 2) := by decide +kernel
theorem d6_51 : decode jdk_33_method_47_code 51 = .ok (.if_icmp .lt 10, 3) := by decide +kernel
theorem d6_54 : decode jdk_33_method_47_code 54 = .ok (.iinc 1 (-4), 3) := by decide +kernel
theorem d6_57 : decode jdk_33_method_47_code 57 = .ok (.iload_n 0, 1) := by decide +kernel
theorem d6_58 : decode jdk_33_method_47_code 58 = .ok (.iconst 4, 1) := by decide +kernel
theorem d6_59 : decode jdk_33_method_47_code 59 = .ok (.iushr, 1) := by decide +kernel
theorem d6_60 : decode jdk_33_method_47_code 60 = .ok (.istore_n 0, 1) := by decide +kernel
theorem d6_61 : decode jdk_33_method_47_code 61 = .ok (.iload_n 0, 1) := by decide +kernel
theorem d6_62 : decode jdk_33_method_47_code 62 = .ok (.iconst 4, 1) := by decide +kernel
theorem d6_63 : decode jdk_33_method_47_code 63 = .ok (.if_icmp .lt 10, 3) := by decide +kernel
theorem d6_66 : decode jdk_33_method_47_code 66 = .ok (.iinc 1 (-2), 3) := by decide +kernel
theorem d6_69 : decode jdk_33_method_47_code 69 = .ok (.iload_n 0, 1) := by decide +kernel
theorem d6_70 : decode jdk_33_method_47_code 70 = .ok (.iconst 2, 1) := by decide +kernel
theorem d6_71 : decode jdk_33_method_47_code 71 = .ok (.iushr, 1) := by decide +kernel
theorem d6_72 : decode jdk_33_method_47_code 72 = .ok (.istore_n 0, 1) := by decide +kernel
theorem d6_73 : decode jdk_33_method_47_code 73 = .ok (.iload_n 1, 1) := by decide +kernel
theorem d6_74 : decode jdk_33_method_47_code 74 = .ok (.iload_n 0, 1) := by decide +kernel
theorem d6_75 : decode jdk_33_method_47_code 75 = .ok (.iconst 1, 1) := by decide +kernel
theorem d6_76 : decode jdk_33_method_47_code 76 = .ok (.iushr, 1) := by decide +kernel
theorem d6_77 : decode jdk_33_method_47_code 77 = .ok (.isub, 1) := by decide +kernel
theorem d6_78 : decode jdk_33_method_47_code 78 = .ok (.ireturn, 1) := by decide +kernel
theorem own_pl6 : plainFor (⟨"java/lang/Integer", "numberOfLeadingZeros", "(I)I"⟩ : MethodName) = true := plainFor_of_name (by first | (simp [plainName, overriddenIn]; done) | decide +kernel)
theorem own_pd2 : parseMethodDescriptor "(I)I" = some ⟨[.int], some .int⟩ := by decide +kernel
def FNlz (p1 : Int32) : Int32 := if 0 < p1 then if p1 < (65536 : Int32) then if p1 < (256 : Int32) then if p1 < (16 : Int32) then if p1 < (4 : Int32) then ((31 : Int32) - (XT.ushr p1 (1 : Int32))) else ((29 : Int32) - (XT.ushr (XT.ushr p1 (2 : Int32)) (1 : Int32))) else if (XT.ushr p1 (4 : Int32)) < (4 : Int32) then ((27 : Int32) - (XT.ushr (XT.ushr p1 (4 : Int32)) (1 : Int32))) else ((25 : Int32) - (XT.ushr (XT.ushr (XT.ushr p1 (4 : Int32)) (2 : Int32)) (1 : Int32))) else if (XT.ushr p1 (8 : Int32)) < (16 : Int32) then if (XT.ushr p1 (8 : Int32)) < (4 : Int32) then ((23 : Int32) - (XT.ushr (XT.ushr p1 (8 : Int32)) (1 : Int32))) else ((21 : Int32) - (XT.ushr (XT.ushr (XT.ushr p1 (8 : Int32)) (2 : Int32)) (1 : Int32))) else if (XT.ushr (XT.ushr p1 (8 : Int32)) (4 : Int32)) < (4 : Int32) then ((19 : Int32) - (XT.ushr (XT.ushr (XT.ushr p1 (8 : Int32)) (4 : Int32)) (1 : Int32))) else ((17 : Int32) - (XT.ushr (XT.ushr (XT.ushr (XT.ushr p1 (8 : Int32)) (4 : Int32)) (2 : Int32)) (1 : Int32))) else if (XT.ushr p1 (16 : Int32)) < (256 : Int32) then if (XT.ushr p1 (16 : Int32)) < (16 : Int32) then if (XT.ushr p1 (16 : Int32)) < (4 : Int32) then ((15 : Int32) - (XT.ushr (XT.ushr p1 (16 : Int32)) (1 : Int32))) else ((13 : Int32) - (XT.ushr (XT.ushr (XT.ushr p1 (16 : Int32)) (2 : Int32)) (1 : Int32))) else if (XT.ushr (XT.ushr p1 (16 : Int32)) (4 : Int32)) < (4 : Int32) then ((11 : Int32) - (XT.ushr (XT.ushr (XT.ushr p1 (16 : Int32)) (4 : Int32)) (1 : Int32))) else ((9 : Int32) - (XT.ushr (XT.ushr (XT.ushr (XT.ushr p1 (16 : Int32)) (4 : Int32)) (2 : Int32)) (1 : Int32))) else if (XT.ushr (XT.ushr p1 (16 : Int32)) (8 : Int32)) < (16 : Int32) then if (XT.ushr (XT.ushr p1 (16 : Int32)) (8 : Int32)) < (4 : Int32) then ((7 : Int32) - (XT.ushr (XT.ushr (XT.ushr p1 (16 : Int32)) (8 : Int32)) (1 : Int32))) else ((5 : Int32) - (XT.ushr (XT.ushr (XT.ushr (XT.ushr p1 (16 : Int32)) (8 : Int32)) (2 : Int32)) (1 : Int32))) else if (XT.ushr (XT.ushr (XT.ushr p1 (16 : Int32)) (8 : Int32)) (4 : Int32)) < (4 : Int32) then ((3 : Int32) - (XT.ushr (XT.ushr (XT.ushr (XT.ushr p1 (16 : Int32)) (8 : Int32)) (4 : Int32)) (1 : Int32))) else ((1 : Int32) - (XT.ushr (XT.ushr (XT.ushr (XT.ushr (XT.ushr p1 (16 : Int32)) (8 : Int32)) (4 : Int32)) (2 : Int32)) (1 : Int32))) else if p1 = 0 then (32 : Int32) else (0 : Int32)
set_option maxHeartbeats 4000000 in
theorem rmNlz (l : Launch) (Z : State) (a0 : Array Value) (hw : ∀ (i : Nat) (d : Jvm.Cond), tables_1[i]? = some d → d.before a0 Z = true) (h0 : Heap) (n0 : Nat) (p1 : Int32) :
    own_P l Z (⟨"java/lang/Integer", "numberOfLeadingZeros", "(I)I"⟩ : MethodName) jdk_33_method_47_code 2 (some .int) (own_rm 0 0) #[(.int p1)] h0 n0 (.int (FNlz p1)) := by
  refine own_met (Ls := #[.val (.int p1), .unset]) hw own_pl6 (fun m => by first | (simp [entryFrame, mkF, argsToLocals, Value.category]; done) | rfl) ?_
  intro B H
  refine own_iload_n H rfl d6_0 ?_
  by_cases c1 : 0 < p1
  ·
    refine own_ifgt_t H (pc' := 15) d6_1 (by decide) (by decide) c1 ?_
    refine own_bipush H (31 : Int32) (by decide) d6_15 ?_
    refine own_istore_n H #[.val (.int p1), .val (.int (31 : Int32))] rfl d6_17 ?_
    refine own_iload_n H rfl d6_18 ?_
    refine own_ldcwI H (w := 80) rfl d6_19 ?_
    by_cases c2 : p1 < (65536 : Int32)
    ·
      refine own_icmplt_t H (pc' := 33) d6_22 (by decide) (by decide) c2 ?_
      refine own_iload_n H rfl d6_33 ?_
      refine own_sipush H (256 : Int32) (by decide) d6_34 ?_
      by_cases c3 : p1 < (256 : Int32)
      ·
        refine own_icmplt_t H (pc' := 48) d6_37 (by decide) (by decide) c3 ?_
        refine own_iload_n H rfl d6_48 ?_
        refine own_bipush H (16 : Int32) (by decide) d6_49 ?_
        by_cases c4 : p1 < (16 : Int32)
        ·
          refine own_icmplt_t H (pc' := 61) d6_51 (by decide) (by decide) c4 ?_
          refine own_iload_n H rfl d6_61 ?_
          refine own_iconst H (4 : Int32) (by decide) d6_62 ?_
          by_cases c5 : p1 < (4 : Int32)
          ·
            refine own_icmplt_t H (pc' := 73) d6_63 (by decide) (by decide) c5 ?_
            refine own_iload_n H rfl d6_73 ?_
            refine own_iload_n H rfl d6_74 ?_
            refine own_iconst H (1 : Int32) (by decide) d6_75 ?_
            refine own_iushr H rfl d6_76 ?_
            refine own_isub H rfl d6_77 ?_
            exact own_ireturn H (by simp) rfl d6_78 (Nat.le_refl _) (Nat.le_refl _) ⟨by show some _ = some _; rw [FNlz, if_pos c1, if_pos c2, if_pos c3, if_pos c4, if_pos c5], rfl⟩
          ·
            refine own_icmplt_f H d6_63 c5 ?_
            refine own_iinc H (-2 : Int32) (by decide) rfl (by decide) #[.val (.int p1), .val (.int (29 : Int32))] rfl d6_66 ?_
            refine own_iload_n H rfl d6_69 ?_
            refine own_iconst H (2 : Int32) (by decide) d6_70 ?_
            refine own_iushr H rfl d6_71 ?_
            refine own_istore_n H #[.val (.int (XT.ushr p1 (2 : Int32))), .val (.int (29 : Int32))] rfl d6_72 ?_
            refine own_iload_n H rfl d6_73 ?_
            refine own_iload_n H rfl d6_74 ?_
            refine own_iconst H (1 : Int32) (by decide) d6_75 ?_
            refine own_iushr H rfl d6_76 ?_
            refine own_isub H rfl d6_77 ?_
            exact own_ireturn H (by simp) rfl d6_78 (Nat.le_refl _) (Nat.le_refl _) ⟨by show some _ = some _; rw [FNlz, if_pos c1, if_pos c2, if_pos c3, if_pos c4, if_neg c5], rfl⟩
        ·
          refine own_icmplt_f H d6_51 c4 ?_
          refine own_iinc H (-4 : Int32) (by decide) rfl (by decide) #[.val (.int p1), .val (.int (27 : Int32))] rfl d6_54 ?_
          refine own_iload_n H rfl d6_57 ?_
          refine own_iconst H (4 : Int32) (by decide) d6_58 ?_
          refine own_iushr H rfl d6_59 ?_
          refine own_istore_n H #[.val (.int (XT.ushr p1 (4 : Int32))), .val (.int (27 : Int32))] rfl d6_60 ?_
          refine own_iload_n H rfl d6_61 ?_
          refine own_iconst H (4 : Int32) (by decide) d6_62 ?_
          by_cases c6 : (XT.ushr p1 (4 : Int32)) < (4 : Int32)
          ·
            refine own_icmplt_t H (pc' := 73) d6_63 (by decide) (by decide) c6 ?_
            refine own_iload_n H rfl d6_73 ?_
            refine own_iload_n H rfl d6_74 ?_
            refine own_iconst H (1 : Int32) (by decide) d6_75 ?_
            refine own_iushr H rfl d6_76 ?_
            refine own_isub H rfl d6_77 ?_
            exact own_ireturn H (by simp) rfl d6_78 (Nat.le_refl _) (Nat.le_refl _) ⟨by show some _ = some _; rw [FNlz, if_pos c1, if_pos c2, if_pos c3, if_neg c4, if_pos c6], rfl⟩
          ·
            refine own_icmplt_f H d6_63 c6 ?_
            refine own_iinc H (-2 : Int32) (by decide) rfl (by decide) #[.val (.int (XT.ushr p1 (4 : Int32))), .val (.int (25 : Int32))] rfl d6_66 ?_
            refine own_iload_n H rfl d6_69 ?_
            refine own_iconst H (2 : Int32) (by decide) d6_70 ?_
            refine own_iushr H rfl d6_71 ?_
            refine own_istore_n H #[.val (.int (XT.ushr (XT.ushr p1 (4 : Int32)) (2 : Int32))), .val (.int (25 : Int32))] rfl d6_72 ?_
            refine own_iload_n H rfl d6_73 ?_
            refine own_iload_n H rfl d6_74 ?_
            refine own_iconst H (1 : Int32) (by decide) d6_75 ?_
            refine own_iushr H rfl d6_76 ?_
            refine own_isub H rfl d6_77 ?_
            exact own_ireturn H (by simp) rfl d6_78 (Nat.le_refl _) (Nat.le_refl _) ⟨by show some _ = some _; rw [FNlz, if_pos c1, if_pos c2, if_pos c3, if_neg c4, if_neg c6], rfl⟩
      ·
        refine own_icmplt_f H d6_37 c3 ?_
        refine own_iinc H (-8 : Int32) (by decide) rfl (by decide) #[.val (.int p1), .val (.int (23 : Int32))] rfl d6_40 ?_
        refine own_iload_n H rfl d6_43 ?_
        refine own_bipush H (8 : Int32) (by decide) d6_44 ?_
        refine own_iushr H rfl d6_46 ?_
        refine own_istore_n H #[.val (.int (XT.ushr p1 (8 : Int32))), .val (.int (23 : Int32))] rfl d6_47 ?_
        refine own_iload_n H rfl d6_48 ?_
        refine own_bipush H (16 : Int32) (by decide) d6_49 ?_
        by_cases c7 : (XT.ushr p1 (8 : Int32)) < (16 : Int32)
        ·
          refine own_icmplt_t H (pc' := 61) d6_51 (by decide) (by decide) c7 ?_
          refine own_iload_n H rfl d6_61 ?_
          refine own_iconst H (4 : Int32) (by decide) d6_62 ?_
          by_cases c8 : (XT.ushr p1 (8 : Int32)) < (4 : Int32)
          ·
            refine own_icmplt_t H (pc' := 73) d6_63 (by decide) (by decide) c8 ?_
            refine own_iload_n H rfl d6_73 ?_
            refine own_iload_n H rfl d6_74 ?_
            refine own_iconst H (1 : Int32) (by decide) d6_75 ?_
            refine own_iushr H rfl d6_76 ?_
            refine own_isub H rfl d6_77 ?_
            exact own_ireturn H (by simp) rfl d6_78 (Nat.le_refl _) (Nat.le_refl _) ⟨by show some _ = some _; rw [FNlz, if_pos c1, if_pos c2, if_neg c3, if_pos c7, if_pos c8], rfl⟩
          ·
            refine own_icmplt_f H d6_63 c8 ?_
            refine own_iinc H (-2 : Int32) (by decide) rfl (by decide) #[.val (.int (XT.ushr p1 (8 : Int32))), .val (.int (21 : Int32))] rfl d6_66 ?_
            refine own_iload_n H rfl d6_69 ?_
            refine own_iconst H (2 : Int32) (by decide) d6_70 ?_
            refine own_iushr H rfl d6_71 ?_
            refine own_istore_n H #[.val (.int (XT.ushr (XT.ushr p1 (8 : Int32)) (2 : Int32))), .val (.int (21 : Int32))] rfl d6_72 ?_
            refine own_iload_n H rfl d6_73 ?_
            refine own_iload_n H rfl d6_74 ?_
            refine own_iconst H (1 : Int32) (by decide) d6_75 ?_
            refine own_iushr H rfl d6_76 ?_
            refine own_isub H rfl d6_77 ?_
            exact own_ireturn H (by simp) rfl d6_78 (Nat.le_refl _) (Nat.le_refl _) ⟨by show some _ = some _; rw [FNlz, if_pos c1, if_pos c2, if_neg c3, if_pos c7, if_neg c8], rfl⟩
        ·
          refine own_icmplt_f H d6_51 c7 ?_
          refine own_iinc H (-4 : Int32) (by decide) rfl (by decide) #[.val (.int (XT.ushr p1 (8 : Int32))), .val (.int (19 : Int32))] rfl d6_54 ?_
          refine own_iload_n H rfl d6_57 ?_
          refine own_iconst H (4 : Int32) (by decide) d6_58 ?_
          refine own_iushr H rfl d6_59 ?_
          refine own_istore_n H #[.val (.int (XT.ushr (XT.ushr p1 (8 : Int32)) (4 : Int32))), .val (.int (19 : Int32))] rfl d6_60 ?_
          refine own_iload_n H rfl d6_61 ?_
          refine own_iconst H (4 : Int32) (by decide) d6_62 ?_
          by_cases c9 : (XT.ushr (XT.ushr p1 (8 : Int32)) (4 : Int32)) < (4 : Int32)
          ·
            refine own_icmplt_t H (pc' := 73) d6_63 (by decide) (by decide) c9 ?_
            refine own_iload_n H rfl d6_73 ?_
            refine own_iload_n H rfl d6_74 ?_
            refine own_iconst H (1 : Int32) (by decide) d6_75 ?_
            refine own_iushr H rfl d6_76 ?_
            refine own_isub H rfl d6_77 ?_
            exact own_ireturn H (by simp) rfl d6_78 (Nat.le_refl _) (Nat.le_refl _) ⟨by show some _ = some _; rw [FNlz, if_pos c1, if_pos c2, if_neg c3, if_neg c7, if_pos c9], rfl⟩
          ·
            refine own_icmplt_f H d6_63 c9 ?_
            refine own_iinc H (-2 : Int32) (by decide) rfl (by decide) #[.val (.int (XT.ushr (XT.ushr p1 (8 : Int32)) (4 : Int32))), .val (.int (17 : Int32))] rfl d6_66 ?_
            refine own_iload_n H rfl d6_69 ?_
            refine own_iconst H (2 : Int32) (by decide) d6_70 ?_
            refine own_iushr H rfl d6_71 ?_
            refine own_istore_n H #[.val (.int (XT.ushr (XT.ushr (XT.ushr p1 (8 : Int32)) (4 : Int32)) (2 : Int32))), .val (.int (17 : Int32))] rfl d6_72 ?_
            refine own_iload_n H rfl d6_73 ?_
            refine own_iload_n H rfl d6_74 ?_
            refine own_iconst H (1 : Int32) (by decide) d6_75 ?_
            refine own_iushr H rfl d6_76 ?_
            refine own_isub H rfl d6_77 ?_
            exact own_ireturn H (by simp) rfl d6_78 (Nat.le_refl _) (Nat.le_refl _) ⟨by show some _ = some _; rw [FNlz, if_pos c1, if_pos c2, if_neg c3, if_neg c7, if_neg c9], rfl⟩
    ·
      refine own_icmplt_f H d6_22 c2 ?_
      refine own_iinc H (-16 : Int32) (by decide) rfl (by decide) #[.val (.int p1), .val (.int (15 : Int32))] rfl d6_25 ?_
      refine own_iload_n H rfl d6_28 ?_
      refine own_bipush H (16 : Int32) (by decide) d6_29 ?_
      refine own_iushr H rfl d6_31 ?_
      refine own_istore_n H #[.val (.int (XT.ushr p1 (16 : Int32))), .val (.int (15 : Int32))] rfl d6_32 ?_
      refine own_iload_n H rfl d6_33 ?_
      refine own_sipush H (256 : Int32) (by decide) d6_34 ?_
      by_cases c10 : (XT.ushr p1 (16 : Int32)) < (256 : Int32)
      ·
        refine own_icmplt_t H (pc' := 48) d6_37 (by decide) (by decide) c10 ?_
        refine own_iload_n H rfl d6_48 ?_
        refine own_bipush H (16 : Int32) (by decide) d6_49 ?_
        by_cases c11 : (XT.ushr p1 (16 : Int32)) < (16 : Int32)
        ·
          refine own_icmplt_t H (pc' := 61) d6_51 (by decide) (by decide) c11 ?_
          refine own_iload_n H rfl d6_61 ?_
          refine own_iconst H (4 : Int32) (by decide) d6_62 ?_
          by_cases c12 : (XT.ushr p1 (16 : Int32)) < (4 : Int32)
          ·
            refine own_icmplt_t H (pc' := 73) d6_63 (by decide) (by decide) c12 ?_
            refine own_iload_n H rfl d6_73 ?_
            refine own_iload_n H rfl d6_74 ?_
            refine own_iconst H (1 : Int32) (by decide) d6_75 ?_
            refine own_iushr H rfl d6_76 ?_
            refine own_isub H rfl d6_77 ?_
            exact own_ireturn H (by simp) rfl d6_78 (Nat.le_refl _) (Nat.le_refl _) ⟨by show some _ = some _; rw [FNlz, if_pos c1, if_neg c2, if_pos c10, if_pos c11, if_pos c12], rfl⟩
          ·
            refine own_icmplt_f H d6_63 c12 ?_
            refine own_iinc H (-2 : Int32) (by decide) rfl (by decide) #[.val (.int (XT.ushr p1 (16 : Int32))), .val (.int (13 : Int32))] rfl d6_66 ?_
            refine own_iload_n H rfl d6_69 ?_
            refine own_iconst H (2 : Int32) (by decide) d6_70 ?_
            refine own_iushr H rfl d6_71 ?_
            refine own_istore_n H #[.val (.int (XT.ushr (XT.ushr p1 (16 : Int32)) (2 : Int32))), .val (.int (13 : Int32))] rfl d6_72 ?_
            refine own_iload_n H rfl d6_73 ?_
            refine own_iload_n H rfl d6_74 ?_
            refine own_iconst H (1 : Int32) (by decide) d6_75 ?_
            refine own_iushr H rfl d6_76 ?_
            refine own_isub H rfl d6_77 ?_
            exact own_ireturn H (by simp) rfl d6_78 (Nat.le_refl _) (Nat.le_refl _) ⟨by show some _ = some _; rw [FNlz, if_pos c1, if_neg c2, if_pos c10, if_pos c11, if_neg c12], rfl⟩
        ·
          refine own_icmplt_f H d6_51 c11 ?_
          refine own_iinc H (-4 : Int32) (by decide) rfl (by decide) #[.val (.int (XT.ushr p1 (16 : Int32))), .val (.int (11 : Int32))] rfl d6_54 ?_
          refine own_iload_n H rfl d6_57 ?_
          refine own_iconst H (4 : Int32) (by decide) d6_58 ?_
          refine own_iushr H rfl d6_59 ?_
          refine own_istore_n H #[.val (.int (XT.ushr (XT.ushr p1 (16 : Int32)) (4 : Int32))), .val (.int (11 : Int32))] rfl d6_60 ?_
          refine own_iload_n H rfl d6_61 ?_
          refine own_iconst H (4 : Int32) (by decide) d6_62 ?_
          by_cases c13 : (XT.ushr (XT.ushr p1 (16 : Int32)) (4 : Int32)) < (4 : Int32)
          ·
            refine own_icmplt_t H (pc' := 73) d6_63 (by decide) (by decide) c13 ?_
            refine own_iload_n H rfl d6_73 ?_
            refine own_iload_n H rfl d6_74 ?_
            refine own_iconst H (1 : Int32) (by decide) d6_75 ?_
            refine own_iushr H rfl d6_76 ?_
            refine own_isub H rfl d6_77 ?_
            exact own_ireturn H (by simp) rfl d6_78 (Nat.le_refl _) (Nat.le_refl _) ⟨by show some _ = some _; rw [FNlz, if_pos c1, if_neg c2, if_pos c10, if_neg c11, if_pos c13], rfl⟩
          ·
            refine own_icmplt_f H d6_63 c13 ?_
            refine own_iinc H (-2 : Int32) (by decide) rfl (by decide) #[.val (.int (XT.ushr (XT.ushr p1 (16 : Int32)) (4 : Int32))), .val (.int (9 : Int32))] rfl d6_66 ?_
            refine own_iload_n H rfl d6_69 ?_
            refine own_iconst H (2 : Int32) (by decide) d6_70 ?_
            refine own_iushr H rfl d6_71 ?_
            refine own_istore_n H #[.val (.int (XT.ushr (XT.ushr (XT.ushr p1 (16 : Int32)) (4 : Int32)) (2 : Int32))), .val (.int (9 : Int32))] rfl d6_72 ?_
            refine own_iload_n H rfl d6_73 ?_
            refine own_iload_n H rfl d6_74 ?_
            refine own_iconst H (1 : Int32) (by decide) d6_75 ?_
            refine own_iushr H rfl d6_76 ?_
            refine own_isub H rfl d6_77 ?_
            exact own_ireturn H (by simp) rfl d6_78 (Nat.le_refl _) (Nat.le_refl _) ⟨by show some _ = some _; rw [FNlz, if_pos c1, if_neg c2, if_pos c10, if_neg c11, if_neg c13], rfl⟩
      ·
        refine own_icmplt_f H d6_37 c10 ?_
        refine own_iinc H (-8 : Int32) (by decide) rfl (by decide) #[.val (.int (XT.ushr p1 (16 : Int32))), .val (.int (7 : Int32))] rfl d6_40 ?_
        refine own_iload_n H rfl d6_43 ?_
        refine own_bipush H (8 : Int32) (by decide) d6_44 ?_
        refine own_iushr H rfl d6_46 ?_
        refine own_istore_n H #[.val (.int (XT.ushr (XT.ushr p1 (16 : Int32)) (8 : Int32))), .val (.int (7 : Int32))] rfl d6_47 ?_
        refine own_iload_n H rfl d6_48 ?_
        refine own_bipush H (16 : Int32) (by decide) d6_49 ?_
        by_cases c14 : (XT.ushr (XT.ushr p1 (16 : Int32)) (8 : Int32)) < (16 : Int32)
        ·
          refine own_icmplt_t H (pc' := 61) d6_51 (by decide) (by decide) c14 ?_
          refine own_iload_n H rfl d6_61 ?_
          refine own_iconst H (4 : Int32) (by decide) d6_62 ?_
          by_cases c15 : (XT.ushr (XT.ushr p1 (16 : Int32)) (8 : Int32)) < (4 : Int32)
          ·
            refine own_icmplt_t H (pc' := 73) d6_63 (by decide) (by decide) c15 ?_
            refine own_iload_n H rfl d6_73 ?_
            refine own_iload_n H rfl d6_74 ?_
            refine own_iconst H (1 : Int32) (by decide) d6_75 ?_
            refine own_iushr H rfl d6_76 ?_
            refine own_isub H rfl d6_77 ?_
            exact own_ireturn H (by simp) rfl d6_78 (Nat.le_refl _) (Nat.le_refl _) ⟨by show some _ = some _; rw [FNlz, if_pos c1, if_neg c2, if_neg c10, if_pos c14, if_pos c15], rfl⟩
          ·
            refine own_icmplt_f H d6_63 c15 ?_
            refine own_iinc H (-2 : Int32) (by decide) rfl (by decide) #[.val (.int (XT.ushr (XT.ushr p1 (16 : Int32)) (8 : Int32))), .val (.int (5 : Int32))] rfl d6_66 ?_
            refine own_iload_n H rfl d6_69 ?_
            refine own_iconst H (2 : Int32) (by decide) d6_70 ?_
            refine own_iushr H rfl d6_71 ?_
            refine own_istore_n H #[.val (.int (XT.ushr (XT.ushr (XT.ushr p1 (16 : Int32)) (8 : Int32)) (2 : Int32))), .val (.int (5 : Int32))] rfl d6_72 ?_
            refine own_iload_n H rfl d6_73 ?_
            refine own_iload_n H rfl d6_74 ?_
            refine own_iconst H (1 : Int32) (by decide) d6_75 ?_
            refine own_iushr H rfl d6_76 ?_
            refine own_isub H rfl d6_77 ?_
            exact own_ireturn H (by simp) rfl d6_78 (Nat.le_refl _) (Nat.le_refl _) ⟨by show some _ = some _; rw [FNlz, if_pos c1, if_neg c2, if_neg c10, if_pos c14, if_neg c15], rfl⟩
        ·
          refine own_icmplt_f H d6_51 c14 ?_
          refine own_iinc H (-4 : Int32) (by decide) rfl (by decide) #[.val (.int (XT.ushr (XT.ushr p1 (16 : Int32)) (8 : Int32))), .val (.int (3 : Int32))] rfl d6_54 ?_
          refine own_iload_n H rfl d6_57 ?_
          refine own_iconst H (4 : Int32) (by decide) d6_58 ?_
          refine own_iushr H rfl d6_59 ?_
          refine own_istore_n H #[.val (.int (XT.ushr (XT.ushr (XT.ushr p1 (16 : Int32)) (8 : Int32)) (4 : Int32))), .val (.int (3 : Int32))] rfl d6_60 ?_
          refine own_iload_n H rfl d6_61 ?_
          refine own_iconst H (4 : Int32) (by decide) d6_62 ?_
          by_cases c16 : (XT.ushr (XT.ushr (XT.ushr p1 (16 : Int32)) (8 : Int32)) (4 : Int32)) < (4 : Int32)
          ·
            refine own_icmplt_t H (pc' := 73) d6_63 (by decide) (by decide) c16 ?_
            refine own_iload_n H rfl d6_73 ?_
            refine own_iload_n H rfl d6_74 ?_
            refine own_iconst H (1 : Int32) (by decide) d6_75 ?_
            refine own_iushr H rfl d6_76 ?_
            refine own_isub H rfl d6_77 ?_
            exact own_ireturn H (by simp) rfl d6_78 (Nat.le_refl _) (Nat.le_refl _) ⟨by show some _ = some _; rw [FNlz, if_pos c1, if_neg c2, if_neg c10, if_neg c14, if_pos c16], rfl⟩
          ·
            refine own_icmplt_f H d6_63 c16 ?_
            refine own_iinc H (-2 : Int32) (by decide) rfl (by decide) #[.val (.int (XT.ushr (XT.ushr (XT.ushr p1 (16 : Int32)) (8 : Int32)) (4 : Int32))), .val (.int (1 : Int32))] rfl d6_66 ?_
            refine own_iload_n H rfl d6_69 ?_
            refine own_iconst H (2 : Int32) (by decide) d6_70 ?_
            refine own_iushr H rfl d6_71 ?_
            refine own_istore_n H #[.val (.int (XT.ushr (XT.ushr (XT.ushr (XT.ushr p1 (16 : Int32)) (8 : Int32)) (4 : Int32)) (2 : Int32))), .val (.int (1 : Int32))] rfl d6_72 ?_
            refine own_iload_n H rfl d6_73 ?_
            refine own_iload_n H rfl d6_74 ?_
            refine own_iconst H (1 : Int32) (by decide) d6_75 ?_
            refine own_iushr H rfl d6_76 ?_
            refine own_isub H rfl d6_77 ?_
            exact own_ireturn H (by simp) rfl d6_78 (Nat.le_refl _) (Nat.le_refl _) ⟨by show some _ = some _; rw [FNlz, if_pos c1, if_neg c2, if_neg c10, if_neg c14, if_neg c16], rfl⟩
  ·
    refine own_ifgt_f H d6_1 c1 ?_
    refine own_iload_n H rfl d6_4 ?_
    by_cases c17 : p1 = 0
    ·
      refine own_ifne_f H d6_5 c17 ?_
      refine own_bipush H (32 : Int32) (by decide) d6_8 ?_
      refine own_goto H (pc' := 14) d6_10 (by decide) (by decide) ?_
      exact own_ireturn H (by simp) rfl d6_14 (Nat.le_refl _) (Nat.le_refl _) ⟨by show some _ = some _; rw [FNlz, if_neg c1, if_pos c17], rfl⟩
    ·
      refine own_ifne_t H (pc' := 13) d6_5 (by decide) (by decide) c17 ?_
      refine own_iconst H (0 : Int32) (by decide) d6_13 ?_
      exact own_ireturn H (by simp) rfl d6_14 (Nat.le_refl _) (Nat.le_refl _) ⟨by show some _ = some _; rw [FNlz, if_neg c1, if_neg c17], rfl⟩
theorem d5_0 : decode jdk_35_method_48_code 0 = .ok (.lload_n 0, 1) := by decide +kernel
theorem d5_1 : decode jdk_35_method_48_code 1 = .ok (.bipush 32, 2) := by decide +kernel
theorem d5_3 : decode jdk_35_method_48_code 3 = .ok (.lushr, 1) := by decide +kernel
theorem d5_4 : decode jdk_35_method_48_code 4 = .ok (.l2i, 1) := by decide +kernel
theorem d5_5 : decode jdk_35_method_48_code 5 = .ok (.istore_n 2, 1) := by decide +kernel
theorem d5_6 : decode jdk_35_method_48_code 6 = .ok (.iload_n 2, 1) := by decide +kernel
theorem d5_7 : decode jdk_35_method_48_code 7 = .ok (.ifCond .ne 14, 3) := by decide +kernel
theorem d5_10 : decode jdk_35_method_48_code 10 = .ok (.bipush 32, 2) := by decide +kernel
theorem d5_12 : decode jdk_35_method_48_code 12 = .ok (.lload_n 0, 1) := by decide +kernel
theorem d5_13 : decode jdk_35_method_48_code 13 = .ok (.l2i, 1) := by decide +kernel
theorem d5_14 : decode jdk_35_method_48_code 14 = .ok (.invokestatic 308, 3) := by decide +kernel
theorem d5_17 : decode jdk_35_method_48_code 17 = .ok (.iadd, 1) := by decide +kernel
theorem d5_18 : decode jdk_35_method_48_code 18 = .ok (.goto 7, 3) := by decide +kernel
theorem d5_21 : decode jdk_35_method_48_code 21 = .ok (.iload_n 2, 1) := by decide +kernel
theorem d5_22 : decode jdk_35_method_48_code 22 = .ok (.invokestatic 308, 3) := by decide +kernel
theorem d5_25 : decode jdk_35_method_48_code 25 = .ok (.ireturn, 1) := by decide +kernel
theorem own_pl5 : plainFor (⟨"java/lang/Long", "numberOfLeadingZeros", "(J)I"⟩ : MethodName) = true := plainFor_of_name (by first | (simp [plainName, overriddenIn]; done) | decide +kernel)
theorem own_pd3 : parseMethodDescriptor "(J)I" = some ⟨[.long], some .int⟩ := by decide +kernel
def FNlzL (p1 : Int64) : Int32 := if ((XT.ushrL p1 (32 : Int32)).toInt32) = 0 then ((32 : Int32) + (FNlz (p1.toInt32))) else (FNlz ((XT.ushrL p1 (32 : Int32)).toInt32))
set_option maxHeartbeats 4000000 in
theorem rmNlzL (l : Launch) (Z : State) (a0 : Array Value) (hw : ∀ (i : Nat) (d : Jvm.Cond), tables_1[i]? = some d → d.before a0 Z = true) (h0 : Heap) (n0 : Nat) (p1 : Int64) :
    own_P l Z (⟨"java/lang/Long", "numberOfLeadingZeros", "(J)I"⟩ : MethodName) jdk_35_method_48_code 3 (some .int) (own_rm 1 14) #[(.long p1)] h0 n0 (.int (FNlzL p1)) := by
  refine own_met (Ls := #[.val (.long p1), .second, .unset]) hw own_pl5 (fun m => by first | (simp [entryFrame, mkF, argsToLocals, Value.category]; done) | rfl) ?_
  intro B H
  refine own_lload_n H rfl d5_0 ?_
  refine own_bipush H (32 : Int32) (by decide) d5_1 ?_
  refine own_lushr H rfl d5_3 ?_
  refine own_l2i H rfl d5_4 ?_
  refine own_istore_n H #[.val (.long p1), .second, .val (.int ((XT.ushrL p1 (32 : Int32)).toInt32))] rfl d5_5 ?_
  refine own_iload_n H rfl d5_6 ?_
  by_cases c1 : ((XT.ushrL p1 (32 : Int32)).toInt32) = 0
  ·
    refine own_ifne_f H d5_7 c1 ?_
    refine own_bipush H (32 : Int32) (by decide) d5_10 ?_
    refine own_lload_n H rfl d5_12 ?_
    refine own_l2i H rfl d5_13 ?_
    refine own_invokestatic H (argsL := [(.int (p1.toInt32))]) (rest := [(.int (32 : Int32))]) (rmNlz l Z a0 (own_hw H) h0 n0 (p1.toInt32)) (w1 := 23) (w2 := 24) (w3 := 25) (w4 := 26) rfl rfl rfl rfl own_pd2 rfl 1 (by decide) rfl (by decide) (Nat.le_of_eq rfl) (by decide) (by decide) (by decide) rfl d5_14 ?_
    rintro _ _ ⟨rfl, rfl⟩
    show own_G _ _ _ _ _ _ _ _ 17 #[.val (.long p1), .second, .val (.int ((XT.ushrL p1 (32 : Int32)).toInt32))] [(.int (FNlz (p1.toInt32))), (.int (32 : Int32))]
    refine own_iadd H rfl d5_17 ?_
    refine own_goto H (pc' := 25) d5_18 (by decide) (by decide) ?_
    exact own_ireturn H (by simp) rfl d5_25 (Nat.le_refl _) (Nat.le_refl _) ⟨by show some _ = some _; rw [FNlzL, if_pos c1], rfl⟩
  ·
    refine own_ifne_t H (pc' := 21) d5_7 (by decide) (by decide) c1 ?_
    refine own_iload_n H rfl d5_21 ?_
    refine own_invokestatic H (argsL := [(.int ((XT.ushrL p1 (32 : Int32)).toInt32))]) (rest := []) (rmNlz l Z a0 (own_hw H) h0 n0 ((XT.ushrL p1 (32 : Int32)).toInt32)) (w1 := 23) (w2 := 24) (w3 := 25) (w4 := 26) rfl rfl rfl rfl own_pd2 rfl 0 (by decide) rfl (by decide) (Nat.le_of_eq rfl) (by decide) (by decide) (by decide) rfl d5_22 ?_
    rintro _ _ ⟨rfl, rfl⟩
    show own_G _ _ _ _ _ _ _ _ 25 #[.val (.long p1), .second, .val (.int ((XT.ushrL p1 (32 : Int32)).toInt32))] [(.int (FNlz ((XT.ushrL p1 (32 : Int32)).toInt32)))]
    exact own_ireturn H (by simp) rfl d5_25 (Nat.le_refl _) (Nat.le_refl _) ⟨by show some _ = some _; rw [FNlzL, if_neg c1], rfl⟩
theorem d20_0 : decode jdk_33_method_48_code 0 = .ok (.iload_n 0, 1) := by decide +kernel
theorem d20_1 : decode jdk_33_method_48_code 1 = .ok (.iconst (-1), 1) := by decide +kernel
theorem d20_2 : decode jdk_33_method_48_code 2 = .ok (.ixor, 1) := by decide +kernel
theorem d20_3 : decode jdk_33_method_48_code 3 = .ok (.iload_n 0, 1) := by decide +kernel
theorem d20_4 : decode jdk_33_method_48_code 4 = .ok (.iconst 1, 1) := by decide +kernel
theorem d20_5 : decode jdk_33_method_48_code 5 = .ok (.isub, 1) := by decide +kernel
theorem d20_6 : decode jdk_33_method_48_code 6 = .ok (.iand, 1) := by decide +kernel
theorem d20_7 : decode jdk_33_method_48_code 7 = .ok (.istore_n 0, 1) := by decide +kernel
theorem d20_8 : decode jdk_33_method_48_code 8 = .ok (.iload_n 0, 1) := by decide +kernel
theorem d20_9 : decode jdk_33_method_48_code 9 = .ok (.ifCond .gt 8, 3) := by decide +kernel
theorem d20_12 : decode jdk_33_method_48_code 12 = .ok (.iload_n 0, 1) := by decide +kernel
theorem d20_13 : decode jdk_33_method_48_code 13 = .ok (.bipush 32, 2) := by decide +kernel
theorem d20_15 : decode jdk_33_method_48_code 15 = .ok (.iand, 1) := by decide +kernel
theorem d20_16 : decode jdk_33_method_48_code 16 = .ok (.ireturn, 1) := by decide +kernel
theorem d20_17 : decode jdk_33_method_48_code 17 = .ok (.iconst 1, 1) := by decide +kernel
theorem d20_18 : decode jdk_33_method_48_code 18 = .ok (.istore_n 1, 1) := by decide +kernel
theorem d20_19 : decode jdk_33_method_48_code 19 = .ok (.iload_n 0, 1) := by decide +kernel
theorem d20_20 : decode jdk_33_method_48_code 20 = .ok (.ldc_w 264, 3) := by decide +kernel
theorem d20_23 : decode jdk_33_method_48_code 23 = .ok (.if_icmp .le 11, 3) := by decide +kernel
theorem d20_26 : decode jdk_33_method_48_code 26 = .ok (.iinc 1 16, 3) := by decide +kernel
theorem d20_29 : decode jdk_33_method_48_code 29 = .ok (.iload_n 0, 1) := by decide +kernel
theorem d20_30 : decode jdk_33_method_48_code 30 = .ok (.bipush 16, 2) := by decide +kernel
theorem d20_32 : decode jdk_33_method_48_code 32 = .ok (.iushr, 1) := by decide +kernel
theorem d20_33 : decode jdk_33_method_48_code 33 = .ok (.istore_n 0, 1) := by decide +kernel
theorem d20_34 : decode jdk_33_method_48_code 34 = .ok (.iload_n 0, 1) := by decide +kernel
theorem d20_35 : decode jdk_33_method_48_code 35 = .ok (.sipush 256, 3) := by decide +kernel
theorem d20_38 : decode jdk_33_method_48_code 38 = .ok (.if_icmp .le 11, 3) := by decide +kernel
theorem d20_41 : decode jdk_33_method_48_code 41 = .ok (.iinc 1 8, 3) := by decide +kernel
theorem d20_44 : decode jdk_33_method_48_code 44 = .ok (.iload_n 0, 1) := by decide +kernel
theorem d20_45 : decode jdk_33_method_48_code 45 = .ok (.bipush 8, 2) := by decide +kernel
theorem d20_47 : decode jdk_33_method_48_code 47 = .ok (.iushr, 1) := by decide +kernel
theorem d20_48 : decode jdk_33_method_48_code 48 = .ok (.istore_n 0, 1) := by decide +kernel
theorem d20_49 : decode jdk_33_method_48_code 49 = .ok (.iload_n 0, 1) := by decide +kernel
theorem d20_50 : decode jdk_33_method_48_code 50 = .ok (.bipush 16, 2) := by decide +kernel
theorem d20_52 : decode jdk_33_method_48_code 52 = .ok (.if_icmp .le 10, 3) := by decide +kernel
theorem d20_55 : decode jdk_33_method_48_code 55 = .ok (.iinc 1 4, 3) := by decide +kernel
theorem d20_58 : decode jdk_33_method_48_code 58 = .ok (.iload_n 0, 1) := by decide +kernel
theorem d20_59 : decode jdk_33_method_48_code 59 = .ok (.iconst 4, 1) := by decide +kernel
theorem d20_60 : decode jdk_33_method_48_code 60 = .ok (.iushr, 1) := by decide +kernel
theorem d20_61 : decode jdk_33_method_48_code 61 = .ok (.istore_n 0, 1) := by decide +kernel
theorem d20_62 : decode jdk_33_method_48_code 62 = .ok (.iload_n 0, 1) := by decide +kernel
theorem d20_63 : decode jdk_33_method_48_code 63 = .ok (.iconst 4, 1) := by decide +kernel
theorem d20_64 : decode jdk_33_method_48_code 64 = .ok (.if_icmp .le 10, 3) := by decide +kernel
theorem d20_67 : decode jdk_33_method_48_code 67 = .ok (.iinc 1 2, 3) := by decide +kernel
theorem d20_70 : decode jdk_33_method_48_code 70 = .ok (.iload_n 0, 1) := by decide +kernel
theorem d20_71 : decode jdk_33_method_48_code 71 = .ok (.iconst 2, 1) := by decide +kernel
theorem d20_72 : decode jdk_33_method_48_code 72 = .ok (.iushr, 1) := by decide +kernel
theorem d20_73 : decode jdk_33_method_48_code 73 = .ok (.istore_n 0, 1) := by decide +kernel
theorem d20_74 : decode jdk_33_method_48_code 74 = .ok (.iload_n 1, 1) := by decide +kernel
theorem d20_75 : decode jdk_33_method_48_code 75 = .ok (.iload_n 0, 1) := by decide +kernel
theorem d20_76 : decode jdk_33_method_48_code 76 = .ok (.iconst 1, 1) := by decide +kernel
theorem d20_77 : decode jdk_33_method_48_code 77 = .ok (.iushr, 1) := by decide +kernel
theorem d20_78 : decode jdk_33_method_48_code 78 = .ok (.iadd, 1) := by decide +kernel
theorem d20_79 : decode jdk_33_method_48_code 79 = .ok (.ireturn, 1) := by decide +kernel
theorem own_pl20 : plainFor (⟨"java/lang/Integer", "numberOfTrailingZeros", "(I)I"⟩ : MethodName) = true := plainFor_of_name (by first | (simp [plainName, overriddenIn]; done) | decide +kernel)
def FNtz (p1 : Int32) : Int32 := if 0 < ((p1 ^^^ (-1 : Int32)) &&& (p1 - (1 : Int32))) then if (65536 : Int32) < ((p1 ^^^ (-1 : Int32)) &&& (p1 - (1 : Int32))) then if (256 : Int32) < (XT.ushr ((p1 ^^^ (-1 : Int32)) &&& (p1 - (1 : Int32))) (16 : Int32)) then if (16 : Int32) < (XT.ushr (XT.ushr ((p1 ^^^ (-1 : Int32)) &&& (p1 - (1 : Int32))) (16 : Int32)) (8 : Int32)) then if (4 : Int32) < (XT.ushr (XT.ushr (XT.ushr ((p1 ^^^ (-1 : Int32)) &&& (p1 - (1 : Int32))) (16 : Int32)) (8 : Int32)) (4 : Int32)) then ((31 : Int32) + (XT.ushr (XT.ushr (XT.ushr (XT.ushr (XT.ushr ((p1 ^^^ (-1 : Int32)) &&& (p1 - (1 : Int32))) (16 : Int32)) (8 : Int32)) (4 : Int32)) (2 : Int32)) (1 : Int32))) else ((29 : Int32) + (XT.ushr (XT.ushr (XT.ushr (XT.ushr ((p1 ^^^ (-1 : Int32)) &&& (p1 - (1 : Int32))) (16 : Int32)) (8 : Int32)) (4 : Int32)) (1 : Int32))) else if (4 : Int32) < (XT.ushr (XT.ushr ((p1 ^^^ (-1 : Int32)) &&& (p1 - (1 : Int32))) (16 : Int32)) (8 : Int32)) then ((27 : Int32) + (XT.ushr (XT.ushr (XT.ushr (XT.ushr ((p1 ^^^ (-1 : Int32)) &&& (p1 - (1 : Int32))) (16 : Int32)) (8 : Int32)) (2 : Int32)) (1 : Int32))) else ((25 : Int32) + (XT.ushr (XT.ushr (XT.ushr ((p1 ^^^ (-1 : Int32)) &&& (p1 - (1 : Int32))) (16 : Int32)) (8 : Int32)) (1 : Int32))) else if (16 : Int32) < (XT.ushr ((p1 ^^^ (-1 : Int32)) &&& (p1 - (1 : Int32))) (16 : Int32)) then if (4 : Int32) < (XT.ushr (XT.ushr ((p1 ^^^ (-1 : Int32)) &&& (p1 - (1 : Int32))) (16 : Int32)) (4 : Int32)) then ((23 : Int32) + (XT.ushr (XT.ushr (XT.ushr (XT.ushr ((p1 ^^^ (-1 : Int32)) &&& (p1 - (1 : Int32))) (16 : Int32)) (4 : Int32)) (2 : Int32)) (1 : Int32))) else ((21 : Int32) + (XT.ushr (XT.ushr (XT.ushr ((p1 ^^^ (-1 : Int32)) &&& (p1 - (1 : Int32))) (16 : Int32)) (4 : Int32)) (1 : Int32))) else if (4 : Int32) < (XT.ushr ((p1 ^^^ (-1 : Int32)) &&& (p1 - (1 : Int32))) (16 : Int32)) then ((19 : Int32) + (XT.ushr (XT.ushr (XT.ushr ((p1 ^^^ (-1 : Int32)) &&& (p1 - (1 : Int32))) (16 : Int32)) (2 : Int32)) (1 : Int32))) else ((17 : Int32) + (XT.ushr (XT.ushr ((p1 ^^^ (-1 : Int32)) &&& (p1 - (1 : Int32))) (16 : Int32)) (1 : Int32))) else if (256 : Int32) < ((p1 ^^^ (-1 : Int32)) &&& (p1 - (1 : Int32))) then if (16 : Int32) < (XT.ushr ((p1 ^^^ (-1 : Int32)) &&& (p1 - (1 : Int32))) (8 : Int32)) then if (4 : Int32) < (XT.ushr (XT.ushr ((p1 ^^^ (-1 : Int32)) &&& (p1 - (1 : Int32))) (8 : Int32)) (4 : Int32)) then ((15 : Int32) + (XT.ushr (XT.ushr (XT.ushr (XT.ushr ((p1 ^^^ (-1 : Int32)) &&& (p1 - (1 : Int32))) (8 : Int32)) (4 : Int32)) (2 : Int32)) (1 : Int32))) else ((13 : Int32) + (XT.ushr (XT.ushr (XT.ushr ((p1 ^^^ (-1 : Int32)) &&& (p1 - (1 : Int32))) (8 : Int32)) (4 : Int32)) (1 : Int32))) else if (4 : Int32) < (XT.ushr ((p1 ^^^ (-1 : Int32)) &&& (p1 - (1 : Int32))) (8 : Int32)) then ((11 : Int32) + (XT.ushr (XT.ushr (XT.ushr ((p1 ^^^ (-1 : Int32)) &&& (p1 - (1 : Int32))) (8 : Int32)) (2 : Int32)) (1 : Int32))) else ((9 : Int32) + (XT.ushr (XT.ushr ((p1 ^^^ (-1 : Int32)) &&& (p1 - (1 : Int32))) (8 : Int32)) (1 : Int32))) else if (16 : Int32) < ((p1 ^^^ (-1 : Int32)) &&& (p1 - (1 : Int32))) then if (4 : Int32) < (XT.ushr ((p1 ^^^ (-1 : Int32)) &&& (p1 - (1 : Int32))) (4 : Int32)) then ((7 : Int32) + (XT.ushr (XT.ushr (XT.ushr ((p1 ^^^ (-1 : Int32)) &&& (p1 - (1 : Int32))) (4 : Int32)) (2 : Int32)) (1 : Int32))) else ((5 : Int32) + (XT.ushr (XT.ushr ((p1 ^^^ (-1 : Int32)) &&& (p1 - (1 : Int32))) (4 : Int32)) (1 : Int32))) else if (4 : Int32) < ((p1 ^^^ (-1 : Int32)) &&& (p1 - (1 : Int32))) then ((3 : Int32) + (XT.ushr (XT.ushr ((p1 ^^^ (-1 : Int32)) &&& (p1 - (1 : Int32))) (2 : Int32)) (1 : Int32))) else ((1 : Int32) + (XT.ushr ((p1 ^^^ (-1 : Int32)) &&& (p1 - (1 : Int32))) (1 : Int32))) else (((p1 ^^^ (-1 : Int32)) &&& (p1 - (1 : Int32))) &&& (32 : Int32))
set_option maxHeartbeats 4000000 in
theorem rmNtz (l : Launch) (Z : State) (a0 : Array Value) (hw : ∀ (i : Nat) (d : Jvm.Cond), tables_1[i]? = some d → d.before a0 Z = true) (h0 : Heap) (n0 : Nat) (p1 : Int32) :
    own_P l Z (⟨"java/lang/Integer", "numberOfTrailingZeros", "(I)I"⟩ : MethodName) jdk_33_method_48_code 2 (some .int) (own_rm 0 0) #[(.int p1)] h0 n0 (.int (FNtz p1)) := by
  refine own_met (Ls := #[.val (.int p1), .unset]) hw own_pl20 (fun m => by first | (simp [entryFrame, mkF, argsToLocals, Value.category]; done) | rfl) ?_
  intro B H
  refine own_iload_n H rfl d20_0 ?_
  refine own_iconst H (-1 : Int32) (by decide) d20_1 ?_
  refine own_ixor H rfl d20_2 ?_
  refine own_iload_n H rfl d20_3 ?_
  refine own_iconst H (1 : Int32) (by decide) d20_4 ?_
  refine own_isub H rfl d20_5 ?_
  refine own_iand H rfl d20_6 ?_
  refine own_istore_n H #[.val (.int ((p1 ^^^ (-1 : Int32)) &&& (p1 - (1 : Int32)))), .unset] rfl d20_7 ?_
  refine own_iload_n H rfl d20_8 ?_
  by_cases c1 : 0 < ((p1 ^^^ (-1 : Int32)) &&& (p1 - (1 : Int32)))
  ·
    refine own_ifgt_t H (pc' := 17) d20_9 (by decide) (by decide) c1 ?_
    refine own_iconst H (1 : Int32) (by decide) d20_17 ?_
    refine own_istore_n H #[.val (.int ((p1 ^^^ (-1 : Int32)) &&& (p1 - (1 : Int32)))), .val (.int (1 : Int32))] rfl d20_18 ?_
    refine own_iload_n H rfl d20_19 ?_
    refine own_ldcwI H (w := 80) rfl d20_20 ?_
    by_cases c2 : (65536 : Int32) < ((p1 ^^^ (-1 : Int32)) &&& (p1 - (1 : Int32)))
    ·
      refine own_icmple_f H d20_23 c2 ?_
      refine own_iinc H (16 : Int32) (by decide) rfl (by decide) #[.val (.int ((p1 ^^^ (-1 : Int32)) &&& (p1 - (1 : Int32)))), .val (.int (17 : Int32))] rfl d20_26 ?_
      refine own_iload_n H rfl d20_29 ?_
      refine own_bipush H (16 : Int32) (by decide) d20_30 ?_
      refine own_iushr H rfl d20_32 ?_
      refine own_istore_n H #[.val (.int (XT.ushr ((p1 ^^^ (-1 : Int32)) &&& (p1 - (1 : Int32))) (16 : Int32))), .val (.int (17 : Int32))] rfl d20_33 ?_
      refine own_iload_n H rfl d20_34 ?_
      refine own_sipush H (256 : Int32) (by decide) d20_35 ?_
      by_cases c3 : (256 : Int32) < (XT.ushr ((p1 ^^^ (-1 : Int32)) &&& (p1 - (1 : Int32))) (16 : Int32))
      ·
        refine own_icmple_f H d20_38 c3 ?_
        refine own_iinc H (8 : Int32) (by decide) rfl (by decide) #[.val (.int (XT.ushr ((p1 ^^^ (-1 : Int32)) &&& (p1 - (1 : Int32))) (16 : Int32))), .val (.int (25 : Int32))] rfl d20_41 ?_
        refine own_iload_n H rfl d20_44 ?_
        refine own_bipush H (8 : Int32) (by decide) d20_45 ?_
        refine own_iushr H rfl d20_47 ?_
        refine own_istore_n H #[.val (.int (XT.ushr (XT.ushr ((p1 ^^^ (-1 : Int32)) &&& (p1 - (1 : Int32))) (16 : Int32)) (8 : Int32))), .val (.int (25 : Int32))] rfl d20_48 ?_
        refine own_iload_n H rfl d20_49 ?_
        refine own_bipush H (16 : Int32) (by decide) d20_50 ?_
        by_cases c4 : (16 : Int32) < (XT.ushr (XT.ushr ((p1 ^^^ (-1 : Int32)) &&& (p1 - (1 : Int32))) (16 : Int32)) (8 : Int32))
        ·
          refine own_icmple_f H d20_52 c4 ?_
          refine own_iinc H (4 : Int32) (by decide) rfl (by decide) #[.val (.int (XT.ushr (XT.ushr ((p1 ^^^ (-1 : Int32)) &&& (p1 - (1 : Int32))) (16 : Int32)) (8 : Int32))), .val (.int (29 : Int32))] rfl d20_55 ?_
          refine own_iload_n H rfl d20_58 ?_
          refine own_iconst H (4 : Int32) (by decide) d20_59 ?_
          refine own_iushr H rfl d20_60 ?_
          refine own_istore_n H #[.val (.int (XT.ushr (XT.ushr (XT.ushr ((p1 ^^^ (-1 : Int32)) &&& (p1 - (1 : Int32))) (16 : Int32)) (8 : Int32)) (4 : Int32))), .val (.int (29 : Int32))] rfl d20_61 ?_
          refine own_iload_n H rfl d20_62 ?_
          refine own_iconst H (4 : Int32) (by decide) d20_63 ?_
          by_cases c5 : (4 : Int32) < (XT.ushr (XT.ushr (XT.ushr ((p1 ^^^ (-1 : Int32)) &&& (p1 - (1 : Int32))) (16 : Int32)) (8 : Int32)) (4 : Int32))
          ·
            refine own_icmple_f H d20_64 c5 ?_
            refine own_iinc H (2 : Int32) (by decide) rfl (by decide) #[.val (.int (XT.ushr (XT.ushr (XT.ushr ((p1 ^^^ (-1 : Int32)) &&& (p1 - (1 : Int32))) (16 : Int32)) (8 : Int32)) (4 : Int32))), .val (.int (31 : Int32))] rfl d20_67 ?_
            refine own_iload_n H rfl d20_70 ?_
            refine own_iconst H (2 : Int32) (by decide) d20_71 ?_
            refine own_iushr H rfl d20_72 ?_
            refine own_istore_n H #[.val (.int (XT.ushr (XT.ushr (XT.ushr (XT.ushr ((p1 ^^^ (-1 : Int32)) &&& (p1 - (1 : Int32))) (16 : Int32)) (8 : Int32)) (4 : Int32)) (2 : Int32))), .val (.int (31 : Int32))] rfl d20_73 ?_
            refine own_iload_n H rfl d20_74 ?_
            refine own_iload_n H rfl d20_75 ?_
            refine own_iconst H (1 : Int32) (by decide) d20_76 ?_
            refine own_iushr H rfl d20_77 ?_
            refine own_iadd H rfl d20_78 ?_
            exact own_ireturn H (by simp) rfl d20_79 (Nat.le_refl _) (Nat.le_refl _) ⟨by show some _ = some _; rw [FNtz, if_pos c1, if_pos c2, if_pos c3, if_pos c4, if_pos c5], rfl⟩
          ·
            refine own_icmple_t H (pc' := 74) d20_64 (by decide) (by decide) c5 ?_
            refine own_iload_n H rfl d20_74 ?_
            refine own_iload_n H rfl d20_75 ?_
            refine own_iconst H (1 : Int32) (by decide) d20_76 ?_
            refine own_iushr H rfl d20_77 ?_
            refine own_iadd H rfl d20_78 ?_
            exact own_ireturn H (by simp) rfl d20_79 (Nat.le_refl _) (Nat.le_refl _) ⟨by show some _ = some _; rw [FNtz, if_pos c1, if_pos c2, if_pos c3, if_pos c4, if_neg c5], rfl⟩
        ·
          refine own_icmple_t H (pc' := 62) d20_52 (by decide) (by decide) c4 ?_
          refine own_iload_n H rfl d20_62 ?_
          refine own_iconst H (4 : Int32) (by decide) d20_63 ?_
          by_cases c6 : (4 : Int32) < (XT.ushr (XT.ushr ((p1 ^^^ (-1 : Int32)) &&& (p1 - (1 : Int32))) (16 : Int32)) (8 : Int32))
          ·
            refine own_icmple_f H d20_64 c6 ?_
            refine own_iinc H (2 : Int32) (by decide) rfl (by decide) #[.val (.int (XT.ushr (XT.ushr ((p1 ^^^ (-1 : Int32)) &&& (p1 - (1 : Int32))) (16 : Int32)) (8 : Int32))), .val (.int (27 : Int32))] rfl d20_67 ?_
            refine own_iload_n H rfl d20_70 ?_
            refine own_iconst H (2 : Int32) (by decide) d20_71 ?_
            refine own_iushr H rfl d20_72 ?_
            refine own_istore_n H #[.val (.int (XT.ushr (XT.ushr (XT.ushr ((p1 ^^^ (-1 : Int32)) &&& (p1 - (1 : Int32))) (16 : Int32)) (8 : Int32)) (2 : Int32))), .val (.int (27 : Int32))] rfl d20_73 ?_
            refine own_iload_n H rfl d20_74 ?_
            refine own_iload_n H rfl d20_75 ?_
            refine own_iconst H (1 : Int32) (by decide) d20_76 ?_
            refine own_iushr H rfl d20_77 ?_
            refine own_iadd H rfl d20_78 ?_
            exact own_ireturn H (by simp) rfl d20_79 (Nat.le_refl _) (Nat.le_refl _) ⟨by show some _ = some _; rw [FNtz, if_pos c1, if_pos c2, if_pos c3, if_neg c4, if_pos c6], rfl⟩
          ·
            refine own_icmple_t H (pc' := 74) d20_64 (by decide) (by decide) c6 ?_
            refine own_iload_n H rfl d20_74 ?_
            refine own_iload_n H rfl d20_75 ?_
            refine own_iconst H (1 : Int32) (by decide) d20_76 ?_
            refine own_iushr H rfl d20_77 ?_
            refine own_iadd H rfl d20_78 ?_
            exact own_ireturn H (by simp) rfl d20_79 (Nat.le_refl _) (Nat.le_refl _) ⟨by show some _ = some _; rw [FNtz, if_pos c1, if_pos c2, if_pos c3, if_neg c4, if_neg c6], rfl⟩
      ·
        refine own_icmple_t H (pc' := 49) d20_38 (by decide) (by decide) c3 ?_
        refine own_iload_n H rfl d20_49 ?_
        refine own_bipush H (16 : Int32) (by decide) d20_50 ?_
        by_cases c7 : (16 : Int32) < (XT.ushr ((p1 ^^^ (-1 : Int32)) &&& (p1 - (1 : Int32))) (16 : Int32))
        ·
          refine own_icmple_f H d20_52 c7 ?_
          refine own_iinc H (4 : Int32) (by decide) rfl (by decide) #[.val (.int (XT.ushr ((p1 ^^^ (-1 : Int32)) &&& (p1 - (1 : Int32))) (16 : Int32))), .val (.int (21 : Int32))] rfl d20_55 ?_
          refine own_iload_n H rfl d20_58 ?_
          refine own_iconst H (4 : Int32) (by decide) d20_59 ?_
          refine own_iushr H rfl d20_60 ?_
          refine own_istore_n H #[.val (.int (XT.ushr (XT.ushr ((p1 ^^^ (-1 : Int32)) &&& (p1 - (1 : Int32))) (16 : Int32)) (4 : Int32))), .val (.int (21 : Int32))] rfl d20_61 ?_
          refine own_iload_n H rfl d20_62 ?_
          refine own_iconst H (4 : Int32) (by decide) d20_63 ?_
          by_cases c8 : (4 : Int32) < (XT.ushr (XT.ushr ((p1 ^^^ (-1 : Int32)) &&& (p1 - (1 : Int32))) (16 : Int32)) (4 : Int32))
          ·
            refine own_icmple_f H d20_64 c8 ?_
            refine own_iinc H (2 : Int32) (by decide) rfl (by decide) #[.val (.int (XT.ushr (XT.ushr ((p1 ^^^ (-1 : Int32)) &&& (p1 - (1 : Int32))) (16 : Int32)) (4 : Int32))), .val (.int (23 : Int32))] rfl d20_67 ?_
            refine own_iload_n H rfl d20_70 ?_
            refine own_iconst H (2 : Int32) (by decide) d20_71 ?_
            refine own_iushr H rfl d20_72 ?_
            refine own_istore_n H #[.val (.int (XT.ushr (XT.ushr (XT.ushr ((p1 ^^^ (-1 : Int32)) &&& (p1 - (1 : Int32))) (16 : Int32)) (4 : Int32)) (2 : Int32))), .val (.int (23 : Int32))] rfl d20_73 ?_
            refine own_iload_n H rfl d20_74 ?_
            refine own_iload_n H rfl d20_75 ?_
            refine own_iconst H (1 : Int32) (by decide) d20_76 ?_
            refine own_iushr H rfl d20_77 ?_
            refine own_iadd H rfl d20_78 ?_
            exact own_ireturn H (by simp) rfl d20_79 (Nat.le_refl _) (Nat.le_refl _) ⟨by show some _ = some _; rw [FNtz, if_pos c1, if_pos c2, if_neg c3, if_pos c7, if_pos c8], rfl⟩
          ·
            refine own_icmple_t H (pc' := 74) d20_64 (by decide) (by decide) c8 ?_
            refine own_iload_n H rfl d20_74 ?_
            refine own_iload_n H rfl d20_75 ?_
            refine own_iconst H (1 : Int32) (by decide) d20_76 ?_
            refine own_iushr H rfl d20_77 ?_
            refine own_iadd H rfl d20_78 ?_
            exact own_ireturn H (by simp) rfl d20_79 (Nat.le_refl _) (Nat.le_refl _) ⟨by show some _ = some _; rw [FNtz, if_pos c1, if_pos c2, if_neg c3, if_pos c7, if_neg c8], rfl⟩
        ·
          refine own_icmple_t H (pc' := 62) d20_52 (by decide) (by decide) c7 ?_
          refine own_iload_n H rfl d20_62 ?_
          refine own_iconst H (4 : Int32) (by decide) d20_63 ?_
          by_cases c9 : (4 : Int32) < (XT.ushr ((p1 ^^^ (-1 : Int32)) &&& (p1 - (1 : Int32))) (16 : Int32))
          ·
            refine own_icmple_f H d20_64 c9 ?_
            refine own_iinc H (2 : Int32) (by decide) rfl (by decide) #[.val (.int (XT.ushr ((p1 ^^^ (-1 : Int32)) &&& (p1 - (1 : Int32))) (16 : Int32))), .val (.int (19 : Int32))] rfl d20_67 ?_
            refine own_iload_n H rfl d20_70 ?_
            refine own_iconst H (2 : Int32) (by decide) d20_71 ?_
            refine own_iushr H rfl d20_72 ?_
            refine own_istore_n H #[.val (.int (XT.ushr (XT.ushr ((p1 ^^^ (-1 : Int32)) &&& (p1 - (1 : Int32))) (16 : Int32)) (2 : Int32))), .val (.int (19 : Int32))] rfl d20_73 ?_
            refine own_iload_n H rfl d20_74 ?_
            refine own_iload_n H rfl d20_75 ?_
            refine own_iconst H (1 : Int32) (by decide) d20_76 ?_
            refine own_iushr H rfl d20_77 ?_
            refine own_iadd H rfl d20_78 ?_
            exact own_ireturn H (by simp) rfl d20_79 (Nat.le_refl _) (Nat.le_refl _) ⟨by show some _ = some _; rw [FNtz, if_pos c1, if_pos c2, if_neg c3, if_neg c7, if_pos c9], rfl⟩
          ·
            refine own_icmple_t H (pc' := 74) d20_64 (by decide) (by decide) c9 ?_
            refine own_iload_n H rfl d20_74 ?_
            refine own_iload_n H rfl d20_75 ?_
            refine own_iconst H (1 : Int32) (by decide) d20_76 ?_
            refine own_iushr H rfl d20_77 ?_
            refine own_iadd H rfl d20_78 ?_
            exact own_ireturn H (by simp) rfl d20_79 (Nat.le_refl _) (Nat.le_refl _) ⟨by show some _ = some _; rw [FNtz, if_pos c1, if_pos c2, if_neg c3, if_neg c7, if_neg c9], rfl⟩
    ·
      refine own_icmple_t H (pc' := 34) d20_23 (by decide) (by decide) c2 ?_
      refine own_iload_n H rfl d20_34 ?_
      refine own_sipush H (256 : Int32) (by decide) d20_35 ?_
      by_cases c10 : (256 : Int32) < ((p1 ^^^ (-1 : Int32)) &&& (p1 - (1 : Int32)))
      ·
        refine own_icmple_f H d20_38 c10 ?_
        refine own_iinc H (8 : Int32) (by decide) rfl (by decide) #[.val (.int ((p1 ^^^ (-1 : Int32)) &&& (p1 - (1 : Int32)))), .val (.int (9 : Int32))] rfl d20_41 ?_
        refine own_iload_n H rfl d20_44 ?_
        refine own_bipush H (8 : Int32) (by decide) d20_45 ?_
        refine own_iushr H rfl d20_47 ?_
        refine own_istore_n H #[.val (.int (XT.ushr ((p1 ^^^ (-1 : Int32)) &&& (p1 - (1 : Int32))) (8 : Int32))), .val (.int (9 : Int32))] rfl d20_48 ?_
        refine own_iload_n H rfl d20_49 ?_
        refine own_bipush H (16 : Int32) (by decide) d20_50 ?_
        by_cases c11 : (16 : Int32) < (XT.ushr ((p1 ^^^ (-1 : Int32)) &&& (p1 - (1 : Int32))) (8 : Int32))
        ·
          refine own_icmple_f H d20_52 c11 ?_
          refine own_iinc H (4 : Int32) (by decide) rfl (by decide) #[.val (.int (XT.ushr ((p1 ^^^ (-1 : Int32)) &&& (p1 - (1 : Int32))) (8 : Int32))), .val (.int (13 : Int32))] rfl d20_55 ?_
          refine own_iload_n H rfl d20_58 ?_
          refine own_iconst H (4 : Int32) (by decide) d20_59 ?_
          refine own_iushr H rfl d20_60 ?_
          refine own_istore_n H #[.val (.int (XT.ushr (XT.ushr ((p1 ^^^ (-1 : Int32)) &&& (p1 - (1 : Int32))) (8 : Int32)) (4 : Int32))), .val (.int (13 : Int32))] rfl d20_61 ?_
          refine own_iload_n H rfl d20_62 ?_
          refine own_iconst H (4 : Int32) (by decide) d20_63 ?_
          by_cases c12 : (4 : Int32) < (XT.ushr (XT.ushr ((p1 ^^^ (-1 : Int32)) &&& (p1 - (1 : Int32))) (8 : Int32)) (4 : Int32))
          ·
            refine own_icmple_f H d20_64 c12 ?_
            refine own_iinc H (2 : Int32) (by decide) rfl (by decide) #[.val (.int (XT.ushr (XT.ushr ((p1 ^^^ (-1 : Int32)) &&& (p1 - (1 : Int32))) (8 : Int32)) (4 : Int32))), .val (.int (15 : Int32))] rfl d20_67 ?_
            refine own_iload_n H rfl d20_70 ?_
            refine own_iconst H (2 : Int32) (by decide) d20_71 ?_
            refine own_iushr H rfl d20_72 ?_
            refine own_istore_n H #[.val (.int (XT.ushr (XT.ushr (XT.ushr ((p1 ^^^ (-1 : Int32)) &&& (p1 - (1 : Int32))) (8 : Int32)) (4 : Int32)) (2 : Int32))), .val (.int (15 : Int32))] rfl d20_73 ?_
            refine own_iload_n H rfl d20_74 ?_
            refine own_iload_n H rfl d20_75 ?_
            refine own_iconst H (1 : Int32) (by decide) d20_76 ?_
            refine own_iushr H rfl d20_77 ?_
            refine own_iadd H rfl d20_78 ?_
            exact own_ireturn H (by simp) rfl d20_79 (Nat.le_refl _) (Nat.le_refl _) ⟨by show some _ = some _; rw [FNtz, if_pos c1, if_neg c2, if_pos c10, if_pos c11, if_pos c12], rfl⟩
          ·
            refine own_icmple_t H (pc' := 74) d20_64 (by decide) (by decide) c12 ?_
            refine own_iload_n H rfl d20_74 ?_
            refine own_iload_n H rfl d20_75 ?_
            refine own_iconst H (1 : Int32) (by decide) d20_76 ?_
            refine own_iushr H rfl d20_77 ?_
            refine own_iadd H rfl d20_78 ?_
            exact own_ireturn H (by simp) rfl d20_79 (Nat.le_refl _) (Nat.le_refl _) ⟨by show some _ = some _; rw [FNtz, if_pos c1, if_neg c2, if_pos c10, if_pos c11, if_neg c12], rfl⟩
        ·
          refine own_icmple_t H (pc' := 62) d20_52 (by decide) (by decide) c11 ?_
          refine own_iload_n H rfl d20_62 ?_
          refine own_iconst H (4 : Int32) (by decide) d20_63 ?_
          by_cases c13 : (4 : Int32) < (XT.ushr ((p1 ^^^ (-1 : Int32)) &&& (p1 - (1 : Int32))) (8 : Int32))
          ·
            refine own_icmple_f H d20_64 c13 ?_
            refine own_iinc H (2 : Int32) (by decide) rfl (by decide) #[.val (.int (XT.ushr ((p1 ^^^ (-1 : Int32)) &&& (p1 - (1 : Int32))) (8 : Int32))), .val (.int (11 : Int32))] rfl d20_67 ?_
            refine own_iload_n H rfl d20_70 ?_
            refine own_iconst H (2 : Int32) (by decide) d20_71 ?_
            refine own_iushr H rfl d20_72 ?_
            refine own_istore_n H #[.val (.int (XT.ushr (XT.ushr ((p1 ^^^ (-1 : Int32)) &&& (p1 - (1 : Int32))) (8 : Int32)) (2 : Int32))), .val (.int (11 : Int32))] rfl d20_73 ?_
            refine own_iload_n H rfl d20_74 ?_
            refine own_iload_n H rfl d20_75 ?_
            refine own_iconst H (1 : Int32) (by decide) d20_76 ?_
            refine own_iushr H rfl d20_77 ?_
            refine own_iadd H rfl d20_78 ?_
            exact own_ireturn H (by simp) rfl d20_79 (Nat.le_refl _) (Nat.le_refl _) ⟨by show some _ = some _; rw [FNtz, if_pos c1, if_neg c2, if_pos c10, if_neg c11, if_pos c13], rfl⟩
          ·
            refine own_icmple_t H (pc' := 74) d20_64 (by decide) (by decide) c13 ?_
            refine own_iload_n H rfl d20_74 ?_
            refine own_iload_n H rfl d20_75 ?_
            refine own_iconst H (1 : Int32) (by decide) d20_76 ?_
            refine own_iushr H rfl d20_77 ?_
            refine own_iadd H rfl d20_78 ?_
            exact own_ireturn H (by simp) rfl d20_79 (Nat.le_refl _) (Nat.le_refl _) ⟨by show some _ = some _; rw [FNtz, if_pos c1, if_neg c2, if_pos c10, if_neg c11, if_neg c13], rfl⟩
      ·
        refine own_icmple_t H (pc' := 49) d20_38 (by decide) (by decide) c10 ?_
        refine own_iload_n H rfl d20_49 ?_
        refine own_bipush H (16 : Int32) (by decide) d20_50 ?_
        by_cases c14 : (16 : Int32) < ((p1 ^^^ (-1 : Int32)) &&& (p1 - (1 : Int32)))
        ·
          refine own_icmple_f H d20_52 c14 ?_
          refine own_iinc H (4 : Int32) (by decide) rfl (by decide) #[.val (.int ((p1 ^^^ (-1 : Int32)) &&& (p1 - (1 : Int32)))), .val (.int (5 : Int32))] rfl d20_55 ?_
          refine own_iload_n H rfl d20_58 ?_
          refine own_iconst H (4 : Int32) (by decide) d20_59 ?_
          refine own_iushr H rfl d20_60 ?_
          refine own_istore_n H #[.val (.int (XT.ushr ((p1 ^^^ (-1 : Int32)) &&& (p1 - (1 : Int32))) (4 : Int32))), .val (.int (5 : Int32))] rfl d20_61 ?_
          refine own_iload_n H rfl d20_62 ?_
          refine own_iconst H (4 : Int32) (by decide) d20_63 ?_
          by_cases c15 : (4 : Int32) < (XT.ushr ((p1 ^^^ (-1 : Int32)) &&& (p1 - (1 : Int32))) (4 : Int32))
          ·
            refine own_icmple_f H d20_64 c15 ?_
            refine own_iinc H (2 : Int32) (by decide) rfl (by decide) #[.val (.int (XT.ushr ((p1 ^^^ (-1 : Int32)) &&& (p1 - (1 : Int32))) (4 : Int32))), .val (.int (7 : Int32))] rfl d20_67 ?_
            refine own_iload_n H rfl d20_70 ?_
            refine own_iconst H (2 : Int32) (by decide) d20_71 ?_
            refine own_iushr H rfl d20_72 ?_
            refine own_istore_n H #[.val (.int (XT.ushr (XT.ushr ((p1 ^^^ (-1 : Int32)) &&& (p1 - (1 : Int32))) (4 : Int32)) (2 : Int32))), .val (.int (7 : Int32))] rfl d20_73 ?_
            refine own_iload_n H rfl d20_74 ?_
            refine own_iload_n H rfl d20_75 ?_
            refine own_iconst H (1 : Int32) (by decide) d20_76 ?_
            refine own_iushr H rfl d20_77 ?_
            refine own_iadd H rfl d20_78 ?_
            exact own_ireturn H (by simp) rfl d20_79 (Nat.le_refl _) (Nat.le_refl _) ⟨by show some _ = some _; rw [FNtz, if_pos c1, if_neg c2, if_neg c10, if_pos c14, if_pos c15], rfl⟩
          ·
            refine own_icmple_t H (pc' := 74) d20_64 (by decide) (by decide) c15 ?_
            refine own_iload_n H rfl d20_74 ?_
            refine own_iload_n H rfl d20_75 ?_
            refine own_iconst H (1 : Int32) (by decide) d20_76 ?_
            refine own_iushr H rfl d20_77 ?_
            refine own_iadd H rfl d20_78 ?_
            exact own_ireturn H (by simp) rfl d20_79 (Nat.le_refl _) (Nat.le_refl _) ⟨by show some _ = some _; rw [FNtz, if_pos c1, if_neg c2, if_neg c10, if_pos c14, if_neg c15], rfl⟩
        ·
          refine own_icmple_t H (pc' := 62) d20_52 (by decide) (by decide) c14 ?_
          refine own_iload_n H rfl d20_62 ?_
          refine own_iconst H (4 : Int32) (by decide) d20_63 ?_
          by_cases c16 : (4 : Int32) < ((p1 ^^^ (-1 : Int32)) &&& (p1 - (1 : Int32)))
          ·
            refine own_icmple_f H d20_64 c16 ?_
            refine own_iinc H (2 : Int32) (by decide) rfl (by decide) #[.val (.int ((p1 ^^^ (-1 : Int32)) &&& (p1 - (1 : Int32)))), .val (.int (3 : Int32))] rfl d20_67 ?_
            refine own_iload_n H rfl d20_70 ?_
            refine own_iconst H (2 : Int32) (by decide) d20_71 ?_
            refine own_iushr H rfl d20_72 ?_
            refine own_istore_n H #[.val (.int (XT.ushr ((p1 ^^^ (-1 : Int32)) &&& (p1 - (1 : Int32))) (2 : Int32))), .val (.int (3 : Int32))] rfl d20_73 ?_
            refine own_iload_n H rfl d20_74 ?_
            refine own_iload_n H rfl d20_75 ?_
            refine own_iconst H (1 : Int32) (by decide) d20_76 ?_
            refine own_iushr H rfl d20_77 ?_
            refine own_iadd H rfl d20_78 ?_
            exact own_ireturn H (by simp) rfl d20_79 (Nat.le_refl _) (Nat.le_refl _) ⟨by show some _ = some _; rw [FNtz, if_pos c1, if_neg c2, if_neg c10, if_neg c14, if_pos c16], rfl⟩
          ·
            refine own_icmple_t H (pc' := 74) d20_64 (by decide) (by decide) c16 ?_
            refine own_iload_n H rfl d20_74 ?_
            refine own_iload_n H rfl d20_75 ?_
            refine own_iconst H (1 : Int32) (by decide) d20_76 ?_
            refine own_iushr H rfl d20_77 ?_
            refine own_iadd H rfl d20_78 ?_
            exact own_ireturn H (by simp) rfl d20_79 (Nat.le_refl _) (Nat.le_refl _) ⟨by show some _ = some _; rw [FNtz, if_pos c1, if_neg c2, if_neg c10, if_neg c14, if_neg c16], rfl⟩
  ·
    refine own_ifgt_f H d20_9 c1 ?_
    refine own_iload_n H rfl d20_12 ?_
    refine own_bipush H (32 : Int32) (by decide) d20_13 ?_
    refine own_iand H rfl d20_15 ?_
    exact own_ireturn H (by simp) rfl d20_16 (Nat.le_refl _) (Nat.le_refl _) ⟨by show some _ = some _; rw [FNtz, if_neg c1], rfl⟩
theorem d19_0 : decode jdk_35_method_49_code 0 = .ok (.lload_n 0, 1) := by decide +kernel
theorem d19_1 : decode jdk_35_method_49_code 1 = .ok (.l2i, 1) := by decide +kernel
theorem d19_2 : decode jdk_35_method_49_code 2 = .ok (.istore_n 2, 1) := by decide +kernel
theorem d19_3 : decode jdk_35_method_49_code 3 = .ok (.iload_n 2, 1) := by decide +kernel
theorem d19_4 : decode jdk_35_method_49_code 4 = .ok (.ifCond .ne 17, 3) := by decide +kernel
theorem d19_7 : decode jdk_35_method_49_code 7 = .ok (.bipush 32, 2) := by decide +kernel
theorem d19_9 : decode jdk_35_method_49_code 9 = .ok (.lload_n 0, 1) := by decide +kernel
theorem d19_10 : decode jdk_35_method_49_code 10 = .ok (.bipush 32, 2) := by decide +kernel
theorem d19_12 : decode jdk_35_method_49_code 12 = .ok (.lushr, 1) := by decide +kernel
theorem d19_13 : decode jdk_35_method_49_code 13 = .ok (.l2i, 1) := by decide +kernel
theorem d19_14 : decode jdk_35_method_49_code 14 = .ok (.invokestatic 311, 3) := by decide +kernel
theorem d19_17 : decode jdk_35_method_49_code 17 = .ok (.iadd, 1) := by decide +kernel
theorem d19_18 : decode jdk_35_method_49_code 18 = .ok (.goto 7, 3) := by decide +kernel
theorem d19_21 : decode jdk_35_method_49_code 21 = .ok (.iload_n 2, 1) := by decide +kernel
theorem d19_22 : decode jdk_35_method_49_code 22 = .ok (.invokestatic 311, 3) := by decide +kernel
theorem d19_25 : decode jdk_35_method_49_code 25 = .ok (.ireturn, 1) := by decide +kernel
theorem own_pl19 : plainFor (⟨"java/lang/Long", "numberOfTrailingZeros", "(J)I"⟩ : MethodName) = true := plainFor_of_name (by first | (simp [plainName, overriddenIn]; done) | decide +kernel)
def FNtzL (p1 : Int64) : Int32 := if (p1.toInt32) = 0 then ((32 : Int32) + (FNtz ((XT.ushrL p1 (32 : Int32)).toInt32))) else (FNtz (p1.toInt32))
set_option maxHeartbeats 4000000 in
theorem rmNtzL (l : Launch) (Z : State) (a0 : Array Value) (hw : ∀ (i : Nat) (d : Jvm.Cond), tables_1[i]? = some d → d.before a0 Z = true) (h0 : Heap) (n0 : Nat) (p1 : Int64) :
    own_P l Z (⟨"java/lang/Long", "numberOfTrailingZeros", "(J)I"⟩ : MethodName) jdk_35_method_49_code 3 (some .int) (own_rm 1 14) #[(.long p1)] h0 n0 (.int (FNtzL p1)) := by
  refine own_met (Ls := #[.val (.long p1), .second, .unset]) hw own_pl19 (fun m => by first | (simp [entryFrame, mkF, argsToLocals, Value.category]; done) | rfl) ?_
  intro B H
  refine own_lload_n H rfl d19_0 ?_
  refine own_l2i H rfl d19_1 ?_
  refine own_istore_n H #[.val (.long p1), .second, .val (.int (p1.toInt32))] rfl d19_2 ?_
  refine own_iload_n H rfl d19_3 ?_
  by_cases c1 : (p1.toInt32) = 0
  ·
    refine own_ifne_f H d19_4 c1 ?_
    refine own_bipush H (32 : Int32) (by decide) d19_7 ?_
    refine own_lload_n H rfl d19_9 ?_
    refine own_bipush H (32 : Int32) (by decide) d19_10 ?_
    refine own_lushr H rfl d19_12 ?_
    refine own_l2i H rfl d19_13 ?_
    refine own_invokestatic H (argsL := [(.int ((XT.ushrL p1 (32 : Int32)).toInt32))]) (rest := [(.int (32 : Int32))]) (rmNtz l Z a0 (own_hw H) h0 n0 ((XT.ushrL p1 (32 : Int32)).toInt32)) (w1 := 120) (w2 := 121) (w3 := 25) (w4 := 122) rfl rfl rfl rfl own_pd2 rfl 1 (by decide) rfl (by decide) (Nat.le_of_eq rfl) (by decide) (by decide) (by decide) rfl d19_14 ?_
    rintro _ _ ⟨rfl, rfl⟩
    show own_G _ _ _ _ _ _ _ _ 17 #[.val (.long p1), .second, .val (.int (p1.toInt32))] [(.int (FNtz ((XT.ushrL p1 (32 : Int32)).toInt32))), (.int (32 : Int32))]
    refine own_iadd H rfl d19_17 ?_
    refine own_goto H (pc' := 25) d19_18 (by decide) (by decide) ?_
    exact own_ireturn H (by simp) rfl d19_25 (Nat.le_refl _) (Nat.le_refl _) ⟨by show some _ = some _; rw [FNtzL, if_pos c1], rfl⟩
  ·
    refine own_ifne_t H (pc' := 21) d19_4 (by decide) (by decide) c1 ?_
    refine own_iload_n H rfl d19_21 ?_
    refine own_invokestatic H (argsL := [(.int (p1.toInt32))]) (rest := []) (rmNtz l Z a0 (own_hw H) h0 n0 (p1.toInt32)) (w1 := 120) (w2 := 121) (w3 := 25) (w4 := 122) rfl rfl rfl rfl own_pd2 rfl 0 (by decide) rfl (by decide) (Nat.le_of_eq rfl) (by decide) (by decide) (by decide) rfl d19_22 ?_
    rintro _ _ ⟨rfl, rfl⟩
    show own_G _ _ _ _ _ _ _ _ 25 #[.val (.long p1), .second, .val (.int (p1.toInt32))] [(.int (FNtz (p1.toInt32)))]
    exact own_ireturn H (by simp) rfl d19_25 (Nat.le_refl _) (Nat.le_refl _) ⟨by show some _ = some _; rw [FNtzL, if_neg c1], rfl⟩
theorem d16_0 : decode prog_11_method_13_code 0 = .ok (.lconst 1, 1) := by decide +kernel
theorem d16_1 : decode prog_11_method_13_code 1 = .ok (.iload_n 0, 1) := by decide +kernel
theorem d16_2 : decode prog_11_method_13_code 2 = .ok (.bipush 63, 2) := by decide +kernel
theorem d16_4 : decode prog_11_method_13_code 4 = .ok (.iand, 1) := by decide +kernel
theorem d16_5 : decode prog_11_method_13_code 5 = .ok (.lshl, 1) := by decide +kernel
theorem d16_6 : decode prog_11_method_13_code 6 = .ok (.lreturn, 1) := by decide +kernel
theorem own_pl16 : plainFor (⟨"com/example/ring_to_run/ringtorun/TickQueue", "bitOf", "(I)J"⟩ : MethodName) = true := plainFor_of_name (by first | (simp [plainName, overriddenIn]; done) | decide +kernel)
theorem own_pd4 : parseMethodDescriptor "(I)J" = some ⟨[.int], some .long⟩ := by decide +kernel
def FBit (p1 : Int32) : Int64 := ((1 : Int64) <<< ((p1 &&& (63 : Int32)).toInt64 &&& 63))
set_option maxHeartbeats 4000000 in
theorem rmBit (l : Launch) (Z : State) (a0 : Array Value) (hw : ∀ (i : Nat) (d : Jvm.Cond), tables_1[i]? = some d → d.before a0 Z = true) (h0 : Heap) (n0 : Nat) (p1 : Int32) :
    own_P l Z (⟨"com/example/ring_to_run/ringtorun/TickQueue", "bitOf", "(I)J"⟩ : MethodName) prog_11_method_13_code 1 (some .long) (own_rm 0 0) #[(.int p1)] h0 n0 (.long (FBit p1)) := by
  refine own_met (Ls := #[.val (.int p1)]) hw own_pl16 (fun m => by first | (simp [entryFrame, mkF, argsToLocals, Value.category]; done) | rfl) ?_
  intro B H
  refine own_lconst H (1 : Int64) (by decide) d16_0 ?_
  refine own_iload_n H rfl d16_1 ?_
  refine own_bipush H (63 : Int32) (by decide) d16_2 ?_
  refine own_iand H rfl d16_4 ?_
  refine own_lshl H rfl d16_5 ?_
  exact own_lreturn H d16_6 (Nat.le_refl _) (Nat.le_refl _) ⟨by show some _ = some _; rw [FBit], rfl⟩
theorem d17_0 : decode method_3_code 0 = .ok (.lload_n 0, 1) := by decide +kernel
theorem d17_1 : decode method_3_code 1 = .ok (.bipush 6, 2) := by decide +kernel
theorem d17_3 : decode method_3_code 3 = .ok (.lushr, 1) := by decide +kernel
theorem d17_4 : decode method_3_code 4 = .ok (.lconst 0, 1) := by decide +kernel
theorem d17_5 : decode method_3_code 5 = .ok (.lcmp, 1) := by decide +kernel
theorem d17_6 : decode method_3_code 6 = .ok (.ifCond .ne 5, 3) := by decide +kernel
theorem d17_9 : decode method_3_code 9 = .ok (.iconst 0, 1) := by decide +kernel
theorem d17_10 : decode method_3_code 10 = .ok (.ireturn, 1) := by decide +kernel
theorem d17_11 : decode method_3_code 11 = .ok (.lload_n 0, 1) := by decide +kernel
theorem d17_12 : decode method_3_code 12 = .ok (.bipush 12, 2) := by decide +kernel
theorem d17_14 : decode method_3_code 14 = .ok (.lushr, 1) := by decide +kernel
theorem d17_15 : decode method_3_code 15 = .ok (.lconst 0, 1) := by decide +kernel
theorem d17_16 : decode method_3_code 16 = .ok (.lcmp, 1) := by decide +kernel
theorem d17_17 : decode method_3_code 17 = .ok (.ifCond .ne 5, 3) := by decide +kernel
theorem d17_20 : decode method_3_code 20 = .ok (.iconst 1, 1) := by decide +kernel
theorem d17_21 : decode method_3_code 21 = .ok (.ireturn, 1) := by decide +kernel
theorem d17_22 : decode method_3_code 22 = .ok (.lload_n 0, 1) := by decide +kernel
theorem d17_23 : decode method_3_code 23 = .ok (.bipush 18, 2) := by decide +kernel
theorem d17_25 : decode method_3_code 25 = .ok (.lushr, 1) := by decide +kernel
theorem d17_26 : decode method_3_code 26 = .ok (.lconst 0, 1) := by decide +kernel
theorem d17_27 : decode method_3_code 27 = .ok (.lcmp, 1) := by decide +kernel
theorem d17_28 : decode method_3_code 28 = .ok (.ifCond .ne 5, 3) := by decide +kernel
theorem d17_31 : decode method_3_code 31 = .ok (.iconst 2, 1) := by decide +kernel
theorem d17_32 : decode method_3_code 32 = .ok (.ireturn, 1) := by decide +kernel
theorem d17_33 : decode method_3_code 33 = .ok (.lload_n 0, 1) := by decide +kernel
theorem d17_34 : decode method_3_code 34 = .ok (.bipush 24, 2) := by decide +kernel
theorem d17_36 : decode method_3_code 36 = .ok (.lushr, 1) := by decide +kernel
theorem d17_37 : decode method_3_code 37 = .ok (.lconst 0, 1) := by decide +kernel
theorem d17_38 : decode method_3_code 38 = .ok (.lcmp, 1) := by decide +kernel
theorem d17_39 : decode method_3_code 39 = .ok (.ifCond .ne 5, 3) := by decide +kernel
theorem d17_42 : decode method_3_code 42 = .ok (.iconst 3, 1) := by decide +kernel
theorem d17_43 : decode method_3_code 43 = .ok (.ireturn, 1) := by decide +kernel
theorem d17_44 : decode method_3_code 44 = .ok (.lload_n 0, 1) := by decide +kernel
theorem d17_45 : decode method_3_code 45 = .ok (.bipush 30, 2) := by decide +kernel
theorem d17_47 : decode method_3_code 47 = .ok (.lushr, 1) := by decide +kernel
theorem d17_48 : decode method_3_code 48 = .ok (.lconst 0, 1) := by decide +kernel
theorem d17_49 : decode method_3_code 49 = .ok (.lcmp, 1) := by decide +kernel
theorem d17_50 : decode method_3_code 50 = .ok (.ifCond .ne 5, 3) := by decide +kernel
theorem d17_53 : decode method_3_code 53 = .ok (.iconst 4, 1) := by decide +kernel
theorem d17_54 : decode method_3_code 54 = .ok (.ireturn, 1) := by decide +kernel
theorem d17_55 : decode method_3_code 55 = .ok (.lload_n 0, 1) := by decide +kernel
theorem d17_56 : decode method_3_code 56 = .ok (.bipush 36, 2) := by decide +kernel
theorem d17_58 : decode method_3_code 58 = .ok (.lushr, 1) := by decide +kernel
theorem d17_59 : decode method_3_code 59 = .ok (.lconst 0, 1) := by decide +kernel
theorem d17_60 : decode method_3_code 60 = .ok (.lcmp, 1) := by decide +kernel
theorem d17_61 : decode method_3_code 61 = .ok (.ifCond .ne 5, 3) := by decide +kernel
theorem d17_64 : decode method_3_code 64 = .ok (.iconst 5, 1) := by decide +kernel
theorem d17_65 : decode method_3_code 65 = .ok (.ireturn, 1) := by decide +kernel
theorem d17_66 : decode method_3_code 66 = .ok (.lload_n 0, 1) := by decide +kernel
theorem d17_67 : decode method_3_code 67 = .ok (.bipush 42, 2) := by decide +kernel
theorem d17_69 : decode method_3_code 69 = .ok (.lushr, 1) := by decide +kernel
theorem d17_70 : decode method_3_code 70 = .ok (.lconst 0, 1) := by decide +kernel
theorem d17_71 : decode method_3_code 71 = .ok (.lcmp, 1) := by decide +kernel
theorem d17_72 : decode method_3_code 72 = .ok (.ifCond .ne 6, 3) := by decide +kernel
theorem d17_75 : decode method_3_code 75 = .ok (.bipush 6, 2) := by decide +kernel
theorem d17_77 : decode method_3_code 77 = .ok (.ireturn, 1) := by decide +kernel
theorem d17_78 : decode method_3_code 78 = .ok (.lload_n 0, 1) := by decide +kernel
theorem d17_79 : decode method_3_code 79 = .ok (.bipush 48, 2) := by decide +kernel
theorem d17_81 : decode method_3_code 81 = .ok (.lushr, 1) := by decide +kernel
theorem d17_82 : decode method_3_code 82 = .ok (.lconst 0, 1) := by decide +kernel
theorem d17_83 : decode method_3_code 83 = .ok (.lcmp, 1) := by decide +kernel
theorem d17_84 : decode method_3_code 84 = .ok (.ifCond .ne 6, 3) := by decide +kernel
theorem d17_87 : decode method_3_code 87 = .ok (.bipush 7, 2) := by decide +kernel
theorem d17_89 : decode method_3_code 89 = .ok (.ireturn, 1) := by decide +kernel
theorem d17_90 : decode method_3_code 90 = .ok (.lload_n 0, 1) := by decide +kernel
theorem d17_91 : decode method_3_code 91 = .ok (.bipush 54, 2) := by decide +kernel
theorem d17_93 : decode method_3_code 93 = .ok (.lushr, 1) := by decide +kernel
theorem d17_94 : decode method_3_code 94 = .ok (.lconst 0, 1) := by decide +kernel
theorem d17_95 : decode method_3_code 95 = .ok (.lcmp, 1) := by decide +kernel
theorem d17_96 : decode method_3_code 96 = .ok (.ifCond .ne 6, 3) := by decide +kernel
theorem d17_99 : decode method_3_code 99 = .ok (.bipush 8, 2) := by decide +kernel
theorem d17_101 : decode method_3_code 101 = .ok (.ireturn, 1) := by decide +kernel
theorem d17_102 : decode method_3_code 102 = .ok (.lload_n 0, 1) := by decide +kernel
theorem d17_103 : decode method_3_code 103 = .ok (.bipush 60, 2) := by decide +kernel
theorem d17_105 : decode method_3_code 105 = .ok (.lushr, 1) := by decide +kernel
theorem d17_106 : decode method_3_code 106 = .ok (.lconst 0, 1) := by decide +kernel
theorem d17_107 : decode method_3_code 107 = .ok (.lcmp, 1) := by decide +kernel
theorem d17_108 : decode method_3_code 108 = .ok (.ifCond .ne 6, 3) := by decide +kernel
theorem d17_111 : decode method_3_code 111 = .ok (.bipush 9, 2) := by decide +kernel
theorem d17_113 : decode method_3_code 113 = .ok (.ireturn, 1) := by decide +kernel
theorem d17_114 : decode method_3_code 114 = .ok (.bipush 10, 2) := by decide +kernel
theorem d17_116 : decode method_3_code 116 = .ok (.ireturn, 1) := by decide +kernel
theorem own_pl17 : plainFor (⟨"com/example/ring_to_run/ringtorun/TickQueueNextInstantPinLaw", "group", "(J)I"⟩ : MethodName) = true := plainFor_of_name (by first | (simp [plainName, overriddenIn]; done) | decide +kernel)
def FGrp (p1 : Int64) : Int32 := if (XT.ushrL p1 (6 : Int32)) = (0 : Int64) then (0 : Int32) else if (XT.ushrL p1 (12 : Int32)) = (0 : Int64) then (1 : Int32) else if (XT.ushrL p1 (18 : Int32)) = (0 : Int64) then (2 : Int32) else if (XT.ushrL p1 (24 : Int32)) = (0 : Int64) then (3 : Int32) else if (XT.ushrL p1 (30 : Int32)) = (0 : Int64) then (4 : Int32) else if (XT.ushrL p1 (36 : Int32)) = (0 : Int64) then (5 : Int32) else if (XT.ushrL p1 (42 : Int32)) = (0 : Int64) then (6 : Int32) else if (XT.ushrL p1 (48 : Int32)) = (0 : Int64) then (7 : Int32) else if (XT.ushrL p1 (54 : Int32)) = (0 : Int64) then (8 : Int32) else if (XT.ushrL p1 (60 : Int32)) = (0 : Int64) then (9 : Int32) else (10 : Int32)
set_option maxHeartbeats 4000000 in
theorem rmGrp (l : Launch) (Z : State) (a0 : Array Value) (hw : ∀ (i : Nat) (d : Jvm.Cond), tables_1[i]? = some d → d.before a0 Z = true) (h0 : Heap) (n0 : Nat) (p1 : Int64) :
    own_P l Z (⟨"com/example/ring_to_run/ringtorun/TickQueueNextInstantPinLaw", "group", "(J)I"⟩ : MethodName) method_3_code 2 (some .int) (own_rm 0 0) #[(.long p1)] h0 n0 (.int (FGrp p1)) := by
  refine own_met (Ls := #[.val (.long p1), .second]) hw own_pl17 (fun m => by first | (simp [entryFrame, mkF, argsToLocals, Value.category]; done) | rfl) ?_
  intro B H
  refine own_lload_n H rfl d17_0 ?_
  refine own_bipush H (6 : Int32) (by decide) d17_1 ?_
  refine own_lushr H rfl d17_3 ?_
  refine own_lconst H (0 : Int64) (by decide) d17_4 ?_
  by_cases c1 : (XT.ushrL p1 (6 : Int32)) = (0 : Int64)
  ·
    refine own_lcmpne_f H d17_5 d17_6 c1 ?_
    refine own_iconst H (0 : Int32) (by decide) d17_9 ?_
    exact own_ireturn H (by simp) rfl d17_10 (Nat.le_refl _) (Nat.le_refl _) ⟨by show some _ = some _; rw [FGrp, if_pos c1], rfl⟩
  ·
    refine own_lcmpne_t H (pc' := 11) d17_5 d17_6 (by decide) (by decide) c1 ?_
    refine own_lload_n H rfl d17_11 ?_
    refine own_bipush H (12 : Int32) (by decide) d17_12 ?_
    refine own_lushr H rfl d17_14 ?_
    refine own_lconst H (0 : Int64) (by decide) d17_15 ?_
    by_cases c2 : (XT.ushrL p1 (12 : Int32)) = (0 : Int64)
    ·
      refine own_lcmpne_f H d17_16 d17_17 c2 ?_
      refine own_iconst H (1 : Int32) (by decide) d17_20 ?_
      exact own_ireturn H (by simp) rfl d17_21 (Nat.le_refl _) (Nat.le_refl _) ⟨by show some _ = some _; rw [FGrp, if_neg c1, if_pos c2], rfl⟩
    ·
      refine own_lcmpne_t H (pc' := 22) d17_16 d17_17 (by decide) (by decide) c2 ?_
      refine own_lload_n H rfl d17_22 ?_
      refine own_bipush H (18 : Int32) (by decide) d17_23 ?_
      refine own_lushr H rfl d17_25 ?_
      refine own_lconst H (0 : Int64) (by decide) d17_26 ?_
      by_cases c3 : (XT.ushrL p1 (18 : Int32)) = (0 : Int64)
      ·
        refine own_lcmpne_f H d17_27 d17_28 c3 ?_
        refine own_iconst H (2 : Int32) (by decide) d17_31 ?_
        exact own_ireturn H (by simp) rfl d17_32 (Nat.le_refl _) (Nat.le_refl _) ⟨by show some _ = some _; rw [FGrp, if_neg c1, if_neg c2, if_pos c3], rfl⟩
      ·
        refine own_lcmpne_t H (pc' := 33) d17_27 d17_28 (by decide) (by decide) c3 ?_
        refine own_lload_n H rfl d17_33 ?_
        refine own_bipush H (24 : Int32) (by decide) d17_34 ?_
        refine own_lushr H rfl d17_36 ?_
        refine own_lconst H (0 : Int64) (by decide) d17_37 ?_
        by_cases c4 : (XT.ushrL p1 (24 : Int32)) = (0 : Int64)
        ·
          refine own_lcmpne_f H d17_38 d17_39 c4 ?_
          refine own_iconst H (3 : Int32) (by decide) d17_42 ?_
          exact own_ireturn H (by simp) rfl d17_43 (Nat.le_refl _) (Nat.le_refl _) ⟨by show some _ = some _; rw [FGrp, if_neg c1, if_neg c2, if_neg c3, if_pos c4], rfl⟩
        ·
          refine own_lcmpne_t H (pc' := 44) d17_38 d17_39 (by decide) (by decide) c4 ?_
          refine own_lload_n H rfl d17_44 ?_
          refine own_bipush H (30 : Int32) (by decide) d17_45 ?_
          refine own_lushr H rfl d17_47 ?_
          refine own_lconst H (0 : Int64) (by decide) d17_48 ?_
          by_cases c5 : (XT.ushrL p1 (30 : Int32)) = (0 : Int64)
          ·
            refine own_lcmpne_f H d17_49 d17_50 c5 ?_
            refine own_iconst H (4 : Int32) (by decide) d17_53 ?_
            exact own_ireturn H (by simp) rfl d17_54 (Nat.le_refl _) (Nat.le_refl _) ⟨by show some _ = some _; rw [FGrp, if_neg c1, if_neg c2, if_neg c3, if_neg c4, if_pos c5], rfl⟩
          ·
            refine own_lcmpne_t H (pc' := 55) d17_49 d17_50 (by decide) (by decide) c5 ?_
            refine own_lload_n H rfl d17_55 ?_
            refine own_bipush H (36 : Int32) (by decide) d17_56 ?_
            refine own_lushr H rfl d17_58 ?_
            refine own_lconst H (0 : Int64) (by decide) d17_59 ?_
            by_cases c6 : (XT.ushrL p1 (36 : Int32)) = (0 : Int64)
            ·
              refine own_lcmpne_f H d17_60 d17_61 c6 ?_
              refine own_iconst H (5 : Int32) (by decide) d17_64 ?_
              exact own_ireturn H (by simp) rfl d17_65 (Nat.le_refl _) (Nat.le_refl _) ⟨by show some _ = some _; rw [FGrp, if_neg c1, if_neg c2, if_neg c3, if_neg c4, if_neg c5, if_pos c6], rfl⟩
            ·
              refine own_lcmpne_t H (pc' := 66) d17_60 d17_61 (by decide) (by decide) c6 ?_
              refine own_lload_n H rfl d17_66 ?_
              refine own_bipush H (42 : Int32) (by decide) d17_67 ?_
              refine own_lushr H rfl d17_69 ?_
              refine own_lconst H (0 : Int64) (by decide) d17_70 ?_
              by_cases c7 : (XT.ushrL p1 (42 : Int32)) = (0 : Int64)
              ·
                refine own_lcmpne_f H d17_71 d17_72 c7 ?_
                refine own_bipush H (6 : Int32) (by decide) d17_75 ?_
                exact own_ireturn H (by simp) rfl d17_77 (Nat.le_refl _) (Nat.le_refl _) ⟨by show some _ = some _; rw [FGrp, if_neg c1, if_neg c2, if_neg c3, if_neg c4, if_neg c5, if_neg c6, if_pos c7], rfl⟩
              ·
                refine own_lcmpne_t H (pc' := 78) d17_71 d17_72 (by decide) (by decide) c7 ?_
                refine own_lload_n H rfl d17_78 ?_
                refine own_bipush H (48 : Int32) (by decide) d17_79 ?_
                refine own_lushr H rfl d17_81 ?_
                refine own_lconst H (0 : Int64) (by decide) d17_82 ?_
                by_cases c8 : (XT.ushrL p1 (48 : Int32)) = (0 : Int64)
                ·
                  refine own_lcmpne_f H d17_83 d17_84 c8 ?_
                  refine own_bipush H (7 : Int32) (by decide) d17_87 ?_
                  exact own_ireturn H (by simp) rfl d17_89 (Nat.le_refl _) (Nat.le_refl _) ⟨by show some _ = some _; rw [FGrp, if_neg c1, if_neg c2, if_neg c3, if_neg c4, if_neg c5, if_neg c6, if_neg c7, if_pos c8], rfl⟩
                ·
                  refine own_lcmpne_t H (pc' := 90) d17_83 d17_84 (by decide) (by decide) c8 ?_
                  refine own_lload_n H rfl d17_90 ?_
                  refine own_bipush H (54 : Int32) (by decide) d17_91 ?_
                  refine own_lushr H rfl d17_93 ?_
                  refine own_lconst H (0 : Int64) (by decide) d17_94 ?_
                  by_cases c9 : (XT.ushrL p1 (54 : Int32)) = (0 : Int64)
                  ·
                    refine own_lcmpne_f H d17_95 d17_96 c9 ?_
                    refine own_bipush H (8 : Int32) (by decide) d17_99 ?_
                    exact own_ireturn H (by simp) rfl d17_101 (Nat.le_refl _) (Nat.le_refl _) ⟨by show some _ = some _; rw [FGrp, if_neg c1, if_neg c2, if_neg c3, if_neg c4, if_neg c5, if_neg c6, if_neg c7, if_neg c8, if_pos c9], rfl⟩
                  ·
                    refine own_lcmpne_t H (pc' := 102) d17_95 d17_96 (by decide) (by decide) c9 ?_
                    refine own_lload_n H rfl d17_102 ?_
                    refine own_bipush H (60 : Int32) (by decide) d17_103 ?_
                    refine own_lushr H rfl d17_105 ?_
                    refine own_lconst H (0 : Int64) (by decide) d17_106 ?_
                    by_cases c10 : (XT.ushrL p1 (60 : Int32)) = (0 : Int64)
                    ·
                      refine own_lcmpne_f H d17_107 d17_108 c10 ?_
                      refine own_bipush H (9 : Int32) (by decide) d17_111 ?_
                      exact own_ireturn H (by simp) rfl d17_113 (Nat.le_refl _) (Nat.le_refl _) ⟨by show some _ = some _; rw [FGrp, if_neg c1, if_neg c2, if_neg c3, if_neg c4, if_neg c5, if_neg c6, if_neg c7, if_neg c8, if_neg c9, if_pos c10], rfl⟩
                    ·
                      refine own_lcmpne_t H (pc' := 114) d17_107 d17_108 (by decide) (by decide) c10 ?_
                      refine own_bipush H (10 : Int32) (by decide) d17_114 ?_
                      exact own_ireturn H (by simp) rfl d17_116 (Nat.le_refl _) (Nat.le_refl _) ⟨by show some _ = some _; rw [FGrp, if_neg c1, if_neg c2, if_neg c3, if_neg c4, if_neg c5, if_neg c6, if_neg c7, if_neg c8, if_neg c9, if_neg c10], rfl⟩
theorem d18_0 : decode method_4_code 0 = .ok (.iload_n 2, 1) := by decide +kernel
theorem d18_1 : decode method_4_code 1 = .ok (.bipush 11, 2) := by decide +kernel
theorem d18_3 : decode method_4_code 3 = .ok (.if_icmp .lt 5, 3) := by decide +kernel
theorem d18_6 : decode method_4_code 6 = .ok (.lconst 0, 1) := by decide +kernel
theorem d18_7 : decode method_4_code 7 = .ok (.lreturn, 1) := by decide +kernel
theorem d18_8 : decode method_4_code 8 = .ok (.bipush 6, 2) := by decide +kernel
theorem d18_10 : decode method_4_code 10 = .ok (.iload_n 2, 1) := by decide +kernel
theorem d18_11 : decode method_4_code 11 = .ok (.imul, 1) := by decide +kernel
theorem d18_12 : decode method_4_code 12 = .ok (.istore_n 3, 1) := by decide +kernel
theorem d18_13 : decode method_4_code 13 = .ok (.lload_n 0, 1) := by decide +kernel
theorem d18_14 : decode method_4_code 14 = .ok (.iload_n 3, 1) := by decide +kernel
theorem d18_15 : decode method_4_code 15 = .ok (.lushr, 1) := by decide +kernel
theorem d18_16 : decode method_4_code 16 = .ok (.iload_n 3, 1) := by decide +kernel
theorem d18_17 : decode method_4_code 17 = .ok (.lshl, 1) := by decide +kernel
theorem d18_18 : decode method_4_code 18 = .ok (.lreturn, 1) := by decide +kernel
theorem own_pl18 : plainFor (⟨"com/example/ring_to_run/ringtorun/TickQueueNextInstantPinLaw", "round", "(JI)J"⟩ : MethodName) = true := plainFor_of_name (by first | (simp [plainName, overriddenIn]; done) | decide +kernel)
theorem own_pd5 : parseMethodDescriptor "(JI)J" = some ⟨[.long, .int], some .long⟩ := by decide +kernel
def FRnd (p1 : Int64) (p2 : Int32) : Int64 := if p2 < (11 : Int32) then ((XT.ushrL p1 ((6 : Int32) * p2)) <<< (((6 : Int32) * p2).toInt64 &&& 63)) else (0 : Int64)
set_option maxHeartbeats 4000000 in
theorem rmRnd (l : Launch) (Z : State) (a0 : Array Value) (hw : ∀ (i : Nat) (d : Jvm.Cond), tables_1[i]? = some d → d.before a0 Z = true) (h0 : Heap) (n0 : Nat) (p1 : Int64) (p2 : Int32) :
    own_P l Z (⟨"com/example/ring_to_run/ringtorun/TickQueueNextInstantPinLaw", "round", "(JI)J"⟩ : MethodName) method_4_code 4 (some .long) (own_rm 0 0) #[(.long p1), (.int p2)] h0 n0 (.long (FRnd p1 p2)) := by
  refine own_met (Ls := #[.val (.long p1), .second, .val (.int p2), .unset]) hw own_pl18 (fun m => by first | (simp [entryFrame, mkF, argsToLocals, Value.category]; done) | rfl) ?_
  intro B H
  refine own_iload_n H rfl d18_0 ?_
  refine own_bipush H (11 : Int32) (by decide) d18_1 ?_
  by_cases c1 : p2 < (11 : Int32)
  ·
    refine own_icmplt_t H (pc' := 8) d18_3 (by decide) (by decide) c1 ?_
    refine own_bipush H (6 : Int32) (by decide) d18_8 ?_
    refine own_iload_n H rfl d18_10 ?_
    refine own_imul H rfl d18_11 ?_
    refine own_istore_n H #[.val (.long p1), .second, .val (.int p2), .val (.int ((6 : Int32) * p2))] rfl d18_12 ?_
    refine own_lload_n H rfl d18_13 ?_
    refine own_iload_n H rfl d18_14 ?_
    refine own_lushr H rfl d18_15 ?_
    refine own_iload_n H rfl d18_16 ?_
    refine own_lshl H rfl d18_17 ?_
    exact own_lreturn H d18_18 (Nat.le_refl _) (Nat.le_refl _) ⟨by show some _ = some _; rw [FRnd, if_pos c1], rfl⟩
  ·
    refine own_icmplt_f H d18_3 c1 ?_
    refine own_lconst H (0 : Int64) (by decide) d18_6 ?_
    exact own_lreturn H d18_7 (Nat.le_refl _) (Nat.le_refl _) ⟨by show some _ = some _; rw [FRnd, if_neg c1], rfl⟩
section OwnAf
/-- an array's places by a function of the index -/
def own_Af (Z : State) (h : Heap) (a : Addr) (k : ClassId) (ty : FieldType) (n : Int32) (dv : Value) (f : Nat → Value) : Prop :=
  ∃ vs : List Value, Arv Z h a k ty n vs dv ∧ vs.length = n.toNatClampNeg ∧ ∀ i, i < n.toNatClampNeg → vs.getD i dv = f i
variable {Z : State} {h h' : Heap} {a : Addr} {k : ClassId} {ty : FieldType} {n : Int32} {dv : Value} {f g : Nat → Value}
theorem own_Af.ofNew (V : Arv Z h a k ty n [] dv) : own_Af Z h a k ty n dv (fun _ => dv) :=
  ⟨List.replicate n.toNatClampNeg dv, V.pad (fun i => by by_cases q : i < n.toNatClampNeg <;> simp [List.getD, q]), by simp, fun i hi => by simp [List.getD, hi]⟩
theorem own_Af.ext (F : own_Af Z h a k ty n dv f) (E : Ext h h') : own_Af Z h' a k ty n dv f := by
  obtain ⟨vs, V, r⟩ := F
  exact ⟨vs, V.ext E, r⟩
theorem own_Af.other {b : Addr} {sl : Nat} {v : Value} (F : own_Af Z h a k ty n dv f) (W : Wr h h' b sl v) (q : a ≠ b) : own_Af Z h' a k ty n dv f := by
  obtain ⟨vs, V, r⟩ := F
  exact ⟨vs, V.other W q, r⟩
theorem own_Af.keep {ws : List Addr} (F : own_Af Z h a k ty n dv f) (K : Keep h h' ws) (q : a ∉ ws) : own_Af Z h' a k ty n dv f := by
  obtain ⟨vs, V, r⟩ := F
  exact ⟨vs, V.keep K q, r⟩
theorem own_Af.lt (F : own_Af Z h a k ty n dv f) : a < h.size := by
  obtain ⟨vs, V, r⟩ := F
  exact V.lt
theorem own_Af.to (F : own_Af Z h a k ty n dv f) (q : ∀ i, i < n.toNatClampNeg → f i = g i) : own_Af Z h a k ty n dv g := by
  obtain ⟨vs, V, r1, r2⟩ := F
  exact ⟨vs, V, r1, fun i hi => (r2 i hi).trans (q i hi)⟩
theorem own_clt {j n : Int32} (h1 : ¬ j < 0) (h2 : j < n) : j.toNatClampNeg < n.toNatClampNeg := by
  rw [Int32.lt_iff_toInt_lt] at h1 h2
  have e0 : (0 : Int32).toInt = 0 := rfl
  show j.toInt.toNat < n.toInt.toNat
  omega
section LawsF
variable {B : own_B} {a0 : Array Value} {l : Launch} {R : Room} {y : MethodName} {code : ByteArray} {N : Nat} {ret : Option FieldType} {n0 : Nat} {Q : Option Value → Heap → Prop} {kc ks cells slots : Nat} {pc pc' : Nat} {Ls Ls' : Array Slot} {st : List Value}
theorem own_aaloadF (H : own_Ok B Z a0 l R y code N ret) {j : Int32} {v : Value} (V : own_Af Z h a k ty n dv f) (hty : ty.isReference = true) (h1 : ¬ j < 0) (h2 : j < n) (hv : f j.toNatClampNeg = v) (hd : decode code pc = .ok (.aaload, 1)) (q : own_G B n0 Q kc ks cells slots h (pc + 1) Ls (v :: st)) : own_G B n0 Q kc ks cells slots h pc Ls (.int j :: .ref a :: st) := by
  obtain ⟨vs, V, r1, r2⟩ := V
  exact own_aaloadV H V hty h1 h2 ((r2 _ (own_clt h1 h2)).trans hv) hd q
theorem own_laloadF (H : own_Ok B Z a0 l R y code N ret) {j : Int32} {v : Value} (V : own_Af Z h a k .long n dv f) (h1 : ¬ j < 0) (h2 : j < n) (hv : f j.toNatClampNeg = v) (hd : decode code pc = .ok (.laload, 1)) (q : own_G B n0 Q kc ks cells slots h (pc + 1) Ls (v :: st)) : own_G B n0 Q kc ks cells slots h pc Ls (.int j :: .ref a :: st) := by
  obtain ⟨vs, V, r1, r2⟩ := V
  exact own_laloadV H V h1 h2 ((r2 _ (own_clt h1 h2)).trans hv) hd q
theorem own_setF {vs : List Value} {i0 m : Nat} {v : Value} (r1 : vs.length = m) (hi : i0 < m) (r2 : ∀ i, i < m → vs.getD i dv = f i) (hg : ∀ i, i < m → (if i = i0 then v else f i) = g i) : (vs.set i0 v).length = m ∧ ∀ i, i < m → (vs.set i0 v).getD i dv = g i := by
  refine ⟨by simp [r1], fun i q => ?_⟩
  rw [← hg i q]
  by_cases c : i = i0
  · subst c
    rw [if_pos rfl]
    simp [List.getD, r1, q]
  · rw [if_neg c, ← r2 i q]
    simp [List.getD, List.getElem?_set, Ne.symm c]
theorem own_lastoreF (H : own_Ok B Z a0 l R y code N ret) {j : Int32} {x : Int64} (V : own_Af Z h a k .long n dv f) (h1 : ¬ j < 0) (h2 : j < n) (hg : ∀ i, i < n.toNatClampNeg → (if i = j.toNatClampNeg then .long x else f i) = g i) (ha : n0 ≤ a) (hd : decode code pc = .ok (.lastore, 1)) (q : ∀ h', Wr h h' a j.toNatClampNeg (.long x) → own_Af Z h' a k .long n dv g → own_G B n0 Q kc ks cells slots h' (pc + 1) Ls st) : own_G B n0 Q kc ks cells slots h pc Ls (.long x :: .int j :: .ref a :: st) := by
  obtain ⟨vs, V, r1, r2⟩ := V
  have hi := own_clt h1 h2
  exact own_lastoreV H V h1 h2 _ rfl (by rw [r1]; exact hi) ha rfl hd fun h' W V' => q h' W ⟨_, V', own_setF r1 hi r2 hg⟩
theorem own_aastoreF (H : own_Ok B Z a0 l R y code N ret) {C : String} {j : Int32} {v : Value} (V : own_Af Z h a k (.object C) n dv f) (O : Ovr Z k C) (hs : v = .null ∨ ∃ t, v = .ref t ∧ Ins Z h t C true) (h1 : ¬ j < 0) (h2 : j < n) (hg : ∀ i, i < n.toNatClampNeg → (if i = j.toNatClampNeg then v else f i) = g i) (ha : n0 ≤ a) (hd : decode code pc = .ok (.aastore, 1)) (q : ∀ h', Wr h h' a j.toNatClampNeg v → own_Af Z h' a k (.object C) n dv g → own_G B n0 Q kc ks cells slots h' (pc + 1) Ls st) : own_G B n0 Q kc ks cells slots h pc Ls (v :: .int j :: .ref a :: st) := by
  obtain ⟨vs, V, r1, r2⟩ := V
  have hi := own_clt h1 h2
  obtain ⟨cl, A, q1, S, M, Hs, Fs⟩ := V
  have hS : Sto Z h a v := by
    rcases hs with e | ⟨t, e, I⟩
    · exact Or.inl e
    · rw [e]; exact Sto.ofV A q1 O I
  have hft : fits (.object C) v = true := by
    rcases hs with e | ⟨t, e, -⟩ <;> rw [e] <;> rfl
  exact own_aastore H A rfl hS (inb_of S ⟨h1, h2⟩) ha hd fun h' W => q h' W ⟨_, Arv.set A q1 S M Hs Fs hft W _ rfl (by rw [r1]; exact hi), own_setF r1 hi r2 hg⟩
end LawsF
end OwnAf

theorem own_selP {Z : State} {a0 : Array Value} {yc : MethodName} {nI : Nat} (q1 : (Jvm.Cond.instantiable yc.cls nI).before a0 Z = true) (q2 : (Jvm.Cond.instanceMethod yc).before a0 Z = true) (q3 : (Jvm.Cond.privateMethod yc).before a0 Z = true) (hne : yc.cls ≠ "java/lang/invoke/MethodHandle" ∧ yc.cls ≠ "java/lang/invoke/VarHandle") : (Jvm.Cond.selects yc.cls yc yc).before a0 Z = true := by
  obtain ⟨c, k, h1, h2, h3, h4, -⟩ := Cond.instantiable_spec q1
  simp only [Bool.or_eq_false_iff] at h4
  exact selects_self_of_private h1 h2 h4.1 (Cond.privateMethod_at q3) q2 hne
section OwnPriv
variable {B : own_B} {Z : State} {a0 : Array Value} {l : Launch} {R : Room} {y : MethodName} {code : ByteArray} {N : Nat} {ret : Option FieldType} {n0 : Nat} {Q : Option Value → Heap → Prop} {kc ks cells slots : Nat} {h : Heap} {pc pc' : Nat} {Ls Ls' : Array Slot} {st : List Value}
theorem own_invokepriv (H : own_Ok B Z a0 l R y code N ret) {i w1 w2 w3 w4 w5 w6 : Nat} {C : String} {yc : MethodName} {bytes : ByteArray} {maxL : Nat} {rc : Option FieldType} {rm : Room} {Qc : Option Value → Heap → Prop} {a : Addr} {argsL rest : List Value} (hM : own_C l Z yc bytes maxL rc rm (.ref a :: argsL).toArray h n0 Qc) (E : Exa Z h a C)
    (q1 : tables_1[w1]? = some (Jvm.Cond.methodLink y.cls i yc)) (q2 : tables_1[w2]? = some (Jvm.Cond.instanceMethod yc)) {nI : Nat} (q5 : tables_1[w5]? = some (Jvm.Cond.instantiable yc.cls nI)) (q6 : tables_1[w6]? = some (Jvm.Cond.privateMethod yc)) (qz : tables_1[w3]? = some (Jvm.Cond.initialized yc.cls)) (qc : tables_1[w4]? = some (Jvm.Cond.code yc bytes maxL rc)) {ps : List FieldType} {r : Option FieldType} (hpd : parseMethodDescriptor yc.desc = some ⟨ps, r⟩) (hln : argsL.length = ps.length) (W : Nat) (hne : yc.cls ≠ "java/lang/invoke/MethodHandle" ∧ yc.cls ≠ "java/lang/invoke/VarHandle")
    (hsz : Ls.size = N) (hfr : rm.frames + 1 ≤ R.frames) (hW : (rest.map fun v => v.category).sum ≤ W) (hlo : W + (maxL + 11) + rm.locals ≤ R.locals) (hkc : cells + rm.cells ≤ R.cells) (hks : slots + rm.slots ≤ R.slots) (hst : st = argsL.reverse ++ .ref a :: rest) (hd : decode code pc = .ok (.invokevirtual i, 3))
    (k : ∀ v h', Qc v h' → own_G B n0 Q kc ks (cells + rm.cells) (slots + rm.slots) h' (pc + 3) Ls (v.toList ++ rest)) : own_G B n0 Q kc ks cells slots h pc Ls st := by
  obtain ⟨p, l, e, R, s, m, args, below, meth, c, k0, P⟩ := B
  obtain ⟨rfl, rfl, hx, hZ, hown, hby, hml, hrt, hlk, hnm, hw, hPe⟩ := H
  intro T locs c1 s1 X F hc hs eT hk
  subst hst
  obtain ⟨cq, ce, co⟩ := E.cell
  obtain ⟨v', _, ⟨T', L', k', n'⟩, -, X', ⟨Lc', hQ', l', y', z'⟩, s'⟩ := X.privateBack hx (y := yc) hown (mvT hZ (hw _ _ q1)) (mvT hZ (hw _ _ q2)) (mvT hZ (own_selP (hw _ _ q5) (hw _ _ q2) (hw _ _ q6) hne)) (Cond.privateMethod_at (mvP hZ (hw _ _ q6) (args := #[]))) (mvT hZ (hw _ _ qc)) hne (backOf (W := W) (bytes := bytes) (rm := rm) (Q := fun v hh L => (Qc v hh ∧ Fr n0 L) ∧ h.size ≤ hh.size) (h := h) (own_grow hM) hZ (hw _ _ qc) (hw _ _ qz) hfr hlo) (g := mkF m pc Ls (argsL.reverse ++ .ref a :: rest)) rfl (hsz.trans hml.symm) (Steps.refl _) (a := a) (by rw [eT]; exact ce) co (argsL := argsL) (rest := rest) (lenOf hpd hln) rfl (by show 2 * 0 + _ ≤ _; omega) (hb hby hd) (fun _ _ => ⟨rfl, eT, Nat.le_trans (Nat.add_le_add_right hc _) hkc, Nat.le_trans (Nat.add_le_add_right hs _) hks⟩)
  dsimp only [Pt.U, Pt.locs, Pt.cells, Pt.slots] at X' l' y' z' s' hQ'
  subst l' y' z'
  exact own_go (fun t q => s'.trans q) (k v' _ hQ'.1.1 T' _ _ _ X' (F.app hQ'.1.2) (Nat.add_le_add_right hc _) (Nat.add_le_add_right hs _) rfl (Nat.le_trans hk hQ'.2))
end OwnPriv
def own_Qu (Z : State) (n0 : Nat) (h : Heap) (q : Addr) (ta : Addr) (tb : Addr) (aH : Addr) (aT : Addr) (aO : Addr) (kH : ClassId) (kT : ClassId) (kO : ClassId) (M : Nat) (st : Int64) (da : Int64) (db : Int64) (cur : Int64) (hf : Nat → Value) (tf : Nat → Value) (of : Nat → Value) (pa : Value) (na : Value) (pb : Value) (nb : Value) : Prop :=
  (n0 ≤ h.size ∧ n0 ≤ q ∧ n0 ≤ ta ∧ n0 ≤ tb ∧ n0 ≤ aH ∧ n0 ≤ aT ∧ n0 ≤ aO) ∧
  (q ≠ ta ∧ q ≠ tb ∧ q ≠ aH ∧ q ≠ aT ∧ q ≠ aO ∧ ta ≠ tb ∧ ta ≠ aH ∧ ta ≠ aT ∧ ta ≠ aO ∧ tb ≠ aH ∧ tb ≠ aT ∧ tb ≠ aO ∧ aH ≠ aT ∧ aH ≠ aO ∧ aT ≠ aO) ∧
  (Exa Z h q "com/example/ring_to_run/ringtorun/TickQueue" ∧ Exa Z h ta "com/example/ring_to_run/ringtorun/Task" ∧ Exa Z h tb "com/example/ring_to_run/ringtorun/Task" ∧ Ovr Z kH "com/example/ring_to_run/ringtorun/Task" ∧ Ovr Z kT "com/example/ring_to_run/ringtorun/Task") ∧
  (Fld Z h q "com/example/ring_to_run/ringtorun/TickQueue" "levels" "I" (.int (Int32.ofNat M)) ∧ Fld Z h q "com/example/ring_to_run/ringtorun/TickQueue" "heads" "[Lcom/example/ring_to_run/ringtorun/Task;" (.ref aH) ∧ Fld Z h q "com/example/ring_to_run/ringtorun/TickQueue" "tails" "[Lcom/example/ring_to_run/ringtorun/Task;" (.ref aT) ∧ Fld Z h q "com/example/ring_to_run/ringtorun/TickQueue" "occupied" "[J" (.ref aO) ∧ Fld Z h q "com/example/ring_to_run/ringtorun/TickQueue" "start" "J" (.long st) ∧ Fld Z h q "com/example/ring_to_run/ringtorun/TickQueue" "cursor" "J" (.long cur)) ∧
  (Fld Z h ta "com/example/ring_to_run/ringtorun/Task" "previous" "Lcom/example/ring_to_run/ringtorun/Task;" pa ∧ Fld Z h ta "com/example/ring_to_run/ringtorun/Task" "next" "Lcom/example/ring_to_run/ringtorun/Task;" na ∧ Fld Z h ta "com/example/ring_to_run/ringtorun/Task" "dueInstant" "J" (.long da)) ∧
  (Fld Z h tb "com/example/ring_to_run/ringtorun/Task" "previous" "Lcom/example/ring_to_run/ringtorun/Task;" pb ∧ Fld Z h tb "com/example/ring_to_run/ringtorun/Task" "next" "Lcom/example/ring_to_run/ringtorun/Task;" nb ∧ Fld Z h tb "com/example/ring_to_run/ringtorun/Task" "dueInstant" "J" (.long db)) ∧
  (own_Af Z h aH kH (.object "com/example/ring_to_run/ringtorun/Task") (Int32.ofNat (64 * M)) .null hf ∧ own_Af Z h aT kT (.object "com/example/ring_to_run/ringtorun/Task") (Int32.ofNat (64 * M)) .null tf ∧ own_Af Z h aO kO .long (Int32.ofNat M) (.long 0) of)
theorem own_cn {K : Nat} (h : K < 2147483648) : (Int32.ofNat K).toNatClampNeg = K := by
  show (Int32.ofNat K).toInt.toNat = K
  rw [Int32.toInt_ofNat_of_lt (by simpa using h)]
  rfl
theorem own_ti {K : Nat} (h : K < 2147483648) : (Int32.ofNat K).toInt = (K : Int) := Int32.toInt_ofNat_of_lt (by simpa using h)
theorem own_i1 {K : Nat} (h : K < 2147483648) : ¬ Int32.ofNat K < 0 := by
  rw [Int32.lt_iff_toInt_lt, own_ti h]
  have e0 : (0 : Int32).toInt = 0 := rfl
  omega
theorem own_i2 {K n : Nat} (h : K < n) (hn : n < 2147483648) : Int32.ofNat K < Int32.ofNat n := by
  rw [Int32.lt_iff_toInt_lt, own_ti (by omega), own_ti hn]
  omega
theorem own_i3 {K n : Nat} (h : n ≤ K) (hn : K < 2147483648) : ¬ Int32.ofNat K < Int32.ofNat n := by
  rw [Int32.lt_iff_toInt_lt, own_ti hn, own_ti (by omega)]
  omega
theorem own_dv {K : Nat} (h : K < 2147483648) : Int32.ofNat K / (64 : Int32) = Int32.ofNat (K / 64) := by
  rw [← Int32.toInt_inj, Int32.toInt_div_of_ne_right _ _ (by decide), own_ti h, own_ti (by omega)]
  have e : (64 : Int32).toInt = 64 := by decide
  rw [e]
  exact (Int.natCast_ediv K 64) ▸ Int.tdiv_eq_ediv_of_nonneg (by omega)
theorem own_in {K : Nat} : Int32.ofNat K + (1 : Int32) = Int32.ofNat (K + 1) := by
  have e : (1 : Int32) = Int32.ofNat 1 := rfl
  rw [e, ← Int32.ofNat_add]
theorem own_mu {L : Nat} : Int32.ofNat L * (64 : Int32) = Int32.ofNat (L * 64) := by
  have e : (64 : Int32) = Int32.ofNat 64 := rfl
  rw [e, ← Int32.ofNat_mul]
theorem own_ad {L J : Nat} : Int32.ofNat L + Int32.ofNat J = Int32.ofNat (L + J) := by
  rw [← Int32.ofNat_add]
def own_h0 : Nat → Value := fun _ => .null
def own_h1 (t : Addr) (K : Nat) : Nat → Value := fun i => if i = K then .ref t else .null
def own_o0 : Nat → Value := fun _ => .long 0
def own_o1 (K : Nat) : Nat → Value := fun i => if i = K / 64 then .long (FBit (Int32.ofNat K)) else .long 0
theorem own_h1s (t : Addr) (K : Nat) : own_h1 t K K = .ref t := by simp [own_h1]
theorem own_o1s (K : Nat) : own_o1 K (K / 64) = .long (FBit (Int32.ofNat K)) := by simp [own_o1]
theorem own_g1 (t : Addr) (K i : Nat) : (if i = K then (.null : Value) else own_h1 t K i) = own_h0 i := by
  unfold own_h1 own_h0
  split <;> rfl
theorem own_bz (x : Int64) : x &&& (x ^^^ (-1 : Int64)) = 0 := by
  rw [← Int64.toBitVec_inj]
  apply BitVec.eq_of_getLsbD_eq
  intro i hi
  have e : (-1 : Int64).toBitVec = BitVec.allOnes 64 := by decide
  simp [e, hi]
theorem own_g2 (K i : Nat) : (if i = K / 64 then (.long ((FBit (Int32.ofNat K)) &&& ((FBit (Int32.ofNat K)) ^^^ (-1 : Int64))) : Value) else own_o1 K i) = own_o0 i := by
  rw [own_bz]
  unfold own_o1 own_o0
  split <;> rfl
theorem own_g3 (K i : Nat) : (if i = K / 64 then (.long ((0 : Int64) ||| (FBit (Int32.ofNat K))) : Value) else own_o0 i) = own_o1 K i := by
  have e : (0 : Int64) ||| (FBit (Int32.ofNat K)) = FBit (Int32.ofNat K) := by simp
  rw [e]
  rfl
theorem own_z2 {M : Nat} (h : 0 < M) (hM : M ≤ 11) : (0 : Int32) < Int32.ofNat M := own_i2 (K := 0) h (by omega)
theorem own_o1z {K : Nat} (h : K < 64) : own_o1 K ((0 : Int32).toNatClampNeg) = .long (FBit (Int32.ofNat K)) := by
  have e : (0 : Int32).toNatClampNeg = 0 := rfl
  have e2 : K / 64 = 0 := by omega
  simp [own_o1, e, e2]
theorem own_o1n {K j : Nat} (h : j < K / 64) : own_o1 K j = .long 0 := by
  have e2 : ¬ j = K / 64 := by omega
  simp [own_o1, e2]
theorem own_o1n0 {K : Nat} (h : 64 ≤ K) : own_o1 K ((0 : Int32).toNatClampNeg) = .long 0 := own_o1n (j := 0) (by omega)
theorem own_kk (K : Nat) : Int32.ofNat (K / 64) * (64 : Int32) + Int32.ofNat (K % 64) = Int32.ofNat K := by
  rw [own_mu, own_ad]
  congr 1
  omega

theorem d14_0 : decode prog_11_method_10_code 0 = .ok (.lload_n 1, 1) := by decide +kernel
theorem d14_1 : decode prog_11_method_10_code 1 = .ok (.aload_n 0, 1) := by decide +kernel
theorem d14_2 : decode prog_11_method_10_code 2 = .ok (.getfield 45, 3) := by decide +kernel
theorem d14_5 : decode prog_11_method_10_code 5 = .ok (.lxor, 1) := by decide +kernel
theorem d14_6 : decode prog_11_method_10_code 6 = .ok (.lstore_n 3, 1) := by decide +kernel
theorem d14_7 : decode prog_11_method_10_code 7 = .ok (.lload_n 3, 1) := by decide +kernel
theorem d14_8 : decode prog_11_method_10_code 8 = .ok (.lconst 0, 1) := by decide +kernel
theorem d14_9 : decode prog_11_method_10_code 9 = .ok (.lcmp, 1) := by decide +kernel
theorem d14_10 : decode prog_11_method_10_code 10 = .ok (.ifCond .ne 7, 3) := by decide +kernel
theorem d14_13 : decode prog_11_method_10_code 13 = .ok (.iconst 0, 1) := by decide +kernel
theorem d14_14 : decode prog_11_method_10_code 14 = .ok (.goto 13, 3) := by decide +kernel
theorem d14_17 : decode prog_11_method_10_code 17 = .ok (.bipush 63, 2) := by decide +kernel
theorem d14_19 : decode prog_11_method_10_code 19 = .ok (.lload_n 3, 1) := by decide +kernel
theorem d14_20 : decode prog_11_method_10_code 20 = .ok (.invokestatic 15, 3) := by decide +kernel
theorem d14_23 : decode prog_11_method_10_code 23 = .ok (.isub, 1) := by decide +kernel
theorem d14_24 : decode prog_11_method_10_code 24 = .ok (.bipush 6, 2) := by decide +kernel
theorem d14_26 : decode prog_11_method_10_code 26 = .ok (.idiv, 1) := by decide +kernel
theorem d14_27 : decode prog_11_method_10_code 27 = .ok (.istore 5, 2) := by decide +kernel
theorem d14_29 : decode prog_11_method_10_code 29 = .ok (.iload 5, 2) := by decide +kernel
theorem d14_31 : decode prog_11_method_10_code 31 = .ok (.bipush 64, 2) := by decide +kernel
theorem d14_33 : decode prog_11_method_10_code 33 = .ok (.imul, 1) := by decide +kernel
theorem d14_34 : decode prog_11_method_10_code 34 = .ok (.lload_n 1, 1) := by decide +kernel
theorem d14_35 : decode prog_11_method_10_code 35 = .ok (.iload 5, 2) := by decide +kernel
theorem d14_37 : decode prog_11_method_10_code 37 = .ok (.bipush 6, 2) := by decide +kernel
theorem d14_39 : decode prog_11_method_10_code 39 = .ok (.imul, 1) := by decide +kernel
theorem d14_40 : decode prog_11_method_10_code 40 = .ok (.lushr, 1) := by decide +kernel
theorem d14_41 : decode prog_11_method_10_code 41 = .ok (.ldc2_w 88, 3) := by decide +kernel
theorem d14_44 : decode prog_11_method_10_code 44 = .ok (.land, 1) := by decide +kernel
theorem d14_45 : decode prog_11_method_10_code 45 = .ok (.l2i, 1) := by decide +kernel
theorem d14_46 : decode prog_11_method_10_code 46 = .ok (.iadd, 1) := by decide +kernel
theorem d14_47 : decode prog_11_method_10_code 47 = .ok (.ireturn, 1) := by decide +kernel
theorem own_pl14 : plainFor (⟨"com/example/ring_to_run/ringtorun/TickQueue", "bucketOf", "(J)I"⟩ : MethodName) = true := plainFor_of_name (by first | (simp [plainName, overriddenIn]; done) | decide +kernel)
def FBk (x : Int64) (c : Int64) : Int32 := if (x ^^^ c) = (0 : Int64) then ((0 : Int32) + (((XT.ushrL x (0 : Int32)) &&& (63 : Int64)).toInt32)) else (((((63 : Int32) - (FNlzL (x ^^^ c))) / (6 : Int32)) * (64 : Int32)) + (((XT.ushrL x ((((63 : Int32) - (FNlzL (x ^^^ c))) / (6 : Int32)) * (6 : Int32))) &&& (63 : Int64)).toInt32))
theorem rmBk (l : Launch) (Z : State) (a0 : Array Value) (hw : ∀ (i : Nat) (d : Jvm.Cond), tables_1[i]? = some d → d.before a0 Z = true) (h0 : Heap) (n0 : Nat) (a : Addr) (x : Int64) (c : Int64) (hR : Fld Z h0 a "com/example/ring_to_run/ringtorun/TickQueue" "cursor" "J" (.long c)) :
    own_P l Z (⟨"com/example/ring_to_run/ringtorun/TickQueue", "bucketOf", "(J)I"⟩ : MethodName) prog_11_method_10_code 6 (some .int) ({ frames := 2, cells := 0, slots := 0, locals := 40 } : Room) #[(.ref a), (.long x)] h0 n0 (.int (FBk x c)) := by
  refine own_met (Ls := #[.val (.ref a), .val (.long x), .second, .unset, .unset, .unset]) hw own_pl14 (fun m => by first | (simp [entryFrame, mkF, argsToLocals, Value.category]; done) | rfl) ?_
  intro B H
  refine own_lload_n H rfl d14_0 ?_
  refine own_aload_n H rfl rfl d14_1 ?_
  refine own_getfield H (w := 95) rfl hR d14_2 ?_
  refine own_lxor H rfl d14_5 ?_
  refine own_lstore_n H #[.val (.ref a), .val (.long x), .second, .val (.long (x ^^^ c)), .second, .unset] rfl d14_6 ?_
  refine own_lload_n H rfl d14_7 ?_
  refine own_lconst H (0 : Int64) (by decide) d14_8 ?_
  by_cases c1 : (x ^^^ c) = (0 : Int64)
  ·
    refine own_lcmpne_f H d14_9 d14_10 c1 ?_
    refine own_iconst H (0 : Int32) (by decide) d14_13 ?_
    refine own_goto H (pc' := 27) d14_14 (by decide) (by decide) ?_
    refine own_istore H #[.val (.ref a), .val (.long x), .second, .val (.long (x ^^^ c)), .second, .val (.int (0 : Int32))] rfl d14_27 ?_
    refine own_iload H rfl d14_29 ?_
    refine own_bipush H (64 : Int32) (by decide) d14_31 ?_
    refine own_imul (v := (0 : Int32)) H (by decide) d14_33 ?_
    refine own_lload_n H rfl d14_34 ?_
    refine own_iload H rfl d14_35 ?_
    refine own_bipush H (6 : Int32) (by decide) d14_37 ?_
    refine own_imul (v := (0 : Int32)) H (by decide) d14_39 ?_
    refine own_lushr H rfl d14_40 ?_
    refine own_ldc2J H (w := 97) rfl d14_41 ?_
    refine own_land H rfl d14_44 ?_
    refine own_l2i H rfl d14_45 ?_
    refine own_iadd H rfl d14_46 ?_
    exact own_ireturn H (by simp) rfl d14_47 (by decide) (by decide) ⟨by show some _ = some _; rw [FBk, if_pos c1], rfl⟩
  ·
    refine own_lcmpne_t H (pc' := 17) d14_9 d14_10 (by decide) (by decide) c1 ?_
    refine own_bipush H (63 : Int32) (by decide) d14_17 ?_
    refine own_lload_n H rfl d14_19 ?_
    refine own_invokestatic H (argsL := [(.long (x ^^^ c))]) (rest := [(.int (63 : Int32))]) (rmNlzL l Z a0 (own_hw H) h0 n0 (x ^^^ c)) (w1 := 19) (w2 := 20) (w3 := 21) (w4 := 22) rfl rfl rfl rfl own_pd3 rfl 1 (by decide) rfl (by decide) (Nat.le_of_eq rfl) (by decide) (by decide) (by decide) rfl d14_20 ?_
    rintro _ _ ⟨rfl, rfl⟩
    show own_G _ _ _ _ _ _ _ _ 23 #[.val (.ref a), .val (.long x), .second, .val (.long (x ^^^ c)), .second, .unset] [(.int (FNlzL (x ^^^ c))), (.int (63 : Int32))]
    refine own_isub H rfl d14_23 ?_
    refine own_bipush H (6 : Int32) (by decide) d14_24 ?_
    refine own_idiv H rfl d14_26 (by decide) ?_
    refine own_istore H #[.val (.ref a), .val (.long x), .second, .val (.long (x ^^^ c)), .second, .val (.int (((63 : Int32) - (FNlzL (x ^^^ c))) / (6 : Int32)))] rfl d14_27 ?_
    refine own_iload H rfl d14_29 ?_
    refine own_bipush H (64 : Int32) (by decide) d14_31 ?_
    refine own_imul H rfl d14_33 ?_
    refine own_lload_n H rfl d14_34 ?_
    refine own_iload H rfl d14_35 ?_
    refine own_bipush H (6 : Int32) (by decide) d14_37 ?_
    refine own_imul H rfl d14_39 ?_
    refine own_lushr H rfl d14_40 ?_
    refine own_ldc2J H (w := 97) rfl d14_41 ?_
    refine own_land H rfl d14_44 ?_
    refine own_l2i H rfl d14_45 ?_
    refine own_iadd H rfl d14_46 ?_
    exact own_ireturn H (by simp) rfl d14_47 (by decide) (by decide) ⟨by show some _ = some _; rw [FBk, if_neg c1], rfl⟩
theorem d21_0 : decode prog_11_method_11_code 0 = .ok (.iload_n 1, 1) := by decide +kernel
theorem d21_1 : decode prog_11_method_11_code 1 = .ok (.bipush 6, 2) := by decide +kernel
theorem d21_3 : decode prog_11_method_11_code 3 = .ok (.imul, 1) := by decide +kernel
theorem d21_4 : decode prog_11_method_11_code 4 = .ok (.istore_n 3, 1) := by decide +kernel
theorem d21_5 : decode prog_11_method_11_code 5 = .ok (.iload_n 3, 1) := by decide +kernel
theorem d21_6 : decode prog_11_method_11_code 6 = .ok (.bipush 6, 2) := by decide +kernel
theorem d21_8 : decode prog_11_method_11_code 8 = .ok (.iadd, 1) := by decide +kernel
theorem d21_9 : decode prog_11_method_11_code 9 = .ok (.istore 4, 2) := by decide +kernel
theorem d21_11 : decode prog_11_method_11_code 11 = .ok (.iload 4, 2) := by decide +kernel
theorem d21_13 : decode prog_11_method_11_code 13 = .ok (.bipush 64, 2) := by decide +kernel
theorem d21_15 : decode prog_11_method_11_code 15 = .ok (.if_icmp .lt 7, 3) := by decide +kernel
theorem d21_18 : decode prog_11_method_11_code 18 = .ok (.lconst 0, 1) := by decide +kernel
theorem d21_19 : decode prog_11_method_11_code 19 = .ok (.goto 13, 3) := by decide +kernel
theorem d21_22 : decode prog_11_method_11_code 22 = .ok (.aload_n 0, 1) := by decide +kernel
theorem d21_23 : decode prog_11_method_11_code 23 = .ok (.getfield 45, 3) := by decide +kernel
theorem d21_26 : decode prog_11_method_11_code 26 = .ok (.iload 4, 2) := by decide +kernel
theorem d21_28 : decode prog_11_method_11_code 28 = .ok (.lushr, 1) := by decide +kernel
theorem d21_29 : decode prog_11_method_11_code 29 = .ok (.iload 4, 2) := by decide +kernel
theorem d21_31 : decode prog_11_method_11_code 31 = .ok (.lshl, 1) := by decide +kernel
theorem d21_32 : decode prog_11_method_11_code 32 = .ok (.lstore 5, 2) := by decide +kernel
theorem d21_34 : decode prog_11_method_11_code 34 = .ok (.lload 5, 2) := by decide +kernel
theorem d21_36 : decode prog_11_method_11_code 36 = .ok (.iload_n 2, 1) := by decide +kernel
theorem d21_37 : decode prog_11_method_11_code 37 = .ok (.i2l, 1) := by decide +kernel
theorem d21_38 : decode prog_11_method_11_code 38 = .ok (.iload_n 3, 1) := by decide +kernel
theorem d21_39 : decode prog_11_method_11_code 39 = .ok (.lshl, 1) := by decide +kernel
theorem d21_40 : decode prog_11_method_11_code 40 = .ok (.lor, 1) := by decide +kernel
theorem d21_41 : decode prog_11_method_11_code 41 = .ok (.lreturn, 1) := by decide +kernel
theorem own_pl21 : plainFor (⟨"com/example/ring_to_run/ringtorun/TickQueue", "firstOffset", "(II)J"⟩ : MethodName) = true := plainFor_of_name (by first | (simp [plainName, overriddenIn]; done) | decide +kernel)
theorem own_pd6 : parseMethodDescriptor "(II)J" = some ⟨[.int, .int], some .long⟩ := by decide +kernel
def FFo (l_ : Int32) (j_ : Int32) (c : Int64) : Int64 := if ((l_ * (6 : Int32)) + (6 : Int32)) < (64 : Int32) then (((XT.ushrL c ((l_ * (6 : Int32)) + (6 : Int32))) <<< (((l_ * (6 : Int32)) + (6 : Int32)).toInt64 &&& 63)) ||| ((j_.toInt64) <<< ((l_ * (6 : Int32)).toInt64 &&& 63))) else ((0 : Int64) ||| ((j_.toInt64) <<< ((l_ * (6 : Int32)).toInt64 &&& 63)))
theorem rmFo (l : Launch) (Z : State) (a0 : Array Value) (hw : ∀ (i : Nat) (d : Jvm.Cond), tables_1[i]? = some d → d.before a0 Z = true) (h0 : Heap) (n0 : Nat) (a : Addr) (l_ : Int32) (j_ : Int32) (c : Int64) (hR : Fld Z h0 a "com/example/ring_to_run/ringtorun/TickQueue" "cursor" "J" (.long c)) :
    own_P l Z (⟨"com/example/ring_to_run/ringtorun/TickQueue", "firstOffset", "(II)J"⟩ : MethodName) prog_11_method_11_code 7 (some .long) ({ frames := 0, cells := 0, slots := 0, locals := 0 } : Room) #[(.ref a), (.int l_), (.int j_)] h0 n0 (.long (FFo l_ j_ c)) := by
  refine own_met (Ls := #[.val (.ref a), .val (.int l_), .val (.int j_), .unset, .unset, .unset, .unset]) hw own_pl21 (fun m => by first | (simp [entryFrame, mkF, argsToLocals, Value.category]; done) | rfl) ?_
  intro B H
  refine own_iload_n H rfl d21_0 ?_
  refine own_bipush H (6 : Int32) (by decide) d21_1 ?_
  refine own_imul H rfl d21_3 ?_
  refine own_istore_n H #[.val (.ref a), .val (.int l_), .val (.int j_), .val (.int (l_ * (6 : Int32))), .unset, .unset, .unset] rfl d21_4 ?_
  refine own_iload_n H rfl d21_5 ?_
  refine own_bipush H (6 : Int32) (by decide) d21_6 ?_
  refine own_iadd H rfl d21_8 ?_
  refine own_istore H #[.val (.ref a), .val (.int l_), .val (.int j_), .val (.int (l_ * (6 : Int32))), .val (.int ((l_ * (6 : Int32)) + (6 : Int32))), .unset, .unset] rfl d21_9 ?_
  refine own_iload H rfl d21_11 ?_
  refine own_bipush H (64 : Int32) (by decide) d21_13 ?_
  by_cases c1 : ((l_ * (6 : Int32)) + (6 : Int32)) < (64 : Int32)
  ·
    refine own_icmplt_t H (pc' := 22) d21_15 (by decide) (by decide) c1 ?_
    refine own_aload_n H rfl rfl d21_22 ?_
    refine own_getfield H (w := 95) rfl hR d21_23 ?_
    refine own_iload H rfl d21_26 ?_
    refine own_lushr H rfl d21_28 ?_
    refine own_iload H rfl d21_29 ?_
    refine own_lshl H rfl d21_31 ?_
    refine own_lstore H #[.val (.ref a), .val (.int l_), .val (.int j_), .val (.int (l_ * (6 : Int32))), .val (.int ((l_ * (6 : Int32)) + (6 : Int32))), .val (.long ((XT.ushrL c ((l_ * (6 : Int32)) + (6 : Int32))) <<< (((l_ * (6 : Int32)) + (6 : Int32)).toInt64 &&& 63))), .second] rfl d21_32 ?_
    refine own_lload H rfl d21_34 ?_
    refine own_iload_n H rfl d21_36 ?_
    refine own_i2l H rfl d21_37 ?_
    refine own_iload_n H rfl d21_38 ?_
    refine own_lshl H rfl d21_39 ?_
    refine own_lor H rfl d21_40 ?_
    exact own_lreturn H d21_41 (by decide) (by decide) ⟨by show some _ = some _; rw [FFo, if_pos c1], rfl⟩
  ·
    refine own_icmplt_f H d21_15 c1 ?_
    refine own_lconst H (0 : Int64) (by decide) d21_18 ?_
    refine own_goto H (pc' := 32) d21_19 (by decide) (by decide) ?_
    refine own_lstore H #[.val (.ref a), .val (.int l_), .val (.int j_), .val (.int (l_ * (6 : Int32))), .val (.int ((l_ * (6 : Int32)) + (6 : Int32))), .val (.long (0 : Int64)), .second] rfl d21_32 ?_
    refine own_lload H rfl d21_34 ?_
    refine own_iload_n H rfl d21_36 ?_
    refine own_i2l H rfl d21_37 ?_
    refine own_iload_n H rfl d21_38 ?_
    refine own_lshl H rfl d21_39 ?_
    refine own_lor H rfl d21_40 ?_
    exact own_lreturn H d21_41 (by decide) (by decide) ⟨by show some _ = some _; rw [FFo, if_neg c1], rfl⟩
theorem d13_0 : decode prog_8_method_4_code 0 = .ok (.aload_n 0, 1) := by decide +kernel
theorem d13_1 : decode prog_8_method_4_code 1 = .ok (.getfield 17, 3) := by decide +kernel
theorem d13_4 : decode prog_8_method_4_code 4 = .ok (.lreturn, 1) := by decide +kernel
theorem own_pl13 : plainFor (⟨"com/example/ring_to_run/ringtorun/Task", "dueInstant", "()J"⟩ : MethodName) = true := plainFor_of_name (by first | (simp [plainName, overriddenIn]; done) | decide +kernel)
theorem own_pd7 : parseMethodDescriptor "()J" = some ⟨[], some .long⟩ := by decide +kernel
def FDue (c : Int64) : Int64 := c
theorem rmDue (l : Launch) (Z : State) (a0 : Array Value) (hw : ∀ (i : Nat) (d : Jvm.Cond), tables_1[i]? = some d → d.before a0 Z = true) (h0 : Heap) (n0 : Nat) (a : Addr) (c : Int64) (hR : Fld Z h0 a "com/example/ring_to_run/ringtorun/Task" "dueInstant" "J" (.long c)) :
    own_P l Z (⟨"com/example/ring_to_run/ringtorun/Task", "dueInstant", "()J"⟩ : MethodName) prog_8_method_4_code 1 (some .long) ({ frames := 0, cells := 0, slots := 0, locals := 0 } : Room) #[(.ref a)] h0 n0 (.long (FDue c)) := by
  refine own_met (Ls := #[.val (.ref a)]) hw own_pl13 (fun m => by first | (simp [entryFrame, mkF, argsToLocals, Value.category]; done) | rfl) ?_
  intro B H
  refine own_aload_n H rfl rfl d13_0 ?_
  refine own_getfield H (w := 62) rfl hR d13_1 ?_
  exact own_lreturn H d13_4 (by decide) (by decide) ⟨by show some _ = some _; rw [FDue], rfl⟩
theorem d15_0 : decode prog_11_method_14_code 0 = .ok (.aload_n 0, 1) := by decide +kernel
theorem d15_1 : decode prog_11_method_14_code 1 = .ok (.getfield 35, 3) := by decide +kernel
theorem d15_4 : decode prog_11_method_14_code 4 = .ok (.iload_n 2, 1) := by decide +kernel
theorem d15_5 : decode prog_11_method_14_code 5 = .ok (.aaload, 1) := by decide +kernel
theorem d15_6 : decode prog_11_method_14_code 6 = .ok (.astore_n 3, 1) := by decide +kernel
theorem d15_7 : decode prog_11_method_14_code 7 = .ok (.aload_n 1, 1) := by decide +kernel
theorem d15_8 : decode prog_11_method_14_code 8 = .ok (.aload_n 3, 1) := by decide +kernel
theorem d15_9 : decode prog_11_method_14_code 9 = .ok (.putfield 100, 3) := by decide +kernel
theorem d15_12 : decode prog_11_method_14_code 12 = .ok (.aload_n 1, 1) := by decide +kernel
theorem d15_13 : decode prog_11_method_14_code 13 = .ok (.aconst_null, 1) := by decide +kernel
theorem d15_14 : decode prog_11_method_14_code 14 = .ok (.putfield 96, 3) := by decide +kernel
theorem d15_17 : decode prog_11_method_14_code 17 = .ok (.aload_n 3, 1) := by decide +kernel
theorem d15_18 : decode prog_11_method_14_code 18 = .ok (.ifnonnull 29, 3) := by decide +kernel
theorem d15_21 : decode prog_11_method_14_code 21 = .ok (.aload_n 0, 1) := by decide +kernel
theorem d15_22 : decode prog_11_method_14_code 22 = .ok (.getfield 31, 3) := by decide +kernel
theorem d15_25 : decode prog_11_method_14_code 25 = .ok (.iload_n 2, 1) := by decide +kernel
theorem d15_26 : decode prog_11_method_14_code 26 = .ok (.aload_n 1, 1) := by decide +kernel
theorem d15_27 : decode prog_11_method_14_code 27 = .ok (.aastore, 1) := by decide +kernel
theorem d15_28 : decode prog_11_method_14_code 28 = .ok (.aload_n 0, 1) := by decide +kernel
theorem d15_29 : decode prog_11_method_14_code 29 = .ok (.getfield 38, 3) := by decide +kernel
theorem d15_32 : decode prog_11_method_14_code 32 = .ok (.iload_n 2, 1) := by decide +kernel
theorem d15_33 : decode prog_11_method_14_code 33 = .ok (.bipush 64, 2) := by decide +kernel
theorem d15_35 : decode prog_11_method_14_code 35 = .ok (.idiv, 1) := by decide +kernel
theorem d15_36 : decode prog_11_method_14_code 36 = .ok (.dup2, 1) := by decide +kernel
theorem d15_37 : decode prog_11_method_14_code 37 = .ok (.laload, 1) := by decide +kernel
theorem d15_38 : decode prog_11_method_14_code 38 = .ok (.iload_n 2, 1) := by decide +kernel
theorem d15_39 : decode prog_11_method_14_code 39 = .ok (.invokestatic 90, 3) := by decide +kernel
theorem d15_42 : decode prog_11_method_14_code 42 = .ok (.lor, 1) := by decide +kernel
theorem d15_43 : decode prog_11_method_14_code 43 = .ok (.lastore, 1) := by decide +kernel
theorem d15_44 : decode prog_11_method_14_code 44 = .ok (.goto 8, 3) := by decide +kernel
theorem d15_47 : decode prog_11_method_14_code 47 = .ok (.aload_n 3, 1) := by decide +kernel
theorem d15_48 : decode prog_11_method_14_code 48 = .ok (.aload_n 1, 1) := by decide +kernel
theorem d15_49 : decode prog_11_method_14_code 49 = .ok (.putfield 96, 3) := by decide +kernel
theorem d15_52 : decode prog_11_method_14_code 52 = .ok (.aload_n 0, 1) := by decide +kernel
theorem d15_53 : decode prog_11_method_14_code 53 = .ok (.getfield 35, 3) := by decide +kernel
theorem d15_56 : decode prog_11_method_14_code 56 = .ok (.iload_n 2, 1) := by decide +kernel
theorem d15_57 : decode prog_11_method_14_code 57 = .ok (.aload_n 1, 1) := by decide +kernel
theorem d15_58 : decode prog_11_method_14_code 58 = .ok (.aastore, 1) := by decide +kernel
theorem d15_59 : decode prog_11_method_14_code 59 = .ok (.return_, 1) := by decide +kernel
theorem own_pl15 : plainFor (⟨"com/example/ring_to_run/ringtorun/TickQueue", "append", "(Lcom/example/ring_to_run/ringtorun/Task;I)V"⟩ : MethodName) = true := plainFor_of_name (by first | (simp [plainName, overriddenIn]; done) | decide +kernel)
theorem own_pd8 : parseMethodDescriptor "(Lcom/example/ring_to_run/ringtorun/Task;I)V" = some ⟨[(.object "com/example/ring_to_run/ringtorun/Task"), .int], none⟩ := by decide +kernel
set_option maxHeartbeats 8000000 in
theorem rmApE (l : Launch) (Z : State) (a0 : Array Value) (hw : ∀ (i : Nat) (d : Jvm.Cond), tables_1[i]? = some d → d.before a0 Z = true) (h0 : Heap) (n0 : Nat) (q : Addr) (ta : Addr) (tb : Addr) (aH : Addr) (aT : Addr) (aO : Addr) (kH : ClassId) (kT : ClassId) (kO : ClassId) (M : Nat) (st : Int64) (da : Int64) (db : Int64) (cur : Int64) (hf : Nat → Value) (tf : Nat → Value) (of : Nat → Value) (pa : Value) (na : Value) (pb : Value) (nb : Value) (hf' : Nat → Value) (tf' : Nat → Value) (of' : Nat → Value) (K : Nat) (w : Int64) (hQ : own_Qu Z n0 h0 q ta tb aH aT aO kH kT kO M st da db cur hf tf of pa na pb nb) (hM : M ≤ 11) (hK : K < 64 * M) (hT : tf K = .null) (hO : of (K / 64) = .long w) (gH : ∀ i, i < 64 * M → (if i = K then (.ref ta : Value) else hf i) = hf' i) (gT : ∀ i, i < 64 * M → (if i = K then (.ref ta : Value) else tf i) = tf' i) (gO : ∀ i, i < M → (if i = K / 64 then (.long (w ||| (FBit (Int32.ofNat K))) : Value) else of i) = of' i) :
    own_C l Z (⟨"com/example/ring_to_run/ringtorun/TickQueue", "append", "(Lcom/example/ring_to_run/ringtorun/Task;I)V"⟩ : MethodName) prog_11_method_14_code 4 none ({ frames := 1, cells := 0, slots := 0, locals := 20 } : Room) #[(.ref q), (.ref ta), (.int (Int32.ofNat K))] h0 n0 (fun v h' => v = none ∧ own_Qu Z n0 h' q ta tb aH aT aO kH kT kO M st da db cur hf' tf' of' .null .null pb nb) := by
  refine own_met (Ls := #[.val (.ref q), .val (.ref ta), .val (.int (Int32.ofNat K)), .unset]) hw own_pl15 (fun m => by first | (simp [entryFrame, mkF, argsToLocals, Value.category]; done) | rfl) ?_
  intro B H
  obtain ⟨⟨u1, u2, u3, u4, u5, u6, u7⟩, ⟨u8, u9, u10, u11, u12, u13, u14, u15, u16, u17, u18, u19, u20, u21, u22⟩, ⟨u23, u24, u25, u26, u27⟩, ⟨u28, u29, u30, u31, u32, u33⟩, ⟨u34, u35, u36⟩, ⟨u37, u38, u39⟩, ⟨u40, u41, u42⟩⟩ := hQ
  refine own_aload_n H rfl rfl d15_0 ?_
  refine own_getfield H (w := 36) rfl u30 d15_1 ?_
  refine own_iload_n H rfl d15_4 ?_
  refine own_aaloadF H (v := .null) u41 rfl (own_i1 (by omega)) (own_i2 hK (by omega)) (by rw [own_cn (by omega)]; exact hT) d15_5 ?_
  refine own_astore_n H rfl #[.val (.ref q), .val (.ref ta), .val (.int (Int32.ofNat K)), .val .null] rfl d15_6 ?_
  refine own_aload_n H rfl rfl d15_7 ?_
  refine own_aload_n H rfl rfl d15_8 ?_
  refine own_putfield H (w := 102) (wi := 44) rfl u34 u24 u3 (Or.inl (own_w H (i := 103) rfl)) rfl (ty := (.object "com/example/ring_to_run/ringtorun/Task")) (by decide) rfl rfl d15_9 ?_
  intro h43 W44
  have f45 : n0 ≤ h43.size := by rw [W44.size]; exact u1
  have f46 : Exa Z h43 q "com/example/ring_to_run/ringtorun/TickQueue" := u23.wr W44
  have f47 : Exa Z h43 ta "com/example/ring_to_run/ringtorun/Task" := u24.wr W44
  have f48 : Exa Z h43 tb "com/example/ring_to_run/ringtorun/Task" := u25.wr W44
  have f49 : Fld Z h43 q "com/example/ring_to_run/ringtorun/TickQueue" "levels" "I" (.int (Int32.ofNat M)) := u28.other W44 (Or.inl u8)
  have f50 : Fld Z h43 q "com/example/ring_to_run/ringtorun/TickQueue" "heads" "[Lcom/example/ring_to_run/ringtorun/Task;" (.ref aH) := u29.other W44 (Or.inl u8)
  have f51 : Fld Z h43 q "com/example/ring_to_run/ringtorun/TickQueue" "tails" "[Lcom/example/ring_to_run/ringtorun/Task;" (.ref aT) := u30.other W44 (Or.inl u8)
  have f52 : Fld Z h43 q "com/example/ring_to_run/ringtorun/TickQueue" "occupied" "[J" (.ref aO) := u31.other W44 (Or.inl u8)
  have f53 : Fld Z h43 q "com/example/ring_to_run/ringtorun/TickQueue" "start" "J" (.long st) := u32.other W44 (Or.inl u8)
  have f54 : Fld Z h43 q "com/example/ring_to_run/ringtorun/TickQueue" "cursor" "J" (.long cur) := u33.other W44 (Or.inl u8)
  have f55 : Fld Z h43 ta "com/example/ring_to_run/ringtorun/Task" "previous" "Lcom/example/ring_to_run/ringtorun/Task;" .null := u34.same W44
  have f56 : Fld Z h43 ta "com/example/ring_to_run/ringtorun/Task" "next" "Lcom/example/ring_to_run/ringtorun/Task;" na := u35.other W44 (Or.inr (slot_ne (Or.inl (own_w H (i := 105) rfl)) (Or.inl (own_w H (i := 103) rfl)) (by decide) (t := (.object "com/example/ring_to_run/ringtorun/Task")) (t' := (.object "com/example/ring_to_run/ringtorun/Task")) (by decide) (by decide)))
  have f57 : Fld Z h43 ta "com/example/ring_to_run/ringtorun/Task" "dueInstant" "J" (.long da) := u36.other W44 (Or.inr (slot_ne (Or.inr (own_w H (i := 63) rfl)) (Or.inl (own_w H (i := 103) rfl)) (by decide) (t := .long) (t' := (.object "com/example/ring_to_run/ringtorun/Task")) (by decide) (by decide)))
  have f58 : Fld Z h43 tb "com/example/ring_to_run/ringtorun/Task" "previous" "Lcom/example/ring_to_run/ringtorun/Task;" pb := u37.other W44 (Or.inl u13.symm)
  have f59 : Fld Z h43 tb "com/example/ring_to_run/ringtorun/Task" "next" "Lcom/example/ring_to_run/ringtorun/Task;" nb := u38.other W44 (Or.inl u13.symm)
  have f60 : Fld Z h43 tb "com/example/ring_to_run/ringtorun/Task" "dueInstant" "J" (.long db) := u39.other W44 (Or.inl u13.symm)
  have f61 : own_Af Z h43 aH kH (.object "com/example/ring_to_run/ringtorun/Task") (Int32.ofNat (64 * M)) .null hf := u40.other W44 u14.symm
  have f62 : own_Af Z h43 aT kT (.object "com/example/ring_to_run/ringtorun/Task") (Int32.ofNat (64 * M)) .null tf := u41.other W44 u15.symm
  have f63 : own_Af Z h43 aO kO .long (Int32.ofNat M) (.long 0) of := u42.other W44 u16.symm
  refine own_aload_n H rfl rfl d15_12 ?_
  refine own_aconst_null H d15_13 ?_
  refine own_putfield H (w := 104) (wi := 44) rfl f56 f47 u3 (Or.inl (own_w H (i := 105) rfl)) rfl (ty := (.object "com/example/ring_to_run/ringtorun/Task")) (by decide) rfl rfl d15_14 ?_
  intro h64 W65
  have f66 : n0 ≤ h64.size := by rw [W65.size]; exact f45
  have f67 : Exa Z h64 q "com/example/ring_to_run/ringtorun/TickQueue" := f46.wr W65
  have f68 : Exa Z h64 ta "com/example/ring_to_run/ringtorun/Task" := f47.wr W65
  have f69 : Exa Z h64 tb "com/example/ring_to_run/ringtorun/Task" := f48.wr W65
  have f70 : Fld Z h64 q "com/example/ring_to_run/ringtorun/TickQueue" "levels" "I" (.int (Int32.ofNat M)) := f49.other W65 (Or.inl u8)
  have f71 : Fld Z h64 q "com/example/ring_to_run/ringtorun/TickQueue" "heads" "[Lcom/example/ring_to_run/ringtorun/Task;" (.ref aH) := f50.other W65 (Or.inl u8)
  have f72 : Fld Z h64 q "com/example/ring_to_run/ringtorun/TickQueue" "tails" "[Lcom/example/ring_to_run/ringtorun/Task;" (.ref aT) := f51.other W65 (Or.inl u8)
  have f73 : Fld Z h64 q "com/example/ring_to_run/ringtorun/TickQueue" "occupied" "[J" (.ref aO) := f52.other W65 (Or.inl u8)
  have f74 : Fld Z h64 q "com/example/ring_to_run/ringtorun/TickQueue" "start" "J" (.long st) := f53.other W65 (Or.inl u8)
  have f75 : Fld Z h64 q "com/example/ring_to_run/ringtorun/TickQueue" "cursor" "J" (.long cur) := f54.other W65 (Or.inl u8)
  have f76 : Fld Z h64 ta "com/example/ring_to_run/ringtorun/Task" "previous" "Lcom/example/ring_to_run/ringtorun/Task;" .null := f55.other W65 (Or.inr (slot_ne (Or.inl (own_w H (i := 103) rfl)) (Or.inl (own_w H (i := 105) rfl)) (by decide) (t := (.object "com/example/ring_to_run/ringtorun/Task")) (t' := (.object "com/example/ring_to_run/ringtorun/Task")) (by decide) (by decide)))
  have f77 : Fld Z h64 ta "com/example/ring_to_run/ringtorun/Task" "next" "Lcom/example/ring_to_run/ringtorun/Task;" .null := f56.same W65
  have f78 : Fld Z h64 ta "com/example/ring_to_run/ringtorun/Task" "dueInstant" "J" (.long da) := f57.other W65 (Or.inr (slot_ne (Or.inr (own_w H (i := 63) rfl)) (Or.inl (own_w H (i := 105) rfl)) (by decide) (t := .long) (t' := (.object "com/example/ring_to_run/ringtorun/Task")) (by decide) (by decide)))
  have f79 : Fld Z h64 tb "com/example/ring_to_run/ringtorun/Task" "previous" "Lcom/example/ring_to_run/ringtorun/Task;" pb := f58.other W65 (Or.inl u13.symm)
  have f80 : Fld Z h64 tb "com/example/ring_to_run/ringtorun/Task" "next" "Lcom/example/ring_to_run/ringtorun/Task;" nb := f59.other W65 (Or.inl u13.symm)
  have f81 : Fld Z h64 tb "com/example/ring_to_run/ringtorun/Task" "dueInstant" "J" (.long db) := f60.other W65 (Or.inl u13.symm)
  have f82 : own_Af Z h64 aH kH (.object "com/example/ring_to_run/ringtorun/Task") (Int32.ofNat (64 * M)) .null hf := f61.other W65 u14.symm
  have f83 : own_Af Z h64 aT kT (.object "com/example/ring_to_run/ringtorun/Task") (Int32.ofNat (64 * M)) .null tf := f62.other W65 u15.symm
  have f84 : own_Af Z h64 aO kO .long (Int32.ofNat M) (.long 0) of := f63.other W65 u16.symm
  refine own_aload_n H rfl rfl d15_17 ?_
  refine own_ifnonnull_f H d15_18 rfl rfl ?_
  refine own_aload_n H rfl rfl d15_21 ?_
  refine own_getfield H (w := 34) rfl f71 d15_22 ?_
  refine own_iload_n H rfl d15_25 ?_
  refine own_aload_n H rfl rfl d15_26 ?_
  refine own_aastoreF H f82 u26 (Or.inr ⟨_, rfl, Ins.self f68⟩) (own_i1 (by omega)) (own_i2 hK (by omega)) (g := hf') (fun i hi => by rw [own_cn (by omega)] at hi; rw [own_cn (by omega)]; exact gH i hi) u5 d15_27 ?_
  intro h85 W86 V87
  have f88 : n0 ≤ h85.size := by rw [W86.size]; exact f66
  have f89 : Exa Z h85 q "com/example/ring_to_run/ringtorun/TickQueue" := f67.wr W86
  have f90 : Exa Z h85 ta "com/example/ring_to_run/ringtorun/Task" := f68.wr W86
  have f91 : Exa Z h85 tb "com/example/ring_to_run/ringtorun/Task" := f69.wr W86
  have f92 : Fld Z h85 q "com/example/ring_to_run/ringtorun/TickQueue" "levels" "I" (.int (Int32.ofNat M)) := f70.other W86 (Or.inl u10)
  have f93 : Fld Z h85 q "com/example/ring_to_run/ringtorun/TickQueue" "heads" "[Lcom/example/ring_to_run/ringtorun/Task;" (.ref aH) := f71.other W86 (Or.inl u10)
  have f94 : Fld Z h85 q "com/example/ring_to_run/ringtorun/TickQueue" "tails" "[Lcom/example/ring_to_run/ringtorun/Task;" (.ref aT) := f72.other W86 (Or.inl u10)
  have f95 : Fld Z h85 q "com/example/ring_to_run/ringtorun/TickQueue" "occupied" "[J" (.ref aO) := f73.other W86 (Or.inl u10)
  have f96 : Fld Z h85 q "com/example/ring_to_run/ringtorun/TickQueue" "start" "J" (.long st) := f74.other W86 (Or.inl u10)
  have f97 : Fld Z h85 q "com/example/ring_to_run/ringtorun/TickQueue" "cursor" "J" (.long cur) := f75.other W86 (Or.inl u10)
  have f98 : Fld Z h85 ta "com/example/ring_to_run/ringtorun/Task" "previous" "Lcom/example/ring_to_run/ringtorun/Task;" .null := f76.other W86 (Or.inl u14)
  have f99 : Fld Z h85 ta "com/example/ring_to_run/ringtorun/Task" "next" "Lcom/example/ring_to_run/ringtorun/Task;" .null := f77.other W86 (Or.inl u14)
  have f100 : Fld Z h85 ta "com/example/ring_to_run/ringtorun/Task" "dueInstant" "J" (.long da) := f78.other W86 (Or.inl u14)
  have f101 : Fld Z h85 tb "com/example/ring_to_run/ringtorun/Task" "previous" "Lcom/example/ring_to_run/ringtorun/Task;" pb := f79.other W86 (Or.inl u17)
  have f102 : Fld Z h85 tb "com/example/ring_to_run/ringtorun/Task" "next" "Lcom/example/ring_to_run/ringtorun/Task;" nb := f80.other W86 (Or.inl u17)
  have f103 : Fld Z h85 tb "com/example/ring_to_run/ringtorun/Task" "dueInstant" "J" (.long db) := f81.other W86 (Or.inl u17)
  have f104 : own_Af Z h85 aT kT (.object "com/example/ring_to_run/ringtorun/Task") (Int32.ofNat (64 * M)) .null tf := f83.other W86 u20.symm
  have f105 : own_Af Z h85 aO kO .long (Int32.ofNat M) (.long 0) of := f84.other W86 u21.symm
  have f106 : own_Af Z h85 aH kH (.object "com/example/ring_to_run/ringtorun/Task") (Int32.ofNat (64 * M)) .null hf' := V87
  show own_G _ _ _ _ _ _ _ _ 28 #[.val (.ref q), .val (.ref ta), .val (.int (Int32.ofNat K)), .val .null] []
  refine own_aload_n H rfl rfl d15_28 ?_
  refine own_getfield H (w := 39) rfl f95 d15_29 ?_
  refine own_iload_n H rfl d15_32 ?_
  refine own_bipush H (64 : Int32) (by decide) d15_33 ?_
  refine own_idiv H rfl d15_35 (by decide) ?_
  rw [own_dv (by omega)]
  show own_G _ _ _ _ _ _ _ _ 36 #[.val (.ref q), .val (.ref ta), .val (.int (Int32.ofNat K)), .val .null] [(.int (Int32.ofNat (K / 64))), (.ref aO)]
  refine own_dup2 H rfl rfl d15_36 ?_
  refine own_laloadF H (v := (.long w)) f105 (own_i1 (by omega)) (own_i2 (Nat.div_lt_of_lt_mul hK) (by omega)) (by rw [own_cn (by omega)]; exact hO) d15_37 ?_
  refine own_iload_n H rfl d15_38 ?_
  refine own_invokestatic H (argsL := [(.int (Int32.ofNat K))]) (rest := [(.long w), (.int (Int32.ofNat (K / 64))), (.ref aO)]) (rmBit l Z a0 (own_hw H) h85 n0 (Int32.ofNat K)) (w1 := 107) (w2 := 108) (w3 := 10) (w4 := 109) rfl rfl rfl rfl own_pd4 rfl 4 (by decide) rfl (by decide) (Nat.le_of_eq rfl) (by decide) (by decide) (by decide) rfl d15_39 ?_
  rintro _ _ ⟨rfl, rfl⟩
  show own_G _ _ _ _ _ _ _ _ 42 #[.val (.ref q), .val (.ref ta), .val (.int (Int32.ofNat K)), .val .null] [(.long (FBit (Int32.ofNat K))), (.long w), (.int (Int32.ofNat (K / 64))), (.ref aO)]
  refine own_lor H rfl d15_42 ?_
  refine own_lastoreF H f105 (own_i1 (by omega)) (own_i2 (Nat.div_lt_of_lt_mul hK) (by omega)) (g := of') (fun i hi => by rw [own_cn (by omega)] at hi; rw [own_cn (by omega)]; exact gO i hi) u7 d15_43 ?_
  intro h107 W108 V109
  have f110 : n0 ≤ h107.size := by rw [W108.size]; exact f88
  have f111 : Exa Z h107 q "com/example/ring_to_run/ringtorun/TickQueue" := f89.wr W108
  have f112 : Exa Z h107 ta "com/example/ring_to_run/ringtorun/Task" := f90.wr W108
  have f113 : Exa Z h107 tb "com/example/ring_to_run/ringtorun/Task" := f91.wr W108
  have f114 : Fld Z h107 q "com/example/ring_to_run/ringtorun/TickQueue" "levels" "I" (.int (Int32.ofNat M)) := f92.other W108 (Or.inl u12)
  have f115 : Fld Z h107 q "com/example/ring_to_run/ringtorun/TickQueue" "heads" "[Lcom/example/ring_to_run/ringtorun/Task;" (.ref aH) := f93.other W108 (Or.inl u12)
  have f116 : Fld Z h107 q "com/example/ring_to_run/ringtorun/TickQueue" "tails" "[Lcom/example/ring_to_run/ringtorun/Task;" (.ref aT) := f94.other W108 (Or.inl u12)
  have f117 : Fld Z h107 q "com/example/ring_to_run/ringtorun/TickQueue" "occupied" "[J" (.ref aO) := f95.other W108 (Or.inl u12)
  have f118 : Fld Z h107 q "com/example/ring_to_run/ringtorun/TickQueue" "start" "J" (.long st) := f96.other W108 (Or.inl u12)
  have f119 : Fld Z h107 q "com/example/ring_to_run/ringtorun/TickQueue" "cursor" "J" (.long cur) := f97.other W108 (Or.inl u12)
  have f120 : Fld Z h107 ta "com/example/ring_to_run/ringtorun/Task" "previous" "Lcom/example/ring_to_run/ringtorun/Task;" .null := f98.other W108 (Or.inl u16)
  have f121 : Fld Z h107 ta "com/example/ring_to_run/ringtorun/Task" "next" "Lcom/example/ring_to_run/ringtorun/Task;" .null := f99.other W108 (Or.inl u16)
  have f122 : Fld Z h107 ta "com/example/ring_to_run/ringtorun/Task" "dueInstant" "J" (.long da) := f100.other W108 (Or.inl u16)
  have f123 : Fld Z h107 tb "com/example/ring_to_run/ringtorun/Task" "previous" "Lcom/example/ring_to_run/ringtorun/Task;" pb := f101.other W108 (Or.inl u19)
  have f124 : Fld Z h107 tb "com/example/ring_to_run/ringtorun/Task" "next" "Lcom/example/ring_to_run/ringtorun/Task;" nb := f102.other W108 (Or.inl u19)
  have f125 : Fld Z h107 tb "com/example/ring_to_run/ringtorun/Task" "dueInstant" "J" (.long db) := f103.other W108 (Or.inl u19)
  have f126 : own_Af Z h107 aH kH (.object "com/example/ring_to_run/ringtorun/Task") (Int32.ofNat (64 * M)) .null hf' := f106.other W108 u21
  have f127 : own_Af Z h107 aT kT (.object "com/example/ring_to_run/ringtorun/Task") (Int32.ofNat (64 * M)) .null tf := f104.other W108 u22
  have f128 : own_Af Z h107 aO kO .long (Int32.ofNat M) (.long 0) of' := V109
  show own_G _ _ _ _ _ _ _ _ 44 #[.val (.ref q), .val (.ref ta), .val (.int (Int32.ofNat K)), .val .null] []
  refine own_goto H (pc' := 52) d15_44 (by decide) (by decide) ?_
  refine own_aload_n H rfl rfl d15_52 ?_
  refine own_getfield H (w := 36) rfl f116 d15_53 ?_
  refine own_iload_n H rfl d15_56 ?_
  refine own_aload_n H rfl rfl d15_57 ?_
  refine own_aastoreF H f127 u27 (Or.inr ⟨_, rfl, Ins.self f112⟩) (own_i1 (by omega)) (own_i2 hK (by omega)) (g := tf') (fun i hi => by rw [own_cn (by omega)] at hi; rw [own_cn (by omega)]; exact gT i hi) u6 d15_58 ?_
  intro h129 W130 V131
  have f132 : n0 ≤ h129.size := by rw [W130.size]; exact f110
  have f133 : Exa Z h129 q "com/example/ring_to_run/ringtorun/TickQueue" := f111.wr W130
  have f134 : Exa Z h129 ta "com/example/ring_to_run/ringtorun/Task" := f112.wr W130
  have f135 : Exa Z h129 tb "com/example/ring_to_run/ringtorun/Task" := f113.wr W130
  have f136 : Fld Z h129 q "com/example/ring_to_run/ringtorun/TickQueue" "levels" "I" (.int (Int32.ofNat M)) := f114.other W130 (Or.inl u11)
  have f137 : Fld Z h129 q "com/example/ring_to_run/ringtorun/TickQueue" "heads" "[Lcom/example/ring_to_run/ringtorun/Task;" (.ref aH) := f115.other W130 (Or.inl u11)
  have f138 : Fld Z h129 q "com/example/ring_to_run/ringtorun/TickQueue" "tails" "[Lcom/example/ring_to_run/ringtorun/Task;" (.ref aT) := f116.other W130 (Or.inl u11)
  have f139 : Fld Z h129 q "com/example/ring_to_run/ringtorun/TickQueue" "occupied" "[J" (.ref aO) := f117.other W130 (Or.inl u11)
  have f140 : Fld Z h129 q "com/example/ring_to_run/ringtorun/TickQueue" "start" "J" (.long st) := f118.other W130 (Or.inl u11)
  have f141 : Fld Z h129 q "com/example/ring_to_run/ringtorun/TickQueue" "cursor" "J" (.long cur) := f119.other W130 (Or.inl u11)
  have f142 : Fld Z h129 ta "com/example/ring_to_run/ringtorun/Task" "previous" "Lcom/example/ring_to_run/ringtorun/Task;" .null := f120.other W130 (Or.inl u15)
  have f143 : Fld Z h129 ta "com/example/ring_to_run/ringtorun/Task" "next" "Lcom/example/ring_to_run/ringtorun/Task;" .null := f121.other W130 (Or.inl u15)
  have f144 : Fld Z h129 ta "com/example/ring_to_run/ringtorun/Task" "dueInstant" "J" (.long da) := f122.other W130 (Or.inl u15)
  have f145 : Fld Z h129 tb "com/example/ring_to_run/ringtorun/Task" "previous" "Lcom/example/ring_to_run/ringtorun/Task;" pb := f123.other W130 (Or.inl u18)
  have f146 : Fld Z h129 tb "com/example/ring_to_run/ringtorun/Task" "next" "Lcom/example/ring_to_run/ringtorun/Task;" nb := f124.other W130 (Or.inl u18)
  have f147 : Fld Z h129 tb "com/example/ring_to_run/ringtorun/Task" "dueInstant" "J" (.long db) := f125.other W130 (Or.inl u18)
  have f148 : own_Af Z h129 aH kH (.object "com/example/ring_to_run/ringtorun/Task") (Int32.ofNat (64 * M)) .null hf' := f126.other W130 u20
  have f149 : own_Af Z h129 aO kO .long (Int32.ofNat M) (.long 0) of' := f128.other W130 u22.symm
  have f150 : own_Af Z h129 aT kT (.object "com/example/ring_to_run/ringtorun/Task") (Int32.ofNat (64 * M)) .null tf' := V131
  show own_G _ _ _ _ _ _ _ _ 59 #[.val (.ref q), .val (.ref ta), .val (.int (Int32.ofNat K)), .val .null] []
  exact own_return H d15_59 (by decide) (by decide) ⟨rfl, ⟨⟨f132, u2, u3, u4, u5, u6, u7⟩, ⟨u8, u9, u10, u11, u12, u13, u14, u15, u16, u17, u18, u19, u20, u21, u22⟩, ⟨f133, f134, f135, u26, u27⟩, ⟨f136, f137, f138, f139, f140, f141⟩, ⟨f142, f143, f144⟩, ⟨f145, f146, f147⟩, ⟨f148, f150, f149⟩⟩⟩
set_option maxHeartbeats 8000000 in
theorem rmApN (l : Launch) (Z : State) (a0 : Array Value) (hw : ∀ (i : Nat) (d : Jvm.Cond), tables_1[i]? = some d → d.before a0 Z = true) (h0 : Heap) (n0 : Nat) (q : Addr) (ta : Addr) (tb : Addr) (aH : Addr) (aT : Addr) (aO : Addr) (kH : ClassId) (kT : ClassId) (kO : ClassId) (M : Nat) (st : Int64) (da : Int64) (db : Int64) (cur : Int64) (hf : Nat → Value) (tf : Nat → Value) (of : Nat → Value) (pa : Value) (na : Value) (pb : Value) (nb : Value) (tf' : Nat → Value) (K : Nat) (hQ : own_Qu Z n0 h0 q ta tb aH aT aO kH kT kO M st da db cur hf tf of pa na pb nb) (hM : M ≤ 11) (hK : K < 64 * M) (hT : tf K = .ref tb) (gT : ∀ i, i < 64 * M → (if i = K then (.ref ta : Value) else tf i) = tf' i) :
    own_C l Z (⟨"com/example/ring_to_run/ringtorun/TickQueue", "append", "(Lcom/example/ring_to_run/ringtorun/Task;I)V"⟩ : MethodName) prog_11_method_14_code 4 none ({ frames := 1, cells := 0, slots := 0, locals := 20 } : Room) #[(.ref q), (.ref ta), (.int (Int32.ofNat K))] h0 n0 (fun v h' => v = none ∧ own_Qu Z n0 h' q ta tb aH aT aO kH kT kO M st da db cur hf tf' of (.ref tb) .null pb (.ref ta)) := by
  refine own_met (Ls := #[.val (.ref q), .val (.ref ta), .val (.int (Int32.ofNat K)), .unset]) hw own_pl15 (fun m => by first | (simp [entryFrame, mkF, argsToLocals, Value.category]; done) | rfl) ?_
  intro B H
  obtain ⟨⟨u1, u2, u3, u4, u5, u6, u7⟩, ⟨u8, u9, u10, u11, u12, u13, u14, u15, u16, u17, u18, u19, u20, u21, u22⟩, ⟨u23, u24, u25, u26, u27⟩, ⟨u28, u29, u30, u31, u32, u33⟩, ⟨u34, u35, u36⟩, ⟨u37, u38, u39⟩, ⟨u40, u41, u42⟩⟩ := hQ
  refine own_aload_n H rfl rfl d15_0 ?_
  refine own_getfield H (w := 36) rfl u30 d15_1 ?_
  refine own_iload_n H rfl d15_4 ?_
  refine own_aaloadF H (v := (.ref tb)) u41 rfl (own_i1 (by omega)) (own_i2 hK (by omega)) (by rw [own_cn (by omega)]; exact hT) d15_5 ?_
  refine own_astore_n H rfl #[.val (.ref q), .val (.ref ta), .val (.int (Int32.ofNat K)), .val (.ref tb)] rfl d15_6 ?_
  refine own_aload_n H rfl rfl d15_7 ?_
  refine own_aload_n H rfl rfl d15_8 ?_
  refine own_putfield H (w := 102) (wi := 44) rfl u34 u24 u3 (Or.inl (own_w H (i := 103) rfl)) rfl (ty := (.object "com/example/ring_to_run/ringtorun/Task")) (by decide) rfl rfl d15_9 ?_
  intro h43 W44
  have f45 : n0 ≤ h43.size := by rw [W44.size]; exact u1
  have f46 : Exa Z h43 q "com/example/ring_to_run/ringtorun/TickQueue" := u23.wr W44
  have f47 : Exa Z h43 ta "com/example/ring_to_run/ringtorun/Task" := u24.wr W44
  have f48 : Exa Z h43 tb "com/example/ring_to_run/ringtorun/Task" := u25.wr W44
  have f49 : Fld Z h43 q "com/example/ring_to_run/ringtorun/TickQueue" "levels" "I" (.int (Int32.ofNat M)) := u28.other W44 (Or.inl u8)
  have f50 : Fld Z h43 q "com/example/ring_to_run/ringtorun/TickQueue" "heads" "[Lcom/example/ring_to_run/ringtorun/Task;" (.ref aH) := u29.other W44 (Or.inl u8)
  have f51 : Fld Z h43 q "com/example/ring_to_run/ringtorun/TickQueue" "tails" "[Lcom/example/ring_to_run/ringtorun/Task;" (.ref aT) := u30.other W44 (Or.inl u8)
  have f52 : Fld Z h43 q "com/example/ring_to_run/ringtorun/TickQueue" "occupied" "[J" (.ref aO) := u31.other W44 (Or.inl u8)
  have f53 : Fld Z h43 q "com/example/ring_to_run/ringtorun/TickQueue" "start" "J" (.long st) := u32.other W44 (Or.inl u8)
  have f54 : Fld Z h43 q "com/example/ring_to_run/ringtorun/TickQueue" "cursor" "J" (.long cur) := u33.other W44 (Or.inl u8)
  have f55 : Fld Z h43 ta "com/example/ring_to_run/ringtorun/Task" "previous" "Lcom/example/ring_to_run/ringtorun/Task;" (.ref tb) := u34.same W44
  have f56 : Fld Z h43 ta "com/example/ring_to_run/ringtorun/Task" "next" "Lcom/example/ring_to_run/ringtorun/Task;" na := u35.other W44 (Or.inr (slot_ne (Or.inl (own_w H (i := 105) rfl)) (Or.inl (own_w H (i := 103) rfl)) (by decide) (t := (.object "com/example/ring_to_run/ringtorun/Task")) (t' := (.object "com/example/ring_to_run/ringtorun/Task")) (by decide) (by decide)))
  have f57 : Fld Z h43 ta "com/example/ring_to_run/ringtorun/Task" "dueInstant" "J" (.long da) := u36.other W44 (Or.inr (slot_ne (Or.inr (own_w H (i := 63) rfl)) (Or.inl (own_w H (i := 103) rfl)) (by decide) (t := .long) (t' := (.object "com/example/ring_to_run/ringtorun/Task")) (by decide) (by decide)))
  have f58 : Fld Z h43 tb "com/example/ring_to_run/ringtorun/Task" "previous" "Lcom/example/ring_to_run/ringtorun/Task;" pb := u37.other W44 (Or.inl u13.symm)
  have f59 : Fld Z h43 tb "com/example/ring_to_run/ringtorun/Task" "next" "Lcom/example/ring_to_run/ringtorun/Task;" nb := u38.other W44 (Or.inl u13.symm)
  have f60 : Fld Z h43 tb "com/example/ring_to_run/ringtorun/Task" "dueInstant" "J" (.long db) := u39.other W44 (Or.inl u13.symm)
  have f61 : own_Af Z h43 aH kH (.object "com/example/ring_to_run/ringtorun/Task") (Int32.ofNat (64 * M)) .null hf := u40.other W44 u14.symm
  have f62 : own_Af Z h43 aT kT (.object "com/example/ring_to_run/ringtorun/Task") (Int32.ofNat (64 * M)) .null tf := u41.other W44 u15.symm
  have f63 : own_Af Z h43 aO kO .long (Int32.ofNat M) (.long 0) of := u42.other W44 u16.symm
  refine own_aload_n H rfl rfl d15_12 ?_
  refine own_aconst_null H d15_13 ?_
  refine own_putfield H (w := 104) (wi := 44) rfl f56 f47 u3 (Or.inl (own_w H (i := 105) rfl)) rfl (ty := (.object "com/example/ring_to_run/ringtorun/Task")) (by decide) rfl rfl d15_14 ?_
  intro h64 W65
  have f66 : n0 ≤ h64.size := by rw [W65.size]; exact f45
  have f67 : Exa Z h64 q "com/example/ring_to_run/ringtorun/TickQueue" := f46.wr W65
  have f68 : Exa Z h64 ta "com/example/ring_to_run/ringtorun/Task" := f47.wr W65
  have f69 : Exa Z h64 tb "com/example/ring_to_run/ringtorun/Task" := f48.wr W65
  have f70 : Fld Z h64 q "com/example/ring_to_run/ringtorun/TickQueue" "levels" "I" (.int (Int32.ofNat M)) := f49.other W65 (Or.inl u8)
  have f71 : Fld Z h64 q "com/example/ring_to_run/ringtorun/TickQueue" "heads" "[Lcom/example/ring_to_run/ringtorun/Task;" (.ref aH) := f50.other W65 (Or.inl u8)
  have f72 : Fld Z h64 q "com/example/ring_to_run/ringtorun/TickQueue" "tails" "[Lcom/example/ring_to_run/ringtorun/Task;" (.ref aT) := f51.other W65 (Or.inl u8)
  have f73 : Fld Z h64 q "com/example/ring_to_run/ringtorun/TickQueue" "occupied" "[J" (.ref aO) := f52.other W65 (Or.inl u8)
  have f74 : Fld Z h64 q "com/example/ring_to_run/ringtorun/TickQueue" "start" "J" (.long st) := f53.other W65 (Or.inl u8)
  have f75 : Fld Z h64 q "com/example/ring_to_run/ringtorun/TickQueue" "cursor" "J" (.long cur) := f54.other W65 (Or.inl u8)
  have f76 : Fld Z h64 ta "com/example/ring_to_run/ringtorun/Task" "previous" "Lcom/example/ring_to_run/ringtorun/Task;" (.ref tb) := f55.other W65 (Or.inr (slot_ne (Or.inl (own_w H (i := 103) rfl)) (Or.inl (own_w H (i := 105) rfl)) (by decide) (t := (.object "com/example/ring_to_run/ringtorun/Task")) (t' := (.object "com/example/ring_to_run/ringtorun/Task")) (by decide) (by decide)))
  have f77 : Fld Z h64 ta "com/example/ring_to_run/ringtorun/Task" "next" "Lcom/example/ring_to_run/ringtorun/Task;" .null := f56.same W65
  have f78 : Fld Z h64 ta "com/example/ring_to_run/ringtorun/Task" "dueInstant" "J" (.long da) := f57.other W65 (Or.inr (slot_ne (Or.inr (own_w H (i := 63) rfl)) (Or.inl (own_w H (i := 105) rfl)) (by decide) (t := .long) (t' := (.object "com/example/ring_to_run/ringtorun/Task")) (by decide) (by decide)))
  have f79 : Fld Z h64 tb "com/example/ring_to_run/ringtorun/Task" "previous" "Lcom/example/ring_to_run/ringtorun/Task;" pb := f58.other W65 (Or.inl u13.symm)
  have f80 : Fld Z h64 tb "com/example/ring_to_run/ringtorun/Task" "next" "Lcom/example/ring_to_run/ringtorun/Task;" nb := f59.other W65 (Or.inl u13.symm)
  have f81 : Fld Z h64 tb "com/example/ring_to_run/ringtorun/Task" "dueInstant" "J" (.long db) := f60.other W65 (Or.inl u13.symm)
  have f82 : own_Af Z h64 aH kH (.object "com/example/ring_to_run/ringtorun/Task") (Int32.ofNat (64 * M)) .null hf := f61.other W65 u14.symm
  have f83 : own_Af Z h64 aT kT (.object "com/example/ring_to_run/ringtorun/Task") (Int32.ofNat (64 * M)) .null tf := f62.other W65 u15.symm
  have f84 : own_Af Z h64 aO kO .long (Int32.ofNat M) (.long 0) of := f63.other W65 u16.symm
  refine own_aload_n H rfl rfl d15_17 ?_
  refine own_ifnonnull_t H (pc' := 47) d15_18 (by decide) (by decide) rfl (fun h => nomatch h) ?_
  refine own_aload_n H rfl rfl d15_47 ?_
  refine own_aload_n H rfl rfl d15_48 ?_
  refine own_putfield H (w := 104) (wi := 44) rfl f80 f69 u4 (Or.inl (own_w H (i := 105) rfl)) rfl (ty := (.object "com/example/ring_to_run/ringtorun/Task")) (by decide) rfl rfl d15_49 ?_
  intro h85 W86
  have f87 : n0 ≤ h85.size := by rw [W86.size]; exact f66
  have f88 : Exa Z h85 q "com/example/ring_to_run/ringtorun/TickQueue" := f67.wr W86
  have f89 : Exa Z h85 ta "com/example/ring_to_run/ringtorun/Task" := f68.wr W86
  have f90 : Exa Z h85 tb "com/example/ring_to_run/ringtorun/Task" := f69.wr W86
  have f91 : Fld Z h85 q "com/example/ring_to_run/ringtorun/TickQueue" "levels" "I" (.int (Int32.ofNat M)) := f70.other W86 (Or.inl u9)
  have f92 : Fld Z h85 q "com/example/ring_to_run/ringtorun/TickQueue" "heads" "[Lcom/example/ring_to_run/ringtorun/Task;" (.ref aH) := f71.other W86 (Or.inl u9)
  have f93 : Fld Z h85 q "com/example/ring_to_run/ringtorun/TickQueue" "tails" "[Lcom/example/ring_to_run/ringtorun/Task;" (.ref aT) := f72.other W86 (Or.inl u9)
  have f94 : Fld Z h85 q "com/example/ring_to_run/ringtorun/TickQueue" "occupied" "[J" (.ref aO) := f73.other W86 (Or.inl u9)
  have f95 : Fld Z h85 q "com/example/ring_to_run/ringtorun/TickQueue" "start" "J" (.long st) := f74.other W86 (Or.inl u9)
  have f96 : Fld Z h85 q "com/example/ring_to_run/ringtorun/TickQueue" "cursor" "J" (.long cur) := f75.other W86 (Or.inl u9)
  have f97 : Fld Z h85 ta "com/example/ring_to_run/ringtorun/Task" "previous" "Lcom/example/ring_to_run/ringtorun/Task;" (.ref tb) := f76.other W86 (Or.inl u13)
  have f98 : Fld Z h85 ta "com/example/ring_to_run/ringtorun/Task" "next" "Lcom/example/ring_to_run/ringtorun/Task;" .null := f77.other W86 (Or.inl u13)
  have f99 : Fld Z h85 ta "com/example/ring_to_run/ringtorun/Task" "dueInstant" "J" (.long da) := f78.other W86 (Or.inl u13)
  have f100 : Fld Z h85 tb "com/example/ring_to_run/ringtorun/Task" "previous" "Lcom/example/ring_to_run/ringtorun/Task;" pb := f79.other W86 (Or.inr (slot_ne (Or.inl (own_w H (i := 103) rfl)) (Or.inl (own_w H (i := 105) rfl)) (by decide) (t := (.object "com/example/ring_to_run/ringtorun/Task")) (t' := (.object "com/example/ring_to_run/ringtorun/Task")) (by decide) (by decide)))
  have f101 : Fld Z h85 tb "com/example/ring_to_run/ringtorun/Task" "next" "Lcom/example/ring_to_run/ringtorun/Task;" (.ref ta) := f80.same W86
  have f102 : Fld Z h85 tb "com/example/ring_to_run/ringtorun/Task" "dueInstant" "J" (.long db) := f81.other W86 (Or.inr (slot_ne (Or.inr (own_w H (i := 63) rfl)) (Or.inl (own_w H (i := 105) rfl)) (by decide) (t := .long) (t' := (.object "com/example/ring_to_run/ringtorun/Task")) (by decide) (by decide)))
  have f103 : own_Af Z h85 aH kH (.object "com/example/ring_to_run/ringtorun/Task") (Int32.ofNat (64 * M)) .null hf := f82.other W86 u17.symm
  have f104 : own_Af Z h85 aT kT (.object "com/example/ring_to_run/ringtorun/Task") (Int32.ofNat (64 * M)) .null tf := f83.other W86 u18.symm
  have f105 : own_Af Z h85 aO kO .long (Int32.ofNat M) (.long 0) of := f84.other W86 u19.symm
  refine own_aload_n H rfl rfl d15_52 ?_
  refine own_getfield H (w := 36) rfl f93 d15_53 ?_
  refine own_iload_n H rfl d15_56 ?_
  refine own_aload_n H rfl rfl d15_57 ?_
  refine own_aastoreF H f104 u27 (Or.inr ⟨_, rfl, Ins.self f89⟩) (own_i1 (by omega)) (own_i2 hK (by omega)) (g := tf') (fun i hi => by rw [own_cn (by omega)] at hi; rw [own_cn (by omega)]; exact gT i hi) u6 d15_58 ?_
  intro h106 W107 V108
  have f109 : n0 ≤ h106.size := by rw [W107.size]; exact f87
  have f110 : Exa Z h106 q "com/example/ring_to_run/ringtorun/TickQueue" := f88.wr W107
  have f111 : Exa Z h106 ta "com/example/ring_to_run/ringtorun/Task" := f89.wr W107
  have f112 : Exa Z h106 tb "com/example/ring_to_run/ringtorun/Task" := f90.wr W107
  have f113 : Fld Z h106 q "com/example/ring_to_run/ringtorun/TickQueue" "levels" "I" (.int (Int32.ofNat M)) := f91.other W107 (Or.inl u11)
  have f114 : Fld Z h106 q "com/example/ring_to_run/ringtorun/TickQueue" "heads" "[Lcom/example/ring_to_run/ringtorun/Task;" (.ref aH) := f92.other W107 (Or.inl u11)
  have f115 : Fld Z h106 q "com/example/ring_to_run/ringtorun/TickQueue" "tails" "[Lcom/example/ring_to_run/ringtorun/Task;" (.ref aT) := f93.other W107 (Or.inl u11)
  have f116 : Fld Z h106 q "com/example/ring_to_run/ringtorun/TickQueue" "occupied" "[J" (.ref aO) := f94.other W107 (Or.inl u11)
  have f117 : Fld Z h106 q "com/example/ring_to_run/ringtorun/TickQueue" "start" "J" (.long st) := f95.other W107 (Or.inl u11)
  have f118 : Fld Z h106 q "com/example/ring_to_run/ringtorun/TickQueue" "cursor" "J" (.long cur) := f96.other W107 (Or.inl u11)
  have f119 : Fld Z h106 ta "com/example/ring_to_run/ringtorun/Task" "previous" "Lcom/example/ring_to_run/ringtorun/Task;" (.ref tb) := f97.other W107 (Or.inl u15)
  have f120 : Fld Z h106 ta "com/example/ring_to_run/ringtorun/Task" "next" "Lcom/example/ring_to_run/ringtorun/Task;" .null := f98.other W107 (Or.inl u15)
  have f121 : Fld Z h106 ta "com/example/ring_to_run/ringtorun/Task" "dueInstant" "J" (.long da) := f99.other W107 (Or.inl u15)
  have f122 : Fld Z h106 tb "com/example/ring_to_run/ringtorun/Task" "previous" "Lcom/example/ring_to_run/ringtorun/Task;" pb := f100.other W107 (Or.inl u18)
  have f123 : Fld Z h106 tb "com/example/ring_to_run/ringtorun/Task" "next" "Lcom/example/ring_to_run/ringtorun/Task;" (.ref ta) := f101.other W107 (Or.inl u18)
  have f124 : Fld Z h106 tb "com/example/ring_to_run/ringtorun/Task" "dueInstant" "J" (.long db) := f102.other W107 (Or.inl u18)
  have f125 : own_Af Z h106 aH kH (.object "com/example/ring_to_run/ringtorun/Task") (Int32.ofNat (64 * M)) .null hf := f103.other W107 u20
  have f126 : own_Af Z h106 aO kO .long (Int32.ofNat M) (.long 0) of := f105.other W107 u22.symm
  have f127 : own_Af Z h106 aT kT (.object "com/example/ring_to_run/ringtorun/Task") (Int32.ofNat (64 * M)) .null tf' := V108
  show own_G _ _ _ _ _ _ _ _ 59 #[.val (.ref q), .val (.ref ta), .val (.int (Int32.ofNat K)), .val (.ref tb)] []
  exact own_return H d15_59 (by decide) (by decide) ⟨rfl, ⟨⟨f109, u2, u3, u4, u5, u6, u7⟩, ⟨u8, u9, u10, u11, u12, u13, u14, u15, u16, u17, u18, u19, u20, u21, u22⟩, ⟨f110, f111, f112, u26, u27⟩, ⟨f113, f114, f115, f116, f117, f118⟩, ⟨f119, f120, f121⟩, ⟨f122, f123, f124⟩, ⟨f125, f127, f126⟩⟩⟩
theorem d12_0 : decode prog_11_method_5_code 0 = .ok (.aload_n 0, 1) := by decide +kernel
theorem d12_1 : decode prog_11_method_5_code 1 = .ok (.aload_n 1, 1) := by decide +kernel
theorem d12_2 : decode prog_11_method_5_code 2 = .ok (.aload_n 0, 1) := by decide +kernel
theorem d12_3 : decode prog_11_method_5_code 3 = .ok (.aload_n 1, 1) := by decide +kernel
theorem d12_4 : decode prog_11_method_5_code 4 = .ok (.invokevirtual 57, 3) := by decide +kernel
theorem d12_7 : decode prog_11_method_5_code 7 = .ok (.aload_n 0, 1) := by decide +kernel
theorem d12_8 : decode prog_11_method_5_code 8 = .ok (.getfield 42, 3) := by decide +kernel
theorem d12_11 : decode prog_11_method_5_code 11 = .ok (.lsub, 1) := by decide +kernel
theorem d12_12 : decode prog_11_method_5_code 12 = .ok (.invokevirtual 61, 3) := by decide +kernel
theorem d12_15 : decode prog_11_method_5_code 15 = .ok (.invokevirtual 64, 3) := by decide +kernel
theorem d12_18 : decode prog_11_method_5_code 18 = .ok (.return_, 1) := by decide +kernel
theorem own_pl12 : plainFor (⟨"com/example/ring_to_run/ringtorun/TickQueue", "add", "(Lcom/example/ring_to_run/ringtorun/Task;)V"⟩ : MethodName) = true := plainFor_of_name (by first | (simp [plainName, overriddenIn]; done) | decide +kernel)
theorem own_pd9 : parseMethodDescriptor "(Lcom/example/ring_to_run/ringtorun/Task;)V" = some ⟨[(.object "com/example/ring_to_run/ringtorun/Task")], none⟩ := by decide +kernel
set_option maxHeartbeats 8000000 in
theorem rmAdE (l : Launch) (Z : State) (a0 : Array Value) (hw : ∀ (i : Nat) (d : Jvm.Cond), tables_1[i]? = some d → d.before a0 Z = true) (h0 : Heap) (n0 : Nat) (q : Addr) (ta : Addr) (tb : Addr) (aH : Addr) (aT : Addr) (aO : Addr) (kH : ClassId) (kT : ClassId) (kO : ClassId) (M : Nat) (st : Int64) (da : Int64) (db : Int64) (cur : Int64) (hf : Nat → Value) (tf : Nat → Value) (of : Nat → Value) (pa : Value) (na : Value) (pb : Value) (nb : Value) (hf' : Nat → Value) (tf' : Nat → Value) (of' : Nat → Value) (K : Nat) (w : Int64) (hQ : own_Qu Z n0 h0 q ta tb aH aT aO kH kT kO M st da db cur hf tf of pa na pb nb) (hM : M ≤ 11) (hK : K < 64 * M) (hT : tf K = .null) (hO : of (K / 64) = .long w) (gH : ∀ i, i < 64 * M → (if i = K then (.ref ta : Value) else hf i) = hf' i) (gT : ∀ i, i < 64 * M → (if i = K then (.ref ta : Value) else tf i) = tf' i) (gO : ∀ i, i < M → (if i = K / 64 then (.long (w ||| (FBit (Int32.ofNat K))) : Value) else of i) = of' i) (hB : FBk (da - st) cur = Int32.ofNat K) :
    own_C l Z (⟨"com/example/ring_to_run/ringtorun/TickQueue", "add", "(Lcom/example/ring_to_run/ringtorun/Task;)V"⟩ : MethodName) prog_11_method_5_code 2 none ({ frames := 3, cells := 0, slots := 0, locals := 80 } : Room) #[(.ref q), (.ref ta)] h0 n0 (fun v h' => v = none ∧ own_Qu Z n0 h' q ta tb aH aT aO kH kT kO M st da db cur hf' tf' of' .null .null pb nb) := by
  refine own_met (Ls := #[.val (.ref q), .val (.ref ta)]) hw own_pl12 (fun m => by first | (simp [entryFrame, mkF, argsToLocals, Value.category]; done) | rfl) ?_
  intro B H
  obtain ⟨⟨u1, u2, u3, u4, u5, u6, u7⟩, ⟨u8, u9, u10, u11, u12, u13, u14, u15, u16, u17, u18, u19, u20, u21, u22⟩, ⟨u23, u24, u25, u26, u27⟩, ⟨u28, u29, u30, u31, u32, u33⟩, ⟨u34, u35, u36⟩, ⟨u37, u38, u39⟩, ⟨u40, u41, u42⟩⟩ := hQ
  refine own_aload_n H rfl rfl d12_0 ?_
  refine own_aload_n H rfl rfl d12_1 ?_
  refine own_aload_n H rfl rfl d12_2 ?_
  refine own_aload_n H rfl rfl d12_3 ?_
  refine own_invokevirtual H (a := ta) (argsL := []) (rest := [(.ref q), (.ref ta), (.ref q)]) (rmDue l Z a0 (own_hw H) h0 n0 ta da u36) u24 (w1 := 86) (w0 := 87) (w5 := 89) (w2 := 88) (w3 := 45) (w4 := 90) rfl rfl rfl rfl rfl rfl own_pd7 rfl 3 (by decide) rfl (by decide) (Nat.le_of_eq rfl) (by decide) (by decide) (by decide) rfl d12_4 ?_
  rintro _ _ ⟨rfl, rfl⟩
  show own_G _ _ _ _ _ _ _ _ 7 #[.val (.ref q), .val (.ref ta)] [(.long (FDue da)), (.ref q), (.ref ta), (.ref q)]
  show own_G _ _ _ _ _ _ _ _ 7 #[.val (.ref q), .val (.ref ta)] [(.long da), (.ref q), (.ref ta), (.ref q)]
  refine own_aload_n H rfl rfl d12_7 ?_
  refine own_getfield H (w := 41) rfl u32 d12_8 ?_
  refine own_lsub H rfl d12_11 ?_
  refine own_invokepriv H (a := q) (argsL := [(.long (da - st))]) (rest := [(.ref ta), (.ref q)]) (rmBk l Z a0 (own_hw H) h0 n0 q (da - st) cur u33) u23 (w1 := 91) (w2 := 92) (w5 := 9) (w6 := 93) (w3 := 10) (w4 := 94) rfl rfl rfl rfl rfl rfl own_pd3 rfl 2 (by decide) rfl (by decide) (Nat.le_of_eq rfl) (by decide) (by decide) (by decide) rfl d12_12 ?_
  rintro _ _ ⟨rfl, rfl⟩
  show own_G _ _ _ _ _ _ _ _ 15 #[.val (.ref q), .val (.ref ta)] [(.int (FBk (da - st) cur)), (.ref ta), (.ref q)]
  rw [hB]
  show own_G _ _ _ _ _ _ _ _ 15 #[.val (.ref q), .val (.ref ta)] [(.int (Int32.ofNat K)), (.ref ta), (.ref q)]
  refine own_invokepriv H (a := q) (argsL := [(.ref ta), (.int (Int32.ofNat K))]) (rest := []) (rmApE l Z a0 (own_hw H) h0 n0 q ta tb aH aT aO kH kT kO M st da db cur hf tf of pa na pb nb hf' tf' of' K w ⟨⟨u1, u2, u3, u4, u5, u6, u7⟩, ⟨u8, u9, u10, u11, u12, u13, u14, u15, u16, u17, u18, u19, u20, u21, u22⟩, ⟨u23, u24, u25, u26, u27⟩, ⟨u28, u29, u30, u31, u32, u33⟩, ⟨u34, u35, u36⟩, ⟨u37, u38, u39⟩, ⟨u40, u41, u42⟩⟩ hM hK hT hO gH gT gO) u23 (w1 := 98) (w2 := 99) (w5 := 9) (w6 := 100) (w3 := 10) (w4 := 101) rfl rfl rfl rfl rfl rfl own_pd8 rfl 0 (by decide) rfl (by decide) (Nat.le_of_eq rfl) (by decide) (by decide) (by decide) rfl d12_15 ?_
  rintro _ h43 ⟨rfl, hQ⟩
  obtain ⟨⟨u44, u45, u46, u47, u48, u49, u50⟩, ⟨u51, u52, u53, u54, u55, u56, u57, u58, u59, u60, u61, u62, u63, u64, u65⟩, ⟨u66, u67, u68, u69, u70⟩, ⟨u71, u72, u73, u74, u75, u76⟩, ⟨u77, u78, u79⟩, ⟨u80, u81, u82⟩, ⟨u83, u84, u85⟩⟩ := hQ
  show own_G _ _ _ _ _ _ _ _ 18 #[.val (.ref q), .val (.ref ta)] []
  exact own_return H d12_18 (by decide) (by decide) ⟨rfl, ⟨⟨u44, u45, u46, u47, u48, u49, u50⟩, ⟨u51, u52, u53, u54, u55, u56, u57, u58, u59, u60, u61, u62, u63, u64, u65⟩, ⟨u66, u67, u68, u69, u70⟩, ⟨u71, u72, u73, u74, u75, u76⟩, ⟨u77, u78, u79⟩, ⟨u80, u81, u82⟩, ⟨u83, u84, u85⟩⟩⟩
set_option maxHeartbeats 8000000 in
theorem rmAdN (l : Launch) (Z : State) (a0 : Array Value) (hw : ∀ (i : Nat) (d : Jvm.Cond), tables_1[i]? = some d → d.before a0 Z = true) (h0 : Heap) (n0 : Nat) (q : Addr) (ta : Addr) (tb : Addr) (aH : Addr) (aT : Addr) (aO : Addr) (kH : ClassId) (kT : ClassId) (kO : ClassId) (M : Nat) (st : Int64) (da : Int64) (db : Int64) (cur : Int64) (hf : Nat → Value) (tf : Nat → Value) (of : Nat → Value) (pa : Value) (na : Value) (pb : Value) (nb : Value) (tf' : Nat → Value) (K : Nat) (hQ : own_Qu Z n0 h0 q ta tb aH aT aO kH kT kO M st da db cur hf tf of pa na pb nb) (hM : M ≤ 11) (hK : K < 64 * M) (hT : tf K = .ref tb) (gT : ∀ i, i < 64 * M → (if i = K then (.ref ta : Value) else tf i) = tf' i) (hB : FBk (da - st) cur = Int32.ofNat K) :
    own_C l Z (⟨"com/example/ring_to_run/ringtorun/TickQueue", "add", "(Lcom/example/ring_to_run/ringtorun/Task;)V"⟩ : MethodName) prog_11_method_5_code 2 none ({ frames := 3, cells := 0, slots := 0, locals := 80 } : Room) #[(.ref q), (.ref ta)] h0 n0 (fun v h' => v = none ∧ own_Qu Z n0 h' q ta tb aH aT aO kH kT kO M st da db cur hf tf' of (.ref tb) .null pb (.ref ta)) := by
  refine own_met (Ls := #[.val (.ref q), .val (.ref ta)]) hw own_pl12 (fun m => by first | (simp [entryFrame, mkF, argsToLocals, Value.category]; done) | rfl) ?_
  intro B H
  obtain ⟨⟨u1, u2, u3, u4, u5, u6, u7⟩, ⟨u8, u9, u10, u11, u12, u13, u14, u15, u16, u17, u18, u19, u20, u21, u22⟩, ⟨u23, u24, u25, u26, u27⟩, ⟨u28, u29, u30, u31, u32, u33⟩, ⟨u34, u35, u36⟩, ⟨u37, u38, u39⟩, ⟨u40, u41, u42⟩⟩ := hQ
  refine own_aload_n H rfl rfl d12_0 ?_
  refine own_aload_n H rfl rfl d12_1 ?_
  refine own_aload_n H rfl rfl d12_2 ?_
  refine own_aload_n H rfl rfl d12_3 ?_
  refine own_invokevirtual H (a := ta) (argsL := []) (rest := [(.ref q), (.ref ta), (.ref q)]) (rmDue l Z a0 (own_hw H) h0 n0 ta da u36) u24 (w1 := 86) (w0 := 87) (w5 := 89) (w2 := 88) (w3 := 45) (w4 := 90) rfl rfl rfl rfl rfl rfl own_pd7 rfl 3 (by decide) rfl (by decide) (Nat.le_of_eq rfl) (by decide) (by decide) (by decide) rfl d12_4 ?_
  rintro _ _ ⟨rfl, rfl⟩
  show own_G _ _ _ _ _ _ _ _ 7 #[.val (.ref q), .val (.ref ta)] [(.long (FDue da)), (.ref q), (.ref ta), (.ref q)]
  show own_G _ _ _ _ _ _ _ _ 7 #[.val (.ref q), .val (.ref ta)] [(.long da), (.ref q), (.ref ta), (.ref q)]
  refine own_aload_n H rfl rfl d12_7 ?_
  refine own_getfield H (w := 41) rfl u32 d12_8 ?_
  refine own_lsub H rfl d12_11 ?_
  refine own_invokepriv H (a := q) (argsL := [(.long (da - st))]) (rest := [(.ref ta), (.ref q)]) (rmBk l Z a0 (own_hw H) h0 n0 q (da - st) cur u33) u23 (w1 := 91) (w2 := 92) (w5 := 9) (w6 := 93) (w3 := 10) (w4 := 94) rfl rfl rfl rfl rfl rfl own_pd3 rfl 2 (by decide) rfl (by decide) (Nat.le_of_eq rfl) (by decide) (by decide) (by decide) rfl d12_12 ?_
  rintro _ _ ⟨rfl, rfl⟩
  show own_G _ _ _ _ _ _ _ _ 15 #[.val (.ref q), .val (.ref ta)] [(.int (FBk (da - st) cur)), (.ref ta), (.ref q)]
  rw [hB]
  show own_G _ _ _ _ _ _ _ _ 15 #[.val (.ref q), .val (.ref ta)] [(.int (Int32.ofNat K)), (.ref ta), (.ref q)]
  refine own_invokepriv H (a := q) (argsL := [(.ref ta), (.int (Int32.ofNat K))]) (rest := []) (rmApN l Z a0 (own_hw H) h0 n0 q ta tb aH aT aO kH kT kO M st da db cur hf tf of pa na pb nb tf' K ⟨⟨u1, u2, u3, u4, u5, u6, u7⟩, ⟨u8, u9, u10, u11, u12, u13, u14, u15, u16, u17, u18, u19, u20, u21, u22⟩, ⟨u23, u24, u25, u26, u27⟩, ⟨u28, u29, u30, u31, u32, u33⟩, ⟨u34, u35, u36⟩, ⟨u37, u38, u39⟩, ⟨u40, u41, u42⟩⟩ hM hK hT gT) u23 (w1 := 98) (w2 := 99) (w5 := 9) (w6 := 100) (w3 := 10) (w4 := 101) rfl rfl rfl rfl rfl rfl own_pd8 rfl 0 (by decide) rfl (by decide) (Nat.le_of_eq rfl) (by decide) (by decide) (by decide) rfl d12_15 ?_
  rintro _ h43 ⟨rfl, hQ⟩
  obtain ⟨⟨u44, u45, u46, u47, u48, u49, u50⟩, ⟨u51, u52, u53, u54, u55, u56, u57, u58, u59, u60, u61, u62, u63, u64, u65⟩, ⟨u66, u67, u68, u69, u70⟩, ⟨u71, u72, u73, u74, u75, u76⟩, ⟨u77, u78, u79⟩, ⟨u80, u81, u82⟩, ⟨u83, u84, u85⟩⟩ := hQ
  show own_G _ _ _ _ _ _ _ _ 18 #[.val (.ref q), .val (.ref ta)] []
  exact own_return H d12_18 (by decide) (by decide) ⟨rfl, ⟨⟨u44, u45, u46, u47, u48, u49, u50⟩, ⟨u51, u52, u53, u54, u55, u56, u57, u58, u59, u60, u61, u62, u63, u64, u65⟩, ⟨u66, u67, u68, u69, u70⟩, ⟨u71, u72, u73, u74, u75, u76⟩, ⟨u77, u78, u79⟩, ⟨u80, u81, u82⟩, ⟨u83, u84, u85⟩⟩⟩
theorem d23_0 : decode prog_11_method_15_code 0 = .ok (.aload_n 1, 1) := by decide +kernel
theorem d23_1 : decode prog_11_method_15_code 1 = .ok (.getfield 100, 3) := by decide +kernel
theorem d23_4 : decode prog_11_method_15_code 4 = .ok (.ifnonnull 16, 3) := by decide +kernel
theorem d23_7 : decode prog_11_method_15_code 7 = .ok (.aload_n 0, 1) := by decide +kernel
theorem d23_8 : decode prog_11_method_15_code 8 = .ok (.getfield 31, 3) := by decide +kernel
theorem d23_11 : decode prog_11_method_15_code 11 = .ok (.iload_n 2, 1) := by decide +kernel
theorem d23_12 : decode prog_11_method_15_code 12 = .ok (.aload_n 1, 1) := by decide +kernel
theorem d23_13 : decode prog_11_method_15_code 13 = .ok (.getfield 96, 3) := by decide +kernel
theorem d23_16 : decode prog_11_method_15_code 16 = .ok (.aastore, 1) := by decide +kernel
theorem d23_17 : decode prog_11_method_15_code 17 = .ok (.goto 14, 3) := by decide +kernel
theorem d23_20 : decode prog_11_method_15_code 20 = .ok (.aload_n 1, 1) := by decide +kernel
theorem d23_21 : decode prog_11_method_15_code 21 = .ok (.getfield 100, 3) := by decide +kernel
theorem d23_24 : decode prog_11_method_15_code 24 = .ok (.aload_n 1, 1) := by decide +kernel
theorem d23_25 : decode prog_11_method_15_code 25 = .ok (.getfield 96, 3) := by decide +kernel
theorem d23_28 : decode prog_11_method_15_code 28 = .ok (.putfield 96, 3) := by decide +kernel
theorem d23_31 : decode prog_11_method_15_code 31 = .ok (.aload_n 1, 1) := by decide +kernel
theorem d23_32 : decode prog_11_method_15_code 32 = .ok (.getfield 96, 3) := by decide +kernel
theorem d23_35 : decode prog_11_method_15_code 35 = .ok (.ifnonnull 16, 3) := by decide +kernel
theorem d23_38 : decode prog_11_method_15_code 38 = .ok (.aload_n 0, 1) := by decide +kernel
theorem d23_39 : decode prog_11_method_15_code 39 = .ok (.getfield 35, 3) := by decide +kernel
theorem d23_42 : decode prog_11_method_15_code 42 = .ok (.iload_n 2, 1) := by decide +kernel
theorem d23_43 : decode prog_11_method_15_code 43 = .ok (.aload_n 1, 1) := by decide +kernel
theorem d23_44 : decode prog_11_method_15_code 44 = .ok (.getfield 100, 3) := by decide +kernel
theorem d23_47 : decode prog_11_method_15_code 47 = .ok (.aastore, 1) := by decide +kernel
theorem d23_48 : decode prog_11_method_15_code 48 = .ok (.goto 14, 3) := by decide +kernel
theorem d23_51 : decode prog_11_method_15_code 51 = .ok (.aload_n 1, 1) := by decide +kernel
theorem d23_52 : decode prog_11_method_15_code 52 = .ok (.getfield 96, 3) := by decide +kernel
theorem d23_55 : decode prog_11_method_15_code 55 = .ok (.aload_n 1, 1) := by decide +kernel
theorem d23_56 : decode prog_11_method_15_code 56 = .ok (.getfield 100, 3) := by decide +kernel
theorem d23_59 : decode prog_11_method_15_code 59 = .ok (.putfield 100, 3) := by decide +kernel
theorem d23_62 : decode prog_11_method_15_code 62 = .ok (.aload_n 1, 1) := by decide +kernel
theorem d23_63 : decode prog_11_method_15_code 63 = .ok (.aconst_null, 1) := by decide +kernel
theorem d23_64 : decode prog_11_method_15_code 64 = .ok (.putfield 100, 3) := by decide +kernel
theorem d23_67 : decode prog_11_method_15_code 67 = .ok (.aload_n 1, 1) := by decide +kernel
theorem d23_68 : decode prog_11_method_15_code 68 = .ok (.aconst_null, 1) := by decide +kernel
theorem d23_69 : decode prog_11_method_15_code 69 = .ok (.putfield 96, 3) := by decide +kernel
theorem d23_72 : decode prog_11_method_15_code 72 = .ok (.aload_n 0, 1) := by decide +kernel
theorem d23_73 : decode prog_11_method_15_code 73 = .ok (.getfield 31, 3) := by decide +kernel
theorem d23_76 : decode prog_11_method_15_code 76 = .ok (.iload_n 2, 1) := by decide +kernel
theorem d23_77 : decode prog_11_method_15_code 77 = .ok (.aaload, 1) := by decide +kernel
theorem d23_78 : decode prog_11_method_15_code 78 = .ok (.ifnonnull 23, 3) := by decide +kernel
theorem d23_81 : decode prog_11_method_15_code 81 = .ok (.aload_n 0, 1) := by decide +kernel
theorem d23_82 : decode prog_11_method_15_code 82 = .ok (.getfield 38, 3) := by decide +kernel
theorem d23_85 : decode prog_11_method_15_code 85 = .ok (.iload_n 2, 1) := by decide +kernel
theorem d23_86 : decode prog_11_method_15_code 86 = .ok (.bipush 64, 2) := by decide +kernel
theorem d23_88 : decode prog_11_method_15_code 88 = .ok (.idiv, 1) := by decide +kernel
theorem d23_89 : decode prog_11_method_15_code 89 = .ok (.dup2, 1) := by decide +kernel
theorem d23_90 : decode prog_11_method_15_code 90 = .ok (.laload, 1) := by decide +kernel
theorem d23_91 : decode prog_11_method_15_code 91 = .ok (.iload_n 2, 1) := by decide +kernel
theorem d23_92 : decode prog_11_method_15_code 92 = .ok (.invokestatic 90, 3) := by decide +kernel
theorem d23_95 : decode prog_11_method_15_code 95 = .ok (.ldc2_w 94, 3) := by decide +kernel
theorem d23_98 : decode prog_11_method_15_code 98 = .ok (.lxor, 1) := by decide +kernel
theorem d23_99 : decode prog_11_method_15_code 99 = .ok (.land, 1) := by decide +kernel
theorem d23_100 : decode prog_11_method_15_code 100 = .ok (.lastore, 1) := by decide +kernel
theorem d23_101 : decode prog_11_method_15_code 101 = .ok (.return_, 1) := by decide +kernel
theorem own_pl23 : plainFor (⟨"com/example/ring_to_run/ringtorun/TickQueue", "detach", "(Lcom/example/ring_to_run/ringtorun/Task;I)V"⟩ : MethodName) = true := plainFor_of_name (by first | (simp [plainName, overriddenIn]; done) | decide +kernel)
set_option maxHeartbeats 8000000 in
theorem rmDet (l : Launch) (Z : State) (a0 : Array Value) (hw : ∀ (i : Nat) (d : Jvm.Cond), tables_1[i]? = some d → d.before a0 Z = true) (h0 : Heap) (n0 : Nat) (q : Addr) (ta : Addr) (tb : Addr) (aH : Addr) (aT : Addr) (aO : Addr) (kH : ClassId) (kT : ClassId) (kO : ClassId) (M : Nat) (st : Int64) (da : Int64) (db : Int64) (cur : Int64) (pb : Value) (nb : Value) (K : Nat) (hQ : own_Qu Z n0 h0 q ta tb aH aT aO kH kT kO M st da db cur (own_h1 ta K) (own_h1 ta K) (own_o1 K) .null .null pb nb) (hM : M ≤ 11) (hK : K < 64 * M) :
    own_C l Z (⟨"com/example/ring_to_run/ringtorun/TickQueue", "detach", "(Lcom/example/ring_to_run/ringtorun/Task;I)V"⟩ : MethodName) prog_11_method_15_code 3 none ({ frames := 1, cells := 0, slots := 0, locals := 20 } : Room) #[(.ref q), (.ref ta), (.int (Int32.ofNat K))] h0 n0 (fun v h' => v = none ∧ own_Qu Z n0 h' q ta tb aH aT aO kH kT kO M st da db cur own_h0 own_h0 own_o0 .null .null pb nb) := by
  refine own_met (Ls := #[.val (.ref q), .val (.ref ta), .val (.int (Int32.ofNat K))]) hw own_pl23 (fun m => by first | (simp [entryFrame, mkF, argsToLocals, Value.category]; done) | rfl) ?_
  intro B H
  obtain ⟨⟨u1, u2, u3, u4, u5, u6, u7⟩, ⟨u8, u9, u10, u11, u12, u13, u14, u15, u16, u17, u18, u19, u20, u21, u22⟩, ⟨u23, u24, u25, u26, u27⟩, ⟨u28, u29, u30, u31, u32, u33⟩, ⟨u34, u35, u36⟩, ⟨u37, u38, u39⟩, ⟨u40, u41, u42⟩⟩ := hQ
  refine own_aload_n H rfl rfl d23_0 ?_
  refine own_getfield H (w := 102) rfl u34 d23_1 ?_
  refine own_ifnonnull_f H d23_4 rfl rfl ?_
  refine own_aload_n H rfl rfl d23_7 ?_
  refine own_getfield H (w := 34) rfl u29 d23_8 ?_
  refine own_iload_n H rfl d23_11 ?_
  refine own_aload_n H rfl rfl d23_12 ?_
  refine own_getfield H (w := 104) rfl u35 d23_13 ?_
  refine own_aastoreF H u40 u26 (Or.inl rfl) (own_i1 (by omega)) (own_i2 hK (by omega)) (g := own_h0) (fun i hi => by rw [own_cn (by omega)] at hi; rw [own_cn (by omega)]; exact (fun i _ => own_g1 ta K i) i hi) u5 d23_16 ?_
  intro h43 W44 V45
  have f46 : n0 ≤ h43.size := by rw [W44.size]; exact u1
  have f47 : Exa Z h43 q "com/example/ring_to_run/ringtorun/TickQueue" := u23.wr W44
  have f48 : Exa Z h43 ta "com/example/ring_to_run/ringtorun/Task" := u24.wr W44
  have f49 : Exa Z h43 tb "com/example/ring_to_run/ringtorun/Task" := u25.wr W44
  have f50 : Fld Z h43 q "com/example/ring_to_run/ringtorun/TickQueue" "levels" "I" (.int (Int32.ofNat M)) := u28.other W44 (Or.inl u10)
  have f51 : Fld Z h43 q "com/example/ring_to_run/ringtorun/TickQueue" "heads" "[Lcom/example/ring_to_run/ringtorun/Task;" (.ref aH) := u29.other W44 (Or.inl u10)
  have f52 : Fld Z h43 q "com/example/ring_to_run/ringtorun/TickQueue" "tails" "[Lcom/example/ring_to_run/ringtorun/Task;" (.ref aT) := u30.other W44 (Or.inl u10)
  have f53 : Fld Z h43 q "com/example/ring_to_run/ringtorun/TickQueue" "occupied" "[J" (.ref aO) := u31.other W44 (Or.inl u10)
  have f54 : Fld Z h43 q "com/example/ring_to_run/ringtorun/TickQueue" "start" "J" (.long st) := u32.other W44 (Or.inl u10)
  have f55 : Fld Z h43 q "com/example/ring_to_run/ringtorun/TickQueue" "cursor" "J" (.long cur) := u33.other W44 (Or.inl u10)
  have f56 : Fld Z h43 ta "com/example/ring_to_run/ringtorun/Task" "previous" "Lcom/example/ring_to_run/ringtorun/Task;" .null := u34.other W44 (Or.inl u14)
  have f57 : Fld Z h43 ta "com/example/ring_to_run/ringtorun/Task" "next" "Lcom/example/ring_to_run/ringtorun/Task;" .null := u35.other W44 (Or.inl u14)
  have f58 : Fld Z h43 ta "com/example/ring_to_run/ringtorun/Task" "dueInstant" "J" (.long da) := u36.other W44 (Or.inl u14)
  have f59 : Fld Z h43 tb "com/example/ring_to_run/ringtorun/Task" "previous" "Lcom/example/ring_to_run/ringtorun/Task;" pb := u37.other W44 (Or.inl u17)
  have f60 : Fld Z h43 tb "com/example/ring_to_run/ringtorun/Task" "next" "Lcom/example/ring_to_run/ringtorun/Task;" nb := u38.other W44 (Or.inl u17)
  have f61 : Fld Z h43 tb "com/example/ring_to_run/ringtorun/Task" "dueInstant" "J" (.long db) := u39.other W44 (Or.inl u17)
  have f62 : own_Af Z h43 aT kT (.object "com/example/ring_to_run/ringtorun/Task") (Int32.ofNat (64 * M)) .null (own_h1 ta K) := u41.other W44 u20.symm
  have f63 : own_Af Z h43 aO kO .long (Int32.ofNat M) (.long 0) (own_o1 K) := u42.other W44 u21.symm
  have f64 : own_Af Z h43 aH kH (.object "com/example/ring_to_run/ringtorun/Task") (Int32.ofNat (64 * M)) .null own_h0 := V45
  show own_G _ _ _ _ _ _ _ _ 17 #[.val (.ref q), .val (.ref ta), .val (.int (Int32.ofNat K))] []
  refine own_goto H (pc' := 31) d23_17 (by decide) (by decide) ?_
  refine own_aload_n H rfl rfl d23_31 ?_
  refine own_getfield H (w := 104) rfl f57 d23_32 ?_
  refine own_ifnonnull_f H d23_35 rfl rfl ?_
  refine own_aload_n H rfl rfl d23_38 ?_
  refine own_getfield H (w := 36) rfl f52 d23_39 ?_
  refine own_iload_n H rfl d23_42 ?_
  refine own_aload_n H rfl rfl d23_43 ?_
  refine own_getfield H (w := 102) rfl f56 d23_44 ?_
  refine own_aastoreF H f62 u27 (Or.inl rfl) (own_i1 (by omega)) (own_i2 hK (by omega)) (g := own_h0) (fun i hi => by rw [own_cn (by omega)] at hi; rw [own_cn (by omega)]; exact (fun i _ => own_g1 ta K i) i hi) u6 d23_47 ?_
  intro h65 W66 V67
  have f68 : n0 ≤ h65.size := by rw [W66.size]; exact f46
  have f69 : Exa Z h65 q "com/example/ring_to_run/ringtorun/TickQueue" := f47.wr W66
  have f70 : Exa Z h65 ta "com/example/ring_to_run/ringtorun/Task" := f48.wr W66
  have f71 : Exa Z h65 tb "com/example/ring_to_run/ringtorun/Task" := f49.wr W66
  have f72 : Fld Z h65 q "com/example/ring_to_run/ringtorun/TickQueue" "levels" "I" (.int (Int32.ofNat M)) := f50.other W66 (Or.inl u11)
  have f73 : Fld Z h65 q "com/example/ring_to_run/ringtorun/TickQueue" "heads" "[Lcom/example/ring_to_run/ringtorun/Task;" (.ref aH) := f51.other W66 (Or.inl u11)
  have f74 : Fld Z h65 q "com/example/ring_to_run/ringtorun/TickQueue" "tails" "[Lcom/example/ring_to_run/ringtorun/Task;" (.ref aT) := f52.other W66 (Or.inl u11)
  have f75 : Fld Z h65 q "com/example/ring_to_run/ringtorun/TickQueue" "occupied" "[J" (.ref aO) := f53.other W66 (Or.inl u11)
  have f76 : Fld Z h65 q "com/example/ring_to_run/ringtorun/TickQueue" "start" "J" (.long st) := f54.other W66 (Or.inl u11)
  have f77 : Fld Z h65 q "com/example/ring_to_run/ringtorun/TickQueue" "cursor" "J" (.long cur) := f55.other W66 (Or.inl u11)
  have f78 : Fld Z h65 ta "com/example/ring_to_run/ringtorun/Task" "previous" "Lcom/example/ring_to_run/ringtorun/Task;" .null := f56.other W66 (Or.inl u15)
  have f79 : Fld Z h65 ta "com/example/ring_to_run/ringtorun/Task" "next" "Lcom/example/ring_to_run/ringtorun/Task;" .null := f57.other W66 (Or.inl u15)
  have f80 : Fld Z h65 ta "com/example/ring_to_run/ringtorun/Task" "dueInstant" "J" (.long da) := f58.other W66 (Or.inl u15)
  have f81 : Fld Z h65 tb "com/example/ring_to_run/ringtorun/Task" "previous" "Lcom/example/ring_to_run/ringtorun/Task;" pb := f59.other W66 (Or.inl u18)
  have f82 : Fld Z h65 tb "com/example/ring_to_run/ringtorun/Task" "next" "Lcom/example/ring_to_run/ringtorun/Task;" nb := f60.other W66 (Or.inl u18)
  have f83 : Fld Z h65 tb "com/example/ring_to_run/ringtorun/Task" "dueInstant" "J" (.long db) := f61.other W66 (Or.inl u18)
  have f84 : own_Af Z h65 aH kH (.object "com/example/ring_to_run/ringtorun/Task") (Int32.ofNat (64 * M)) .null own_h0 := f64.other W66 u20
  have f85 : own_Af Z h65 aO kO .long (Int32.ofNat M) (.long 0) (own_o1 K) := f63.other W66 u22.symm
  have f86 : own_Af Z h65 aT kT (.object "com/example/ring_to_run/ringtorun/Task") (Int32.ofNat (64 * M)) .null own_h0 := V67
  show own_G _ _ _ _ _ _ _ _ 48 #[.val (.ref q), .val (.ref ta), .val (.int (Int32.ofNat K))] []
  refine own_goto H (pc' := 62) d23_48 (by decide) (by decide) ?_
  refine own_aload_n H rfl rfl d23_62 ?_
  refine own_aconst_null H d23_63 ?_
  refine own_putfield H (w := 102) (wi := 44) rfl f78 f70 u3 (Or.inl (own_w H (i := 103) rfl)) rfl (ty := (.object "com/example/ring_to_run/ringtorun/Task")) (by decide) rfl rfl d23_64 ?_
  intro h87 W88
  have f89 : n0 ≤ h87.size := by rw [W88.size]; exact f68
  have f90 : Exa Z h87 q "com/example/ring_to_run/ringtorun/TickQueue" := f69.wr W88
  have f91 : Exa Z h87 ta "com/example/ring_to_run/ringtorun/Task" := f70.wr W88
  have f92 : Exa Z h87 tb "com/example/ring_to_run/ringtorun/Task" := f71.wr W88
  have f93 : Fld Z h87 q "com/example/ring_to_run/ringtorun/TickQueue" "levels" "I" (.int (Int32.ofNat M)) := f72.other W88 (Or.inl u8)
  have f94 : Fld Z h87 q "com/example/ring_to_run/ringtorun/TickQueue" "heads" "[Lcom/example/ring_to_run/ringtorun/Task;" (.ref aH) := f73.other W88 (Or.inl u8)
  have f95 : Fld Z h87 q "com/example/ring_to_run/ringtorun/TickQueue" "tails" "[Lcom/example/ring_to_run/ringtorun/Task;" (.ref aT) := f74.other W88 (Or.inl u8)
  have f96 : Fld Z h87 q "com/example/ring_to_run/ringtorun/TickQueue" "occupied" "[J" (.ref aO) := f75.other W88 (Or.inl u8)
  have f97 : Fld Z h87 q "com/example/ring_to_run/ringtorun/TickQueue" "start" "J" (.long st) := f76.other W88 (Or.inl u8)
  have f98 : Fld Z h87 q "com/example/ring_to_run/ringtorun/TickQueue" "cursor" "J" (.long cur) := f77.other W88 (Or.inl u8)
  have f99 : Fld Z h87 ta "com/example/ring_to_run/ringtorun/Task" "previous" "Lcom/example/ring_to_run/ringtorun/Task;" .null := f78.same W88
  have f100 : Fld Z h87 ta "com/example/ring_to_run/ringtorun/Task" "next" "Lcom/example/ring_to_run/ringtorun/Task;" .null := f79.other W88 (Or.inr (slot_ne (Or.inl (own_w H (i := 105) rfl)) (Or.inl (own_w H (i := 103) rfl)) (by decide) (t := (.object "com/example/ring_to_run/ringtorun/Task")) (t' := (.object "com/example/ring_to_run/ringtorun/Task")) (by decide) (by decide)))
  have f101 : Fld Z h87 ta "com/example/ring_to_run/ringtorun/Task" "dueInstant" "J" (.long da) := f80.other W88 (Or.inr (slot_ne (Or.inr (own_w H (i := 63) rfl)) (Or.inl (own_w H (i := 103) rfl)) (by decide) (t := .long) (t' := (.object "com/example/ring_to_run/ringtorun/Task")) (by decide) (by decide)))
  have f102 : Fld Z h87 tb "com/example/ring_to_run/ringtorun/Task" "previous" "Lcom/example/ring_to_run/ringtorun/Task;" pb := f81.other W88 (Or.inl u13.symm)
  have f103 : Fld Z h87 tb "com/example/ring_to_run/ringtorun/Task" "next" "Lcom/example/ring_to_run/ringtorun/Task;" nb := f82.other W88 (Or.inl u13.symm)
  have f104 : Fld Z h87 tb "com/example/ring_to_run/ringtorun/Task" "dueInstant" "J" (.long db) := f83.other W88 (Or.inl u13.symm)
  have f105 : own_Af Z h87 aH kH (.object "com/example/ring_to_run/ringtorun/Task") (Int32.ofNat (64 * M)) .null own_h0 := f84.other W88 u14.symm
  have f106 : own_Af Z h87 aT kT (.object "com/example/ring_to_run/ringtorun/Task") (Int32.ofNat (64 * M)) .null own_h0 := f86.other W88 u15.symm
  have f107 : own_Af Z h87 aO kO .long (Int32.ofNat M) (.long 0) (own_o1 K) := f85.other W88 u16.symm
  refine own_aload_n H rfl rfl d23_67 ?_
  refine own_aconst_null H d23_68 ?_
  refine own_putfield H (w := 104) (wi := 44) rfl f100 f91 u3 (Or.inl (own_w H (i := 105) rfl)) rfl (ty := (.object "com/example/ring_to_run/ringtorun/Task")) (by decide) rfl rfl d23_69 ?_
  intro h108 W109
  have f110 : n0 ≤ h108.size := by rw [W109.size]; exact f89
  have f111 : Exa Z h108 q "com/example/ring_to_run/ringtorun/TickQueue" := f90.wr W109
  have f112 : Exa Z h108 ta "com/example/ring_to_run/ringtorun/Task" := f91.wr W109
  have f113 : Exa Z h108 tb "com/example/ring_to_run/ringtorun/Task" := f92.wr W109
  have f114 : Fld Z h108 q "com/example/ring_to_run/ringtorun/TickQueue" "levels" "I" (.int (Int32.ofNat M)) := f93.other W109 (Or.inl u8)
  have f115 : Fld Z h108 q "com/example/ring_to_run/ringtorun/TickQueue" "heads" "[Lcom/example/ring_to_run/ringtorun/Task;" (.ref aH) := f94.other W109 (Or.inl u8)
  have f116 : Fld Z h108 q "com/example/ring_to_run/ringtorun/TickQueue" "tails" "[Lcom/example/ring_to_run/ringtorun/Task;" (.ref aT) := f95.other W109 (Or.inl u8)
  have f117 : Fld Z h108 q "com/example/ring_to_run/ringtorun/TickQueue" "occupied" "[J" (.ref aO) := f96.other W109 (Or.inl u8)
  have f118 : Fld Z h108 q "com/example/ring_to_run/ringtorun/TickQueue" "start" "J" (.long st) := f97.other W109 (Or.inl u8)
  have f119 : Fld Z h108 q "com/example/ring_to_run/ringtorun/TickQueue" "cursor" "J" (.long cur) := f98.other W109 (Or.inl u8)
  have f120 : Fld Z h108 ta "com/example/ring_to_run/ringtorun/Task" "previous" "Lcom/example/ring_to_run/ringtorun/Task;" .null := f99.other W109 (Or.inr (slot_ne (Or.inl (own_w H (i := 103) rfl)) (Or.inl (own_w H (i := 105) rfl)) (by decide) (t := (.object "com/example/ring_to_run/ringtorun/Task")) (t' := (.object "com/example/ring_to_run/ringtorun/Task")) (by decide) (by decide)))
  have f121 : Fld Z h108 ta "com/example/ring_to_run/ringtorun/Task" "next" "Lcom/example/ring_to_run/ringtorun/Task;" .null := f100.same W109
  have f122 : Fld Z h108 ta "com/example/ring_to_run/ringtorun/Task" "dueInstant" "J" (.long da) := f101.other W109 (Or.inr (slot_ne (Or.inr (own_w H (i := 63) rfl)) (Or.inl (own_w H (i := 105) rfl)) (by decide) (t := .long) (t' := (.object "com/example/ring_to_run/ringtorun/Task")) (by decide) (by decide)))
  have f123 : Fld Z h108 tb "com/example/ring_to_run/ringtorun/Task" "previous" "Lcom/example/ring_to_run/ringtorun/Task;" pb := f102.other W109 (Or.inl u13.symm)
  have f124 : Fld Z h108 tb "com/example/ring_to_run/ringtorun/Task" "next" "Lcom/example/ring_to_run/ringtorun/Task;" nb := f103.other W109 (Or.inl u13.symm)
  have f125 : Fld Z h108 tb "com/example/ring_to_run/ringtorun/Task" "dueInstant" "J" (.long db) := f104.other W109 (Or.inl u13.symm)
  have f126 : own_Af Z h108 aH kH (.object "com/example/ring_to_run/ringtorun/Task") (Int32.ofNat (64 * M)) .null own_h0 := f105.other W109 u14.symm
  have f127 : own_Af Z h108 aT kT (.object "com/example/ring_to_run/ringtorun/Task") (Int32.ofNat (64 * M)) .null own_h0 := f106.other W109 u15.symm
  have f128 : own_Af Z h108 aO kO .long (Int32.ofNat M) (.long 0) (own_o1 K) := f107.other W109 u16.symm
  refine own_aload_n H rfl rfl d23_72 ?_
  refine own_getfield H (w := 34) rfl f115 d23_73 ?_
  refine own_iload_n H rfl d23_76 ?_
  refine own_aaloadF H (v := .null) f126 rfl (own_i1 (by omega)) (own_i2 hK (by omega)) rfl d23_77 ?_
  refine own_ifnonnull_f H d23_78 rfl rfl ?_
  refine own_aload_n H rfl rfl d23_81 ?_
  refine own_getfield H (w := 39) rfl f117 d23_82 ?_
  refine own_iload_n H rfl d23_85 ?_
  refine own_bipush H (64 : Int32) (by decide) d23_86 ?_
  refine own_idiv H rfl d23_88 (by decide) ?_
  rw [own_dv (by omega)]
  show own_G _ _ _ _ _ _ _ _ 89 #[.val (.ref q), .val (.ref ta), .val (.int (Int32.ofNat K))] [(.int (Int32.ofNat (K / 64))), (.ref aO)]
  refine own_dup2 H rfl rfl d23_89 ?_
  refine own_laloadF H (v := (.long (FBit (Int32.ofNat K)))) f128 (own_i1 (by omega)) (own_i2 (Nat.div_lt_of_lt_mul hK) (by omega)) (by rw [own_cn (by omega)]; exact own_o1s K) d23_90 ?_
  refine own_iload_n H rfl d23_91 ?_
  refine own_invokestatic H (argsL := [(.int (Int32.ofNat K))]) (rest := [(.long (FBit (Int32.ofNat K))), (.int (Int32.ofNat (K / 64))), (.ref aO)]) (rmBit l Z a0 (own_hw H) h108 n0 (Int32.ofNat K)) (w1 := 107) (w2 := 108) (w3 := 10) (w4 := 109) rfl rfl rfl rfl own_pd4 rfl 4 (by decide) rfl (by decide) (Nat.le_of_eq rfl) (by decide) (by decide) (by decide) rfl d23_92 ?_
  rintro _ _ ⟨rfl, rfl⟩
  show own_G _ _ _ _ _ _ _ _ 95 #[.val (.ref q), .val (.ref ta), .val (.int (Int32.ofNat K))] [(.long (FBit (Int32.ofNat K))), (.long (FBit (Int32.ofNat K))), (.int (Int32.ofNat (K / 64))), (.ref aO)]
  refine own_ldc2J H (w := 131) rfl d23_95 ?_
  refine own_lxor H rfl d23_98 ?_
  refine own_land H rfl d23_99 ?_
  refine own_lastoreF H f128 (own_i1 (by omega)) (own_i2 (Nat.div_lt_of_lt_mul hK) (by omega)) (g := own_o0) (fun i hi => by rw [own_cn (by omega)] at hi; rw [own_cn (by omega)]; exact (fun i _ => own_g2 K i) i hi) u7 d23_100 ?_
  intro h129 W130 V131
  have f132 : n0 ≤ h129.size := by rw [W130.size]; exact f110
  have f133 : Exa Z h129 q "com/example/ring_to_run/ringtorun/TickQueue" := f111.wr W130
  have f134 : Exa Z h129 ta "com/example/ring_to_run/ringtorun/Task" := f112.wr W130
  have f135 : Exa Z h129 tb "com/example/ring_to_run/ringtorun/Task" := f113.wr W130
  have f136 : Fld Z h129 q "com/example/ring_to_run/ringtorun/TickQueue" "levels" "I" (.int (Int32.ofNat M)) := f114.other W130 (Or.inl u12)
  have f137 : Fld Z h129 q "com/example/ring_to_run/ringtorun/TickQueue" "heads" "[Lcom/example/ring_to_run/ringtorun/Task;" (.ref aH) := f115.other W130 (Or.inl u12)
  have f138 : Fld Z h129 q "com/example/ring_to_run/ringtorun/TickQueue" "tails" "[Lcom/example/ring_to_run/ringtorun/Task;" (.ref aT) := f116.other W130 (Or.inl u12)
  have f139 : Fld Z h129 q "com/example/ring_to_run/ringtorun/TickQueue" "occupied" "[J" (.ref aO) := f117.other W130 (Or.inl u12)
  have f140 : Fld Z h129 q "com/example/ring_to_run/ringtorun/TickQueue" "start" "J" (.long st) := f118.other W130 (Or.inl u12)
  have f141 : Fld Z h129 q "com/example/ring_to_run/ringtorun/TickQueue" "cursor" "J" (.long cur) := f119.other W130 (Or.inl u12)
  have f142 : Fld Z h129 ta "com/example/ring_to_run/ringtorun/Task" "previous" "Lcom/example/ring_to_run/ringtorun/Task;" .null := f120.other W130 (Or.inl u16)
  have f143 : Fld Z h129 ta "com/example/ring_to_run/ringtorun/Task" "next" "Lcom/example/ring_to_run/ringtorun/Task;" .null := f121.other W130 (Or.inl u16)
  have f144 : Fld Z h129 ta "com/example/ring_to_run/ringtorun/Task" "dueInstant" "J" (.long da) := f122.other W130 (Or.inl u16)
  have f145 : Fld Z h129 tb "com/example/ring_to_run/ringtorun/Task" "previous" "Lcom/example/ring_to_run/ringtorun/Task;" pb := f123.other W130 (Or.inl u19)
  have f146 : Fld Z h129 tb "com/example/ring_to_run/ringtorun/Task" "next" "Lcom/example/ring_to_run/ringtorun/Task;" nb := f124.other W130 (Or.inl u19)
  have f147 : Fld Z h129 tb "com/example/ring_to_run/ringtorun/Task" "dueInstant" "J" (.long db) := f125.other W130 (Or.inl u19)
  have f148 : own_Af Z h129 aH kH (.object "com/example/ring_to_run/ringtorun/Task") (Int32.ofNat (64 * M)) .null own_h0 := f126.other W130 u21
  have f149 : own_Af Z h129 aT kT (.object "com/example/ring_to_run/ringtorun/Task") (Int32.ofNat (64 * M)) .null own_h0 := f127.other W130 u22
  have f150 : own_Af Z h129 aO kO .long (Int32.ofNat M) (.long 0) own_o0 := V131
  show own_G _ _ _ _ _ _ _ _ 101 #[.val (.ref q), .val (.ref ta), .val (.int (Int32.ofNat K))] []
  exact own_return H d23_101 (by decide) (by decide) ⟨rfl, ⟨⟨f132, u2, u3, u4, u5, u6, u7⟩, ⟨u8, u9, u10, u11, u12, u13, u14, u15, u16, u17, u18, u19, u20, u21, u22⟩, ⟨f133, f134, f135, u26, u27⟩, ⟨f136, f137, f138, f139, f140, f141⟩, ⟨f142, f143, f144⟩, ⟨f145, f146, f147⟩, ⟨f148, f149, f150⟩⟩⟩
theorem d22_0 : decode prog_11_method_12_code 0 = .ok (.aload_n 0, 1) := by decide +kernel
theorem d22_1 : decode prog_11_method_12_code 1 = .ok (.getfield 31, 3) := by decide +kernel
theorem d22_4 : decode prog_11_method_12_code 4 = .ok (.iload_n 1, 1) := by decide +kernel
theorem d22_5 : decode prog_11_method_12_code 5 = .ok (.aaload, 1) := by decide +kernel
theorem d22_6 : decode prog_11_method_12_code 6 = .ok (.astore_n 2, 1) := by decide +kernel
theorem d22_7 : decode prog_11_method_12_code 7 = .ok (.aload_n 0, 1) := by decide +kernel
theorem d22_8 : decode prog_11_method_12_code 8 = .ok (.getfield 31, 3) := by decide +kernel
theorem d22_11 : decode prog_11_method_12_code 11 = .ok (.iload_n 1, 1) := by decide +kernel
theorem d22_12 : decode prog_11_method_12_code 12 = .ok (.aconst_null, 1) := by decide +kernel
theorem d22_13 : decode prog_11_method_12_code 13 = .ok (.aastore, 1) := by decide +kernel
theorem d22_14 : decode prog_11_method_12_code 14 = .ok (.aload_n 0, 1) := by decide +kernel
theorem d22_15 : decode prog_11_method_12_code 15 = .ok (.getfield 35, 3) := by decide +kernel
theorem d22_18 : decode prog_11_method_12_code 18 = .ok (.iload_n 1, 1) := by decide +kernel
theorem d22_19 : decode prog_11_method_12_code 19 = .ok (.aconst_null, 1) := by decide +kernel
theorem d22_20 : decode prog_11_method_12_code 20 = .ok (.aastore, 1) := by decide +kernel
theorem d22_21 : decode prog_11_method_12_code 21 = .ok (.aload_n 0, 1) := by decide +kernel
theorem d22_22 : decode prog_11_method_12_code 22 = .ok (.getfield 38, 3) := by decide +kernel
theorem d22_25 : decode prog_11_method_12_code 25 = .ok (.iload_n 1, 1) := by decide +kernel
theorem d22_26 : decode prog_11_method_12_code 26 = .ok (.bipush 64, 2) := by decide +kernel
theorem d22_28 : decode prog_11_method_12_code 28 = .ok (.idiv, 1) := by decide +kernel
theorem d22_29 : decode prog_11_method_12_code 29 = .ok (.dup2, 1) := by decide +kernel
theorem d22_30 : decode prog_11_method_12_code 30 = .ok (.laload, 1) := by decide +kernel
theorem d22_31 : decode prog_11_method_12_code 31 = .ok (.iload_n 1, 1) := by decide +kernel
theorem d22_32 : decode prog_11_method_12_code 32 = .ok (.invokestatic 90, 3) := by decide +kernel
theorem d22_35 : decode prog_11_method_12_code 35 = .ok (.ldc2_w 94, 3) := by decide +kernel
theorem d22_38 : decode prog_11_method_12_code 38 = .ok (.lxor, 1) := by decide +kernel
theorem d22_39 : decode prog_11_method_12_code 39 = .ok (.land, 1) := by decide +kernel
theorem d22_40 : decode prog_11_method_12_code 40 = .ok (.lastore, 1) := by decide +kernel
theorem d22_41 : decode prog_11_method_12_code 41 = .ok (.aload_n 2, 1) := by decide +kernel
theorem d22_42 : decode prog_11_method_12_code 42 = .ok (.ifnull 31, 3) := by decide +kernel
theorem d22_45 : decode prog_11_method_12_code 45 = .ok (.aload_n 2, 1) := by decide +kernel
theorem d22_46 : decode prog_11_method_12_code 46 = .ok (.getfield 96, 3) := by decide +kernel
theorem d22_49 : decode prog_11_method_12_code 49 = .ok (.astore_n 3, 1) := by decide +kernel
theorem d22_50 : decode prog_11_method_12_code 50 = .ok (.aload_n 0, 1) := by decide +kernel
theorem d22_51 : decode prog_11_method_12_code 51 = .ok (.aload_n 2, 1) := by decide +kernel
theorem d22_52 : decode prog_11_method_12_code 52 = .ok (.aload_n 0, 1) := by decide +kernel
theorem d22_53 : decode prog_11_method_12_code 53 = .ok (.aload_n 2, 1) := by decide +kernel
theorem d22_54 : decode prog_11_method_12_code 54 = .ok (.invokevirtual 57, 3) := by decide +kernel
theorem d22_57 : decode prog_11_method_12_code 57 = .ok (.aload_n 0, 1) := by decide +kernel
theorem d22_58 : decode prog_11_method_12_code 58 = .ok (.getfield 42, 3) := by decide +kernel
theorem d22_61 : decode prog_11_method_12_code 61 = .ok (.lsub, 1) := by decide +kernel
theorem d22_62 : decode prog_11_method_12_code 62 = .ok (.invokevirtual 61, 3) := by decide +kernel
theorem d22_65 : decode prog_11_method_12_code 65 = .ok (.invokevirtual 64, 3) := by decide +kernel
theorem d22_68 : decode prog_11_method_12_code 68 = .ok (.aload_n 3, 1) := by decide +kernel
theorem d22_69 : decode prog_11_method_12_code 69 = .ok (.astore_n 2, 1) := by decide +kernel
theorem d22_70 : decode prog_11_method_12_code 70 = .ok (.goto (-29), 3) := by decide +kernel
theorem d22_73 : decode prog_11_method_12_code 73 = .ok (.return_, 1) := by decide +kernel
theorem own_pl22 : plainFor (⟨"com/example/ring_to_run/ringtorun/TickQueue", "moveDown", "(I)V"⟩ : MethodName) = true := plainFor_of_name (by first | (simp [plainName, overriddenIn]; done) | decide +kernel)
theorem own_pd10 : parseMethodDescriptor "(I)V" = some ⟨[.int], none⟩ := by decide +kernel
set_option maxHeartbeats 8000000 in
theorem rmMdn (l : Launch) (Z : State) (a0 : Array Value) (hw : ∀ (i : Nat) (d : Jvm.Cond), tables_1[i]? = some d → d.before a0 Z = true) (h0 : Heap) (n0 : Nat) (q : Addr) (ta : Addr) (tb : Addr) (aH : Addr) (aT : Addr) (aO : Addr) (kH : ClassId) (kT : ClassId) (kO : ClassId) (M : Nat) (st : Int64) (da : Int64) (db : Int64) (cur : Int64) (pb : Value) (nb : Value) (K : Nat) (K' : Nat) (hQ : own_Qu Z n0 h0 q ta tb aH aT aO kH kT kO M st da db cur (own_h1 ta K) (own_h1 ta K) (own_o1 K) .null .null pb nb) (hM : M ≤ 11) (hK : K < 64 * M) (hK' : K' < 64 * M) (hB : FBk (da - st) cur = Int32.ofNat K') :
    own_C l Z (⟨"com/example/ring_to_run/ringtorun/TickQueue", "moveDown", "(I)V"⟩ : MethodName) prog_11_method_12_code 4 none ({ frames := 3, cells := 0, slots := 0, locals := 80 } : Room) #[(.ref q), (.int (Int32.ofNat K))] h0 n0 (fun v h' => v = none ∧ own_Qu Z n0 h' q ta tb aH aT aO kH kT kO M st da db cur (own_h1 ta K') (own_h1 ta K') (own_o1 K') .null .null pb nb) := by
  refine own_met (Ls := #[.val (.ref q), .val (.int (Int32.ofNat K)), .unset, .unset]) hw own_pl22 (fun m => by first | (simp [entryFrame, mkF, argsToLocals, Value.category]; done) | rfl) ?_
  intro B H
  obtain ⟨⟨u1, u2, u3, u4, u5, u6, u7⟩, ⟨u8, u9, u10, u11, u12, u13, u14, u15, u16, u17, u18, u19, u20, u21, u22⟩, ⟨u23, u24, u25, u26, u27⟩, ⟨u28, u29, u30, u31, u32, u33⟩, ⟨u34, u35, u36⟩, ⟨u37, u38, u39⟩, ⟨u40, u41, u42⟩⟩ := hQ
  refine own_aload_n H rfl rfl d22_0 ?_
  refine own_getfield H (w := 34) rfl u29 d22_1 ?_
  refine own_iload_n H rfl d22_4 ?_
  refine own_aaloadF H (v := (.ref ta)) u40 rfl (own_i1 (by omega)) (own_i2 hK (by omega)) (by rw [own_cn (by omega)]; exact own_h1s ta K) d22_5 ?_
  refine own_astore_n H rfl #[.val (.ref q), .val (.int (Int32.ofNat K)), .val (.ref ta), .unset] rfl d22_6 ?_
  refine own_aload_n H rfl rfl d22_7 ?_
  refine own_getfield H (w := 34) rfl u29 d22_8 ?_
  refine own_iload_n H rfl d22_11 ?_
  refine own_aconst_null H d22_12 ?_
  refine own_aastoreF H u40 u26 (Or.inl rfl) (own_i1 (by omega)) (own_i2 hK (by omega)) (g := own_h0) (fun i hi => by rw [own_cn (by omega)] at hi; rw [own_cn (by omega)]; exact (fun i _ => own_g1 ta K i) i hi) u5 d22_13 ?_
  intro h43 W44 V45
  have f46 : n0 ≤ h43.size := by rw [W44.size]; exact u1
  have f47 : Exa Z h43 q "com/example/ring_to_run/ringtorun/TickQueue" := u23.wr W44
  have f48 : Exa Z h43 ta "com/example/ring_to_run/ringtorun/Task" := u24.wr W44
  have f49 : Exa Z h43 tb "com/example/ring_to_run/ringtorun/Task" := u25.wr W44
  have f50 : Fld Z h43 q "com/example/ring_to_run/ringtorun/TickQueue" "levels" "I" (.int (Int32.ofNat M)) := u28.other W44 (Or.inl u10)
  have f51 : Fld Z h43 q "com/example/ring_to_run/ringtorun/TickQueue" "heads" "[Lcom/example/ring_to_run/ringtorun/Task;" (.ref aH) := u29.other W44 (Or.inl u10)
  have f52 : Fld Z h43 q "com/example/ring_to_run/ringtorun/TickQueue" "tails" "[Lcom/example/ring_to_run/ringtorun/Task;" (.ref aT) := u30.other W44 (Or.inl u10)
  have f53 : Fld Z h43 q "com/example/ring_to_run/ringtorun/TickQueue" "occupied" "[J" (.ref aO) := u31.other W44 (Or.inl u10)
  have f54 : Fld Z h43 q "com/example/ring_to_run/ringtorun/TickQueue" "start" "J" (.long st) := u32.other W44 (Or.inl u10)
  have f55 : Fld Z h43 q "com/example/ring_to_run/ringtorun/TickQueue" "cursor" "J" (.long cur) := u33.other W44 (Or.inl u10)
  have f56 : Fld Z h43 ta "com/example/ring_to_run/ringtorun/Task" "previous" "Lcom/example/ring_to_run/ringtorun/Task;" .null := u34.other W44 (Or.inl u14)
  have f57 : Fld Z h43 ta "com/example/ring_to_run/ringtorun/Task" "next" "Lcom/example/ring_to_run/ringtorun/Task;" .null := u35.other W44 (Or.inl u14)
  have f58 : Fld Z h43 ta "com/example/ring_to_run/ringtorun/Task" "dueInstant" "J" (.long da) := u36.other W44 (Or.inl u14)
  have f59 : Fld Z h43 tb "com/example/ring_to_run/ringtorun/Task" "previous" "Lcom/example/ring_to_run/ringtorun/Task;" pb := u37.other W44 (Or.inl u17)
  have f60 : Fld Z h43 tb "com/example/ring_to_run/ringtorun/Task" "next" "Lcom/example/ring_to_run/ringtorun/Task;" nb := u38.other W44 (Or.inl u17)
  have f61 : Fld Z h43 tb "com/example/ring_to_run/ringtorun/Task" "dueInstant" "J" (.long db) := u39.other W44 (Or.inl u17)
  have f62 : own_Af Z h43 aT kT (.object "com/example/ring_to_run/ringtorun/Task") (Int32.ofNat (64 * M)) .null (own_h1 ta K) := u41.other W44 u20.symm
  have f63 : own_Af Z h43 aO kO .long (Int32.ofNat M) (.long 0) (own_o1 K) := u42.other W44 u21.symm
  have f64 : own_Af Z h43 aH kH (.object "com/example/ring_to_run/ringtorun/Task") (Int32.ofNat (64 * M)) .null own_h0 := V45
  show own_G _ _ _ _ _ _ _ _ 14 #[.val (.ref q), .val (.int (Int32.ofNat K)), .val (.ref ta), .unset] []
  refine own_aload_n H rfl rfl d22_14 ?_
  refine own_getfield H (w := 36) rfl f52 d22_15 ?_
  refine own_iload_n H rfl d22_18 ?_
  refine own_aconst_null H d22_19 ?_
  refine own_aastoreF H f62 u27 (Or.inl rfl) (own_i1 (by omega)) (own_i2 hK (by omega)) (g := own_h0) (fun i hi => by rw [own_cn (by omega)] at hi; rw [own_cn (by omega)]; exact (fun i _ => own_g1 ta K i) i hi) u6 d22_20 ?_
  intro h65 W66 V67
  have f68 : n0 ≤ h65.size := by rw [W66.size]; exact f46
  have f69 : Exa Z h65 q "com/example/ring_to_run/ringtorun/TickQueue" := f47.wr W66
  have f70 : Exa Z h65 ta "com/example/ring_to_run/ringtorun/Task" := f48.wr W66
  have f71 : Exa Z h65 tb "com/example/ring_to_run/ringtorun/Task" := f49.wr W66
  have f72 : Fld Z h65 q "com/example/ring_to_run/ringtorun/TickQueue" "levels" "I" (.int (Int32.ofNat M)) := f50.other W66 (Or.inl u11)
  have f73 : Fld Z h65 q "com/example/ring_to_run/ringtorun/TickQueue" "heads" "[Lcom/example/ring_to_run/ringtorun/Task;" (.ref aH) := f51.other W66 (Or.inl u11)
  have f74 : Fld Z h65 q "com/example/ring_to_run/ringtorun/TickQueue" "tails" "[Lcom/example/ring_to_run/ringtorun/Task;" (.ref aT) := f52.other W66 (Or.inl u11)
  have f75 : Fld Z h65 q "com/example/ring_to_run/ringtorun/TickQueue" "occupied" "[J" (.ref aO) := f53.other W66 (Or.inl u11)
  have f76 : Fld Z h65 q "com/example/ring_to_run/ringtorun/TickQueue" "start" "J" (.long st) := f54.other W66 (Or.inl u11)
  have f77 : Fld Z h65 q "com/example/ring_to_run/ringtorun/TickQueue" "cursor" "J" (.long cur) := f55.other W66 (Or.inl u11)
  have f78 : Fld Z h65 ta "com/example/ring_to_run/ringtorun/Task" "previous" "Lcom/example/ring_to_run/ringtorun/Task;" .null := f56.other W66 (Or.inl u15)
  have f79 : Fld Z h65 ta "com/example/ring_to_run/ringtorun/Task" "next" "Lcom/example/ring_to_run/ringtorun/Task;" .null := f57.other W66 (Or.inl u15)
  have f80 : Fld Z h65 ta "com/example/ring_to_run/ringtorun/Task" "dueInstant" "J" (.long da) := f58.other W66 (Or.inl u15)
  have f81 : Fld Z h65 tb "com/example/ring_to_run/ringtorun/Task" "previous" "Lcom/example/ring_to_run/ringtorun/Task;" pb := f59.other W66 (Or.inl u18)
  have f82 : Fld Z h65 tb "com/example/ring_to_run/ringtorun/Task" "next" "Lcom/example/ring_to_run/ringtorun/Task;" nb := f60.other W66 (Or.inl u18)
  have f83 : Fld Z h65 tb "com/example/ring_to_run/ringtorun/Task" "dueInstant" "J" (.long db) := f61.other W66 (Or.inl u18)
  have f84 : own_Af Z h65 aH kH (.object "com/example/ring_to_run/ringtorun/Task") (Int32.ofNat (64 * M)) .null own_h0 := f64.other W66 u20
  have f85 : own_Af Z h65 aO kO .long (Int32.ofNat M) (.long 0) (own_o1 K) := f63.other W66 u22.symm
  have f86 : own_Af Z h65 aT kT (.object "com/example/ring_to_run/ringtorun/Task") (Int32.ofNat (64 * M)) .null own_h0 := V67
  show own_G _ _ _ _ _ _ _ _ 21 #[.val (.ref q), .val (.int (Int32.ofNat K)), .val (.ref ta), .unset] []
  refine own_aload_n H rfl rfl d22_21 ?_
  refine own_getfield H (w := 39) rfl f75 d22_22 ?_
  refine own_iload_n H rfl d22_25 ?_
  refine own_bipush H (64 : Int32) (by decide) d22_26 ?_
  refine own_idiv H rfl d22_28 (by decide) ?_
  rw [own_dv (by omega)]
  show own_G _ _ _ _ _ _ _ _ 29 #[.val (.ref q), .val (.int (Int32.ofNat K)), .val (.ref ta), .unset] [(.int (Int32.ofNat (K / 64))), (.ref aO)]
  refine own_dup2 H rfl rfl d22_29 ?_
  refine own_laloadF H (v := (.long (FBit (Int32.ofNat K)))) f85 (own_i1 (by omega)) (own_i2 (Nat.div_lt_of_lt_mul hK) (by omega)) (by rw [own_cn (by omega)]; exact own_o1s K) d22_30 ?_
  refine own_iload_n H rfl d22_31 ?_
  refine own_invokestatic H (argsL := [(.int (Int32.ofNat K))]) (rest := [(.long (FBit (Int32.ofNat K))), (.int (Int32.ofNat (K / 64))), (.ref aO)]) (rmBit l Z a0 (own_hw H) h65 n0 (Int32.ofNat K)) (w1 := 107) (w2 := 108) (w3 := 10) (w4 := 109) rfl rfl rfl rfl own_pd4 rfl 4 (by decide) rfl (by decide) (Nat.le_of_eq rfl) (by decide) (by decide) (by decide) rfl d22_32 ?_
  rintro _ _ ⟨rfl, rfl⟩
  show own_G _ _ _ _ _ _ _ _ 35 #[.val (.ref q), .val (.int (Int32.ofNat K)), .val (.ref ta), .unset] [(.long (FBit (Int32.ofNat K))), (.long (FBit (Int32.ofNat K))), (.int (Int32.ofNat (K / 64))), (.ref aO)]
  refine own_ldc2J H (w := 131) rfl d22_35 ?_
  refine own_lxor H rfl d22_38 ?_
  refine own_land H rfl d22_39 ?_
  refine own_lastoreF H f85 (own_i1 (by omega)) (own_i2 (Nat.div_lt_of_lt_mul hK) (by omega)) (g := own_o0) (fun i hi => by rw [own_cn (by omega)] at hi; rw [own_cn (by omega)]; exact (fun i _ => own_g2 K i) i hi) u7 d22_40 ?_
  intro h87 W88 V89
  have f90 : n0 ≤ h87.size := by rw [W88.size]; exact f68
  have f91 : Exa Z h87 q "com/example/ring_to_run/ringtorun/TickQueue" := f69.wr W88
  have f92 : Exa Z h87 ta "com/example/ring_to_run/ringtorun/Task" := f70.wr W88
  have f93 : Exa Z h87 tb "com/example/ring_to_run/ringtorun/Task" := f71.wr W88
  have f94 : Fld Z h87 q "com/example/ring_to_run/ringtorun/TickQueue" "levels" "I" (.int (Int32.ofNat M)) := f72.other W88 (Or.inl u12)
  have f95 : Fld Z h87 q "com/example/ring_to_run/ringtorun/TickQueue" "heads" "[Lcom/example/ring_to_run/ringtorun/Task;" (.ref aH) := f73.other W88 (Or.inl u12)
  have f96 : Fld Z h87 q "com/example/ring_to_run/ringtorun/TickQueue" "tails" "[Lcom/example/ring_to_run/ringtorun/Task;" (.ref aT) := f74.other W88 (Or.inl u12)
  have f97 : Fld Z h87 q "com/example/ring_to_run/ringtorun/TickQueue" "occupied" "[J" (.ref aO) := f75.other W88 (Or.inl u12)
  have f98 : Fld Z h87 q "com/example/ring_to_run/ringtorun/TickQueue" "start" "J" (.long st) := f76.other W88 (Or.inl u12)
  have f99 : Fld Z h87 q "com/example/ring_to_run/ringtorun/TickQueue" "cursor" "J" (.long cur) := f77.other W88 (Or.inl u12)
  have f100 : Fld Z h87 ta "com/example/ring_to_run/ringtorun/Task" "previous" "Lcom/example/ring_to_run/ringtorun/Task;" .null := f78.other W88 (Or.inl u16)
  have f101 : Fld Z h87 ta "com/example/ring_to_run/ringtorun/Task" "next" "Lcom/example/ring_to_run/ringtorun/Task;" .null := f79.other W88 (Or.inl u16)
  have f102 : Fld Z h87 ta "com/example/ring_to_run/ringtorun/Task" "dueInstant" "J" (.long da) := f80.other W88 (Or.inl u16)
  have f103 : Fld Z h87 tb "com/example/ring_to_run/ringtorun/Task" "previous" "Lcom/example/ring_to_run/ringtorun/Task;" pb := f81.other W88 (Or.inl u19)
  have f104 : Fld Z h87 tb "com/example/ring_to_run/ringtorun/Task" "next" "Lcom/example/ring_to_run/ringtorun/Task;" nb := f82.other W88 (Or.inl u19)
  have f105 : Fld Z h87 tb "com/example/ring_to_run/ringtorun/Task" "dueInstant" "J" (.long db) := f83.other W88 (Or.inl u19)
  have f106 : own_Af Z h87 aH kH (.object "com/example/ring_to_run/ringtorun/Task") (Int32.ofNat (64 * M)) .null own_h0 := f84.other W88 u21
  have f107 : own_Af Z h87 aT kT (.object "com/example/ring_to_run/ringtorun/Task") (Int32.ofNat (64 * M)) .null own_h0 := f86.other W88 u22
  have f108 : own_Af Z h87 aO kO .long (Int32.ofNat M) (.long 0) own_o0 := V89
  show own_G _ _ _ _ _ _ _ _ 41 #[.val (.ref q), .val (.int (Int32.ofNat K)), .val (.ref ta), .unset] []
  refine own_aload_n H rfl rfl d22_41 ?_
  refine own_ifnull_f H d22_42 rfl (fun h => nomatch h) ?_
  refine own_aload_n H rfl rfl d22_45 ?_
  refine own_getfield H (w := 104) rfl f101 d22_46 ?_
  refine own_astore_n H rfl #[.val (.ref q), .val (.int (Int32.ofNat K)), .val (.ref ta), .val .null] rfl d22_49 ?_
  refine own_aload_n H rfl rfl d22_50 ?_
  refine own_aload_n H rfl rfl d22_51 ?_
  refine own_aload_n H rfl rfl d22_52 ?_
  refine own_aload_n H rfl rfl d22_53 ?_
  refine own_invokevirtual H (a := ta) (argsL := []) (rest := [(.ref q), (.ref ta), (.ref q)]) (rmDue l Z a0 (own_hw H) h87 n0 ta da f102) f92 (w1 := 86) (w0 := 87) (w5 := 89) (w2 := 88) (w3 := 45) (w4 := 90) rfl rfl rfl rfl rfl rfl own_pd7 rfl 3 (by decide) rfl (by decide) (Nat.le_of_eq rfl) (by decide) (by decide) (by decide) rfl d22_54 ?_
  rintro _ _ ⟨rfl, rfl⟩
  show own_G _ _ _ _ _ _ _ _ 57 #[.val (.ref q), .val (.int (Int32.ofNat K)), .val (.ref ta), .val .null] [(.long (FDue da)), (.ref q), (.ref ta), (.ref q)]
  show own_G _ _ _ _ _ _ _ _ 57 #[.val (.ref q), .val (.int (Int32.ofNat K)), .val (.ref ta), .val .null] [(.long da), (.ref q), (.ref ta), (.ref q)]
  refine own_aload_n H rfl rfl d22_57 ?_
  refine own_getfield H (w := 41) rfl f98 d22_58 ?_
  refine own_lsub H rfl d22_61 ?_
  refine own_invokepriv H (a := q) (argsL := [(.long (da - st))]) (rest := [(.ref ta), (.ref q)]) (rmBk l Z a0 (own_hw H) h87 n0 q (da - st) cur f99) f91 (w1 := 91) (w2 := 92) (w5 := 9) (w6 := 93) (w3 := 10) (w4 := 94) rfl rfl rfl rfl rfl rfl own_pd3 rfl 2 (by decide) rfl (by decide) (Nat.le_of_eq rfl) (by decide) (by decide) (by decide) rfl d22_62 ?_
  rintro _ _ ⟨rfl, rfl⟩
  show own_G _ _ _ _ _ _ _ _ 65 #[.val (.ref q), .val (.int (Int32.ofNat K)), .val (.ref ta), .val .null] [(.int (FBk (da - st) cur)), (.ref ta), (.ref q)]
  rw [hB]
  show own_G _ _ _ _ _ _ _ _ 65 #[.val (.ref q), .val (.int (Int32.ofNat K)), .val (.ref ta), .val .null] [(.int (Int32.ofNat K')), (.ref ta), (.ref q)]
  refine own_invokepriv H (a := q) (argsL := [(.ref ta), (.int (Int32.ofNat K'))]) (rest := []) (rmApE l Z a0 (own_hw H) h87 n0 q ta tb aH aT aO kH kT kO M st da db cur own_h0 own_h0 own_o0 .null .null pb nb (own_h1 ta K') (own_h1 ta K') (own_o1 K') K' (0 : Int64) ⟨⟨f90, u2, u3, u4, u5, u6, u7⟩, ⟨u8, u9, u10, u11, u12, u13, u14, u15, u16, u17, u18, u19, u20, u21, u22⟩, ⟨f91, f92, f93, u26, u27⟩, ⟨f94, f95, f96, f97, f98, f99⟩, ⟨f100, f101, f102⟩, ⟨f103, f104, f105⟩, ⟨f106, f107, f108⟩⟩ hM hK' rfl rfl (fun _ _ => rfl) (fun _ _ => rfl) (fun i _ => own_g3 K' i)) f91 (w1 := 98) (w2 := 99) (w5 := 9) (w6 := 100) (w3 := 10) (w4 := 101) rfl rfl rfl rfl rfl rfl own_pd8 rfl 0 (by decide) rfl (by decide) (Nat.le_of_eq rfl) (by decide) (by decide) (by decide) rfl d22_65 ?_
  rintro _ h109 ⟨rfl, hQ⟩
  obtain ⟨⟨u110, u111, u112, u113, u114, u115, u116⟩, ⟨u117, u118, u119, u120, u121, u122, u123, u124, u125, u126, u127, u128, u129, u130, u131⟩, ⟨u132, u133, u134, u135, u136⟩, ⟨u137, u138, u139, u140, u141, u142⟩, ⟨u143, u144, u145⟩, ⟨u146, u147, u148⟩, ⟨u149, u150, u151⟩⟩ := hQ
  show own_G _ _ _ _ _ _ _ _ 68 #[.val (.ref q), .val (.int (Int32.ofNat K)), .val (.ref ta), .val .null] []
  refine own_aload_n H rfl rfl d22_68 ?_
  refine own_astore_n H rfl #[.val (.ref q), .val (.int (Int32.ofNat K)), .val .null, .val .null] rfl d22_69 ?_
  refine own_goto H (pc' := 41) d22_70 (by decide) (by decide) ?_
  refine own_aload_n H rfl rfl d22_41 ?_
  refine own_ifnull_t H (pc' := 73) d22_42 (by decide) (by decide) rfl rfl ?_
  exact own_return H d22_73 (by decide) (by decide) ⟨rfl, ⟨⟨u110, u111, u112, u113, u114, u115, u116⟩, ⟨u117, u118, u119, u120, u121, u122, u123, u124, u125, u126, u127, u128, u129, u130, u131⟩, ⟨u132, u133, u134, u135, u136⟩, ⟨u137, u138, u139, u140, u141, u142⟩, ⟨u143, u144, u145⟩, ⟨u146, u147, u148⟩, ⟨u149, u150, u151⟩⟩⟩
theorem d11_0 : decode prog_11_method_9_code 0 = .ok (.iconst 1, 1) := by decide +kernel
theorem d11_1 : decode prog_11_method_9_code 1 = .ok (.istore_n 1, 1) := by decide +kernel
theorem d11_2 : decode prog_11_method_9_code 2 = .ok (.iload_n 1, 1) := by decide +kernel
theorem d11_3 : decode prog_11_method_9_code 3 = .ok (.aload_n 0, 1) := by decide +kernel
theorem d11_4 : decode prog_11_method_9_code 4 = .ok (.getfield 25, 3) := by decide +kernel
theorem d11_7 : decode prog_11_method_9_code 7 = .ok (.if_icmp .ge 22, 3) := by decide +kernel
theorem d11_10 : decode prog_11_method_9_code 10 = .ok (.aload_n 0, 1) := by decide +kernel
theorem d11_11 : decode prog_11_method_9_code 11 = .ok (.getfield 38, 3) := by decide +kernel
theorem d11_14 : decode prog_11_method_9_code 14 = .ok (.iload_n 1, 1) := by decide +kernel
theorem d11_15 : decode prog_11_method_9_code 15 = .ok (.laload, 1) := by decide +kernel
theorem d11_16 : decode prog_11_method_9_code 16 = .ok (.lconst 0, 1) := by decide +kernel
theorem d11_17 : decode prog_11_method_9_code 17 = .ok (.lcmp, 1) := by decide +kernel
theorem d11_18 : decode prog_11_method_9_code 18 = .ok (.ifCond .eq 5, 3) := by decide +kernel
theorem d11_21 : decode prog_11_method_9_code 21 = .ok (.iload_n 1, 1) := by decide +kernel
theorem d11_22 : decode prog_11_method_9_code 22 = .ok (.ireturn, 1) := by decide +kernel
theorem d11_23 : decode prog_11_method_9_code 23 = .ok (.iinc 1 1, 3) := by decide +kernel
theorem d11_26 : decode prog_11_method_9_code 26 = .ok (.goto (-24), 3) := by decide +kernel
theorem d11_29 : decode prog_11_method_9_code 29 = .ok (.iconst (-1), 1) := by decide +kernel
theorem d11_30 : decode prog_11_method_9_code 30 = .ok (.ireturn, 1) := by decide +kernel
theorem own_pl11 : plainFor (⟨"com/example/ring_to_run/ringtorun/TickQueue", "lowestOccupiedLevel", "()I"⟩ : MethodName) = true := plainFor_of_name (by first | (simp [plainName, overriddenIn]; done) | decide +kernel)
theorem own_pd11 : parseMethodDescriptor "()I" = some ⟨[], some .int⟩ := by decide +kernel
theorem rmLoL (l : Launch) (Z : State) (a0 : Array Value) (hw : ∀ (i : Nat) (d : Jvm.Cond), tables_1[i]? = some d → d.before a0 Z = true) (h0 : Heap) (n0 : Nat) (q : Addr) (aO : Addr) (kO : ClassId) (M : Nat) (of : Nat → Value) (L : Nat) (w : Int64) (hE : Exa Z h0 q "com/example/ring_to_run/ringtorun/TickQueue") (hF1 : Fld Z h0 q "com/example/ring_to_run/ringtorun/TickQueue" "levels" "I" (.int (Int32.ofNat M))) (hF2 : Fld Z h0 q "com/example/ring_to_run/ringtorun/TickQueue" "occupied" "[J" (.ref aO)) (hV : own_Af Z h0 aO kO .long (Int32.ofNat M) (.long 0) of) (hM : M ≤ 11) (hz : ∀ j, 1 ≤ j → j < L → of j = .long 0) (hL : L < M) (hw0 : of L = .long w) (hw1 : ¬ w = 0) (hs : 1 ≤ L) :
    own_C l Z (⟨"com/example/ring_to_run/ringtorun/TickQueue", "lowestOccupiedLevel", "()I"⟩ : MethodName) prog_11_method_9_code 2 (some .int) ({ frames := 0, cells := 0, slots := 0, locals := 0 } : Room) #[(.ref q)] h0 n0 (fun v h' => v = some (.int (Int32.ofNat L)) ∧ h0 = h') := by
  refine own_met (Ls := #[.val (.ref q), .unset]) hw own_pl11 (fun m => by first | (simp [entryFrame, mkF, argsToLocals, Value.category]; done) | rfl) ?_
  intro B H
  have key : ∀ (d j : Nat), j + d = L → 1 ≤ j → own_G B n0 (fun v h' => v = some (.int (Int32.ofNat L)) ∧ h0 = h') 0 0 0 0 h0 2 #[.val (.ref q), .val (.int (Int32.ofNat j))] [] := by
    intro d
    induction d with
    | zero =>
      intro j hj hj1
      obtain rfl : L = j := by omega
      refine own_iload_n H rfl d11_2 ?_
      refine own_aload_n H rfl rfl d11_3 ?_
      refine own_getfield H (w := 30) rfl hF1 d11_4 ?_
      refine own_icmpge_f H d11_7 (own_i2 hL (by omega)) ?_
      refine own_aload_n H rfl rfl d11_10 ?_
      refine own_getfield H (w := 39) rfl hF2 d11_11 ?_
      refine own_iload_n H rfl d11_14 ?_
      refine own_laloadF H (v := (.long w)) hV (own_i1 (by omega)) (own_i2 hL (by omega)) (by rw [own_cn (by omega)]; exact hw0) d11_15 ?_
      refine own_lconst H (0 : Int64) (by decide) d11_16 ?_
      refine own_lcmpeq_f H d11_17 d11_18 hw1 ?_
      refine own_iload_n H rfl d11_21 ?_
      exact own_ireturn H (by simp) rfl d11_22 (by decide) (by decide) ⟨rfl, rfl⟩
    | succ d ih =>
      intro j hj hj1
      refine own_iload_n H rfl d11_2 ?_
      refine own_aload_n H rfl rfl d11_3 ?_
      refine own_getfield H (w := 30) rfl hF1 d11_4 ?_
      refine own_icmpge_f H d11_7 (own_i2 (show j < M by omega) (by omega)) ?_
      refine own_aload_n H rfl rfl d11_10 ?_
      refine own_getfield H (w := 39) rfl hF2 d11_11 ?_
      refine own_iload_n H rfl d11_14 ?_
      refine own_laloadF H (v := (.long (0 : Int64))) hV (own_i1 (by omega)) (own_i2 (show j < M by omega) (by omega)) (by rw [own_cn (by omega)]; exact hz j (by omega) (by omega)) d11_15 ?_
      refine own_lconst H (0 : Int64) (by decide) d11_16 ?_
      refine own_lcmpeq_t H (pc' := 23) d11_17 d11_18 (by decide) (by decide) (by decide) ?_
      refine own_iinc H (1 : Int32) (by decide) rfl rfl #[.val (.ref q), .val (.int ((Int32.ofNat j) + (1 : Int32)))] rfl d11_23 ?_
      refine own_goto H (pc' := 2) d11_26 (by decide) (by decide) ?_
      rw [own_in]
      show own_G _ _ _ _ _ _ _ _ 2 #[.val (.ref q), .val (.int (Int32.ofNat (j + 1)))] []
      exact ih (j + 1) (by omega) (by omega)
  refine own_iconst H (1 : Int32) (by decide) d11_0 ?_
  refine own_istore_n H #[.val (.ref q), .val (.int (1 : Int32))] rfl d11_1 ?_
  exact key (L - 1) 1 (by omega) (by omega)
theorem rmLoM (l : Launch) (Z : State) (a0 : Array Value) (hw : ∀ (i : Nat) (d : Jvm.Cond), tables_1[i]? = some d → d.before a0 Z = true) (h0 : Heap) (n0 : Nat) (q : Addr) (aO : Addr) (kO : ClassId) (M : Nat) (of : Nat → Value) (hE : Exa Z h0 q "com/example/ring_to_run/ringtorun/TickQueue") (hF1 : Fld Z h0 q "com/example/ring_to_run/ringtorun/TickQueue" "levels" "I" (.int (Int32.ofNat M))) (hF2 : Fld Z h0 q "com/example/ring_to_run/ringtorun/TickQueue" "occupied" "[J" (.ref aO)) (hV : own_Af Z h0 aO kO .long (Int32.ofNat M) (.long 0) of) (hM : M ≤ 11) (hz : ∀ j, 1 ≤ j → j < M → of j = .long 0) (hs : 1 ≤ M) :
    own_C l Z (⟨"com/example/ring_to_run/ringtorun/TickQueue", "lowestOccupiedLevel", "()I"⟩ : MethodName) prog_11_method_9_code 2 (some .int) ({ frames := 0, cells := 0, slots := 0, locals := 0 } : Room) #[(.ref q)] h0 n0 (fun v h' => v = some (.int (-1 : Int32)) ∧ h0 = h') := by
  refine own_met (Ls := #[.val (.ref q), .unset]) hw own_pl11 (fun m => by first | (simp [entryFrame, mkF, argsToLocals, Value.category]; done) | rfl) ?_
  intro B H
  have key : ∀ (d j : Nat), j + d = M → 1 ≤ j → own_G B n0 (fun v h' => v = some (.int (-1 : Int32)) ∧ h0 = h') 0 0 0 0 h0 2 #[.val (.ref q), .val (.int (Int32.ofNat j))] [] := by
    intro d
    induction d with
    | zero =>
      intro j hj hj1
      obtain rfl : M = j := by omega
      refine own_iload_n H rfl d11_2 ?_
      refine own_aload_n H rfl rfl d11_3 ?_
      refine own_getfield H (w := 30) rfl hF1 d11_4 ?_
      refine own_icmpge_t H (pc' := 29) d11_7 (by decide) (by decide) (own_i3 (Nat.le_refl _) (by omega)) ?_
      refine own_iconst H (-1 : Int32) (by decide) d11_29 ?_
      exact own_ireturn H (by simp) rfl d11_30 (by decide) (by decide) ⟨rfl, rfl⟩
    | succ d ih =>
      intro j hj hj1
      refine own_iload_n H rfl d11_2 ?_
      refine own_aload_n H rfl rfl d11_3 ?_
      refine own_getfield H (w := 30) rfl hF1 d11_4 ?_
      refine own_icmpge_f H d11_7 (own_i2 (show j < M by omega) (by omega)) ?_
      refine own_aload_n H rfl rfl d11_10 ?_
      refine own_getfield H (w := 39) rfl hF2 d11_11 ?_
      refine own_iload_n H rfl d11_14 ?_
      refine own_laloadF H (v := (.long (0 : Int64))) hV (own_i1 (by omega)) (own_i2 (show j < M by omega) (by omega)) (by rw [own_cn (by omega)]; exact hz j (by omega) (by omega)) d11_15 ?_
      refine own_lconst H (0 : Int64) (by decide) d11_16 ?_
      refine own_lcmpeq_t H (pc' := 23) d11_17 d11_18 (by decide) (by decide) (by decide) ?_
      refine own_iinc H (1 : Int32) (by decide) rfl rfl #[.val (.ref q), .val (.int ((Int32.ofNat j) + (1 : Int32)))] rfl d11_23 ?_
      refine own_goto H (pc' := 2) d11_26 (by decide) (by decide) ?_
      rw [own_in]
      show own_G _ _ _ _ _ _ _ _ 2 #[.val (.ref q), .val (.int (Int32.ofNat (j + 1)))] []
      exact ih (j + 1) (by omega) (by omega)
  refine own_iconst H (1 : Int32) (by decide) d11_0 ?_
  refine own_istore_n H #[.val (.ref q), .val (.int (1 : Int32))] rfl d11_1 ?_
  exact key (M - 1) 1 (by omega) (by omega)
theorem d9_0 : decode prog_11_method_8_code 0 = .ok (.iconst 0, 1) := by decide +kernel
theorem d9_1 : decode prog_11_method_8_code 1 = .ok (.istore_n 1, 1) := by decide +kernel
theorem d9_2 : decode prog_11_method_8_code 2 = .ok (.iload_n 1, 1) := by decide +kernel
theorem d9_3 : decode prog_11_method_8_code 3 = .ok (.aload_n 0, 1) := by decide +kernel
theorem d9_4 : decode prog_11_method_8_code 4 = .ok (.getfield 25, 3) := by decide +kernel
theorem d9_7 : decode prog_11_method_8_code 7 = .ok (.if_icmp .ge 40, 3) := by decide +kernel
theorem d9_10 : decode prog_11_method_8_code 10 = .ok (.aload_n 0, 1) := by decide +kernel
theorem d9_11 : decode prog_11_method_8_code 11 = .ok (.getfield 38, 3) := by decide +kernel
theorem d9_14 : decode prog_11_method_8_code 14 = .ok (.iload_n 1, 1) := by decide +kernel
theorem d9_15 : decode prog_11_method_8_code 15 = .ok (.laload, 1) := by decide +kernel
theorem d9_16 : decode prog_11_method_8_code 16 = .ok (.lconst 0, 1) := by decide +kernel
theorem d9_17 : decode prog_11_method_8_code 17 = .ok (.lcmp, 1) := by decide +kernel
theorem d9_18 : decode prog_11_method_8_code 18 = .ok (.ifCond .eq 23, 3) := by decide +kernel
theorem d9_21 : decode prog_11_method_8_code 21 = .ok (.aload_n 0, 1) := by decide +kernel
theorem d9_22 : decode prog_11_method_8_code 22 = .ok (.getfield 42, 3) := by decide +kernel
theorem d9_25 : decode prog_11_method_8_code 25 = .ok (.aload_n 0, 1) := by decide +kernel
theorem d9_26 : decode prog_11_method_8_code 26 = .ok (.iload_n 1, 1) := by decide +kernel
theorem d9_27 : decode prog_11_method_8_code 27 = .ok (.aload_n 0, 1) := by decide +kernel
theorem d9_28 : decode prog_11_method_8_code 28 = .ok (.getfield 38, 3) := by decide +kernel
theorem d9_31 : decode prog_11_method_8_code 31 = .ok (.iload_n 1, 1) := by decide +kernel
theorem d9_32 : decode prog_11_method_8_code 32 = .ok (.laload, 1) := by decide +kernel
theorem d9_33 : decode prog_11_method_8_code 33 = .ok (.invokestatic 71, 3) := by decide +kernel
theorem d9_36 : decode prog_11_method_8_code 36 = .ok (.invokevirtual 74, 3) := by decide +kernel
theorem d9_39 : decode prog_11_method_8_code 39 = .ok (.ladd, 1) := by decide +kernel
theorem d9_40 : decode prog_11_method_8_code 40 = .ok (.lreturn, 1) := by decide +kernel
theorem d9_41 : decode prog_11_method_8_code 41 = .ok (.iinc 1 1, 3) := by decide +kernel
theorem d9_44 : decode prog_11_method_8_code 44 = .ok (.goto (-42), 3) := by decide +kernel
theorem d9_47 : decode prog_11_method_8_code 47 = .ok (.ldc2_w 86, 3) := by decide +kernel
theorem d9_50 : decode prog_11_method_8_code 50 = .ok (.lreturn, 1) := by decide +kernel
theorem own_pl9 : plainFor (⟨"com/example/ring_to_run/ringtorun/TickQueue", "nextInstant", "()J"⟩ : MethodName) = true := plainFor_of_name (by first | (simp [plainName, overriddenIn]; done) | decide +kernel)
theorem rmNiL (l : Launch) (Z : State) (a0 : Array Value) (hw : ∀ (i : Nat) (d : Jvm.Cond), tables_1[i]? = some d → d.before a0 Z = true) (h0 : Heap) (n0 : Nat) (q : Addr) (aO : Addr) (kO : ClassId) (M : Nat) (of : Nat → Value) (st : Int64) (cur : Int64) (L : Nat) (w : Int64) (hE : Exa Z h0 q "com/example/ring_to_run/ringtorun/TickQueue") (hF1 : Fld Z h0 q "com/example/ring_to_run/ringtorun/TickQueue" "levels" "I" (.int (Int32.ofNat M))) (hF2 : Fld Z h0 q "com/example/ring_to_run/ringtorun/TickQueue" "occupied" "[J" (.ref aO)) (hV : own_Af Z h0 aO kO .long (Int32.ofNat M) (.long 0) of) (hF3 : Fld Z h0 q "com/example/ring_to_run/ringtorun/TickQueue" "start" "J" (.long st)) (hF4 : Fld Z h0 q "com/example/ring_to_run/ringtorun/TickQueue" "cursor" "J" (.long cur)) (hM : M ≤ 11) (hz : ∀ j, j < L → of j = .long 0) (hL : L < M) (hw0 : of L = .long w) (hw1 : ¬ w = 0) :
    own_C l Z (⟨"com/example/ring_to_run/ringtorun/TickQueue", "nextInstant", "()J"⟩ : MethodName) prog_11_method_8_code 2 (some .long) ({ frames := 2, cells := 0, slots := 0, locals := 40 } : Room) #[(.ref q)] h0 n0 (fun v h' => v = some (.long (st + (FFo (Int32.ofNat L) (FNtzL w) cur))) ∧ h0 = h') := by
  refine own_met (Ls := #[.val (.ref q), .unset]) hw own_pl9 (fun m => by first | (simp [entryFrame, mkF, argsToLocals, Value.category]; done) | rfl) ?_
  intro B H
  have key : ∀ (d j : Nat), j + d = L → own_G B n0 (fun v h' => v = some (.long (st + (FFo (Int32.ofNat L) (FNtzL w) cur))) ∧ h0 = h') 0 0 0 0 h0 2 #[.val (.ref q), .val (.int (Int32.ofNat j))] [] := by
    intro d
    induction d with
    | zero =>
      intro j hj
      obtain rfl : L = j := by omega
      refine own_iload_n H rfl d9_2 ?_
      refine own_aload_n H rfl rfl d9_3 ?_
      refine own_getfield H (w := 30) rfl hF1 d9_4 ?_
      refine own_icmpge_f H d9_7 (own_i2 hL (by omega)) ?_
      refine own_aload_n H rfl rfl d9_10 ?_
      refine own_getfield H (w := 39) rfl hF2 d9_11 ?_
      refine own_iload_n H rfl d9_14 ?_
      refine own_laloadF H (v := (.long w)) hV (own_i1 (by omega)) (own_i2 hL (by omega)) (by rw [own_cn (by omega)]; exact hw0) d9_15 ?_
      refine own_lconst H (0 : Int64) (by decide) d9_16 ?_
      refine own_lcmpeq_f H d9_17 d9_18 hw1 ?_
      refine own_aload_n H rfl rfl d9_21 ?_
      refine own_getfield H (w := 41) rfl hF3 d9_22 ?_
      refine own_aload_n H rfl rfl d9_25 ?_
      refine own_iload_n H rfl d9_26 ?_
      refine own_aload_n H rfl rfl d9_27 ?_
      refine own_getfield H (w := 39) rfl hF2 d9_28 ?_
      refine own_iload_n H rfl d9_31 ?_
      refine own_laloadF H (v := (.long w)) hV (own_i1 (by omega)) (own_i2 hL (by omega)) (by rw [own_cn (by omega)]; exact hw0) d9_32 ?_
      refine own_invokestatic H (argsL := [(.long w)]) (rest := [(.int (Int32.ofNat L)), (.ref q), (.long st)]) (rmNtzL l Z a0 (own_hw H) h0 n0 w) (w1 := 117) (w2 := 118) (w3 := 21) (w4 := 119) rfl rfl rfl rfl own_pd3 rfl 4 (by decide) rfl (by decide) (Nat.le_of_eq rfl) (by decide) (by decide) (by decide) rfl d9_33 ?_
      rintro _ _ ⟨rfl, rfl⟩
      show own_G _ _ _ _ _ _ _ _ 36 #[.val (.ref q), .val (.int (Int32.ofNat L))] [(.int (FNtzL w)), (.int (Int32.ofNat L)), (.ref q), (.long st)]
      refine own_invokepriv H (a := q) (argsL := [(.int (Int32.ofNat L)), (.int (FNtzL w))]) (rest := [(.long st)]) (rmFo l Z a0 (own_hw H) h0 n0 q (Int32.ofNat L) (FNtzL w) cur hF4) hE (w1 := 123) (w2 := 124) (w5 := 9) (w6 := 125) (w3 := 10) (w4 := 126) rfl rfl rfl rfl rfl rfl own_pd6 rfl 2 (by decide) rfl (by decide) (Nat.le_of_eq rfl) (by decide) (by decide) (by decide) rfl d9_36 ?_
      rintro _ _ ⟨rfl, rfl⟩
      show own_G _ _ _ _ _ _ _ _ 39 #[.val (.ref q), .val (.int (Int32.ofNat L))] [(.long (FFo (Int32.ofNat L) (FNtzL w) cur)), (.long st)]
      refine own_ladd H rfl d9_39 ?_
      exact own_lreturn H d9_40 (by decide) (by decide) ⟨rfl, rfl⟩
    | succ d ih =>
      intro j hj
      refine own_iload_n H rfl d9_2 ?_
      refine own_aload_n H rfl rfl d9_3 ?_
      refine own_getfield H (w := 30) rfl hF1 d9_4 ?_
      refine own_icmpge_f H d9_7 (own_i2 (show j < M by omega) (by omega)) ?_
      refine own_aload_n H rfl rfl d9_10 ?_
      refine own_getfield H (w := 39) rfl hF2 d9_11 ?_
      refine own_iload_n H rfl d9_14 ?_
      refine own_laloadF H (v := (.long (0 : Int64))) hV (own_i1 (by omega)) (own_i2 (show j < M by omega) (by omega)) (by rw [own_cn (by omega)]; exact hz j (by omega)) d9_15 ?_
      refine own_lconst H (0 : Int64) (by decide) d9_16 ?_
      refine own_lcmpeq_t H (pc' := 41) d9_17 d9_18 (by decide) (by decide) (by decide) ?_
      refine own_iinc H (1 : Int32) (by decide) rfl rfl #[.val (.ref q), .val (.int ((Int32.ofNat j) + (1 : Int32)))] rfl d9_41 ?_
      refine own_goto H (pc' := 2) d9_44 (by decide) (by decide) ?_
      rw [own_in]
      show own_G _ _ _ _ _ _ _ _ 2 #[.val (.ref q), .val (.int (Int32.ofNat (j + 1)))] []
      exact ih (j + 1) (by omega)
  refine own_iconst H (0 : Int32) (by decide) d9_0 ?_
  refine own_istore_n H #[.val (.ref q), .val (.int (0 : Int32))] rfl d9_1 ?_
  exact key L 0 (by omega)
theorem rmNiM (l : Launch) (Z : State) (a0 : Array Value) (hw : ∀ (i : Nat) (d : Jvm.Cond), tables_1[i]? = some d → d.before a0 Z = true) (h0 : Heap) (n0 : Nat) (q : Addr) (aO : Addr) (kO : ClassId) (M : Nat) (of : Nat → Value) (st : Int64) (cur : Int64) (hE : Exa Z h0 q "com/example/ring_to_run/ringtorun/TickQueue") (hF1 : Fld Z h0 q "com/example/ring_to_run/ringtorun/TickQueue" "levels" "I" (.int (Int32.ofNat M))) (hF2 : Fld Z h0 q "com/example/ring_to_run/ringtorun/TickQueue" "occupied" "[J" (.ref aO)) (hV : own_Af Z h0 aO kO .long (Int32.ofNat M) (.long 0) of) (hF3 : Fld Z h0 q "com/example/ring_to_run/ringtorun/TickQueue" "start" "J" (.long st)) (hF4 : Fld Z h0 q "com/example/ring_to_run/ringtorun/TickQueue" "cursor" "J" (.long cur)) (hM : M ≤ 11) (hz : ∀ j, j < M → of j = .long 0) :
    own_C l Z (⟨"com/example/ring_to_run/ringtorun/TickQueue", "nextInstant", "()J"⟩ : MethodName) prog_11_method_8_code 2 (some .long) ({ frames := 2, cells := 0, slots := 0, locals := 40 } : Room) #[(.ref q)] h0 n0 (fun v h' => v = some (.long (9223372036854775807 : Int64)) ∧ h0 = h') := by
  refine own_met (Ls := #[.val (.ref q), .unset]) hw own_pl9 (fun m => by first | (simp [entryFrame, mkF, argsToLocals, Value.category]; done) | rfl) ?_
  intro B H
  have key : ∀ (d j : Nat), j + d = M → own_G B n0 (fun v h' => v = some (.long (9223372036854775807 : Int64)) ∧ h0 = h') 0 0 0 0 h0 2 #[.val (.ref q), .val (.int (Int32.ofNat j))] [] := by
    intro d
    induction d with
    | zero =>
      intro j hj
      obtain rfl : M = j := by omega
      refine own_iload_n H rfl d9_2 ?_
      refine own_aload_n H rfl rfl d9_3 ?_
      refine own_getfield H (w := 30) rfl hF1 d9_4 ?_
      refine own_icmpge_t H (pc' := 47) d9_7 (by decide) (by decide) (own_i3 (Nat.le_refl _) (by omega)) ?_
      refine own_ldc2J H (w := 70) rfl d9_47 ?_
      exact own_lreturn H d9_50 (by decide) (by decide) ⟨rfl, rfl⟩
    | succ d ih =>
      intro j hj
      refine own_iload_n H rfl d9_2 ?_
      refine own_aload_n H rfl rfl d9_3 ?_
      refine own_getfield H (w := 30) rfl hF1 d9_4 ?_
      refine own_icmpge_f H d9_7 (own_i2 (show j < M by omega) (by omega)) ?_
      refine own_aload_n H rfl rfl d9_10 ?_
      refine own_getfield H (w := 39) rfl hF2 d9_11 ?_
      refine own_iload_n H rfl d9_14 ?_
      refine own_laloadF H (v := (.long (0 : Int64))) hV (own_i1 (by omega)) (own_i2 (show j < M by omega) (by omega)) (by rw [own_cn (by omega)]; exact hz j (by omega)) d9_15 ?_
      refine own_lconst H (0 : Int64) (by decide) d9_16 ?_
      refine own_lcmpeq_t H (pc' := 41) d9_17 d9_18 (by decide) (by decide) (by decide) ?_
      refine own_iinc H (1 : Int32) (by decide) rfl rfl #[.val (.ref q), .val (.int ((Int32.ofNat j) + (1 : Int32)))] rfl d9_41 ?_
      refine own_goto H (pc' := 2) d9_44 (by decide) (by decide) ?_
      rw [own_in]
      show own_G _ _ _ _ _ _ _ _ 2 #[.val (.ref q), .val (.int (Int32.ofNat (j + 1)))] []
      exact ih (j + 1) (by omega)
  refine own_iconst H (0 : Int32) (by decide) d9_0 ?_
  refine own_istore_n H #[.val (.ref q), .val (.int (0 : Int32))] rfl d9_1 ?_
  exact key M 0 (by omega)
theorem d10_0 : decode prog_11_method_7_code 0 = .ok (.lload_n 1, 1) := by decide +kernel
theorem d10_1 : decode prog_11_method_7_code 1 = .ok (.aload_n 0, 1) := by decide +kernel
theorem d10_2 : decode prog_11_method_7_code 2 = .ok (.getfield 42, 3) := by decide +kernel
theorem d10_5 : decode prog_11_method_7_code 5 = .ok (.lsub, 1) := by decide +kernel
theorem d10_6 : decode prog_11_method_7_code 6 = .ok (.lstore_n 3, 1) := by decide +kernel
theorem d10_7 : decode prog_11_method_7_code 7 = .ok (.aload_n 0, 1) := by decide +kernel
theorem d10_8 : decode prog_11_method_7_code 8 = .ok (.getfield 38, 3) := by decide +kernel
theorem d10_11 : decode prog_11_method_7_code 11 = .ok (.iconst 0, 1) := by decide +kernel
theorem d10_12 : decode prog_11_method_7_code 12 = .ok (.laload, 1) := by decide +kernel
theorem d10_13 : decode prog_11_method_7_code 13 = .ok (.lconst 0, 1) := by decide +kernel
theorem d10_14 : decode prog_11_method_7_code 14 = .ok (.lcmp, 1) := by decide +kernel
theorem d10_15 : decode prog_11_method_7_code 15 = .ok (.ifCond .eq 52, 3) := by decide +kernel
theorem d10_18 : decode prog_11_method_7_code 18 = .ok (.aload_n 0, 1) := by decide +kernel
theorem d10_19 : decode prog_11_method_7_code 19 = .ok (.getfield 38, 3) := by decide +kernel
theorem d10_22 : decode prog_11_method_7_code 22 = .ok (.iconst 0, 1) := by decide +kernel
theorem d10_23 : decode prog_11_method_7_code 23 = .ok (.laload, 1) := by decide +kernel
theorem d10_24 : decode prog_11_method_7_code 24 = .ok (.invokestatic 71, 3) := by decide +kernel
theorem d10_27 : decode prog_11_method_7_code 27 = .ok (.istore 5, 2) := by decide +kernel
theorem d10_29 : decode prog_11_method_7_code 29 = .ok (.aload_n 0, 1) := by decide +kernel
theorem d10_30 : decode prog_11_method_7_code 30 = .ok (.iconst 0, 1) := by decide +kernel
theorem d10_31 : decode prog_11_method_7_code 31 = .ok (.iload 5, 2) := by decide +kernel
theorem d10_33 : decode prog_11_method_7_code 33 = .ok (.invokevirtual 74, 3) := by decide +kernel
theorem d10_36 : decode prog_11_method_7_code 36 = .ok (.lstore 6, 2) := by decide +kernel
theorem d10_38 : decode prog_11_method_7_code 38 = .ok (.lload 6, 2) := by decide +kernel
theorem d10_40 : decode prog_11_method_7_code 40 = .ok (.lload_n 3, 1) := by decide +kernel
theorem d10_41 : decode prog_11_method_7_code 41 = .ok (.lcmp, 1) := by decide +kernel
theorem d10_42 : decode prog_11_method_7_code 42 = .ok (.ifCond .le 5, 3) := by decide +kernel
theorem d10_45 : decode prog_11_method_7_code 45 = .ok (.aconst_null, 1) := by decide +kernel
theorem d10_46 : decode prog_11_method_7_code 46 = .ok (.areturn, 1) := by decide +kernel
theorem d10_47 : decode prog_11_method_7_code 47 = .ok (.aload_n 0, 1) := by decide +kernel
theorem d10_48 : decode prog_11_method_7_code 48 = .ok (.getfield 31, 3) := by decide +kernel
theorem d10_51 : decode prog_11_method_7_code 51 = .ok (.iload 5, 2) := by decide +kernel
theorem d10_53 : decode prog_11_method_7_code 53 = .ok (.aaload, 1) := by decide +kernel
theorem d10_54 : decode prog_11_method_7_code 54 = .ok (.astore 8, 2) := by decide +kernel
theorem d10_56 : decode prog_11_method_7_code 56 = .ok (.aload_n 0, 1) := by decide +kernel
theorem d10_57 : decode prog_11_method_7_code 57 = .ok (.aload 8, 2) := by decide +kernel
theorem d10_59 : decode prog_11_method_7_code 59 = .ok (.iload 5, 2) := by decide +kernel
theorem d10_61 : decode prog_11_method_7_code 61 = .ok (.invokevirtual 68, 3) := by decide +kernel
theorem d10_64 : decode prog_11_method_7_code 64 = .ok (.aload 8, 2) := by decide +kernel
theorem d10_66 : decode prog_11_method_7_code 66 = .ok (.areturn, 1) := by decide +kernel
theorem d10_67 : decode prog_11_method_7_code 67 = .ok (.aload_n 0, 1) := by decide +kernel
theorem d10_68 : decode prog_11_method_7_code 68 = .ok (.invokevirtual 78, 3) := by decide +kernel
theorem d10_71 : decode prog_11_method_7_code 71 = .ok (.istore 5, 2) := by decide +kernel
theorem d10_73 : decode prog_11_method_7_code 73 = .ok (.iload 5, 2) := by decide +kernel
theorem d10_75 : decode prog_11_method_7_code 75 = .ok (.ifCond .ge 5, 3) := by decide +kernel
theorem d10_78 : decode prog_11_method_7_code 78 = .ok (.aconst_null, 1) := by decide +kernel
theorem d10_79 : decode prog_11_method_7_code 79 = .ok (.areturn, 1) := by decide +kernel
theorem d10_80 : decode prog_11_method_7_code 80 = .ok (.aload_n 0, 1) := by decide +kernel
theorem d10_81 : decode prog_11_method_7_code 81 = .ok (.getfield 38, 3) := by decide +kernel
theorem d10_84 : decode prog_11_method_7_code 84 = .ok (.iload 5, 2) := by decide +kernel
theorem d10_86 : decode prog_11_method_7_code 86 = .ok (.laload, 1) := by decide +kernel
theorem d10_87 : decode prog_11_method_7_code 87 = .ok (.invokestatic 71, 3) := by decide +kernel
theorem d10_90 : decode prog_11_method_7_code 90 = .ok (.istore 6, 2) := by decide +kernel
theorem d10_92 : decode prog_11_method_7_code 92 = .ok (.aload_n 0, 1) := by decide +kernel
theorem d10_93 : decode prog_11_method_7_code 93 = .ok (.iload 5, 2) := by decide +kernel
theorem d10_95 : decode prog_11_method_7_code 95 = .ok (.iload 6, 2) := by decide +kernel
theorem d10_97 : decode prog_11_method_7_code 97 = .ok (.invokevirtual 74, 3) := by decide +kernel
theorem d10_100 : decode prog_11_method_7_code 100 = .ok (.lstore 7, 2) := by decide +kernel
theorem d10_102 : decode prog_11_method_7_code 102 = .ok (.lload 7, 2) := by decide +kernel
theorem d10_104 : decode prog_11_method_7_code 104 = .ok (.lload_n 3, 1) := by decide +kernel
theorem d10_105 : decode prog_11_method_7_code 105 = .ok (.lcmp, 1) := by decide +kernel
theorem d10_106 : decode prog_11_method_7_code 106 = .ok (.ifCond .le 5, 3) := by decide +kernel
theorem d10_109 : decode prog_11_method_7_code 109 = .ok (.aconst_null, 1) := by decide +kernel
theorem d10_110 : decode prog_11_method_7_code 110 = .ok (.areturn, 1) := by decide +kernel
theorem d10_111 : decode prog_11_method_7_code 111 = .ok (.aload_n 0, 1) := by decide +kernel
theorem d10_112 : decode prog_11_method_7_code 112 = .ok (.lload 7, 2) := by decide +kernel
theorem d10_114 : decode prog_11_method_7_code 114 = .ok (.putfield 45, 3) := by decide +kernel
theorem d10_117 : decode prog_11_method_7_code 117 = .ok (.aload_n 0, 1) := by decide +kernel
theorem d10_118 : decode prog_11_method_7_code 118 = .ok (.iload 5, 2) := by decide +kernel
theorem d10_120 : decode prog_11_method_7_code 120 = .ok (.bipush 64, 2) := by decide +kernel
theorem d10_122 : decode prog_11_method_7_code 122 = .ok (.imul, 1) := by decide +kernel
theorem d10_123 : decode prog_11_method_7_code 123 = .ok (.iload 6, 2) := by decide +kernel
theorem d10_125 : decode prog_11_method_7_code 125 = .ok (.iadd, 1) := by decide +kernel
theorem d10_126 : decode prog_11_method_7_code 126 = .ok (.invokevirtual 82, 3) := by decide +kernel
theorem d10_129 : decode prog_11_method_7_code 129 = .ok (.goto (-122), 3) := by decide +kernel
theorem own_pl10 : plainFor (⟨"com/example/ring_to_run/ringtorun/TickQueue", "poll", "(J)Lcom/example/ring_to_run/ringtorun/Task;"⟩ : MethodName) = true := plainFor_of_name (by first | (simp [plainName, overriddenIn]; done) | decide +kernel)
theorem own_pd12 : parseMethodDescriptor "(J)Lcom/example/ring_to_run/ringtorun/Task;" = some ⟨[.long], some (.object "com/example/ring_to_run/ringtorun/Task")⟩ := by decide +kernel
set_option maxHeartbeats 8000000 in
theorem rmPoE (l : Launch) (Z : State) (a0 : Array Value) (hw : ∀ (i : Nat) (d : Jvm.Cond), tables_1[i]? = some d → d.before a0 Z = true) (h0 : Heap) (n0 : Nat) (q : Addr) (ta : Addr) (tb : Addr) (aH : Addr) (aT : Addr) (aO : Addr) (kH : ClassId) (kT : ClassId) (kO : ClassId) (M : Nat) (st : Int64) (da : Int64) (db : Int64) (cur : Int64) (hf : Nat → Value) (tf : Nat → Value) (pa : Value) (na : Value) (pb : Value) (nb : Value) (t : Int64) (hQ : own_Qu Z n0 h0 q ta tb aH aT aO kH kT kO M st da db cur hf tf own_o0 pa na pb nb) (hM : M ≤ 11) (hM0 : 1 ≤ M) :
    own_C l Z (⟨"com/example/ring_to_run/ringtorun/TickQueue", "poll", "(J)Lcom/example/ring_to_run/ringtorun/Task;"⟩ : MethodName) prog_11_method_7_code 9 (some (.object "com/example/ring_to_run/ringtorun/Task")) ({ frames := 4, cells := 0, slots := 0, locals := 100 } : Room) #[(.ref q), (.long t)] h0 n0 (fun v h' => v = some .null ∧ own_Qu Z n0 h' q ta tb aH aT aO kH kT kO M st da db cur hf tf own_o0 pa na pb nb) := by
  refine own_met (Ls := #[.val (.ref q), .val (.long t), .second, .unset, .unset, .unset, .unset, .unset, .unset]) hw own_pl10 (fun m => by first | (simp [entryFrame, mkF, argsToLocals, Value.category]; done) | rfl) ?_
  intro B H
  obtain ⟨⟨u1, u2, u3, u4, u5, u6, u7⟩, ⟨u8, u9, u10, u11, u12, u13, u14, u15, u16, u17, u18, u19, u20, u21, u22⟩, ⟨u23, u24, u25, u26, u27⟩, ⟨u28, u29, u30, u31, u32, u33⟩, ⟨u34, u35, u36⟩, ⟨u37, u38, u39⟩, ⟨u40, u41, u42⟩⟩ := hQ
  refine own_lload_n H rfl d10_0 ?_
  refine own_aload_n H rfl rfl d10_1 ?_
  refine own_getfield H (w := 41) rfl u32 d10_2 ?_
  refine own_lsub H rfl d10_5 ?_
  refine own_lstore_n H #[.val (.ref q), .val (.long t), .second, .val (.long (t - st)), .second, .unset, .unset, .unset, .unset] rfl d10_6 ?_
  refine own_aload_n H rfl rfl d10_7 ?_
  refine own_getfield H (w := 39) rfl u31 d10_8 ?_
  refine own_iconst H (0 : Int32) (by decide) d10_11 ?_
  refine own_laloadF H (v := (.long (0 : Int64))) u42 (by decide) (own_z2 (by omega) hM) rfl d10_12 ?_
  refine own_lconst H (0 : Int64) (by decide) d10_13 ?_
  refine own_lcmpeq_t H (pc' := 67) d10_14 d10_15 (by decide) (by decide) (by decide) ?_
  refine own_aload_n H rfl rfl d10_67 ?_
  refine own_invokepriv H (a := q) (argsL := []) (rest := []) (rmLoM l Z a0 (own_hw H) h0 n0 q aO kO M own_o0 u23 u28 u31 u42 hM (fun _ _ _ => rfl) hM0) u23 (w1 := 76) (w2 := 77) (w5 := 9) (w6 := 78) (w3 := 10) (w4 := 79) rfl rfl rfl rfl rfl rfl own_pd11 rfl 0 (by decide) rfl (by decide) (Nat.le_of_eq rfl) (by decide) (by decide) (by decide) rfl d10_68 ?_
  rintro _ _ ⟨rfl, rfl⟩
  show own_G _ _ _ _ _ _ _ _ 71 #[.val (.ref q), .val (.long t), .second, .val (.long (t - st)), .second, .unset, .unset, .unset, .unset] [(.int (-1 : Int32))]
  refine own_istore H #[.val (.ref q), .val (.long t), .second, .val (.long (t - st)), .second, .val (.int (-1 : Int32)), .unset, .unset, .unset] rfl d10_71 ?_
  refine own_iload H rfl d10_73 ?_
  refine own_ifge_f H d10_75 (by decide) ?_
  refine own_aconst_null H d10_78 ?_
  exact own_areturn H rfl rfl rfl d10_79 (by decide) (by decide) ⟨rfl, ⟨⟨u1, u2, u3, u4, u5, u6, u7⟩, ⟨u8, u9, u10, u11, u12, u13, u14, u15, u16, u17, u18, u19, u20, u21, u22⟩, ⟨u23, u24, u25, u26, u27⟩, ⟨u28, u29, u30, u31, u32, u33⟩, ⟨u34, u35, u36⟩, ⟨u37, u38, u39⟩, ⟨u40, u41, u42⟩⟩⟩
theorem own_T0a_0 {B : own_B} {l : Launch} {Z : State} {a0 : Array Value} (H : own_Ok B Z a0 l ({ frames := 4, cells := 0, slots := 0, locals := 100 } : Room) (⟨"com/example/ring_to_run/ringtorun/TickQueue", "poll", "(J)Lcom/example/ring_to_run/ringtorun/Task;"⟩ : MethodName) prog_11_method_7_code 9 (some (.object "com/example/ring_to_run/ringtorun/Task"))) {h : Heap} {n0 : Nat} {Q : Option Value → Heap → Prop} {q : Addr} {ta : Addr} {tb : Addr} {aH : Addr} {aT : Addr} {aO : Addr} {kH : ClassId} {kT : ClassId} {kO : ClassId} {M : Nat} {st : Int64} {da : Int64} {db : Int64} {cur : Int64} {pb nb : Value} {K : Nat} {t u o : Int64} (hQ : own_Qu Z n0 h q ta tb aH aT aO kH kT kO M st da db cur (own_h1 ta K) (own_h1 ta K) (own_o1 K) .null .null pb nb) (hM : M ≤ 11) (hK : K < 64 * M) (hS : K < 64) (hb : ¬ (FBit (Int32.ofNat K)) = 0) (hN : FNtzL (FBit (Int32.ofNat K)) = Int32.ofNat K) (hO : FFo (0 : Int32) (Int32.ofNat K) cur = o) (hu : u < o) (k : ∀ h', own_Qu Z n0 h' q ta tb aH aT aO kH kT kO M st da db cur (own_h1 ta K) (own_h1 ta K) (own_o1 K) .null .null pb nb → Q (some .null) h') : own_G B n0 Q 0 0 0 0 h 7 #[.val (.ref q), .val (.long t), .second, .val (.long u), .second, .unset, .unset, .unset, .unset] [] := by
  obtain ⟨⟨u1, u2, u3, u4, u5, u6, u7⟩, ⟨u8, u9, u10, u11, u12, u13, u14, u15, u16, u17, u18, u19, u20, u21, u22⟩, ⟨u23, u24, u25, u26, u27⟩, ⟨u28, u29, u30, u31, u32, u33⟩, ⟨u34, u35, u36⟩, ⟨u37, u38, u39⟩, ⟨u40, u41, u42⟩⟩ := hQ
  refine own_aload_n H rfl rfl d10_7 ?_
  refine own_getfield H (w := 39) rfl u31 d10_8 ?_
  refine own_iconst H (0 : Int32) (by decide) d10_11 ?_
  refine own_laloadF H (v := (.long (FBit (Int32.ofNat K)))) u42 (by decide) (own_z2 (by omega) hM) (own_o1z hS) d10_12 ?_
  refine own_lconst H (0 : Int64) (by decide) d10_13 ?_
  refine own_lcmpeq_f H d10_14 d10_15 hb ?_
  refine own_aload_n H rfl rfl d10_18 ?_
  refine own_getfield H (w := 39) rfl u31 d10_19 ?_
  refine own_iconst H (0 : Int32) (by decide) d10_22 ?_
  refine own_laloadF H (v := (.long (FBit (Int32.ofNat K)))) u42 (by decide) (own_z2 (by omega) hM) (own_o1z hS) d10_23 ?_
  refine own_invokestatic H (argsL := [(.long (FBit (Int32.ofNat K)))]) (rest := []) (rmNtzL l Z a0 (own_hw H) h n0 (FBit (Int32.ofNat K))) (w1 := 117) (w2 := 118) (w3 := 21) (w4 := 119) rfl rfl rfl rfl own_pd3 rfl 0 (by decide) rfl (by decide) (Nat.le_of_eq rfl) (by decide) (by decide) (by decide) rfl d10_24 ?_
  rintro _ _ ⟨rfl, rfl⟩
  show own_G _ _ _ _ _ _ _ _ 27 #[.val (.ref q), .val (.long t), .second, .val (.long u), .second, .unset, .unset, .unset, .unset] [(.int (FNtzL (FBit (Int32.ofNat K))))]
  rw [hN]
  show own_G _ _ _ _ _ _ _ _ 27 #[.val (.ref q), .val (.long t), .second, .val (.long u), .second, .unset, .unset, .unset, .unset] [(.int (Int32.ofNat K))]
  refine own_istore H #[.val (.ref q), .val (.long t), .second, .val (.long u), .second, .val (.int (Int32.ofNat K)), .unset, .unset, .unset] rfl d10_27 ?_
  refine own_aload_n H rfl rfl d10_29 ?_
  refine own_iconst H (0 : Int32) (by decide) d10_30 ?_
  refine own_iload H rfl d10_31 ?_
  refine own_invokepriv H (a := q) (argsL := [(.int (0 : Int32)), (.int (Int32.ofNat K))]) (rest := []) (rmFo l Z a0 (own_hw H) h n0 q (0 : Int32) (Int32.ofNat K) cur u33) u23 (w1 := 123) (w2 := 124) (w5 := 9) (w6 := 125) (w3 := 10) (w4 := 126) rfl rfl rfl rfl rfl rfl own_pd6 rfl 0 (by decide) rfl (by decide) (Nat.le_of_eq rfl) (by decide) (by decide) (by decide) rfl d10_33 ?_
  rintro _ _ ⟨rfl, rfl⟩
  show own_G _ _ _ _ _ _ _ _ 36 #[.val (.ref q), .val (.long t), .second, .val (.long u), .second, .val (.int (Int32.ofNat K)), .unset, .unset, .unset] [(.long (FFo (0 : Int32) (Int32.ofNat K) cur))]
  rw [hO]
  show own_G _ _ _ _ _ _ _ _ 36 #[.val (.ref q), .val (.long t), .second, .val (.long u), .second, .val (.int (Int32.ofNat K)), .unset, .unset, .unset] [(.long o)]
  refine own_lstore H #[.val (.ref q), .val (.long t), .second, .val (.long u), .second, .val (.int (Int32.ofNat K)), .val (.long o), .second, .unset] rfl d10_36 ?_
  refine own_lload H rfl d10_38 ?_
  refine own_lload_n H rfl d10_40 ?_
  refine own_lcmple_f H d10_41 d10_42 hu ?_
  refine own_aconst_null H d10_45 ?_
  exact own_areturn H rfl rfl rfl d10_46 (by decide) (by decide) (k _ ⟨⟨u1, u2, u3, u4, u5, u6, u7⟩, ⟨u8, u9, u10, u11, u12, u13, u14, u15, u16, u17, u18, u19, u20, u21, u22⟩, ⟨u23, u24, u25, u26, u27⟩, ⟨u28, u29, u30, u31, u32, u33⟩, ⟨u34, u35, u36⟩, ⟨u37, u38, u39⟩, ⟨u40, u41, u42⟩⟩)
theorem own_T0a_1 {B : own_B} {l : Launch} {Z : State} {a0 : Array Value} (H : own_Ok B Z a0 l ({ frames := 4, cells := 0, slots := 0, locals := 100 } : Room) (⟨"com/example/ring_to_run/ringtorun/TickQueue", "poll", "(J)Lcom/example/ring_to_run/ringtorun/Task;"⟩ : MethodName) prog_11_method_7_code 9 (some (.object "com/example/ring_to_run/ringtorun/Task"))) {h : Heap} {n0 : Nat} {Q : Option Value → Heap → Prop} {q : Addr} {ta : Addr} {tb : Addr} {aH : Addr} {aT : Addr} {aO : Addr} {kH : ClassId} {kT : ClassId} {kO : ClassId} {M : Nat} {st : Int64} {da : Int64} {db : Int64} {cur : Int64} {pb nb : Value} {K : Nat} {t u o x7 : Int64} {x5 x6 : Int32} (hQ : own_Qu Z n0 h q ta tb aH aT aO kH kT kO M st da db cur (own_h1 ta K) (own_h1 ta K) (own_o1 K) .null .null pb nb) (hM : M ≤ 11) (hK : K < 64 * M) (hS : K < 64) (hb : ¬ (FBit (Int32.ofNat K)) = 0) (hN : FNtzL (FBit (Int32.ofNat K)) = Int32.ofNat K) (hO : FFo (0 : Int32) (Int32.ofNat K) cur = o) (hu : u < o) (k : ∀ h', own_Qu Z n0 h' q ta tb aH aT aO kH kT kO M st da db cur (own_h1 ta K) (own_h1 ta K) (own_o1 K) .null .null pb nb → Q (some .null) h') : own_G B n0 Q 0 0 0 0 h 7 #[.val (.ref q), .val (.long t), .second, .val (.long u), .second, .val (.int x5), .val (.int x6), .val (.long x7), .second] [] := by
  obtain ⟨⟨u1, u2, u3, u4, u5, u6, u7⟩, ⟨u8, u9, u10, u11, u12, u13, u14, u15, u16, u17, u18, u19, u20, u21, u22⟩, ⟨u23, u24, u25, u26, u27⟩, ⟨u28, u29, u30, u31, u32, u33⟩, ⟨u34, u35, u36⟩, ⟨u37, u38, u39⟩, ⟨u40, u41, u42⟩⟩ := hQ
  refine own_aload_n H rfl rfl d10_7 ?_
  refine own_getfield H (w := 39) rfl u31 d10_8 ?_
  refine own_iconst H (0 : Int32) (by decide) d10_11 ?_
  refine own_laloadF H (v := (.long (FBit (Int32.ofNat K)))) u42 (by decide) (own_z2 (by omega) hM) (own_o1z hS) d10_12 ?_
  refine own_lconst H (0 : Int64) (by decide) d10_13 ?_
  refine own_lcmpeq_f H d10_14 d10_15 hb ?_
  refine own_aload_n H rfl rfl d10_18 ?_
  refine own_getfield H (w := 39) rfl u31 d10_19 ?_
  refine own_iconst H (0 : Int32) (by decide) d10_22 ?_
  refine own_laloadF H (v := (.long (FBit (Int32.ofNat K)))) u42 (by decide) (own_z2 (by omega) hM) (own_o1z hS) d10_23 ?_
  refine own_invokestatic H (argsL := [(.long (FBit (Int32.ofNat K)))]) (rest := []) (rmNtzL l Z a0 (own_hw H) h n0 (FBit (Int32.ofNat K))) (w1 := 117) (w2 := 118) (w3 := 21) (w4 := 119) rfl rfl rfl rfl own_pd3 rfl 0 (by decide) rfl (by decide) (Nat.le_of_eq rfl) (by decide) (by decide) (by decide) rfl d10_24 ?_
  rintro _ _ ⟨rfl, rfl⟩
  show own_G _ _ _ _ _ _ _ _ 27 #[.val (.ref q), .val (.long t), .second, .val (.long u), .second, .val (.int x5), .val (.int x6), .val (.long x7), .second] [(.int (FNtzL (FBit (Int32.ofNat K))))]
  rw [hN]
  show own_G _ _ _ _ _ _ _ _ 27 #[.val (.ref q), .val (.long t), .second, .val (.long u), .second, .val (.int x5), .val (.int x6), .val (.long x7), .second] [(.int (Int32.ofNat K))]
  refine own_istore H #[.val (.ref q), .val (.long t), .second, .val (.long u), .second, .val (.int (Int32.ofNat K)), .val (.int x6), .val (.long x7), .second] rfl d10_27 ?_
  refine own_aload_n H rfl rfl d10_29 ?_
  refine own_iconst H (0 : Int32) (by decide) d10_30 ?_
  refine own_iload H rfl d10_31 ?_
  refine own_invokepriv H (a := q) (argsL := [(.int (0 : Int32)), (.int (Int32.ofNat K))]) (rest := []) (rmFo l Z a0 (own_hw H) h n0 q (0 : Int32) (Int32.ofNat K) cur u33) u23 (w1 := 123) (w2 := 124) (w5 := 9) (w6 := 125) (w3 := 10) (w4 := 126) rfl rfl rfl rfl rfl rfl own_pd6 rfl 0 (by decide) rfl (by decide) (Nat.le_of_eq rfl) (by decide) (by decide) (by decide) rfl d10_33 ?_
  rintro _ _ ⟨rfl, rfl⟩
  show own_G _ _ _ _ _ _ _ _ 36 #[.val (.ref q), .val (.long t), .second, .val (.long u), .second, .val (.int (Int32.ofNat K)), .val (.int x6), .val (.long x7), .second] [(.long (FFo (0 : Int32) (Int32.ofNat K) cur))]
  rw [hO]
  show own_G _ _ _ _ _ _ _ _ 36 #[.val (.ref q), .val (.long t), .second, .val (.long u), .second, .val (.int (Int32.ofNat K)), .val (.int x6), .val (.long x7), .second] [(.long o)]
  refine own_lstore H #[.val (.ref q), .val (.long t), .second, .val (.long u), .second, .val (.int (Int32.ofNat K)), .val (.long o), .second, .unset] rfl d10_36 ?_
  refine own_lload H rfl d10_38 ?_
  refine own_lload_n H rfl d10_40 ?_
  refine own_lcmple_f H d10_41 d10_42 hu ?_
  refine own_aconst_null H d10_45 ?_
  exact own_areturn H rfl rfl rfl d10_46 (by decide) (by decide) (k _ ⟨⟨u1, u2, u3, u4, u5, u6, u7⟩, ⟨u8, u9, u10, u11, u12, u13, u14, u15, u16, u17, u18, u19, u20, u21, u22⟩, ⟨u23, u24, u25, u26, u27⟩, ⟨u28, u29, u30, u31, u32, u33⟩, ⟨u34, u35, u36⟩, ⟨u37, u38, u39⟩, ⟨u40, u41, u42⟩⟩)
theorem own_T0b_0 {B : own_B} {l : Launch} {Z : State} {a0 : Array Value} (H : own_Ok B Z a0 l ({ frames := 4, cells := 0, slots := 0, locals := 100 } : Room) (⟨"com/example/ring_to_run/ringtorun/TickQueue", "poll", "(J)Lcom/example/ring_to_run/ringtorun/Task;"⟩ : MethodName) prog_11_method_7_code 9 (some (.object "com/example/ring_to_run/ringtorun/Task"))) {h : Heap} {n0 : Nat} {Q : Option Value → Heap → Prop} {q : Addr} {ta : Addr} {tb : Addr} {aH : Addr} {aT : Addr} {aO : Addr} {kH : ClassId} {kT : ClassId} {kO : ClassId} {M : Nat} {st : Int64} {da : Int64} {db : Int64} {cur : Int64} {pb nb : Value} {K : Nat} {t u o : Int64} (hQ : own_Qu Z n0 h q ta tb aH aT aO kH kT kO M st da db cur (own_h1 ta K) (own_h1 ta K) (own_o1 K) .null .null pb nb) (hM : M ≤ 11) (hK : K < 64 * M) (hS : K < 64) (hb : ¬ (FBit (Int32.ofNat K)) = 0) (hN : FNtzL (FBit (Int32.ofNat K)) = Int32.ofNat K) (hO : FFo (0 : Int32) (Int32.ofNat K) cur = o) (hu : ¬ u < o) (k : ∀ h', own_Qu Z n0 h' q ta tb aH aT aO kH kT kO M st da db cur own_h0 own_h0 own_o0 .null .null pb nb → Q (some (.ref ta)) h') : own_G B n0 Q 0 0 0 0 h 7 #[.val (.ref q), .val (.long t), .second, .val (.long u), .second, .unset, .unset, .unset, .unset] [] := by
  obtain ⟨⟨u1, u2, u3, u4, u5, u6, u7⟩, ⟨u8, u9, u10, u11, u12, u13, u14, u15, u16, u17, u18, u19, u20, u21, u22⟩, ⟨u23, u24, u25, u26, u27⟩, ⟨u28, u29, u30, u31, u32, u33⟩, ⟨u34, u35, u36⟩, ⟨u37, u38, u39⟩, ⟨u40, u41, u42⟩⟩ := hQ
  refine own_aload_n H rfl rfl d10_7 ?_
  refine own_getfield H (w := 39) rfl u31 d10_8 ?_
  refine own_iconst H (0 : Int32) (by decide) d10_11 ?_
  refine own_laloadF H (v := (.long (FBit (Int32.ofNat K)))) u42 (by decide) (own_z2 (by omega) hM) (own_o1z hS) d10_12 ?_
  refine own_lconst H (0 : Int64) (by decide) d10_13 ?_
  refine own_lcmpeq_f H d10_14 d10_15 hb ?_
  refine own_aload_n H rfl rfl d10_18 ?_
  refine own_getfield H (w := 39) rfl u31 d10_19 ?_
  refine own_iconst H (0 : Int32) (by decide) d10_22 ?_
  refine own_laloadF H (v := (.long (FBit (Int32.ofNat K)))) u42 (by decide) (own_z2 (by omega) hM) (own_o1z hS) d10_23 ?_
  refine own_invokestatic H (argsL := [(.long (FBit (Int32.ofNat K)))]) (rest := []) (rmNtzL l Z a0 (own_hw H) h n0 (FBit (Int32.ofNat K))) (w1 := 117) (w2 := 118) (w3 := 21) (w4 := 119) rfl rfl rfl rfl own_pd3 rfl 0 (by decide) rfl (by decide) (Nat.le_of_eq rfl) (by decide) (by decide) (by decide) rfl d10_24 ?_
  rintro _ _ ⟨rfl, rfl⟩
  show own_G _ _ _ _ _ _ _ _ 27 #[.val (.ref q), .val (.long t), .second, .val (.long u), .second, .unset, .unset, .unset, .unset] [(.int (FNtzL (FBit (Int32.ofNat K))))]
  rw [hN]
  show own_G _ _ _ _ _ _ _ _ 27 #[.val (.ref q), .val (.long t), .second, .val (.long u), .second, .unset, .unset, .unset, .unset] [(.int (Int32.ofNat K))]
  refine own_istore H #[.val (.ref q), .val (.long t), .second, .val (.long u), .second, .val (.int (Int32.ofNat K)), .unset, .unset, .unset] rfl d10_27 ?_
  refine own_aload_n H rfl rfl d10_29 ?_
  refine own_iconst H (0 : Int32) (by decide) d10_30 ?_
  refine own_iload H rfl d10_31 ?_
  refine own_invokepriv H (a := q) (argsL := [(.int (0 : Int32)), (.int (Int32.ofNat K))]) (rest := []) (rmFo l Z a0 (own_hw H) h n0 q (0 : Int32) (Int32.ofNat K) cur u33) u23 (w1 := 123) (w2 := 124) (w5 := 9) (w6 := 125) (w3 := 10) (w4 := 126) rfl rfl rfl rfl rfl rfl own_pd6 rfl 0 (by decide) rfl (by decide) (Nat.le_of_eq rfl) (by decide) (by decide) (by decide) rfl d10_33 ?_
  rintro _ _ ⟨rfl, rfl⟩
  show own_G _ _ _ _ _ _ _ _ 36 #[.val (.ref q), .val (.long t), .second, .val (.long u), .second, .val (.int (Int32.ofNat K)), .unset, .unset, .unset] [(.long (FFo (0 : Int32) (Int32.ofNat K) cur))]
  rw [hO]
  show own_G _ _ _ _ _ _ _ _ 36 #[.val (.ref q), .val (.long t), .second, .val (.long u), .second, .val (.int (Int32.ofNat K)), .unset, .unset, .unset] [(.long o)]
  refine own_lstore H #[.val (.ref q), .val (.long t), .second, .val (.long u), .second, .val (.int (Int32.ofNat K)), .val (.long o), .second, .unset] rfl d10_36 ?_
  refine own_lload H rfl d10_38 ?_
  refine own_lload_n H rfl d10_40 ?_
  refine own_lcmple_t H (pc' := 47) d10_41 d10_42 (by decide) (by decide) hu ?_
  refine own_aload_n H rfl rfl d10_47 ?_
  refine own_getfield H (w := 34) rfl u29 d10_48 ?_
  refine own_iload H rfl d10_51 ?_
  refine own_aaloadF H (v := (.ref ta)) u40 rfl (own_i1 (by omega)) (own_i2 hK (by omega)) (by rw [own_cn (by omega)]; exact own_h1s ta K) d10_53 ?_
  refine own_astore H rfl #[.val (.ref q), .val (.long t), .second, .val (.long u), .second, .val (.int (Int32.ofNat K)), .val (.long o), .second, .val (.ref ta)] rfl d10_54 ?_
  refine own_aload_n H rfl rfl d10_56 ?_
  refine own_aload H rfl rfl d10_57 ?_
  refine own_iload H rfl d10_59 ?_
  refine own_invokepriv H (a := q) (argsL := [(.ref ta), (.int (Int32.ofNat K))]) (rest := []) (rmDet l Z a0 (own_hw H) h n0 q ta tb aH aT aO kH kT kO M st da db cur pb nb K ⟨⟨u1, u2, u3, u4, u5, u6, u7⟩, ⟨u8, u9, u10, u11, u12, u13, u14, u15, u16, u17, u18, u19, u20, u21, u22⟩, ⟨u23, u24, u25, u26, u27⟩, ⟨u28, u29, u30, u31, u32, u33⟩, ⟨u34, u35, u36⟩, ⟨u37, u38, u39⟩, ⟨u40, u41, u42⟩⟩ hM hK) u23 (w1 := 132) (w2 := 133) (w5 := 9) (w6 := 134) (w3 := 10) (w4 := 135) rfl rfl rfl rfl rfl rfl own_pd8 rfl 0 (by decide) rfl (by decide) (Nat.le_of_eq rfl) (by decide) (by decide) (by decide) rfl d10_61 ?_
  rintro _ h43 ⟨rfl, hQ⟩
  obtain ⟨⟨u44, u45, u46, u47, u48, u49, u50⟩, ⟨u51, u52, u53, u54, u55, u56, u57, u58, u59, u60, u61, u62, u63, u64, u65⟩, ⟨u66, u67, u68, u69, u70⟩, ⟨u71, u72, u73, u74, u75, u76⟩, ⟨u77, u78, u79⟩, ⟨u80, u81, u82⟩, ⟨u83, u84, u85⟩⟩ := hQ
  show own_G _ _ _ _ _ _ _ _ 64 #[.val (.ref q), .val (.long t), .second, .val (.long u), .second, .val (.int (Int32.ofNat K)), .val (.long o), .second, .val (.ref ta)] []
  refine own_aload H rfl rfl d10_64 ?_
  exact own_areturn H rfl rfl rfl d10_66 (by decide) (by decide) (k _ ⟨⟨u44, u45, u46, u47, u48, u49, u50⟩, ⟨u51, u52, u53, u54, u55, u56, u57, u58, u59, u60, u61, u62, u63, u64, u65⟩, ⟨u66, u67, u68, u69, u70⟩, ⟨u71, u72, u73, u74, u75, u76⟩, ⟨u77, u78, u79⟩, ⟨u80, u81, u82⟩, ⟨u83, u84, u85⟩⟩)
theorem own_T0b_1 {B : own_B} {l : Launch} {Z : State} {a0 : Array Value} (H : own_Ok B Z a0 l ({ frames := 4, cells := 0, slots := 0, locals := 100 } : Room) (⟨"com/example/ring_to_run/ringtorun/TickQueue", "poll", "(J)Lcom/example/ring_to_run/ringtorun/Task;"⟩ : MethodName) prog_11_method_7_code 9 (some (.object "com/example/ring_to_run/ringtorun/Task"))) {h : Heap} {n0 : Nat} {Q : Option Value → Heap → Prop} {q : Addr} {ta : Addr} {tb : Addr} {aH : Addr} {aT : Addr} {aO : Addr} {kH : ClassId} {kT : ClassId} {kO : ClassId} {M : Nat} {st : Int64} {da : Int64} {db : Int64} {cur : Int64} {pb nb : Value} {K : Nat} {t u o x7 : Int64} {x5 x6 : Int32} (hQ : own_Qu Z n0 h q ta tb aH aT aO kH kT kO M st da db cur (own_h1 ta K) (own_h1 ta K) (own_o1 K) .null .null pb nb) (hM : M ≤ 11) (hK : K < 64 * M) (hS : K < 64) (hb : ¬ (FBit (Int32.ofNat K)) = 0) (hN : FNtzL (FBit (Int32.ofNat K)) = Int32.ofNat K) (hO : FFo (0 : Int32) (Int32.ofNat K) cur = o) (hu : ¬ u < o) (k : ∀ h', own_Qu Z n0 h' q ta tb aH aT aO kH kT kO M st da db cur own_h0 own_h0 own_o0 .null .null pb nb → Q (some (.ref ta)) h') : own_G B n0 Q 0 0 0 0 h 7 #[.val (.ref q), .val (.long t), .second, .val (.long u), .second, .val (.int x5), .val (.int x6), .val (.long x7), .second] [] := by
  obtain ⟨⟨u1, u2, u3, u4, u5, u6, u7⟩, ⟨u8, u9, u10, u11, u12, u13, u14, u15, u16, u17, u18, u19, u20, u21, u22⟩, ⟨u23, u24, u25, u26, u27⟩, ⟨u28, u29, u30, u31, u32, u33⟩, ⟨u34, u35, u36⟩, ⟨u37, u38, u39⟩, ⟨u40, u41, u42⟩⟩ := hQ
  refine own_aload_n H rfl rfl d10_7 ?_
  refine own_getfield H (w := 39) rfl u31 d10_8 ?_
  refine own_iconst H (0 : Int32) (by decide) d10_11 ?_
  refine own_laloadF H (v := (.long (FBit (Int32.ofNat K)))) u42 (by decide) (own_z2 (by omega) hM) (own_o1z hS) d10_12 ?_
  refine own_lconst H (0 : Int64) (by decide) d10_13 ?_
  refine own_lcmpeq_f H d10_14 d10_15 hb ?_
  refine own_aload_n H rfl rfl d10_18 ?_
  refine own_getfield H (w := 39) rfl u31 d10_19 ?_
  refine own_iconst H (0 : Int32) (by decide) d10_22 ?_
  refine own_laloadF H (v := (.long (FBit (Int32.ofNat K)))) u42 (by decide) (own_z2 (by omega) hM) (own_o1z hS) d10_23 ?_
  refine own_invokestatic H (argsL := [(.long (FBit (Int32.ofNat K)))]) (rest := []) (rmNtzL l Z a0 (own_hw H) h n0 (FBit (Int32.ofNat K))) (w1 := 117) (w2 := 118) (w3 := 21) (w4 := 119) rfl rfl rfl rfl own_pd3 rfl 0 (by decide) rfl (by decide) (Nat.le_of_eq rfl) (by decide) (by decide) (by decide) rfl d10_24 ?_
  rintro _ _ ⟨rfl, rfl⟩
  show own_G _ _ _ _ _ _ _ _ 27 #[.val (.ref q), .val (.long t), .second, .val (.long u), .second, .val (.int x5), .val (.int x6), .val (.long x7), .second] [(.int (FNtzL (FBit (Int32.ofNat K))))]
  rw [hN]
  show own_G _ _ _ _ _ _ _ _ 27 #[.val (.ref q), .val (.long t), .second, .val (.long u), .second, .val (.int x5), .val (.int x6), .val (.long x7), .second] [(.int (Int32.ofNat K))]
  refine own_istore H #[.val (.ref q), .val (.long t), .second, .val (.long u), .second, .val (.int (Int32.ofNat K)), .val (.int x6), .val (.long x7), .second] rfl d10_27 ?_
  refine own_aload_n H rfl rfl d10_29 ?_
  refine own_iconst H (0 : Int32) (by decide) d10_30 ?_
  refine own_iload H rfl d10_31 ?_
  refine own_invokepriv H (a := q) (argsL := [(.int (0 : Int32)), (.int (Int32.ofNat K))]) (rest := []) (rmFo l Z a0 (own_hw H) h n0 q (0 : Int32) (Int32.ofNat K) cur u33) u23 (w1 := 123) (w2 := 124) (w5 := 9) (w6 := 125) (w3 := 10) (w4 := 126) rfl rfl rfl rfl rfl rfl own_pd6 rfl 0 (by decide) rfl (by decide) (Nat.le_of_eq rfl) (by decide) (by decide) (by decide) rfl d10_33 ?_
  rintro _ _ ⟨rfl, rfl⟩
  show own_G _ _ _ _ _ _ _ _ 36 #[.val (.ref q), .val (.long t), .second, .val (.long u), .second, .val (.int (Int32.ofNat K)), .val (.int x6), .val (.long x7), .second] [(.long (FFo (0 : Int32) (Int32.ofNat K) cur))]
  rw [hO]
  show own_G _ _ _ _ _ _ _ _ 36 #[.val (.ref q), .val (.long t), .second, .val (.long u), .second, .val (.int (Int32.ofNat K)), .val (.int x6), .val (.long x7), .second] [(.long o)]
  refine own_lstore H #[.val (.ref q), .val (.long t), .second, .val (.long u), .second, .val (.int (Int32.ofNat K)), .val (.long o), .second, .unset] rfl d10_36 ?_
  refine own_lload H rfl d10_38 ?_
  refine own_lload_n H rfl d10_40 ?_
  refine own_lcmple_t H (pc' := 47) d10_41 d10_42 (by decide) (by decide) hu ?_
  refine own_aload_n H rfl rfl d10_47 ?_
  refine own_getfield H (w := 34) rfl u29 d10_48 ?_
  refine own_iload H rfl d10_51 ?_
  refine own_aaloadF H (v := (.ref ta)) u40 rfl (own_i1 (by omega)) (own_i2 hK (by omega)) (by rw [own_cn (by omega)]; exact own_h1s ta K) d10_53 ?_
  refine own_astore H rfl #[.val (.ref q), .val (.long t), .second, .val (.long u), .second, .val (.int (Int32.ofNat K)), .val (.long o), .second, .val (.ref ta)] rfl d10_54 ?_
  refine own_aload_n H rfl rfl d10_56 ?_
  refine own_aload H rfl rfl d10_57 ?_
  refine own_iload H rfl d10_59 ?_
  refine own_invokepriv H (a := q) (argsL := [(.ref ta), (.int (Int32.ofNat K))]) (rest := []) (rmDet l Z a0 (own_hw H) h n0 q ta tb aH aT aO kH kT kO M st da db cur pb nb K ⟨⟨u1, u2, u3, u4, u5, u6, u7⟩, ⟨u8, u9, u10, u11, u12, u13, u14, u15, u16, u17, u18, u19, u20, u21, u22⟩, ⟨u23, u24, u25, u26, u27⟩, ⟨u28, u29, u30, u31, u32, u33⟩, ⟨u34, u35, u36⟩, ⟨u37, u38, u39⟩, ⟨u40, u41, u42⟩⟩ hM hK) u23 (w1 := 132) (w2 := 133) (w5 := 9) (w6 := 134) (w3 := 10) (w4 := 135) rfl rfl rfl rfl rfl rfl own_pd8 rfl 0 (by decide) rfl (by decide) (Nat.le_of_eq rfl) (by decide) (by decide) (by decide) rfl d10_61 ?_
  rintro _ h43 ⟨rfl, hQ⟩
  obtain ⟨⟨u44, u45, u46, u47, u48, u49, u50⟩, ⟨u51, u52, u53, u54, u55, u56, u57, u58, u59, u60, u61, u62, u63, u64, u65⟩, ⟨u66, u67, u68, u69, u70⟩, ⟨u71, u72, u73, u74, u75, u76⟩, ⟨u77, u78, u79⟩, ⟨u80, u81, u82⟩, ⟨u83, u84, u85⟩⟩ := hQ
  show own_G _ _ _ _ _ _ _ _ 64 #[.val (.ref q), .val (.long t), .second, .val (.long u), .second, .val (.int (Int32.ofNat K)), .val (.long o), .second, .val (.ref ta)] []
  refine own_aload H rfl rfl d10_64 ?_
  exact own_areturn H rfl rfl rfl d10_66 (by decide) (by decide) (k _ ⟨⟨u44, u45, u46, u47, u48, u49, u50⟩, ⟨u51, u52, u53, u54, u55, u56, u57, u58, u59, u60, u61, u62, u63, u64, u65⟩, ⟨u66, u67, u68, u69, u70⟩, ⟨u71, u72, u73, u74, u75, u76⟩, ⟨u77, u78, u79⟩, ⟨u80, u81, u82⟩, ⟨u83, u84, u85⟩⟩)
theorem own_T1a_0 {B : own_B} {l : Launch} {Z : State} {a0 : Array Value} (H : own_Ok B Z a0 l ({ frames := 4, cells := 0, slots := 0, locals := 100 } : Room) (⟨"com/example/ring_to_run/ringtorun/TickQueue", "poll", "(J)Lcom/example/ring_to_run/ringtorun/Task;"⟩ : MethodName) prog_11_method_7_code 9 (some (.object "com/example/ring_to_run/ringtorun/Task"))) {h : Heap} {n0 : Nat} {Q : Option Value → Heap → Prop} {q : Addr} {ta : Addr} {tb : Addr} {aH : Addr} {aT : Addr} {aO : Addr} {kH : ClassId} {kT : ClassId} {kO : ClassId} {M : Nat} {st : Int64} {da : Int64} {db : Int64} {cur : Int64} {pb nb : Value} {K : Nat} {t u o : Int64} (hQ : own_Qu Z n0 h q ta tb aH aT aO kH kT kO M st da db cur (own_h1 ta K) (own_h1 ta K) (own_o1 K) .null .null pb nb) (hM : M ≤ 11) (hK : K < 64 * M) (hS : 64 ≤ K) (hb : ¬ (FBit (Int32.ofNat K)) = 0) (hN : FNtzL (FBit (Int32.ofNat K)) = Int32.ofNat (K % 64)) (hO : FFo (Int32.ofNat (K / 64)) (Int32.ofNat (K % 64)) cur = o) (hu : u < o) (k : ∀ h', own_Qu Z n0 h' q ta tb aH aT aO kH kT kO M st da db cur (own_h1 ta K) (own_h1 ta K) (own_o1 K) .null .null pb nb → Q (some .null) h') : own_G B n0 Q 0 0 0 0 h 7 #[.val (.ref q), .val (.long t), .second, .val (.long u), .second, .unset, .unset, .unset, .unset] [] := by
  obtain ⟨⟨u1, u2, u3, u4, u5, u6, u7⟩, ⟨u8, u9, u10, u11, u12, u13, u14, u15, u16, u17, u18, u19, u20, u21, u22⟩, ⟨u23, u24, u25, u26, u27⟩, ⟨u28, u29, u30, u31, u32, u33⟩, ⟨u34, u35, u36⟩, ⟨u37, u38, u39⟩, ⟨u40, u41, u42⟩⟩ := hQ
  refine own_aload_n H rfl rfl d10_7 ?_
  refine own_getfield H (w := 39) rfl u31 d10_8 ?_
  refine own_iconst H (0 : Int32) (by decide) d10_11 ?_
  refine own_laloadF H (v := (.long (0 : Int64))) u42 (by decide) (own_z2 (by omega) hM) (own_o1n0 hS) d10_12 ?_
  refine own_lconst H (0 : Int64) (by decide) d10_13 ?_
  refine own_lcmpeq_t H (pc' := 67) d10_14 d10_15 (by decide) (by decide) (by decide) ?_
  refine own_aload_n H rfl rfl d10_67 ?_
  refine own_invokepriv H (a := q) (argsL := []) (rest := []) (rmLoL l Z a0 (own_hw H) h n0 q aO kO M (own_o1 K) (K / 64) (FBit (Int32.ofNat K)) u23 u28 u31 u42 hM (fun j _ hj => own_o1n hj) (Nat.div_lt_of_lt_mul hK) (own_o1s K) hb (by omega)) u23 (w1 := 76) (w2 := 77) (w5 := 9) (w6 := 78) (w3 := 10) (w4 := 79) rfl rfl rfl rfl rfl rfl own_pd11 rfl 0 (by decide) rfl (by decide) (Nat.le_of_eq rfl) (by decide) (by decide) (by decide) rfl d10_68 ?_
  rintro _ _ ⟨rfl, rfl⟩
  show own_G _ _ _ _ _ _ _ _ 71 #[.val (.ref q), .val (.long t), .second, .val (.long u), .second, .unset, .unset, .unset, .unset] [(.int (Int32.ofNat (K / 64)))]
  refine own_istore H #[.val (.ref q), .val (.long t), .second, .val (.long u), .second, .val (.int (Int32.ofNat (K / 64))), .unset, .unset, .unset] rfl d10_71 ?_
  refine own_iload H rfl d10_73 ?_
  refine own_ifge_t H (pc' := 80) d10_75 (by decide) (by decide) (own_i1 (by omega)) ?_
  refine own_aload_n H rfl rfl d10_80 ?_
  refine own_getfield H (w := 39) rfl u31 d10_81 ?_
  refine own_iload H rfl d10_84 ?_
  refine own_laloadF H (v := (.long (FBit (Int32.ofNat K)))) u42 (own_i1 (by omega)) (own_i2 (Nat.div_lt_of_lt_mul hK) (by omega)) (by rw [own_cn (by omega)]; exact own_o1s K) d10_86 ?_
  refine own_invokestatic H (argsL := [(.long (FBit (Int32.ofNat K)))]) (rest := []) (rmNtzL l Z a0 (own_hw H) h n0 (FBit (Int32.ofNat K))) (w1 := 117) (w2 := 118) (w3 := 21) (w4 := 119) rfl rfl rfl rfl own_pd3 rfl 0 (by decide) rfl (by decide) (Nat.le_of_eq rfl) (by decide) (by decide) (by decide) rfl d10_87 ?_
  rintro _ _ ⟨rfl, rfl⟩
  show own_G _ _ _ _ _ _ _ _ 90 #[.val (.ref q), .val (.long t), .second, .val (.long u), .second, .val (.int (Int32.ofNat (K / 64))), .unset, .unset, .unset] [(.int (FNtzL (FBit (Int32.ofNat K))))]
  rw [hN]
  show own_G _ _ _ _ _ _ _ _ 90 #[.val (.ref q), .val (.long t), .second, .val (.long u), .second, .val (.int (Int32.ofNat (K / 64))), .unset, .unset, .unset] [(.int (Int32.ofNat (K % 64)))]
  refine own_istore H #[.val (.ref q), .val (.long t), .second, .val (.long u), .second, .val (.int (Int32.ofNat (K / 64))), .val (.int (Int32.ofNat (K % 64))), .unset, .unset] rfl d10_90 ?_
  refine own_aload_n H rfl rfl d10_92 ?_
  refine own_iload H rfl d10_93 ?_
  refine own_iload H rfl d10_95 ?_
  refine own_invokepriv H (a := q) (argsL := [(.int (Int32.ofNat (K / 64))), (.int (Int32.ofNat (K % 64)))]) (rest := []) (rmFo l Z a0 (own_hw H) h n0 q (Int32.ofNat (K / 64)) (Int32.ofNat (K % 64)) cur u33) u23 (w1 := 123) (w2 := 124) (w5 := 9) (w6 := 125) (w3 := 10) (w4 := 126) rfl rfl rfl rfl rfl rfl own_pd6 rfl 0 (by decide) rfl (by decide) (Nat.le_of_eq rfl) (by decide) (by decide) (by decide) rfl d10_97 ?_
  rintro _ _ ⟨rfl, rfl⟩
  show own_G _ _ _ _ _ _ _ _ 100 #[.val (.ref q), .val (.long t), .second, .val (.long u), .second, .val (.int (Int32.ofNat (K / 64))), .val (.int (Int32.ofNat (K % 64))), .unset, .unset] [(.long (FFo (Int32.ofNat (K / 64)) (Int32.ofNat (K % 64)) cur))]
  rw [hO]
  show own_G _ _ _ _ _ _ _ _ 100 #[.val (.ref q), .val (.long t), .second, .val (.long u), .second, .val (.int (Int32.ofNat (K / 64))), .val (.int (Int32.ofNat (K % 64))), .unset, .unset] [(.long o)]
  refine own_lstore H #[.val (.ref q), .val (.long t), .second, .val (.long u), .second, .val (.int (Int32.ofNat (K / 64))), .val (.int (Int32.ofNat (K % 64))), .val (.long o), .second] rfl d10_100 ?_
  refine own_lload H rfl d10_102 ?_
  refine own_lload_n H rfl d10_104 ?_
  refine own_lcmple_f H d10_105 d10_106 hu ?_
  refine own_aconst_null H d10_109 ?_
  exact own_areturn H rfl rfl rfl d10_110 (by decide) (by decide) (k _ ⟨⟨u1, u2, u3, u4, u5, u6, u7⟩, ⟨u8, u9, u10, u11, u12, u13, u14, u15, u16, u17, u18, u19, u20, u21, u22⟩, ⟨u23, u24, u25, u26, u27⟩, ⟨u28, u29, u30, u31, u32, u33⟩, ⟨u34, u35, u36⟩, ⟨u37, u38, u39⟩, ⟨u40, u41, u42⟩⟩)
theorem own_T1a_1 {B : own_B} {l : Launch} {Z : State} {a0 : Array Value} (H : own_Ok B Z a0 l ({ frames := 4, cells := 0, slots := 0, locals := 100 } : Room) (⟨"com/example/ring_to_run/ringtorun/TickQueue", "poll", "(J)Lcom/example/ring_to_run/ringtorun/Task;"⟩ : MethodName) prog_11_method_7_code 9 (some (.object "com/example/ring_to_run/ringtorun/Task"))) {h : Heap} {n0 : Nat} {Q : Option Value → Heap → Prop} {q : Addr} {ta : Addr} {tb : Addr} {aH : Addr} {aT : Addr} {aO : Addr} {kH : ClassId} {kT : ClassId} {kO : ClassId} {M : Nat} {st : Int64} {da : Int64} {db : Int64} {cur : Int64} {pb nb : Value} {K : Nat} {t u o x7 : Int64} {x5 x6 : Int32} (hQ : own_Qu Z n0 h q ta tb aH aT aO kH kT kO M st da db cur (own_h1 ta K) (own_h1 ta K) (own_o1 K) .null .null pb nb) (hM : M ≤ 11) (hK : K < 64 * M) (hS : 64 ≤ K) (hb : ¬ (FBit (Int32.ofNat K)) = 0) (hN : FNtzL (FBit (Int32.ofNat K)) = Int32.ofNat (K % 64)) (hO : FFo (Int32.ofNat (K / 64)) (Int32.ofNat (K % 64)) cur = o) (hu : u < o) (k : ∀ h', own_Qu Z n0 h' q ta tb aH aT aO kH kT kO M st da db cur (own_h1 ta K) (own_h1 ta K) (own_o1 K) .null .null pb nb → Q (some .null) h') : own_G B n0 Q 0 0 0 0 h 7 #[.val (.ref q), .val (.long t), .second, .val (.long u), .second, .val (.int x5), .val (.int x6), .val (.long x7), .second] [] := by
  obtain ⟨⟨u1, u2, u3, u4, u5, u6, u7⟩, ⟨u8, u9, u10, u11, u12, u13, u14, u15, u16, u17, u18, u19, u20, u21, u22⟩, ⟨u23, u24, u25, u26, u27⟩, ⟨u28, u29, u30, u31, u32, u33⟩, ⟨u34, u35, u36⟩, ⟨u37, u38, u39⟩, ⟨u40, u41, u42⟩⟩ := hQ
  refine own_aload_n H rfl rfl d10_7 ?_
  refine own_getfield H (w := 39) rfl u31 d10_8 ?_
  refine own_iconst H (0 : Int32) (by decide) d10_11 ?_
  refine own_laloadF H (v := (.long (0 : Int64))) u42 (by decide) (own_z2 (by omega) hM) (own_o1n0 hS) d10_12 ?_
  refine own_lconst H (0 : Int64) (by decide) d10_13 ?_
  refine own_lcmpeq_t H (pc' := 67) d10_14 d10_15 (by decide) (by decide) (by decide) ?_
  refine own_aload_n H rfl rfl d10_67 ?_
  refine own_invokepriv H (a := q) (argsL := []) (rest := []) (rmLoL l Z a0 (own_hw H) h n0 q aO kO M (own_o1 K) (K / 64) (FBit (Int32.ofNat K)) u23 u28 u31 u42 hM (fun j _ hj => own_o1n hj) (Nat.div_lt_of_lt_mul hK) (own_o1s K) hb (by omega)) u23 (w1 := 76) (w2 := 77) (w5 := 9) (w6 := 78) (w3 := 10) (w4 := 79) rfl rfl rfl rfl rfl rfl own_pd11 rfl 0 (by decide) rfl (by decide) (Nat.le_of_eq rfl) (by decide) (by decide) (by decide) rfl d10_68 ?_
  rintro _ _ ⟨rfl, rfl⟩
  show own_G _ _ _ _ _ _ _ _ 71 #[.val (.ref q), .val (.long t), .second, .val (.long u), .second, .val (.int x5), .val (.int x6), .val (.long x7), .second] [(.int (Int32.ofNat (K / 64)))]
  refine own_istore H #[.val (.ref q), .val (.long t), .second, .val (.long u), .second, .val (.int (Int32.ofNat (K / 64))), .val (.int x6), .val (.long x7), .second] rfl d10_71 ?_
  refine own_iload H rfl d10_73 ?_
  refine own_ifge_t H (pc' := 80) d10_75 (by decide) (by decide) (own_i1 (by omega)) ?_
  refine own_aload_n H rfl rfl d10_80 ?_
  refine own_getfield H (w := 39) rfl u31 d10_81 ?_
  refine own_iload H rfl d10_84 ?_
  refine own_laloadF H (v := (.long (FBit (Int32.ofNat K)))) u42 (own_i1 (by omega)) (own_i2 (Nat.div_lt_of_lt_mul hK) (by omega)) (by rw [own_cn (by omega)]; exact own_o1s K) d10_86 ?_
  refine own_invokestatic H (argsL := [(.long (FBit (Int32.ofNat K)))]) (rest := []) (rmNtzL l Z a0 (own_hw H) h n0 (FBit (Int32.ofNat K))) (w1 := 117) (w2 := 118) (w3 := 21) (w4 := 119) rfl rfl rfl rfl own_pd3 rfl 0 (by decide) rfl (by decide) (Nat.le_of_eq rfl) (by decide) (by decide) (by decide) rfl d10_87 ?_
  rintro _ _ ⟨rfl, rfl⟩
  show own_G _ _ _ _ _ _ _ _ 90 #[.val (.ref q), .val (.long t), .second, .val (.long u), .second, .val (.int (Int32.ofNat (K / 64))), .val (.int x6), .val (.long x7), .second] [(.int (FNtzL (FBit (Int32.ofNat K))))]
  rw [hN]
  show own_G _ _ _ _ _ _ _ _ 90 #[.val (.ref q), .val (.long t), .second, .val (.long u), .second, .val (.int (Int32.ofNat (K / 64))), .val (.int x6), .val (.long x7), .second] [(.int (Int32.ofNat (K % 64)))]
  refine own_istore H #[.val (.ref q), .val (.long t), .second, .val (.long u), .second, .val (.int (Int32.ofNat (K / 64))), .val (.int (Int32.ofNat (K % 64))), .val (.long x7), .second] rfl d10_90 ?_
  refine own_aload_n H rfl rfl d10_92 ?_
  refine own_iload H rfl d10_93 ?_
  refine own_iload H rfl d10_95 ?_
  refine own_invokepriv H (a := q) (argsL := [(.int (Int32.ofNat (K / 64))), (.int (Int32.ofNat (K % 64)))]) (rest := []) (rmFo l Z a0 (own_hw H) h n0 q (Int32.ofNat (K / 64)) (Int32.ofNat (K % 64)) cur u33) u23 (w1 := 123) (w2 := 124) (w5 := 9) (w6 := 125) (w3 := 10) (w4 := 126) rfl rfl rfl rfl rfl rfl own_pd6 rfl 0 (by decide) rfl (by decide) (Nat.le_of_eq rfl) (by decide) (by decide) (by decide) rfl d10_97 ?_
  rintro _ _ ⟨rfl, rfl⟩
  show own_G _ _ _ _ _ _ _ _ 100 #[.val (.ref q), .val (.long t), .second, .val (.long u), .second, .val (.int (Int32.ofNat (K / 64))), .val (.int (Int32.ofNat (K % 64))), .val (.long x7), .second] [(.long (FFo (Int32.ofNat (K / 64)) (Int32.ofNat (K % 64)) cur))]
  rw [hO]
  show own_G _ _ _ _ _ _ _ _ 100 #[.val (.ref q), .val (.long t), .second, .val (.long u), .second, .val (.int (Int32.ofNat (K / 64))), .val (.int (Int32.ofNat (K % 64))), .val (.long x7), .second] [(.long o)]
  refine own_lstore H #[.val (.ref q), .val (.long t), .second, .val (.long u), .second, .val (.int (Int32.ofNat (K / 64))), .val (.int (Int32.ofNat (K % 64))), .val (.long o), .second] rfl d10_100 ?_
  refine own_lload H rfl d10_102 ?_
  refine own_lload_n H rfl d10_104 ?_
  refine own_lcmple_f H d10_105 d10_106 hu ?_
  refine own_aconst_null H d10_109 ?_
  exact own_areturn H rfl rfl rfl d10_110 (by decide) (by decide) (k _ ⟨⟨u1, u2, u3, u4, u5, u6, u7⟩, ⟨u8, u9, u10, u11, u12, u13, u14, u15, u16, u17, u18, u19, u20, u21, u22⟩, ⟨u23, u24, u25, u26, u27⟩, ⟨u28, u29, u30, u31, u32, u33⟩, ⟨u34, u35, u36⟩, ⟨u37, u38, u39⟩, ⟨u40, u41, u42⟩⟩)
theorem own_T1b_0 {B : own_B} {l : Launch} {Z : State} {a0 : Array Value} (H : own_Ok B Z a0 l ({ frames := 4, cells := 0, slots := 0, locals := 100 } : Room) (⟨"com/example/ring_to_run/ringtorun/TickQueue", "poll", "(J)Lcom/example/ring_to_run/ringtorun/Task;"⟩ : MethodName) prog_11_method_7_code 9 (some (.object "com/example/ring_to_run/ringtorun/Task"))) {h : Heap} {n0 : Nat} {Q : Option Value → Heap → Prop} {q : Addr} {ta : Addr} {tb : Addr} {aH : Addr} {aT : Addr} {aO : Addr} {kH : ClassId} {kT : ClassId} {kO : ClassId} {M : Nat} {st : Int64} {da : Int64} {db : Int64} {cur : Int64} {pb nb : Value} {K K' : Nat} {t u o : Int64} (hQ : own_Qu Z n0 h q ta tb aH aT aO kH kT kO M st da db cur (own_h1 ta K) (own_h1 ta K) (own_o1 K) .null .null pb nb) (hM : M ≤ 11) (hK : K < 64 * M) (hS : 64 ≤ K) (hb : ¬ (FBit (Int32.ofNat K)) = 0) (hN : FNtzL (FBit (Int32.ofNat K)) = Int32.ofNat (K % 64)) (hO : FFo (Int32.ofNat (K / 64)) (Int32.ofNat (K % 64)) cur = o) (hu : ¬ u < o) (hK' : K' < 64 * M) (hB : FBk (da - st) o = Int32.ofNat K') (k : ∀ h', own_Qu Z n0 h' q ta tb aH aT aO kH kT kO M st da db o (own_h1 ta K') (own_h1 ta K') (own_o1 K') .null .null pb nb → own_G B n0 Q 0 0 0 0 h' 7 #[.val (.ref q), .val (.long t), .second, .val (.long u), .second, .val (.int (Int32.ofNat (K / 64))), .val (.int (Int32.ofNat (K % 64))), .val (.long o), .second] []) : own_G B n0 Q 0 0 0 0 h 7 #[.val (.ref q), .val (.long t), .second, .val (.long u), .second, .unset, .unset, .unset, .unset] [] := by
  obtain ⟨⟨u1, u2, u3, u4, u5, u6, u7⟩, ⟨u8, u9, u10, u11, u12, u13, u14, u15, u16, u17, u18, u19, u20, u21, u22⟩, ⟨u23, u24, u25, u26, u27⟩, ⟨u28, u29, u30, u31, u32, u33⟩, ⟨u34, u35, u36⟩, ⟨u37, u38, u39⟩, ⟨u40, u41, u42⟩⟩ := hQ
  refine own_aload_n H rfl rfl d10_7 ?_
  refine own_getfield H (w := 39) rfl u31 d10_8 ?_
  refine own_iconst H (0 : Int32) (by decide) d10_11 ?_
  refine own_laloadF H (v := (.long (0 : Int64))) u42 (by decide) (own_z2 (by omega) hM) (own_o1n0 hS) d10_12 ?_
  refine own_lconst H (0 : Int64) (by decide) d10_13 ?_
  refine own_lcmpeq_t H (pc' := 67) d10_14 d10_15 (by decide) (by decide) (by decide) ?_
  refine own_aload_n H rfl rfl d10_67 ?_
  refine own_invokepriv H (a := q) (argsL := []) (rest := []) (rmLoL l Z a0 (own_hw H) h n0 q aO kO M (own_o1 K) (K / 64) (FBit (Int32.ofNat K)) u23 u28 u31 u42 hM (fun j _ hj => own_o1n hj) (Nat.div_lt_of_lt_mul hK) (own_o1s K) hb (by omega)) u23 (w1 := 76) (w2 := 77) (w5 := 9) (w6 := 78) (w3 := 10) (w4 := 79) rfl rfl rfl rfl rfl rfl own_pd11 rfl 0 (by decide) rfl (by decide) (Nat.le_of_eq rfl) (by decide) (by decide) (by decide) rfl d10_68 ?_
  rintro _ _ ⟨rfl, rfl⟩
  show own_G _ _ _ _ _ _ _ _ 71 #[.val (.ref q), .val (.long t), .second, .val (.long u), .second, .unset, .unset, .unset, .unset] [(.int (Int32.ofNat (K / 64)))]
  refine own_istore H #[.val (.ref q), .val (.long t), .second, .val (.long u), .second, .val (.int (Int32.ofNat (K / 64))), .unset, .unset, .unset] rfl d10_71 ?_
  refine own_iload H rfl d10_73 ?_
  refine own_ifge_t H (pc' := 80) d10_75 (by decide) (by decide) (own_i1 (by omega)) ?_
  refine own_aload_n H rfl rfl d10_80 ?_
  refine own_getfield H (w := 39) rfl u31 d10_81 ?_
  refine own_iload H rfl d10_84 ?_
  refine own_laloadF H (v := (.long (FBit (Int32.ofNat K)))) u42 (own_i1 (by omega)) (own_i2 (Nat.div_lt_of_lt_mul hK) (by omega)) (by rw [own_cn (by omega)]; exact own_o1s K) d10_86 ?_
  refine own_invokestatic H (argsL := [(.long (FBit (Int32.ofNat K)))]) (rest := []) (rmNtzL l Z a0 (own_hw H) h n0 (FBit (Int32.ofNat K))) (w1 := 117) (w2 := 118) (w3 := 21) (w4 := 119) rfl rfl rfl rfl own_pd3 rfl 0 (by decide) rfl (by decide) (Nat.le_of_eq rfl) (by decide) (by decide) (by decide) rfl d10_87 ?_
  rintro _ _ ⟨rfl, rfl⟩
  show own_G _ _ _ _ _ _ _ _ 90 #[.val (.ref q), .val (.long t), .second, .val (.long u), .second, .val (.int (Int32.ofNat (K / 64))), .unset, .unset, .unset] [(.int (FNtzL (FBit (Int32.ofNat K))))]
  rw [hN]
  show own_G _ _ _ _ _ _ _ _ 90 #[.val (.ref q), .val (.long t), .second, .val (.long u), .second, .val (.int (Int32.ofNat (K / 64))), .unset, .unset, .unset] [(.int (Int32.ofNat (K % 64)))]
  refine own_istore H #[.val (.ref q), .val (.long t), .second, .val (.long u), .second, .val (.int (Int32.ofNat (K / 64))), .val (.int (Int32.ofNat (K % 64))), .unset, .unset] rfl d10_90 ?_
  refine own_aload_n H rfl rfl d10_92 ?_
  refine own_iload H rfl d10_93 ?_
  refine own_iload H rfl d10_95 ?_
  refine own_invokepriv H (a := q) (argsL := [(.int (Int32.ofNat (K / 64))), (.int (Int32.ofNat (K % 64)))]) (rest := []) (rmFo l Z a0 (own_hw H) h n0 q (Int32.ofNat (K / 64)) (Int32.ofNat (K % 64)) cur u33) u23 (w1 := 123) (w2 := 124) (w5 := 9) (w6 := 125) (w3 := 10) (w4 := 126) rfl rfl rfl rfl rfl rfl own_pd6 rfl 0 (by decide) rfl (by decide) (Nat.le_of_eq rfl) (by decide) (by decide) (by decide) rfl d10_97 ?_
  rintro _ _ ⟨rfl, rfl⟩
  show own_G _ _ _ _ _ _ _ _ 100 #[.val (.ref q), .val (.long t), .second, .val (.long u), .second, .val (.int (Int32.ofNat (K / 64))), .val (.int (Int32.ofNat (K % 64))), .unset, .unset] [(.long (FFo (Int32.ofNat (K / 64)) (Int32.ofNat (K % 64)) cur))]
  rw [hO]
  show own_G _ _ _ _ _ _ _ _ 100 #[.val (.ref q), .val (.long t), .second, .val (.long u), .second, .val (.int (Int32.ofNat (K / 64))), .val (.int (Int32.ofNat (K % 64))), .unset, .unset] [(.long o)]
  refine own_lstore H #[.val (.ref q), .val (.long t), .second, .val (.long u), .second, .val (.int (Int32.ofNat (K / 64))), .val (.int (Int32.ofNat (K % 64))), .val (.long o), .second] rfl d10_100 ?_
  refine own_lload H rfl d10_102 ?_
  refine own_lload_n H rfl d10_104 ?_
  refine own_lcmple_t H (pc' := 111) d10_105 d10_106 (by decide) (by decide) hu ?_
  refine own_aload_n H rfl rfl d10_111 ?_
  refine own_lload H rfl d10_112 ?_
  refine own_putfield H (w := 95) (wi := 9) rfl u33 u23 u2 (Or.inl (own_w H (i := 96) rfl)) rfl (ty := .long) (by decide) rfl rfl d10_114 ?_
  intro h43 W44
  have f45 : n0 ≤ h43.size := by rw [W44.size]; exact u1
  have f46 : Exa Z h43 q "com/example/ring_to_run/ringtorun/TickQueue" := u23.wr W44
  have f47 : Exa Z h43 ta "com/example/ring_to_run/ringtorun/Task" := u24.wr W44
  have f48 : Exa Z h43 tb "com/example/ring_to_run/ringtorun/Task" := u25.wr W44
  have f49 : Fld Z h43 q "com/example/ring_to_run/ringtorun/TickQueue" "levels" "I" (.int (Int32.ofNat M)) := u28.other W44 (Or.inr (slot_ne (Or.inr (own_w H (i := 31) rfl)) (Or.inl (own_w H (i := 96) rfl)) (by decide) (t := .int) (t' := .long) (by decide) (by decide)))
  have f50 : Fld Z h43 q "com/example/ring_to_run/ringtorun/TickQueue" "heads" "[Lcom/example/ring_to_run/ringtorun/Task;" (.ref aH) := u29.other W44 (Or.inr (slot_ne (Or.inr (own_w H (i := 35) rfl)) (Or.inl (own_w H (i := 96) rfl)) (by decide) (t := (.array (.object "com/example/ring_to_run/ringtorun/Task"))) (t' := .long) (by decide) (by decide)))
  have f51 : Fld Z h43 q "com/example/ring_to_run/ringtorun/TickQueue" "tails" "[Lcom/example/ring_to_run/ringtorun/Task;" (.ref aT) := u30.other W44 (Or.inr (slot_ne (Or.inr (own_w H (i := 37) rfl)) (Or.inl (own_w H (i := 96) rfl)) (by decide) (t := (.array (.object "com/example/ring_to_run/ringtorun/Task"))) (t' := .long) (by decide) (by decide)))
  have f52 : Fld Z h43 q "com/example/ring_to_run/ringtorun/TickQueue" "occupied" "[J" (.ref aO) := u31.other W44 (Or.inr (slot_ne (Or.inr (own_w H (i := 40) rfl)) (Or.inl (own_w H (i := 96) rfl)) (by decide) (t := (.array .long)) (t' := .long) (by decide) (by decide)))
  have f53 : Fld Z h43 q "com/example/ring_to_run/ringtorun/TickQueue" "start" "J" (.long st) := u32.other W44 (Or.inr (slot_ne (Or.inl (own_w H (i := 42) rfl)) (Or.inl (own_w H (i := 96) rfl)) (by decide) (t := .long) (t' := .long) (by decide) (by decide)))
  have f54 : Fld Z h43 q "com/example/ring_to_run/ringtorun/TickQueue" "cursor" "J" (.long o) := u33.same W44
  have f55 : Fld Z h43 ta "com/example/ring_to_run/ringtorun/Task" "previous" "Lcom/example/ring_to_run/ringtorun/Task;" .null := u34.other W44 (Or.inl u8.symm)
  have f56 : Fld Z h43 ta "com/example/ring_to_run/ringtorun/Task" "next" "Lcom/example/ring_to_run/ringtorun/Task;" .null := u35.other W44 (Or.inl u8.symm)
  have f57 : Fld Z h43 ta "com/example/ring_to_run/ringtorun/Task" "dueInstant" "J" (.long da) := u36.other W44 (Or.inl u8.symm)
  have f58 : Fld Z h43 tb "com/example/ring_to_run/ringtorun/Task" "previous" "Lcom/example/ring_to_run/ringtorun/Task;" pb := u37.other W44 (Or.inl u9.symm)
  have f59 : Fld Z h43 tb "com/example/ring_to_run/ringtorun/Task" "next" "Lcom/example/ring_to_run/ringtorun/Task;" nb := u38.other W44 (Or.inl u9.symm)
  have f60 : Fld Z h43 tb "com/example/ring_to_run/ringtorun/Task" "dueInstant" "J" (.long db) := u39.other W44 (Or.inl u9.symm)
  have f61 : own_Af Z h43 aH kH (.object "com/example/ring_to_run/ringtorun/Task") (Int32.ofNat (64 * M)) .null (own_h1 ta K) := u40.other W44 u10.symm
  have f62 : own_Af Z h43 aT kT (.object "com/example/ring_to_run/ringtorun/Task") (Int32.ofNat (64 * M)) .null (own_h1 ta K) := u41.other W44 u11.symm
  have f63 : own_Af Z h43 aO kO .long (Int32.ofNat M) (.long 0) (own_o1 K) := u42.other W44 u12.symm
  refine own_aload_n H rfl rfl d10_117 ?_
  refine own_iload H rfl d10_118 ?_
  refine own_bipush H (64 : Int32) (by decide) d10_120 ?_
  refine own_imul H rfl d10_122 ?_
  refine own_iload H rfl d10_123 ?_
  refine own_iadd H rfl d10_125 ?_
  rw [own_kk]
  show own_G _ _ _ _ _ _ _ _ 126 #[.val (.ref q), .val (.long t), .second, .val (.long u), .second, .val (.int (Int32.ofNat (K / 64))), .val (.int (Int32.ofNat (K % 64))), .val (.long o), .second] [(.int (Int32.ofNat K)), (.ref q)]
  refine own_invokepriv H (a := q) (argsL := [(.int (Int32.ofNat K))]) (rest := []) (rmMdn l Z a0 (own_hw H) h43 n0 q ta tb aH aT aO kH kT kO M st da db o pb nb K K' ⟨⟨f45, u2, u3, u4, u5, u6, u7⟩, ⟨u8, u9, u10, u11, u12, u13, u14, u15, u16, u17, u18, u19, u20, u21, u22⟩, ⟨f46, f47, f48, u26, u27⟩, ⟨f49, f50, f51, f52, f53, f54⟩, ⟨f55, f56, f57⟩, ⟨f58, f59, f60⟩, ⟨f61, f62, f63⟩⟩ hM hK hK' hB) f46 (w1 := 127) (w2 := 128) (w5 := 9) (w6 := 129) (w3 := 10) (w4 := 130) rfl rfl rfl rfl rfl rfl own_pd10 rfl 0 (by decide) rfl (by decide) (Nat.le_of_eq rfl) (by decide) (by decide) (by decide) rfl d10_126 ?_
  rintro _ h64 ⟨rfl, hQ⟩
  obtain ⟨⟨u65, u66, u67, u68, u69, u70, u71⟩, ⟨u72, u73, u74, u75, u76, u77, u78, u79, u80, u81, u82, u83, u84, u85, u86⟩, ⟨u87, u88, u89, u90, u91⟩, ⟨u92, u93, u94, u95, u96, u97⟩, ⟨u98, u99, u100⟩, ⟨u101, u102, u103⟩, ⟨u104, u105, u106⟩⟩ := hQ
  show own_G _ _ _ _ _ _ _ _ 129 #[.val (.ref q), .val (.long t), .second, .val (.long u), .second, .val (.int (Int32.ofNat (K / 64))), .val (.int (Int32.ofNat (K % 64))), .val (.long o), .second] []
  refine own_goto H (pc' := 7) d10_129 (by decide) (by decide) ?_
  exact k _ ⟨⟨u65, u66, u67, u68, u69, u70, u71⟩, ⟨u72, u73, u74, u75, u76, u77, u78, u79, u80, u81, u82, u83, u84, u85, u86⟩, ⟨u87, u88, u89, u90, u91⟩, ⟨u92, u93, u94, u95, u96, u97⟩, ⟨u98, u99, u100⟩, ⟨u101, u102, u103⟩, ⟨u104, u105, u106⟩⟩
theorem own_T1b_1 {B : own_B} {l : Launch} {Z : State} {a0 : Array Value} (H : own_Ok B Z a0 l ({ frames := 4, cells := 0, slots := 0, locals := 100 } : Room) (⟨"com/example/ring_to_run/ringtorun/TickQueue", "poll", "(J)Lcom/example/ring_to_run/ringtorun/Task;"⟩ : MethodName) prog_11_method_7_code 9 (some (.object "com/example/ring_to_run/ringtorun/Task"))) {h : Heap} {n0 : Nat} {Q : Option Value → Heap → Prop} {q : Addr} {ta : Addr} {tb : Addr} {aH : Addr} {aT : Addr} {aO : Addr} {kH : ClassId} {kT : ClassId} {kO : ClassId} {M : Nat} {st : Int64} {da : Int64} {db : Int64} {cur : Int64} {pb nb : Value} {K K' : Nat} {t u o x7 : Int64} {x5 x6 : Int32} (hQ : own_Qu Z n0 h q ta tb aH aT aO kH kT kO M st da db cur (own_h1 ta K) (own_h1 ta K) (own_o1 K) .null .null pb nb) (hM : M ≤ 11) (hK : K < 64 * M) (hS : 64 ≤ K) (hb : ¬ (FBit (Int32.ofNat K)) = 0) (hN : FNtzL (FBit (Int32.ofNat K)) = Int32.ofNat (K % 64)) (hO : FFo (Int32.ofNat (K / 64)) (Int32.ofNat (K % 64)) cur = o) (hu : ¬ u < o) (hK' : K' < 64 * M) (hB : FBk (da - st) o = Int32.ofNat K') (k : ∀ h', own_Qu Z n0 h' q ta tb aH aT aO kH kT kO M st da db o (own_h1 ta K') (own_h1 ta K') (own_o1 K') .null .null pb nb → own_G B n0 Q 0 0 0 0 h' 7 #[.val (.ref q), .val (.long t), .second, .val (.long u), .second, .val (.int (Int32.ofNat (K / 64))), .val (.int (Int32.ofNat (K % 64))), .val (.long o), .second] []) : own_G B n0 Q 0 0 0 0 h 7 #[.val (.ref q), .val (.long t), .second, .val (.long u), .second, .val (.int x5), .val (.int x6), .val (.long x7), .second] [] := by
  obtain ⟨⟨u1, u2, u3, u4, u5, u6, u7⟩, ⟨u8, u9, u10, u11, u12, u13, u14, u15, u16, u17, u18, u19, u20, u21, u22⟩, ⟨u23, u24, u25, u26, u27⟩, ⟨u28, u29, u30, u31, u32, u33⟩, ⟨u34, u35, u36⟩, ⟨u37, u38, u39⟩, ⟨u40, u41, u42⟩⟩ := hQ
  refine own_aload_n H rfl rfl d10_7 ?_
  refine own_getfield H (w := 39) rfl u31 d10_8 ?_
  refine own_iconst H (0 : Int32) (by decide) d10_11 ?_
  refine own_laloadF H (v := (.long (0 : Int64))) u42 (by decide) (own_z2 (by omega) hM) (own_o1n0 hS) d10_12 ?_
  refine own_lconst H (0 : Int64) (by decide) d10_13 ?_
  refine own_lcmpeq_t H (pc' := 67) d10_14 d10_15 (by decide) (by decide) (by decide) ?_
  refine own_aload_n H rfl rfl d10_67 ?_
  refine own_invokepriv H (a := q) (argsL := []) (rest := []) (rmLoL l Z a0 (own_hw H) h n0 q aO kO M (own_o1 K) (K / 64) (FBit (Int32.ofNat K)) u23 u28 u31 u42 hM (fun j _ hj => own_o1n hj) (Nat.div_lt_of_lt_mul hK) (own_o1s K) hb (by omega)) u23 (w1 := 76) (w2 := 77) (w5 := 9) (w6 := 78) (w3 := 10) (w4 := 79) rfl rfl rfl rfl rfl rfl own_pd11 rfl 0 (by decide) rfl (by decide) (Nat.le_of_eq rfl) (by decide) (by decide) (by decide) rfl d10_68 ?_
  rintro _ _ ⟨rfl, rfl⟩
  show own_G _ _ _ _ _ _ _ _ 71 #[.val (.ref q), .val (.long t), .second, .val (.long u), .second, .val (.int x5), .val (.int x6), .val (.long x7), .second] [(.int (Int32.ofNat (K / 64)))]
  refine own_istore H #[.val (.ref q), .val (.long t), .second, .val (.long u), .second, .val (.int (Int32.ofNat (K / 64))), .val (.int x6), .val (.long x7), .second] rfl d10_71 ?_
  refine own_iload H rfl d10_73 ?_
  refine own_ifge_t H (pc' := 80) d10_75 (by decide) (by decide) (own_i1 (by omega)) ?_
  refine own_aload_n H rfl rfl d10_80 ?_
  refine own_getfield H (w := 39) rfl u31 d10_81 ?_
  refine own_iload H rfl d10_84 ?_
  refine own_laloadF H (v := (.long (FBit (Int32.ofNat K)))) u42 (own_i1 (by omega)) (own_i2 (Nat.div_lt_of_lt_mul hK) (by omega)) (by rw [own_cn (by omega)]; exact own_o1s K) d10_86 ?_
  refine own_invokestatic H (argsL := [(.long (FBit (Int32.ofNat K)))]) (rest := []) (rmNtzL l Z a0 (own_hw H) h n0 (FBit (Int32.ofNat K))) (w1 := 117) (w2 := 118) (w3 := 21) (w4 := 119) rfl rfl rfl rfl own_pd3 rfl 0 (by decide) rfl (by decide) (Nat.le_of_eq rfl) (by decide) (by decide) (by decide) rfl d10_87 ?_
  rintro _ _ ⟨rfl, rfl⟩
  show own_G _ _ _ _ _ _ _ _ 90 #[.val (.ref q), .val (.long t), .second, .val (.long u), .second, .val (.int (Int32.ofNat (K / 64))), .val (.int x6), .val (.long x7), .second] [(.int (FNtzL (FBit (Int32.ofNat K))))]
  rw [hN]
  show own_G _ _ _ _ _ _ _ _ 90 #[.val (.ref q), .val (.long t), .second, .val (.long u), .second, .val (.int (Int32.ofNat (K / 64))), .val (.int x6), .val (.long x7), .second] [(.int (Int32.ofNat (K % 64)))]
  refine own_istore H #[.val (.ref q), .val (.long t), .second, .val (.long u), .second, .val (.int (Int32.ofNat (K / 64))), .val (.int (Int32.ofNat (K % 64))), .val (.long x7), .second] rfl d10_90 ?_
  refine own_aload_n H rfl rfl d10_92 ?_
  refine own_iload H rfl d10_93 ?_
  refine own_iload H rfl d10_95 ?_
  refine own_invokepriv H (a := q) (argsL := [(.int (Int32.ofNat (K / 64))), (.int (Int32.ofNat (K % 64)))]) (rest := []) (rmFo l Z a0 (own_hw H) h n0 q (Int32.ofNat (K / 64)) (Int32.ofNat (K % 64)) cur u33) u23 (w1 := 123) (w2 := 124) (w5 := 9) (w6 := 125) (w3 := 10) (w4 := 126) rfl rfl rfl rfl rfl rfl own_pd6 rfl 0 (by decide) rfl (by decide) (Nat.le_of_eq rfl) (by decide) (by decide) (by decide) rfl d10_97 ?_
  rintro _ _ ⟨rfl, rfl⟩
  show own_G _ _ _ _ _ _ _ _ 100 #[.val (.ref q), .val (.long t), .second, .val (.long u), .second, .val (.int (Int32.ofNat (K / 64))), .val (.int (Int32.ofNat (K % 64))), .val (.long x7), .second] [(.long (FFo (Int32.ofNat (K / 64)) (Int32.ofNat (K % 64)) cur))]
  rw [hO]
  show own_G _ _ _ _ _ _ _ _ 100 #[.val (.ref q), .val (.long t), .second, .val (.long u), .second, .val (.int (Int32.ofNat (K / 64))), .val (.int (Int32.ofNat (K % 64))), .val (.long x7), .second] [(.long o)]
  refine own_lstore H #[.val (.ref q), .val (.long t), .second, .val (.long u), .second, .val (.int (Int32.ofNat (K / 64))), .val (.int (Int32.ofNat (K % 64))), .val (.long o), .second] rfl d10_100 ?_
  refine own_lload H rfl d10_102 ?_
  refine own_lload_n H rfl d10_104 ?_
  refine own_lcmple_t H (pc' := 111) d10_105 d10_106 (by decide) (by decide) hu ?_
  refine own_aload_n H rfl rfl d10_111 ?_
  refine own_lload H rfl d10_112 ?_
  refine own_putfield H (w := 95) (wi := 9) rfl u33 u23 u2 (Or.inl (own_w H (i := 96) rfl)) rfl (ty := .long) (by decide) rfl rfl d10_114 ?_
  intro h43 W44
  have f45 : n0 ≤ h43.size := by rw [W44.size]; exact u1
  have f46 : Exa Z h43 q "com/example/ring_to_run/ringtorun/TickQueue" := u23.wr W44
  have f47 : Exa Z h43 ta "com/example/ring_to_run/ringtorun/Task" := u24.wr W44
  have f48 : Exa Z h43 tb "com/example/ring_to_run/ringtorun/Task" := u25.wr W44
  have f49 : Fld Z h43 q "com/example/ring_to_run/ringtorun/TickQueue" "levels" "I" (.int (Int32.ofNat M)) := u28.other W44 (Or.inr (slot_ne (Or.inr (own_w H (i := 31) rfl)) (Or.inl (own_w H (i := 96) rfl)) (by decide) (t := .int) (t' := .long) (by decide) (by decide)))
  have f50 : Fld Z h43 q "com/example/ring_to_run/ringtorun/TickQueue" "heads" "[Lcom/example/ring_to_run/ringtorun/Task;" (.ref aH) := u29.other W44 (Or.inr (slot_ne (Or.inr (own_w H (i := 35) rfl)) (Or.inl (own_w H (i := 96) rfl)) (by decide) (t := (.array (.object "com/example/ring_to_run/ringtorun/Task"))) (t' := .long) (by decide) (by decide)))
  have f51 : Fld Z h43 q "com/example/ring_to_run/ringtorun/TickQueue" "tails" "[Lcom/example/ring_to_run/ringtorun/Task;" (.ref aT) := u30.other W44 (Or.inr (slot_ne (Or.inr (own_w H (i := 37) rfl)) (Or.inl (own_w H (i := 96) rfl)) (by decide) (t := (.array (.object "com/example/ring_to_run/ringtorun/Task"))) (t' := .long) (by decide) (by decide)))
  have f52 : Fld Z h43 q "com/example/ring_to_run/ringtorun/TickQueue" "occupied" "[J" (.ref aO) := u31.other W44 (Or.inr (slot_ne (Or.inr (own_w H (i := 40) rfl)) (Or.inl (own_w H (i := 96) rfl)) (by decide) (t := (.array .long)) (t' := .long) (by decide) (by decide)))
  have f53 : Fld Z h43 q "com/example/ring_to_run/ringtorun/TickQueue" "start" "J" (.long st) := u32.other W44 (Or.inr (slot_ne (Or.inl (own_w H (i := 42) rfl)) (Or.inl (own_w H (i := 96) rfl)) (by decide) (t := .long) (t' := .long) (by decide) (by decide)))
  have f54 : Fld Z h43 q "com/example/ring_to_run/ringtorun/TickQueue" "cursor" "J" (.long o) := u33.same W44
  have f55 : Fld Z h43 ta "com/example/ring_to_run/ringtorun/Task" "previous" "Lcom/example/ring_to_run/ringtorun/Task;" .null := u34.other W44 (Or.inl u8.symm)
  have f56 : Fld Z h43 ta "com/example/ring_to_run/ringtorun/Task" "next" "Lcom/example/ring_to_run/ringtorun/Task;" .null := u35.other W44 (Or.inl u8.symm)
  have f57 : Fld Z h43 ta "com/example/ring_to_run/ringtorun/Task" "dueInstant" "J" (.long da) := u36.other W44 (Or.inl u8.symm)
  have f58 : Fld Z h43 tb "com/example/ring_to_run/ringtorun/Task" "previous" "Lcom/example/ring_to_run/ringtorun/Task;" pb := u37.other W44 (Or.inl u9.symm)
  have f59 : Fld Z h43 tb "com/example/ring_to_run/ringtorun/Task" "next" "Lcom/example/ring_to_run/ringtorun/Task;" nb := u38.other W44 (Or.inl u9.symm)
  have f60 : Fld Z h43 tb "com/example/ring_to_run/ringtorun/Task" "dueInstant" "J" (.long db) := u39.other W44 (Or.inl u9.symm)
  have f61 : own_Af Z h43 aH kH (.object "com/example/ring_to_run/ringtorun/Task") (Int32.ofNat (64 * M)) .null (own_h1 ta K) := u40.other W44 u10.symm
  have f62 : own_Af Z h43 aT kT (.object "com/example/ring_to_run/ringtorun/Task") (Int32.ofNat (64 * M)) .null (own_h1 ta K) := u41.other W44 u11.symm
  have f63 : own_Af Z h43 aO kO .long (Int32.ofNat M) (.long 0) (own_o1 K) := u42.other W44 u12.symm
  refine own_aload_n H rfl rfl d10_117 ?_
  refine own_iload H rfl d10_118 ?_
  refine own_bipush H (64 : Int32) (by decide) d10_120 ?_
  refine own_imul H rfl d10_122 ?_
  refine own_iload H rfl d10_123 ?_
  refine own_iadd H rfl d10_125 ?_
  rw [own_kk]
  show own_G _ _ _ _ _ _ _ _ 126 #[.val (.ref q), .val (.long t), .second, .val (.long u), .second, .val (.int (Int32.ofNat (K / 64))), .val (.int (Int32.ofNat (K % 64))), .val (.long o), .second] [(.int (Int32.ofNat K)), (.ref q)]
  refine own_invokepriv H (a := q) (argsL := [(.int (Int32.ofNat K))]) (rest := []) (rmMdn l Z a0 (own_hw H) h43 n0 q ta tb aH aT aO kH kT kO M st da db o pb nb K K' ⟨⟨f45, u2, u3, u4, u5, u6, u7⟩, ⟨u8, u9, u10, u11, u12, u13, u14, u15, u16, u17, u18, u19, u20, u21, u22⟩, ⟨f46, f47, f48, u26, u27⟩, ⟨f49, f50, f51, f52, f53, f54⟩, ⟨f55, f56, f57⟩, ⟨f58, f59, f60⟩, ⟨f61, f62, f63⟩⟩ hM hK hK' hB) f46 (w1 := 127) (w2 := 128) (w5 := 9) (w6 := 129) (w3 := 10) (w4 := 130) rfl rfl rfl rfl rfl rfl own_pd10 rfl 0 (by decide) rfl (by decide) (Nat.le_of_eq rfl) (by decide) (by decide) (by decide) rfl d10_126 ?_
  rintro _ h64 ⟨rfl, hQ⟩
  obtain ⟨⟨u65, u66, u67, u68, u69, u70, u71⟩, ⟨u72, u73, u74, u75, u76, u77, u78, u79, u80, u81, u82, u83, u84, u85, u86⟩, ⟨u87, u88, u89, u90, u91⟩, ⟨u92, u93, u94, u95, u96, u97⟩, ⟨u98, u99, u100⟩, ⟨u101, u102, u103⟩, ⟨u104, u105, u106⟩⟩ := hQ
  show own_G _ _ _ _ _ _ _ _ 129 #[.val (.ref q), .val (.long t), .second, .val (.long u), .second, .val (.int (Int32.ofNat (K / 64))), .val (.int (Int32.ofNat (K % 64))), .val (.long o), .second] []
  refine own_goto H (pc' := 7) d10_129 (by decide) (by decide) ?_
  exact k _ ⟨⟨u65, u66, u67, u68, u69, u70, u71⟩, ⟨u72, u73, u74, u75, u76, u77, u78, u79, u80, u81, u82, u83, u84, u85, u86⟩, ⟨u87, u88, u89, u90, u91⟩, ⟨u92, u93, u94, u95, u96, u97⟩, ⟨u98, u99, u100⟩, ⟨u101, u102, u103⟩, ⟨u104, u105, u106⟩⟩
theorem own_am : ∀ s, s < 64 → ((Int32.ofNat s).toInt64.toUInt64 &&& Int64.toUInt64 63).toNat = s := by decide +kernel
theorem own_as : ∀ s, s < 64 → ((Int32.ofNat s).toInt64 &&& 63).toBitVec.smod 64 = BitVec.ofNat 64 s := by decide +kernel
theorem own_ul {A s : Nat} (h : A < 2 ^ 64) (hs : s < 64) : XT.ushrL (Int64.ofNat A) (Int32.ofNat s) = Int64.ofNat (A / 2 ^ s) := by
  rw [← Int64.toBitVec_inj, ← BitVec.toNat_inj]
  have e : (XT.ushrL (Int64.ofNat A) (Int32.ofNat s)).toBitVec.toNat = ((Int64.ofNat A).toUInt64 >>> ((Int32.ofNat s).toInt64.toUInt64 &&& Int64.toUInt64 63)).toNat := rfl
  rw [e, UInt64.toNat_shiftRight, own_am s hs, Nat.mod_eq_of_lt hs, Nat.shiftRight_eq_div_pow, Int64.toBitVec_ofNat', BitVec.toNat_ofNat]
  have e2 : (Int64.ofNat A).toUInt64.toNat = A % 2 ^ 64 := by
    show (Int64.ofNat A).toBitVec.toNat = _
    rw [Int64.toBitVec_ofNat', BitVec.toNat_ofNat]
  rw [e2, Nat.mod_eq_of_lt h, Nat.mod_eq_of_lt (Nat.lt_of_le_of_lt (Nat.div_le_self _ _) h)]
theorem own_sl {A s : Nat} (hs : s < 64) : (Int64.ofNat A) <<< ((Int32.ofNat s).toInt64 &&& 63) = Int64.ofNat (A * 2 ^ s) := by
  rw [← Int64.toBitVec_inj, Int64.toBitVec_shiftLeft, own_as s hs, Int64.toBitVec_ofNat', Int64.toBitVec_ofNat', ← BitVec.toNat_inj]
  rw [BitVec.shiftLeft_eq', BitVec.toNat_shiftLeft, BitVec.toNat_ofNat, BitVec.toNat_ofNat, BitVec.toNat_ofNat, Nat.shiftLeft_eq, Nat.mod_eq_of_lt (show s < 2 ^ 64 by omega), Nat.mod_mul_mod]
theorem own_xr (A B : Nat) : Int64.ofNat A ^^^ Int64.ofNat B = Int64.ofNat (A ^^^ B) := by
  rw [← Int64.toBitVec_inj, Int64.toBitVec_xor, Int64.toBitVec_ofNat', Int64.toBitVec_ofNat', Int64.toBitVec_ofNat', BitVec.ofNat_xor]
theorem own_orn (A B : Nat) : Int64.ofNat A ||| Int64.ofNat B = Int64.ofNat (A ||| B) := by
  rw [← Int64.toBitVec_inj, Int64.toBitVec_or, Int64.toBitVec_ofNat', Int64.toBitVec_ofNat', Int64.toBitVec_ofNat', BitVec.ofNat_or]
theorem own_a63 (A : Nat) : Int64.ofNat A &&& (63 : Int64) = Int64.ofNat (A % 64) := by
  have e : (63 : Int64) = Int64.ofNat 63 := rfl
  rw [e, ← Int64.toBitVec_inj, Int64.toBitVec_and, Int64.toBitVec_ofNat', Int64.toBitVec_ofNat', Int64.toBitVec_ofNat', ← BitVec.ofNat_and]
  congr 1
  exact Nat.and_two_pow_sub_one_eq_mod A 6
theorem own_c2i (A : Nat) : (Int64.ofNat A).toInt32 = Int32.ofNat A := by
  rw [← Int32.toBitVec_inj, Int64.toBitVec_toInt32, Int64.toBitVec_ofNat', Int32.toBitVec_ofNat', BitVec.signExtend_eq_setWidth_of_le _ (by decide)]
  rw [← BitVec.toNat_inj, BitVec.toNat_setWidth, BitVec.toNat_ofNat, BitVec.toNat_ofNat]
  omega
theorem own_c2l {J : Nat} (h : J < 2147483648) : (Int32.ofNat J).toInt64 = Int64.ofNat J := by
  rw [← Int64.toInt_inj, Int32.toInt_toInt64, Int32.toInt_ofNat_of_lt (by omega), Int64.toInt_ofNat_of_lt (by omega)]
theorem own_lj {A B : Nat} (hA : A < 2 ^ 63) (hB : B < 2 ^ 63) : (Int64.ofNat A < Int64.ofNat B) ↔ A < B := by
  rw [Int64.lt_iff_toInt_lt, Int64.toInt_ofNat_of_lt hA, Int64.toInt_ofNat_of_lt hB]
  omega
theorem own_ej {A B : Nat} (hA : A < 2 ^ 63) (hB : B < 2 ^ 63) : (Int64.ofNat A = Int64.ofNat B) ↔ A = B := by
  rw [← Int64.toInt_inj, Int64.toInt_ofNat_of_lt hA, Int64.toInt_ofNat_of_lt hB]
  omega
/-- the top group of bits -/
def own_Gf (D : Nat) : Nat := D.log2 / 6
theorem own_64 (k : Nat) : 64 ^ k = 2 ^ (6 * k) := by
  rw [Nat.pow_mul]
theorem own_Glt (D : Nat) {k : Nat} (hk : 1 ≤ k) : own_Gf D < k ↔ D < 64 ^ k := by
  unfold own_Gf
  by_cases h : D = 0
  · subst h
    have : 0 < 64 ^ k := Nat.pos_of_ne_zero (by simp)
    simp
    omega
  · rw [own_64, ← Nat.log2_lt h]
    omega
theorem own_Gle (D L : Nat) : own_Gf D ≤ L ↔ D < 64 ^ (L + 1) := by
  rw [← own_Glt D (by omega)]
  omega
theorem own_Gx (A B L : Nat) : own_Gf (A ^^^ B) ≤ L ↔ A / 64 ^ (L + 1) = B / 64 ^ (L + 1) := by
  rw [own_Gle]
  have h : 0 < 64 ^ (L + 1) := Nat.pos_of_ne_zero (by simp)
  rw [← Nat.div_eq_zero_iff_lt h, own_64, Nat.xor_div_two_pow]
  constructor
  · intro q
    have e := congrArg (fun x => x ^^^ B / 2 ^ (6 * (L + 1))) q
    simpa [Nat.xor_assoc] using e
  · intro q
    rw [q, Nat.xor_self]
theorem own_G10 {D : Nat} (h : D < 2 ^ 63) : own_Gf D ≤ 10 := by
  rw [own_Gle]
  omega
theorem own_shz {D : Nat} (h : D < 2 ^ 63) (s : Nat) (hs : s < 64) : (XT.ushrL (Int64.ofNat D) (Int32.ofNat s) = (0 : Int64)) ↔ D < 2 ^ s := by
  rw [own_ul (by omega) hs]
  have e : (0 : Int64) = Int64.ofNat 0 := rfl
  rw [e, own_ej (Nat.lt_of_le_of_lt (Nat.div_le_self _ _) h) (by omega), Nat.div_eq_zero_iff_lt (Nat.two_pow_pos s)]
theorem own_grp {D : Nat} (h : D < 2 ^ 63) : FGrp (Int64.ofNat D) = Int32.ofNat (own_Gf D) := by
  have z1 : (XT.ushrL (Int64.ofNat D) (6 : Int32) = (0 : Int64)) ↔ D < 2 ^ 6 := own_shz h 6 (by omega)
  have z2 : (XT.ushrL (Int64.ofNat D) (12 : Int32) = (0 : Int64)) ↔ D < 2 ^ 12 := own_shz h 12 (by omega)
  have z3 : (XT.ushrL (Int64.ofNat D) (18 : Int32) = (0 : Int64)) ↔ D < 2 ^ 18 := own_shz h 18 (by omega)
  have z4 : (XT.ushrL (Int64.ofNat D) (24 : Int32) = (0 : Int64)) ↔ D < 2 ^ 24 := own_shz h 24 (by omega)
  have z5 : (XT.ushrL (Int64.ofNat D) (30 : Int32) = (0 : Int64)) ↔ D < 2 ^ 30 := own_shz h 30 (by omega)
  have z6 : (XT.ushrL (Int64.ofNat D) (36 : Int32) = (0 : Int64)) ↔ D < 2 ^ 36 := own_shz h 36 (by omega)
  have z7 : (XT.ushrL (Int64.ofNat D) (42 : Int32) = (0 : Int64)) ↔ D < 2 ^ 42 := own_shz h 42 (by omega)
  have z8 : (XT.ushrL (Int64.ofNat D) (48 : Int32) = (0 : Int64)) ↔ D < 2 ^ 48 := own_shz h 48 (by omega)
  have z9 : (XT.ushrL (Int64.ofNat D) (54 : Int32) = (0 : Int64)) ↔ D < 2 ^ 54 := own_shz h 54 (by omega)
  have z10 : (XT.ushrL (Int64.ofNat D) (60 : Int32) = (0 : Int64)) ↔ D < 2 ^ 60 := own_shz h 60 (by omega)
  have g1 := own_Glt D (k := 1) (by omega)
  have g2 := own_Glt D (k := 2) (by omega)
  have g3 := own_Glt D (k := 3) (by omega)
  have g4 := own_Glt D (k := 4) (by omega)
  have g5 := own_Glt D (k := 5) (by omega)
  have g6 := own_Glt D (k := 6) (by omega)
  have g7 := own_Glt D (k := 7) (by omega)
  have g8 := own_Glt D (k := 8) (by omega)
  have g9 := own_Glt D (k := 9) (by omega)
  have g10 := own_Glt D (k := 10) (by omega)
  have g11 := own_G10 h
  have key : ∀ k : Nat, own_Gf D = k → Int32.ofNat k = Int32.ofNat (own_Gf D) := fun k e => by rw [e]
  unfold FGrp
  by_cases c1 : D < 2 ^ 6
  · rw [if_pos (z1.mpr c1)]; exact key 0 (by omega)
  rw [if_neg (fun q => c1 (z1.mp q))]
  by_cases c2 : D < 2 ^ 12
  · rw [if_pos (z2.mpr c2)]; exact key 1 (by omega)
  rw [if_neg (fun q => c2 (z2.mp q))]
  by_cases c3 : D < 2 ^ 18
  · rw [if_pos (z3.mpr c3)]; exact key 2 (by omega)
  rw [if_neg (fun q => c3 (z3.mp q))]
  by_cases c4 : D < 2 ^ 24
  · rw [if_pos (z4.mpr c4)]; exact key 3 (by omega)
  rw [if_neg (fun q => c4 (z4.mp q))]
  by_cases c5 : D < 2 ^ 30
  · rw [if_pos (z5.mpr c5)]; exact key 4 (by omega)
  rw [if_neg (fun q => c5 (z5.mp q))]
  by_cases c6 : D < 2 ^ 36
  · rw [if_pos (z6.mpr c6)]; exact key 5 (by omega)
  rw [if_neg (fun q => c6 (z6.mp q))]
  by_cases c7 : D < 2 ^ 42
  · rw [if_pos (z7.mpr c7)]; exact key 6 (by omega)
  rw [if_neg (fun q => c7 (z7.mp q))]
  by_cases c8 : D < 2 ^ 48
  · rw [if_pos (z8.mpr c8)]; exact key 7 (by omega)
  rw [if_neg (fun q => c8 (z8.mp q))]
  by_cases c9 : D < 2 ^ 54
  · rw [if_pos (z9.mpr c9)]; exact key 8 (by omega)
  rw [if_neg (fun q => c9 (z9.mp q))]
  by_cases c10 : D < 2 ^ 60
  · rw [if_pos (z10.mpr c10)]; exact key 9 (by omega)
  rw [if_neg (fun q => c10 (z10.mp q))]
  exact key 10 (by omega)
/-- rounded down to the k-th group -/
def own_Rf (A k : Nat) : Nat := A / 64 ^ k * 64 ^ k
theorem own_rnd {A k : Nat} (h : A < 2 ^ 63) (hk : k ≤ 11) : FRnd (Int64.ofNat A) (Int32.ofNat k) = Int64.ofNat (own_Rf A k) := by
  unfold FRnd
  by_cases c : k < 11
  · have c' : Int32.ofNat k < (11 : Int32) := own_i2 (n := 11) c (by omega)
    have e6 : (6 : Int32) * Int32.ofNat k = Int32.ofNat (6 * k) := by
      have e : (6 : Int32) = Int32.ofNat 6 := rfl
      rw [e, ← Int32.ofNat_mul]
    rw [if_pos c', e6, own_ul (by omega) (by omega), own_sl (by omega), own_Rf, own_64]
  · have : k = 11 := by omega
    subst this
    rw [if_neg (by decide)]
    have e : A / 64 ^ 11 = 0 := by omega
    unfold own_Rf
    rw [e]
    rfl

theorem own_ushr (x : Int32) (k : Int32) (s : Nat) (hs : s < 32) (hk : (k &&& 31).toUInt32.toNat = s) (hx : 0 ≤ x.toInt) (h1 : 0 < s) : (XT.ushr x k).toInt = x.toInt / 2 ^ s := by
  have h : (XT.ushr x k).toBitVec.toNat = x.toBitVec.toNat / 2 ^ s := by
    have h : (XT.ushr x k).toBitVec.toNat = (x.toUInt32 >>> (k &&& 31).toUInt32).toNat := rfl
    rw [h, UInt32.toNat_shiftRight, hk, Nat.mod_eq_of_lt hs, Nat.shiftRight_eq_div_pow]
    rfl
  have hxx : x.toInt = x.toBitVec.toNat := by
    have : x.toInt = x.toBitVec.toInt := rfl
    rw [this, BitVec.toInt_eq_toNat_cond] at hx ⊢
    have := x.toBitVec.isLt
    split at hx <;> split <;> omega
  have hl : x.toBitVec.toNat / 2 ^ s ≤ x.toBitVec.toNat := Nat.div_le_self _ _
  have hb : x.toBitVec.toNat < 2 ^ 31 := by have := x.toInt_lt; omega
  show (XT.ushr x k).toBitVec.toInt = _
  rw [BitVec.toInt_eq_toNat_cond, if_pos (by omega), h, hxx]
  simp
theorem own_u1 (x : Int32) (hx : 0 ≤ x.toInt) : (XT.ushr x (1 : Int32)).toInt = x.toInt / 2 := own_ushr x 1 1 (by decide) (by decide) hx (by decide)
theorem own_u2 (x : Int32) (hx : 0 ≤ x.toInt) : (XT.ushr x (2 : Int32)).toInt = x.toInt / 4 := own_ushr x 2 2 (by decide) (by decide) hx (by decide)
theorem own_u4 (x : Int32) (hx : 0 ≤ x.toInt) : (XT.ushr x (4 : Int32)).toInt = x.toInt / 16 := own_ushr x 4 4 (by decide) (by decide) hx (by decide)
theorem own_u8 (x : Int32) (hx : 0 ≤ x.toInt) : (XT.ushr x (8 : Int32)).toInt = x.toInt / 256 := own_ushr x 8 8 (by decide) (by decide) hx (by decide)
theorem own_u16 (x : Int32) (hx : 0 ≤ x.toInt) : (XT.ushr x (16 : Int32)).toInt = x.toInt / 65536 := own_ushr x 16 16 (by decide) (by decide) hx (by decide)
theorem own_leaf (c : Int32) (s : Nat) (hc : c.toInt = 31 - (s : Int)) (hs : s ≤ 30) (y : Int32) (a : Int) (hy : y.toInt = a / 2 ^ s) (h1 : 1 ≤ y.toInt) (h4 : y.toInt < 4) : ∃ k : Nat, (c - XT.ushr y (1 : Int32)).toInt = 31 - (k : Int) ∧ 2 ^ k ≤ a ∧ a < 2 ^ (k + 1) := by
  have e := own_u1 y (by omega)
  have r : (c - XT.ushr y (1 : Int32)).toInt = 31 - (s : Int) - y.toInt / 2 := by
    rw [XT.sub32 ⟨by rw [e]; omega, by rw [e]; omega⟩, e, hc]
  have p : (0 : Int) < 2 ^ s := Int.pow_pos (by decide)
  have q1 : y.toInt * 2 ^ s ≤ a := by rw [hy]; exact Int.ediv_mul_le a (by omega)
  have q2 : a < (y.toInt + 1) * 2 ^ s := by rw [hy]; exact Int.lt_ediv_add_one_mul_self a p
  by_cases c2 : y.toInt < 2
  · have e1 : y.toInt = 1 := by omega
    refine ⟨s, by rw [r, e1]; omega, ?_, ?_⟩
    · rw [e1] at q1; omega
    · rw [e1] at q2; rw [Int.pow_succ]; omega
  · refine ⟨s + 1, by rw [r]; omega, ?_, ?_⟩
    · rw [Int.pow_succ]
      have : 2 * 2 ^ s ≤ y.toInt * 2 ^ s := Int.mul_le_mul_of_nonneg_right (by omega) (by omega)
      omega
    · rw [Int.pow_succ, Int.pow_succ]
      have : (y.toInt + 1) * 2 ^ s ≤ 4 * 2 ^ s := Int.mul_le_mul_of_nonneg_right (by omega) (by omega)
      omega
theorem own_nlz (a : Int32) (h : 0 < a.toInt) : ∃ k : Nat, (FNlz a).toInt = 31 - (k : Int) ∧ 2 ^ k ≤ a.toInt ∧ a.toInt < 2 ^ (k + 1) := by
  have l0 : (0 : Int32).toInt = 0 := rfl
  have l4 : (4 : Int32).toInt = 4 := by decide
  have l16 : (16 : Int32).toInt = 16 := by decide
  have l256 : (256 : Int32).toInt = 256 := by decide
  have l65 : (65536 : Int32).toInt = 65536 := by decide
  have r := a.toInt_lt
  unfold FNlz
  simp only [Int32.lt_iff_toInt_lt, l0, l4, l16, l256, l65]
  rw [if_pos h]
  have h0 : 0 ≤ a.toInt := by omega
  have e16 := own_u16 a h0
  have e8 := own_u8 a h0
  have e4 := own_u4 a h0
  have e2 := own_u2 a h0
  have f8 := own_u8 (XT.ushr a 16) (by rw [e16]; omega)
  have f4 := own_u4 (XT.ushr a 16) (by rw [e16]; omega)
  have f2 := own_u2 (XT.ushr a 16) (by rw [e16]; omega)
  have g4 := own_u4 (XT.ushr a 8) (by rw [e8]; omega)
  have g2 := own_u2 (XT.ushr a 8) (by rw [e8]; omega)
  have i2 := own_u2 (XT.ushr a 4) (by rw [e4]; omega)
  have k4 := own_u4 (XT.ushr (XT.ushr a 16) 8) (by rw [f8, e16]; omega)
  have k2 := own_u2 (XT.ushr (XT.ushr a 16) 8) (by rw [f8, e16]; omega)
  have m2 := own_u2 (XT.ushr (XT.ushr a 16) 4) (by rw [f4, e16]; omega)
  have n2 := own_u2 (XT.ushr (XT.ushr a 8) 4) (by rw [g4, e8]; omega)
  have o2 := own_u2 (XT.ushr (XT.ushr (XT.ushr a 16) 8) 4) (by rw [k4, f8, e16]; omega)
  repeat' split
  all_goals first
    | exact own_leaf _ 0 (by decide) (by decide) _ _ (by omega) (by omega) (by omega)
    | exact own_leaf _ 2 (by decide) (by decide) _ _ (by omega) (by omega) (by omega)
    | exact own_leaf _ 4 (by decide) (by decide) _ _ (by omega) (by omega) (by omega)
    | exact own_leaf _ 6 (by decide) (by decide) _ _ (by omega) (by omega) (by omega)
    | exact own_leaf _ 8 (by decide) (by decide) _ _ (by omega) (by omega) (by omega)
    | exact own_leaf _ 10 (by decide) (by decide) _ _ (by omega) (by omega) (by omega)
    | exact own_leaf _ 12 (by decide) (by decide) _ _ (by omega) (by omega) (by omega)
    | exact own_leaf _ 14 (by decide) (by decide) _ _ (by omega) (by omega) (by omega)
    | exact own_leaf _ 16 (by decide) (by decide) _ _ (by omega) (by omega) (by omega)
    | exact own_leaf _ 18 (by decide) (by decide) _ _ (by omega) (by omega) (by omega)
    | exact own_leaf _ 20 (by decide) (by decide) _ _ (by omega) (by omega) (by omega)
    | exact own_leaf _ 22 (by decide) (by decide) _ _ (by omega) (by omega) (by omega)
    | exact own_leaf _ 24 (by decide) (by decide) _ _ (by omega) (by omega) (by omega)
    | exact own_leaf _ 26 (by decide) (by decide) _ _ (by omega) (by omega) (by omega)
    | exact own_leaf _ 28 (by decide) (by decide) _ _ (by omega) (by omega) (by omega)
    | exact own_leaf _ 30 (by decide) (by decide) _ _ (by omega) (by omega) (by omega)
theorem own_nlz0 (a : Int32) (h : a.toInt < 0) : FNlz a = 0 := by
  unfold FNlz
  have e0 : (0 : Int32).toInt = 0 := rfl
  rw [if_neg (by rw [Int32.lt_iff_toInt_lt]; omega), if_neg (fun q => by rw [q] at h; omega)]
theorem own_nlzP (D : Nat) (h : D < 2 ^ 31) (h0 : D ≠ 0) : (FNlz (Int32.ofNat D)).toInt = 31 - (D.log2 : Int) := by
  have e := own_ti (K := D) (by omega)
  obtain ⟨k, h1, h2, h3⟩ := own_nlz (Int32.ofNat D) (by rw [e]; omega)
  rw [e] at h2 h3
  have h2' : 2 ^ k ≤ D := by exact_mod_cast h2
  have h3' : D < 2 ^ (k + 1) := by exact_mod_cast h3
  have q1 := (Nat.le_log2 h0).mpr h2'
  have q2 := (Nat.log2_lt h0).mpr h3'
  rw [h1]
  omega
theorem own_nlzL (D : Nat) (h : D < 2 ^ 63) (h0 : D ≠ 0) : (FNlzL (Int64.ofNat D)).toInt = 63 - (D.log2 : Int) := by
  unfold FNlzL
  have e32 : (32 : Int32) = Int32.ofNat 32 := rfl
  have l32 : (32 : Int32).toInt = 32 := by decide
  have eu : (XT.ushrL (Int64.ofNat D) (32 : Int32)).toInt32 = Int32.ofNat (D / 2 ^ 32) := by
    rw [e32, own_ul (by omega) (by omega), own_c2i]
  rw [eu, own_c2i]
  by_cases c : D / 2 ^ 32 = 0
  · have z : Int32.ofNat 0 = (0 : Int32) := rfl
    rw [c, if_pos z]
    by_cases c2 : D < 2 ^ 31
    · have q := own_nlzP D c2 h0
      have g : 0 ≤ (D.log2 : Int) := by omega
      have g2 : D.log2 < 31 := (Nat.log2_lt h0).mpr c2
      rw [XT.add32 ⟨by rw [q, l32]; omega, by rw [q, l32]; omega⟩, q, l32]
      omega
    · have hn : (Int32.ofNat D).toInt < 0 := by
        show (Int32.ofNat D).toBitVec.toInt < 0
        rw [Int32.toBitVec_ofNat', BitVec.toInt_eq_toNat_cond, BitVec.toNat_ofNat]
        rw [if_neg (by omega)]
        omega
      rw [own_nlz0 _ hn]
      have g1 : D.log2 < 32 := (Nat.log2_lt h0).mpr (by omega)
      have g2 : 31 ≤ D.log2 := (Nat.le_log2 h0).mpr (by omega)
      have : ((32 : Int32) + 0).toInt = 32 := by decide
      rw [this]
      omega
  · have c1 : ¬ Int32.ofNat (D / 2 ^ 32) = 0 := by
      intro q
      have := congrArg Int32.toInt q
      rw [own_ti (by omega)] at this
      have e0 : (0 : Int32).toInt = 0 := rfl
      omega
    rw [if_neg c1, own_nlzP _ (by omega) c]
    have e : (D / 2 ^ 32).log2 + 32 = D.log2 := by
      have a1 := (Nat.le_log2 (k := (D / 2 ^ 32).log2) c).mp (Nat.le_refl _)
      have a2 := (Nat.log2_lt (k := (D / 2 ^ 32).log2 + 1) c).mp (by omega)
      generalize (D / 2 ^ 32).log2 = m at a1 a2 ⊢
      have b1 : 2 ^ (m + 32) ≤ D := by
        rw [Nat.pow_add]
        exact Nat.le_trans (Nat.mul_le_mul_right (2 ^ 32) a1) (Nat.div_mul_le_self D (2 ^ 32))
      have b2 : D < 2 ^ (m + 1 + 32) := by
        rw [Nat.pow_add]
        exact (Nat.div_lt_iff_lt_mul (Nat.two_pow_pos 32)).mp a2
      have c1 := (Nat.le_log2 h0).mpr b1
      have c2 := (Nat.log2_lt h0).mpr b2
      omega
    omega
/-- the level of a difference -/
theorem own_lv {D : Nat} (h : D < 2 ^ 63) (h0 : D ≠ 0) : ((63 : Int32) - FNlzL (Int64.ofNat D)) / (6 : Int32) = Int32.ofNat (own_Gf D) := by
  have e := own_nlzL D h h0
  have g : D.log2 < 63 := (Nat.log2_lt h0).mpr h
  have l63 : (63 : Int32).toInt = 63 := by decide
  have l6 : (6 : Int32).toInt = 6 := by decide
  have s : ((63 : Int32) - FNlzL (Int64.ofNat D)).toInt = (D.log2 : Int) := by
    rw [XT.sub32 ⟨by rw [e, l63]; omega, by rw [e, l63]; omega⟩, e, l63]
    omega
  have s2 : (63 : Int32) - FNlzL (Int64.ofNat D) = Int32.ofNat D.log2 := by
    rw [← Int32.toInt_inj, s, own_ti (by omega)]
  rw [s2, ← Int32.toInt_inj, Int32.toInt_div_of_ne_right _ _ (by decide), own_ti (by omega), l6]
  unfold own_Gf
  rw [own_ti (by omega)]
  exact (Int.natCast_ediv D.log2 6) ▸ Int.tdiv_eq_ediv_of_nonneg (by omega)
theorem own_mu6 {L : Nat} : Int32.ofNat L * (6 : Int32) = Int32.ofNat (L * 6) := by
  have e : (6 : Int32) = Int32.ofNat 6 := rfl
  rw [e, ← Int32.ofNat_mul]
/-- the bucket -/
def own_Kf (A L : Nat) : Nat := L * 64 + A / 64 ^ L % 64
theorem own_bk {A B : Nat} (hA : A < 2 ^ 63) (hB : B < 2 ^ 63) : FBk (Int64.ofNat A) (Int64.ofNat B) = Int32.ofNat (own_Kf A (own_Gf (A ^^^ B))) := by
  unfold FBk
  have hx : A ^^^ B < 2 ^ 63 := Nat.xor_lt_two_pow hA hB
  have e0 : (0 : Int64) = Int64.ofNat 0 := rfl
  rw [own_xr]
  by_cases c : A ^^^ B = 0
  · have z : Int64.ofNat 0 = (0 : Int64) := rfl
    rw [c, if_pos z]
    have u := own_ul (A := A) (s := 0) (by omega) (by omega)
    have u' : XT.ushrL (Int64.ofNat A) (0 : Int32) = Int64.ofNat (A / 2 ^ 0) := u
    rw [u', own_a63, own_c2i]
    have e : own_Kf A (own_Gf 0) = A / 2 ^ 0 % 64 := by
      have : own_Gf 0 = 0 := by decide
      rw [this, own_Kf]
      simp
    rw [e]
    simp
  · have c' : ¬ Int64.ofNat (A ^^^ B) = (0 : Int64) := by
      rw [e0, own_ej hx (by omega)]
      exact c
    have g := own_G10 hx
    rw [if_neg c', own_lv hx c, own_mu6, own_ul (by omega) (by omega), own_a63, own_c2i, own_mu, own_ad, own_Kf]
    congr 4
    rw [own_64, Nat.mul_comm]

theorem own_p64 (k : Nat) : 0 < 64 ^ k := Nat.pos_of_ne_zero (by simp)
theorem own_fo {C L J : Nat} (hC : C < 2 ^ 63) (hL : L ≤ 10) (hJ : J < 64) : FFo (Int32.ofNat L) (Int32.ofNat J) (Int64.ofNat C) = Int64.ofNat (own_Rf C (L + 1) + J * 64 ^ L) := by
  unfold FFo
  have e6 : Int32.ofNat (L * 6) + (6 : Int32) = Int32.ofNat (L * 6 + 6) := by
    have e : (6 : Int32) = Int32.ofNat 6 := rfl
    rw [e, own_ad]
  rw [own_mu6, e6, own_c2l (J := J) (by omega), own_sl (s := L * 6) (by omega)]
  have eJ : J * 2 ^ (L * 6) = J * 64 ^ L := by rw [own_64, Nat.mul_comm 6 L]
  by_cases c : L * 6 + 6 < 64
  · have c' : Int32.ofNat (L * 6 + 6) < (64 : Int32) := own_i2 (n := 64) c (by omega)
    rw [if_pos c', own_ul (by omega) c, own_sl c, own_orn]
    congr 1
    have e1 : C / 2 ^ (L * 6 + 6) * 2 ^ (L * 6 + 6) = (C / 2 ^ (L * 6 + 6)) <<< (L * 6 + 6) := by rw [Nat.shiftLeft_eq]
    have lt : J * 2 ^ (L * 6) < 2 ^ (L * 6 + 6) := by
      rw [Nat.pow_add, Nat.mul_comm (2 ^ (L * 6))]
      exact Nat.mul_lt_mul_of_pos_right hJ (Nat.two_pow_pos _)
    rw [e1, ← Nat.shiftLeft_add_eq_or_of_lt lt, Nat.shiftLeft_eq, eJ]
    have e2 : 2 ^ (L * 6 + 6) = 64 ^ (L + 1) := by rw [own_64]; congr 1; omega
    rw [e2]
    rfl
  · have : L = 10 := by omega
    subst this
    rw [if_neg (by decide)]
    have e0 : (0 : Int64) = Int64.ofNat 0 := rfl
    rw [e0, own_orn, eJ]
    have e : own_Rf C (10 + 1) = 0 := by
      have q : C / 64 ^ 11 = 0 := by omega
      unfold own_Rf
      rw [q, Nat.zero_mul]
    rw [e]
    simp
theorem own_Rle (A k : Nat) : own_Rf A k ≤ A := Nat.div_mul_le_self _ _
theorem own_Rdiv (A k : Nat) : own_Rf A k / 64 ^ k = A / 64 ^ k := Nat.mul_div_cancel _ (own_p64 k)
theorem own_q64 (A k : Nat) : A / 64 ^ (k + 1) = A / 64 ^ k / 64 := by
  rw [Nat.pow_succ, Nat.div_div_eq_div_mul]
theorem own_up {A B j k : Nat} (h : A / 64 ^ j = B / 64 ^ j) (hk : j ≤ k) : A / 64 ^ k = B / 64 ^ k := by
  obtain ⟨d, rfl⟩ : ∃ d, k = j + d := ⟨k - j, by omega⟩
  rw [Nat.pow_add, ← Nat.div_div_eq_div_mul, ← Nat.div_div_eq_div_mul, h]
theorem own_Radd (A L : Nat) : A / 64 ^ (L + 1) * 64 ^ (L + 1) + A / 64 ^ L % 64 * 64 ^ L = own_Rf A L := by
  unfold own_Rf
  rw [own_q64, Nat.pow_succ]
  generalize A / 64 ^ L = x
  generalize 64 ^ L = p
  have e : x / 64 * 64 + x % 64 = x := by omega
  calc x / 64 * (p * 64) + x % 64 * p = (x / 64 * 64 + x % 64) * p := by rw [Nat.add_mul, Nat.mul_comm p 64, Nat.mul_assoc]
    _ = x * p := by rw [e]
theorem own_fo' {B c l : Nat} (hB : B < 2 ^ 63) (hc : c < 2 ^ 63) (hl : own_Gf (B ^^^ c) = l) : FFo (Int32.ofNat l) (Int32.ofNat (B / 64 ^ l % 64)) (Int64.ofNat c) = Int64.ofNat (own_Rf B l) := by
  have g := own_G10 (Nat.xor_lt_two_pow hB hc)
  have e := (own_Gx B c l).mp (by omega)
  rw [own_fo hc (by omega) (Nat.mod_lt _ (by omega))]
  congr 1
  rw [← own_Radd B l, e]
  rfl
theorem own_GM {A C m : Nat} (hA : A ≤ m) (hC : C ≤ m) : own_Gf (A ^^^ C) < own_Gf m + 1 := by
  have h := (own_Gle m (own_Gf m)).mp (Nat.le_refl _)
  rw [own_Glt _ (by omega)]
  rw [own_64] at h ⊢
  exact Nat.xor_lt_two_pow (by omega) (by omega)
theorem own_Kd (A L : Nat) : own_Kf A L / 64 = L := by
  unfold own_Kf
  omega
theorem own_Km (A L : Nat) : own_Kf A L % 64 = A / 64 ^ L % 64 := by
  unfold own_Kf
  omega
theorem own_Klt {A L M : Nat} (h : L < M) : own_Kf A L < 64 * M := by
  unfold own_Kf
  have : A / 64 ^ L % 64 < 64 := Nat.mod_lt _ (by omega)
  omega
/-- poll's invariant -/
def own_inv (A U L : Nat) : Prop := own_Gf (A ^^^ own_Rf A (L + 1)) = L ∧ own_Rf A (L + 1) ≤ U
theorem own_inv0 (A U : Nat) : own_Rf A (own_Gf A + 1) = 0 ∧ own_inv A U (own_Gf A) := by
  have h := (own_Gle A (own_Gf A)).mp (Nat.le_refl _)
  have e : own_Rf A (own_Gf A + 1) = 0 := by
    unfold own_Rf
    rw [Nat.div_eq_of_lt h]
    simp
  exact ⟨e, by rw [e]; simp, by rw [e]; omega⟩
theorem own_invS {A U L : Nat} (h1 : 1 ≤ L) (h2 : own_Rf A L ≤ U) : ∃ L', L' < L ∧ own_Gf (A ^^^ own_Rf A L) = L' ∧ own_Rf A (L' + 1) = own_Rf A L ∧ own_inv A U L' := by
  obtain ⟨l, rfl⟩ : ∃ l, L = l + 1 := ⟨L - 1, by omega⟩
  have g : own_Gf (A ^^^ own_Rf A (l + 1)) ≤ l := (own_Gx _ _ _).mpr (own_Rdiv A (l + 1)).symm
  have e := (own_Gx A (own_Rf A (l + 1)) _).mp (Nat.le_refl _)
  have e2 : own_Rf A (own_Gf (A ^^^ own_Rf A (l + 1)) + 1) = own_Rf A (l + 1) := by
    generalize own_Gf (A ^^^ own_Rf A (l + 1)) = k at g e ⊢
    show A / 64 ^ (k + 1) * 64 ^ (k + 1) = own_Rf A (l + 1)
    rw [e]
    apply Nat.div_mul_cancel
    exact Nat.dvd_mul_left_of_dvd (Nat.pow_dvd_pow 64 (by omega)) _
  refine ⟨_, by omega, rfl, e2, ?_, ?_⟩
  · rw [e2]
  · rw [e2]; exact h2
theorem own_stop {A U L : Nat} (h : own_inv A U L) (hu : U < own_Rf A L) : own_Gf (A ^^^ U) = L ∧ U < A := by
  have hlt : U < A := Nat.lt_of_lt_of_le hu (own_Rle A L)
  refine ⟨?_, hlt⟩
  have a1 : own_Gf (A ^^^ U) ≤ L := by
    rw [own_Gx]
    have b1 := Nat.div_le_div_right (c := 64 ^ (L + 1)) h.2
    have b2 := Nat.div_le_div_right (c := 64 ^ (L + 1)) (Nat.le_of_lt hlt)
    rw [own_Rdiv] at b1
    omega
  by_cases c : L = 0
  · omega
  · obtain ⟨l, rfl⟩ : ∃ l, L = l + 1 := ⟨L - 1, by omega⟩
    have a2 : ¬ own_Gf (A ^^^ U) ≤ l := by
      rw [own_Gx]
      intro q
      have : own_Rf A (l + 1) ≤ U := by
        unfold own_Rf
        rw [q]
        exact Nat.div_mul_le_self _ _
      omega
    omega
theorem own_R0 (A : Nat) : own_Rf A 0 = A := by simp [own_Rf]
/-- the lowest set bit -/
theorem own_ntz1 : ∀ i, i < 64 → FNtzL (FBit (Int32.ofNat i)) = Int32.ofNat i ∧ ¬ FBit (Int32.ofNat i) = 0 := by decide +kernel
theorem own_bit : ∀ K, K < 704 → FBit (Int32.ofNat K) = FBit (Int32.ofNat (K % 64)) := by decide +kernel
theorem own_ntz2 : ∀ i, i < 64 → ∀ j, j < 64 → FNtzL (FBit (Int32.ofNat i) ||| FBit (Int32.ofNat j)) = Int32.ofNat (min i j) ∧ ¬ FBit (Int32.ofNat i) ||| FBit (Int32.ofNat j) = 0 := by decide +kernel
def FLev (q1 : Int64) : Int32 := FMaxI (1 : Int32) ((((64 : Int32) - (FNlzL (q1 - (1 : Int64)))) + (6 : Int32) - (1 : Int32)) / (6 : Int32))
theorem own_lev {t : Nat} (h1 : 1 ≤ t) (h : t < 2 ^ 63) : FLev (Int64.ofNat t) = Int32.ofNat (own_Gf (t - 1) + 1) := by
  have e1 : Int64.ofNat t - (1 : Int64) = Int64.ofNat (t - 1) := by
    have l1 : (1 : Int64).toInt = 1 := by decide
    have et := Int64.toInt_ofNat_of_lt h
    rw [← Int64.toInt_inj, XT.sub64 ⟨by rw [et, l1]; omega, by rw [et, l1]; omega⟩, et, l1, Int64.toInt_ofNat_of_lt (by omega)]
    omega
  unfold FLev
  rw [e1]
  by_cases c : t - 1 = 0
  · rw [c]
    decide +kernel
  · have hm : t - 1 < 2 ^ 63 := by omega
    generalize t - 1 = m at c hm ⊢
    have e := own_nlzL m hm c
    have g : m.log2 < 63 := (Nat.log2_lt c).mpr hm
    have l64 : (64 : Int32).toInt = 64 := by decide
    have l6 : (6 : Int32).toInt = 6 := by decide
    have l1 : (1 : Int32).toInt = 1 := by decide
    have s1 : ((64 : Int32) - FNlzL (Int64.ofNat m)).toInt = (m.log2 : Int) + 1 := by
      rw [XT.sub32 ⟨by rw [e, l64]; omega, by rw [e, l64]; omega⟩, e, l64]
      omega
    have s2 : ((64 : Int32) - FNlzL (Int64.ofNat m) + (6 : Int32)).toInt = (m.log2 : Int) + 7 := by
      rw [XT.add32 ⟨by rw [s1, l6]; omega, by rw [s1, l6]; omega⟩, s1, l6]
      omega
    have s3 : (64 : Int32) - FNlzL (Int64.ofNat m) + (6 : Int32) - (1 : Int32) = Int32.ofNat (m.log2 + 6) := by
      rw [← Int32.toInt_inj, XT.sub32 ⟨by rw [s2, l1]; omega, by rw [s2, l1]; omega⟩, s2, l1, own_ti (by omega)]
      omega
    have s4 : Int32.ofNat (m.log2 + 6) / (6 : Int32) = Int32.ofNat (m.log2 / 6 + 1) := by
      rw [← Int32.toInt_inj, Int32.toInt_div_of_ne_right _ _ (by decide), own_ti (by omega), l6, own_ti (by omega)]
      have q : (((m.log2 + 6 : Nat) : Int)).tdiv 6 = (((m.log2 + 6) / 6 : Nat) : Int) := by
        rw [Int.natCast_ediv]
        exact Int.tdiv_eq_ediv_of_nonneg (by omega)
      rw [q]
      omega
    rw [s3, s4]
    unfold FMaxI own_Gf
    by_cases c2 : m.log2 / 6 = 0
    · rw [c2]
      decide
    · have : (1 : Int32) < Int32.ofNat (m.log2 / 6 + 1) := own_i2 (K := 1) (by omega) (by omega)
      rw [if_pos this]
theorem own_nt {K : Nat} (h : K < 704) : FNtzL (FBit (Int32.ofNat K)) = Int32.ofNat (K % 64) ∧ ¬ FBit (Int32.ofNat K) = 0 := by
  rw [own_bit K h]
  exact own_ntz1 _ (Nat.mod_lt _ (by omega))
theorem own_foK {B c l : Nat} (hB : B < 2 ^ 63) (hc : c < 2 ^ 63) (hl : own_Gf (B ^^^ c) = l) : FFo (Int32.ofNat (own_Kf B l / 64)) (Int32.ofNat (own_Kf B l % 64)) (Int64.ofNat c) = Int64.ofNat (own_Rf B l) := by
  rw [own_Kd, own_Km]
  exact own_fo' hB hc hl
theorem own_foZ {B c : Nat} (hB : B < 2 ^ 63) (hc : c < 2 ^ 63) (hl : own_Gf (B ^^^ c) = 0) : FFo (0 : Int32) (Int32.ofNat (own_Kf B 0)) (Int64.ofNat c) = Int64.ofNat (own_Rf B 0) := by
  have e := own_foK hB hc hl
  rw [own_Kd] at e
  have e2 : own_Kf B 0 % 64 = own_Kf B 0 := by
    unfold own_Kf
    omega
  rw [e2] at e
  exact e
theorem own_K0 (A : Nat) : own_Kf A 0 < 64 := by
  unfold own_Kf
  omega
theorem own_K1 {A L : Nat} (h : ¬ L = 0) : 64 ≤ own_Kf A L := by
  unfold own_Kf
  omega

set_option maxHeartbeats 8000000 in
theorem rmPo1 (l : Launch) (Z : State) (a0 : Array Value) (hw : ∀ (i : Nat) (d : Jvm.Cond), tables_1[i]? = some d → d.before a0 Z = true) (h0 : Heap) (n0 : Nat) (q : Addr) (ta : Addr) (tb : Addr) (aH : Addr) (aT : Addr) (aO : Addr) (kH : ClassId) (kT : ClassId) (kO : ClassId) (M : Nat) (st : Int64) (da : Int64) (db : Int64) (pb nb : Value) (t : Int64) (A U : Nat) (hQ : own_Qu Z n0 h0 q ta tb aH aT aO kH kT kO M st da db (Int64.ofNat 0) (own_h1 ta (own_Kf A (own_Gf A))) (own_h1 ta (own_Kf A (own_Gf A))) (own_o1 (own_Kf A (own_Gf A))) .null .null pb nb) (hM : M ≤ 11) (hA : A < 2 ^ 63) (hU : U < 2 ^ 63) (hL : own_Gf A < M) (hd : da - st = Int64.ofNat A) (ht : t - st = Int64.ofNat U) :
    own_C l Z (⟨"com/example/ring_to_run/ringtorun/TickQueue", "poll", "(J)Lcom/example/ring_to_run/ringtorun/Task;"⟩ : MethodName) prog_11_method_7_code 9 (some (.object "com/example/ring_to_run/ringtorun/Task")) ({ frames := 4, cells := 0, slots := 0, locals := 100 } : Room) #[(.ref q), (.long t)] h0 n0 (fun v h' => (A ≤ U ∧ v = some (.ref ta) ∧ own_Qu Z n0 h' q ta tb aH aT aO kH kT kO M st da db (Int64.ofNat (own_Rf A 1)) own_h0 own_h0 own_o0 .null .null pb nb) ∨ (U < A ∧ v = some .null ∧ own_Qu Z n0 h' q ta tb aH aT aO kH kT kO M st da db (Int64.ofNat (own_Rf A ((own_Gf (A ^^^ U)) + 1))) (own_h1 ta (own_Kf A (own_Gf (A ^^^ U)))) (own_h1 ta (own_Kf A (own_Gf (A ^^^ U)))) (own_o1 (own_Kf A (own_Gf (A ^^^ U)))) .null .null pb nb)) := by
  refine own_met (Ls := #[.val (.ref q), .val (.long t), .second, .unset, .unset, .unset, .unset, .unset, .unset]) hw own_pl10 (fun m => by first | (simp [entryFrame, mkF, argsToLocals, Value.category]; done) | rfl) ?_
  intro B H
  have key : ∀ L, own_inv A U L → L < M → ∀ (h : Heap) (x5 x6 : Int32) (x7 : Int64), own_Qu Z n0 h q ta tb aH aT aO kH kT kO M st da db (Int64.ofNat (own_Rf A (L + 1))) (own_h1 ta (own_Kf A L)) (own_h1 ta (own_Kf A L)) (own_o1 (own_Kf A L)) .null .null pb nb → own_G B n0 (fun v h' => (A ≤ U ∧ v = some (.ref ta) ∧ own_Qu Z n0 h' q ta tb aH aT aO kH kT kO M st da db (Int64.ofNat (own_Rf A 1)) own_h0 own_h0 own_o0 .null .null pb nb) ∨ (U < A ∧ v = some .null ∧ own_Qu Z n0 h' q ta tb aH aT aO kH kT kO M st da db (Int64.ofNat (own_Rf A ((own_Gf (A ^^^ U)) + 1))) (own_h1 ta (own_Kf A (own_Gf (A ^^^ U)))) (own_h1 ta (own_Kf A (own_Gf (A ^^^ U)))) (own_o1 (own_Kf A (own_Gf (A ^^^ U)))) .null .null pb nb)) 0 0 0 0 h 7 #[.val (.ref q), .val (.long t), .second, .val (.long (Int64.ofNat U)), .second, .val (.int x5), .val (.int x6), .val (.long x7), .second] [] := by
    intro L
    induction L using Nat.strongRecOn with
    | ind L ih =>
      intro hi hLM h x5 x6 x7 hQ
      have hK : own_Kf A L < 64 * M := own_Klt hLM
      obtain ⟨hN, hb⟩ := own_nt (K := own_Kf A L) (by omega)
      have hR : own_Rf A (L + 1) < 2 ^ 63 := Nat.lt_of_le_of_lt (own_Rle _ _) hA
      have hR' : own_Rf A L < 2 ^ 63 := Nat.lt_of_le_of_lt (own_Rle _ _) hA
      by_cases c0 : L = 0
      · subst c0
        have hN0 : FNtzL (FBit (Int32.ofNat (own_Kf A 0))) = Int32.ofNat (own_Kf A 0) := by
          rw [hN, Nat.mod_eq_of_lt (own_K0 A)]
        have hO := own_foZ hA hR hi.1
        by_cases cu : U < own_Rf A 0
        · refine own_T0a_1 H hQ hM hK (own_K0 A) hb hN0 hO ((own_lj hU hR').mpr cu) ?_
          intro h' q'
          obtain ⟨e, hlt⟩ := own_stop hi cu
          exact Or.inr ⟨hlt, rfl, by rw [e]; exact q'⟩
        · refine own_T0b_1 H hQ hM hK (own_K0 A) hb hN0 hO (fun z => cu ((own_lj hU hR').mp z)) ?_
          intro h' q'
          rw [own_R0] at cu
          exact Or.inl ⟨by omega, rfl, q'⟩
      · have hO := own_foK hA hR hi.1
        by_cases cu : U < own_Rf A L
        · refine own_T1a_1 H hQ hM hK (own_K1 c0) hb hN hO ((own_lj hU hR').mpr cu) ?_
          intro h' q'
          obtain ⟨e, hlt⟩ := own_stop hi cu
          exact Or.inr ⟨hlt, rfl, by rw [e]; exact q'⟩
        · obtain ⟨L', hlt, hg, hRR, hi'⟩ := own_invS (A := A) (U := U) (L := L) (by omega) (by omega)
          refine own_T1b_1 H hQ (K' := own_Kf A L') hM hK (own_K1 c0) hb hN hO (fun z => cu ((own_lj hU hR').mp z)) (own_Klt (by omega)) (by rw [hd, own_bk hA hR', hg]) ?_
          intro h' q'
          exact ih L' hlt hi' (by omega) h' _ _ _ (by rw [hRR]; exact q')
  have hQ0 := hQ
  obtain ⟨⟨u1, u2, u3, u4, u5, u6, u7⟩, ⟨u8, u9, u10, u11, u12, u13, u14, u15, u16, u17, u18, u19, u20, u21, u22⟩, ⟨u23, u24, u25, u26, u27⟩, ⟨u28, u29, u30, u31, u32, u33⟩, ⟨u34, u35, u36⟩, ⟨u37, u38, u39⟩, ⟨u40, u41, u42⟩⟩ := hQ0
  refine own_lload_n H rfl d10_0 ?_
  refine own_aload_n H rfl rfl d10_1 ?_
  refine own_getfield H (w := 41) rfl u32 d10_2 ?_
  refine own_lsub H rfl d10_5 ?_
  refine own_lstore_n H #[.val (.ref q), .val (.long t), .second, .val (.long (t - st)), .second, .unset, .unset, .unset, .unset] rfl d10_6 ?_
  rw [ht]
  show own_G _ _ _ _ _ _ _ _ 7 #[.val (.ref q), .val (.long t), .second, .val (.long (Int64.ofNat U)), .second, .unset, .unset, .unset, .unset] []
  obtain ⟨e0, hi⟩ := own_inv0 A U
  rw [← e0] at hQ
  generalize hLd : own_Gf A = L at hi hQ hL
  have hLM : L < M := hL
  have hK : own_Kf A L < 64 * M := own_Klt hLM
  obtain ⟨hN, hb⟩ := own_nt (K := own_Kf A L) (by omega)
  have hR : own_Rf A (L + 1) < 2 ^ 63 := Nat.lt_of_le_of_lt (own_Rle _ _) hA
  have hR' : own_Rf A L < 2 ^ 63 := Nat.lt_of_le_of_lt (own_Rle _ _) hA
  by_cases c0 : L = 0
  · subst c0
    have hN0 : FNtzL (FBit (Int32.ofNat (own_Kf A 0))) = Int32.ofNat (own_Kf A 0) := by
      rw [hN, Nat.mod_eq_of_lt (own_K0 A)]
    have hO := own_foZ hA hR hi.1
    by_cases cu : U < own_Rf A 0
    · refine own_T0a_0 H hQ hM hK (own_K0 A) hb hN0 hO ((own_lj hU hR').mpr cu) ?_
      intro h' q'
      obtain ⟨e, hlt⟩ := own_stop hi cu
      exact Or.inr ⟨hlt, rfl, by rw [e]; exact q'⟩
    · refine own_T0b_0 H hQ hM hK (own_K0 A) hb hN0 hO (fun z => cu ((own_lj hU hR').mp z)) ?_
      intro h' q'
      rw [own_R0] at cu
      exact Or.inl ⟨by omega, rfl, q'⟩
  · have hO := own_foK hA hR hi.1
    by_cases cu : U < own_Rf A L
    · refine own_T1a_0 H hQ hM hK (own_K1 c0) hb hN hO ((own_lj hU hR').mpr cu) ?_
      intro h' q'
      obtain ⟨e, hlt⟩ := own_stop hi cu
      exact Or.inr ⟨hlt, rfl, by rw [e]; exact q'⟩
    · obtain ⟨L', hlt, hg, hRR, hi'⟩ := own_invS (A := A) (U := U) (L := L) (by omega) (by omega)
      refine own_T1b_0 H hQ (K' := own_Kf A L') hM hK (own_K1 c0) hb hN hO (fun z => cu ((own_lj hU hR').mp z)) (own_Klt (by omega)) (by rw [hd, own_bk hA hR', hg]) ?_
      intro h' q'
      exact key L' hi' (by omega) h' _ _ _ (by rw [hRR]; exact q')
theorem own_mu' {M : Nat} : Int32.ofNat M * (64 : Int32) = Int32.ofNat (64 * M) := by
  rw [own_mu, Nat.mul_comm]
theorem own_sc (s x : Int64) : s + x - s = x := by
  rw [Int64.add_comm, Int64.add_sub_cancel]
theorem own_oz {A L j : Nat} (h : j < L) : own_o1 (own_Kf A L) j = .long 0 := own_o1n (by rw [own_Kd]; exact h)
theorem own_os (A L : Nat) : own_o1 (own_Kf A L) L = .long (FBit (Int32.ofNat (own_Kf A L))) := by
  have e := own_o1s (own_Kf A L)
  rw [own_Kd] at e
  exact e
theorem own_K704 {A L : Nat} (h : L ≤ 10) : own_Kf A L < 704 := by
  have := own_Klt (A := A) (L := L) (M := 11) (by omega)
  omega
theorem own_nx {X c l : Nat} (hX : X < 2 ^ 63) (hc : c < 2 ^ 63) (hl : own_Gf (X ^^^ c) = l) : FFo (Int32.ofNat l) (FNtzL (FBit (Int32.ofNat (own_Kf X l)))) (Int64.ofNat c) = Int64.ofNat (own_Rf X l) := by
  have g := own_G10 (Nat.xor_lt_two_pow hX hc)
  rw [(own_nt (own_K704 (by omega))).1, own_Km]
  exact own_fo' hX hc hl
theorem own_nx0 {X : Nat} (hX : X < 2 ^ 63) : FFo (Int32.ofNat (own_Gf X)) (FNtzL (FBit (Int32.ofNat (own_Kf X (own_Gf X))))) (Int64.ofNat 0) = Int64.ofNat (own_Rf X (own_Gf X)) := own_nx hX (by omega) (by rw [Nat.xor_zero])
theorem own_bk0 {A : Nat} (hA : A < 2 ^ 63) : FBk (Int64.ofNat A) (Int64.ofNat 0) = Int32.ofNat (own_Kf A (own_Gf A)) := by
  rw [own_bk hA (by omega), Nat.xor_zero]
theorem own_min {X Y : Nat} (hX : X < 2 ^ 63) (hY : Y < 2 ^ 63) : FMinJ (Int64.ofNat X) (Int64.ofNat Y) = Int64.ofNat (min X Y) := by
  unfold FMinJ
  by_cases c : Y < X
  · rw [if_pos ((own_lj hY hX).mpr c), Nat.min_eq_right (by omega)]
  · rw [if_neg (fun q => c ((own_lj hY hX).mp q)), Nat.min_eq_left (by omega)]
theorem own_Rlt {X : Nat} (k : Nat) (hX : X < 2 ^ 63) : own_Rf X k < 2 ^ 63 := Nat.lt_of_le_of_lt (own_Rle _ _) hX
theorem own_invU {A U : Nat} (h : U < A) : own_inv A U (own_Gf (A ^^^ U)) := by
  have e := (own_Gx A U _).mp (Nat.le_refl _)
  have hle : own_Rf A (own_Gf (A ^^^ U) + 1) ≤ U := by
    unfold own_Rf
    rw [e]
    exact Nat.div_mul_le_self _ _
  refine ⟨?_, hle⟩
  have a1 : own_Gf (A ^^^ own_Rf A (own_Gf (A ^^^ U) + 1)) ≤ own_Gf (A ^^^ U) := (own_Gx _ _ _).mpr (own_Rdiv A _).symm
  by_cases c : own_Gf (A ^^^ U) = 0
  · omega
  · obtain ⟨l, hl⟩ : ∃ l, own_Gf (A ^^^ U) = l + 1 := ⟨own_Gf (A ^^^ U) - 1, by omega⟩
    rw [hl] at a1 hle ⊢
    have a2 : ¬ own_Gf (A ^^^ own_Rf A (l + 1 + 1)) ≤ l := by
      rw [own_Gx]
      intro q
      have b1 := Nat.div_le_div_right (c := 64 ^ (l + 1)) hle
      have b2 := Nat.div_le_div_right (c := 64 ^ (l + 1)) (Nat.le_of_lt h)
      have : own_Gf (A ^^^ U) ≤ l := (own_Gx _ _ _).mpr (by omega)
      omega
    omega
section Two
variable {A U X g c lb : Nat}
/-- g: the level of a; c: the cursor; X: the later offset, on level lb -/
theorem own_m1 (hg : own_Gf (A ^^^ c) = g) (hc : c = own_Rf A (g + 1)) (hX : c ≤ X) (hlb : own_Gf (X ^^^ c) = lb) (h : g < lb) : min (own_Rf A g) (own_Rf X lb) = own_Rf A g := by
  obtain ⟨l, rfl⟩ : ∃ l, lb = l + 1 := ⟨lb - 1, by omega⟩
  have a1 : ¬ X / 64 ^ (l + 1) = c / 64 ^ (l + 1) := by
    rw [← own_Gx]
    omega
  have a2 := Nat.div_le_div_right (c := 64 ^ (l + 1)) hX
  have a3 : A / 64 ^ (l + 1) = c / 64 ^ (l + 1) := own_up (j := g + 1) (by rw [hc, own_Rdiv]) (by omega)
  have a4 : A < own_Rf X (l + 1) := by
    have b : A < (A / 64 ^ (l + 1) + 1) * 64 ^ (l + 1) := Nat.lt_mul_of_div_lt (by omega) (own_p64 _)
    exact Nat.lt_of_lt_of_le b (Nat.mul_le_mul_right _ (by omega))
  have := own_Rle A g
  omega
theorem own_m2 (hg : own_Gf (A ^^^ c) = g) (hcA : c ≤ A) (hlb : own_Gf (X ^^^ c) = lb) (h : lb < g) : min (own_Rf A g) (own_Rf X lb) = own_Rf X lb := by
  obtain ⟨l, rfl⟩ : ∃ l, g = l + 1 := ⟨g - 1, by omega⟩
  have a1 : ¬ A / 64 ^ (l + 1) = c / 64 ^ (l + 1) := by
    rw [← own_Gx]
    omega
  have a2 := Nat.div_le_div_right (c := 64 ^ (l + 1)) hcA
  have a3 : X / 64 ^ (l + 1) = c / 64 ^ (l + 1) := own_up (j := lb + 1) ((own_Gx _ _ _).mp (by omega)) (by omega)
  have a4 : X < own_Rf A (l + 1) := by
    have b : X < (X / 64 ^ (l + 1) + 1) * 64 ^ (l + 1) := Nat.lt_mul_of_div_lt (by omega) (own_p64 _)
    exact Nat.lt_of_lt_of_le b (Nat.mul_le_mul_right _ (by omega))
  have := own_Rle X lb
  omega
theorem own_m3 (hg : own_Gf (A ^^^ c) = g) (hlb : own_Gf (X ^^^ c) = g) : min (own_Rf A g) (own_Rf X g) = own_Rf c (g + 1) + min (A / 64 ^ g % 64) (X / 64 ^ g % 64) * 64 ^ g := by
  have a1 := (own_Gx A c g).mp (by omega)
  have a2 := (own_Gx X c g).mp (by omega)
  rw [← own_Radd A g, ← own_Radd X g, a1, a2]
  show min (own_Rf c (g + 1) + _) (own_Rf c (g + 1) + _) = _
  generalize A / 64 ^ g % 64 = i
  generalize X / 64 ^ g % 64 = j
  rcases Nat.le_total i j with q | q
  · have := Nat.mul_le_mul_right (64 ^ g) q
    rw [Nat.min_eq_left q]
    omega
  · have := Nat.mul_le_mul_right (64 ^ g) q
    rw [Nat.min_eq_right q]
    omega
theorem own_n1 (hA : A < 2 ^ 63) (hg : own_Gf (A ^^^ c) = g) (hc : c = own_Rf A (g + 1)) (hX : c ≤ X) (hlb : own_Gf (X ^^^ c) = lb) (h : g < lb) : FFo (Int32.ofNat g) (FNtzL (FBit (Int32.ofNat (own_Kf A g)))) (Int64.ofNat c) = Int64.ofNat (min (own_Rf A g) (own_Rf X lb)) := by
  rw [own_m1 hg hc hX hlb h]
  exact own_nx hA (by rw [hc]; exact own_Rlt _ hA) hg
theorem own_n2 (hA : A < 2 ^ 63) (hX : X < 2 ^ 63) (hg : own_Gf (A ^^^ c) = g) (hcA : c ≤ A) (hlb : own_Gf (X ^^^ c) = lb) (h : lb < g) : FFo (Int32.ofNat lb) (FNtzL ((0 : Int64) ||| FBit (Int32.ofNat (own_Kf X lb)))) (Int64.ofNat c) = Int64.ofNat (min (own_Rf A g) (own_Rf X lb)) := by
  have e : (0 : Int64) ||| FBit (Int32.ofNat (own_Kf X lb)) = FBit (Int32.ofNat (own_Kf X lb)) := by simp
  rw [own_m2 hg hcA hlb h, e]
  exact own_nx hX (by omega) hlb
theorem own_n3 (hA : A < 2 ^ 63) (hc : c < 2 ^ 63) (hg : own_Gf (A ^^^ c) = g) (hlb : own_Gf (X ^^^ c) = g) (h : own_Kf A g = own_Kf X g) : FFo (Int32.ofNat g) (FNtzL (FBit (Int32.ofNat (own_Kf A g)))) (Int64.ofNat c) = Int64.ofNat (min (own_Rf A g) (own_Rf X g)) := by
  have e : A / 64 ^ g % 64 = X / 64 ^ g % 64 := by
    have := congrArg (· % 64) h
    simp only [own_Km] at this
    exact this
  rw [own_m3 hg hlb, ← e, Nat.min_self, (own_nt (own_K704 (by have := own_G10 (Nat.xor_lt_two_pow hA hc); omega))).1, own_Km]
  exact own_fo hc (by have := own_G10 (Nat.xor_lt_two_pow hA hc); omega) (Nat.mod_lt _ (by omega))
theorem own_n4 (hA : A < 2 ^ 63) (hc : c < 2 ^ 63) (hg : own_Gf (A ^^^ c) = g) (hlb : own_Gf (X ^^^ c) = g) : FFo (Int32.ofNat g) (FNtzL (FBit (Int32.ofNat (own_Kf A g)) ||| FBit (Int32.ofNat (own_Kf X g)))) (Int64.ofNat c) = Int64.ofNat (min (own_Rf A g) (own_Rf X g)) := by
  have gg : g ≤ 10 := by have := own_G10 (Nat.xor_lt_two_pow hA hc); omega
  rw [own_m3 hg hlb, own_bit _ (own_K704 (A := A) gg), own_bit _ (own_K704 (A := X) gg), (own_ntz2 _ (Nat.mod_lt _ (by omega)) _ (Nat.mod_lt _ (by omega))).1, own_Km, own_Km]
  exact own_fo hc gg (by have := Nat.mod_lt (A / 64 ^ g) (show 64 > 0 by omega); omega)
theorem own_n4' {K K' : Nat} (h : K < 704) (h' : K' < 704) : ¬ FBit (Int32.ofNat K) ||| FBit (Int32.ofNat K') = 0 := by
  rw [own_bit K h, own_bit K' h']
  exact (own_ntz2 _ (Nat.mod_lt _ (by omega)) _ (Nat.mod_lt _ (by omega))).2
theorem own_n2' {K : Nat} (h : K < 704) : ¬ (0 : Int64) ||| FBit (Int32.ofNat K) = 0 := by
  have e : (0 : Int64) ||| FBit (Int32.ofNat K) = FBit (Int32.ofNat K) := by simp
  rw [e]
  exact (own_nt h).2
/-- the words of two levels -/
def own_o2 (K K' : Nat) (w : Int64) : Nat → Value := fun i => if i = K' / 64 then .long w else own_o1 K i
end Two
theorem own_tri (g lb K K' : Nat) : g < lb ∨ lb < g ∨ (lb = g ∧ K = K') ∨ (lb = g ∧ ¬ K = K') := by omega

theorem d3_0 : decode prog_11_method_1_code 0 = .ok (.aload_n 0, 1) := by decide +kernel
theorem d3_1 : decode prog_11_method_1_code 1 = .ok (.invokespecial 3, 3) := by decide +kernel
theorem d3_4 : decode prog_11_method_1_code 4 = .ok (.aload_n 0, 1) := by decide +kernel
theorem d3_5 : decode prog_11_method_1_code 5 = .ok (.lload_n 1, 1) := by decide +kernel
theorem d3_6 : decode prog_11_method_1_code 6 = .ok (.putfield 9, 3) := by decide +kernel
theorem d3_9 : decode prog_11_method_1_code 9 = .ok (.bipush 64, 2) := by decide +kernel
theorem d3_11 : decode prog_11_method_1_code 11 = .ok (.lload_n 1, 1) := by decide +kernel
theorem d3_12 : decode prog_11_method_1_code 12 = .ok (.lconst 1, 1) := by decide +kernel
theorem d3_13 : decode prog_11_method_1_code 13 = .ok (.lsub, 1) := by decide +kernel
theorem d3_14 : decode prog_11_method_1_code 14 = .ok (.invokestatic 15, 3) := by decide +kernel
theorem d3_17 : decode prog_11_method_1_code 17 = .ok (.isub, 1) := by decide +kernel
theorem d3_18 : decode prog_11_method_1_code 18 = .ok (.istore 5, 2) := by decide +kernel
theorem d3_20 : decode prog_11_method_1_code 20 = .ok (.aload_n 0, 1) := by decide +kernel
theorem d3_21 : decode prog_11_method_1_code 21 = .ok (.iconst 1, 1) := by decide +kernel
theorem d3_22 : decode prog_11_method_1_code 22 = .ok (.iload 5, 2) := by decide +kernel
theorem d3_24 : decode prog_11_method_1_code 24 = .ok (.bipush 6, 2) := by decide +kernel
theorem d3_26 : decode prog_11_method_1_code 26 = .ok (.iadd, 1) := by decide +kernel
theorem d3_27 : decode prog_11_method_1_code 27 = .ok (.iconst 1, 1) := by decide +kernel
theorem d3_28 : decode prog_11_method_1_code 28 = .ok (.isub, 1) := by decide +kernel
theorem d3_29 : decode prog_11_method_1_code 29 = .ok (.bipush 6, 2) := by decide +kernel
theorem d3_31 : decode prog_11_method_1_code 31 = .ok (.idiv, 1) := by decide +kernel
theorem d3_32 : decode prog_11_method_1_code 32 = .ok (.invokestatic 19, 3) := by decide +kernel
theorem d3_35 : decode prog_11_method_1_code 35 = .ok (.putfield 25, 3) := by decide +kernel
theorem d3_38 : decode prog_11_method_1_code 38 = .ok (.aload_n 0, 1) := by decide +kernel
theorem d3_39 : decode prog_11_method_1_code 39 = .ok (.aload_n 0, 1) := by decide +kernel
theorem d3_40 : decode prog_11_method_1_code 40 = .ok (.getfield 25, 3) := by decide +kernel
theorem d3_43 : decode prog_11_method_1_code 43 = .ok (.bipush 64, 2) := by decide +kernel
theorem d3_45 : decode prog_11_method_1_code 45 = .ok (.imul, 1) := by decide +kernel
theorem d3_46 : decode prog_11_method_1_code 46 = .ok (.anewarray 29, 3) := by decide +kernel
theorem d3_49 : decode prog_11_method_1_code 49 = .ok (.putfield 31, 3) := by decide +kernel
theorem d3_52 : decode prog_11_method_1_code 52 = .ok (.aload_n 0, 1) := by decide +kernel
theorem d3_53 : decode prog_11_method_1_code 53 = .ok (.aload_n 0, 1) := by decide +kernel
theorem d3_54 : decode prog_11_method_1_code 54 = .ok (.getfield 25, 3) := by decide +kernel
theorem d3_57 : decode prog_11_method_1_code 57 = .ok (.bipush 64, 2) := by decide +kernel
theorem d3_59 : decode prog_11_method_1_code 59 = .ok (.imul, 1) := by decide +kernel
theorem d3_60 : decode prog_11_method_1_code 60 = .ok (.anewarray 29, 3) := by decide +kernel
theorem d3_63 : decode prog_11_method_1_code 63 = .ok (.putfield 35, 3) := by decide +kernel
theorem d3_66 : decode prog_11_method_1_code 66 = .ok (.aload_n 0, 1) := by decide +kernel
theorem d3_67 : decode prog_11_method_1_code 67 = .ok (.aload_n 0, 1) := by decide +kernel
theorem d3_68 : decode prog_11_method_1_code 68 = .ok (.getfield 25, 3) := by decide +kernel
theorem d3_71 : decode prog_11_method_1_code 71 = .ok (.newarray .long, 2) := by decide +kernel
theorem d3_73 : decode prog_11_method_1_code 73 = .ok (.putfield 38, 3) := by decide +kernel
theorem d3_76 : decode prog_11_method_1_code 76 = .ok (.aload_n 0, 1) := by decide +kernel
theorem d3_77 : decode prog_11_method_1_code 77 = .ok (.lload_n 3, 1) := by decide +kernel
theorem d3_78 : decode prog_11_method_1_code 78 = .ok (.putfield 42, 3) := by decide +kernel
theorem d3_81 : decode prog_11_method_1_code 81 = .ok (.return_, 1) := by decide +kernel
theorem own_pl3 : plainFor (⟨"com/example/ring_to_run/ringtorun/TickQueue", "<init>", "(JJ)V"⟩ : MethodName) = true := plainFor_of_name (by first | (simp [plainName, overriddenIn]; done) | decide +kernel)
theorem own_pd13 : parseMethodDescriptor "(JJ)V" = some ⟨[.long, .long], none⟩ := by decide +kernel
set_option maxHeartbeats 4000000 in
theorem rmCQ (l : Launch) (Z : State) (a0 : Array Value) (hw : ∀ (i : Nat) (d : Jvm.Cond), tables_1[i]? = some d → d.before a0 Z = true) (h0 : Heap) (n0 : Nat) (a : Addr) (q1 : Int64) (q2 : Int64) (M : Nat) (hZ0 : n0 ≤ h0.size) (hE : Exa Z h0 a "com/example/ring_to_run/ringtorun/TickQueue") (hF0 : Fld Z h0 a "com/example/ring_to_run/ringtorun/TickQueue" "tickMillis" "J" (.long (0 : Int64))) (hF1 : Fld Z h0 a "com/example/ring_to_run/ringtorun/TickQueue" "levels" "I" (.int (0 : Int32))) (hF2 : Fld Z h0 a "com/example/ring_to_run/ringtorun/TickQueue" "heads" "[Lcom/example/ring_to_run/ringtorun/Task;" .null) (hF3 : Fld Z h0 a "com/example/ring_to_run/ringtorun/TickQueue" "tails" "[Lcom/example/ring_to_run/ringtorun/Task;" .null) (hF4 : Fld Z h0 a "com/example/ring_to_run/ringtorun/TickQueue" "occupied" "[J" .null) (hF5 : Fld Z h0 a "com/example/ring_to_run/ringtorun/TickQueue" "start" "J" (.long (0 : Int64))) (hF6 : Fld Z h0 a "com/example/ring_to_run/ringtorun/TickQueue" "cursor" "J" (.long (0 : Int64))) (hL : FLev q1 = Int32.ofNat M) (hM : M ≤ 11) (hA_a : n0 ≤ a) :
    own_C l Z (⟨"com/example/ring_to_run/ringtorun/TickQueue", "<init>", "(JJ)V"⟩ : MethodName) prog_11_method_1_code 6 none ({ frames := 2, cells := 3, slots := 1419, locals := 60 } : Room) #[(.ref a), (.long q1), (.long q2)] h0 n0 (fun v h' => v = none ∧ Keep h0 h' [a] ∧ ∃ (aH aT aO : Addr) (kH kT kO : ClassId), (n0 ≤ aH ∧ n0 ≤ aT ∧ n0 ≤ aO ∧ h0.size ≤ aH ∧ h0.size ≤ aT ∧ h0.size ≤ aO) ∧ (aH ≠ aT ∧ aH ≠ aO ∧ aT ≠ aO) ∧ (Fld Z h' a "com/example/ring_to_run/ringtorun/TickQueue" "levels" "I" (.int (Int32.ofNat M)) ∧ Fld Z h' a "com/example/ring_to_run/ringtorun/TickQueue" "heads" "[Lcom/example/ring_to_run/ringtorun/Task;" (.ref aH) ∧ Fld Z h' a "com/example/ring_to_run/ringtorun/TickQueue" "tails" "[Lcom/example/ring_to_run/ringtorun/Task;" (.ref aT) ∧ Fld Z h' a "com/example/ring_to_run/ringtorun/TickQueue" "occupied" "[J" (.ref aO) ∧ Fld Z h' a "com/example/ring_to_run/ringtorun/TickQueue" "start" "J" (.long q2) ∧ Fld Z h' a "com/example/ring_to_run/ringtorun/TickQueue" "cursor" "J" (.long 0)) ∧ (own_Af Z h' aH kH (.object "com/example/ring_to_run/ringtorun/Task") (Int32.ofNat (64 * M)) .null own_h0 ∧ own_Af Z h' aT kT (.object "com/example/ring_to_run/ringtorun/Task") (Int32.ofNat (64 * M)) .null own_h0 ∧ own_Af Z h' aO kO .long (Int32.ofNat M) (.long 0) own_o0) ∧ Ovr Z kH "com/example/ring_to_run/ringtorun/Task" ∧ Ovr Z kT "com/example/ring_to_run/ringtorun/Task") := by
  refine own_met (Ls := #[.val (.ref a), .val (.long q1), .second, .val (.long q2), .second, .unset]) hw own_pl3 (fun m => by first | (simp [entryFrame, mkF, argsToLocals, Value.category]; done) | rfl) ?_
  intro B H
  have hK : Keep h0 h0 [a] := Keep.refl _ _
  refine own_aload_n H rfl rfl d3_0 ?_
  refine own_initObject H (w1 := 14) (w2 := 15) (w3 := 16) rfl rfl rfl 0 rfl (by decide) (Nat.le_of_eq rfl) (by decide) d3_1 ?_
  refine own_aload_n H rfl rfl d3_4 ?_
  refine own_lload_n H rfl d3_5 ?_
  refine own_putfield H (w := 17) (wi := 9) rfl hF0 hE hA_a (Or.inr ⟨own_w H (i := 18) rfl, rfl, rfl⟩) rfl (ty := .long) (by decide) rfl rfl d3_6 ?_
  intro h1 W2
  have f3 : Exa Z h1 a "com/example/ring_to_run/ringtorun/TickQueue" := hE.wr W2
  have f4 : Fld Z h1 a "com/example/ring_to_run/ringtorun/TickQueue" "tickMillis" "J" (.long q1) := hF0.same W2
  have f5 : Fld Z h1 a "com/example/ring_to_run/ringtorun/TickQueue" "levels" "I" (.int (0 : Int32)) := hF1.other W2 (Or.inr (slot_ne (Or.inr (own_w H (i := 31) rfl)) (Or.inr (own_w H (i := 18) rfl)) (by decide) (t := .int) (t' := .long) (by decide) (by decide)))
  have f6 : Fld Z h1 a "com/example/ring_to_run/ringtorun/TickQueue" "heads" "[Lcom/example/ring_to_run/ringtorun/Task;" .null := hF2.other W2 (Or.inr (slot_ne (Or.inr (own_w H (i := 35) rfl)) (Or.inr (own_w H (i := 18) rfl)) (by decide) (t := (.array (.object "com/example/ring_to_run/ringtorun/Task"))) (t' := .long) (by decide) (by decide)))
  have f7 : Fld Z h1 a "com/example/ring_to_run/ringtorun/TickQueue" "tails" "[Lcom/example/ring_to_run/ringtorun/Task;" .null := hF3.other W2 (Or.inr (slot_ne (Or.inr (own_w H (i := 37) rfl)) (Or.inr (own_w H (i := 18) rfl)) (by decide) (t := (.array (.object "com/example/ring_to_run/ringtorun/Task"))) (t' := .long) (by decide) (by decide)))
  have f8 : Fld Z h1 a "com/example/ring_to_run/ringtorun/TickQueue" "occupied" "[J" .null := hF4.other W2 (Or.inr (slot_ne (Or.inr (own_w H (i := 40) rfl)) (Or.inr (own_w H (i := 18) rfl)) (by decide) (t := (.array .long)) (t' := .long) (by decide) (by decide)))
  have f9 : Fld Z h1 a "com/example/ring_to_run/ringtorun/TickQueue" "start" "J" (.long (0 : Int64)) := hF5.other W2 (Or.inr (slot_ne (Or.inl (own_w H (i := 42) rfl)) (Or.inr (own_w H (i := 18) rfl)) (by decide) (t := .long) (t' := .long) (by decide) (by decide)))
  have f10 : Fld Z h1 a "com/example/ring_to_run/ringtorun/TickQueue" "cursor" "J" (.long (0 : Int64)) := hF6.other W2 (Or.inr (slot_ne (Or.inl (own_w H (i := 96) rfl)) (Or.inr (own_w H (i := 18) rfl)) (by decide) (t := .long) (t' := .long) (by decide) (by decide)))
  have f11 : n0 ≤ h1.size := by rw [W2.size]; exact hZ0
  have f12 : Keep h0 h1 [a] := hK.wr W2 (Or.inl (by simp))
  refine own_bipush H (64 : Int32) (by decide) d3_9 ?_
  refine own_lload_n H rfl d3_11 ?_
  refine own_lconst H (1 : Int64) (by decide) d3_12 ?_
  refine own_lsub H rfl d3_13 ?_
  refine own_invokestatic H (argsL := [(.long (q1 - (1 : Int64)))]) (rest := [(.int (64 : Int32))]) (rmNlzL l Z a0 (own_hw H) h1 n0 (q1 - (1 : Int64))) (w1 := 19) (w2 := 20) (w3 := 21) (w4 := 22) rfl rfl rfl rfl own_pd3 rfl 1 (by decide) rfl (by decide) (Nat.le_of_eq rfl) (by decide) (by decide) (by decide) rfl d3_14 ?_
  rintro _ _ ⟨rfl, rfl⟩
  show own_G _ _ _ _ _ _ _ _ 17 #[.val (.ref a), .val (.long q1), .second, .val (.long q2), .second, .unset] [(.int (FNlzL (q1 - (1 : Int64)))), (.int (64 : Int32))]
  refine own_isub H rfl d3_17 ?_
  refine own_istore H #[.val (.ref a), .val (.long q1), .second, .val (.long q2), .second, .val (.int ((64 : Int32) - (FNlzL (q1 - (1 : Int64)))))] rfl d3_18 ?_
  refine own_aload_n H rfl rfl d3_20 ?_
  refine own_iconst H (1 : Int32) (by decide) d3_21 ?_
  refine own_iload H rfl d3_22 ?_
  refine own_bipush H (6 : Int32) (by decide) d3_24 ?_
  refine own_iadd H rfl d3_26 ?_
  refine own_iconst H (1 : Int32) (by decide) d3_27 ?_
  refine own_isub H rfl d3_28 ?_
  refine own_bipush H (6 : Int32) (by decide) d3_29 ?_
  refine own_idiv H rfl d3_31 (by decide) ?_
  refine own_invokestatic H (argsL := [(.int (1 : Int32)), (.int (((((64 : Int32) - (FNlzL (q1 - (1 : Int64)))) + (6 : Int32)) - (1 : Int32)) / (6 : Int32)))]) (rest := [(.ref a)]) (rmMaxI l Z a0 (own_hw H) h1 n0 (1 : Int32) (((((64 : Int32) - (FNlzL (q1 - (1 : Int64)))) + (6 : Int32)) - (1 : Int32)) / (6 : Int32))) (w1 := 27) (w2 := 28) (w3 := 3) (w4 := 29) rfl rfl rfl rfl own_pd1 rfl 1 (by decide) rfl (by decide) (Nat.le_of_eq rfl) (by decide) (by decide) (by decide) rfl d3_32 ?_
  rintro _ _ ⟨rfl, rfl⟩
  show own_G _ _ _ _ _ _ _ _ 35 #[.val (.ref a), .val (.long q1), .second, .val (.long q2), .second, .val (.int ((64 : Int32) - (FNlzL (q1 - (1 : Int64)))))] [(.int (FMaxI (1 : Int32) (((((64 : Int32) - (FNlzL (q1 - (1 : Int64)))) + (6 : Int32)) - (1 : Int32)) / (6 : Int32)))), (.ref a)]
  show own_G _ _ _ _ _ _ _ _ 35 #[.val (.ref a), .val (.long q1), .second, .val (.long q2), .second, .val (.int ((64 : Int32) - (FNlzL (q1 - (1 : Int64)))))] [(.int (FLev q1)), (.ref a)]
  rw [hL]
  show own_G _ _ _ _ _ _ _ _ 35 #[.val (.ref a), .val (.long q1), .second, .val (.long q2), .second, .val (.int ((64 : Int32) - (FNlzL (q1 - (1 : Int64)))))] [(.int (Int32.ofNat M)), (.ref a)]
  refine own_putfield H (w := 30) (wi := 9) rfl f5 f3 hA_a (Or.inr ⟨own_w H (i := 31) rfl, rfl, rfl⟩) rfl (ty := .int) (by decide) rfl rfl d3_35 ?_
  intro h13 W14
  have f15 : Exa Z h13 a "com/example/ring_to_run/ringtorun/TickQueue" := f3.wr W14
  have f16 : Fld Z h13 a "com/example/ring_to_run/ringtorun/TickQueue" "tickMillis" "J" (.long q1) := f4.other W14 (Or.inr (slot_ne (Or.inr (own_w H (i := 18) rfl)) (Or.inr (own_w H (i := 31) rfl)) (by decide) (t := .long) (t' := .int) (by decide) (by decide)))
  have f17 : Fld Z h13 a "com/example/ring_to_run/ringtorun/TickQueue" "levels" "I" (.int (Int32.ofNat M)) := f5.same W14
  have f18 : Fld Z h13 a "com/example/ring_to_run/ringtorun/TickQueue" "heads" "[Lcom/example/ring_to_run/ringtorun/Task;" .null := f6.other W14 (Or.inr (slot_ne (Or.inr (own_w H (i := 35) rfl)) (Or.inr (own_w H (i := 31) rfl)) (by decide) (t := (.array (.object "com/example/ring_to_run/ringtorun/Task"))) (t' := .int) (by decide) (by decide)))
  have f19 : Fld Z h13 a "com/example/ring_to_run/ringtorun/TickQueue" "tails" "[Lcom/example/ring_to_run/ringtorun/Task;" .null := f7.other W14 (Or.inr (slot_ne (Or.inr (own_w H (i := 37) rfl)) (Or.inr (own_w H (i := 31) rfl)) (by decide) (t := (.array (.object "com/example/ring_to_run/ringtorun/Task"))) (t' := .int) (by decide) (by decide)))
  have f20 : Fld Z h13 a "com/example/ring_to_run/ringtorun/TickQueue" "occupied" "[J" .null := f8.other W14 (Or.inr (slot_ne (Or.inr (own_w H (i := 40) rfl)) (Or.inr (own_w H (i := 31) rfl)) (by decide) (t := (.array .long)) (t' := .int) (by decide) (by decide)))
  have f21 : Fld Z h13 a "com/example/ring_to_run/ringtorun/TickQueue" "start" "J" (.long (0 : Int64)) := f9.other W14 (Or.inr (slot_ne (Or.inl (own_w H (i := 42) rfl)) (Or.inr (own_w H (i := 31) rfl)) (by decide) (t := .long) (t' := .int) (by decide) (by decide)))
  have f22 : Fld Z h13 a "com/example/ring_to_run/ringtorun/TickQueue" "cursor" "J" (.long (0 : Int64)) := f10.other W14 (Or.inr (slot_ne (Or.inl (own_w H (i := 96) rfl)) (Or.inr (own_w H (i := 31) rfl)) (by decide) (t := .long) (t' := .int) (by decide) (by decide)))
  have f23 : n0 ≤ h13.size := by rw [W14.size]; exact f11
  have f24 : Keep h0 h13 [a] := f12.wr W14 (Or.inl (by simp))
  refine own_aload_n H rfl rfl d3_38 ?_
  refine own_aload_n H rfl rfl d3_39 ?_
  refine own_getfield H (w := 30) rfl f17 d3_40 ?_
  refine own_bipush H (64 : Int32) (by decide) d3_43 ?_
  refine own_imul H rfl d3_45 ?_
  rw [own_mu']
  show own_G _ _ _ _ _ _ _ _ 46 #[.val (.ref a), .val (.long q1), .second, .val (.long q2), .second, .val (.int ((64 : Int32) - (FNlzL (q1 - (1 : Int64)))))] [(.int (Int32.ofNat (64 * M))), (.ref a)]
  refine own_anewarray H (w := 32) (w2 := 33) (n := (Int32.ofNat (64 * M))) rfl rfl (own_i1 (by omega)) 704 (by rw [own_cn (by omega)]; omega) (by decide) d3_46 (by decide) (by decide) ?_
  intro h25 a26 kA27 ha28 E29 V30 O31
  have f32 : a ≠ a26 := Nat.ne_of_lt (by rw [ha28]; exact f15.lt)
  have f33 : n0 ≤ a26 := by rw [ha28]; exact f23
  have f34 : h0.size ≤ a26 := by rw [ha28]; exact f24.1
  have f35 : Exa Z h25 a "com/example/ring_to_run/ringtorun/TickQueue" := f15.ext E29
  have f36 : Fld Z h25 a "com/example/ring_to_run/ringtorun/TickQueue" "tickMillis" "J" (.long q1) := f16.ext E29
  have f37 : Fld Z h25 a "com/example/ring_to_run/ringtorun/TickQueue" "levels" "I" (.int (Int32.ofNat M)) := f17.ext E29
  have f38 : Fld Z h25 a "com/example/ring_to_run/ringtorun/TickQueue" "heads" "[Lcom/example/ring_to_run/ringtorun/Task;" .null := f18.ext E29
  have f39 : Fld Z h25 a "com/example/ring_to_run/ringtorun/TickQueue" "tails" "[Lcom/example/ring_to_run/ringtorun/Task;" .null := f19.ext E29
  have f40 : Fld Z h25 a "com/example/ring_to_run/ringtorun/TickQueue" "occupied" "[J" .null := f20.ext E29
  have f41 : Fld Z h25 a "com/example/ring_to_run/ringtorun/TickQueue" "start" "J" (.long (0 : Int64)) := f21.ext E29
  have f42 : Fld Z h25 a "com/example/ring_to_run/ringtorun/TickQueue" "cursor" "J" (.long (0 : Int64)) := f22.ext E29
  have f43 : n0 ≤ h25.size := Nat.le_trans f23 E29.1
  have f44 : Keep h0 h25 [a] := f24.ext E29
  show own_G _ _ _ _ _ _ _ _ 49 #[.val (.ref a), .val (.long q1), .second, .val (.long q2), .second, .val (.int ((64 : Int32) - (FNlzL (q1 - (1 : Int64)))))] [(.ref a26), (.ref a)]
  refine own_putfield H (w := 34) (wi := 9) rfl f38 f35 hA_a (Or.inr ⟨own_w H (i := 35) rfl, rfl, rfl⟩) rfl (ty := (.array (.object "com/example/ring_to_run/ringtorun/Task"))) (by decide) rfl rfl d3_49 ?_
  intro h45 W46
  have f47 : Exa Z h45 a "com/example/ring_to_run/ringtorun/TickQueue" := f35.wr W46
  have f48 : Fld Z h45 a "com/example/ring_to_run/ringtorun/TickQueue" "tickMillis" "J" (.long q1) := f36.other W46 (Or.inr (slot_ne (Or.inr (own_w H (i := 18) rfl)) (Or.inr (own_w H (i := 35) rfl)) (by decide) (t := .long) (t' := (.array (.object "com/example/ring_to_run/ringtorun/Task"))) (by decide) (by decide)))
  have f49 : Fld Z h45 a "com/example/ring_to_run/ringtorun/TickQueue" "levels" "I" (.int (Int32.ofNat M)) := f37.other W46 (Or.inr (slot_ne (Or.inr (own_w H (i := 31) rfl)) (Or.inr (own_w H (i := 35) rfl)) (by decide) (t := .int) (t' := (.array (.object "com/example/ring_to_run/ringtorun/Task"))) (by decide) (by decide)))
  have f50 : Fld Z h45 a "com/example/ring_to_run/ringtorun/TickQueue" "heads" "[Lcom/example/ring_to_run/ringtorun/Task;" (.ref a26) := f38.same W46
  have f51 : Fld Z h45 a "com/example/ring_to_run/ringtorun/TickQueue" "tails" "[Lcom/example/ring_to_run/ringtorun/Task;" .null := f39.other W46 (Or.inr (slot_ne (Or.inr (own_w H (i := 37) rfl)) (Or.inr (own_w H (i := 35) rfl)) (by decide) (t := (.array (.object "com/example/ring_to_run/ringtorun/Task"))) (t' := (.array (.object "com/example/ring_to_run/ringtorun/Task"))) (by decide) (by decide)))
  have f52 : Fld Z h45 a "com/example/ring_to_run/ringtorun/TickQueue" "occupied" "[J" .null := f40.other W46 (Or.inr (slot_ne (Or.inr (own_w H (i := 40) rfl)) (Or.inr (own_w H (i := 35) rfl)) (by decide) (t := (.array .long)) (t' := (.array (.object "com/example/ring_to_run/ringtorun/Task"))) (by decide) (by decide)))
  have f53 : Fld Z h45 a "com/example/ring_to_run/ringtorun/TickQueue" "start" "J" (.long (0 : Int64)) := f41.other W46 (Or.inr (slot_ne (Or.inl (own_w H (i := 42) rfl)) (Or.inr (own_w H (i := 35) rfl)) (by decide) (t := .long) (t' := (.array (.object "com/example/ring_to_run/ringtorun/Task"))) (by decide) (by decide)))
  have f54 : Fld Z h45 a "com/example/ring_to_run/ringtorun/TickQueue" "cursor" "J" (.long (0 : Int64)) := f42.other W46 (Or.inr (slot_ne (Or.inl (own_w H (i := 96) rfl)) (Or.inr (own_w H (i := 35) rfl)) (by decide) (t := .long) (t' := (.array (.object "com/example/ring_to_run/ringtorun/Task"))) (by decide) (by decide)))
  have f55 : n0 ≤ h45.size := by rw [W46.size]; exact f43
  have f56 : Keep h0 h45 [a] := f44.wr W46 (Or.inl (by simp))
  have f57 : Arv Z h45 a26 kA27 (.object "com/example/ring_to_run/ringtorun/Task") (Int32.ofNat (64 * M)) [] .null := V30.other W46 f32.symm
  refine own_aload_n H rfl rfl d3_52 ?_
  refine own_aload_n H rfl rfl d3_53 ?_
  refine own_getfield H (w := 30) rfl f49 d3_54 ?_
  refine own_bipush H (64 : Int32) (by decide) d3_57 ?_
  refine own_imul H rfl d3_59 ?_
  rw [own_mu']
  show own_G _ _ _ _ _ _ _ _ 60 #[.val (.ref a), .val (.long q1), .second, .val (.long q2), .second, .val (.int ((64 : Int32) - (FNlzL (q1 - (1 : Int64)))))] [(.int (Int32.ofNat (64 * M))), (.ref a)]
  refine own_anewarray H (w := 32) (w2 := 33) (n := (Int32.ofNat (64 * M))) rfl rfl (own_i1 (by omega)) 704 (by rw [own_cn (by omega)]; omega) (by decide) d3_60 (by decide) (by decide) ?_
  intro h58 a59 kA60 ha61 E62 V63 O64
  have f65 : a ≠ a59 := Nat.ne_of_lt (by rw [ha61]; exact f47.lt)
  have f66 : a26 ≠ a59 := Nat.ne_of_lt (by rw [ha61]; exact f57.lt)
  have f67 : n0 ≤ a59 := by rw [ha61]; exact f55
  have f68 : h0.size ≤ a59 := by rw [ha61]; exact f56.1
  have f69 : Exa Z h58 a "com/example/ring_to_run/ringtorun/TickQueue" := f47.ext E62
  have f70 : Fld Z h58 a "com/example/ring_to_run/ringtorun/TickQueue" "tickMillis" "J" (.long q1) := f48.ext E62
  have f71 : Fld Z h58 a "com/example/ring_to_run/ringtorun/TickQueue" "levels" "I" (.int (Int32.ofNat M)) := f49.ext E62
  have f72 : Fld Z h58 a "com/example/ring_to_run/ringtorun/TickQueue" "heads" "[Lcom/example/ring_to_run/ringtorun/Task;" (.ref a26) := f50.ext E62
  have f73 : Fld Z h58 a "com/example/ring_to_run/ringtorun/TickQueue" "tails" "[Lcom/example/ring_to_run/ringtorun/Task;" .null := f51.ext E62
  have f74 : Fld Z h58 a "com/example/ring_to_run/ringtorun/TickQueue" "occupied" "[J" .null := f52.ext E62
  have f75 : Fld Z h58 a "com/example/ring_to_run/ringtorun/TickQueue" "start" "J" (.long (0 : Int64)) := f53.ext E62
  have f76 : Fld Z h58 a "com/example/ring_to_run/ringtorun/TickQueue" "cursor" "J" (.long (0 : Int64)) := f54.ext E62
  have f77 : n0 ≤ h58.size := Nat.le_trans f55 E62.1
  have f78 : Keep h0 h58 [a] := f56.ext E62
  have f79 : Arv Z h58 a26 kA27 (.object "com/example/ring_to_run/ringtorun/Task") (Int32.ofNat (64 * M)) [] .null := f57.ext E62
  show own_G _ _ _ _ _ _ _ _ 63 #[.val (.ref a), .val (.long q1), .second, .val (.long q2), .second, .val (.int ((64 : Int32) - (FNlzL (q1 - (1 : Int64)))))] [(.ref a59), (.ref a)]
  refine own_putfield H (w := 36) (wi := 9) rfl f73 f69 hA_a (Or.inr ⟨own_w H (i := 37) rfl, rfl, rfl⟩) rfl (ty := (.array (.object "com/example/ring_to_run/ringtorun/Task"))) (by decide) rfl rfl d3_63 ?_
  intro h80 W81
  have f82 : Exa Z h80 a "com/example/ring_to_run/ringtorun/TickQueue" := f69.wr W81
  have f83 : Fld Z h80 a "com/example/ring_to_run/ringtorun/TickQueue" "tickMillis" "J" (.long q1) := f70.other W81 (Or.inr (slot_ne (Or.inr (own_w H (i := 18) rfl)) (Or.inr (own_w H (i := 37) rfl)) (by decide) (t := .long) (t' := (.array (.object "com/example/ring_to_run/ringtorun/Task"))) (by decide) (by decide)))
  have f84 : Fld Z h80 a "com/example/ring_to_run/ringtorun/TickQueue" "levels" "I" (.int (Int32.ofNat M)) := f71.other W81 (Or.inr (slot_ne (Or.inr (own_w H (i := 31) rfl)) (Or.inr (own_w H (i := 37) rfl)) (by decide) (t := .int) (t' := (.array (.object "com/example/ring_to_run/ringtorun/Task"))) (by decide) (by decide)))
  have f85 : Fld Z h80 a "com/example/ring_to_run/ringtorun/TickQueue" "heads" "[Lcom/example/ring_to_run/ringtorun/Task;" (.ref a26) := f72.other W81 (Or.inr (slot_ne (Or.inr (own_w H (i := 35) rfl)) (Or.inr (own_w H (i := 37) rfl)) (by decide) (t := (.array (.object "com/example/ring_to_run/ringtorun/Task"))) (t' := (.array (.object "com/example/ring_to_run/ringtorun/Task"))) (by decide) (by decide)))
  have f86 : Fld Z h80 a "com/example/ring_to_run/ringtorun/TickQueue" "tails" "[Lcom/example/ring_to_run/ringtorun/Task;" (.ref a59) := f73.same W81
  have f87 : Fld Z h80 a "com/example/ring_to_run/ringtorun/TickQueue" "occupied" "[J" .null := f74.other W81 (Or.inr (slot_ne (Or.inr (own_w H (i := 40) rfl)) (Or.inr (own_w H (i := 37) rfl)) (by decide) (t := (.array .long)) (t' := (.array (.object "com/example/ring_to_run/ringtorun/Task"))) (by decide) (by decide)))
  have f88 : Fld Z h80 a "com/example/ring_to_run/ringtorun/TickQueue" "start" "J" (.long (0 : Int64)) := f75.other W81 (Or.inr (slot_ne (Or.inl (own_w H (i := 42) rfl)) (Or.inr (own_w H (i := 37) rfl)) (by decide) (t := .long) (t' := (.array (.object "com/example/ring_to_run/ringtorun/Task"))) (by decide) (by decide)))
  have f89 : Fld Z h80 a "com/example/ring_to_run/ringtorun/TickQueue" "cursor" "J" (.long (0 : Int64)) := f76.other W81 (Or.inr (slot_ne (Or.inl (own_w H (i := 96) rfl)) (Or.inr (own_w H (i := 37) rfl)) (by decide) (t := .long) (t' := (.array (.object "com/example/ring_to_run/ringtorun/Task"))) (by decide) (by decide)))
  have f90 : n0 ≤ h80.size := by rw [W81.size]; exact f77
  have f91 : Keep h0 h80 [a] := f78.wr W81 (Or.inl (by simp))
  have f92 : Arv Z h80 a26 kA27 (.object "com/example/ring_to_run/ringtorun/Task") (Int32.ofNat (64 * M)) [] .null := f79.other W81 f32.symm
  have f93 : Arv Z h80 a59 kA60 (.object "com/example/ring_to_run/ringtorun/Task") (Int32.ofNat (64 * M)) [] .null := V63.other W81 f65.symm
  refine own_aload_n H rfl rfl d3_66 ?_
  refine own_aload_n H rfl rfl d3_67 ?_
  refine own_getfield H (w := 30) rfl f84 d3_68 ?_
  refine own_newarray H (w := 38) (n := (Int32.ofNat M)) rfl (own_i1 (by omega)) 11 (by rw [own_cn (by omega)]; omega) (by decide) d3_71 (by decide) (by decide) ?_
  intro h94 a95 kA96 ha97 E98 V99
  have f101 : a ≠ a95 := Nat.ne_of_lt (by rw [ha97]; exact f82.lt)
  have f102 : a26 ≠ a95 := Nat.ne_of_lt (by rw [ha97]; exact f92.lt)
  have f103 : a59 ≠ a95 := Nat.ne_of_lt (by rw [ha97]; exact f93.lt)
  have f104 : n0 ≤ a95 := by rw [ha97]; exact f90
  have f105 : h0.size ≤ a95 := by rw [ha97]; exact f91.1
  have f106 : Exa Z h94 a "com/example/ring_to_run/ringtorun/TickQueue" := f82.ext E98
  have f107 : Fld Z h94 a "com/example/ring_to_run/ringtorun/TickQueue" "tickMillis" "J" (.long q1) := f83.ext E98
  have f108 : Fld Z h94 a "com/example/ring_to_run/ringtorun/TickQueue" "levels" "I" (.int (Int32.ofNat M)) := f84.ext E98
  have f109 : Fld Z h94 a "com/example/ring_to_run/ringtorun/TickQueue" "heads" "[Lcom/example/ring_to_run/ringtorun/Task;" (.ref a26) := f85.ext E98
  have f110 : Fld Z h94 a "com/example/ring_to_run/ringtorun/TickQueue" "tails" "[Lcom/example/ring_to_run/ringtorun/Task;" (.ref a59) := f86.ext E98
  have f111 : Fld Z h94 a "com/example/ring_to_run/ringtorun/TickQueue" "occupied" "[J" .null := f87.ext E98
  have f112 : Fld Z h94 a "com/example/ring_to_run/ringtorun/TickQueue" "start" "J" (.long (0 : Int64)) := f88.ext E98
  have f113 : Fld Z h94 a "com/example/ring_to_run/ringtorun/TickQueue" "cursor" "J" (.long (0 : Int64)) := f89.ext E98
  have f114 : n0 ≤ h94.size := Nat.le_trans f90 E98.1
  have f115 : Keep h0 h94 [a] := f91.ext E98
  have f116 : Arv Z h94 a26 kA27 (.object "com/example/ring_to_run/ringtorun/Task") (Int32.ofNat (64 * M)) [] .null := f92.ext E98
  have f117 : Arv Z h94 a59 kA60 (.object "com/example/ring_to_run/ringtorun/Task") (Int32.ofNat (64 * M)) [] .null := f93.ext E98
  show own_G _ _ _ _ _ _ _ _ 73 #[.val (.ref a), .val (.long q1), .second, .val (.long q2), .second, .val (.int ((64 : Int32) - (FNlzL (q1 - (1 : Int64)))))] [(.ref a95), (.ref a)]
  refine own_putfield H (w := 39) (wi := 9) rfl f111 f106 hA_a (Or.inr ⟨own_w H (i := 40) rfl, rfl, rfl⟩) rfl (ty := (.array .long)) (by decide) rfl rfl d3_73 ?_
  intro h118 W119
  have f120 : Exa Z h118 a "com/example/ring_to_run/ringtorun/TickQueue" := f106.wr W119
  have f121 : Fld Z h118 a "com/example/ring_to_run/ringtorun/TickQueue" "tickMillis" "J" (.long q1) := f107.other W119 (Or.inr (slot_ne (Or.inr (own_w H (i := 18) rfl)) (Or.inr (own_w H (i := 40) rfl)) (by decide) (t := .long) (t' := (.array .long)) (by decide) (by decide)))
  have f122 : Fld Z h118 a "com/example/ring_to_run/ringtorun/TickQueue" "levels" "I" (.int (Int32.ofNat M)) := f108.other W119 (Or.inr (slot_ne (Or.inr (own_w H (i := 31) rfl)) (Or.inr (own_w H (i := 40) rfl)) (by decide) (t := .int) (t' := (.array .long)) (by decide) (by decide)))
  have f123 : Fld Z h118 a "com/example/ring_to_run/ringtorun/TickQueue" "heads" "[Lcom/example/ring_to_run/ringtorun/Task;" (.ref a26) := f109.other W119 (Or.inr (slot_ne (Or.inr (own_w H (i := 35) rfl)) (Or.inr (own_w H (i := 40) rfl)) (by decide) (t := (.array (.object "com/example/ring_to_run/ringtorun/Task"))) (t' := (.array .long)) (by decide) (by decide)))
  have f124 : Fld Z h118 a "com/example/ring_to_run/ringtorun/TickQueue" "tails" "[Lcom/example/ring_to_run/ringtorun/Task;" (.ref a59) := f110.other W119 (Or.inr (slot_ne (Or.inr (own_w H (i := 37) rfl)) (Or.inr (own_w H (i := 40) rfl)) (by decide) (t := (.array (.object "com/example/ring_to_run/ringtorun/Task"))) (t' := (.array .long)) (by decide) (by decide)))
  have f125 : Fld Z h118 a "com/example/ring_to_run/ringtorun/TickQueue" "occupied" "[J" (.ref a95) := f111.same W119
  have f126 : Fld Z h118 a "com/example/ring_to_run/ringtorun/TickQueue" "start" "J" (.long (0 : Int64)) := f112.other W119 (Or.inr (slot_ne (Or.inl (own_w H (i := 42) rfl)) (Or.inr (own_w H (i := 40) rfl)) (by decide) (t := .long) (t' := (.array .long)) (by decide) (by decide)))
  have f127 : Fld Z h118 a "com/example/ring_to_run/ringtorun/TickQueue" "cursor" "J" (.long (0 : Int64)) := f113.other W119 (Or.inr (slot_ne (Or.inl (own_w H (i := 96) rfl)) (Or.inr (own_w H (i := 40) rfl)) (by decide) (t := .long) (t' := (.array .long)) (by decide) (by decide)))
  have f128 : n0 ≤ h118.size := by rw [W119.size]; exact f114
  have f129 : Keep h0 h118 [a] := f115.wr W119 (Or.inl (by simp))
  have f130 : Arv Z h118 a26 kA27 (.object "com/example/ring_to_run/ringtorun/Task") (Int32.ofNat (64 * M)) [] .null := f116.other W119 f32.symm
  have f131 : Arv Z h118 a59 kA60 (.object "com/example/ring_to_run/ringtorun/Task") (Int32.ofNat (64 * M)) [] .null := f117.other W119 f65.symm
  have f132 : Arv Z h118 a95 kA96 .long (Int32.ofNat M) [] (.long 0) := V99.other W119 f101.symm
  refine own_aload_n H rfl rfl d3_76 ?_
  refine own_lload_n H rfl d3_77 ?_
  refine own_putfield H (w := 41) (wi := 9) rfl f126 f120 hA_a (Or.inl (own_w H (i := 42) rfl)) rfl (ty := .long) (by decide) rfl rfl d3_78 ?_
  intro h133 W134
  have f135 : Exa Z h133 a "com/example/ring_to_run/ringtorun/TickQueue" := f120.wr W134
  have f136 : Fld Z h133 a "com/example/ring_to_run/ringtorun/TickQueue" "tickMillis" "J" (.long q1) := f121.other W134 (Or.inr (slot_ne (Or.inr (own_w H (i := 18) rfl)) (Or.inl (own_w H (i := 42) rfl)) (by decide) (t := .long) (t' := .long) (by decide) (by decide)))
  have f137 : Fld Z h133 a "com/example/ring_to_run/ringtorun/TickQueue" "levels" "I" (.int (Int32.ofNat M)) := f122.other W134 (Or.inr (slot_ne (Or.inr (own_w H (i := 31) rfl)) (Or.inl (own_w H (i := 42) rfl)) (by decide) (t := .int) (t' := .long) (by decide) (by decide)))
  have f138 : Fld Z h133 a "com/example/ring_to_run/ringtorun/TickQueue" "heads" "[Lcom/example/ring_to_run/ringtorun/Task;" (.ref a26) := f123.other W134 (Or.inr (slot_ne (Or.inr (own_w H (i := 35) rfl)) (Or.inl (own_w H (i := 42) rfl)) (by decide) (t := (.array (.object "com/example/ring_to_run/ringtorun/Task"))) (t' := .long) (by decide) (by decide)))
  have f139 : Fld Z h133 a "com/example/ring_to_run/ringtorun/TickQueue" "tails" "[Lcom/example/ring_to_run/ringtorun/Task;" (.ref a59) := f124.other W134 (Or.inr (slot_ne (Or.inr (own_w H (i := 37) rfl)) (Or.inl (own_w H (i := 42) rfl)) (by decide) (t := (.array (.object "com/example/ring_to_run/ringtorun/Task"))) (t' := .long) (by decide) (by decide)))
  have f140 : Fld Z h133 a "com/example/ring_to_run/ringtorun/TickQueue" "occupied" "[J" (.ref a95) := f125.other W134 (Or.inr (slot_ne (Or.inr (own_w H (i := 40) rfl)) (Or.inl (own_w H (i := 42) rfl)) (by decide) (t := (.array .long)) (t' := .long) (by decide) (by decide)))
  have f141 : Fld Z h133 a "com/example/ring_to_run/ringtorun/TickQueue" "start" "J" (.long q2) := f126.same W134
  have f142 : Fld Z h133 a "com/example/ring_to_run/ringtorun/TickQueue" "cursor" "J" (.long (0 : Int64)) := f127.other W134 (Or.inr (slot_ne (Or.inl (own_w H (i := 96) rfl)) (Or.inl (own_w H (i := 42) rfl)) (by decide) (t := .long) (t' := .long) (by decide) (by decide)))
  have f143 : n0 ≤ h133.size := by rw [W134.size]; exact f128
  have f144 : Keep h0 h133 [a] := f129.wr W134 (Or.inl (by simp))
  have f145 : Arv Z h133 a26 kA27 (.object "com/example/ring_to_run/ringtorun/Task") (Int32.ofNat (64 * M)) [] .null := f130.other W134 f32.symm
  have f146 : Arv Z h133 a59 kA60 (.object "com/example/ring_to_run/ringtorun/Task") (Int32.ofNat (64 * M)) [] .null := f131.other W134 f65.symm
  have f147 : Arv Z h133 a95 kA96 .long (Int32.ofNat M) [] (.long 0) := f132.other W134 f101.symm
  exact own_return H d3_81 (by decide) (by decide) ⟨rfl, f144, a26, a59, a95, kA27, kA60, kA96, ⟨f33, f67, f104, f34, f68, f105⟩, ⟨f66, f102, f103⟩, ⟨f137, f138, f139, f140, f141, f142⟩, ⟨own_Af.ofNew f145, own_Af.ofNew f146, own_Af.ofNew f147⟩, O31, O64⟩
theorem d8_0 : decode prog_8_method_1_code 0 = .ok (.aload_n 0, 1) := by decide +kernel
theorem d8_1 : decode prog_8_method_1_code 1 = .ok (.invokespecial 1, 3) := by decide +kernel
theorem d8_4 : decode prog_8_method_1_code 4 = .ok (.aload_n 0, 1) := by decide +kernel
theorem d8_5 : decode prog_8_method_1_code 5 = .ok (.aload_n 1, 1) := by decide +kernel
theorem d8_6 : decode prog_8_method_1_code 6 = .ok (.putfield 7, 3) := by decide +kernel
theorem d8_9 : decode prog_8_method_1_code 9 = .ok (.aload_n 0, 1) := by decide +kernel
theorem d8_10 : decode prog_8_method_1_code 10 = .ok (.aload_n 2, 1) := by decide +kernel
theorem d8_11 : decode prog_8_method_1_code 11 = .ok (.putfield 13, 3) := by decide +kernel
theorem d8_14 : decode prog_8_method_1_code 14 = .ok (.aload_n 0, 1) := by decide +kernel
theorem d8_15 : decode prog_8_method_1_code 15 = .ok (.lload_n 3, 1) := by decide +kernel
theorem d8_16 : decode prog_8_method_1_code 16 = .ok (.putfield 17, 3) := by decide +kernel
theorem d8_19 : decode prog_8_method_1_code 19 = .ok (.return_, 1) := by decide +kernel
theorem own_pl8 : plainFor (⟨"com/example/ring_to_run/ringtorun/Task", "<init>", "(Ljava/lang/String;[BJ)V"⟩ : MethodName) = true := plainFor_of_name (by first | (simp [plainName, overriddenIn]; done) | decide +kernel)
theorem own_pd14 : parseMethodDescriptor "(Ljava/lang/String;[BJ)V" = some ⟨[(.object "java/lang/String"), (.array .byte), .long], none⟩ := by decide +kernel
set_option maxHeartbeats 4000000 in
theorem rmCT (l : Launch) (Z : State) (a0 : Array Value) (hw : ∀ (i : Nat) (d : Jvm.Cond), tables_1[i]? = some d → d.before a0 Z = true) (h0 : Heap) (n0 : Nat) (a : Addr) (s : Addr) (d : Int64) (hZ0 : n0 ≤ h0.size) (hE : Exa Z h0 a "com/example/ring_to_run/ringtorun/Task") (hF0 : Fld Z h0 a "com/example/ring_to_run/ringtorun/Task" "id" "Ljava/lang/String;" .null) (hF1 : Fld Z h0 a "com/example/ring_to_run/ringtorun/Task" "payload" "[B" .null) (hF2 : Fld Z h0 a "com/example/ring_to_run/ringtorun/Task" "dueInstant" "J" (.long (0 : Int64))) (hF3 : Fld Z h0 a "com/example/ring_to_run/ringtorun/Task" "previous" "Lcom/example/ring_to_run/ringtorun/Task;" .null) (hF4 : Fld Z h0 a "com/example/ring_to_run/ringtorun/Task" "next" "Lcom/example/ring_to_run/ringtorun/Task;" .null) (hA_a : n0 ≤ a) :
    own_C l Z (⟨"com/example/ring_to_run/ringtorun/Task", "<init>", "(Ljava/lang/String;[BJ)V"⟩ : MethodName) prog_8_method_1_code 5 none ({ frames := 1, cells := 0, slots := 0, locals := 12 } : Room) #[(.ref a), (.ref s), .null, (.long d)] h0 n0 (fun v h' => v = none ∧ Keep h0 h' [a] ∧ Fld Z h' a "com/example/ring_to_run/ringtorun/Task" "dueInstant" "J" (.long d) ∧ Fld Z h' a "com/example/ring_to_run/ringtorun/Task" "previous" "Lcom/example/ring_to_run/ringtorun/Task;" .null ∧ Fld Z h' a "com/example/ring_to_run/ringtorun/Task" "next" "Lcom/example/ring_to_run/ringtorun/Task;" .null) := by
  refine own_met (Ls := #[.val (.ref a), .val (.ref s), .val .null, .val (.long d), .second]) hw own_pl8 (fun m => by first | (simp [entryFrame, mkF, argsToLocals, Value.category]; done) | rfl) ?_
  intro B H
  have hK : Keep h0 h0 [a] := Keep.refl _ _
  refine own_aload_n H rfl rfl d8_0 ?_
  refine own_initObject H (w1 := 57) (w2 := 15) (w3 := 16) rfl rfl rfl 0 rfl (by decide) (Nat.le_of_eq rfl) (by decide) d8_1 ?_
  refine own_aload_n H rfl rfl d8_4 ?_
  refine own_aload_n H rfl rfl d8_5 ?_
  refine own_putfield H (w := 58) (wi := 44) rfl hF0 hE hA_a (Or.inr ⟨own_w H (i := 59) rfl, rfl, rfl⟩) rfl (ty := (.object "java/lang/String")) (by decide) rfl rfl d8_6 ?_
  intro h1 W2
  have f3 : Exa Z h1 a "com/example/ring_to_run/ringtorun/Task" := hE.wr W2
  have f4 : Fld Z h1 a "com/example/ring_to_run/ringtorun/Task" "id" "Ljava/lang/String;" (.ref s) := hF0.same W2
  have f5 : Fld Z h1 a "com/example/ring_to_run/ringtorun/Task" "payload" "[B" .null := hF1.other W2 (Or.inr (slot_ne (Or.inr (own_w H (i := 61) rfl)) (Or.inr (own_w H (i := 59) rfl)) (by decide) (t := (.array .byte)) (t' := (.object "java/lang/String")) (by decide) (by decide)))
  have f6 : Fld Z h1 a "com/example/ring_to_run/ringtorun/Task" "dueInstant" "J" (.long (0 : Int64)) := hF2.other W2 (Or.inr (slot_ne (Or.inr (own_w H (i := 63) rfl)) (Or.inr (own_w H (i := 59) rfl)) (by decide) (t := .long) (t' := (.object "java/lang/String")) (by decide) (by decide)))
  have f7 : Fld Z h1 a "com/example/ring_to_run/ringtorun/Task" "previous" "Lcom/example/ring_to_run/ringtorun/Task;" .null := hF3.other W2 (Or.inr (slot_ne (Or.inl (own_w H (i := 103) rfl)) (Or.inr (own_w H (i := 59) rfl)) (by decide) (t := (.object "com/example/ring_to_run/ringtorun/Task")) (t' := (.object "java/lang/String")) (by decide) (by decide)))
  have f8 : Fld Z h1 a "com/example/ring_to_run/ringtorun/Task" "next" "Lcom/example/ring_to_run/ringtorun/Task;" .null := hF4.other W2 (Or.inr (slot_ne (Or.inl (own_w H (i := 105) rfl)) (Or.inr (own_w H (i := 59) rfl)) (by decide) (t := (.object "com/example/ring_to_run/ringtorun/Task")) (t' := (.object "java/lang/String")) (by decide) (by decide)))
  have f9 : n0 ≤ h1.size := by rw [W2.size]; exact hZ0
  have f10 : Keep h0 h1 [a] := hK.wr W2 (Or.inl (by simp))
  refine own_aload_n H rfl rfl d8_9 ?_
  refine own_aload_n H rfl rfl d8_10 ?_
  refine own_putfield H (w := 60) (wi := 44) rfl f5 f3 hA_a (Or.inr ⟨own_w H (i := 61) rfl, rfl, rfl⟩) rfl (ty := (.array .byte)) (by decide) rfl rfl d8_11 ?_
  intro h11 W12
  have f13 : Exa Z h11 a "com/example/ring_to_run/ringtorun/Task" := f3.wr W12
  have f14 : Fld Z h11 a "com/example/ring_to_run/ringtorun/Task" "id" "Ljava/lang/String;" (.ref s) := f4.other W12 (Or.inr (slot_ne (Or.inr (own_w H (i := 59) rfl)) (Or.inr (own_w H (i := 61) rfl)) (by decide) (t := (.object "java/lang/String")) (t' := (.array .byte)) (by decide) (by decide)))
  have f15 : Fld Z h11 a "com/example/ring_to_run/ringtorun/Task" "payload" "[B" .null := f5.same W12
  have f16 : Fld Z h11 a "com/example/ring_to_run/ringtorun/Task" "dueInstant" "J" (.long (0 : Int64)) := f6.other W12 (Or.inr (slot_ne (Or.inr (own_w H (i := 63) rfl)) (Or.inr (own_w H (i := 61) rfl)) (by decide) (t := .long) (t' := (.array .byte)) (by decide) (by decide)))
  have f17 : Fld Z h11 a "com/example/ring_to_run/ringtorun/Task" "previous" "Lcom/example/ring_to_run/ringtorun/Task;" .null := f7.other W12 (Or.inr (slot_ne (Or.inl (own_w H (i := 103) rfl)) (Or.inr (own_w H (i := 61) rfl)) (by decide) (t := (.object "com/example/ring_to_run/ringtorun/Task")) (t' := (.array .byte)) (by decide) (by decide)))
  have f18 : Fld Z h11 a "com/example/ring_to_run/ringtorun/Task" "next" "Lcom/example/ring_to_run/ringtorun/Task;" .null := f8.other W12 (Or.inr (slot_ne (Or.inl (own_w H (i := 105) rfl)) (Or.inr (own_w H (i := 61) rfl)) (by decide) (t := (.object "com/example/ring_to_run/ringtorun/Task")) (t' := (.array .byte)) (by decide) (by decide)))
  have f19 : n0 ≤ h11.size := by rw [W12.size]; exact f9
  have f20 : Keep h0 h11 [a] := f10.wr W12 (Or.inl (by simp))
  refine own_aload_n H rfl rfl d8_14 ?_
  refine own_lload_n H rfl d8_15 ?_
  refine own_putfield H (w := 62) (wi := 44) rfl f16 f13 hA_a (Or.inr ⟨own_w H (i := 63) rfl, rfl, rfl⟩) rfl (ty := .long) (by decide) rfl rfl d8_16 ?_
  intro h21 W22
  have f23 : Exa Z h21 a "com/example/ring_to_run/ringtorun/Task" := f13.wr W22
  have f24 : Fld Z h21 a "com/example/ring_to_run/ringtorun/Task" "id" "Ljava/lang/String;" (.ref s) := f14.other W22 (Or.inr (slot_ne (Or.inr (own_w H (i := 59) rfl)) (Or.inr (own_w H (i := 63) rfl)) (by decide) (t := (.object "java/lang/String")) (t' := .long) (by decide) (by decide)))
  have f25 : Fld Z h21 a "com/example/ring_to_run/ringtorun/Task" "payload" "[B" .null := f15.other W22 (Or.inr (slot_ne (Or.inr (own_w H (i := 61) rfl)) (Or.inr (own_w H (i := 63) rfl)) (by decide) (t := (.array .byte)) (t' := .long) (by decide) (by decide)))
  have f26 : Fld Z h21 a "com/example/ring_to_run/ringtorun/Task" "dueInstant" "J" (.long d) := f16.same W22
  have f27 : Fld Z h21 a "com/example/ring_to_run/ringtorun/Task" "previous" "Lcom/example/ring_to_run/ringtorun/Task;" .null := f17.other W22 (Or.inr (slot_ne (Or.inl (own_w H (i := 103) rfl)) (Or.inr (own_w H (i := 63) rfl)) (by decide) (t := (.object "com/example/ring_to_run/ringtorun/Task")) (t' := .long) (by decide) (by decide)))
  have f28 : Fld Z h21 a "com/example/ring_to_run/ringtorun/Task" "next" "Lcom/example/ring_to_run/ringtorun/Task;" .null := f18.other W22 (Or.inr (slot_ne (Or.inl (own_w H (i := 105) rfl)) (Or.inr (own_w H (i := 63) rfl)) (by decide) (t := (.object "com/example/ring_to_run/ringtorun/Task")) (t' := .long) (by decide) (by decide)))
  have f29 : n0 ≤ h21.size := by rw [W22.size]; exact f19
  have f30 : Keep h0 h21 [a] := f20.wr W22 (Or.inl (by simp))
  exact own_return H d8_19 (by decide) (by decide) ⟨rfl, f30, f26, f27, f28⟩
section Two2
variable {A X g lb j : Nat}
theorem own_v0 (h : g < lb) : own_o1 (own_Kf A g) (own_Kf X lb / 64) = .long 0 := by
  rw [own_Kd]
  unfold own_o1
  rw [own_Kd, if_neg (by omega)]
theorem own_v1 (h : lb < g) : own_o1 (own_Kf A g) (own_Kf X lb / 64) = .long 0 := by
  rw [own_Kd]
  exact own_oz h
theorem own_v3 (h : lb = g) : own_o1 (own_Kf A g) (own_Kf X lb / 64) = .long (FBit (Int32.ofNat (own_Kf A g))) := by
  rw [own_Kd, h]
  exact own_os A g
theorem own_hn {t : Addr} {K K' : Nat} (h : ¬ K' = K) : own_h1 t K K' = .null := by
  unfold own_h1
  rw [if_neg h]
theorem own_t0 {t : Addr} (h : g < lb) : own_h1 t (own_Kf A g) (own_Kf X lb) = .null := own_hn fun q => by
  have := congrArg (· / 64) q
  simp only [own_Kd] at this
  omega
theorem own_t1 {t : Addr} (h : lb < g) : own_h1 t (own_Kf A g) (own_Kf X lb) = .null := own_hn fun q => by
  have := congrArg (· / 64) q
  simp only [own_Kd] at this
  omega
theorem own_t3 {t : Addr} (h : ¬ own_Kf A g = own_Kf X lb) : own_h1 t (own_Kf A g) (own_Kf X lb) = .null := own_hn fun q => h q.symm
theorem own_y0 {w : Int64} (h : g < lb) (hj : j < g) : own_o2 (own_Kf A g) (own_Kf X lb) w j = .long 0 := by
  unfold own_o2
  rw [own_Kd, if_neg (by omega)]
  exact own_oz hj
theorem own_x0 {w : Int64} (h : g < lb) : own_o2 (own_Kf A g) (own_Kf X lb) w g = .long (FBit (Int32.ofNat (own_Kf A g))) := by
  unfold own_o2
  rw [own_Kd, if_neg (by omega)]
  exact own_os A g
theorem own_y1 {w : Int64} (h : lb < g) (hj : j < lb) : own_o2 (own_Kf A g) (own_Kf X lb) w j = .long 0 := by
  unfold own_o2
  rw [own_Kd, if_neg (by omega)]
  exact own_oz (by omega)
theorem own_x1 (K X lb : Nat) (w : Int64) : own_o2 K (own_Kf X lb) w lb = .long w := by
  unfold own_o2
  rw [own_Kd, if_pos rfl]
theorem own_y3 {w : Int64} (h : lb = g) (hj : j < g) : own_o2 (own_Kf A g) (own_Kf X lb) w j = .long 0 := by
  unfold own_o2
  rw [own_Kd, if_neg (by omega)]
  exact own_oz hj
theorem own_x3 {w : Int64} (h : lb = g) : own_o2 (own_Kf A g) (own_Kf X lb) w g = .long w := by
  unfold own_o2
  rw [own_Kd, if_pos h.symm]
theorem own_w3 {c : Nat} (hA : A < 2 ^ 63) (hc : c < 2 ^ 63) (hg : own_Gf (A ^^^ c) = g) (ce : own_Gf (X ^^^ c) = g) (cc : own_Kf A g = own_Kf X (own_Gf (X ^^^ c))) : FFo (Int32.ofNat g) (FNtzL (FBit (Int32.ofNat (own_Kf A g)))) (Int64.ofNat c) = Int64.ofNat (min (own_Rf A g) (own_Rf X (own_Gf (X ^^^ c)))) := by
  rw [ce] at cc ⊢
  exact own_n3 hA hc hg ce cc
theorem own_w4 {c : Nat} (hA : A < 2 ^ 63) (hc : c < 2 ^ 63) (hg : own_Gf (A ^^^ c) = g) (ce : own_Gf (X ^^^ c) = g) : FFo (Int32.ofNat g) (FNtzL (FBit (Int32.ofNat (own_Kf A g)) ||| FBit (Int32.ofNat (own_Kf X (own_Gf (X ^^^ c)))))) (Int64.ofNat c) = Int64.ofNat (min (own_Rf A g) (own_Rf X (own_Gf (X ^^^ c)))) := by
  rw [ce]
  exact own_n4 hA hc hg ce
end Two2

set_option maxHeartbeats 16000000 in
theorem own_p2_00 {B : own_B} {l : Launch} {Z : State} {a0 : Array Value} (H : own_Ok B Z a0 l room_1 x code maxLocals ret) (D : own_Wd B) {h0 : Heap} {n0 : Nat} (hZ0 : n0 ≤ h0.size) (p1 p2 p3 p4 p5 : Int64) (p6 : Int32) (st lm : Int64) (t A U M : Nat) (hLev : FLev (Int64.ofNat t) = Int32.ofNat M) (hMe : own_Gf (t - 1) + 1 = M) (hM : M ≤ 11) (ht : t < 2 ^ 63) (hA : A < t) (hU : U < t) : own_G B n0 (fun v h' => v = some (.int 1)) 24 4992 0 0 h0 131 #[.val (.long p1), .second, .val (.long p2), .second, .val (.long p3), .second, .val (.long p4), .second, .val (.long p5), .second, .val (.int p6), .val (.long st), .second, .val (.long (Int64.ofNat t)), .second, .val (.long lm), .second, .val (.int (0 : Int32)), .val (.long (Int64.ofNat A)), .second, .val (.long (Int64.ofNat U)), .second, .val (.int (0 : Int32)), .val (.long (0 : Int64)), .second, .unset, .unset, .unset, .unset, .unset, .unset, .unset, .unset, .unset, .unset, .unset, .unset, .unset, .unset, .unset, .unset, .unset] [] := by
  have hA' : A < 2 ^ 63 := by omega
  have hU' : U < 2 ^ 63 := by omega
  have hLA : own_Gf A < M := by
    have := own_GM (A := A) (C := 0) (m := t - 1) (by omega) (by omega)
    rw [Nat.xor_zero] at this
    omega
  refine own_new H (w := 8) (wi := 9) (wz := 10) rfl rfl rfl at_131 (by decide) (by decide) ?_
  intro h1 a2 ha3 E4 X5 D6
  have f7 : n0 ≤ a2 := by rw [ha3]; exact hZ0
  have f8 : n0 ≤ h1.size := Nat.le_trans hZ0 E4.1
  have f9 : Fld Z h1 a2 "com/example/ring_to_run/ringtorun/TickQueue" "tickMillis" "J" (.long (0 : Int64)) := D6 (Or.inr (own_w H (i := 18) rfl)) (ty := .long) (by decide)
  have f10 : Fld Z h1 a2 "com/example/ring_to_run/ringtorun/TickQueue" "levels" "I" (.int (0 : Int32)) := D6 (Or.inr (own_w H (i := 31) rfl)) (ty := .int) (by decide)
  have f11 : Fld Z h1 a2 "com/example/ring_to_run/ringtorun/TickQueue" "heads" "[Lcom/example/ring_to_run/ringtorun/Task;" .null := D6 (Or.inr (own_w H (i := 35) rfl)) (ty := (.array (.object "com/example/ring_to_run/ringtorun/Task"))) (by decide)
  have f12 : Fld Z h1 a2 "com/example/ring_to_run/ringtorun/TickQueue" "tails" "[Lcom/example/ring_to_run/ringtorun/Task;" .null := D6 (Or.inr (own_w H (i := 37) rfl)) (ty := (.array (.object "com/example/ring_to_run/ringtorun/Task"))) (by decide)
  have f13 : Fld Z h1 a2 "com/example/ring_to_run/ringtorun/TickQueue" "occupied" "[J" .null := D6 (Or.inr (own_w H (i := 40) rfl)) (ty := (.array .long)) (by decide)
  have f14 : Fld Z h1 a2 "com/example/ring_to_run/ringtorun/TickQueue" "start" "J" (.long (0 : Int64)) := D6 (Or.inl (own_w H (i := 42) rfl)) (ty := .long) (by decide)
  have f15 : Fld Z h1 a2 "com/example/ring_to_run/ringtorun/TickQueue" "cursor" "J" (.long (0 : Int64)) := D6 (Or.inl (own_w H (i := 96) rfl)) (ty := .long) (by decide)
  show own_G _ _ _ _ _ _ _ _ 134 #[.val (.long p1), .second, .val (.long p2), .second, .val (.long p3), .second, .val (.long p4), .second, .val (.long p5), .second, .val (.int p6), .val (.long st), .second, .val (.long (Int64.ofNat t)), .second, .val (.long lm), .second, .val (.int (0 : Int32)), .val (.long (Int64.ofNat A)), .second, .val (.long (Int64.ofNat U)), .second, .val (.int (0 : Int32)), .val (.long (0 : Int64)), .second, .unset, .unset, .unset, .unset, .unset, .unset, .unset, .unset, .unset, .unset, .unset, .unset, .unset, .unset, .unset, .unset, .unset] [(.ref a2)]
  refine own_dup H rfl at_134 ?_
  refine own_lload H rfl at_135 ?_
  refine own_lload H rfl at_137 ?_
  refine own_invokespecial H (a := a2) (argsL := [(.long (Int64.ofNat t)), (.long st)]) (rest := [(.ref a2)]) (rmCQ l Z a0 (own_hw H) h1 n0 a2 (Int64.ofNat t) st M f8 X5 f9 f10 f11 f12 f13 f14 f15 hLev hM f7) rfl (w1 := 11) (w2 := 12) (w3 := 10) (w4 := 13) rfl rfl rfl rfl own_pd13 rfl 1 (by decide) rfl (by decide) (Nat.le_of_eq rfl) (by decide) (by decide) (by decide) rfl at_139 ?_
  rintro _ h16 ⟨rfl, K17, aH, aT, aO, kH, kT, kO, ⟨z18, z19, z20, z21, z22, z23⟩, ⟨n24, n25, n26⟩, ⟨f27, f28, f29, f30, f31, f32⟩, ⟨V33, V34, V35⟩, o36, o37⟩
  have f38 : a2 ≠ aH := Nat.ne_of_lt (Nat.lt_of_lt_of_le X5.lt z21)
  have f39 : a2 ≠ aT := Nat.ne_of_lt (Nat.lt_of_lt_of_le X5.lt z22)
  have f40 : a2 ≠ aO := Nat.ne_of_lt (Nat.lt_of_lt_of_le X5.lt z23)
  have f41 : n0 ≤ h16.size := Nat.le_trans f8 K17.1
  have f42 : Exa Z h16 a2 "com/example/ring_to_run/ringtorun/TickQueue" := X5.keep K17
  show own_G _ _ _ _ _ _ _ _ 142 #[.val (.long p1), .second, .val (.long p2), .second, .val (.long p3), .second, .val (.long p4), .second, .val (.long p5), .second, .val (.int p6), .val (.long st), .second, .val (.long (Int64.ofNat t)), .second, .val (.long lm), .second, .val (.int (0 : Int32)), .val (.long (Int64.ofNat A)), .second, .val (.long (Int64.ofNat U)), .second, .val (.int (0 : Int32)), .val (.long (0 : Int64)), .second, .unset, .unset, .unset, .unset, .unset, .unset, .unset, .unset, .unset, .unset, .unset, .unset, .unset, .unset, .unset, .unset, .unset] [(.ref a2)]
  refine own_astore H rfl #[.val (.long p1), .second, .val (.long p2), .second, .val (.long p3), .second, .val (.long p4), .second, .val (.long p5), .second, .val (.int p6), .val (.long st), .second, .val (.long (Int64.ofNat t)), .second, .val (.long lm), .second, .val (.int (0 : Int32)), .val (.long (Int64.ofNat A)), .second, .val (.long (Int64.ofNat U)), .second, .val (.int (0 : Int32)), .val (.long (0 : Int64)), .second, .val (.ref a2), .unset, .unset, .unset, .unset, .unset, .unset, .unset, .unset, .unset, .unset, .unset, .unset, .unset, .unset, .unset, .unset] rfl at_142 ?_
  refine own_new H (w := 43) (wi := 44) (wz := 45) rfl rfl rfl at_144 (by decide) (by decide) ?_
  intro h43 a44 ha45 E46 X47 D48
  have f49 : a2 ≠ a44 := Nat.ne_of_lt (by rw [ha45]; exact f42.lt)
  have f50 : aH ≠ a44 := Nat.ne_of_lt (by rw [ha45]; exact V33.lt)
  have f51 : aO ≠ a44 := Nat.ne_of_lt (by rw [ha45]; exact V35.lt)
  have f52 : aT ≠ a44 := Nat.ne_of_lt (by rw [ha45]; exact V34.lt)
  have f53 : n0 ≤ a44 := by rw [ha45]; exact f41
  have f54 : n0 ≤ h43.size := Nat.le_trans f41 E46.1
  have f55 : Exa Z h43 a2 "com/example/ring_to_run/ringtorun/TickQueue" := f42.ext E46
  have f56 : Fld Z h43 a2 "com/example/ring_to_run/ringtorun/TickQueue" "levels" "I" (.int (Int32.ofNat M)) := f27.ext E46
  have f57 : Fld Z h43 a2 "com/example/ring_to_run/ringtorun/TickQueue" "heads" "[Lcom/example/ring_to_run/ringtorun/Task;" (.ref aH) := f28.ext E46
  have f58 : Fld Z h43 a2 "com/example/ring_to_run/ringtorun/TickQueue" "tails" "[Lcom/example/ring_to_run/ringtorun/Task;" (.ref aT) := f29.ext E46
  have f59 : Fld Z h43 a2 "com/example/ring_to_run/ringtorun/TickQueue" "occupied" "[J" (.ref aO) := f30.ext E46
  have f60 : Fld Z h43 a2 "com/example/ring_to_run/ringtorun/TickQueue" "start" "J" (.long st) := f31.ext E46
  have f61 : Fld Z h43 a2 "com/example/ring_to_run/ringtorun/TickQueue" "cursor" "J" (.long (Int64.ofNat 0)) := f32.ext E46
  have f62 : own_Af Z h43 aH kH (.object "com/example/ring_to_run/ringtorun/Task") (Int32.ofNat (64 * M)) .null own_h0 := V33.ext E46
  have f63 : own_Af Z h43 aT kT (.object "com/example/ring_to_run/ringtorun/Task") (Int32.ofNat (64 * M)) .null own_h0 := V34.ext E46
  have f64 : own_Af Z h43 aO kO .long (Int32.ofNat M) (.long 0) own_o0 := V35.ext E46
  have f65 : Fld Z h43 a44 "com/example/ring_to_run/ringtorun/Task" "id" "Ljava/lang/String;" .null := D48 (Or.inr (own_w H (i := 59) rfl)) (ty := (.object "java/lang/String")) (by decide)
  have f66 : Fld Z h43 a44 "com/example/ring_to_run/ringtorun/Task" "payload" "[B" .null := D48 (Or.inr (own_w H (i := 61) rfl)) (ty := (.array .byte)) (by decide)
  have f67 : Fld Z h43 a44 "com/example/ring_to_run/ringtorun/Task" "dueInstant" "J" (.long (0 : Int64)) := D48 (Or.inr (own_w H (i := 63) rfl)) (ty := .long) (by decide)
  have f68 : Fld Z h43 a44 "com/example/ring_to_run/ringtorun/Task" "previous" "Lcom/example/ring_to_run/ringtorun/Task;" .null := D48 (Or.inl (own_w H (i := 103) rfl)) (ty := (.object "com/example/ring_to_run/ringtorun/Task")) (by decide)
  have f69 : Fld Z h43 a44 "com/example/ring_to_run/ringtorun/Task" "next" "Lcom/example/ring_to_run/ringtorun/Task;" .null := D48 (Or.inl (own_w H (i := 105) rfl)) (ty := (.object "com/example/ring_to_run/ringtorun/Task")) (by decide)
  show own_G _ _ _ _ _ _ _ _ 147 #[.val (.long p1), .second, .val (.long p2), .second, .val (.long p3), .second, .val (.long p4), .second, .val (.long p5), .second, .val (.int p6), .val (.long st), .second, .val (.long (Int64.ofNat t)), .second, .val (.long lm), .second, .val (.int (0 : Int32)), .val (.long (Int64.ofNat A)), .second, .val (.long (Int64.ofNat U)), .second, .val (.int (0 : Int32)), .val (.long (0 : Int64)), .second, .val (.ref a2), .unset, .unset, .unset, .unset, .unset, .unset, .unset, .unset, .unset, .unset, .unset, .unset, .unset, .unset, .unset, .unset] [(.ref a44)]
  refine own_dup H rfl at_147 ?_
  refine own_ldcS H D (w := 46) rfl (own_atoms H (f := fun i => [47, 48, 49, 50, 51, 52, 53].getD i.val 0) rfl rfl rfl rfl rfl rfl rfl) 4 (by decide) (by decide) at_148 (by decide) (by decide) ?_
  intro B a71 h70 H D E72
  have f73 : n0 ≤ h70.size := Nat.le_trans f54 E72.1
  have f74 : Exa Z h70 a2 "com/example/ring_to_run/ringtorun/TickQueue" := f55.ext E72
  have f75 : Fld Z h70 a2 "com/example/ring_to_run/ringtorun/TickQueue" "levels" "I" (.int (Int32.ofNat M)) := f56.ext E72
  have f76 : Fld Z h70 a2 "com/example/ring_to_run/ringtorun/TickQueue" "heads" "[Lcom/example/ring_to_run/ringtorun/Task;" (.ref aH) := f57.ext E72
  have f77 : Fld Z h70 a2 "com/example/ring_to_run/ringtorun/TickQueue" "tails" "[Lcom/example/ring_to_run/ringtorun/Task;" (.ref aT) := f58.ext E72
  have f78 : Fld Z h70 a2 "com/example/ring_to_run/ringtorun/TickQueue" "occupied" "[J" (.ref aO) := f59.ext E72
  have f79 : Fld Z h70 a2 "com/example/ring_to_run/ringtorun/TickQueue" "start" "J" (.long st) := f60.ext E72
  have f80 : Fld Z h70 a2 "com/example/ring_to_run/ringtorun/TickQueue" "cursor" "J" (.long (Int64.ofNat 0)) := f61.ext E72
  have f81 : own_Af Z h70 aH kH (.object "com/example/ring_to_run/ringtorun/Task") (Int32.ofNat (64 * M)) .null own_h0 := f62.ext E72
  have f82 : own_Af Z h70 aT kT (.object "com/example/ring_to_run/ringtorun/Task") (Int32.ofNat (64 * M)) .null own_h0 := f63.ext E72
  have f83 : own_Af Z h70 aO kO .long (Int32.ofNat M) (.long 0) own_o0 := f64.ext E72
  have f84 : Exa Z h70 a44 "com/example/ring_to_run/ringtorun/Task" := X47.ext E72
  have f85 : Fld Z h70 a44 "com/example/ring_to_run/ringtorun/Task" "id" "Ljava/lang/String;" .null := f65.ext E72
  have f86 : Fld Z h70 a44 "com/example/ring_to_run/ringtorun/Task" "payload" "[B" .null := f66.ext E72
  have f87 : Fld Z h70 a44 "com/example/ring_to_run/ringtorun/Task" "dueInstant" "J" (.long (0 : Int64)) := f67.ext E72
  have f88 : Fld Z h70 a44 "com/example/ring_to_run/ringtorun/Task" "previous" "Lcom/example/ring_to_run/ringtorun/Task;" .null := f68.ext E72
  have f89 : Fld Z h70 a44 "com/example/ring_to_run/ringtorun/Task" "next" "Lcom/example/ring_to_run/ringtorun/Task;" .null := f69.ext E72
  show own_G _ _ _ _ _ _ _ _ 150 #[.val (.long p1), .second, .val (.long p2), .second, .val (.long p3), .second, .val (.long p4), .second, .val (.long p5), .second, .val (.int p6), .val (.long st), .second, .val (.long (Int64.ofNat t)), .second, .val (.long lm), .second, .val (.int (0 : Int32)), .val (.long (Int64.ofNat A)), .second, .val (.long (Int64.ofNat U)), .second, .val (.int (0 : Int32)), .val (.long (0 : Int64)), .second, .val (.ref a2), .unset, .unset, .unset, .unset, .unset, .unset, .unset, .unset, .unset, .unset, .unset, .unset, .unset, .unset, .unset, .unset] [(.ref a71), (.ref a44), (.ref a44)]
  refine own_aconst_null H at_150 ?_
  refine own_lload H rfl at_151 ?_
  refine own_lload H rfl at_153 ?_
  refine own_ladd H rfl at_155 ?_
  refine own_invokespecial H (a := a44) (argsL := [(.ref a71), .null, (.long (st + (Int64.ofNat A)))]) (rest := [(.ref a44)]) (rmCT l Z a0 (own_hw H) h70 n0 a44 a71 (st + (Int64.ofNat A)) f73 f84 f85 f86 f87 f88 f89 f53) rfl (w1 := 54) (w2 := 55) (w3 := 45) (w4 := 56) rfl rfl rfl rfl own_pd14 rfl 1 (by decide) rfl (by decide) (Nat.le_of_eq rfl) (by decide) (by decide) (by decide) rfl at_156 ?_
  rintro _ h90 ⟨rfl, K91, f92, f93, f94⟩
  have f95 : n0 ≤ h90.size := Nat.le_trans f73 K91.1
  have f96 : Exa Z h90 a2 "com/example/ring_to_run/ringtorun/TickQueue" := f74.keep K91
  have f97 : Fld Z h90 a2 "com/example/ring_to_run/ringtorun/TickQueue" "levels" "I" (.int (Int32.ofNat M)) := f75.keep K91 (ninS f49 nin0)
  have f98 : Fld Z h90 a2 "com/example/ring_to_run/ringtorun/TickQueue" "heads" "[Lcom/example/ring_to_run/ringtorun/Task;" (.ref aH) := f76.keep K91 (ninS f49 nin0)
  have f99 : Fld Z h90 a2 "com/example/ring_to_run/ringtorun/TickQueue" "tails" "[Lcom/example/ring_to_run/ringtorun/Task;" (.ref aT) := f77.keep K91 (ninS f49 nin0)
  have f100 : Fld Z h90 a2 "com/example/ring_to_run/ringtorun/TickQueue" "occupied" "[J" (.ref aO) := f78.keep K91 (ninS f49 nin0)
  have f101 : Fld Z h90 a2 "com/example/ring_to_run/ringtorun/TickQueue" "start" "J" (.long st) := f79.keep K91 (ninS f49 nin0)
  have f102 : Fld Z h90 a2 "com/example/ring_to_run/ringtorun/TickQueue" "cursor" "J" (.long (Int64.ofNat 0)) := f80.keep K91 (ninS f49 nin0)
  have f103 : own_Af Z h90 aH kH (.object "com/example/ring_to_run/ringtorun/Task") (Int32.ofNat (64 * M)) .null own_h0 := f81.keep K91 (ninS f50 nin0)
  have f104 : own_Af Z h90 aT kT (.object "com/example/ring_to_run/ringtorun/Task") (Int32.ofNat (64 * M)) .null own_h0 := f82.keep K91 (ninS f52 nin0)
  have f105 : own_Af Z h90 aO kO .long (Int32.ofNat M) (.long 0) own_o0 := f83.keep K91 (ninS f51 nin0)
  have f106 : Exa Z h90 a44 "com/example/ring_to_run/ringtorun/Task" := f84.keep K91
  show own_G _ _ _ _ _ _ _ _ 159 #[.val (.long p1), .second, .val (.long p2), .second, .val (.long p3), .second, .val (.long p4), .second, .val (.long p5), .second, .val (.int p6), .val (.long st), .second, .val (.long (Int64.ofNat t)), .second, .val (.long lm), .second, .val (.int (0 : Int32)), .val (.long (Int64.ofNat A)), .second, .val (.long (Int64.ofNat U)), .second, .val (.int (0 : Int32)), .val (.long (0 : Int64)), .second, .val (.ref a2), .unset, .unset, .unset, .unset, .unset, .unset, .unset, .unset, .unset, .unset, .unset, .unset, .unset, .unset, .unset, .unset] [(.ref a44)]
  refine own_astore H rfl #[.val (.long p1), .second, .val (.long p2), .second, .val (.long p3), .second, .val (.long p4), .second, .val (.long p5), .second, .val (.int p6), .val (.long st), .second, .val (.long (Int64.ofNat t)), .second, .val (.long lm), .second, .val (.int (0 : Int32)), .val (.long (Int64.ofNat A)), .second, .val (.long (Int64.ofNat U)), .second, .val (.int (0 : Int32)), .val (.long (0 : Int64)), .second, .val (.ref a2), .val (.ref a44), .unset, .unset, .unset, .unset, .unset, .unset, .unset, .unset, .unset, .unset, .unset, .unset, .unset, .unset, .unset] rfl at_159 ?_
  refine own_new H (w := 43) (wi := 44) (wz := 45) rfl rfl rfl at_161 (by decide) (by decide) ?_
  intro h107 a108 ha109 E110 X111 D112
  have f113 : a2 ≠ a108 := Nat.ne_of_lt (by rw [ha109]; exact f96.lt)
  have f114 : a44 ≠ a108 := Nat.ne_of_lt (by rw [ha109]; exact f106.lt)
  have f115 : aH ≠ a108 := Nat.ne_of_lt (by rw [ha109]; exact f103.lt)
  have f116 : aO ≠ a108 := Nat.ne_of_lt (by rw [ha109]; exact f105.lt)
  have f117 : aT ≠ a108 := Nat.ne_of_lt (by rw [ha109]; exact f104.lt)
  have f118 : n0 ≤ a108 := by rw [ha109]; exact f95
  have f119 : n0 ≤ h107.size := Nat.le_trans f95 E110.1
  have f120 : Exa Z h107 a2 "com/example/ring_to_run/ringtorun/TickQueue" := f96.ext E110
  have f121 : Fld Z h107 a2 "com/example/ring_to_run/ringtorun/TickQueue" "levels" "I" (.int (Int32.ofNat M)) := f97.ext E110
  have f122 : Fld Z h107 a2 "com/example/ring_to_run/ringtorun/TickQueue" "heads" "[Lcom/example/ring_to_run/ringtorun/Task;" (.ref aH) := f98.ext E110
  have f123 : Fld Z h107 a2 "com/example/ring_to_run/ringtorun/TickQueue" "tails" "[Lcom/example/ring_to_run/ringtorun/Task;" (.ref aT) := f99.ext E110
  have f124 : Fld Z h107 a2 "com/example/ring_to_run/ringtorun/TickQueue" "occupied" "[J" (.ref aO) := f100.ext E110
  have f125 : Fld Z h107 a2 "com/example/ring_to_run/ringtorun/TickQueue" "start" "J" (.long st) := f101.ext E110
  have f126 : Fld Z h107 a2 "com/example/ring_to_run/ringtorun/TickQueue" "cursor" "J" (.long (Int64.ofNat 0)) := f102.ext E110
  have f127 : own_Af Z h107 aH kH (.object "com/example/ring_to_run/ringtorun/Task") (Int32.ofNat (64 * M)) .null own_h0 := f103.ext E110
  have f128 : own_Af Z h107 aT kT (.object "com/example/ring_to_run/ringtorun/Task") (Int32.ofNat (64 * M)) .null own_h0 := f104.ext E110
  have f129 : own_Af Z h107 aO kO .long (Int32.ofNat M) (.long 0) own_o0 := f105.ext E110
  have f130 : Exa Z h107 a44 "com/example/ring_to_run/ringtorun/Task" := f106.ext E110
  have f131 : Fld Z h107 a44 "com/example/ring_to_run/ringtorun/Task" "dueInstant" "J" (.long (st + (Int64.ofNat A))) := f92.ext E110
  have f132 : Fld Z h107 a44 "com/example/ring_to_run/ringtorun/Task" "previous" "Lcom/example/ring_to_run/ringtorun/Task;" .null := f93.ext E110
  have f133 : Fld Z h107 a44 "com/example/ring_to_run/ringtorun/Task" "next" "Lcom/example/ring_to_run/ringtorun/Task;" .null := f94.ext E110
  have f134 : Fld Z h107 a108 "com/example/ring_to_run/ringtorun/Task" "id" "Ljava/lang/String;" .null := D112 (Or.inr (own_w H (i := 59) rfl)) (ty := (.object "java/lang/String")) (by decide)
  have f135 : Fld Z h107 a108 "com/example/ring_to_run/ringtorun/Task" "payload" "[B" .null := D112 (Or.inr (own_w H (i := 61) rfl)) (ty := (.array .byte)) (by decide)
  have f136 : Fld Z h107 a108 "com/example/ring_to_run/ringtorun/Task" "dueInstant" "J" (.long (0 : Int64)) := D112 (Or.inr (own_w H (i := 63) rfl)) (ty := .long) (by decide)
  have f137 : Fld Z h107 a108 "com/example/ring_to_run/ringtorun/Task" "previous" "Lcom/example/ring_to_run/ringtorun/Task;" .null := D112 (Or.inl (own_w H (i := 103) rfl)) (ty := (.object "com/example/ring_to_run/ringtorun/Task")) (by decide)
  have f138 : Fld Z h107 a108 "com/example/ring_to_run/ringtorun/Task" "next" "Lcom/example/ring_to_run/ringtorun/Task;" .null := D112 (Or.inl (own_w H (i := 105) rfl)) (ty := (.object "com/example/ring_to_run/ringtorun/Task")) (by decide)
  show own_G _ _ _ _ _ _ _ _ 164 #[.val (.long p1), .second, .val (.long p2), .second, .val (.long p3), .second, .val (.long p4), .second, .val (.long p5), .second, .val (.int p6), .val (.long st), .second, .val (.long (Int64.ofNat t)), .second, .val (.long lm), .second, .val (.int (0 : Int32)), .val (.long (Int64.ofNat A)), .second, .val (.long (Int64.ofNat U)), .second, .val (.int (0 : Int32)), .val (.long (0 : Int64)), .second, .val (.ref a2), .val (.ref a44), .unset, .unset, .unset, .unset, .unset, .unset, .unset, .unset, .unset, .unset, .unset, .unset, .unset, .unset, .unset] [(.ref a108)]
  refine own_dup H rfl at_164 ?_
  refine own_ldcS H D (w := 64) rfl (own_atoms H (f := fun i => [47, 48, 49, 50, 51, 52, 53].getD i.val 0) rfl rfl rfl rfl rfl rfl rfl) 4 (by decide) (by decide) at_165 (by decide) (by decide) ?_
  intro B a140 h139 H D E141
  have f142 : n0 ≤ h139.size := Nat.le_trans f119 E141.1
  have f143 : Exa Z h139 a2 "com/example/ring_to_run/ringtorun/TickQueue" := f120.ext E141
  have f144 : Fld Z h139 a2 "com/example/ring_to_run/ringtorun/TickQueue" "levels" "I" (.int (Int32.ofNat M)) := f121.ext E141
  have f145 : Fld Z h139 a2 "com/example/ring_to_run/ringtorun/TickQueue" "heads" "[Lcom/example/ring_to_run/ringtorun/Task;" (.ref aH) := f122.ext E141
  have f146 : Fld Z h139 a2 "com/example/ring_to_run/ringtorun/TickQueue" "tails" "[Lcom/example/ring_to_run/ringtorun/Task;" (.ref aT) := f123.ext E141
  have f147 : Fld Z h139 a2 "com/example/ring_to_run/ringtorun/TickQueue" "occupied" "[J" (.ref aO) := f124.ext E141
  have f148 : Fld Z h139 a2 "com/example/ring_to_run/ringtorun/TickQueue" "start" "J" (.long st) := f125.ext E141
  have f149 : Fld Z h139 a2 "com/example/ring_to_run/ringtorun/TickQueue" "cursor" "J" (.long (Int64.ofNat 0)) := f126.ext E141
  have f150 : own_Af Z h139 aH kH (.object "com/example/ring_to_run/ringtorun/Task") (Int32.ofNat (64 * M)) .null own_h0 := f127.ext E141
  have f151 : own_Af Z h139 aT kT (.object "com/example/ring_to_run/ringtorun/Task") (Int32.ofNat (64 * M)) .null own_h0 := f128.ext E141
  have f152 : own_Af Z h139 aO kO .long (Int32.ofNat M) (.long 0) own_o0 := f129.ext E141
  have f153 : Exa Z h139 a44 "com/example/ring_to_run/ringtorun/Task" := f130.ext E141
  have f154 : Fld Z h139 a44 "com/example/ring_to_run/ringtorun/Task" "dueInstant" "J" (.long (st + (Int64.ofNat A))) := f131.ext E141
  have f155 : Fld Z h139 a44 "com/example/ring_to_run/ringtorun/Task" "previous" "Lcom/example/ring_to_run/ringtorun/Task;" .null := f132.ext E141
  have f156 : Fld Z h139 a44 "com/example/ring_to_run/ringtorun/Task" "next" "Lcom/example/ring_to_run/ringtorun/Task;" .null := f133.ext E141
  have f157 : Exa Z h139 a108 "com/example/ring_to_run/ringtorun/Task" := X111.ext E141
  have f158 : Fld Z h139 a108 "com/example/ring_to_run/ringtorun/Task" "id" "Ljava/lang/String;" .null := f134.ext E141
  have f159 : Fld Z h139 a108 "com/example/ring_to_run/ringtorun/Task" "payload" "[B" .null := f135.ext E141
  have f160 : Fld Z h139 a108 "com/example/ring_to_run/ringtorun/Task" "dueInstant" "J" (.long (0 : Int64)) := f136.ext E141
  have f161 : Fld Z h139 a108 "com/example/ring_to_run/ringtorun/Task" "previous" "Lcom/example/ring_to_run/ringtorun/Task;" .null := f137.ext E141
  have f162 : Fld Z h139 a108 "com/example/ring_to_run/ringtorun/Task" "next" "Lcom/example/ring_to_run/ringtorun/Task;" .null := f138.ext E141
  show own_G _ _ _ _ _ _ _ _ 167 #[.val (.long p1), .second, .val (.long p2), .second, .val (.long p3), .second, .val (.long p4), .second, .val (.long p5), .second, .val (.int p6), .val (.long st), .second, .val (.long (Int64.ofNat t)), .second, .val (.long lm), .second, .val (.int (0 : Int32)), .val (.long (Int64.ofNat A)), .second, .val (.long (Int64.ofNat U)), .second, .val (.int (0 : Int32)), .val (.long (0 : Int64)), .second, .val (.ref a2), .val (.ref a44), .unset, .unset, .unset, .unset, .unset, .unset, .unset, .unset, .unset, .unset, .unset, .unset, .unset, .unset, .unset] [(.ref a140), (.ref a108), (.ref a108)]
  refine own_aconst_null H at_167 ?_
  refine own_lload H rfl at_168 ?_
  refine own_lload H rfl at_170 ?_
  refine own_ladd H rfl at_172 ?_
  refine own_invokespecial H (a := a108) (argsL := [(.ref a140), .null, (.long (st + (0 : Int64)))]) (rest := [(.ref a108)]) (rmCT l Z a0 (own_hw H) h139 n0 a108 a140 (st + (0 : Int64)) f142 f157 f158 f159 f160 f161 f162 f118) rfl (w1 := 54) (w2 := 55) (w3 := 45) (w4 := 56) rfl rfl rfl rfl own_pd14 rfl 1 (by decide) rfl (by decide) (Nat.le_of_eq rfl) (by decide) (by decide) (by decide) rfl at_173 ?_
  rintro _ h163 ⟨rfl, K164, f165, f166, f167⟩
  have f168 : n0 ≤ h163.size := Nat.le_trans f142 K164.1
  have f169 : Exa Z h163 a2 "com/example/ring_to_run/ringtorun/TickQueue" := f143.keep K164
  have f170 : Fld Z h163 a2 "com/example/ring_to_run/ringtorun/TickQueue" "levels" "I" (.int (Int32.ofNat M)) := f144.keep K164 (ninS f113 nin0)
  have f171 : Fld Z h163 a2 "com/example/ring_to_run/ringtorun/TickQueue" "heads" "[Lcom/example/ring_to_run/ringtorun/Task;" (.ref aH) := f145.keep K164 (ninS f113 nin0)
  have f172 : Fld Z h163 a2 "com/example/ring_to_run/ringtorun/TickQueue" "tails" "[Lcom/example/ring_to_run/ringtorun/Task;" (.ref aT) := f146.keep K164 (ninS f113 nin0)
  have f173 : Fld Z h163 a2 "com/example/ring_to_run/ringtorun/TickQueue" "occupied" "[J" (.ref aO) := f147.keep K164 (ninS f113 nin0)
  have f174 : Fld Z h163 a2 "com/example/ring_to_run/ringtorun/TickQueue" "start" "J" (.long st) := f148.keep K164 (ninS f113 nin0)
  have f175 : Fld Z h163 a2 "com/example/ring_to_run/ringtorun/TickQueue" "cursor" "J" (.long (Int64.ofNat 0)) := f149.keep K164 (ninS f113 nin0)
  have f176 : own_Af Z h163 aH kH (.object "com/example/ring_to_run/ringtorun/Task") (Int32.ofNat (64 * M)) .null own_h0 := f150.keep K164 (ninS f115 nin0)
  have f177 : own_Af Z h163 aT kT (.object "com/example/ring_to_run/ringtorun/Task") (Int32.ofNat (64 * M)) .null own_h0 := f151.keep K164 (ninS f117 nin0)
  have f178 : own_Af Z h163 aO kO .long (Int32.ofNat M) (.long 0) own_o0 := f152.keep K164 (ninS f116 nin0)
  have f179 : Exa Z h163 a44 "com/example/ring_to_run/ringtorun/Task" := f153.keep K164
  have f180 : Fld Z h163 a44 "com/example/ring_to_run/ringtorun/Task" "dueInstant" "J" (.long (st + (Int64.ofNat A))) := f154.keep K164 (ninS f114 nin0)
  have f181 : Fld Z h163 a44 "com/example/ring_to_run/ringtorun/Task" "previous" "Lcom/example/ring_to_run/ringtorun/Task;" .null := f155.keep K164 (ninS f114 nin0)
  have f182 : Fld Z h163 a44 "com/example/ring_to_run/ringtorun/Task" "next" "Lcom/example/ring_to_run/ringtorun/Task;" .null := f156.keep K164 (ninS f114 nin0)
  have f183 : Exa Z h163 a108 "com/example/ring_to_run/ringtorun/Task" := f157.keep K164
  show own_G _ _ _ _ _ _ _ _ 176 #[.val (.long p1), .second, .val (.long p2), .second, .val (.long p3), .second, .val (.long p4), .second, .val (.long p5), .second, .val (.int p6), .val (.long st), .second, .val (.long (Int64.ofNat t)), .second, .val (.long lm), .second, .val (.int (0 : Int32)), .val (.long (Int64.ofNat A)), .second, .val (.long (Int64.ofNat U)), .second, .val (.int (0 : Int32)), .val (.long (0 : Int64)), .second, .val (.ref a2), .val (.ref a44), .unset, .unset, .unset, .unset, .unset, .unset, .unset, .unset, .unset, .unset, .unset, .unset, .unset, .unset, .unset] [(.ref a108)]
  refine own_astore H rfl #[.val (.long p1), .second, .val (.long p2), .second, .val (.long p3), .second, .val (.long p4), .second, .val (.long p5), .second, .val (.int p6), .val (.long st), .second, .val (.long (Int64.ofNat t)), .second, .val (.long lm), .second, .val (.int (0 : Int32)), .val (.long (Int64.ofNat A)), .second, .val (.long (Int64.ofNat U)), .second, .val (.int (0 : Int32)), .val (.long (0 : Int64)), .second, .val (.ref a2), .val (.ref a44), .val (.ref a108), .unset, .unset, .unset, .unset, .unset, .unset, .unset, .unset, .unset, .unset, .unset, .unset, .unset, .unset] rfl at_176 ?_
  refine own_iconst H (1 : Int32) (by decide) at_178 ?_
  refine own_istore H #[.val (.long p1), .second, .val (.long p2), .second, .val (.long p3), .second, .val (.long p4), .second, .val (.long p5), .second, .val (.int p6), .val (.long st), .second, .val (.long (Int64.ofNat t)), .second, .val (.long lm), .second, .val (.int (0 : Int32)), .val (.long (Int64.ofNat A)), .second, .val (.long (Int64.ofNat U)), .second, .val (.int (0 : Int32)), .val (.long (0 : Int64)), .second, .val (.ref a2), .val (.ref a44), .val (.ref a108), .val (.int (1 : Int32)), .unset, .unset, .unset, .unset, .unset, .unset, .unset, .unset, .unset, .unset, .unset, .unset, .unset] rfl at_179 ?_
  refine own_iload H rfl at_181 ?_
  refine own_ifeq_t H (pc' := 193) at_183 (by decide) (by decide) (by decide) ?_
  refine own_aload H rfl rfl at_193 ?_
  refine own_invokevirtual H (a := a2) (argsL := []) (rest := []) (rmNiM l Z a0 (own_hw H) h163 n0 a2 aO kO M own_o0 st (Int64.ofNat 0) f169 f170 f173 f178 f174 f175 hM (fun _ _ => rfl)) f169 (w1 := 65) (w0 := 66) (w5 := 68) (w2 := 67) (w3 := 10) (w4 := 69) rfl rfl rfl rfl rfl rfl own_pd7 rfl 0 (by decide) rfl (by decide) (Nat.le_of_eq rfl) (by decide) (by decide) (by decide) rfl at_195 ?_
  rintro _ _ ⟨rfl, rfl⟩
  show own_G _ _ _ _ _ _ _ _ 198 #[.val (.long p1), .second, .val (.long p2), .second, .val (.long p3), .second, .val (.long p4), .second, .val (.long p5), .second, .val (.int p6), .val (.long st), .second, .val (.long (Int64.ofNat t)), .second, .val (.long lm), .second, .val (.int (0 : Int32)), .val (.long (Int64.ofNat A)), .second, .val (.long (Int64.ofNat U)), .second, .val (.int (0 : Int32)), .val (.long (0 : Int64)), .second, .val (.ref a2), .val (.ref a44), .val (.ref a108), .val (.int (1 : Int32)), .unset, .unset, .unset, .unset, .unset, .unset, .unset, .unset, .unset, .unset, .unset, .unset, .unset] [(.long (9223372036854775807 : Int64))]
  refine own_lstore H #[.val (.long p1), .second, .val (.long p2), .second, .val (.long p3), .second, .val (.long p4), .second, .val (.long p5), .second, .val (.int p6), .val (.long st), .second, .val (.long (Int64.ofNat t)), .second, .val (.long lm), .second, .val (.int (0 : Int32)), .val (.long (Int64.ofNat A)), .second, .val (.long (Int64.ofNat U)), .second, .val (.int (0 : Int32)), .val (.long (0 : Int64)), .second, .val (.ref a2), .val (.ref a44), .val (.ref a108), .val (.int (1 : Int32)), .val (.long (9223372036854775807 : Int64)), .second, .unset, .unset, .unset, .unset, .unset, .unset, .unset, .unset, .unset, .unset, .unset] rfl at_198 ?_
  refine own_iload H rfl at_200 ?_
  refine own_ifeq_f H at_202 (by decide) ?_
  refine own_lload H rfl at_205 ?_
  refine own_iload H rfl at_207 ?_
  refine own_ifeq_t H (pc' := 228) at_209 (by decide) (by decide) (by decide) ?_
  refine own_ldc2J H (w := 0) rfl at_228 ?_
  refine own_lcmpne_f H at_231 at_232 (by decide) ?_
  refine own_iconst H (1 : Int32) (by decide) at_235 ?_
  refine own_goto H (pc' := 240) at_236 (by decide) (by decide) ?_
  refine own_istore H #[.val (.long p1), .second, .val (.long p2), .second, .val (.long p3), .second, .val (.long p4), .second, .val (.long p5), .second, .val (.int p6), .val (.long st), .second, .val (.long (Int64.ofNat t)), .second, .val (.long lm), .second, .val (.int (0 : Int32)), .val (.long (Int64.ofNat A)), .second, .val (.long (Int64.ofNat U)), .second, .val (.int (0 : Int32)), .val (.long (0 : Int64)), .second, .val (.ref a2), .val (.ref a44), .val (.ref a108), .val (.int (1 : Int32)), .val (.long (9223372036854775807 : Int64)), .second, .unset, .unset, .unset, .unset, .unset, .unset, .unset, .unset, .unset, .unset, .unset] rfl at_240 ?_
  refine own_aload H rfl rfl at_242 ?_
  refine own_lload H rfl at_244 ?_
  refine own_lload H rfl at_246 ?_
  refine own_ladd H rfl at_248 ?_
  refine own_invokevirtual H (a := a2) (argsL := [(.long (st + (Int64.ofNat U)))]) (rest := []) (rmPoE l Z a0 (own_hw H) h163 n0 a2 a44 a108 aH aT aO kH kT kO M st (st + (Int64.ofNat A)) (st + (0 : Int64)) (Int64.ofNat 0) own_h0 own_h0 .null .null .null .null (st + (Int64.ofNat U)) ⟨⟨f168, f7, f53, f118, z18, z19, z20⟩, ⟨f49, f113, f38, f39, f40, f114, f50.symm, f52.symm, f51.symm, f115.symm, f117.symm, f116.symm, n24, n25, n26⟩, ⟨f169, f179, f183, o36, o37⟩, ⟨f170, f171, f172, f173, f174, f175⟩, ⟨f181, f182, f180⟩, ⟨f166, f167, f165⟩, ⟨f176, f177, f178⟩⟩ hM (by omega)) f169 (w1 := 71) (w0 := 72) (w5 := 74) (w2 := 73) (w3 := 10) (w4 := 75) rfl rfl rfl rfl rfl rfl own_pd12 rfl 0 (by decide) rfl (by decide) (Nat.le_of_eq rfl) (by decide) (by decide) (by decide) rfl at_249 ?_
  rintro _ h184 ⟨rfl, hQ⟩
  obtain ⟨⟨u185, u186, u187, u188, u189, u190, u191⟩, ⟨u192, u193, u194, u195, u196, u197, u198, u199, u200, u201, u202, u203, u204, u205, u206⟩, ⟨u207, u208, u209, u210, u211⟩, ⟨u212, u213, u214, u215, u216, u217⟩, ⟨u218, u219, u220⟩, ⟨u221, u222, u223⟩, ⟨u224, u225, u226⟩⟩ := hQ
  show own_G _ _ _ _ _ _ _ _ 252 #[.val (.long p1), .second, .val (.long p2), .second, .val (.long p3), .second, .val (.long p4), .second, .val (.long p5), .second, .val (.int p6), .val (.long st), .second, .val (.long (Int64.ofNat t)), .second, .val (.long lm), .second, .val (.int (0 : Int32)), .val (.long (Int64.ofNat A)), .second, .val (.long (Int64.ofNat U)), .second, .val (.int (0 : Int32)), .val (.long (0 : Int64)), .second, .val (.ref a2), .val (.ref a44), .val (.ref a108), .val (.int (1 : Int32)), .val (.long (9223372036854775807 : Int64)), .second, .unset, .unset, .unset, .unset, .unset, .unset, .unset, .unset, .unset, .unset, .unset] [.null]
  refine own_astore H rfl #[.val (.long p1), .second, .val (.long p2), .second, .val (.long p3), .second, .val (.long p4), .second, .val (.long p5), .second, .val (.int p6), .val (.long st), .second, .val (.long (Int64.ofNat t)), .second, .val (.long lm), .second, .val (.int (0 : Int32)), .val (.long (Int64.ofNat A)), .second, .val (.long (Int64.ofNat U)), .second, .val (.int (0 : Int32)), .val (.long (0 : Int64)), .second, .val (.ref a2), .val (.ref a44), .val (.ref a108), .val (.int (1 : Int32)), .val (.long (9223372036854775807 : Int64)), .second, .val .null, .unset, .unset, .unset, .unset, .unset, .unset, .unset, .unset, .unset, .unset] rfl at_252 ?_
  refine own_iload H rfl at_254 ?_
  refine own_ifeq_t H (pc' := 271) at_256 (by decide) (by decide) (by decide) ?_
  refine own_iconst H (0 : Int32) (by decide) at_271 ?_
  refine own_istore H #[.val (.long p1), .second, .val (.long p2), .second, .val (.long p3), .second, .val (.long p4), .second, .val (.long p5), .second, .val (.int p6), .val (.long st), .second, .val (.long (Int64.ofNat t)), .second, .val (.long lm), .second, .val (.int (0 : Int32)), .val (.long (Int64.ofNat A)), .second, .val (.long (Int64.ofNat U)), .second, .val (.int (0 : Int32)), .val (.long (0 : Int64)), .second, .val (.ref a2), .val (.ref a44), .val (.ref a108), .val (.int (1 : Int32)), .val (.long (9223372036854775807 : Int64)), .second, .val .null, .val (.int (0 : Int32)), .unset, .unset, .unset, .unset, .unset, .unset, .unset, .unset, .unset] rfl at_272 ?_
  refine own_iload H rfl at_274 ?_
  refine own_ifeq_f H at_276 (by decide) ?_
  refine own_aload H rfl rfl at_279 ?_
  refine own_iload H rfl at_281 ?_
  refine own_ifeq_t H (pc' := 291) at_283 (by decide) (by decide) (by decide) ?_
  refine own_aconst_null H at_291 ?_
  refine own_acmpne_f H at_292 rfl rfl rfl ?_
  refine own_iconst H (1 : Int32) (by decide) at_295 ?_
  refine own_goto H (pc' := 300) at_296 (by decide) (by decide) ?_
  refine own_istore H #[.val (.long p1), .second, .val (.long p2), .second, .val (.long p3), .second, .val (.long p4), .second, .val (.long p5), .second, .val (.int p6), .val (.long st), .second, .val (.long (Int64.ofNat t)), .second, .val (.long lm), .second, .val (.int (0 : Int32)), .val (.long (Int64.ofNat A)), .second, .val (.long (Int64.ofNat U)), .second, .val (.int (0 : Int32)), .val (.long (0 : Int64)), .second, .val (.ref a2), .val (.ref a44), .val (.ref a108), .val (.int (1 : Int32)), .val (.long (9223372036854775807 : Int64)), .second, .val .null, .val (.int (0 : Int32)), .unset, .unset, .unset, .unset, .unset, .unset, .unset, .unset, .unset] rfl at_300 ?_
  refine own_iload H rfl at_302 ?_
  refine own_ifne_f H at_304 (by decide) ?_
  refine own_lconst H (0 : Int64) (by decide) at_307 ?_
  refine own_goto H (pc' := 340) at_308 (by decide) (by decide) ?_
  refine own_lstore H #[.val (.long p1), .second, .val (.long p2), .second, .val (.long p3), .second, .val (.long p4), .second, .val (.long p5), .second, .val (.int p6), .val (.long st), .second, .val (.long (Int64.ofNat t)), .second, .val (.long lm), .second, .val (.int (0 : Int32)), .val (.long (Int64.ofNat A)), .second, .val (.long (Int64.ofNat U)), .second, .val (.int (0 : Int32)), .val (.long (0 : Int64)), .second, .val (.ref a2), .val (.ref a44), .val (.ref a108), .val (.int (1 : Int32)), .val (.long (9223372036854775807 : Int64)), .second, .val .null, .val (.int (0 : Int32)), .val (.long (0 : Int64)), .second, .unset, .unset, .unset, .unset, .unset, .unset, .unset] rfl at_340 ?_
  refine own_iload H rfl at_342 ?_
  refine own_ifeq_t H (pc' := 356) at_344 (by decide) (by decide) (by decide) ?_
  refine own_iconst H (0 : Int32) (by decide) at_356 ?_
  refine own_istore H #[.val (.long p1), .second, .val (.long p2), .second, .val (.long p3), .second, .val (.long p4), .second, .val (.long p5), .second, .val (.int p6), .val (.long st), .second, .val (.long (Int64.ofNat t)), .second, .val (.long lm), .second, .val (.int (0 : Int32)), .val (.long (Int64.ofNat A)), .second, .val (.long (Int64.ofNat U)), .second, .val (.int (0 : Int32)), .val (.long (0 : Int64)), .second, .val (.ref a2), .val (.ref a44), .val (.ref a108), .val (.int (1 : Int32)), .val (.long (9223372036854775807 : Int64)), .second, .val .null, .val (.int (0 : Int32)), .val (.long (0 : Int64)), .second, .val (.int (0 : Int32)), .unset, .unset, .unset, .unset, .unset, .unset] rfl at_357 ?_
  refine own_iload H rfl at_359 ?_
  refine own_ifeq_t H (pc' := 380) at_361 (by decide) (by decide) (by decide) ?_
  refine own_lconst H (0 : Int64) (by decide) at_380 ?_
  refine own_lstore H #[.val (.long p1), .second, .val (.long p2), .second, .val (.long p3), .second, .val (.long p4), .second, .val (.long p5), .second, .val (.int p6), .val (.long st), .second, .val (.long (Int64.ofNat t)), .second, .val (.long lm), .second, .val (.int (0 : Int32)), .val (.long (Int64.ofNat A)), .second, .val (.long (Int64.ofNat U)), .second, .val (.int (0 : Int32)), .val (.long (0 : Int64)), .second, .val (.ref a2), .val (.ref a44), .val (.ref a108), .val (.int (1 : Int32)), .val (.long (9223372036854775807 : Int64)), .second, .val .null, .val (.int (0 : Int32)), .val (.long (0 : Int64)), .second, .val (.int (0 : Int32)), .val (.long (0 : Int64)), .second, .unset, .unset, .unset, .unset] rfl at_381 ?_
  refine own_iload H rfl at_383 ?_
  refine own_ifeq_t H (pc' := 395) at_385 (by decide) (by decide) (by decide) ?_
  refine own_iload H rfl at_395 ?_
  refine own_ifeq_t H (pc' := 416) at_397 (by decide) (by decide) (by decide) ?_
  refine own_lconst H (0 : Int64) (by decide) at_416 ?_
  refine own_lstore H #[.val (.long p1), .second, .val (.long p2), .second, .val (.long p3), .second, .val (.long p4), .second, .val (.long p5), .second, .val (.int p6), .val (.long st), .second, .val (.long (Int64.ofNat t)), .second, .val (.long lm), .second, .val (.int (0 : Int32)), .val (.long (Int64.ofNat A)), .second, .val (.long (Int64.ofNat U)), .second, .val (.int (0 : Int32)), .val (.long (0 : Int64)), .second, .val (.ref a2), .val (.ref a44), .val (.ref a108), .val (.int (1 : Int32)), .val (.long (9223372036854775807 : Int64)), .second, .val .null, .val (.int (0 : Int32)), .val (.long (0 : Int64)), .second, .val (.int (0 : Int32)), .val (.long (0 : Int64)), .second, .val (.long (0 : Int64)), .second, .unset, .unset] rfl at_417 ?_
  refine own_iload H rfl at_419 ?_
  refine own_ifeq_t H (pc' := 444) at_421 (by decide) (by decide) (by decide) ?_
  refine own_iload H rfl at_444 ?_
  refine own_ifeq_t H (pc' := 459) at_446 (by decide) (by decide) (by decide) ?_
  refine own_iload H rfl at_459 ?_
  refine own_ifeq_t H (pc' := 474) at_461 (by decide) (by decide) (by decide) ?_
  refine own_ldc2J H (w := 0) rfl at_474 ?_
  refine own_lstore H #[.val (.long p1), .second, .val (.long p2), .second, .val (.long p3), .second, .val (.long p4), .second, .val (.long p5), .second, .val (.int p6), .val (.long st), .second, .val (.long (Int64.ofNat t)), .second, .val (.long lm), .second, .val (.int (0 : Int32)), .val (.long (Int64.ofNat A)), .second, .val (.long (Int64.ofNat U)), .second, .val (.int (0 : Int32)), .val (.long (0 : Int64)), .second, .val (.ref a2), .val (.ref a44), .val (.ref a108), .val (.int (1 : Int32)), .val (.long (9223372036854775807 : Int64)), .second, .val .null, .val (.int (0 : Int32)), .val (.long (0 : Int64)), .second, .val (.int (0 : Int32)), .val (.long (0 : Int64)), .second, .val (.long (0 : Int64)), .second, .val (.long (9223372036854775807 : Int64)), .second] rfl at_477 ?_
  refine own_iload H rfl at_479 ?_
  refine own_ifeq_f H at_481 (by decide) ?_
  refine own_aload H rfl rfl at_484 ?_
  refine own_invokevirtual H (a := a2) (argsL := []) (rest := []) (rmNiM l Z a0 (own_hw H) h184 n0 a2 aO kO M own_o0 st (Int64.ofNat 0) u207 u212 u215 u226 u216 u217 hM (fun _ _ => rfl)) u207 (w1 := 65) (w0 := 66) (w5 := 68) (w2 := 67) (w3 := 10) (w4 := 69) rfl rfl rfl rfl rfl rfl own_pd7 rfl 0 (by decide) rfl (by decide) (Nat.le_of_eq rfl) (by decide) (by decide) (by decide) rfl at_486 ?_
  rintro _ _ ⟨rfl, rfl⟩
  show own_G _ _ _ _ _ _ _ _ 489 #[.val (.long p1), .second, .val (.long p2), .second, .val (.long p3), .second, .val (.long p4), .second, .val (.long p5), .second, .val (.int p6), .val (.long st), .second, .val (.long (Int64.ofNat t)), .second, .val (.long lm), .second, .val (.int (0 : Int32)), .val (.long (Int64.ofNat A)), .second, .val (.long (Int64.ofNat U)), .second, .val (.int (0 : Int32)), .val (.long (0 : Int64)), .second, .val (.ref a2), .val (.ref a44), .val (.ref a108), .val (.int (1 : Int32)), .val (.long (9223372036854775807 : Int64)), .second, .val .null, .val (.int (0 : Int32)), .val (.long (0 : Int64)), .second, .val (.int (0 : Int32)), .val (.long (0 : Int64)), .second, .val (.long (0 : Int64)), .second, .val (.long (9223372036854775807 : Int64)), .second] [(.long (9223372036854775807 : Int64))]
  refine own_lload H rfl at_489 ?_
  refine own_lcmpne_f H at_491 at_492 (by decide) ?_
  refine own_iconst H (1 : Int32) (by decide) at_495 ?_
  refine own_goto H (pc' := 500) at_496 (by decide) (by decide) ?_
  exact own_ireturn H (by simp) (by decide) at_500 (by decide) (by decide) rfl
set_option maxHeartbeats 16000000 in
theorem own_p2_01 {B : own_B} {l : Launch} {Z : State} {a0 : Array Value} (H : own_Ok B Z a0 l room_1 x code maxLocals ret) (D : own_Wd B) {h0 : Heap} {n0 : Nat} (hZ0 : n0 ≤ h0.size) (p1 p2 p3 p4 p5 : Int64) (p6 : Int32) (st lm : Int64) (t A U Bn M : Nat) (hLev : FLev (Int64.ofNat t) = Int32.ofNat M) (hMe : own_Gf (t - 1) + 1 = M) (hM : M ≤ 11) (ht : t < 2 ^ 63) (hA : A < t) (hU : U < t) (hB : Bn < t) (hUB : U < Bn) : own_G B n0 (fun v h' => v = some (.int 1)) 24 4992 0 0 h0 131 #[.val (.long p1), .second, .val (.long p2), .second, .val (.long p3), .second, .val (.long p4), .second, .val (.long p5), .second, .val (.int p6), .val (.long st), .second, .val (.long (Int64.ofNat t)), .second, .val (.long lm), .second, .val (.int (0 : Int32)), .val (.long (Int64.ofNat A)), .second, .val (.long (Int64.ofNat U)), .second, .val (.int (1 : Int32)), .val (.long (Int64.ofNat Bn)), .second, .unset, .unset, .unset, .unset, .unset, .unset, .unset, .unset, .unset, .unset, .unset, .unset, .unset, .unset, .unset, .unset, .unset] [] := by
  have hA' : A < 2 ^ 63 := by omega
  have hU' : U < 2 ^ 63 := by omega
  have hB' : Bn < 2 ^ 63 := by omega
  have hLA : own_Gf A < M := by
    have := own_GM (A := A) (C := 0) (m := t - 1) (by omega) (by omega)
    rw [Nat.xor_zero] at this
    omega
  refine own_new H (w := 8) (wi := 9) (wz := 10) rfl rfl rfl at_131 (by decide) (by decide) ?_
  intro h1 a2 ha3 E4 X5 D6
  have f7 : n0 ≤ a2 := by rw [ha3]; exact hZ0
  have f8 : n0 ≤ h1.size := Nat.le_trans hZ0 E4.1
  have f9 : Fld Z h1 a2 "com/example/ring_to_run/ringtorun/TickQueue" "tickMillis" "J" (.long (0 : Int64)) := D6 (Or.inr (own_w H (i := 18) rfl)) (ty := .long) (by decide)
  have f10 : Fld Z h1 a2 "com/example/ring_to_run/ringtorun/TickQueue" "levels" "I" (.int (0 : Int32)) := D6 (Or.inr (own_w H (i := 31) rfl)) (ty := .int) (by decide)
  have f11 : Fld Z h1 a2 "com/example/ring_to_run/ringtorun/TickQueue" "heads" "[Lcom/example/ring_to_run/ringtorun/Task;" .null := D6 (Or.inr (own_w H (i := 35) rfl)) (ty := (.array (.object "com/example/ring_to_run/ringtorun/Task"))) (by decide)
  have f12 : Fld Z h1 a2 "com/example/ring_to_run/ringtorun/TickQueue" "tails" "[Lcom/example/ring_to_run/ringtorun/Task;" .null := D6 (Or.inr (own_w H (i := 37) rfl)) (ty := (.array (.object "com/example/ring_to_run/ringtorun/Task"))) (by decide)
  have f13 : Fld Z h1 a2 "com/example/ring_to_run/ringtorun/TickQueue" "occupied" "[J" .null := D6 (Or.inr (own_w H (i := 40) rfl)) (ty := (.array .long)) (by decide)
  have f14 : Fld Z h1 a2 "com/example/ring_to_run/ringtorun/TickQueue" "start" "J" (.long (0 : Int64)) := D6 (Or.inl (own_w H (i := 42) rfl)) (ty := .long) (by decide)
  have f15 : Fld Z h1 a2 "com/example/ring_to_run/ringtorun/TickQueue" "cursor" "J" (.long (0 : Int64)) := D6 (Or.inl (own_w H (i := 96) rfl)) (ty := .long) (by decide)
  show own_G _ _ _ _ _ _ _ _ 134 #[.val (.long p1), .second, .val (.long p2), .second, .val (.long p3), .second, .val (.long p4), .second, .val (.long p5), .second, .val (.int p6), .val (.long st), .second, .val (.long (Int64.ofNat t)), .second, .val (.long lm), .second, .val (.int (0 : Int32)), .val (.long (Int64.ofNat A)), .second, .val (.long (Int64.ofNat U)), .second, .val (.int (1 : Int32)), .val (.long (Int64.ofNat Bn)), .second, .unset, .unset, .unset, .unset, .unset, .unset, .unset, .unset, .unset, .unset, .unset, .unset, .unset, .unset, .unset, .unset, .unset] [(.ref a2)]
  refine own_dup H rfl at_134 ?_
  refine own_lload H rfl at_135 ?_
  refine own_lload H rfl at_137 ?_
  refine own_invokespecial H (a := a2) (argsL := [(.long (Int64.ofNat t)), (.long st)]) (rest := [(.ref a2)]) (rmCQ l Z a0 (own_hw H) h1 n0 a2 (Int64.ofNat t) st M f8 X5 f9 f10 f11 f12 f13 f14 f15 hLev hM f7) rfl (w1 := 11) (w2 := 12) (w3 := 10) (w4 := 13) rfl rfl rfl rfl own_pd13 rfl 1 (by decide) rfl (by decide) (Nat.le_of_eq rfl) (by decide) (by decide) (by decide) rfl at_139 ?_
  rintro _ h16 ⟨rfl, K17, aH, aT, aO, kH, kT, kO, ⟨z18, z19, z20, z21, z22, z23⟩, ⟨n24, n25, n26⟩, ⟨f27, f28, f29, f30, f31, f32⟩, ⟨V33, V34, V35⟩, o36, o37⟩
  have f38 : a2 ≠ aH := Nat.ne_of_lt (Nat.lt_of_lt_of_le X5.lt z21)
  have f39 : a2 ≠ aT := Nat.ne_of_lt (Nat.lt_of_lt_of_le X5.lt z22)
  have f40 : a2 ≠ aO := Nat.ne_of_lt (Nat.lt_of_lt_of_le X5.lt z23)
  have f41 : n0 ≤ h16.size := Nat.le_trans f8 K17.1
  have f42 : Exa Z h16 a2 "com/example/ring_to_run/ringtorun/TickQueue" := X5.keep K17
  show own_G _ _ _ _ _ _ _ _ 142 #[.val (.long p1), .second, .val (.long p2), .second, .val (.long p3), .second, .val (.long p4), .second, .val (.long p5), .second, .val (.int p6), .val (.long st), .second, .val (.long (Int64.ofNat t)), .second, .val (.long lm), .second, .val (.int (0 : Int32)), .val (.long (Int64.ofNat A)), .second, .val (.long (Int64.ofNat U)), .second, .val (.int (1 : Int32)), .val (.long (Int64.ofNat Bn)), .second, .unset, .unset, .unset, .unset, .unset, .unset, .unset, .unset, .unset, .unset, .unset, .unset, .unset, .unset, .unset, .unset, .unset] [(.ref a2)]
  refine own_astore H rfl #[.val (.long p1), .second, .val (.long p2), .second, .val (.long p3), .second, .val (.long p4), .second, .val (.long p5), .second, .val (.int p6), .val (.long st), .second, .val (.long (Int64.ofNat t)), .second, .val (.long lm), .second, .val (.int (0 : Int32)), .val (.long (Int64.ofNat A)), .second, .val (.long (Int64.ofNat U)), .second, .val (.int (1 : Int32)), .val (.long (Int64.ofNat Bn)), .second, .val (.ref a2), .unset, .unset, .unset, .unset, .unset, .unset, .unset, .unset, .unset, .unset, .unset, .unset, .unset, .unset, .unset, .unset] rfl at_142 ?_
  refine own_new H (w := 43) (wi := 44) (wz := 45) rfl rfl rfl at_144 (by decide) (by decide) ?_
  intro h43 a44 ha45 E46 X47 D48
  have f49 : a2 ≠ a44 := Nat.ne_of_lt (by rw [ha45]; exact f42.lt)
  have f50 : aH ≠ a44 := Nat.ne_of_lt (by rw [ha45]; exact V33.lt)
  have f51 : aO ≠ a44 := Nat.ne_of_lt (by rw [ha45]; exact V35.lt)
  have f52 : aT ≠ a44 := Nat.ne_of_lt (by rw [ha45]; exact V34.lt)
  have f53 : n0 ≤ a44 := by rw [ha45]; exact f41
  have f54 : n0 ≤ h43.size := Nat.le_trans f41 E46.1
  have f55 : Exa Z h43 a2 "com/example/ring_to_run/ringtorun/TickQueue" := f42.ext E46
  have f56 : Fld Z h43 a2 "com/example/ring_to_run/ringtorun/TickQueue" "levels" "I" (.int (Int32.ofNat M)) := f27.ext E46
  have f57 : Fld Z h43 a2 "com/example/ring_to_run/ringtorun/TickQueue" "heads" "[Lcom/example/ring_to_run/ringtorun/Task;" (.ref aH) := f28.ext E46
  have f58 : Fld Z h43 a2 "com/example/ring_to_run/ringtorun/TickQueue" "tails" "[Lcom/example/ring_to_run/ringtorun/Task;" (.ref aT) := f29.ext E46
  have f59 : Fld Z h43 a2 "com/example/ring_to_run/ringtorun/TickQueue" "occupied" "[J" (.ref aO) := f30.ext E46
  have f60 : Fld Z h43 a2 "com/example/ring_to_run/ringtorun/TickQueue" "start" "J" (.long st) := f31.ext E46
  have f61 : Fld Z h43 a2 "com/example/ring_to_run/ringtorun/TickQueue" "cursor" "J" (.long (Int64.ofNat 0)) := f32.ext E46
  have f62 : own_Af Z h43 aH kH (.object "com/example/ring_to_run/ringtorun/Task") (Int32.ofNat (64 * M)) .null own_h0 := V33.ext E46
  have f63 : own_Af Z h43 aT kT (.object "com/example/ring_to_run/ringtorun/Task") (Int32.ofNat (64 * M)) .null own_h0 := V34.ext E46
  have f64 : own_Af Z h43 aO kO .long (Int32.ofNat M) (.long 0) own_o0 := V35.ext E46
  have f65 : Fld Z h43 a44 "com/example/ring_to_run/ringtorun/Task" "id" "Ljava/lang/String;" .null := D48 (Or.inr (own_w H (i := 59) rfl)) (ty := (.object "java/lang/String")) (by decide)
  have f66 : Fld Z h43 a44 "com/example/ring_to_run/ringtorun/Task" "payload" "[B" .null := D48 (Or.inr (own_w H (i := 61) rfl)) (ty := (.array .byte)) (by decide)
  have f67 : Fld Z h43 a44 "com/example/ring_to_run/ringtorun/Task" "dueInstant" "J" (.long (0 : Int64)) := D48 (Or.inr (own_w H (i := 63) rfl)) (ty := .long) (by decide)
  have f68 : Fld Z h43 a44 "com/example/ring_to_run/ringtorun/Task" "previous" "Lcom/example/ring_to_run/ringtorun/Task;" .null := D48 (Or.inl (own_w H (i := 103) rfl)) (ty := (.object "com/example/ring_to_run/ringtorun/Task")) (by decide)
  have f69 : Fld Z h43 a44 "com/example/ring_to_run/ringtorun/Task" "next" "Lcom/example/ring_to_run/ringtorun/Task;" .null := D48 (Or.inl (own_w H (i := 105) rfl)) (ty := (.object "com/example/ring_to_run/ringtorun/Task")) (by decide)
  show own_G _ _ _ _ _ _ _ _ 147 #[.val (.long p1), .second, .val (.long p2), .second, .val (.long p3), .second, .val (.long p4), .second, .val (.long p5), .second, .val (.int p6), .val (.long st), .second, .val (.long (Int64.ofNat t)), .second, .val (.long lm), .second, .val (.int (0 : Int32)), .val (.long (Int64.ofNat A)), .second, .val (.long (Int64.ofNat U)), .second, .val (.int (1 : Int32)), .val (.long (Int64.ofNat Bn)), .second, .val (.ref a2), .unset, .unset, .unset, .unset, .unset, .unset, .unset, .unset, .unset, .unset, .unset, .unset, .unset, .unset, .unset, .unset] [(.ref a44)]
  refine own_dup H rfl at_147 ?_
  refine own_ldcS H D (w := 46) rfl (own_atoms H (f := fun i => [47, 48, 49, 50, 51, 52, 53].getD i.val 0) rfl rfl rfl rfl rfl rfl rfl) 4 (by decide) (by decide) at_148 (by decide) (by decide) ?_
  intro B a71 h70 H D E72
  have f73 : n0 ≤ h70.size := Nat.le_trans f54 E72.1
  have f74 : Exa Z h70 a2 "com/example/ring_to_run/ringtorun/TickQueue" := f55.ext E72
  have f75 : Fld Z h70 a2 "com/example/ring_to_run/ringtorun/TickQueue" "levels" "I" (.int (Int32.ofNat M)) := f56.ext E72
  have f76 : Fld Z h70 a2 "com/example/ring_to_run/ringtorun/TickQueue" "heads" "[Lcom/example/ring_to_run/ringtorun/Task;" (.ref aH) := f57.ext E72
  have f77 : Fld Z h70 a2 "com/example/ring_to_run/ringtorun/TickQueue" "tails" "[Lcom/example/ring_to_run/ringtorun/Task;" (.ref aT) := f58.ext E72
  have f78 : Fld Z h70 a2 "com/example/ring_to_run/ringtorun/TickQueue" "occupied" "[J" (.ref aO) := f59.ext E72
  have f79 : Fld Z h70 a2 "com/example/ring_to_run/ringtorun/TickQueue" "start" "J" (.long st) := f60.ext E72
  have f80 : Fld Z h70 a2 "com/example/ring_to_run/ringtorun/TickQueue" "cursor" "J" (.long (Int64.ofNat 0)) := f61.ext E72
  have f81 : own_Af Z h70 aH kH (.object "com/example/ring_to_run/ringtorun/Task") (Int32.ofNat (64 * M)) .null own_h0 := f62.ext E72
  have f82 : own_Af Z h70 aT kT (.object "com/example/ring_to_run/ringtorun/Task") (Int32.ofNat (64 * M)) .null own_h0 := f63.ext E72
  have f83 : own_Af Z h70 aO kO .long (Int32.ofNat M) (.long 0) own_o0 := f64.ext E72
  have f84 : Exa Z h70 a44 "com/example/ring_to_run/ringtorun/Task" := X47.ext E72
  have f85 : Fld Z h70 a44 "com/example/ring_to_run/ringtorun/Task" "id" "Ljava/lang/String;" .null := f65.ext E72
  have f86 : Fld Z h70 a44 "com/example/ring_to_run/ringtorun/Task" "payload" "[B" .null := f66.ext E72
  have f87 : Fld Z h70 a44 "com/example/ring_to_run/ringtorun/Task" "dueInstant" "J" (.long (0 : Int64)) := f67.ext E72
  have f88 : Fld Z h70 a44 "com/example/ring_to_run/ringtorun/Task" "previous" "Lcom/example/ring_to_run/ringtorun/Task;" .null := f68.ext E72
  have f89 : Fld Z h70 a44 "com/example/ring_to_run/ringtorun/Task" "next" "Lcom/example/ring_to_run/ringtorun/Task;" .null := f69.ext E72
  show own_G _ _ _ _ _ _ _ _ 150 #[.val (.long p1), .second, .val (.long p2), .second, .val (.long p3), .second, .val (.long p4), .second, .val (.long p5), .second, .val (.int p6), .val (.long st), .second, .val (.long (Int64.ofNat t)), .second, .val (.long lm), .second, .val (.int (0 : Int32)), .val (.long (Int64.ofNat A)), .second, .val (.long (Int64.ofNat U)), .second, .val (.int (1 : Int32)), .val (.long (Int64.ofNat Bn)), .second, .val (.ref a2), .unset, .unset, .unset, .unset, .unset, .unset, .unset, .unset, .unset, .unset, .unset, .unset, .unset, .unset, .unset, .unset] [(.ref a71), (.ref a44), (.ref a44)]
  refine own_aconst_null H at_150 ?_
  refine own_lload H rfl at_151 ?_
  refine own_lload H rfl at_153 ?_
  refine own_ladd H rfl at_155 ?_
  refine own_invokespecial H (a := a44) (argsL := [(.ref a71), .null, (.long (st + (Int64.ofNat A)))]) (rest := [(.ref a44)]) (rmCT l Z a0 (own_hw H) h70 n0 a44 a71 (st + (Int64.ofNat A)) f73 f84 f85 f86 f87 f88 f89 f53) rfl (w1 := 54) (w2 := 55) (w3 := 45) (w4 := 56) rfl rfl rfl rfl own_pd14 rfl 1 (by decide) rfl (by decide) (Nat.le_of_eq rfl) (by decide) (by decide) (by decide) rfl at_156 ?_
  rintro _ h90 ⟨rfl, K91, f92, f93, f94⟩
  have f95 : n0 ≤ h90.size := Nat.le_trans f73 K91.1
  have f96 : Exa Z h90 a2 "com/example/ring_to_run/ringtorun/TickQueue" := f74.keep K91
  have f97 : Fld Z h90 a2 "com/example/ring_to_run/ringtorun/TickQueue" "levels" "I" (.int (Int32.ofNat M)) := f75.keep K91 (ninS f49 nin0)
  have f98 : Fld Z h90 a2 "com/example/ring_to_run/ringtorun/TickQueue" "heads" "[Lcom/example/ring_to_run/ringtorun/Task;" (.ref aH) := f76.keep K91 (ninS f49 nin0)
  have f99 : Fld Z h90 a2 "com/example/ring_to_run/ringtorun/TickQueue" "tails" "[Lcom/example/ring_to_run/ringtorun/Task;" (.ref aT) := f77.keep K91 (ninS f49 nin0)
  have f100 : Fld Z h90 a2 "com/example/ring_to_run/ringtorun/TickQueue" "occupied" "[J" (.ref aO) := f78.keep K91 (ninS f49 nin0)
  have f101 : Fld Z h90 a2 "com/example/ring_to_run/ringtorun/TickQueue" "start" "J" (.long st) := f79.keep K91 (ninS f49 nin0)
  have f102 : Fld Z h90 a2 "com/example/ring_to_run/ringtorun/TickQueue" "cursor" "J" (.long (Int64.ofNat 0)) := f80.keep K91 (ninS f49 nin0)
  have f103 : own_Af Z h90 aH kH (.object "com/example/ring_to_run/ringtorun/Task") (Int32.ofNat (64 * M)) .null own_h0 := f81.keep K91 (ninS f50 nin0)
  have f104 : own_Af Z h90 aT kT (.object "com/example/ring_to_run/ringtorun/Task") (Int32.ofNat (64 * M)) .null own_h0 := f82.keep K91 (ninS f52 nin0)
  have f105 : own_Af Z h90 aO kO .long (Int32.ofNat M) (.long 0) own_o0 := f83.keep K91 (ninS f51 nin0)
  have f106 : Exa Z h90 a44 "com/example/ring_to_run/ringtorun/Task" := f84.keep K91
  show own_G _ _ _ _ _ _ _ _ 159 #[.val (.long p1), .second, .val (.long p2), .second, .val (.long p3), .second, .val (.long p4), .second, .val (.long p5), .second, .val (.int p6), .val (.long st), .second, .val (.long (Int64.ofNat t)), .second, .val (.long lm), .second, .val (.int (0 : Int32)), .val (.long (Int64.ofNat A)), .second, .val (.long (Int64.ofNat U)), .second, .val (.int (1 : Int32)), .val (.long (Int64.ofNat Bn)), .second, .val (.ref a2), .unset, .unset, .unset, .unset, .unset, .unset, .unset, .unset, .unset, .unset, .unset, .unset, .unset, .unset, .unset, .unset] [(.ref a44)]
  refine own_astore H rfl #[.val (.long p1), .second, .val (.long p2), .second, .val (.long p3), .second, .val (.long p4), .second, .val (.long p5), .second, .val (.int p6), .val (.long st), .second, .val (.long (Int64.ofNat t)), .second, .val (.long lm), .second, .val (.int (0 : Int32)), .val (.long (Int64.ofNat A)), .second, .val (.long (Int64.ofNat U)), .second, .val (.int (1 : Int32)), .val (.long (Int64.ofNat Bn)), .second, .val (.ref a2), .val (.ref a44), .unset, .unset, .unset, .unset, .unset, .unset, .unset, .unset, .unset, .unset, .unset, .unset, .unset, .unset, .unset] rfl at_159 ?_
  refine own_new H (w := 43) (wi := 44) (wz := 45) rfl rfl rfl at_161 (by decide) (by decide) ?_
  intro h107 a108 ha109 E110 X111 D112
  have f113 : a2 ≠ a108 := Nat.ne_of_lt (by rw [ha109]; exact f96.lt)
  have f114 : a44 ≠ a108 := Nat.ne_of_lt (by rw [ha109]; exact f106.lt)
  have f115 : aH ≠ a108 := Nat.ne_of_lt (by rw [ha109]; exact f103.lt)
  have f116 : aO ≠ a108 := Nat.ne_of_lt (by rw [ha109]; exact f105.lt)
  have f117 : aT ≠ a108 := Nat.ne_of_lt (by rw [ha109]; exact f104.lt)
  have f118 : n0 ≤ a108 := by rw [ha109]; exact f95
  have f119 : n0 ≤ h107.size := Nat.le_trans f95 E110.1
  have f120 : Exa Z h107 a2 "com/example/ring_to_run/ringtorun/TickQueue" := f96.ext E110
  have f121 : Fld Z h107 a2 "com/example/ring_to_run/ringtorun/TickQueue" "levels" "I" (.int (Int32.ofNat M)) := f97.ext E110
  have f122 : Fld Z h107 a2 "com/example/ring_to_run/ringtorun/TickQueue" "heads" "[Lcom/example/ring_to_run/ringtorun/Task;" (.ref aH) := f98.ext E110
  have f123 : Fld Z h107 a2 "com/example/ring_to_run/ringtorun/TickQueue" "tails" "[Lcom/example/ring_to_run/ringtorun/Task;" (.ref aT) := f99.ext E110
  have f124 : Fld Z h107 a2 "com/example/ring_to_run/ringtorun/TickQueue" "occupied" "[J" (.ref aO) := f100.ext E110
  have f125 : Fld Z h107 a2 "com/example/ring_to_run/ringtorun/TickQueue" "start" "J" (.long st) := f101.ext E110
  have f126 : Fld Z h107 a2 "com/example/ring_to_run/ringtorun/TickQueue" "cursor" "J" (.long (Int64.ofNat 0)) := f102.ext E110
  have f127 : own_Af Z h107 aH kH (.object "com/example/ring_to_run/ringtorun/Task") (Int32.ofNat (64 * M)) .null own_h0 := f103.ext E110
  have f128 : own_Af Z h107 aT kT (.object "com/example/ring_to_run/ringtorun/Task") (Int32.ofNat (64 * M)) .null own_h0 := f104.ext E110
  have f129 : own_Af Z h107 aO kO .long (Int32.ofNat M) (.long 0) own_o0 := f105.ext E110
  have f130 : Exa Z h107 a44 "com/example/ring_to_run/ringtorun/Task" := f106.ext E110
  have f131 : Fld Z h107 a44 "com/example/ring_to_run/ringtorun/Task" "dueInstant" "J" (.long (st + (Int64.ofNat A))) := f92.ext E110
  have f132 : Fld Z h107 a44 "com/example/ring_to_run/ringtorun/Task" "previous" "Lcom/example/ring_to_run/ringtorun/Task;" .null := f93.ext E110
  have f133 : Fld Z h107 a44 "com/example/ring_to_run/ringtorun/Task" "next" "Lcom/example/ring_to_run/ringtorun/Task;" .null := f94.ext E110
  have f134 : Fld Z h107 a108 "com/example/ring_to_run/ringtorun/Task" "id" "Ljava/lang/String;" .null := D112 (Or.inr (own_w H (i := 59) rfl)) (ty := (.object "java/lang/String")) (by decide)
  have f135 : Fld Z h107 a108 "com/example/ring_to_run/ringtorun/Task" "payload" "[B" .null := D112 (Or.inr (own_w H (i := 61) rfl)) (ty := (.array .byte)) (by decide)
  have f136 : Fld Z h107 a108 "com/example/ring_to_run/ringtorun/Task" "dueInstant" "J" (.long (0 : Int64)) := D112 (Or.inr (own_w H (i := 63) rfl)) (ty := .long) (by decide)
  have f137 : Fld Z h107 a108 "com/example/ring_to_run/ringtorun/Task" "previous" "Lcom/example/ring_to_run/ringtorun/Task;" .null := D112 (Or.inl (own_w H (i := 103) rfl)) (ty := (.object "com/example/ring_to_run/ringtorun/Task")) (by decide)
  have f138 : Fld Z h107 a108 "com/example/ring_to_run/ringtorun/Task" "next" "Lcom/example/ring_to_run/ringtorun/Task;" .null := D112 (Or.inl (own_w H (i := 105) rfl)) (ty := (.object "com/example/ring_to_run/ringtorun/Task")) (by decide)
  show own_G _ _ _ _ _ _ _ _ 164 #[.val (.long p1), .second, .val (.long p2), .second, .val (.long p3), .second, .val (.long p4), .second, .val (.long p5), .second, .val (.int p6), .val (.long st), .second, .val (.long (Int64.ofNat t)), .second, .val (.long lm), .second, .val (.int (0 : Int32)), .val (.long (Int64.ofNat A)), .second, .val (.long (Int64.ofNat U)), .second, .val (.int (1 : Int32)), .val (.long (Int64.ofNat Bn)), .second, .val (.ref a2), .val (.ref a44), .unset, .unset, .unset, .unset, .unset, .unset, .unset, .unset, .unset, .unset, .unset, .unset, .unset, .unset, .unset] [(.ref a108)]
  refine own_dup H rfl at_164 ?_
  refine own_ldcS H D (w := 64) rfl (own_atoms H (f := fun i => [47, 48, 49, 50, 51, 52, 53].getD i.val 0) rfl rfl rfl rfl rfl rfl rfl) 4 (by decide) (by decide) at_165 (by decide) (by decide) ?_
  intro B a140 h139 H D E141
  have f142 : n0 ≤ h139.size := Nat.le_trans f119 E141.1
  have f143 : Exa Z h139 a2 "com/example/ring_to_run/ringtorun/TickQueue" := f120.ext E141
  have f144 : Fld Z h139 a2 "com/example/ring_to_run/ringtorun/TickQueue" "levels" "I" (.int (Int32.ofNat M)) := f121.ext E141
  have f145 : Fld Z h139 a2 "com/example/ring_to_run/ringtorun/TickQueue" "heads" "[Lcom/example/ring_to_run/ringtorun/Task;" (.ref aH) := f122.ext E141
  have f146 : Fld Z h139 a2 "com/example/ring_to_run/ringtorun/TickQueue" "tails" "[Lcom/example/ring_to_run/ringtorun/Task;" (.ref aT) := f123.ext E141
  have f147 : Fld Z h139 a2 "com/example/ring_to_run/ringtorun/TickQueue" "occupied" "[J" (.ref aO) := f124.ext E141
  have f148 : Fld Z h139 a2 "com/example/ring_to_run/ringtorun/TickQueue" "start" "J" (.long st) := f125.ext E141
  have f149 : Fld Z h139 a2 "com/example/ring_to_run/ringtorun/TickQueue" "cursor" "J" (.long (Int64.ofNat 0)) := f126.ext E141
  have f150 : own_Af Z h139 aH kH (.object "com/example/ring_to_run/ringtorun/Task") (Int32.ofNat (64 * M)) .null own_h0 := f127.ext E141
  have f151 : own_Af Z h139 aT kT (.object "com/example/ring_to_run/ringtorun/Task") (Int32.ofNat (64 * M)) .null own_h0 := f128.ext E141
  have f152 : own_Af Z h139 aO kO .long (Int32.ofNat M) (.long 0) own_o0 := f129.ext E141
  have f153 : Exa Z h139 a44 "com/example/ring_to_run/ringtorun/Task" := f130.ext E141
  have f154 : Fld Z h139 a44 "com/example/ring_to_run/ringtorun/Task" "dueInstant" "J" (.long (st + (Int64.ofNat A))) := f131.ext E141
  have f155 : Fld Z h139 a44 "com/example/ring_to_run/ringtorun/Task" "previous" "Lcom/example/ring_to_run/ringtorun/Task;" .null := f132.ext E141
  have f156 : Fld Z h139 a44 "com/example/ring_to_run/ringtorun/Task" "next" "Lcom/example/ring_to_run/ringtorun/Task;" .null := f133.ext E141
  have f157 : Exa Z h139 a108 "com/example/ring_to_run/ringtorun/Task" := X111.ext E141
  have f158 : Fld Z h139 a108 "com/example/ring_to_run/ringtorun/Task" "id" "Ljava/lang/String;" .null := f134.ext E141
  have f159 : Fld Z h139 a108 "com/example/ring_to_run/ringtorun/Task" "payload" "[B" .null := f135.ext E141
  have f160 : Fld Z h139 a108 "com/example/ring_to_run/ringtorun/Task" "dueInstant" "J" (.long (0 : Int64)) := f136.ext E141
  have f161 : Fld Z h139 a108 "com/example/ring_to_run/ringtorun/Task" "previous" "Lcom/example/ring_to_run/ringtorun/Task;" .null := f137.ext E141
  have f162 : Fld Z h139 a108 "com/example/ring_to_run/ringtorun/Task" "next" "Lcom/example/ring_to_run/ringtorun/Task;" .null := f138.ext E141
  show own_G _ _ _ _ _ _ _ _ 167 #[.val (.long p1), .second, .val (.long p2), .second, .val (.long p3), .second, .val (.long p4), .second, .val (.long p5), .second, .val (.int p6), .val (.long st), .second, .val (.long (Int64.ofNat t)), .second, .val (.long lm), .second, .val (.int (0 : Int32)), .val (.long (Int64.ofNat A)), .second, .val (.long (Int64.ofNat U)), .second, .val (.int (1 : Int32)), .val (.long (Int64.ofNat Bn)), .second, .val (.ref a2), .val (.ref a44), .unset, .unset, .unset, .unset, .unset, .unset, .unset, .unset, .unset, .unset, .unset, .unset, .unset, .unset, .unset] [(.ref a140), (.ref a108), (.ref a108)]
  refine own_aconst_null H at_167 ?_
  refine own_lload H rfl at_168 ?_
  refine own_lload H rfl at_170 ?_
  refine own_ladd H rfl at_172 ?_
  refine own_invokespecial H (a := a108) (argsL := [(.ref a140), .null, (.long (st + (Int64.ofNat Bn)))]) (rest := [(.ref a108)]) (rmCT l Z a0 (own_hw H) h139 n0 a108 a140 (st + (Int64.ofNat Bn)) f142 f157 f158 f159 f160 f161 f162 f118) rfl (w1 := 54) (w2 := 55) (w3 := 45) (w4 := 56) rfl rfl rfl rfl own_pd14 rfl 1 (by decide) rfl (by decide) (Nat.le_of_eq rfl) (by decide) (by decide) (by decide) rfl at_173 ?_
  rintro _ h163 ⟨rfl, K164, f165, f166, f167⟩
  have f168 : n0 ≤ h163.size := Nat.le_trans f142 K164.1
  have f169 : Exa Z h163 a2 "com/example/ring_to_run/ringtorun/TickQueue" := f143.keep K164
  have f170 : Fld Z h163 a2 "com/example/ring_to_run/ringtorun/TickQueue" "levels" "I" (.int (Int32.ofNat M)) := f144.keep K164 (ninS f113 nin0)
  have f171 : Fld Z h163 a2 "com/example/ring_to_run/ringtorun/TickQueue" "heads" "[Lcom/example/ring_to_run/ringtorun/Task;" (.ref aH) := f145.keep K164 (ninS f113 nin0)
  have f172 : Fld Z h163 a2 "com/example/ring_to_run/ringtorun/TickQueue" "tails" "[Lcom/example/ring_to_run/ringtorun/Task;" (.ref aT) := f146.keep K164 (ninS f113 nin0)
  have f173 : Fld Z h163 a2 "com/example/ring_to_run/ringtorun/TickQueue" "occupied" "[J" (.ref aO) := f147.keep K164 (ninS f113 nin0)
  have f174 : Fld Z h163 a2 "com/example/ring_to_run/ringtorun/TickQueue" "start" "J" (.long st) := f148.keep K164 (ninS f113 nin0)
  have f175 : Fld Z h163 a2 "com/example/ring_to_run/ringtorun/TickQueue" "cursor" "J" (.long (Int64.ofNat 0)) := f149.keep K164 (ninS f113 nin0)
  have f176 : own_Af Z h163 aH kH (.object "com/example/ring_to_run/ringtorun/Task") (Int32.ofNat (64 * M)) .null own_h0 := f150.keep K164 (ninS f115 nin0)
  have f177 : own_Af Z h163 aT kT (.object "com/example/ring_to_run/ringtorun/Task") (Int32.ofNat (64 * M)) .null own_h0 := f151.keep K164 (ninS f117 nin0)
  have f178 : own_Af Z h163 aO kO .long (Int32.ofNat M) (.long 0) own_o0 := f152.keep K164 (ninS f116 nin0)
  have f179 : Exa Z h163 a44 "com/example/ring_to_run/ringtorun/Task" := f153.keep K164
  have f180 : Fld Z h163 a44 "com/example/ring_to_run/ringtorun/Task" "dueInstant" "J" (.long (st + (Int64.ofNat A))) := f154.keep K164 (ninS f114 nin0)
  have f181 : Fld Z h163 a44 "com/example/ring_to_run/ringtorun/Task" "previous" "Lcom/example/ring_to_run/ringtorun/Task;" .null := f155.keep K164 (ninS f114 nin0)
  have f182 : Fld Z h163 a44 "com/example/ring_to_run/ringtorun/Task" "next" "Lcom/example/ring_to_run/ringtorun/Task;" .null := f156.keep K164 (ninS f114 nin0)
  have f183 : Exa Z h163 a108 "com/example/ring_to_run/ringtorun/Task" := f157.keep K164
  show own_G _ _ _ _ _ _ _ _ 176 #[.val (.long p1), .second, .val (.long p2), .second, .val (.long p3), .second, .val (.long p4), .second, .val (.long p5), .second, .val (.int p6), .val (.long st), .second, .val (.long (Int64.ofNat t)), .second, .val (.long lm), .second, .val (.int (0 : Int32)), .val (.long (Int64.ofNat A)), .second, .val (.long (Int64.ofNat U)), .second, .val (.int (1 : Int32)), .val (.long (Int64.ofNat Bn)), .second, .val (.ref a2), .val (.ref a44), .unset, .unset, .unset, .unset, .unset, .unset, .unset, .unset, .unset, .unset, .unset, .unset, .unset, .unset, .unset] [(.ref a108)]
  refine own_astore H rfl #[.val (.long p1), .second, .val (.long p2), .second, .val (.long p3), .second, .val (.long p4), .second, .val (.long p5), .second, .val (.int p6), .val (.long st), .second, .val (.long (Int64.ofNat t)), .second, .val (.long lm), .second, .val (.int (0 : Int32)), .val (.long (Int64.ofNat A)), .second, .val (.long (Int64.ofNat U)), .second, .val (.int (1 : Int32)), .val (.long (Int64.ofNat Bn)), .second, .val (.ref a2), .val (.ref a44), .val (.ref a108), .unset, .unset, .unset, .unset, .unset, .unset, .unset, .unset, .unset, .unset, .unset, .unset, .unset, .unset] rfl at_176 ?_
  refine own_iconst H (1 : Int32) (by decide) at_178 ?_
  refine own_istore H #[.val (.long p1), .second, .val (.long p2), .second, .val (.long p3), .second, .val (.long p4), .second, .val (.long p5), .second, .val (.int p6), .val (.long st), .second, .val (.long (Int64.ofNat t)), .second, .val (.long lm), .second, .val (.int (0 : Int32)), .val (.long (Int64.ofNat A)), .second, .val (.long (Int64.ofNat U)), .second, .val (.int (1 : Int32)), .val (.long (Int64.ofNat Bn)), .second, .val (.ref a2), .val (.ref a44), .val (.ref a108), .val (.int (1 : Int32)), .unset, .unset, .unset, .unset, .unset, .unset, .unset, .unset, .unset, .unset, .unset, .unset, .unset] rfl at_179 ?_
  refine own_iload H rfl at_181 ?_
  refine own_ifeq_t H (pc' := 193) at_183 (by decide) (by decide) (by decide) ?_
  refine own_aload H rfl rfl at_193 ?_
  refine own_invokevirtual H (a := a2) (argsL := []) (rest := []) (rmNiM l Z a0 (own_hw H) h163 n0 a2 aO kO M own_o0 st (Int64.ofNat 0) f169 f170 f173 f178 f174 f175 hM (fun _ _ => rfl)) f169 (w1 := 65) (w0 := 66) (w5 := 68) (w2 := 67) (w3 := 10) (w4 := 69) rfl rfl rfl rfl rfl rfl own_pd7 rfl 0 (by decide) rfl (by decide) (Nat.le_of_eq rfl) (by decide) (by decide) (by decide) rfl at_195 ?_
  rintro _ _ ⟨rfl, rfl⟩
  show own_G _ _ _ _ _ _ _ _ 198 #[.val (.long p1), .second, .val (.long p2), .second, .val (.long p3), .second, .val (.long p4), .second, .val (.long p5), .second, .val (.int p6), .val (.long st), .second, .val (.long (Int64.ofNat t)), .second, .val (.long lm), .second, .val (.int (0 : Int32)), .val (.long (Int64.ofNat A)), .second, .val (.long (Int64.ofNat U)), .second, .val (.int (1 : Int32)), .val (.long (Int64.ofNat Bn)), .second, .val (.ref a2), .val (.ref a44), .val (.ref a108), .val (.int (1 : Int32)), .unset, .unset, .unset, .unset, .unset, .unset, .unset, .unset, .unset, .unset, .unset, .unset, .unset] [(.long (9223372036854775807 : Int64))]
  refine own_lstore H #[.val (.long p1), .second, .val (.long p2), .second, .val (.long p3), .second, .val (.long p4), .second, .val (.long p5), .second, .val (.int p6), .val (.long st), .second, .val (.long (Int64.ofNat t)), .second, .val (.long lm), .second, .val (.int (0 : Int32)), .val (.long (Int64.ofNat A)), .second, .val (.long (Int64.ofNat U)), .second, .val (.int (1 : Int32)), .val (.long (Int64.ofNat Bn)), .second, .val (.ref a2), .val (.ref a44), .val (.ref a108), .val (.int (1 : Int32)), .val (.long (9223372036854775807 : Int64)), .second, .unset, .unset, .unset, .unset, .unset, .unset, .unset, .unset, .unset, .unset, .unset] rfl at_198 ?_
  refine own_iload H rfl at_200 ?_
  refine own_ifeq_f H at_202 (by decide) ?_
  refine own_lload H rfl at_205 ?_
  refine own_iload H rfl at_207 ?_
  refine own_ifeq_t H (pc' := 228) at_209 (by decide) (by decide) (by decide) ?_
  refine own_ldc2J H (w := 0) rfl at_228 ?_
  refine own_lcmpne_f H at_231 at_232 (by decide) ?_
  refine own_iconst H (1 : Int32) (by decide) at_235 ?_
  refine own_goto H (pc' := 240) at_236 (by decide) (by decide) ?_
  refine own_istore H #[.val (.long p1), .second, .val (.long p2), .second, .val (.long p3), .second, .val (.long p4), .second, .val (.long p5), .second, .val (.int p6), .val (.long st), .second, .val (.long (Int64.ofNat t)), .second, .val (.long lm), .second, .val (.int (0 : Int32)), .val (.long (Int64.ofNat A)), .second, .val (.long (Int64.ofNat U)), .second, .val (.int (1 : Int32)), .val (.long (Int64.ofNat Bn)), .second, .val (.ref a2), .val (.ref a44), .val (.ref a108), .val (.int (1 : Int32)), .val (.long (9223372036854775807 : Int64)), .second, .unset, .unset, .unset, .unset, .unset, .unset, .unset, .unset, .unset, .unset, .unset] rfl at_240 ?_
  refine own_aload H rfl rfl at_242 ?_
  refine own_lload H rfl at_244 ?_
  refine own_lload H rfl at_246 ?_
  refine own_ladd H rfl at_248 ?_
  refine own_invokevirtual H (a := a2) (argsL := [(.long (st + (Int64.ofNat U)))]) (rest := []) (rmPoE l Z a0 (own_hw H) h163 n0 a2 a44 a108 aH aT aO kH kT kO M st (st + (Int64.ofNat A)) (st + (Int64.ofNat Bn)) (Int64.ofNat 0) own_h0 own_h0 .null .null .null .null (st + (Int64.ofNat U)) ⟨⟨f168, f7, f53, f118, z18, z19, z20⟩, ⟨f49, f113, f38, f39, f40, f114, f50.symm, f52.symm, f51.symm, f115.symm, f117.symm, f116.symm, n24, n25, n26⟩, ⟨f169, f179, f183, o36, o37⟩, ⟨f170, f171, f172, f173, f174, f175⟩, ⟨f181, f182, f180⟩, ⟨f166, f167, f165⟩, ⟨f176, f177, f178⟩⟩ hM (by omega)) f169 (w1 := 71) (w0 := 72) (w5 := 74) (w2 := 73) (w3 := 10) (w4 := 75) rfl rfl rfl rfl rfl rfl own_pd12 rfl 0 (by decide) rfl (by decide) (Nat.le_of_eq rfl) (by decide) (by decide) (by decide) rfl at_249 ?_
  rintro _ h184 ⟨rfl, hQ⟩
  obtain ⟨⟨u185, u186, u187, u188, u189, u190, u191⟩, ⟨u192, u193, u194, u195, u196, u197, u198, u199, u200, u201, u202, u203, u204, u205, u206⟩, ⟨u207, u208, u209, u210, u211⟩, ⟨u212, u213, u214, u215, u216, u217⟩, ⟨u218, u219, u220⟩, ⟨u221, u222, u223⟩, ⟨u224, u225, u226⟩⟩ := hQ
  show own_G _ _ _ _ _ _ _ _ 252 #[.val (.long p1), .second, .val (.long p2), .second, .val (.long p3), .second, .val (.long p4), .second, .val (.long p5), .second, .val (.int p6), .val (.long st), .second, .val (.long (Int64.ofNat t)), .second, .val (.long lm), .second, .val (.int (0 : Int32)), .val (.long (Int64.ofNat A)), .second, .val (.long (Int64.ofNat U)), .second, .val (.int (1 : Int32)), .val (.long (Int64.ofNat Bn)), .second, .val (.ref a2), .val (.ref a44), .val (.ref a108), .val (.int (1 : Int32)), .val (.long (9223372036854775807 : Int64)), .second, .unset, .unset, .unset, .unset, .unset, .unset, .unset, .unset, .unset, .unset, .unset] [.null]
  have hLB : own_Gf (Bn ^^^ 0) < M := by rw [← hMe]; exact own_GM (by omega) (by omega)
  refine own_astore H rfl #[.val (.long p1), .second, .val (.long p2), .second, .val (.long p3), .second, .val (.long p4), .second, .val (.long p5), .second, .val (.int p6), .val (.long st), .second, .val (.long (Int64.ofNat t)), .second, .val (.long lm), .second, .val (.int (0 : Int32)), .val (.long (Int64.ofNat A)), .second, .val (.long (Int64.ofNat U)), .second, .val (.int (1 : Int32)), .val (.long (Int64.ofNat Bn)), .second, .val (.ref a2), .val (.ref a44), .val (.ref a108), .val (.int (1 : Int32)), .val (.long (9223372036854775807 : Int64)), .second, .val .null, .unset, .unset, .unset, .unset, .unset, .unset, .unset, .unset, .unset, .unset] rfl at_252 ?_
  refine own_iload H rfl at_254 ?_
  refine own_ifeq_t H (pc' := 271) at_256 (by decide) (by decide) (by decide) ?_
  refine own_iconst H (0 : Int32) (by decide) at_271 ?_
  refine own_istore H #[.val (.long p1), .second, .val (.long p2), .second, .val (.long p3), .second, .val (.long p4), .second, .val (.long p5), .second, .val (.int p6), .val (.long st), .second, .val (.long (Int64.ofNat t)), .second, .val (.long lm), .second, .val (.int (0 : Int32)), .val (.long (Int64.ofNat A)), .second, .val (.long (Int64.ofNat U)), .second, .val (.int (1 : Int32)), .val (.long (Int64.ofNat Bn)), .second, .val (.ref a2), .val (.ref a44), .val (.ref a108), .val (.int (1 : Int32)), .val (.long (9223372036854775807 : Int64)), .second, .val .null, .val (.int (0 : Int32)), .unset, .unset, .unset, .unset, .unset, .unset, .unset, .unset, .unset] rfl at_272 ?_
  refine own_iload H rfl at_274 ?_
  refine own_ifeq_f H at_276 (by decide) ?_
  refine own_aload H rfl rfl at_279 ?_
  refine own_iload H rfl at_281 ?_
  refine own_ifeq_t H (pc' := 291) at_283 (by decide) (by decide) (by decide) ?_
  refine own_aconst_null H at_291 ?_
  refine own_acmpne_f H at_292 rfl rfl rfl ?_
  refine own_iconst H (1 : Int32) (by decide) at_295 ?_
  refine own_goto H (pc' := 300) at_296 (by decide) (by decide) ?_
  refine own_istore H #[.val (.long p1), .second, .val (.long p2), .second, .val (.long p3), .second, .val (.long p4), .second, .val (.long p5), .second, .val (.int p6), .val (.long st), .second, .val (.long (Int64.ofNat t)), .second, .val (.long lm), .second, .val (.int (0 : Int32)), .val (.long (Int64.ofNat A)), .second, .val (.long (Int64.ofNat U)), .second, .val (.int (1 : Int32)), .val (.long (Int64.ofNat Bn)), .second, .val (.ref a2), .val (.ref a44), .val (.ref a108), .val (.int (1 : Int32)), .val (.long (9223372036854775807 : Int64)), .second, .val .null, .val (.int (0 : Int32)), .unset, .unset, .unset, .unset, .unset, .unset, .unset, .unset, .unset] rfl at_300 ?_
  refine own_iload H rfl at_302 ?_
  refine own_ifne_f H at_304 (by decide) ?_
  refine own_lconst H (0 : Int64) (by decide) at_307 ?_
  refine own_goto H (pc' := 340) at_308 (by decide) (by decide) ?_
  refine own_lstore H #[.val (.long p1), .second, .val (.long p2), .second, .val (.long p3), .second, .val (.long p4), .second, .val (.long p5), .second, .val (.int p6), .val (.long st), .second, .val (.long (Int64.ofNat t)), .second, .val (.long lm), .second, .val (.int (0 : Int32)), .val (.long (Int64.ofNat A)), .second, .val (.long (Int64.ofNat U)), .second, .val (.int (1 : Int32)), .val (.long (Int64.ofNat Bn)), .second, .val (.ref a2), .val (.ref a44), .val (.ref a108), .val (.int (1 : Int32)), .val (.long (9223372036854775807 : Int64)), .second, .val .null, .val (.int (0 : Int32)), .val (.long (0 : Int64)), .second, .unset, .unset, .unset, .unset, .unset, .unset, .unset] rfl at_340 ?_
  refine own_iload H rfl at_342 ?_
  refine own_ifeq_t H (pc' := 356) at_344 (by decide) (by decide) (by decide) ?_
  refine own_iconst H (0 : Int32) (by decide) at_356 ?_
  refine own_istore H #[.val (.long p1), .second, .val (.long p2), .second, .val (.long p3), .second, .val (.long p4), .second, .val (.long p5), .second, .val (.int p6), .val (.long st), .second, .val (.long (Int64.ofNat t)), .second, .val (.long lm), .second, .val (.int (0 : Int32)), .val (.long (Int64.ofNat A)), .second, .val (.long (Int64.ofNat U)), .second, .val (.int (1 : Int32)), .val (.long (Int64.ofNat Bn)), .second, .val (.ref a2), .val (.ref a44), .val (.ref a108), .val (.int (1 : Int32)), .val (.long (9223372036854775807 : Int64)), .second, .val .null, .val (.int (0 : Int32)), .val (.long (0 : Int64)), .second, .val (.int (0 : Int32)), .unset, .unset, .unset, .unset, .unset, .unset] rfl at_357 ?_
  refine own_iload H rfl at_359 ?_
  refine own_ifeq_t H (pc' := 380) at_361 (by decide) (by decide) (by decide) ?_
  refine own_lconst H (0 : Int64) (by decide) at_380 ?_
  refine own_lstore H #[.val (.long p1), .second, .val (.long p2), .second, .val (.long p3), .second, .val (.long p4), .second, .val (.long p5), .second, .val (.int p6), .val (.long st), .second, .val (.long (Int64.ofNat t)), .second, .val (.long lm), .second, .val (.int (0 : Int32)), .val (.long (Int64.ofNat A)), .second, .val (.long (Int64.ofNat U)), .second, .val (.int (1 : Int32)), .val (.long (Int64.ofNat Bn)), .second, .val (.ref a2), .val (.ref a44), .val (.ref a108), .val (.int (1 : Int32)), .val (.long (9223372036854775807 : Int64)), .second, .val .null, .val (.int (0 : Int32)), .val (.long (0 : Int64)), .second, .val (.int (0 : Int32)), .val (.long (0 : Int64)), .second, .unset, .unset, .unset, .unset] rfl at_381 ?_
  refine own_iload H rfl at_383 ?_
  refine own_ifeq_f H at_385 (by decide) ?_
  refine own_aload H rfl rfl at_388 ?_
  refine own_aload H rfl rfl at_390 ?_
  refine own_invokevirtual H (a := a2) (argsL := [(.ref a108)]) (rest := []) (rmAdE l Z a0 (own_hw H) h184 n0 a2 a108 a44 aH aT aO kH kT kO M st (st + (Int64.ofNat Bn)) (st + (Int64.ofNat A)) (Int64.ofNat 0) own_h0 own_h0 own_o0 .null .null .null .null (own_h1 a108 (own_Kf Bn (own_Gf (Bn ^^^ 0)))) (own_h1 a108 (own_Kf Bn (own_Gf (Bn ^^^ 0)))) (own_o1 (own_Kf Bn (own_Gf (Bn ^^^ 0)))) (own_Kf Bn (own_Gf (Bn ^^^ 0))) (0 : Int64) ⟨⟨u185, u186, u188, u187, u189, u190, u191⟩, ⟨u193, u192, u194, u195, u196, u197.symm, u201, u202, u203, u198, u199, u200, u204, u205, u206⟩, ⟨u207, u209, u208, u210, u211⟩, ⟨u212, u213, u214, u215, u216, u217⟩, ⟨u221, u222, u223⟩, ⟨u218, u219, u220⟩, ⟨u224, u225, u226⟩⟩ hM (own_Klt hLB) rfl rfl (fun _ _ => rfl) (fun _ _ => rfl) (fun i _ => own_g3 _ i) (by rw [own_sc]; exact own_bk hB' (Nat.two_pow_pos 63))) u207 (w1 := 81) (w0 := 82) (w5 := 84) (w2 := 83) (w3 := 10) (w4 := 85) rfl rfl rfl rfl rfl rfl own_pd9 rfl 0 (by decide) rfl (by decide) (Nat.le_of_eq rfl) (by decide) (by decide) (by decide) rfl at_392 ?_
  rintro _ h227 ⟨rfl, hQ⟩
  obtain ⟨⟨u228, u229, u230, u231, u232, u233, u234⟩, ⟨u235, u236, u237, u238, u239, u240, u241, u242, u243, u244, u245, u246, u247, u248, u249⟩, ⟨u250, u251, u252, u253, u254⟩, ⟨u255, u256, u257, u258, u259, u260⟩, ⟨u261, u262, u263⟩, ⟨u264, u265, u266⟩, ⟨u267, u268, u269⟩⟩ := hQ
  show own_G _ _ _ _ _ _ _ _ 395 #[.val (.long p1), .second, .val (.long p2), .second, .val (.long p3), .second, .val (.long p4), .second, .val (.long p5), .second, .val (.int p6), .val (.long st), .second, .val (.long (Int64.ofNat t)), .second, .val (.long lm), .second, .val (.int (0 : Int32)), .val (.long (Int64.ofNat A)), .second, .val (.long (Int64.ofNat U)), .second, .val (.int (1 : Int32)), .val (.long (Int64.ofNat Bn)), .second, .val (.ref a2), .val (.ref a44), .val (.ref a108), .val (.int (1 : Int32)), .val (.long (9223372036854775807 : Int64)), .second, .val .null, .val (.int (0 : Int32)), .val (.long (0 : Int64)), .second, .val (.int (0 : Int32)), .val (.long (0 : Int64)), .second, .unset, .unset, .unset, .unset] []
  refine own_iload H rfl at_395 ?_
  refine own_ifeq_f H at_397 (by decide) ?_
  refine own_lload H rfl at_400 ?_
  refine own_lload H rfl at_402 ?_
  refine own_lload H rfl at_404 ?_
  refine own_lxor H rfl at_406 ?_
  show own_G _ _ _ _ _ _ _ _ 407 #[.val (.long p1), .second, .val (.long p2), .second, .val (.long p3), .second, .val (.long p4), .second, .val (.long p5), .second, .val (.int p6), .val (.long st), .second, .val (.long (Int64.ofNat t)), .second, .val (.long lm), .second, .val (.int (0 : Int32)), .val (.long (Int64.ofNat A)), .second, .val (.long (Int64.ofNat U)), .second, .val (.int (1 : Int32)), .val (.long (Int64.ofNat Bn)), .second, .val (.ref a2), .val (.ref a44), .val (.ref a108), .val (.int (1 : Int32)), .val (.long (9223372036854775807 : Int64)), .second, .val .null, .val (.int (0 : Int32)), .val (.long (0 : Int64)), .second, .val (.int (0 : Int32)), .val (.long (0 : Int64)), .second, .unset, .unset, .unset, .unset] [(.long ((Int64.ofNat Bn) ^^^ (Int64.ofNat 0))), (.long (Int64.ofNat Bn))]
  rw [own_xr Bn 0]
  show own_G _ _ _ _ _ _ _ _ 407 #[.val (.long p1), .second, .val (.long p2), .second, .val (.long p3), .second, .val (.long p4), .second, .val (.long p5), .second, .val (.int p6), .val (.long st), .second, .val (.long (Int64.ofNat t)), .second, .val (.long lm), .second, .val (.int (0 : Int32)), .val (.long (Int64.ofNat A)), .second, .val (.long (Int64.ofNat U)), .second, .val (.int (1 : Int32)), .val (.long (Int64.ofNat Bn)), .second, .val (.ref a2), .val (.ref a44), .val (.ref a108), .val (.int (1 : Int32)), .val (.long (9223372036854775807 : Int64)), .second, .val .null, .val (.int (0 : Int32)), .val (.long (0 : Int64)), .second, .val (.int (0 : Int32)), .val (.long (0 : Int64)), .second, .unset, .unset, .unset, .unset] [(.long (Int64.ofNat (Bn ^^^ 0))), (.long (Int64.ofNat Bn))]
  refine own_invokestatic H (argsL := [(.long (Int64.ofNat (Bn ^^^ 0)))]) (rest := [(.long (Int64.ofNat Bn))]) (rmGrp l Z a0 (own_hw H) h227 n0 (Int64.ofNat (Bn ^^^ 0))) (w1 := 110) (w2 := 111) (w3 := 112) (w4 := 113) rfl rfl rfl rfl own_pd3 rfl 2 (by decide) rfl (by decide) (Nat.le_of_eq rfl) (by decide) (by decide) (by decide) rfl at_407 ?_
  rintro _ _ ⟨rfl, rfl⟩
  show own_G _ _ _ _ _ _ _ _ 410 #[.val (.long p1), .second, .val (.long p2), .second, .val (.long p3), .second, .val (.long p4), .second, .val (.long p5), .second, .val (.int p6), .val (.long st), .second, .val (.long (Int64.ofNat t)), .second, .val (.long lm), .second, .val (.int (0 : Int32)), .val (.long (Int64.ofNat A)), .second, .val (.long (Int64.ofNat U)), .second, .val (.int (1 : Int32)), .val (.long (Int64.ofNat Bn)), .second, .val (.ref a2), .val (.ref a44), .val (.ref a108), .val (.int (1 : Int32)), .val (.long (9223372036854775807 : Int64)), .second, .val .null, .val (.int (0 : Int32)), .val (.long (0 : Int64)), .second, .val (.int (0 : Int32)), .val (.long (0 : Int64)), .second, .unset, .unset, .unset, .unset] [(.int (FGrp (Int64.ofNat (Bn ^^^ 0)))), (.long (Int64.ofNat Bn))]
  rw [own_grp (Nat.xor_lt_two_pow hB' (Nat.two_pow_pos 63))]
  show own_G _ _ _ _ _ _ _ _ 410 #[.val (.long p1), .second, .val (.long p2), .second, .val (.long p3), .second, .val (.long p4), .second, .val (.long p5), .second, .val (.int p6), .val (.long st), .second, .val (.long (Int64.ofNat t)), .second, .val (.long lm), .second, .val (.int (0 : Int32)), .val (.long (Int64.ofNat A)), .second, .val (.long (Int64.ofNat U)), .second, .val (.int (1 : Int32)), .val (.long (Int64.ofNat Bn)), .second, .val (.ref a2), .val (.ref a44), .val (.ref a108), .val (.int (1 : Int32)), .val (.long (9223372036854775807 : Int64)), .second, .val .null, .val (.int (0 : Int32)), .val (.long (0 : Int64)), .second, .val (.int (0 : Int32)), .val (.long (0 : Int64)), .second, .unset, .unset, .unset, .unset] [(.int (Int32.ofNat (own_Gf (Bn ^^^ 0)))), (.long (Int64.ofNat Bn))]
  refine own_invokestatic H (argsL := [(.long (Int64.ofNat Bn)), (.int (Int32.ofNat (own_Gf (Bn ^^^ 0))))]) (rest := []) (rmRnd l Z a0 (own_hw H) h227 n0 (Int64.ofNat Bn) (Int32.ofNat (own_Gf (Bn ^^^ 0)))) (w1 := 114) (w2 := 115) (w3 := 112) (w4 := 116) rfl rfl rfl rfl own_pd5 rfl 0 (by decide) rfl (by decide) (Nat.le_of_eq rfl) (by decide) (by decide) (by decide) rfl at_410 ?_
  rintro _ _ ⟨rfl, rfl⟩
  show own_G _ _ _ _ _ _ _ _ 413 #[.val (.long p1), .second, .val (.long p2), .second, .val (.long p3), .second, .val (.long p4), .second, .val (.long p5), .second, .val (.int p6), .val (.long st), .second, .val (.long (Int64.ofNat t)), .second, .val (.long lm), .second, .val (.int (0 : Int32)), .val (.long (Int64.ofNat A)), .second, .val (.long (Int64.ofNat U)), .second, .val (.int (1 : Int32)), .val (.long (Int64.ofNat Bn)), .second, .val (.ref a2), .val (.ref a44), .val (.ref a108), .val (.int (1 : Int32)), .val (.long (9223372036854775807 : Int64)), .second, .val .null, .val (.int (0 : Int32)), .val (.long (0 : Int64)), .second, .val (.int (0 : Int32)), .val (.long (0 : Int64)), .second, .unset, .unset, .unset, .unset] [(.long (FRnd (Int64.ofNat Bn) (Int32.ofNat (own_Gf (Bn ^^^ 0)))))]
  rw [own_rnd (k := (own_Gf (Bn ^^^ 0))) hB' (by have := own_G10 (Nat.xor_lt_two_pow hB' (Nat.two_pow_pos 63)); omega)]
  show own_G _ _ _ _ _ _ _ _ 413 #[.val (.long p1), .second, .val (.long p2), .second, .val (.long p3), .second, .val (.long p4), .second, .val (.long p5), .second, .val (.int p6), .val (.long st), .second, .val (.long (Int64.ofNat t)), .second, .val (.long lm), .second, .val (.int (0 : Int32)), .val (.long (Int64.ofNat A)), .second, .val (.long (Int64.ofNat U)), .second, .val (.int (1 : Int32)), .val (.long (Int64.ofNat Bn)), .second, .val (.ref a2), .val (.ref a44), .val (.ref a108), .val (.int (1 : Int32)), .val (.long (9223372036854775807 : Int64)), .second, .val .null, .val (.int (0 : Int32)), .val (.long (0 : Int64)), .second, .val (.int (0 : Int32)), .val (.long (0 : Int64)), .second, .unset, .unset, .unset, .unset] [(.long (Int64.ofNat (own_Rf Bn (own_Gf (Bn ^^^ 0)))))]
  refine own_goto H (pc' := 417) at_413 (by decide) (by decide) ?_
  refine own_lstore H #[.val (.long p1), .second, .val (.long p2), .second, .val (.long p3), .second, .val (.long p4), .second, .val (.long p5), .second, .val (.int p6), .val (.long st), .second, .val (.long (Int64.ofNat t)), .second, .val (.long lm), .second, .val (.int (0 : Int32)), .val (.long (Int64.ofNat A)), .second, .val (.long (Int64.ofNat U)), .second, .val (.int (1 : Int32)), .val (.long (Int64.ofNat Bn)), .second, .val (.ref a2), .val (.ref a44), .val (.ref a108), .val (.int (1 : Int32)), .val (.long (9223372036854775807 : Int64)), .second, .val .null, .val (.int (0 : Int32)), .val (.long (0 : Int64)), .second, .val (.int (0 : Int32)), .val (.long (0 : Int64)), .second, .val (.long (Int64.ofNat (own_Rf Bn (own_Gf (Bn ^^^ 0))))), .second, .unset, .unset] rfl at_417 ?_
  refine own_iload H rfl at_419 ?_
  refine own_ifeq_t H (pc' := 444) at_421 (by decide) (by decide) (by decide) ?_
  refine own_iload H rfl at_444 ?_
  refine own_ifeq_t H (pc' := 459) at_446 (by decide) (by decide) (by decide) ?_
  refine own_iload H rfl at_459 ?_
  refine own_ifeq_f H at_461 (by decide) ?_
  refine own_lload H rfl at_464 ?_
  refine own_lload H rfl at_466 ?_
  refine own_ladd H rfl at_468 ?_
  refine own_lstore H #[.val (.long p1), .second, .val (.long p2), .second, .val (.long p3), .second, .val (.long p4), .second, .val (.long p5), .second, .val (.int p6), .val (.long st), .second, .val (.long (Int64.ofNat t)), .second, .val (.long lm), .second, .val (.int (0 : Int32)), .val (.long (Int64.ofNat A)), .second, .val (.long (Int64.ofNat U)), .second, .val (.int (1 : Int32)), .val (.long (Int64.ofNat Bn)), .second, .val (.ref a2), .val (.ref a44), .val (.ref a108), .val (.int (1 : Int32)), .val (.long (9223372036854775807 : Int64)), .second, .val .null, .val (.int (0 : Int32)), .val (.long (0 : Int64)), .second, .val (.int (0 : Int32)), .val (.long (0 : Int64)), .second, .val (.long (Int64.ofNat (own_Rf Bn (own_Gf (Bn ^^^ 0))))), .second, .val (.long (st + (Int64.ofNat (own_Rf Bn (own_Gf (Bn ^^^ 0)))))), .second] rfl at_469 ?_
  refine own_goto H (pc' := 479) at_471 (by decide) (by decide) ?_
  refine own_iload H rfl at_479 ?_
  refine own_ifeq_f H at_481 (by decide) ?_
  refine own_aload H rfl rfl at_484 ?_
  refine own_invokevirtual H (a := a2) (argsL := []) (rest := []) (rmNiL l Z a0 (own_hw H) h227 n0 a2 aO kO M (own_o1 (own_Kf Bn (own_Gf (Bn ^^^ 0)))) st (Int64.ofNat 0) (own_Gf (Bn ^^^ 0)) (FBit (Int32.ofNat (own_Kf Bn (own_Gf (Bn ^^^ 0))))) u250 u255 u258 u269 u259 u260 hM (fun j hj => own_oz hj) hLB (own_os _ _) (own_nt (own_K704 (by omega))).2) u250 (w1 := 65) (w0 := 66) (w5 := 68) (w2 := 67) (w3 := 10) (w4 := 69) rfl rfl rfl rfl rfl rfl own_pd7 rfl 0 (by decide) rfl (by decide) (Nat.le_of_eq rfl) (by decide) (by decide) (by decide) rfl at_486 ?_
  rintro _ _ ⟨rfl, rfl⟩
  show own_G _ _ _ _ _ _ _ _ 489 #[.val (.long p1), .second, .val (.long p2), .second, .val (.long p3), .second, .val (.long p4), .second, .val (.long p5), .second, .val (.int p6), .val (.long st), .second, .val (.long (Int64.ofNat t)), .second, .val (.long lm), .second, .val (.int (0 : Int32)), .val (.long (Int64.ofNat A)), .second, .val (.long (Int64.ofNat U)), .second, .val (.int (1 : Int32)), .val (.long (Int64.ofNat Bn)), .second, .val (.ref a2), .val (.ref a44), .val (.ref a108), .val (.int (1 : Int32)), .val (.long (9223372036854775807 : Int64)), .second, .val .null, .val (.int (0 : Int32)), .val (.long (0 : Int64)), .second, .val (.int (0 : Int32)), .val (.long (0 : Int64)), .second, .val (.long (Int64.ofNat (own_Rf Bn (own_Gf (Bn ^^^ 0))))), .second, .val (.long (st + (Int64.ofNat (own_Rf Bn (own_Gf (Bn ^^^ 0)))))), .second] [(.long (st + (FFo (Int32.ofNat (own_Gf (Bn ^^^ 0))) (FNtzL (FBit (Int32.ofNat (own_Kf Bn (own_Gf (Bn ^^^ 0)))))) (Int64.ofNat 0))))]
  rw [own_nx hB' (Nat.two_pow_pos 63) rfl]
  show own_G _ _ _ _ _ _ _ _ 489 #[.val (.long p1), .second, .val (.long p2), .second, .val (.long p3), .second, .val (.long p4), .second, .val (.long p5), .second, .val (.int p6), .val (.long st), .second, .val (.long (Int64.ofNat t)), .second, .val (.long lm), .second, .val (.int (0 : Int32)), .val (.long (Int64.ofNat A)), .second, .val (.long (Int64.ofNat U)), .second, .val (.int (1 : Int32)), .val (.long (Int64.ofNat Bn)), .second, .val (.ref a2), .val (.ref a44), .val (.ref a108), .val (.int (1 : Int32)), .val (.long (9223372036854775807 : Int64)), .second, .val .null, .val (.int (0 : Int32)), .val (.long (0 : Int64)), .second, .val (.int (0 : Int32)), .val (.long (0 : Int64)), .second, .val (.long (Int64.ofNat (own_Rf Bn (own_Gf (Bn ^^^ 0))))), .second, .val (.long (st + (Int64.ofNat (own_Rf Bn (own_Gf (Bn ^^^ 0)))))), .second] [(.long (st + (Int64.ofNat (own_Rf Bn (own_Gf (Bn ^^^ 0))))))]
  refine own_lload H rfl at_489 ?_
  refine own_lcmpne_f H at_491 at_492 rfl ?_
  refine own_iconst H (1 : Int32) (by decide) at_495 ?_
  refine own_goto H (pc' := 500) at_496 (by decide) (by decide) ?_
  exact own_ireturn H (by simp) (by decide) at_500 (by decide) (by decide) rfl
set_option maxHeartbeats 16000000 in
theorem own_p2_10 {B : own_B} {l : Launch} {Z : State} {a0 : Array Value} (H : own_Ok B Z a0 l room_1 x code maxLocals ret) (D : own_Wd B) {h0 : Heap} {n0 : Nat} (hZ0 : n0 ≤ h0.size) (p1 p2 p3 p4 p5 : Int64) (p6 : Int32) (st lm : Int64) (t A U M : Nat) (hLev : FLev (Int64.ofNat t) = Int32.ofNat M) (hMe : own_Gf (t - 1) + 1 = M) (hM : M ≤ 11) (ht : t < 2 ^ 63) (hA : A < t) (hU : U < t) : own_G B n0 (fun v h' => v = some (.int 1)) 24 4992 0 0 h0 131 #[.val (.long p1), .second, .val (.long p2), .second, .val (.long p3), .second, .val (.long p4), .second, .val (.long p5), .second, .val (.int p6), .val (.long st), .second, .val (.long (Int64.ofNat t)), .second, .val (.long lm), .second, .val (.int (1 : Int32)), .val (.long (Int64.ofNat A)), .second, .val (.long (Int64.ofNat U)), .second, .val (.int (0 : Int32)), .val (.long (0 : Int64)), .second, .unset, .unset, .unset, .unset, .unset, .unset, .unset, .unset, .unset, .unset, .unset, .unset, .unset, .unset, .unset, .unset, .unset] [] := by
  have hA' : A < 2 ^ 63 := by omega
  have hU' : U < 2 ^ 63 := by omega
  have hLA : own_Gf A < M := by
    have := own_GM (A := A) (C := 0) (m := t - 1) (by omega) (by omega)
    rw [Nat.xor_zero] at this
    omega
  refine own_new H (w := 8) (wi := 9) (wz := 10) rfl rfl rfl at_131 (by decide) (by decide) ?_
  intro h1 a2 ha3 E4 X5 D6
  have f7 : n0 ≤ a2 := by rw [ha3]; exact hZ0
  have f8 : n0 ≤ h1.size := Nat.le_trans hZ0 E4.1
  have f9 : Fld Z h1 a2 "com/example/ring_to_run/ringtorun/TickQueue" "tickMillis" "J" (.long (0 : Int64)) := D6 (Or.inr (own_w H (i := 18) rfl)) (ty := .long) (by decide)
  have f10 : Fld Z h1 a2 "com/example/ring_to_run/ringtorun/TickQueue" "levels" "I" (.int (0 : Int32)) := D6 (Or.inr (own_w H (i := 31) rfl)) (ty := .int) (by decide)
  have f11 : Fld Z h1 a2 "com/example/ring_to_run/ringtorun/TickQueue" "heads" "[Lcom/example/ring_to_run/ringtorun/Task;" .null := D6 (Or.inr (own_w H (i := 35) rfl)) (ty := (.array (.object "com/example/ring_to_run/ringtorun/Task"))) (by decide)
  have f12 : Fld Z h1 a2 "com/example/ring_to_run/ringtorun/TickQueue" "tails" "[Lcom/example/ring_to_run/ringtorun/Task;" .null := D6 (Or.inr (own_w H (i := 37) rfl)) (ty := (.array (.object "com/example/ring_to_run/ringtorun/Task"))) (by decide)
  have f13 : Fld Z h1 a2 "com/example/ring_to_run/ringtorun/TickQueue" "occupied" "[J" .null := D6 (Or.inr (own_w H (i := 40) rfl)) (ty := (.array .long)) (by decide)
  have f14 : Fld Z h1 a2 "com/example/ring_to_run/ringtorun/TickQueue" "start" "J" (.long (0 : Int64)) := D6 (Or.inl (own_w H (i := 42) rfl)) (ty := .long) (by decide)
  have f15 : Fld Z h1 a2 "com/example/ring_to_run/ringtorun/TickQueue" "cursor" "J" (.long (0 : Int64)) := D6 (Or.inl (own_w H (i := 96) rfl)) (ty := .long) (by decide)
  show own_G _ _ _ _ _ _ _ _ 134 #[.val (.long p1), .second, .val (.long p2), .second, .val (.long p3), .second, .val (.long p4), .second, .val (.long p5), .second, .val (.int p6), .val (.long st), .second, .val (.long (Int64.ofNat t)), .second, .val (.long lm), .second, .val (.int (1 : Int32)), .val (.long (Int64.ofNat A)), .second, .val (.long (Int64.ofNat U)), .second, .val (.int (0 : Int32)), .val (.long (0 : Int64)), .second, .unset, .unset, .unset, .unset, .unset, .unset, .unset, .unset, .unset, .unset, .unset, .unset, .unset, .unset, .unset, .unset, .unset] [(.ref a2)]
  refine own_dup H rfl at_134 ?_
  refine own_lload H rfl at_135 ?_
  refine own_lload H rfl at_137 ?_
  refine own_invokespecial H (a := a2) (argsL := [(.long (Int64.ofNat t)), (.long st)]) (rest := [(.ref a2)]) (rmCQ l Z a0 (own_hw H) h1 n0 a2 (Int64.ofNat t) st M f8 X5 f9 f10 f11 f12 f13 f14 f15 hLev hM f7) rfl (w1 := 11) (w2 := 12) (w3 := 10) (w4 := 13) rfl rfl rfl rfl own_pd13 rfl 1 (by decide) rfl (by decide) (Nat.le_of_eq rfl) (by decide) (by decide) (by decide) rfl at_139 ?_
  rintro _ h16 ⟨rfl, K17, aH, aT, aO, kH, kT, kO, ⟨z18, z19, z20, z21, z22, z23⟩, ⟨n24, n25, n26⟩, ⟨f27, f28, f29, f30, f31, f32⟩, ⟨V33, V34, V35⟩, o36, o37⟩
  have f38 : a2 ≠ aH := Nat.ne_of_lt (Nat.lt_of_lt_of_le X5.lt z21)
  have f39 : a2 ≠ aT := Nat.ne_of_lt (Nat.lt_of_lt_of_le X5.lt z22)
  have f40 : a2 ≠ aO := Nat.ne_of_lt (Nat.lt_of_lt_of_le X5.lt z23)
  have f41 : n0 ≤ h16.size := Nat.le_trans f8 K17.1
  have f42 : Exa Z h16 a2 "com/example/ring_to_run/ringtorun/TickQueue" := X5.keep K17
  show own_G _ _ _ _ _ _ _ _ 142 #[.val (.long p1), .second, .val (.long p2), .second, .val (.long p3), .second, .val (.long p4), .second, .val (.long p5), .second, .val (.int p6), .val (.long st), .second, .val (.long (Int64.ofNat t)), .second, .val (.long lm), .second, .val (.int (1 : Int32)), .val (.long (Int64.ofNat A)), .second, .val (.long (Int64.ofNat U)), .second, .val (.int (0 : Int32)), .val (.long (0 : Int64)), .second, .unset, .unset, .unset, .unset, .unset, .unset, .unset, .unset, .unset, .unset, .unset, .unset, .unset, .unset, .unset, .unset, .unset] [(.ref a2)]
  refine own_astore H rfl #[.val (.long p1), .second, .val (.long p2), .second, .val (.long p3), .second, .val (.long p4), .second, .val (.long p5), .second, .val (.int p6), .val (.long st), .second, .val (.long (Int64.ofNat t)), .second, .val (.long lm), .second, .val (.int (1 : Int32)), .val (.long (Int64.ofNat A)), .second, .val (.long (Int64.ofNat U)), .second, .val (.int (0 : Int32)), .val (.long (0 : Int64)), .second, .val (.ref a2), .unset, .unset, .unset, .unset, .unset, .unset, .unset, .unset, .unset, .unset, .unset, .unset, .unset, .unset, .unset, .unset] rfl at_142 ?_
  refine own_new H (w := 43) (wi := 44) (wz := 45) rfl rfl rfl at_144 (by decide) (by decide) ?_
  intro h43 a44 ha45 E46 X47 D48
  have f49 : a2 ≠ a44 := Nat.ne_of_lt (by rw [ha45]; exact f42.lt)
  have f50 : aH ≠ a44 := Nat.ne_of_lt (by rw [ha45]; exact V33.lt)
  have f51 : aO ≠ a44 := Nat.ne_of_lt (by rw [ha45]; exact V35.lt)
  have f52 : aT ≠ a44 := Nat.ne_of_lt (by rw [ha45]; exact V34.lt)
  have f53 : n0 ≤ a44 := by rw [ha45]; exact f41
  have f54 : n0 ≤ h43.size := Nat.le_trans f41 E46.1
  have f55 : Exa Z h43 a2 "com/example/ring_to_run/ringtorun/TickQueue" := f42.ext E46
  have f56 : Fld Z h43 a2 "com/example/ring_to_run/ringtorun/TickQueue" "levels" "I" (.int (Int32.ofNat M)) := f27.ext E46
  have f57 : Fld Z h43 a2 "com/example/ring_to_run/ringtorun/TickQueue" "heads" "[Lcom/example/ring_to_run/ringtorun/Task;" (.ref aH) := f28.ext E46
  have f58 : Fld Z h43 a2 "com/example/ring_to_run/ringtorun/TickQueue" "tails" "[Lcom/example/ring_to_run/ringtorun/Task;" (.ref aT) := f29.ext E46
  have f59 : Fld Z h43 a2 "com/example/ring_to_run/ringtorun/TickQueue" "occupied" "[J" (.ref aO) := f30.ext E46
  have f60 : Fld Z h43 a2 "com/example/ring_to_run/ringtorun/TickQueue" "start" "J" (.long st) := f31.ext E46
  have f61 : Fld Z h43 a2 "com/example/ring_to_run/ringtorun/TickQueue" "cursor" "J" (.long (Int64.ofNat 0)) := f32.ext E46
  have f62 : own_Af Z h43 aH kH (.object "com/example/ring_to_run/ringtorun/Task") (Int32.ofNat (64 * M)) .null own_h0 := V33.ext E46
  have f63 : own_Af Z h43 aT kT (.object "com/example/ring_to_run/ringtorun/Task") (Int32.ofNat (64 * M)) .null own_h0 := V34.ext E46
  have f64 : own_Af Z h43 aO kO .long (Int32.ofNat M) (.long 0) own_o0 := V35.ext E46
  have f65 : Fld Z h43 a44 "com/example/ring_to_run/ringtorun/Task" "id" "Ljava/lang/String;" .null := D48 (Or.inr (own_w H (i := 59) rfl)) (ty := (.object "java/lang/String")) (by decide)
  have f66 : Fld Z h43 a44 "com/example/ring_to_run/ringtorun/Task" "payload" "[B" .null := D48 (Or.inr (own_w H (i := 61) rfl)) (ty := (.array .byte)) (by decide)
  have f67 : Fld Z h43 a44 "com/example/ring_to_run/ringtorun/Task" "dueInstant" "J" (.long (0 : Int64)) := D48 (Or.inr (own_w H (i := 63) rfl)) (ty := .long) (by decide)
  have f68 : Fld Z h43 a44 "com/example/ring_to_run/ringtorun/Task" "previous" "Lcom/example/ring_to_run/ringtorun/Task;" .null := D48 (Or.inl (own_w H (i := 103) rfl)) (ty := (.object "com/example/ring_to_run/ringtorun/Task")) (by decide)
  have f69 : Fld Z h43 a44 "com/example/ring_to_run/ringtorun/Task" "next" "Lcom/example/ring_to_run/ringtorun/Task;" .null := D48 (Or.inl (own_w H (i := 105) rfl)) (ty := (.object "com/example/ring_to_run/ringtorun/Task")) (by decide)
  show own_G _ _ _ _ _ _ _ _ 147 #[.val (.long p1), .second, .val (.long p2), .second, .val (.long p3), .second, .val (.long p4), .second, .val (.long p5), .second, .val (.int p6), .val (.long st), .second, .val (.long (Int64.ofNat t)), .second, .val (.long lm), .second, .val (.int (1 : Int32)), .val (.long (Int64.ofNat A)), .second, .val (.long (Int64.ofNat U)), .second, .val (.int (0 : Int32)), .val (.long (0 : Int64)), .second, .val (.ref a2), .unset, .unset, .unset, .unset, .unset, .unset, .unset, .unset, .unset, .unset, .unset, .unset, .unset, .unset, .unset, .unset] [(.ref a44)]
  refine own_dup H rfl at_147 ?_
  refine own_ldcS H D (w := 46) rfl (own_atoms H (f := fun i => [47, 48, 49, 50, 51, 52, 53].getD i.val 0) rfl rfl rfl rfl rfl rfl rfl) 4 (by decide) (by decide) at_148 (by decide) (by decide) ?_
  intro B a71 h70 H D E72
  have f73 : n0 ≤ h70.size := Nat.le_trans f54 E72.1
  have f74 : Exa Z h70 a2 "com/example/ring_to_run/ringtorun/TickQueue" := f55.ext E72
  have f75 : Fld Z h70 a2 "com/example/ring_to_run/ringtorun/TickQueue" "levels" "I" (.int (Int32.ofNat M)) := f56.ext E72
  have f76 : Fld Z h70 a2 "com/example/ring_to_run/ringtorun/TickQueue" "heads" "[Lcom/example/ring_to_run/ringtorun/Task;" (.ref aH) := f57.ext E72
  have f77 : Fld Z h70 a2 "com/example/ring_to_run/ringtorun/TickQueue" "tails" "[Lcom/example/ring_to_run/ringtorun/Task;" (.ref aT) := f58.ext E72
  have f78 : Fld Z h70 a2 "com/example/ring_to_run/ringtorun/TickQueue" "occupied" "[J" (.ref aO) := f59.ext E72
  have f79 : Fld Z h70 a2 "com/example/ring_to_run/ringtorun/TickQueue" "start" "J" (.long st) := f60.ext E72
  have f80 : Fld Z h70 a2 "com/example/ring_to_run/ringtorun/TickQueue" "cursor" "J" (.long (Int64.ofNat 0)) := f61.ext E72
  have f81 : own_Af Z h70 aH kH (.object "com/example/ring_to_run/ringtorun/Task") (Int32.ofNat (64 * M)) .null own_h0 := f62.ext E72
  have f82 : own_Af Z h70 aT kT (.object "com/example/ring_to_run/ringtorun/Task") (Int32.ofNat (64 * M)) .null own_h0 := f63.ext E72
  have f83 : own_Af Z h70 aO kO .long (Int32.ofNat M) (.long 0) own_o0 := f64.ext E72
  have f84 : Exa Z h70 a44 "com/example/ring_to_run/ringtorun/Task" := X47.ext E72
  have f85 : Fld Z h70 a44 "com/example/ring_to_run/ringtorun/Task" "id" "Ljava/lang/String;" .null := f65.ext E72
  have f86 : Fld Z h70 a44 "com/example/ring_to_run/ringtorun/Task" "payload" "[B" .null := f66.ext E72
  have f87 : Fld Z h70 a44 "com/example/ring_to_run/ringtorun/Task" "dueInstant" "J" (.long (0 : Int64)) := f67.ext E72
  have f88 : Fld Z h70 a44 "com/example/ring_to_run/ringtorun/Task" "previous" "Lcom/example/ring_to_run/ringtorun/Task;" .null := f68.ext E72
  have f89 : Fld Z h70 a44 "com/example/ring_to_run/ringtorun/Task" "next" "Lcom/example/ring_to_run/ringtorun/Task;" .null := f69.ext E72
  show own_G _ _ _ _ _ _ _ _ 150 #[.val (.long p1), .second, .val (.long p2), .second, .val (.long p3), .second, .val (.long p4), .second, .val (.long p5), .second, .val (.int p6), .val (.long st), .second, .val (.long (Int64.ofNat t)), .second, .val (.long lm), .second, .val (.int (1 : Int32)), .val (.long (Int64.ofNat A)), .second, .val (.long (Int64.ofNat U)), .second, .val (.int (0 : Int32)), .val (.long (0 : Int64)), .second, .val (.ref a2), .unset, .unset, .unset, .unset, .unset, .unset, .unset, .unset, .unset, .unset, .unset, .unset, .unset, .unset, .unset, .unset] [(.ref a71), (.ref a44), (.ref a44)]
  refine own_aconst_null H at_150 ?_
  refine own_lload H rfl at_151 ?_
  refine own_lload H rfl at_153 ?_
  refine own_ladd H rfl at_155 ?_
  refine own_invokespecial H (a := a44) (argsL := [(.ref a71), .null, (.long (st + (Int64.ofNat A)))]) (rest := [(.ref a44)]) (rmCT l Z a0 (own_hw H) h70 n0 a44 a71 (st + (Int64.ofNat A)) f73 f84 f85 f86 f87 f88 f89 f53) rfl (w1 := 54) (w2 := 55) (w3 := 45) (w4 := 56) rfl rfl rfl rfl own_pd14 rfl 1 (by decide) rfl (by decide) (Nat.le_of_eq rfl) (by decide) (by decide) (by decide) rfl at_156 ?_
  rintro _ h90 ⟨rfl, K91, f92, f93, f94⟩
  have f95 : n0 ≤ h90.size := Nat.le_trans f73 K91.1
  have f96 : Exa Z h90 a2 "com/example/ring_to_run/ringtorun/TickQueue" := f74.keep K91
  have f97 : Fld Z h90 a2 "com/example/ring_to_run/ringtorun/TickQueue" "levels" "I" (.int (Int32.ofNat M)) := f75.keep K91 (ninS f49 nin0)
  have f98 : Fld Z h90 a2 "com/example/ring_to_run/ringtorun/TickQueue" "heads" "[Lcom/example/ring_to_run/ringtorun/Task;" (.ref aH) := f76.keep K91 (ninS f49 nin0)
  have f99 : Fld Z h90 a2 "com/example/ring_to_run/ringtorun/TickQueue" "tails" "[Lcom/example/ring_to_run/ringtorun/Task;" (.ref aT) := f77.keep K91 (ninS f49 nin0)
  have f100 : Fld Z h90 a2 "com/example/ring_to_run/ringtorun/TickQueue" "occupied" "[J" (.ref aO) := f78.keep K91 (ninS f49 nin0)
  have f101 : Fld Z h90 a2 "com/example/ring_to_run/ringtorun/TickQueue" "start" "J" (.long st) := f79.keep K91 (ninS f49 nin0)
  have f102 : Fld Z h90 a2 "com/example/ring_to_run/ringtorun/TickQueue" "cursor" "J" (.long (Int64.ofNat 0)) := f80.keep K91 (ninS f49 nin0)
  have f103 : own_Af Z h90 aH kH (.object "com/example/ring_to_run/ringtorun/Task") (Int32.ofNat (64 * M)) .null own_h0 := f81.keep K91 (ninS f50 nin0)
  have f104 : own_Af Z h90 aT kT (.object "com/example/ring_to_run/ringtorun/Task") (Int32.ofNat (64 * M)) .null own_h0 := f82.keep K91 (ninS f52 nin0)
  have f105 : own_Af Z h90 aO kO .long (Int32.ofNat M) (.long 0) own_o0 := f83.keep K91 (ninS f51 nin0)
  have f106 : Exa Z h90 a44 "com/example/ring_to_run/ringtorun/Task" := f84.keep K91
  show own_G _ _ _ _ _ _ _ _ 159 #[.val (.long p1), .second, .val (.long p2), .second, .val (.long p3), .second, .val (.long p4), .second, .val (.long p5), .second, .val (.int p6), .val (.long st), .second, .val (.long (Int64.ofNat t)), .second, .val (.long lm), .second, .val (.int (1 : Int32)), .val (.long (Int64.ofNat A)), .second, .val (.long (Int64.ofNat U)), .second, .val (.int (0 : Int32)), .val (.long (0 : Int64)), .second, .val (.ref a2), .unset, .unset, .unset, .unset, .unset, .unset, .unset, .unset, .unset, .unset, .unset, .unset, .unset, .unset, .unset, .unset] [(.ref a44)]
  refine own_astore H rfl #[.val (.long p1), .second, .val (.long p2), .second, .val (.long p3), .second, .val (.long p4), .second, .val (.long p5), .second, .val (.int p6), .val (.long st), .second, .val (.long (Int64.ofNat t)), .second, .val (.long lm), .second, .val (.int (1 : Int32)), .val (.long (Int64.ofNat A)), .second, .val (.long (Int64.ofNat U)), .second, .val (.int (0 : Int32)), .val (.long (0 : Int64)), .second, .val (.ref a2), .val (.ref a44), .unset, .unset, .unset, .unset, .unset, .unset, .unset, .unset, .unset, .unset, .unset, .unset, .unset, .unset, .unset] rfl at_159 ?_
  refine own_new H (w := 43) (wi := 44) (wz := 45) rfl rfl rfl at_161 (by decide) (by decide) ?_
  intro h107 a108 ha109 E110 X111 D112
  have f113 : a2 ≠ a108 := Nat.ne_of_lt (by rw [ha109]; exact f96.lt)
  have f114 : a44 ≠ a108 := Nat.ne_of_lt (by rw [ha109]; exact f106.lt)
  have f115 : aH ≠ a108 := Nat.ne_of_lt (by rw [ha109]; exact f103.lt)
  have f116 : aO ≠ a108 := Nat.ne_of_lt (by rw [ha109]; exact f105.lt)
  have f117 : aT ≠ a108 := Nat.ne_of_lt (by rw [ha109]; exact f104.lt)
  have f118 : n0 ≤ a108 := by rw [ha109]; exact f95
  have f119 : n0 ≤ h107.size := Nat.le_trans f95 E110.1
  have f120 : Exa Z h107 a2 "com/example/ring_to_run/ringtorun/TickQueue" := f96.ext E110
  have f121 : Fld Z h107 a2 "com/example/ring_to_run/ringtorun/TickQueue" "levels" "I" (.int (Int32.ofNat M)) := f97.ext E110
  have f122 : Fld Z h107 a2 "com/example/ring_to_run/ringtorun/TickQueue" "heads" "[Lcom/example/ring_to_run/ringtorun/Task;" (.ref aH) := f98.ext E110
  have f123 : Fld Z h107 a2 "com/example/ring_to_run/ringtorun/TickQueue" "tails" "[Lcom/example/ring_to_run/ringtorun/Task;" (.ref aT) := f99.ext E110
  have f124 : Fld Z h107 a2 "com/example/ring_to_run/ringtorun/TickQueue" "occupied" "[J" (.ref aO) := f100.ext E110
  have f125 : Fld Z h107 a2 "com/example/ring_to_run/ringtorun/TickQueue" "start" "J" (.long st) := f101.ext E110
  have f126 : Fld Z h107 a2 "com/example/ring_to_run/ringtorun/TickQueue" "cursor" "J" (.long (Int64.ofNat 0)) := f102.ext E110
  have f127 : own_Af Z h107 aH kH (.object "com/example/ring_to_run/ringtorun/Task") (Int32.ofNat (64 * M)) .null own_h0 := f103.ext E110
  have f128 : own_Af Z h107 aT kT (.object "com/example/ring_to_run/ringtorun/Task") (Int32.ofNat (64 * M)) .null own_h0 := f104.ext E110
  have f129 : own_Af Z h107 aO kO .long (Int32.ofNat M) (.long 0) own_o0 := f105.ext E110
  have f130 : Exa Z h107 a44 "com/example/ring_to_run/ringtorun/Task" := f106.ext E110
  have f131 : Fld Z h107 a44 "com/example/ring_to_run/ringtorun/Task" "dueInstant" "J" (.long (st + (Int64.ofNat A))) := f92.ext E110
  have f132 : Fld Z h107 a44 "com/example/ring_to_run/ringtorun/Task" "previous" "Lcom/example/ring_to_run/ringtorun/Task;" .null := f93.ext E110
  have f133 : Fld Z h107 a44 "com/example/ring_to_run/ringtorun/Task" "next" "Lcom/example/ring_to_run/ringtorun/Task;" .null := f94.ext E110
  have f134 : Fld Z h107 a108 "com/example/ring_to_run/ringtorun/Task" "id" "Ljava/lang/String;" .null := D112 (Or.inr (own_w H (i := 59) rfl)) (ty := (.object "java/lang/String")) (by decide)
  have f135 : Fld Z h107 a108 "com/example/ring_to_run/ringtorun/Task" "payload" "[B" .null := D112 (Or.inr (own_w H (i := 61) rfl)) (ty := (.array .byte)) (by decide)
  have f136 : Fld Z h107 a108 "com/example/ring_to_run/ringtorun/Task" "dueInstant" "J" (.long (0 : Int64)) := D112 (Or.inr (own_w H (i := 63) rfl)) (ty := .long) (by decide)
  have f137 : Fld Z h107 a108 "com/example/ring_to_run/ringtorun/Task" "previous" "Lcom/example/ring_to_run/ringtorun/Task;" .null := D112 (Or.inl (own_w H (i := 103) rfl)) (ty := (.object "com/example/ring_to_run/ringtorun/Task")) (by decide)
  have f138 : Fld Z h107 a108 "com/example/ring_to_run/ringtorun/Task" "next" "Lcom/example/ring_to_run/ringtorun/Task;" .null := D112 (Or.inl (own_w H (i := 105) rfl)) (ty := (.object "com/example/ring_to_run/ringtorun/Task")) (by decide)
  show own_G _ _ _ _ _ _ _ _ 164 #[.val (.long p1), .second, .val (.long p2), .second, .val (.long p3), .second, .val (.long p4), .second, .val (.long p5), .second, .val (.int p6), .val (.long st), .second, .val (.long (Int64.ofNat t)), .second, .val (.long lm), .second, .val (.int (1 : Int32)), .val (.long (Int64.ofNat A)), .second, .val (.long (Int64.ofNat U)), .second, .val (.int (0 : Int32)), .val (.long (0 : Int64)), .second, .val (.ref a2), .val (.ref a44), .unset, .unset, .unset, .unset, .unset, .unset, .unset, .unset, .unset, .unset, .unset, .unset, .unset, .unset, .unset] [(.ref a108)]
  refine own_dup H rfl at_164 ?_
  refine own_ldcS H D (w := 64) rfl (own_atoms H (f := fun i => [47, 48, 49, 50, 51, 52, 53].getD i.val 0) rfl rfl rfl rfl rfl rfl rfl) 4 (by decide) (by decide) at_165 (by decide) (by decide) ?_
  intro B a140 h139 H D E141
  have f142 : n0 ≤ h139.size := Nat.le_trans f119 E141.1
  have f143 : Exa Z h139 a2 "com/example/ring_to_run/ringtorun/TickQueue" := f120.ext E141
  have f144 : Fld Z h139 a2 "com/example/ring_to_run/ringtorun/TickQueue" "levels" "I" (.int (Int32.ofNat M)) := f121.ext E141
  have f145 : Fld Z h139 a2 "com/example/ring_to_run/ringtorun/TickQueue" "heads" "[Lcom/example/ring_to_run/ringtorun/Task;" (.ref aH) := f122.ext E141
  have f146 : Fld Z h139 a2 "com/example/ring_to_run/ringtorun/TickQueue" "tails" "[Lcom/example/ring_to_run/ringtorun/Task;" (.ref aT) := f123.ext E141
  have f147 : Fld Z h139 a2 "com/example/ring_to_run/ringtorun/TickQueue" "occupied" "[J" (.ref aO) := f124.ext E141
  have f148 : Fld Z h139 a2 "com/example/ring_to_run/ringtorun/TickQueue" "start" "J" (.long st) := f125.ext E141
  have f149 : Fld Z h139 a2 "com/example/ring_to_run/ringtorun/TickQueue" "cursor" "J" (.long (Int64.ofNat 0)) := f126.ext E141
  have f150 : own_Af Z h139 aH kH (.object "com/example/ring_to_run/ringtorun/Task") (Int32.ofNat (64 * M)) .null own_h0 := f127.ext E141
  have f151 : own_Af Z h139 aT kT (.object "com/example/ring_to_run/ringtorun/Task") (Int32.ofNat (64 * M)) .null own_h0 := f128.ext E141
  have f152 : own_Af Z h139 aO kO .long (Int32.ofNat M) (.long 0) own_o0 := f129.ext E141
  have f153 : Exa Z h139 a44 "com/example/ring_to_run/ringtorun/Task" := f130.ext E141
  have f154 : Fld Z h139 a44 "com/example/ring_to_run/ringtorun/Task" "dueInstant" "J" (.long (st + (Int64.ofNat A))) := f131.ext E141
  have f155 : Fld Z h139 a44 "com/example/ring_to_run/ringtorun/Task" "previous" "Lcom/example/ring_to_run/ringtorun/Task;" .null := f132.ext E141
  have f156 : Fld Z h139 a44 "com/example/ring_to_run/ringtorun/Task" "next" "Lcom/example/ring_to_run/ringtorun/Task;" .null := f133.ext E141
  have f157 : Exa Z h139 a108 "com/example/ring_to_run/ringtorun/Task" := X111.ext E141
  have f158 : Fld Z h139 a108 "com/example/ring_to_run/ringtorun/Task" "id" "Ljava/lang/String;" .null := f134.ext E141
  have f159 : Fld Z h139 a108 "com/example/ring_to_run/ringtorun/Task" "payload" "[B" .null := f135.ext E141
  have f160 : Fld Z h139 a108 "com/example/ring_to_run/ringtorun/Task" "dueInstant" "J" (.long (0 : Int64)) := f136.ext E141
  have f161 : Fld Z h139 a108 "com/example/ring_to_run/ringtorun/Task" "previous" "Lcom/example/ring_to_run/ringtorun/Task;" .null := f137.ext E141
  have f162 : Fld Z h139 a108 "com/example/ring_to_run/ringtorun/Task" "next" "Lcom/example/ring_to_run/ringtorun/Task;" .null := f138.ext E141
  show own_G _ _ _ _ _ _ _ _ 167 #[.val (.long p1), .second, .val (.long p2), .second, .val (.long p3), .second, .val (.long p4), .second, .val (.long p5), .second, .val (.int p6), .val (.long st), .second, .val (.long (Int64.ofNat t)), .second, .val (.long lm), .second, .val (.int (1 : Int32)), .val (.long (Int64.ofNat A)), .second, .val (.long (Int64.ofNat U)), .second, .val (.int (0 : Int32)), .val (.long (0 : Int64)), .second, .val (.ref a2), .val (.ref a44), .unset, .unset, .unset, .unset, .unset, .unset, .unset, .unset, .unset, .unset, .unset, .unset, .unset, .unset, .unset] [(.ref a140), (.ref a108), (.ref a108)]
  refine own_aconst_null H at_167 ?_
  refine own_lload H rfl at_168 ?_
  refine own_lload H rfl at_170 ?_
  refine own_ladd H rfl at_172 ?_
  refine own_invokespecial H (a := a108) (argsL := [(.ref a140), .null, (.long (st + (0 : Int64)))]) (rest := [(.ref a108)]) (rmCT l Z a0 (own_hw H) h139 n0 a108 a140 (st + (0 : Int64)) f142 f157 f158 f159 f160 f161 f162 f118) rfl (w1 := 54) (w2 := 55) (w3 := 45) (w4 := 56) rfl rfl rfl rfl own_pd14 rfl 1 (by decide) rfl (by decide) (Nat.le_of_eq rfl) (by decide) (by decide) (by decide) rfl at_173 ?_
  rintro _ h163 ⟨rfl, K164, f165, f166, f167⟩
  have f168 : n0 ≤ h163.size := Nat.le_trans f142 K164.1
  have f169 : Exa Z h163 a2 "com/example/ring_to_run/ringtorun/TickQueue" := f143.keep K164
  have f170 : Fld Z h163 a2 "com/example/ring_to_run/ringtorun/TickQueue" "levels" "I" (.int (Int32.ofNat M)) := f144.keep K164 (ninS f113 nin0)
  have f171 : Fld Z h163 a2 "com/example/ring_to_run/ringtorun/TickQueue" "heads" "[Lcom/example/ring_to_run/ringtorun/Task;" (.ref aH) := f145.keep K164 (ninS f113 nin0)
  have f172 : Fld Z h163 a2 "com/example/ring_to_run/ringtorun/TickQueue" "tails" "[Lcom/example/ring_to_run/ringtorun/Task;" (.ref aT) := f146.keep K164 (ninS f113 nin0)
  have f173 : Fld Z h163 a2 "com/example/ring_to_run/ringtorun/TickQueue" "occupied" "[J" (.ref aO) := f147.keep K164 (ninS f113 nin0)
  have f174 : Fld Z h163 a2 "com/example/ring_to_run/ringtorun/TickQueue" "start" "J" (.long st) := f148.keep K164 (ninS f113 nin0)
  have f175 : Fld Z h163 a2 "com/example/ring_to_run/ringtorun/TickQueue" "cursor" "J" (.long (Int64.ofNat 0)) := f149.keep K164 (ninS f113 nin0)
  have f176 : own_Af Z h163 aH kH (.object "com/example/ring_to_run/ringtorun/Task") (Int32.ofNat (64 * M)) .null own_h0 := f150.keep K164 (ninS f115 nin0)
  have f177 : own_Af Z h163 aT kT (.object "com/example/ring_to_run/ringtorun/Task") (Int32.ofNat (64 * M)) .null own_h0 := f151.keep K164 (ninS f117 nin0)
  have f178 : own_Af Z h163 aO kO .long (Int32.ofNat M) (.long 0) own_o0 := f152.keep K164 (ninS f116 nin0)
  have f179 : Exa Z h163 a44 "com/example/ring_to_run/ringtorun/Task" := f153.keep K164
  have f180 : Fld Z h163 a44 "com/example/ring_to_run/ringtorun/Task" "dueInstant" "J" (.long (st + (Int64.ofNat A))) := f154.keep K164 (ninS f114 nin0)
  have f181 : Fld Z h163 a44 "com/example/ring_to_run/ringtorun/Task" "previous" "Lcom/example/ring_to_run/ringtorun/Task;" .null := f155.keep K164 (ninS f114 nin0)
  have f182 : Fld Z h163 a44 "com/example/ring_to_run/ringtorun/Task" "next" "Lcom/example/ring_to_run/ringtorun/Task;" .null := f156.keep K164 (ninS f114 nin0)
  have f183 : Exa Z h163 a108 "com/example/ring_to_run/ringtorun/Task" := f157.keep K164
  show own_G _ _ _ _ _ _ _ _ 176 #[.val (.long p1), .second, .val (.long p2), .second, .val (.long p3), .second, .val (.long p4), .second, .val (.long p5), .second, .val (.int p6), .val (.long st), .second, .val (.long (Int64.ofNat t)), .second, .val (.long lm), .second, .val (.int (1 : Int32)), .val (.long (Int64.ofNat A)), .second, .val (.long (Int64.ofNat U)), .second, .val (.int (0 : Int32)), .val (.long (0 : Int64)), .second, .val (.ref a2), .val (.ref a44), .unset, .unset, .unset, .unset, .unset, .unset, .unset, .unset, .unset, .unset, .unset, .unset, .unset, .unset, .unset] [(.ref a108)]
  refine own_astore H rfl #[.val (.long p1), .second, .val (.long p2), .second, .val (.long p3), .second, .val (.long p4), .second, .val (.long p5), .second, .val (.int p6), .val (.long st), .second, .val (.long (Int64.ofNat t)), .second, .val (.long lm), .second, .val (.int (1 : Int32)), .val (.long (Int64.ofNat A)), .second, .val (.long (Int64.ofNat U)), .second, .val (.int (0 : Int32)), .val (.long (0 : Int64)), .second, .val (.ref a2), .val (.ref a44), .val (.ref a108), .unset, .unset, .unset, .unset, .unset, .unset, .unset, .unset, .unset, .unset, .unset, .unset, .unset, .unset] rfl at_176 ?_
  refine own_iconst H (1 : Int32) (by decide) at_178 ?_
  refine own_istore H #[.val (.long p1), .second, .val (.long p2), .second, .val (.long p3), .second, .val (.long p4), .second, .val (.long p5), .second, .val (.int p6), .val (.long st), .second, .val (.long (Int64.ofNat t)), .second, .val (.long lm), .second, .val (.int (1 : Int32)), .val (.long (Int64.ofNat A)), .second, .val (.long (Int64.ofNat U)), .second, .val (.int (0 : Int32)), .val (.long (0 : Int64)), .second, .val (.ref a2), .val (.ref a44), .val (.ref a108), .val (.int (1 : Int32)), .unset, .unset, .unset, .unset, .unset, .unset, .unset, .unset, .unset, .unset, .unset, .unset, .unset] rfl at_179 ?_
  refine own_iload H rfl at_181 ?_
  refine own_ifeq_f H at_183 (by decide) ?_
  refine own_aload H rfl rfl at_186 ?_
  refine own_aload H rfl rfl at_188 ?_
  refine own_invokevirtual H (a := a2) (argsL := [(.ref a44)]) (rest := []) (rmAdE l Z a0 (own_hw H) h163 n0 a2 a44 a108 aH aT aO kH kT kO M st (st + (Int64.ofNat A)) (st + (0 : Int64)) (Int64.ofNat 0) own_h0 own_h0 own_o0 .null .null .null .null (own_h1 a44 (own_Kf A (own_Gf A))) (own_h1 a44 (own_Kf A (own_Gf A))) (own_o1 (own_Kf A (own_Gf A))) (own_Kf A (own_Gf A)) (0 : Int64) ⟨⟨f168, f7, f53, f118, z18, z19, z20⟩, ⟨f49, f113, f38, f39, f40, f114, f50.symm, f52.symm, f51.symm, f115.symm, f117.symm, f116.symm, n24, n25, n26⟩, ⟨f169, f179, f183, o36, o37⟩, ⟨f170, f171, f172, f173, f174, f175⟩, ⟨f181, f182, f180⟩, ⟨f166, f167, f165⟩, ⟨f176, f177, f178⟩⟩ hM (own_Klt hLA) rfl rfl (fun _ _ => rfl) (fun _ _ => rfl) (fun i _ => own_g3 _ i) (by rw [own_sc]; exact own_bk0 hA')) f169 (w1 := 81) (w0 := 82) (w5 := 84) (w2 := 83) (w3 := 10) (w4 := 85) rfl rfl rfl rfl rfl rfl own_pd9 rfl 0 (by decide) rfl (by decide) (Nat.le_of_eq rfl) (by decide) (by decide) (by decide) rfl at_190 ?_
  rintro _ h184 ⟨rfl, hQ⟩
  obtain ⟨⟨u185, u186, u187, u188, u189, u190, u191⟩, ⟨u192, u193, u194, u195, u196, u197, u198, u199, u200, u201, u202, u203, u204, u205, u206⟩, ⟨u207, u208, u209, u210, u211⟩, ⟨u212, u213, u214, u215, u216, u217⟩, ⟨u218, u219, u220⟩, ⟨u221, u222, u223⟩, ⟨u224, u225, u226⟩⟩ := hQ
  show own_G _ _ _ _ _ _ _ _ 193 #[.val (.long p1), .second, .val (.long p2), .second, .val (.long p3), .second, .val (.long p4), .second, .val (.long p5), .second, .val (.int p6), .val (.long st), .second, .val (.long (Int64.ofNat t)), .second, .val (.long lm), .second, .val (.int (1 : Int32)), .val (.long (Int64.ofNat A)), .second, .val (.long (Int64.ofNat U)), .second, .val (.int (0 : Int32)), .val (.long (0 : Int64)), .second, .val (.ref a2), .val (.ref a44), .val (.ref a108), .val (.int (1 : Int32)), .unset, .unset, .unset, .unset, .unset, .unset, .unset, .unset, .unset, .unset, .unset, .unset, .unset] []
  refine own_aload H rfl rfl at_193 ?_
  refine own_invokevirtual H (a := a2) (argsL := []) (rest := []) (rmNiL l Z a0 (own_hw H) h184 n0 a2 aO kO M (own_o1 (own_Kf A (own_Gf A))) st (Int64.ofNat 0) (own_Gf A) (FBit (Int32.ofNat (own_Kf A (own_Gf A)))) u207 u212 u215 u226 u216 u217 hM (fun j hj => own_oz hj) hLA (own_os _ _) (own_nt (own_K704 (by omega))).2) u207 (w1 := 65) (w0 := 66) (w5 := 68) (w2 := 67) (w3 := 10) (w4 := 69) rfl rfl rfl rfl rfl rfl own_pd7 rfl 0 (by decide) rfl (by decide) (Nat.le_of_eq rfl) (by decide) (by decide) (by decide) rfl at_195 ?_
  rintro _ _ ⟨rfl, rfl⟩
  show own_G _ _ _ _ _ _ _ _ 198 #[.val (.long p1), .second, .val (.long p2), .second, .val (.long p3), .second, .val (.long p4), .second, .val (.long p5), .second, .val (.int p6), .val (.long st), .second, .val (.long (Int64.ofNat t)), .second, .val (.long lm), .second, .val (.int (1 : Int32)), .val (.long (Int64.ofNat A)), .second, .val (.long (Int64.ofNat U)), .second, .val (.int (0 : Int32)), .val (.long (0 : Int64)), .second, .val (.ref a2), .val (.ref a44), .val (.ref a108), .val (.int (1 : Int32)), .unset, .unset, .unset, .unset, .unset, .unset, .unset, .unset, .unset, .unset, .unset, .unset, .unset] [(.long (st + (FFo (Int32.ofNat (own_Gf A)) (FNtzL (FBit (Int32.ofNat (own_Kf A (own_Gf A))))) (Int64.ofNat 0))))]
  rw [own_nx0 hA']
  show own_G _ _ _ _ _ _ _ _ 198 #[.val (.long p1), .second, .val (.long p2), .second, .val (.long p3), .second, .val (.long p4), .second, .val (.long p5), .second, .val (.int p6), .val (.long st), .second, .val (.long (Int64.ofNat t)), .second, .val (.long lm), .second, .val (.int (1 : Int32)), .val (.long (Int64.ofNat A)), .second, .val (.long (Int64.ofNat U)), .second, .val (.int (0 : Int32)), .val (.long (0 : Int64)), .second, .val (.ref a2), .val (.ref a44), .val (.ref a108), .val (.int (1 : Int32)), .unset, .unset, .unset, .unset, .unset, .unset, .unset, .unset, .unset, .unset, .unset, .unset, .unset] [(.long (st + (Int64.ofNat (own_Rf A (own_Gf A)))))]
  refine own_lstore H #[.val (.long p1), .second, .val (.long p2), .second, .val (.long p3), .second, .val (.long p4), .second, .val (.long p5), .second, .val (.int p6), .val (.long st), .second, .val (.long (Int64.ofNat t)), .second, .val (.long lm), .second, .val (.int (1 : Int32)), .val (.long (Int64.ofNat A)), .second, .val (.long (Int64.ofNat U)), .second, .val (.int (0 : Int32)), .val (.long (0 : Int64)), .second, .val (.ref a2), .val (.ref a44), .val (.ref a108), .val (.int (1 : Int32)), .val (.long (st + (Int64.ofNat (own_Rf A (own_Gf A))))), .second, .unset, .unset, .unset, .unset, .unset, .unset, .unset, .unset, .unset, .unset, .unset] rfl at_198 ?_
  refine own_iload H rfl at_200 ?_
  refine own_ifeq_f H at_202 (by decide) ?_
  refine own_lload H rfl at_205 ?_
  refine own_iload H rfl at_207 ?_
  refine own_ifeq_f H at_209 (by decide) ?_
  refine own_lload H rfl at_212 ?_
  refine own_lload H rfl at_214 ?_
  refine own_lload H rfl at_216 ?_
  refine own_invokestatic H (argsL := [(.long (Int64.ofNat A))]) (rest := [(.long (Int64.ofNat A)), (.long st), (.long (st + (Int64.ofNat (own_Rf A (own_Gf A)))))]) (rmGrp l Z a0 (own_hw H) h184 n0 (Int64.ofNat A)) (w1 := 110) (w2 := 111) (w3 := 112) (w4 := 113) rfl rfl rfl rfl own_pd3 rfl 6 (by decide) rfl (by decide) (Nat.le_of_eq rfl) (by decide) (by decide) (by decide) rfl at_218 ?_
  rintro _ _ ⟨rfl, rfl⟩
  show own_G _ _ _ _ _ _ _ _ 221 #[.val (.long p1), .second, .val (.long p2), .second, .val (.long p3), .second, .val (.long p4), .second, .val (.long p5), .second, .val (.int p6), .val (.long st), .second, .val (.long (Int64.ofNat t)), .second, .val (.long lm), .second, .val (.int (1 : Int32)), .val (.long (Int64.ofNat A)), .second, .val (.long (Int64.ofNat U)), .second, .val (.int (0 : Int32)), .val (.long (0 : Int64)), .second, .val (.ref a2), .val (.ref a44), .val (.ref a108), .val (.int (1 : Int32)), .val (.long (st + (Int64.ofNat (own_Rf A (own_Gf A))))), .second, .unset, .unset, .unset, .unset, .unset, .unset, .unset, .unset, .unset, .unset, .unset] [(.int (FGrp (Int64.ofNat A))), (.long (Int64.ofNat A)), (.long st), (.long (st + (Int64.ofNat (own_Rf A (own_Gf A)))))]
  rw [own_grp hA']
  show own_G _ _ _ _ _ _ _ _ 221 #[.val (.long p1), .second, .val (.long p2), .second, .val (.long p3), .second, .val (.long p4), .second, .val (.long p5), .second, .val (.int p6), .val (.long st), .second, .val (.long (Int64.ofNat t)), .second, .val (.long lm), .second, .val (.int (1 : Int32)), .val (.long (Int64.ofNat A)), .second, .val (.long (Int64.ofNat U)), .second, .val (.int (0 : Int32)), .val (.long (0 : Int64)), .second, .val (.ref a2), .val (.ref a44), .val (.ref a108), .val (.int (1 : Int32)), .val (.long (st + (Int64.ofNat (own_Rf A (own_Gf A))))), .second, .unset, .unset, .unset, .unset, .unset, .unset, .unset, .unset, .unset, .unset, .unset] [(.int (Int32.ofNat (own_Gf A))), (.long (Int64.ofNat A)), (.long st), (.long (st + (Int64.ofNat (own_Rf A (own_Gf A)))))]
  refine own_invokestatic H (argsL := [(.long (Int64.ofNat A)), (.int (Int32.ofNat (own_Gf A)))]) (rest := [(.long st), (.long (st + (Int64.ofNat (own_Rf A (own_Gf A)))))]) (rmRnd l Z a0 (own_hw H) h184 n0 (Int64.ofNat A) (Int32.ofNat (own_Gf A))) (w1 := 114) (w2 := 115) (w3 := 112) (w4 := 116) rfl rfl rfl rfl own_pd5 rfl 4 (by decide) rfl (by decide) (Nat.le_of_eq rfl) (by decide) (by decide) (by decide) rfl at_221 ?_
  rintro _ _ ⟨rfl, rfl⟩
  show own_G _ _ _ _ _ _ _ _ 224 #[.val (.long p1), .second, .val (.long p2), .second, .val (.long p3), .second, .val (.long p4), .second, .val (.long p5), .second, .val (.int p6), .val (.long st), .second, .val (.long (Int64.ofNat t)), .second, .val (.long lm), .second, .val (.int (1 : Int32)), .val (.long (Int64.ofNat A)), .second, .val (.long (Int64.ofNat U)), .second, .val (.int (0 : Int32)), .val (.long (0 : Int64)), .second, .val (.ref a2), .val (.ref a44), .val (.ref a108), .val (.int (1 : Int32)), .val (.long (st + (Int64.ofNat (own_Rf A (own_Gf A))))), .second, .unset, .unset, .unset, .unset, .unset, .unset, .unset, .unset, .unset, .unset, .unset] [(.long (FRnd (Int64.ofNat A) (Int32.ofNat (own_Gf A)))), (.long st), (.long (st + (Int64.ofNat (own_Rf A (own_Gf A)))))]
  rw [own_rnd (k := (own_Gf A)) hA' (by have := own_G10 hA'; omega)]
  show own_G _ _ _ _ _ _ _ _ 224 #[.val (.long p1), .second, .val (.long p2), .second, .val (.long p3), .second, .val (.long p4), .second, .val (.long p5), .second, .val (.int p6), .val (.long st), .second, .val (.long (Int64.ofNat t)), .second, .val (.long lm), .second, .val (.int (1 : Int32)), .val (.long (Int64.ofNat A)), .second, .val (.long (Int64.ofNat U)), .second, .val (.int (0 : Int32)), .val (.long (0 : Int64)), .second, .val (.ref a2), .val (.ref a44), .val (.ref a108), .val (.int (1 : Int32)), .val (.long (st + (Int64.ofNat (own_Rf A (own_Gf A))))), .second, .unset, .unset, .unset, .unset, .unset, .unset, .unset, .unset, .unset, .unset, .unset] [(.long (Int64.ofNat (own_Rf A (own_Gf A)))), (.long st), (.long (st + (Int64.ofNat (own_Rf A (own_Gf A)))))]
  refine own_ladd H rfl at_224 ?_
  refine own_goto H (pc' := 231) at_225 (by decide) (by decide) ?_
  refine own_lcmpne_f H at_231 at_232 rfl ?_
  refine own_iconst H (1 : Int32) (by decide) at_235 ?_
  refine own_goto H (pc' := 240) at_236 (by decide) (by decide) ?_
  refine own_istore H #[.val (.long p1), .second, .val (.long p2), .second, .val (.long p3), .second, .val (.long p4), .second, .val (.long p5), .second, .val (.int p6), .val (.long st), .second, .val (.long (Int64.ofNat t)), .second, .val (.long lm), .second, .val (.int (1 : Int32)), .val (.long (Int64.ofNat A)), .second, .val (.long (Int64.ofNat U)), .second, .val (.int (0 : Int32)), .val (.long (0 : Int64)), .second, .val (.ref a2), .val (.ref a44), .val (.ref a108), .val (.int (1 : Int32)), .val (.long (st + (Int64.ofNat (own_Rf A (own_Gf A))))), .second, .unset, .unset, .unset, .unset, .unset, .unset, .unset, .unset, .unset, .unset, .unset] rfl at_240 ?_
  refine own_aload H rfl rfl at_242 ?_
  refine own_lload H rfl at_244 ?_
  refine own_lload H rfl at_246 ?_
  refine own_ladd H rfl at_248 ?_
  refine own_invokevirtual H (a := a2) (argsL := [(.long (st + (Int64.ofNat U)))]) (rest := []) (rmPo1 l Z a0 (own_hw H) h184 n0 a2 a44 a108 aH aT aO kH kT kO M st (st + (Int64.ofNat A)) (st + (0 : Int64)) .null .null (st + (Int64.ofNat U)) A U ⟨⟨u185, u186, u187, u188, u189, u190, u191⟩, ⟨u192, u193, u194, u195, u196, u197, u198, u199, u200, u201, u202, u203, u204, u205, u206⟩, ⟨u207, u208, u209, u210, u211⟩, ⟨u212, u213, u214, u215, u216, u217⟩, ⟨u218, u219, u220⟩, ⟨u221, u222, u223⟩, ⟨u224, u225, u226⟩⟩ hM hA' hU' hLA (own_sc _ _) (own_sc _ _)) u207 (w1 := 71) (w0 := 72) (w5 := 74) (w2 := 73) (w3 := 10) (w4 := 75) rfl rfl rfl rfl rfl rfl own_pd12 rfl 0 (by decide) rfl (by decide) (Nat.le_of_eq rfl) (by decide) (by decide) (by decide) rfl at_249 ?_
  rintro _ h227 (⟨hle, rfl, hQ⟩ | ⟨hlt, rfl, hQ⟩)
  ·
    obtain ⟨⟨u228, u229, u230, u231, u232, u233, u234⟩, ⟨u235, u236, u237, u238, u239, u240, u241, u242, u243, u244, u245, u246, u247, u248, u249⟩, ⟨u250, u251, u252, u253, u254⟩, ⟨u255, u256, u257, u258, u259, u260⟩, ⟨u261, u262, u263⟩, ⟨u264, u265, u266⟩, ⟨u267, u268, u269⟩⟩ := hQ
    show own_G _ _ _ _ _ _ _ _ 252 #[.val (.long p1), .second, .val (.long p2), .second, .val (.long p3), .second, .val (.long p4), .second, .val (.long p5), .second, .val (.int p6), .val (.long st), .second, .val (.long (Int64.ofNat t)), .second, .val (.long lm), .second, .val (.int (1 : Int32)), .val (.long (Int64.ofNat A)), .second, .val (.long (Int64.ofNat U)), .second, .val (.int (0 : Int32)), .val (.long (0 : Int64)), .second, .val (.ref a2), .val (.ref a44), .val (.ref a108), .val (.int (1 : Int32)), .val (.long (st + (Int64.ofNat (own_Rf A (own_Gf A))))), .second, .unset, .unset, .unset, .unset, .unset, .unset, .unset, .unset, .unset, .unset, .unset] [(.ref a44)]
    have hc1 := own_Rle A 1
    refine own_astore H rfl #[.val (.long p1), .second, .val (.long p2), .second, .val (.long p3), .second, .val (.long p4), .second, .val (.long p5), .second, .val (.int p6), .val (.long st), .second, .val (.long (Int64.ofNat t)), .second, .val (.long lm), .second, .val (.int (1 : Int32)), .val (.long (Int64.ofNat A)), .second, .val (.long (Int64.ofNat U)), .second, .val (.int (0 : Int32)), .val (.long (0 : Int64)), .second, .val (.ref a2), .val (.ref a44), .val (.ref a108), .val (.int (1 : Int32)), .val (.long (st + (Int64.ofNat (own_Rf A (own_Gf A))))), .second, .val (.ref a44), .unset, .unset, .unset, .unset, .unset, .unset, .unset, .unset, .unset, .unset] rfl at_252 ?_
    refine own_iload H rfl at_254 ?_
    refine own_ifeq_f H at_256 (by decide) ?_
    refine own_lload H rfl at_259 ?_
    refine own_lload H rfl at_261 ?_
    refine own_lcmpgt_f H at_263 at_264 (fun z => absurd ((own_lj hU' hA').mp z) (by omega)) ?_
    refine own_iconst H (1 : Int32) (by decide) at_267 ?_
    refine own_goto H (pc' := 272) at_268 (by decide) (by decide) ?_
    refine own_istore H #[.val (.long p1), .second, .val (.long p2), .second, .val (.long p3), .second, .val (.long p4), .second, .val (.long p5), .second, .val (.int p6), .val (.long st), .second, .val (.long (Int64.ofNat t)), .second, .val (.long lm), .second, .val (.int (1 : Int32)), .val (.long (Int64.ofNat A)), .second, .val (.long (Int64.ofNat U)), .second, .val (.int (0 : Int32)), .val (.long (0 : Int64)), .second, .val (.ref a2), .val (.ref a44), .val (.ref a108), .val (.int (1 : Int32)), .val (.long (st + (Int64.ofNat (own_Rf A (own_Gf A))))), .second, .val (.ref a44), .val (.int (1 : Int32)), .unset, .unset, .unset, .unset, .unset, .unset, .unset, .unset, .unset] rfl at_272 ?_
    refine own_iload H rfl at_274 ?_
    refine own_ifeq_f H at_276 (by decide) ?_
    refine own_aload H rfl rfl at_279 ?_
    refine own_iload H rfl at_281 ?_
    refine own_ifeq_f H at_283 (by decide) ?_
    refine own_aload H rfl rfl at_286 ?_
    refine own_goto H (pc' := 292) at_288 (by decide) (by decide) ?_
    refine own_acmpne_f H at_292 rfl rfl rfl ?_
    refine own_iconst H (1 : Int32) (by decide) at_295 ?_
    refine own_goto H (pc' := 300) at_296 (by decide) (by decide) ?_
    refine own_istore H #[.val (.long p1), .second, .val (.long p2), .second, .val (.long p3), .second, .val (.long p4), .second, .val (.long p5), .second, .val (.int p6), .val (.long st), .second, .val (.long (Int64.ofNat t)), .second, .val (.long lm), .second, .val (.int (1 : Int32)), .val (.long (Int64.ofNat A)), .second, .val (.long (Int64.ofNat U)), .second, .val (.int (0 : Int32)), .val (.long (0 : Int64)), .second, .val (.ref a2), .val (.ref a44), .val (.ref a108), .val (.int (1 : Int32)), .val (.long (st + (Int64.ofNat (own_Rf A (own_Gf A))))), .second, .val (.ref a44), .val (.int (1 : Int32)), .unset, .unset, .unset, .unset, .unset, .unset, .unset, .unset, .unset] rfl at_300 ?_
    refine own_iload H rfl at_302 ?_
    refine own_ifne_t H (pc' := 311) at_304 (by decide) (by decide) (by decide) ?_
    refine own_iload H rfl at_311 ?_
    refine own_ifeq_f H at_313 (by decide) ?_
    refine own_lload H rfl at_316 ?_
    refine own_iconst H (1 : Int32) (by decide) at_318 ?_
    refine own_invokestatic H (argsL := [(.long (Int64.ofNat A)), (.int (1 : Int32))]) (rest := []) (rmRnd l Z a0 (own_hw H) h227 n0 (Int64.ofNat A) (1 : Int32)) (w1 := 114) (w2 := 115) (w3 := 112) (w4 := 116) rfl rfl rfl rfl own_pd5 rfl 0 (by decide) rfl (by decide) (Nat.le_of_eq rfl) (by decide) (by decide) (by decide) rfl at_319 ?_
    rintro _ _ ⟨rfl, rfl⟩
    show own_G _ _ _ _ _ _ _ _ 322 #[.val (.long p1), .second, .val (.long p2), .second, .val (.long p3), .second, .val (.long p4), .second, .val (.long p5), .second, .val (.int p6), .val (.long st), .second, .val (.long (Int64.ofNat t)), .second, .val (.long lm), .second, .val (.int (1 : Int32)), .val (.long (Int64.ofNat A)), .second, .val (.long (Int64.ofNat U)), .second, .val (.int (0 : Int32)), .val (.long (0 : Int64)), .second, .val (.ref a2), .val (.ref a44), .val (.ref a108), .val (.int (1 : Int32)), .val (.long (st + (Int64.ofNat (own_Rf A (own_Gf A))))), .second, .val (.ref a44), .val (.int (1 : Int32)), .unset, .unset, .unset, .unset, .unset, .unset, .unset, .unset, .unset] [(.long (FRnd (Int64.ofNat A) (1 : Int32)))]
    rw [show FRnd (Int64.ofNat A) (1 : Int32) = Int64.ofNat (own_Rf A 1) from own_rnd (k := 1) hA' (by omega)]
    show own_G _ _ _ _ _ _ _ _ 322 #[.val (.long p1), .second, .val (.long p2), .second, .val (.long p3), .second, .val (.long p4), .second, .val (.long p5), .second, .val (.int p6), .val (.long st), .second, .val (.long (Int64.ofNat t)), .second, .val (.long lm), .second, .val (.int (1 : Int32)), .val (.long (Int64.ofNat A)), .second, .val (.long (Int64.ofNat U)), .second, .val (.int (0 : Int32)), .val (.long (0 : Int64)), .second, .val (.ref a2), .val (.ref a44), .val (.ref a108), .val (.int (1 : Int32)), .val (.long (st + (Int64.ofNat (own_Rf A (own_Gf A))))), .second, .val (.ref a44), .val (.int (1 : Int32)), .unset, .unset, .unset, .unset, .unset, .unset, .unset, .unset, .unset] [(.long (Int64.ofNat (own_Rf A 1)))]
    refine own_goto H (pc' := 340) at_322 (by decide) (by decide) ?_
    refine own_lstore H #[.val (.long p1), .second, .val (.long p2), .second, .val (.long p3), .second, .val (.long p4), .second, .val (.long p5), .second, .val (.int p6), .val (.long st), .second, .val (.long (Int64.ofNat t)), .second, .val (.long lm), .second, .val (.int (1 : Int32)), .val (.long (Int64.ofNat A)), .second, .val (.long (Int64.ofNat U)), .second, .val (.int (0 : Int32)), .val (.long (0 : Int64)), .second, .val (.ref a2), .val (.ref a44), .val (.ref a108), .val (.int (1 : Int32)), .val (.long (st + (Int64.ofNat (own_Rf A (own_Gf A))))), .second, .val (.ref a44), .val (.int (1 : Int32)), .val (.long (Int64.ofNat (own_Rf A 1))), .second, .unset, .unset, .unset, .unset, .unset, .unset, .unset] rfl at_340 ?_
    refine own_iload H rfl at_342 ?_
    refine own_ifeq_f H at_344 (by decide) ?_
    refine own_iload H rfl at_347 ?_
    refine own_ifne_t H (pc' := 356) at_349 (by decide) (by decide) (by decide) ?_
    refine own_iconst H (0 : Int32) (by decide) at_356 ?_
    refine own_istore H #[.val (.long p1), .second, .val (.long p2), .second, .val (.long p3), .second, .val (.long p4), .second, .val (.long p5), .second, .val (.int p6), .val (.long st), .second, .val (.long (Int64.ofNat t)), .second, .val (.long lm), .second, .val (.int (1 : Int32)), .val (.long (Int64.ofNat A)), .second, .val (.long (Int64.ofNat U)), .second, .val (.int (0 : Int32)), .val (.long (0 : Int64)), .second, .val (.ref a2), .val (.ref a44), .val (.ref a108), .val (.int (1 : Int32)), .val (.long (st + (Int64.ofNat (own_Rf A (own_Gf A))))), .second, .val (.ref a44), .val (.int (1 : Int32)), .val (.long (Int64.ofNat (own_Rf A 1))), .second, .val (.int (0 : Int32)), .unset, .unset, .unset, .unset, .unset, .unset] rfl at_357 ?_
    refine own_iload H rfl at_359 ?_
    refine own_ifeq_t H (pc' := 380) at_361 (by decide) (by decide) (by decide) ?_
    refine own_lconst H (0 : Int64) (by decide) at_380 ?_
    refine own_lstore H #[.val (.long p1), .second, .val (.long p2), .second, .val (.long p3), .second, .val (.long p4), .second, .val (.long p5), .second, .val (.int p6), .val (.long st), .second, .val (.long (Int64.ofNat t)), .second, .val (.long lm), .second, .val (.int (1 : Int32)), .val (.long (Int64.ofNat A)), .second, .val (.long (Int64.ofNat U)), .second, .val (.int (0 : Int32)), .val (.long (0 : Int64)), .second, .val (.ref a2), .val (.ref a44), .val (.ref a108), .val (.int (1 : Int32)), .val (.long (st + (Int64.ofNat (own_Rf A (own_Gf A))))), .second, .val (.ref a44), .val (.int (1 : Int32)), .val (.long (Int64.ofNat (own_Rf A 1))), .second, .val (.int (0 : Int32)), .val (.long (0 : Int64)), .second, .unset, .unset, .unset, .unset] rfl at_381 ?_
    refine own_iload H rfl at_383 ?_
    refine own_ifeq_t H (pc' := 395) at_385 (by decide) (by decide) (by decide) ?_
    refine own_iload H rfl at_395 ?_
    refine own_ifeq_t H (pc' := 416) at_397 (by decide) (by decide) (by decide) ?_
    refine own_lconst H (0 : Int64) (by decide) at_416 ?_
    refine own_lstore H #[.val (.long p1), .second, .val (.long p2), .second, .val (.long p3), .second, .val (.long p4), .second, .val (.long p5), .second, .val (.int p6), .val (.long st), .second, .val (.long (Int64.ofNat t)), .second, .val (.long lm), .second, .val (.int (1 : Int32)), .val (.long (Int64.ofNat A)), .second, .val (.long (Int64.ofNat U)), .second, .val (.int (0 : Int32)), .val (.long (0 : Int64)), .second, .val (.ref a2), .val (.ref a44), .val (.ref a108), .val (.int (1 : Int32)), .val (.long (st + (Int64.ofNat (own_Rf A (own_Gf A))))), .second, .val (.ref a44), .val (.int (1 : Int32)), .val (.long (Int64.ofNat (own_Rf A 1))), .second, .val (.int (0 : Int32)), .val (.long (0 : Int64)), .second, .val (.long (0 : Int64)), .second, .unset, .unset] rfl at_417 ?_
    refine own_iload H rfl at_419 ?_
    refine own_ifeq_t H (pc' := 444) at_421 (by decide) (by decide) (by decide) ?_
    refine own_iload H rfl at_444 ?_
    refine own_ifeq_t H (pc' := 459) at_446 (by decide) (by decide) (by decide) ?_
    refine own_iload H rfl at_459 ?_
    refine own_ifeq_t H (pc' := 474) at_461 (by decide) (by decide) (by decide) ?_
    refine own_ldc2J H (w := 0) rfl at_474 ?_
    refine own_lstore H #[.val (.long p1), .second, .val (.long p2), .second, .val (.long p3), .second, .val (.long p4), .second, .val (.long p5), .second, .val (.int p6), .val (.long st), .second, .val (.long (Int64.ofNat t)), .second, .val (.long lm), .second, .val (.int (1 : Int32)), .val (.long (Int64.ofNat A)), .second, .val (.long (Int64.ofNat U)), .second, .val (.int (0 : Int32)), .val (.long (0 : Int64)), .second, .val (.ref a2), .val (.ref a44), .val (.ref a108), .val (.int (1 : Int32)), .val (.long (st + (Int64.ofNat (own_Rf A (own_Gf A))))), .second, .val (.ref a44), .val (.int (1 : Int32)), .val (.long (Int64.ofNat (own_Rf A 1))), .second, .val (.int (0 : Int32)), .val (.long (0 : Int64)), .second, .val (.long (0 : Int64)), .second, .val (.long (9223372036854775807 : Int64)), .second] rfl at_477 ?_
    refine own_iload H rfl at_479 ?_
    refine own_ifeq_f H at_481 (by decide) ?_
    refine own_aload H rfl rfl at_484 ?_
    refine own_invokevirtual H (a := a2) (argsL := []) (rest := []) (rmNiM l Z a0 (own_hw H) h227 n0 a2 aO kO M own_o0 st (Int64.ofNat (own_Rf A 1)) u250 u255 u258 u269 u259 u260 hM (fun _ _ => rfl)) u250 (w1 := 65) (w0 := 66) (w5 := 68) (w2 := 67) (w3 := 10) (w4 := 69) rfl rfl rfl rfl rfl rfl own_pd7 rfl 0 (by decide) rfl (by decide) (Nat.le_of_eq rfl) (by decide) (by decide) (by decide) rfl at_486 ?_
    rintro _ _ ⟨rfl, rfl⟩
    show own_G _ _ _ _ _ _ _ _ 489 #[.val (.long p1), .second, .val (.long p2), .second, .val (.long p3), .second, .val (.long p4), .second, .val (.long p5), .second, .val (.int p6), .val (.long st), .second, .val (.long (Int64.ofNat t)), .second, .val (.long lm), .second, .val (.int (1 : Int32)), .val (.long (Int64.ofNat A)), .second, .val (.long (Int64.ofNat U)), .second, .val (.int (0 : Int32)), .val (.long (0 : Int64)), .second, .val (.ref a2), .val (.ref a44), .val (.ref a108), .val (.int (1 : Int32)), .val (.long (st + (Int64.ofNat (own_Rf A (own_Gf A))))), .second, .val (.ref a44), .val (.int (1 : Int32)), .val (.long (Int64.ofNat (own_Rf A 1))), .second, .val (.int (0 : Int32)), .val (.long (0 : Int64)), .second, .val (.long (0 : Int64)), .second, .val (.long (9223372036854775807 : Int64)), .second] [(.long (9223372036854775807 : Int64))]
    refine own_lload H rfl at_489 ?_
    refine own_lcmpne_f H at_491 at_492 (by decide) ?_
    refine own_iconst H (1 : Int32) (by decide) at_495 ?_
    refine own_goto H (pc' := 500) at_496 (by decide) (by decide) ?_
    exact own_ireturn H (by simp) (by decide) at_500 (by decide) (by decide) rfl
  ·
    obtain ⟨⟨u270, u271, u272, u273, u274, u275, u276⟩, ⟨u277, u278, u279, u280, u281, u282, u283, u284, u285, u286, u287, u288, u289, u290, u291⟩, ⟨u292, u293, u294, u295, u296⟩, ⟨u297, u298, u299, u300, u301, u302⟩, ⟨u303, u304, u305⟩, ⟨u306, u307, u308⟩, ⟨u309, u310, u311⟩⟩ := hQ
    show own_G _ _ _ _ _ _ _ _ 252 #[.val (.long p1), .second, .val (.long p2), .second, .val (.long p3), .second, .val (.long p4), .second, .val (.long p5), .second, .val (.int p6), .val (.long st), .second, .val (.long (Int64.ofNat t)), .second, .val (.long lm), .second, .val (.int (1 : Int32)), .val (.long (Int64.ofNat A)), .second, .val (.long (Int64.ofNat U)), .second, .val (.int (0 : Int32)), .val (.long (0 : Int64)), .second, .val (.ref a2), .val (.ref a44), .val (.ref a108), .val (.int (1 : Int32)), .val (.long (st + (Int64.ofNat (own_Rf A (own_Gf A))))), .second, .unset, .unset, .unset, .unset, .unset, .unset, .unset, .unset, .unset, .unset, .unset] [.null]
    obtain ⟨hg, hcU⟩ := own_invU hlt
    have hLU : (own_Gf (A ^^^ U)) < M := by rw [← hMe]; exact own_GM (by omega) (by omega)
    refine own_astore H rfl #[.val (.long p1), .second, .val (.long p2), .second, .val (.long p3), .second, .val (.long p4), .second, .val (.long p5), .second, .val (.int p6), .val (.long st), .second, .val (.long (Int64.ofNat t)), .second, .val (.long lm), .second, .val (.int (1 : Int32)), .val (.long (Int64.ofNat A)), .second, .val (.long (Int64.ofNat U)), .second, .val (.int (0 : Int32)), .val (.long (0 : Int64)), .second, .val (.ref a2), .val (.ref a44), .val (.ref a108), .val (.int (1 : Int32)), .val (.long (st + (Int64.ofNat (own_Rf A (own_Gf A))))), .second, .val .null, .unset, .unset, .unset, .unset, .unset, .unset, .unset, .unset, .unset, .unset] rfl at_252 ?_
    refine own_iload H rfl at_254 ?_
    refine own_ifeq_f H at_256 (by decide) ?_
    refine own_lload H rfl at_259 ?_
    refine own_lload H rfl at_261 ?_
    refine own_lcmpgt_t H (pc' := 271) at_263 at_264 (by decide) (by decide) ((own_lj hU' hA').mpr hlt) ?_
    refine own_iconst H (0 : Int32) (by decide) at_271 ?_
    refine own_istore H #[.val (.long p1), .second, .val (.long p2), .second, .val (.long p3), .second, .val (.long p4), .second, .val (.long p5), .second, .val (.int p6), .val (.long st), .second, .val (.long (Int64.ofNat t)), .second, .val (.long lm), .second, .val (.int (1 : Int32)), .val (.long (Int64.ofNat A)), .second, .val (.long (Int64.ofNat U)), .second, .val (.int (0 : Int32)), .val (.long (0 : Int64)), .second, .val (.ref a2), .val (.ref a44), .val (.ref a108), .val (.int (1 : Int32)), .val (.long (st + (Int64.ofNat (own_Rf A (own_Gf A))))), .second, .val .null, .val (.int (0 : Int32)), .unset, .unset, .unset, .unset, .unset, .unset, .unset, .unset, .unset] rfl at_272 ?_
    refine own_iload H rfl at_274 ?_
    refine own_ifeq_f H at_276 (by decide) ?_
    refine own_aload H rfl rfl at_279 ?_
    refine own_iload H rfl at_281 ?_
    refine own_ifeq_t H (pc' := 291) at_283 (by decide) (by decide) (by decide) ?_
    refine own_aconst_null H at_291 ?_
    refine own_acmpne_f H at_292 rfl rfl rfl ?_
    refine own_iconst H (1 : Int32) (by decide) at_295 ?_
    refine own_goto H (pc' := 300) at_296 (by decide) (by decide) ?_
    refine own_istore H #[.val (.long p1), .second, .val (.long p2), .second, .val (.long p3), .second, .val (.long p4), .second, .val (.long p5), .second, .val (.int p6), .val (.long st), .second, .val (.long (Int64.ofNat t)), .second, .val (.long lm), .second, .val (.int (1 : Int32)), .val (.long (Int64.ofNat A)), .second, .val (.long (Int64.ofNat U)), .second, .val (.int (0 : Int32)), .val (.long (0 : Int64)), .second, .val (.ref a2), .val (.ref a44), .val (.ref a108), .val (.int (1 : Int32)), .val (.long (st + (Int64.ofNat (own_Rf A (own_Gf A))))), .second, .val .null, .val (.int (0 : Int32)), .unset, .unset, .unset, .unset, .unset, .unset, .unset, .unset, .unset] rfl at_300 ?_
    refine own_iload H rfl at_302 ?_
    refine own_ifne_t H (pc' := 311) at_304 (by decide) (by decide) (by decide) ?_
    refine own_iload H rfl at_311 ?_
    refine own_ifeq_t H (pc' := 325) at_313 (by decide) (by decide) (by decide) ?_
    refine own_lload H rfl at_325 ?_
    refine own_lload H rfl at_327 ?_
    refine own_lload H rfl at_329 ?_
    refine own_lxor H rfl at_331 ?_
    rw [own_xr A U]
    show own_G _ _ _ _ _ _ _ _ 332 #[.val (.long p1), .second, .val (.long p2), .second, .val (.long p3), .second, .val (.long p4), .second, .val (.long p5), .second, .val (.int p6), .val (.long st), .second, .val (.long (Int64.ofNat t)), .second, .val (.long lm), .second, .val (.int (1 : Int32)), .val (.long (Int64.ofNat A)), .second, .val (.long (Int64.ofNat U)), .second, .val (.int (0 : Int32)), .val (.long (0 : Int64)), .second, .val (.ref a2), .val (.ref a44), .val (.ref a108), .val (.int (1 : Int32)), .val (.long (st + (Int64.ofNat (own_Rf A (own_Gf A))))), .second, .val .null, .val (.int (0 : Int32)), .unset, .unset, .unset, .unset, .unset, .unset, .unset, .unset, .unset] [(.long (Int64.ofNat (A ^^^ U))), (.long (Int64.ofNat A))]
    refine own_invokestatic H (argsL := [(.long (Int64.ofNat (A ^^^ U)))]) (rest := [(.long (Int64.ofNat A))]) (rmGrp l Z a0 (own_hw H) h227 n0 (Int64.ofNat (A ^^^ U))) (w1 := 110) (w2 := 111) (w3 := 112) (w4 := 113) rfl rfl rfl rfl own_pd3 rfl 2 (by decide) rfl (by decide) (Nat.le_of_eq rfl) (by decide) (by decide) (by decide) rfl at_332 ?_
    rintro _ _ ⟨rfl, rfl⟩
    show own_G _ _ _ _ _ _ _ _ 335 #[.val (.long p1), .second, .val (.long p2), .second, .val (.long p3), .second, .val (.long p4), .second, .val (.long p5), .second, .val (.int p6), .val (.long st), .second, .val (.long (Int64.ofNat t)), .second, .val (.long lm), .second, .val (.int (1 : Int32)), .val (.long (Int64.ofNat A)), .second, .val (.long (Int64.ofNat U)), .second, .val (.int (0 : Int32)), .val (.long (0 : Int64)), .second, .val (.ref a2), .val (.ref a44), .val (.ref a108), .val (.int (1 : Int32)), .val (.long (st + (Int64.ofNat (own_Rf A (own_Gf A))))), .second, .val .null, .val (.int (0 : Int32)), .unset, .unset, .unset, .unset, .unset, .unset, .unset, .unset, .unset] [(.int (FGrp (Int64.ofNat (A ^^^ U)))), (.long (Int64.ofNat A))]
    rw [own_grp (Nat.xor_lt_two_pow hA' hU')]
    show own_G _ _ _ _ _ _ _ _ 335 #[.val (.long p1), .second, .val (.long p2), .second, .val (.long p3), .second, .val (.long p4), .second, .val (.long p5), .second, .val (.int p6), .val (.long st), .second, .val (.long (Int64.ofNat t)), .second, .val (.long lm), .second, .val (.int (1 : Int32)), .val (.long (Int64.ofNat A)), .second, .val (.long (Int64.ofNat U)), .second, .val (.int (0 : Int32)), .val (.long (0 : Int64)), .second, .val (.ref a2), .val (.ref a44), .val (.ref a108), .val (.int (1 : Int32)), .val (.long (st + (Int64.ofNat (own_Rf A (own_Gf A))))), .second, .val .null, .val (.int (0 : Int32)), .unset, .unset, .unset, .unset, .unset, .unset, .unset, .unset, .unset] [(.int (Int32.ofNat (own_Gf (A ^^^ U)))), (.long (Int64.ofNat A))]
    refine own_iconst H (1 : Int32) (by decide) at_335 ?_
    refine own_iadd H rfl at_336 ?_
    rw [own_in]
    show own_G _ _ _ _ _ _ _ _ 337 #[.val (.long p1), .second, .val (.long p2), .second, .val (.long p3), .second, .val (.long p4), .second, .val (.long p5), .second, .val (.int p6), .val (.long st), .second, .val (.long (Int64.ofNat t)), .second, .val (.long lm), .second, .val (.int (1 : Int32)), .val (.long (Int64.ofNat A)), .second, .val (.long (Int64.ofNat U)), .second, .val (.int (0 : Int32)), .val (.long (0 : Int64)), .second, .val (.ref a2), .val (.ref a44), .val (.ref a108), .val (.int (1 : Int32)), .val (.long (st + (Int64.ofNat (own_Rf A (own_Gf A))))), .second, .val .null, .val (.int (0 : Int32)), .unset, .unset, .unset, .unset, .unset, .unset, .unset, .unset, .unset] [(.int (Int32.ofNat ((own_Gf (A ^^^ U)) + 1))), (.long (Int64.ofNat A))]
    refine own_invokestatic H (argsL := [(.long (Int64.ofNat A)), (.int (Int32.ofNat ((own_Gf (A ^^^ U)) + 1)))]) (rest := []) (rmRnd l Z a0 (own_hw H) h227 n0 (Int64.ofNat A) (Int32.ofNat ((own_Gf (A ^^^ U)) + 1))) (w1 := 114) (w2 := 115) (w3 := 112) (w4 := 116) rfl rfl rfl rfl own_pd5 rfl 0 (by decide) rfl (by decide) (Nat.le_of_eq rfl) (by decide) (by decide) (by decide) rfl at_337 ?_
    rintro _ _ ⟨rfl, rfl⟩
    show own_G _ _ _ _ _ _ _ _ 340 #[.val (.long p1), .second, .val (.long p2), .second, .val (.long p3), .second, .val (.long p4), .second, .val (.long p5), .second, .val (.int p6), .val (.long st), .second, .val (.long (Int64.ofNat t)), .second, .val (.long lm), .second, .val (.int (1 : Int32)), .val (.long (Int64.ofNat A)), .second, .val (.long (Int64.ofNat U)), .second, .val (.int (0 : Int32)), .val (.long (0 : Int64)), .second, .val (.ref a2), .val (.ref a44), .val (.ref a108), .val (.int (1 : Int32)), .val (.long (st + (Int64.ofNat (own_Rf A (own_Gf A))))), .second, .val .null, .val (.int (0 : Int32)), .unset, .unset, .unset, .unset, .unset, .unset, .unset, .unset, .unset] [(.long (FRnd (Int64.ofNat A) (Int32.ofNat ((own_Gf (A ^^^ U)) + 1))))]
    rw [own_rnd (k := ((own_Gf (A ^^^ U)) + 1)) hA' (by have := own_G10 (Nat.xor_lt_two_pow hA' hU'); omega)]
    show own_G _ _ _ _ _ _ _ _ 340 #[.val (.long p1), .second, .val (.long p2), .second, .val (.long p3), .second, .val (.long p4), .second, .val (.long p5), .second, .val (.int p6), .val (.long st), .second, .val (.long (Int64.ofNat t)), .second, .val (.long lm), .second, .val (.int (1 : Int32)), .val (.long (Int64.ofNat A)), .second, .val (.long (Int64.ofNat U)), .second, .val (.int (0 : Int32)), .val (.long (0 : Int64)), .second, .val (.ref a2), .val (.ref a44), .val (.ref a108), .val (.int (1 : Int32)), .val (.long (st + (Int64.ofNat (own_Rf A (own_Gf A))))), .second, .val .null, .val (.int (0 : Int32)), .unset, .unset, .unset, .unset, .unset, .unset, .unset, .unset, .unset] [(.long (Int64.ofNat (own_Rf A ((own_Gf (A ^^^ U)) + 1))))]
    refine own_lstore H #[.val (.long p1), .second, .val (.long p2), .second, .val (.long p3), .second, .val (.long p4), .second, .val (.long p5), .second, .val (.int p6), .val (.long st), .second, .val (.long (Int64.ofNat t)), .second, .val (.long lm), .second, .val (.int (1 : Int32)), .val (.long (Int64.ofNat A)), .second, .val (.long (Int64.ofNat U)), .second, .val (.int (0 : Int32)), .val (.long (0 : Int64)), .second, .val (.ref a2), .val (.ref a44), .val (.ref a108), .val (.int (1 : Int32)), .val (.long (st + (Int64.ofNat (own_Rf A (own_Gf A))))), .second, .val .null, .val (.int (0 : Int32)), .val (.long (Int64.ofNat (own_Rf A ((own_Gf (A ^^^ U)) + 1)))), .second, .unset, .unset, .unset, .unset, .unset, .unset, .unset] rfl at_340 ?_
    refine own_iload H rfl at_342 ?_
    refine own_ifeq_f H at_344 (by decide) ?_
    refine own_iload H rfl at_347 ?_
    refine own_ifne_f H at_349 (by decide) ?_
    refine own_iconst H (1 : Int32) (by decide) at_352 ?_
    refine own_goto H (pc' := 357) at_353 (by decide) (by decide) ?_
    refine own_istore H #[.val (.long p1), .second, .val (.long p2), .second, .val (.long p3), .second, .val (.long p4), .second, .val (.long p5), .second, .val (.int p6), .val (.long st), .second, .val (.long (Int64.ofNat t)), .second, .val (.long lm), .second, .val (.int (1 : Int32)), .val (.long (Int64.ofNat A)), .second, .val (.long (Int64.ofNat U)), .second, .val (.int (0 : Int32)), .val (.long (0 : Int64)), .second, .val (.ref a2), .val (.ref a44), .val (.ref a108), .val (.int (1 : Int32)), .val (.long (st + (Int64.ofNat (own_Rf A (own_Gf A))))), .second, .val .null, .val (.int (0 : Int32)), .val (.long (Int64.ofNat (own_Rf A ((own_Gf (A ^^^ U)) + 1)))), .second, .val (.int (1 : Int32)), .unset, .unset, .unset, .unset, .unset, .unset] rfl at_357 ?_
    refine own_iload H rfl at_359 ?_
    refine own_ifeq_f H at_361 (by decide) ?_
    refine own_lload H rfl at_364 ?_
    refine own_lload H rfl at_366 ?_
    refine own_lload H rfl at_368 ?_
    refine own_lxor H rfl at_370 ?_
    rw [own_xr A U]
    show own_G _ _ _ _ _ _ _ _ 371 #[.val (.long p1), .second, .val (.long p2), .second, .val (.long p3), .second, .val (.long p4), .second, .val (.long p5), .second, .val (.int p6), .val (.long st), .second, .val (.long (Int64.ofNat t)), .second, .val (.long lm), .second, .val (.int (1 : Int32)), .val (.long (Int64.ofNat A)), .second, .val (.long (Int64.ofNat U)), .second, .val (.int (0 : Int32)), .val (.long (0 : Int64)), .second, .val (.ref a2), .val (.ref a44), .val (.ref a108), .val (.int (1 : Int32)), .val (.long (st + (Int64.ofNat (own_Rf A (own_Gf A))))), .second, .val .null, .val (.int (0 : Int32)), .val (.long (Int64.ofNat (own_Rf A ((own_Gf (A ^^^ U)) + 1)))), .second, .val (.int (1 : Int32)), .unset, .unset, .unset, .unset, .unset, .unset] [(.long (Int64.ofNat (A ^^^ U))), (.long (Int64.ofNat A))]
    refine own_invokestatic H (argsL := [(.long (Int64.ofNat (A ^^^ U)))]) (rest := [(.long (Int64.ofNat A))]) (rmGrp l Z a0 (own_hw H) h227 n0 (Int64.ofNat (A ^^^ U))) (w1 := 110) (w2 := 111) (w3 := 112) (w4 := 113) rfl rfl rfl rfl own_pd3 rfl 2 (by decide) rfl (by decide) (Nat.le_of_eq rfl) (by decide) (by decide) (by decide) rfl at_371 ?_
    rintro _ _ ⟨rfl, rfl⟩
    show own_G _ _ _ _ _ _ _ _ 374 #[.val (.long p1), .second, .val (.long p2), .second, .val (.long p3), .second, .val (.long p4), .second, .val (.long p5), .second, .val (.int p6), .val (.long st), .second, .val (.long (Int64.ofNat t)), .second, .val (.long lm), .second, .val (.int (1 : Int32)), .val (.long (Int64.ofNat A)), .second, .val (.long (Int64.ofNat U)), .second, .val (.int (0 : Int32)), .val (.long (0 : Int64)), .second, .val (.ref a2), .val (.ref a44), .val (.ref a108), .val (.int (1 : Int32)), .val (.long (st + (Int64.ofNat (own_Rf A (own_Gf A))))), .second, .val .null, .val (.int (0 : Int32)), .val (.long (Int64.ofNat (own_Rf A ((own_Gf (A ^^^ U)) + 1)))), .second, .val (.int (1 : Int32)), .unset, .unset, .unset, .unset, .unset, .unset] [(.int (FGrp (Int64.ofNat (A ^^^ U)))), (.long (Int64.ofNat A))]
    rw [own_grp (Nat.xor_lt_two_pow hA' hU')]
    show own_G _ _ _ _ _ _ _ _ 374 #[.val (.long p1), .second, .val (.long p2), .second, .val (.long p3), .second, .val (.long p4), .second, .val (.long p5), .second, .val (.int p6), .val (.long st), .second, .val (.long (Int64.ofNat t)), .second, .val (.long lm), .second, .val (.int (1 : Int32)), .val (.long (Int64.ofNat A)), .second, .val (.long (Int64.ofNat U)), .second, .val (.int (0 : Int32)), .val (.long (0 : Int64)), .second, .val (.ref a2), .val (.ref a44), .val (.ref a108), .val (.int (1 : Int32)), .val (.long (st + (Int64.ofNat (own_Rf A (own_Gf A))))), .second, .val .null, .val (.int (0 : Int32)), .val (.long (Int64.ofNat (own_Rf A ((own_Gf (A ^^^ U)) + 1)))), .second, .val (.int (1 : Int32)), .unset, .unset, .unset, .unset, .unset, .unset] [(.int (Int32.ofNat (own_Gf (A ^^^ U)))), (.long (Int64.ofNat A))]
    refine own_invokestatic H (argsL := [(.long (Int64.ofNat A)), (.int (Int32.ofNat (own_Gf (A ^^^ U))))]) (rest := []) (rmRnd l Z a0 (own_hw H) h227 n0 (Int64.ofNat A) (Int32.ofNat (own_Gf (A ^^^ U)))) (w1 := 114) (w2 := 115) (w3 := 112) (w4 := 116) rfl rfl rfl rfl own_pd5 rfl 0 (by decide) rfl (by decide) (Nat.le_of_eq rfl) (by decide) (by decide) (by decide) rfl at_374 ?_
    rintro _ _ ⟨rfl, rfl⟩
    show own_G _ _ _ _ _ _ _ _ 377 #[.val (.long p1), .second, .val (.long p2), .second, .val (.long p3), .second, .val (.long p4), .second, .val (.long p5), .second, .val (.int p6), .val (.long st), .second, .val (.long (Int64.ofNat t)), .second, .val (.long lm), .second, .val (.int (1 : Int32)), .val (.long (Int64.ofNat A)), .second, .val (.long (Int64.ofNat U)), .second, .val (.int (0 : Int32)), .val (.long (0 : Int64)), .second, .val (.ref a2), .val (.ref a44), .val (.ref a108), .val (.int (1 : Int32)), .val (.long (st + (Int64.ofNat (own_Rf A (own_Gf A))))), .second, .val .null, .val (.int (0 : Int32)), .val (.long (Int64.ofNat (own_Rf A ((own_Gf (A ^^^ U)) + 1)))), .second, .val (.int (1 : Int32)), .unset, .unset, .unset, .unset, .unset, .unset] [(.long (FRnd (Int64.ofNat A) (Int32.ofNat (own_Gf (A ^^^ U)))))]
    rw [own_rnd (k := (own_Gf (A ^^^ U))) hA' (by have := own_G10 (Nat.xor_lt_two_pow hA' hU'); omega)]
    show own_G _ _ _ _ _ _ _ _ 377 #[.val (.long p1), .second, .val (.long p2), .second, .val (.long p3), .second, .val (.long p4), .second, .val (.long p5), .second, .val (.int p6), .val (.long st), .second, .val (.long (Int64.ofNat t)), .second, .val (.long lm), .second, .val (.int (1 : Int32)), .val (.long (Int64.ofNat A)), .second, .val (.long (Int64.ofNat U)), .second, .val (.int (0 : Int32)), .val (.long (0 : Int64)), .second, .val (.ref a2), .val (.ref a44), .val (.ref a108), .val (.int (1 : Int32)), .val (.long (st + (Int64.ofNat (own_Rf A (own_Gf A))))), .second, .val .null, .val (.int (0 : Int32)), .val (.long (Int64.ofNat (own_Rf A ((own_Gf (A ^^^ U)) + 1)))), .second, .val (.int (1 : Int32)), .unset, .unset, .unset, .unset, .unset, .unset] [(.long (Int64.ofNat (own_Rf A (own_Gf (A ^^^ U)))))]
    refine own_goto H (pc' := 381) at_377 (by decide) (by decide) ?_
    refine own_lstore H #[.val (.long p1), .second, .val (.long p2), .second, .val (.long p3), .second, .val (.long p4), .second, .val (.long p5), .second, .val (.int p6), .val (.long st), .second, .val (.long (Int64.ofNat t)), .second, .val (.long lm), .second, .val (.int (1 : Int32)), .val (.long (Int64.ofNat A)), .second, .val (.long (Int64.ofNat U)), .second, .val (.int (0 : Int32)), .val (.long (0 : Int64)), .second, .val (.ref a2), .val (.ref a44), .val (.ref a108), .val (.int (1 : Int32)), .val (.long (st + (Int64.ofNat (own_Rf A (own_Gf A))))), .second, .val .null, .val (.int (0 : Int32)), .val (.long (Int64.ofNat (own_Rf A ((own_Gf (A ^^^ U)) + 1)))), .second, .val (.int (1 : Int32)), .val (.long (Int64.ofNat (own_Rf A (own_Gf (A ^^^ U))))), .second, .unset, .unset, .unset, .unset] rfl at_381 ?_
    refine own_iload H rfl at_383 ?_
    refine own_ifeq_t H (pc' := 395) at_385 (by decide) (by decide) (by decide) ?_
    refine own_iload H rfl at_395 ?_
    refine own_ifeq_t H (pc' := 416) at_397 (by decide) (by decide) (by decide) ?_
    refine own_lconst H (0 : Int64) (by decide) at_416 ?_
    refine own_lstore H #[.val (.long p1), .second, .val (.long p2), .second, .val (.long p3), .second, .val (.long p4), .second, .val (.long p5), .second, .val (.int p6), .val (.long st), .second, .val (.long (Int64.ofNat t)), .second, .val (.long lm), .second, .val (.int (1 : Int32)), .val (.long (Int64.ofNat A)), .second, .val (.long (Int64.ofNat U)), .second, .val (.int (0 : Int32)), .val (.long (0 : Int64)), .second, .val (.ref a2), .val (.ref a44), .val (.ref a108), .val (.int (1 : Int32)), .val (.long (st + (Int64.ofNat (own_Rf A (own_Gf A))))), .second, .val .null, .val (.int (0 : Int32)), .val (.long (Int64.ofNat (own_Rf A ((own_Gf (A ^^^ U)) + 1)))), .second, .val (.int (1 : Int32)), .val (.long (Int64.ofNat (own_Rf A (own_Gf (A ^^^ U))))), .second, .val (.long (0 : Int64)), .second, .unset, .unset] rfl at_417 ?_
    refine own_iload H rfl at_419 ?_
    refine own_ifeq_f H at_421 (by decide) ?_
    refine own_iload H rfl at_424 ?_
    refine own_ifeq_t H (pc' := 444) at_426 (by decide) (by decide) (by decide) ?_
    refine own_iload H rfl at_444 ?_
    refine own_ifeq_f H at_446 (by decide) ?_
    refine own_lload H rfl at_449 ?_
    refine own_lload H rfl at_451 ?_
    refine own_ladd H rfl at_453 ?_
    refine own_lstore H #[.val (.long p1), .second, .val (.long p2), .second, .val (.long p3), .second, .val (.long p4), .second, .val (.long p5), .second, .val (.int p6), .val (.long st), .second, .val (.long (Int64.ofNat t)), .second, .val (.long lm), .second, .val (.int (1 : Int32)), .val (.long (Int64.ofNat A)), .second, .val (.long (Int64.ofNat U)), .second, .val (.int (0 : Int32)), .val (.long (0 : Int64)), .second, .val (.ref a2), .val (.ref a44), .val (.ref a108), .val (.int (1 : Int32)), .val (.long (st + (Int64.ofNat (own_Rf A (own_Gf A))))), .second, .val .null, .val (.int (0 : Int32)), .val (.long (Int64.ofNat (own_Rf A ((own_Gf (A ^^^ U)) + 1)))), .second, .val (.int (1 : Int32)), .val (.long (Int64.ofNat (own_Rf A (own_Gf (A ^^^ U))))), .second, .val (.long (0 : Int64)), .second, .val (.long (st + (Int64.ofNat (own_Rf A (own_Gf (A ^^^ U)))))), .second] rfl at_454 ?_
    refine own_goto H (pc' := 479) at_456 (by decide) (by decide) ?_
    refine own_iload H rfl at_479 ?_
    refine own_ifeq_f H at_481 (by decide) ?_
    refine own_aload H rfl rfl at_484 ?_
    refine own_invokevirtual H (a := a2) (argsL := []) (rest := []) (rmNiL l Z a0 (own_hw H) h227 n0 a2 aO kO M (own_o1 (own_Kf A (own_Gf (A ^^^ U)))) st (Int64.ofNat (own_Rf A ((own_Gf (A ^^^ U)) + 1))) (own_Gf (A ^^^ U)) (FBit (Int32.ofNat (own_Kf A (own_Gf (A ^^^ U))))) u292 u297 u300 u311 u301 u302 hM (fun j hj => own_oz hj) hLU (own_os _ _) (own_nt (own_K704 (by omega))).2) u292 (w1 := 65) (w0 := 66) (w5 := 68) (w2 := 67) (w3 := 10) (w4 := 69) rfl rfl rfl rfl rfl rfl own_pd7 rfl 0 (by decide) rfl (by decide) (Nat.le_of_eq rfl) (by decide) (by decide) (by decide) rfl at_486 ?_
    rintro _ _ ⟨rfl, rfl⟩
    show own_G _ _ _ _ _ _ _ _ 489 #[.val (.long p1), .second, .val (.long p2), .second, .val (.long p3), .second, .val (.long p4), .second, .val (.long p5), .second, .val (.int p6), .val (.long st), .second, .val (.long (Int64.ofNat t)), .second, .val (.long lm), .second, .val (.int (1 : Int32)), .val (.long (Int64.ofNat A)), .second, .val (.long (Int64.ofNat U)), .second, .val (.int (0 : Int32)), .val (.long (0 : Int64)), .second, .val (.ref a2), .val (.ref a44), .val (.ref a108), .val (.int (1 : Int32)), .val (.long (st + (Int64.ofNat (own_Rf A (own_Gf A))))), .second, .val .null, .val (.int (0 : Int32)), .val (.long (Int64.ofNat (own_Rf A ((own_Gf (A ^^^ U)) + 1)))), .second, .val (.int (1 : Int32)), .val (.long (Int64.ofNat (own_Rf A (own_Gf (A ^^^ U))))), .second, .val (.long (0 : Int64)), .second, .val (.long (st + (Int64.ofNat (own_Rf A (own_Gf (A ^^^ U)))))), .second] [(.long (st + (FFo (Int32.ofNat (own_Gf (A ^^^ U))) (FNtzL (FBit (Int32.ofNat (own_Kf A (own_Gf (A ^^^ U)))))) (Int64.ofNat (own_Rf A ((own_Gf (A ^^^ U)) + 1))))))]
    rw [own_nx hA' (own_Rlt _ hA') hg]
    show own_G _ _ _ _ _ _ _ _ 489 #[.val (.long p1), .second, .val (.long p2), .second, .val (.long p3), .second, .val (.long p4), .second, .val (.long p5), .second, .val (.int p6), .val (.long st), .second, .val (.long (Int64.ofNat t)), .second, .val (.long lm), .second, .val (.int (1 : Int32)), .val (.long (Int64.ofNat A)), .second, .val (.long (Int64.ofNat U)), .second, .val (.int (0 : Int32)), .val (.long (0 : Int64)), .second, .val (.ref a2), .val (.ref a44), .val (.ref a108), .val (.int (1 : Int32)), .val (.long (st + (Int64.ofNat (own_Rf A (own_Gf A))))), .second, .val .null, .val (.int (0 : Int32)), .val (.long (Int64.ofNat (own_Rf A ((own_Gf (A ^^^ U)) + 1)))), .second, .val (.int (1 : Int32)), .val (.long (Int64.ofNat (own_Rf A (own_Gf (A ^^^ U))))), .second, .val (.long (0 : Int64)), .second, .val (.long (st + (Int64.ofNat (own_Rf A (own_Gf (A ^^^ U)))))), .second] [(.long (st + (Int64.ofNat (own_Rf A (own_Gf (A ^^^ U))))))]
    refine own_lload H rfl at_489 ?_
    refine own_lcmpne_f H at_491 at_492 rfl ?_
    refine own_iconst H (1 : Int32) (by decide) at_495 ?_
    refine own_goto H (pc' := 500) at_496 (by decide) (by decide) ?_
    exact own_ireturn H (by simp) (by decide) at_500 (by decide) (by decide) rfl
set_option maxHeartbeats 16000000 in
theorem own_p2_11 {B : own_B} {l : Launch} {Z : State} {a0 : Array Value} (H : own_Ok B Z a0 l room_1 x code maxLocals ret) (D : own_Wd B) {h0 : Heap} {n0 : Nat} (hZ0 : n0 ≤ h0.size) (p1 p2 p3 p4 p5 : Int64) (p6 : Int32) (st lm : Int64) (t A U Bn M : Nat) (hLev : FLev (Int64.ofNat t) = Int32.ofNat M) (hMe : own_Gf (t - 1) + 1 = M) (hM : M ≤ 11) (ht : t < 2 ^ 63) (hA : A < t) (hU : U < t) (hB : Bn < t) (hUB : U < Bn) : own_G B n0 (fun v h' => v = some (.int 1)) 24 4992 0 0 h0 131 #[.val (.long p1), .second, .val (.long p2), .second, .val (.long p3), .second, .val (.long p4), .second, .val (.long p5), .second, .val (.int p6), .val (.long st), .second, .val (.long (Int64.ofNat t)), .second, .val (.long lm), .second, .val (.int (1 : Int32)), .val (.long (Int64.ofNat A)), .second, .val (.long (Int64.ofNat U)), .second, .val (.int (1 : Int32)), .val (.long (Int64.ofNat Bn)), .second, .unset, .unset, .unset, .unset, .unset, .unset, .unset, .unset, .unset, .unset, .unset, .unset, .unset, .unset, .unset, .unset, .unset] [] := by
  have hA' : A < 2 ^ 63 := by omega
  have hU' : U < 2 ^ 63 := by omega
  have hB' : Bn < 2 ^ 63 := by omega
  have hLA : own_Gf A < M := by
    have := own_GM (A := A) (C := 0) (m := t - 1) (by omega) (by omega)
    rw [Nat.xor_zero] at this
    omega
  refine own_new H (w := 8) (wi := 9) (wz := 10) rfl rfl rfl at_131 (by decide) (by decide) ?_
  intro h1 a2 ha3 E4 X5 D6
  have f7 : n0 ≤ a2 := by rw [ha3]; exact hZ0
  have f8 : n0 ≤ h1.size := Nat.le_trans hZ0 E4.1
  have f9 : Fld Z h1 a2 "com/example/ring_to_run/ringtorun/TickQueue" "tickMillis" "J" (.long (0 : Int64)) := D6 (Or.inr (own_w H (i := 18) rfl)) (ty := .long) (by decide)
  have f10 : Fld Z h1 a2 "com/example/ring_to_run/ringtorun/TickQueue" "levels" "I" (.int (0 : Int32)) := D6 (Or.inr (own_w H (i := 31) rfl)) (ty := .int) (by decide)
  have f11 : Fld Z h1 a2 "com/example/ring_to_run/ringtorun/TickQueue" "heads" "[Lcom/example/ring_to_run/ringtorun/Task;" .null := D6 (Or.inr (own_w H (i := 35) rfl)) (ty := (.array (.object "com/example/ring_to_run/ringtorun/Task"))) (by decide)
  have f12 : Fld Z h1 a2 "com/example/ring_to_run/ringtorun/TickQueue" "tails" "[Lcom/example/ring_to_run/ringtorun/Task;" .null := D6 (Or.inr (own_w H (i := 37) rfl)) (ty := (.array (.object "com/example/ring_to_run/ringtorun/Task"))) (by decide)
  have f13 : Fld Z h1 a2 "com/example/ring_to_run/ringtorun/TickQueue" "occupied" "[J" .null := D6 (Or.inr (own_w H (i := 40) rfl)) (ty := (.array .long)) (by decide)
  have f14 : Fld Z h1 a2 "com/example/ring_to_run/ringtorun/TickQueue" "start" "J" (.long (0 : Int64)) := D6 (Or.inl (own_w H (i := 42) rfl)) (ty := .long) (by decide)
  have f15 : Fld Z h1 a2 "com/example/ring_to_run/ringtorun/TickQueue" "cursor" "J" (.long (0 : Int64)) := D6 (Or.inl (own_w H (i := 96) rfl)) (ty := .long) (by decide)
  show own_G _ _ _ _ _ _ _ _ 134 #[.val (.long p1), .second, .val (.long p2), .second, .val (.long p3), .second, .val (.long p4), .second, .val (.long p5), .second, .val (.int p6), .val (.long st), .second, .val (.long (Int64.ofNat t)), .second, .val (.long lm), .second, .val (.int (1 : Int32)), .val (.long (Int64.ofNat A)), .second, .val (.long (Int64.ofNat U)), .second, .val (.int (1 : Int32)), .val (.long (Int64.ofNat Bn)), .second, .unset, .unset, .unset, .unset, .unset, .unset, .unset, .unset, .unset, .unset, .unset, .unset, .unset, .unset, .unset, .unset, .unset] [(.ref a2)]
  refine own_dup H rfl at_134 ?_
  refine own_lload H rfl at_135 ?_
  refine own_lload H rfl at_137 ?_
  refine own_invokespecial H (a := a2) (argsL := [(.long (Int64.ofNat t)), (.long st)]) (rest := [(.ref a2)]) (rmCQ l Z a0 (own_hw H) h1 n0 a2 (Int64.ofNat t) st M f8 X5 f9 f10 f11 f12 f13 f14 f15 hLev hM f7) rfl (w1 := 11) (w2 := 12) (w3 := 10) (w4 := 13) rfl rfl rfl rfl own_pd13 rfl 1 (by decide) rfl (by decide) (Nat.le_of_eq rfl) (by decide) (by decide) (by decide) rfl at_139 ?_
  rintro _ h16 ⟨rfl, K17, aH, aT, aO, kH, kT, kO, ⟨z18, z19, z20, z21, z22, z23⟩, ⟨n24, n25, n26⟩, ⟨f27, f28, f29, f30, f31, f32⟩, ⟨V33, V34, V35⟩, o36, o37⟩
  have f38 : a2 ≠ aH := Nat.ne_of_lt (Nat.lt_of_lt_of_le X5.lt z21)
  have f39 : a2 ≠ aT := Nat.ne_of_lt (Nat.lt_of_lt_of_le X5.lt z22)
  have f40 : a2 ≠ aO := Nat.ne_of_lt (Nat.lt_of_lt_of_le X5.lt z23)
  have f41 : n0 ≤ h16.size := Nat.le_trans f8 K17.1
  have f42 : Exa Z h16 a2 "com/example/ring_to_run/ringtorun/TickQueue" := X5.keep K17
  show own_G _ _ _ _ _ _ _ _ 142 #[.val (.long p1), .second, .val (.long p2), .second, .val (.long p3), .second, .val (.long p4), .second, .val (.long p5), .second, .val (.int p6), .val (.long st), .second, .val (.long (Int64.ofNat t)), .second, .val (.long lm), .second, .val (.int (1 : Int32)), .val (.long (Int64.ofNat A)), .second, .val (.long (Int64.ofNat U)), .second, .val (.int (1 : Int32)), .val (.long (Int64.ofNat Bn)), .second, .unset, .unset, .unset, .unset, .unset, .unset, .unset, .unset, .unset, .unset, .unset, .unset, .unset, .unset, .unset, .unset, .unset] [(.ref a2)]
  refine own_astore H rfl #[.val (.long p1), .second, .val (.long p2), .second, .val (.long p3), .second, .val (.long p4), .second, .val (.long p5), .second, .val (.int p6), .val (.long st), .second, .val (.long (Int64.ofNat t)), .second, .val (.long lm), .second, .val (.int (1 : Int32)), .val (.long (Int64.ofNat A)), .second, .val (.long (Int64.ofNat U)), .second, .val (.int (1 : Int32)), .val (.long (Int64.ofNat Bn)), .second, .val (.ref a2), .unset, .unset, .unset, .unset, .unset, .unset, .unset, .unset, .unset, .unset, .unset, .unset, .unset, .unset, .unset, .unset] rfl at_142 ?_
  refine own_new H (w := 43) (wi := 44) (wz := 45) rfl rfl rfl at_144 (by decide) (by decide) ?_
  intro h43 a44 ha45 E46 X47 D48
  have f49 : a2 ≠ a44 := Nat.ne_of_lt (by rw [ha45]; exact f42.lt)
  have f50 : aH ≠ a44 := Nat.ne_of_lt (by rw [ha45]; exact V33.lt)
  have f51 : aO ≠ a44 := Nat.ne_of_lt (by rw [ha45]; exact V35.lt)
  have f52 : aT ≠ a44 := Nat.ne_of_lt (by rw [ha45]; exact V34.lt)
  have f53 : n0 ≤ a44 := by rw [ha45]; exact f41
  have f54 : n0 ≤ h43.size := Nat.le_trans f41 E46.1
  have f55 : Exa Z h43 a2 "com/example/ring_to_run/ringtorun/TickQueue" := f42.ext E46
  have f56 : Fld Z h43 a2 "com/example/ring_to_run/ringtorun/TickQueue" "levels" "I" (.int (Int32.ofNat M)) := f27.ext E46
  have f57 : Fld Z h43 a2 "com/example/ring_to_run/ringtorun/TickQueue" "heads" "[Lcom/example/ring_to_run/ringtorun/Task;" (.ref aH) := f28.ext E46
  have f58 : Fld Z h43 a2 "com/example/ring_to_run/ringtorun/TickQueue" "tails" "[Lcom/example/ring_to_run/ringtorun/Task;" (.ref aT) := f29.ext E46
  have f59 : Fld Z h43 a2 "com/example/ring_to_run/ringtorun/TickQueue" "occupied" "[J" (.ref aO) := f30.ext E46
  have f60 : Fld Z h43 a2 "com/example/ring_to_run/ringtorun/TickQueue" "start" "J" (.long st) := f31.ext E46
  have f61 : Fld Z h43 a2 "com/example/ring_to_run/ringtorun/TickQueue" "cursor" "J" (.long (Int64.ofNat 0)) := f32.ext E46
  have f62 : own_Af Z h43 aH kH (.object "com/example/ring_to_run/ringtorun/Task") (Int32.ofNat (64 * M)) .null own_h0 := V33.ext E46
  have f63 : own_Af Z h43 aT kT (.object "com/example/ring_to_run/ringtorun/Task") (Int32.ofNat (64 * M)) .null own_h0 := V34.ext E46
  have f64 : own_Af Z h43 aO kO .long (Int32.ofNat M) (.long 0) own_o0 := V35.ext E46
  have f65 : Fld Z h43 a44 "com/example/ring_to_run/ringtorun/Task" "id" "Ljava/lang/String;" .null := D48 (Or.inr (own_w H (i := 59) rfl)) (ty := (.object "java/lang/String")) (by decide)
  have f66 : Fld Z h43 a44 "com/example/ring_to_run/ringtorun/Task" "payload" "[B" .null := D48 (Or.inr (own_w H (i := 61) rfl)) (ty := (.array .byte)) (by decide)
  have f67 : Fld Z h43 a44 "com/example/ring_to_run/ringtorun/Task" "dueInstant" "J" (.long (0 : Int64)) := D48 (Or.inr (own_w H (i := 63) rfl)) (ty := .long) (by decide)
  have f68 : Fld Z h43 a44 "com/example/ring_to_run/ringtorun/Task" "previous" "Lcom/example/ring_to_run/ringtorun/Task;" .null := D48 (Or.inl (own_w H (i := 103) rfl)) (ty := (.object "com/example/ring_to_run/ringtorun/Task")) (by decide)
  have f69 : Fld Z h43 a44 "com/example/ring_to_run/ringtorun/Task" "next" "Lcom/example/ring_to_run/ringtorun/Task;" .null := D48 (Or.inl (own_w H (i := 105) rfl)) (ty := (.object "com/example/ring_to_run/ringtorun/Task")) (by decide)
  show own_G _ _ _ _ _ _ _ _ 147 #[.val (.long p1), .second, .val (.long p2), .second, .val (.long p3), .second, .val (.long p4), .second, .val (.long p5), .second, .val (.int p6), .val (.long st), .second, .val (.long (Int64.ofNat t)), .second, .val (.long lm), .second, .val (.int (1 : Int32)), .val (.long (Int64.ofNat A)), .second, .val (.long (Int64.ofNat U)), .second, .val (.int (1 : Int32)), .val (.long (Int64.ofNat Bn)), .second, .val (.ref a2), .unset, .unset, .unset, .unset, .unset, .unset, .unset, .unset, .unset, .unset, .unset, .unset, .unset, .unset, .unset, .unset] [(.ref a44)]
  refine own_dup H rfl at_147 ?_
  refine own_ldcS H D (w := 46) rfl (own_atoms H (f := fun i => [47, 48, 49, 50, 51, 52, 53].getD i.val 0) rfl rfl rfl rfl rfl rfl rfl) 4 (by decide) (by decide) at_148 (by decide) (by decide) ?_
  intro B a71 h70 H D E72
  have f73 : n0 ≤ h70.size := Nat.le_trans f54 E72.1
  have f74 : Exa Z h70 a2 "com/example/ring_to_run/ringtorun/TickQueue" := f55.ext E72
  have f75 : Fld Z h70 a2 "com/example/ring_to_run/ringtorun/TickQueue" "levels" "I" (.int (Int32.ofNat M)) := f56.ext E72
  have f76 : Fld Z h70 a2 "com/example/ring_to_run/ringtorun/TickQueue" "heads" "[Lcom/example/ring_to_run/ringtorun/Task;" (.ref aH) := f57.ext E72
  have f77 : Fld Z h70 a2 "com/example/ring_to_run/ringtorun/TickQueue" "tails" "[Lcom/example/ring_to_run/ringtorun/Task;" (.ref aT) := f58.ext E72
  have f78 : Fld Z h70 a2 "com/example/ring_to_run/ringtorun/TickQueue" "occupied" "[J" (.ref aO) := f59.ext E72
  have f79 : Fld Z h70 a2 "com/example/ring_to_run/ringtorun/TickQueue" "start" "J" (.long st) := f60.ext E72
  have f80 : Fld Z h70 a2 "com/example/ring_to_run/ringtorun/TickQueue" "cursor" "J" (.long (Int64.ofNat 0)) := f61.ext E72
  have f81 : own_Af Z h70 aH kH (.object "com/example/ring_to_run/ringtorun/Task") (Int32.ofNat (64 * M)) .null own_h0 := f62.ext E72
  have f82 : own_Af Z h70 aT kT (.object "com/example/ring_to_run/ringtorun/Task") (Int32.ofNat (64 * M)) .null own_h0 := f63.ext E72
  have f83 : own_Af Z h70 aO kO .long (Int32.ofNat M) (.long 0) own_o0 := f64.ext E72
  have f84 : Exa Z h70 a44 "com/example/ring_to_run/ringtorun/Task" := X47.ext E72
  have f85 : Fld Z h70 a44 "com/example/ring_to_run/ringtorun/Task" "id" "Ljava/lang/String;" .null := f65.ext E72
  have f86 : Fld Z h70 a44 "com/example/ring_to_run/ringtorun/Task" "payload" "[B" .null := f66.ext E72
  have f87 : Fld Z h70 a44 "com/example/ring_to_run/ringtorun/Task" "dueInstant" "J" (.long (0 : Int64)) := f67.ext E72
  have f88 : Fld Z h70 a44 "com/example/ring_to_run/ringtorun/Task" "previous" "Lcom/example/ring_to_run/ringtorun/Task;" .null := f68.ext E72
  have f89 : Fld Z h70 a44 "com/example/ring_to_run/ringtorun/Task" "next" "Lcom/example/ring_to_run/ringtorun/Task;" .null := f69.ext E72
  show own_G _ _ _ _ _ _ _ _ 150 #[.val (.long p1), .second, .val (.long p2), .second, .val (.long p3), .second, .val (.long p4), .second, .val (.long p5), .second, .val (.int p6), .val (.long st), .second, .val (.long (Int64.ofNat t)), .second, .val (.long lm), .second, .val (.int (1 : Int32)), .val (.long (Int64.ofNat A)), .second, .val (.long (Int64.ofNat U)), .second, .val (.int (1 : Int32)), .val (.long (Int64.ofNat Bn)), .second, .val (.ref a2), .unset, .unset, .unset, .unset, .unset, .unset, .unset, .unset, .unset, .unset, .unset, .unset, .unset, .unset, .unset, .unset] [(.ref a71), (.ref a44), (.ref a44)]
  refine own_aconst_null H at_150 ?_
  refine own_lload H rfl at_151 ?_
  refine own_lload H rfl at_153 ?_
  refine own_ladd H rfl at_155 ?_
  refine own_invokespecial H (a := a44) (argsL := [(.ref a71), .null, (.long (st + (Int64.ofNat A)))]) (rest := [(.ref a44)]) (rmCT l Z a0 (own_hw H) h70 n0 a44 a71 (st + (Int64.ofNat A)) f73 f84 f85 f86 f87 f88 f89 f53) rfl (w1 := 54) (w2 := 55) (w3 := 45) (w4 := 56) rfl rfl rfl rfl own_pd14 rfl 1 (by decide) rfl (by decide) (Nat.le_of_eq rfl) (by decide) (by decide) (by decide) rfl at_156 ?_
  rintro _ h90 ⟨rfl, K91, f92, f93, f94⟩
  have f95 : n0 ≤ h90.size := Nat.le_trans f73 K91.1
  have f96 : Exa Z h90 a2 "com/example/ring_to_run/ringtorun/TickQueue" := f74.keep K91
  have f97 : Fld Z h90 a2 "com/example/ring_to_run/ringtorun/TickQueue" "levels" "I" (.int (Int32.ofNat M)) := f75.keep K91 (ninS f49 nin0)
  have f98 : Fld Z h90 a2 "com/example/ring_to_run/ringtorun/TickQueue" "heads" "[Lcom/example/ring_to_run/ringtorun/Task;" (.ref aH) := f76.keep K91 (ninS f49 nin0)
  have f99 : Fld Z h90 a2 "com/example/ring_to_run/ringtorun/TickQueue" "tails" "[Lcom/example/ring_to_run/ringtorun/Task;" (.ref aT) := f77.keep K91 (ninS f49 nin0)
  have f100 : Fld Z h90 a2 "com/example/ring_to_run/ringtorun/TickQueue" "occupied" "[J" (.ref aO) := f78.keep K91 (ninS f49 nin0)
  have f101 : Fld Z h90 a2 "com/example/ring_to_run/ringtorun/TickQueue" "start" "J" (.long st) := f79.keep K91 (ninS f49 nin0)
  have f102 : Fld Z h90 a2 "com/example/ring_to_run/ringtorun/TickQueue" "cursor" "J" (.long (Int64.ofNat 0)) := f80.keep K91 (ninS f49 nin0)
  have f103 : own_Af Z h90 aH kH (.object "com/example/ring_to_run/ringtorun/Task") (Int32.ofNat (64 * M)) .null own_h0 := f81.keep K91 (ninS f50 nin0)
  have f104 : own_Af Z h90 aT kT (.object "com/example/ring_to_run/ringtorun/Task") (Int32.ofNat (64 * M)) .null own_h0 := f82.keep K91 (ninS f52 nin0)
  have f105 : own_Af Z h90 aO kO .long (Int32.ofNat M) (.long 0) own_o0 := f83.keep K91 (ninS f51 nin0)
  have f106 : Exa Z h90 a44 "com/example/ring_to_run/ringtorun/Task" := f84.keep K91
  show own_G _ _ _ _ _ _ _ _ 159 #[.val (.long p1), .second, .val (.long p2), .second, .val (.long p3), .second, .val (.long p4), .second, .val (.long p5), .second, .val (.int p6), .val (.long st), .second, .val (.long (Int64.ofNat t)), .second, .val (.long lm), .second, .val (.int (1 : Int32)), .val (.long (Int64.ofNat A)), .second, .val (.long (Int64.ofNat U)), .second, .val (.int (1 : Int32)), .val (.long (Int64.ofNat Bn)), .second, .val (.ref a2), .unset, .unset, .unset, .unset, .unset, .unset, .unset, .unset, .unset, .unset, .unset, .unset, .unset, .unset, .unset, .unset] [(.ref a44)]
  refine own_astore H rfl #[.val (.long p1), .second, .val (.long p2), .second, .val (.long p3), .second, .val (.long p4), .second, .val (.long p5), .second, .val (.int p6), .val (.long st), .second, .val (.long (Int64.ofNat t)), .second, .val (.long lm), .second, .val (.int (1 : Int32)), .val (.long (Int64.ofNat A)), .second, .val (.long (Int64.ofNat U)), .second, .val (.int (1 : Int32)), .val (.long (Int64.ofNat Bn)), .second, .val (.ref a2), .val (.ref a44), .unset, .unset, .unset, .unset, .unset, .unset, .unset, .unset, .unset, .unset, .unset, .unset, .unset, .unset, .unset] rfl at_159 ?_
  refine own_new H (w := 43) (wi := 44) (wz := 45) rfl rfl rfl at_161 (by decide) (by decide) ?_
  intro h107 a108 ha109 E110 X111 D112
  have f113 : a2 ≠ a108 := Nat.ne_of_lt (by rw [ha109]; exact f96.lt)
  have f114 : a44 ≠ a108 := Nat.ne_of_lt (by rw [ha109]; exact f106.lt)
  have f115 : aH ≠ a108 := Nat.ne_of_lt (by rw [ha109]; exact f103.lt)
  have f116 : aO ≠ a108 := Nat.ne_of_lt (by rw [ha109]; exact f105.lt)
  have f117 : aT ≠ a108 := Nat.ne_of_lt (by rw [ha109]; exact f104.lt)
  have f118 : n0 ≤ a108 := by rw [ha109]; exact f95
  have f119 : n0 ≤ h107.size := Nat.le_trans f95 E110.1
  have f120 : Exa Z h107 a2 "com/example/ring_to_run/ringtorun/TickQueue" := f96.ext E110
  have f121 : Fld Z h107 a2 "com/example/ring_to_run/ringtorun/TickQueue" "levels" "I" (.int (Int32.ofNat M)) := f97.ext E110
  have f122 : Fld Z h107 a2 "com/example/ring_to_run/ringtorun/TickQueue" "heads" "[Lcom/example/ring_to_run/ringtorun/Task;" (.ref aH) := f98.ext E110
  have f123 : Fld Z h107 a2 "com/example/ring_to_run/ringtorun/TickQueue" "tails" "[Lcom/example/ring_to_run/ringtorun/Task;" (.ref aT) := f99.ext E110
  have f124 : Fld Z h107 a2 "com/example/ring_to_run/ringtorun/TickQueue" "occupied" "[J" (.ref aO) := f100.ext E110
  have f125 : Fld Z h107 a2 "com/example/ring_to_run/ringtorun/TickQueue" "start" "J" (.long st) := f101.ext E110
  have f126 : Fld Z h107 a2 "com/example/ring_to_run/ringtorun/TickQueue" "cursor" "J" (.long (Int64.ofNat 0)) := f102.ext E110
  have f127 : own_Af Z h107 aH kH (.object "com/example/ring_to_run/ringtorun/Task") (Int32.ofNat (64 * M)) .null own_h0 := f103.ext E110
  have f128 : own_Af Z h107 aT kT (.object "com/example/ring_to_run/ringtorun/Task") (Int32.ofNat (64 * M)) .null own_h0 := f104.ext E110
  have f129 : own_Af Z h107 aO kO .long (Int32.ofNat M) (.long 0) own_o0 := f105.ext E110
  have f130 : Exa Z h107 a44 "com/example/ring_to_run/ringtorun/Task" := f106.ext E110
  have f131 : Fld Z h107 a44 "com/example/ring_to_run/ringtorun/Task" "dueInstant" "J" (.long (st + (Int64.ofNat A))) := f92.ext E110
  have f132 : Fld Z h107 a44 "com/example/ring_to_run/ringtorun/Task" "previous" "Lcom/example/ring_to_run/ringtorun/Task;" .null := f93.ext E110
  have f133 : Fld Z h107 a44 "com/example/ring_to_run/ringtorun/Task" "next" "Lcom/example/ring_to_run/ringtorun/Task;" .null := f94.ext E110
  have f134 : Fld Z h107 a108 "com/example/ring_to_run/ringtorun/Task" "id" "Ljava/lang/String;" .null := D112 (Or.inr (own_w H (i := 59) rfl)) (ty := (.object "java/lang/String")) (by decide)
  have f135 : Fld Z h107 a108 "com/example/ring_to_run/ringtorun/Task" "payload" "[B" .null := D112 (Or.inr (own_w H (i := 61) rfl)) (ty := (.array .byte)) (by decide)
  have f136 : Fld Z h107 a108 "com/example/ring_to_run/ringtorun/Task" "dueInstant" "J" (.long (0 : Int64)) := D112 (Or.inr (own_w H (i := 63) rfl)) (ty := .long) (by decide)
  have f137 : Fld Z h107 a108 "com/example/ring_to_run/ringtorun/Task" "previous" "Lcom/example/ring_to_run/ringtorun/Task;" .null := D112 (Or.inl (own_w H (i := 103) rfl)) (ty := (.object "com/example/ring_to_run/ringtorun/Task")) (by decide)
  have f138 : Fld Z h107 a108 "com/example/ring_to_run/ringtorun/Task" "next" "Lcom/example/ring_to_run/ringtorun/Task;" .null := D112 (Or.inl (own_w H (i := 105) rfl)) (ty := (.object "com/example/ring_to_run/ringtorun/Task")) (by decide)
  show own_G _ _ _ _ _ _ _ _ 164 #[.val (.long p1), .second, .val (.long p2), .second, .val (.long p3), .second, .val (.long p4), .second, .val (.long p5), .second, .val (.int p6), .val (.long st), .second, .val (.long (Int64.ofNat t)), .second, .val (.long lm), .second, .val (.int (1 : Int32)), .val (.long (Int64.ofNat A)), .second, .val (.long (Int64.ofNat U)), .second, .val (.int (1 : Int32)), .val (.long (Int64.ofNat Bn)), .second, .val (.ref a2), .val (.ref a44), .unset, .unset, .unset, .unset, .unset, .unset, .unset, .unset, .unset, .unset, .unset, .unset, .unset, .unset, .unset] [(.ref a108)]
  refine own_dup H rfl at_164 ?_
  refine own_ldcS H D (w := 64) rfl (own_atoms H (f := fun i => [47, 48, 49, 50, 51, 52, 53].getD i.val 0) rfl rfl rfl rfl rfl rfl rfl) 4 (by decide) (by decide) at_165 (by decide) (by decide) ?_
  intro B a140 h139 H D E141
  have f142 : n0 ≤ h139.size := Nat.le_trans f119 E141.1
  have f143 : Exa Z h139 a2 "com/example/ring_to_run/ringtorun/TickQueue" := f120.ext E141
  have f144 : Fld Z h139 a2 "com/example/ring_to_run/ringtorun/TickQueue" "levels" "I" (.int (Int32.ofNat M)) := f121.ext E141
  have f145 : Fld Z h139 a2 "com/example/ring_to_run/ringtorun/TickQueue" "heads" "[Lcom/example/ring_to_run/ringtorun/Task;" (.ref aH) := f122.ext E141
  have f146 : Fld Z h139 a2 "com/example/ring_to_run/ringtorun/TickQueue" "tails" "[Lcom/example/ring_to_run/ringtorun/Task;" (.ref aT) := f123.ext E141
  have f147 : Fld Z h139 a2 "com/example/ring_to_run/ringtorun/TickQueue" "occupied" "[J" (.ref aO) := f124.ext E141
  have f148 : Fld Z h139 a2 "com/example/ring_to_run/ringtorun/TickQueue" "start" "J" (.long st) := f125.ext E141
  have f149 : Fld Z h139 a2 "com/example/ring_to_run/ringtorun/TickQueue" "cursor" "J" (.long (Int64.ofNat 0)) := f126.ext E141
  have f150 : own_Af Z h139 aH kH (.object "com/example/ring_to_run/ringtorun/Task") (Int32.ofNat (64 * M)) .null own_h0 := f127.ext E141
  have f151 : own_Af Z h139 aT kT (.object "com/example/ring_to_run/ringtorun/Task") (Int32.ofNat (64 * M)) .null own_h0 := f128.ext E141
  have f152 : own_Af Z h139 aO kO .long (Int32.ofNat M) (.long 0) own_o0 := f129.ext E141
  have f153 : Exa Z h139 a44 "com/example/ring_to_run/ringtorun/Task" := f130.ext E141
  have f154 : Fld Z h139 a44 "com/example/ring_to_run/ringtorun/Task" "dueInstant" "J" (.long (st + (Int64.ofNat A))) := f131.ext E141
  have f155 : Fld Z h139 a44 "com/example/ring_to_run/ringtorun/Task" "previous" "Lcom/example/ring_to_run/ringtorun/Task;" .null := f132.ext E141
  have f156 : Fld Z h139 a44 "com/example/ring_to_run/ringtorun/Task" "next" "Lcom/example/ring_to_run/ringtorun/Task;" .null := f133.ext E141
  have f157 : Exa Z h139 a108 "com/example/ring_to_run/ringtorun/Task" := X111.ext E141
  have f158 : Fld Z h139 a108 "com/example/ring_to_run/ringtorun/Task" "id" "Ljava/lang/String;" .null := f134.ext E141
  have f159 : Fld Z h139 a108 "com/example/ring_to_run/ringtorun/Task" "payload" "[B" .null := f135.ext E141
  have f160 : Fld Z h139 a108 "com/example/ring_to_run/ringtorun/Task" "dueInstant" "J" (.long (0 : Int64)) := f136.ext E141
  have f161 : Fld Z h139 a108 "com/example/ring_to_run/ringtorun/Task" "previous" "Lcom/example/ring_to_run/ringtorun/Task;" .null := f137.ext E141
  have f162 : Fld Z h139 a108 "com/example/ring_to_run/ringtorun/Task" "next" "Lcom/example/ring_to_run/ringtorun/Task;" .null := f138.ext E141
  show own_G _ _ _ _ _ _ _ _ 167 #[.val (.long p1), .second, .val (.long p2), .second, .val (.long p3), .second, .val (.long p4), .second, .val (.long p5), .second, .val (.int p6), .val (.long st), .second, .val (.long (Int64.ofNat t)), .second, .val (.long lm), .second, .val (.int (1 : Int32)), .val (.long (Int64.ofNat A)), .second, .val (.long (Int64.ofNat U)), .second, .val (.int (1 : Int32)), .val (.long (Int64.ofNat Bn)), .second, .val (.ref a2), .val (.ref a44), .unset, .unset, .unset, .unset, .unset, .unset, .unset, .unset, .unset, .unset, .unset, .unset, .unset, .unset, .unset] [(.ref a140), (.ref a108), (.ref a108)]
  refine own_aconst_null H at_167 ?_
  refine own_lload H rfl at_168 ?_
  refine own_lload H rfl at_170 ?_
  refine own_ladd H rfl at_172 ?_
  refine own_invokespecial H (a := a108) (argsL := [(.ref a140), .null, (.long (st + (Int64.ofNat Bn)))]) (rest := [(.ref a108)]) (rmCT l Z a0 (own_hw H) h139 n0 a108 a140 (st + (Int64.ofNat Bn)) f142 f157 f158 f159 f160 f161 f162 f118) rfl (w1 := 54) (w2 := 55) (w3 := 45) (w4 := 56) rfl rfl rfl rfl own_pd14 rfl 1 (by decide) rfl (by decide) (Nat.le_of_eq rfl) (by decide) (by decide) (by decide) rfl at_173 ?_
  rintro _ h163 ⟨rfl, K164, f165, f166, f167⟩
  have f168 : n0 ≤ h163.size := Nat.le_trans f142 K164.1
  have f169 : Exa Z h163 a2 "com/example/ring_to_run/ringtorun/TickQueue" := f143.keep K164
  have f170 : Fld Z h163 a2 "com/example/ring_to_run/ringtorun/TickQueue" "levels" "I" (.int (Int32.ofNat M)) := f144.keep K164 (ninS f113 nin0)
  have f171 : Fld Z h163 a2 "com/example/ring_to_run/ringtorun/TickQueue" "heads" "[Lcom/example/ring_to_run/ringtorun/Task;" (.ref aH) := f145.keep K164 (ninS f113 nin0)
  have f172 : Fld Z h163 a2 "com/example/ring_to_run/ringtorun/TickQueue" "tails" "[Lcom/example/ring_to_run/ringtorun/Task;" (.ref aT) := f146.keep K164 (ninS f113 nin0)
  have f173 : Fld Z h163 a2 "com/example/ring_to_run/ringtorun/TickQueue" "occupied" "[J" (.ref aO) := f147.keep K164 (ninS f113 nin0)
  have f174 : Fld Z h163 a2 "com/example/ring_to_run/ringtorun/TickQueue" "start" "J" (.long st) := f148.keep K164 (ninS f113 nin0)
  have f175 : Fld Z h163 a2 "com/example/ring_to_run/ringtorun/TickQueue" "cursor" "J" (.long (Int64.ofNat 0)) := f149.keep K164 (ninS f113 nin0)
  have f176 : own_Af Z h163 aH kH (.object "com/example/ring_to_run/ringtorun/Task") (Int32.ofNat (64 * M)) .null own_h0 := f150.keep K164 (ninS f115 nin0)
  have f177 : own_Af Z h163 aT kT (.object "com/example/ring_to_run/ringtorun/Task") (Int32.ofNat (64 * M)) .null own_h0 := f151.keep K164 (ninS f117 nin0)
  have f178 : own_Af Z h163 aO kO .long (Int32.ofNat M) (.long 0) own_o0 := f152.keep K164 (ninS f116 nin0)
  have f179 : Exa Z h163 a44 "com/example/ring_to_run/ringtorun/Task" := f153.keep K164
  have f180 : Fld Z h163 a44 "com/example/ring_to_run/ringtorun/Task" "dueInstant" "J" (.long (st + (Int64.ofNat A))) := f154.keep K164 (ninS f114 nin0)
  have f181 : Fld Z h163 a44 "com/example/ring_to_run/ringtorun/Task" "previous" "Lcom/example/ring_to_run/ringtorun/Task;" .null := f155.keep K164 (ninS f114 nin0)
  have f182 : Fld Z h163 a44 "com/example/ring_to_run/ringtorun/Task" "next" "Lcom/example/ring_to_run/ringtorun/Task;" .null := f156.keep K164 (ninS f114 nin0)
  have f183 : Exa Z h163 a108 "com/example/ring_to_run/ringtorun/Task" := f157.keep K164
  show own_G _ _ _ _ _ _ _ _ 176 #[.val (.long p1), .second, .val (.long p2), .second, .val (.long p3), .second, .val (.long p4), .second, .val (.long p5), .second, .val (.int p6), .val (.long st), .second, .val (.long (Int64.ofNat t)), .second, .val (.long lm), .second, .val (.int (1 : Int32)), .val (.long (Int64.ofNat A)), .second, .val (.long (Int64.ofNat U)), .second, .val (.int (1 : Int32)), .val (.long (Int64.ofNat Bn)), .second, .val (.ref a2), .val (.ref a44), .unset, .unset, .unset, .unset, .unset, .unset, .unset, .unset, .unset, .unset, .unset, .unset, .unset, .unset, .unset] [(.ref a108)]
  refine own_astore H rfl #[.val (.long p1), .second, .val (.long p2), .second, .val (.long p3), .second, .val (.long p4), .second, .val (.long p5), .second, .val (.int p6), .val (.long st), .second, .val (.long (Int64.ofNat t)), .second, .val (.long lm), .second, .val (.int (1 : Int32)), .val (.long (Int64.ofNat A)), .second, .val (.long (Int64.ofNat U)), .second, .val (.int (1 : Int32)), .val (.long (Int64.ofNat Bn)), .second, .val (.ref a2), .val (.ref a44), .val (.ref a108), .unset, .unset, .unset, .unset, .unset, .unset, .unset, .unset, .unset, .unset, .unset, .unset, .unset, .unset] rfl at_176 ?_
  refine own_iconst H (1 : Int32) (by decide) at_178 ?_
  refine own_istore H #[.val (.long p1), .second, .val (.long p2), .second, .val (.long p3), .second, .val (.long p4), .second, .val (.long p5), .second, .val (.int p6), .val (.long st), .second, .val (.long (Int64.ofNat t)), .second, .val (.long lm), .second, .val (.int (1 : Int32)), .val (.long (Int64.ofNat A)), .second, .val (.long (Int64.ofNat U)), .second, .val (.int (1 : Int32)), .val (.long (Int64.ofNat Bn)), .second, .val (.ref a2), .val (.ref a44), .val (.ref a108), .val (.int (1 : Int32)), .unset, .unset, .unset, .unset, .unset, .unset, .unset, .unset, .unset, .unset, .unset, .unset, .unset] rfl at_179 ?_
  refine own_iload H rfl at_181 ?_
  refine own_ifeq_f H at_183 (by decide) ?_
  refine own_aload H rfl rfl at_186 ?_
  refine own_aload H rfl rfl at_188 ?_
  refine own_invokevirtual H (a := a2) (argsL := [(.ref a44)]) (rest := []) (rmAdE l Z a0 (own_hw H) h163 n0 a2 a44 a108 aH aT aO kH kT kO M st (st + (Int64.ofNat A)) (st + (Int64.ofNat Bn)) (Int64.ofNat 0) own_h0 own_h0 own_o0 .null .null .null .null (own_h1 a44 (own_Kf A (own_Gf A))) (own_h1 a44 (own_Kf A (own_Gf A))) (own_o1 (own_Kf A (own_Gf A))) (own_Kf A (own_Gf A)) (0 : Int64) ⟨⟨f168, f7, f53, f118, z18, z19, z20⟩, ⟨f49, f113, f38, f39, f40, f114, f50.symm, f52.symm, f51.symm, f115.symm, f117.symm, f116.symm, n24, n25, n26⟩, ⟨f169, f179, f183, o36, o37⟩, ⟨f170, f171, f172, f173, f174, f175⟩, ⟨f181, f182, f180⟩, ⟨f166, f167, f165⟩, ⟨f176, f177, f178⟩⟩ hM (own_Klt hLA) rfl rfl (fun _ _ => rfl) (fun _ _ => rfl) (fun i _ => own_g3 _ i) (by rw [own_sc]; exact own_bk0 hA')) f169 (w1 := 81) (w0 := 82) (w5 := 84) (w2 := 83) (w3 := 10) (w4 := 85) rfl rfl rfl rfl rfl rfl own_pd9 rfl 0 (by decide) rfl (by decide) (Nat.le_of_eq rfl) (by decide) (by decide) (by decide) rfl at_190 ?_
  rintro _ h184 ⟨rfl, hQ⟩
  obtain ⟨⟨u185, u186, u187, u188, u189, u190, u191⟩, ⟨u192, u193, u194, u195, u196, u197, u198, u199, u200, u201, u202, u203, u204, u205, u206⟩, ⟨u207, u208, u209, u210, u211⟩, ⟨u212, u213, u214, u215, u216, u217⟩, ⟨u218, u219, u220⟩, ⟨u221, u222, u223⟩, ⟨u224, u225, u226⟩⟩ := hQ
  show own_G _ _ _ _ _ _ _ _ 193 #[.val (.long p1), .second, .val (.long p2), .second, .val (.long p3), .second, .val (.long p4), .second, .val (.long p5), .second, .val (.int p6), .val (.long st), .second, .val (.long (Int64.ofNat t)), .second, .val (.long lm), .second, .val (.int (1 : Int32)), .val (.long (Int64.ofNat A)), .second, .val (.long (Int64.ofNat U)), .second, .val (.int (1 : Int32)), .val (.long (Int64.ofNat Bn)), .second, .val (.ref a2), .val (.ref a44), .val (.ref a108), .val (.int (1 : Int32)), .unset, .unset, .unset, .unset, .unset, .unset, .unset, .unset, .unset, .unset, .unset, .unset, .unset] []
  refine own_aload H rfl rfl at_193 ?_
  refine own_invokevirtual H (a := a2) (argsL := []) (rest := []) (rmNiL l Z a0 (own_hw H) h184 n0 a2 aO kO M (own_o1 (own_Kf A (own_Gf A))) st (Int64.ofNat 0) (own_Gf A) (FBit (Int32.ofNat (own_Kf A (own_Gf A)))) u207 u212 u215 u226 u216 u217 hM (fun j hj => own_oz hj) hLA (own_os _ _) (own_nt (own_K704 (by omega))).2) u207 (w1 := 65) (w0 := 66) (w5 := 68) (w2 := 67) (w3 := 10) (w4 := 69) rfl rfl rfl rfl rfl rfl own_pd7 rfl 0 (by decide) rfl (by decide) (Nat.le_of_eq rfl) (by decide) (by decide) (by decide) rfl at_195 ?_
  rintro _ _ ⟨rfl, rfl⟩
  show own_G _ _ _ _ _ _ _ _ 198 #[.val (.long p1), .second, .val (.long p2), .second, .val (.long p3), .second, .val (.long p4), .second, .val (.long p5), .second, .val (.int p6), .val (.long st), .second, .val (.long (Int64.ofNat t)), .second, .val (.long lm), .second, .val (.int (1 : Int32)), .val (.long (Int64.ofNat A)), .second, .val (.long (Int64.ofNat U)), .second, .val (.int (1 : Int32)), .val (.long (Int64.ofNat Bn)), .second, .val (.ref a2), .val (.ref a44), .val (.ref a108), .val (.int (1 : Int32)), .unset, .unset, .unset, .unset, .unset, .unset, .unset, .unset, .unset, .unset, .unset, .unset, .unset] [(.long (st + (FFo (Int32.ofNat (own_Gf A)) (FNtzL (FBit (Int32.ofNat (own_Kf A (own_Gf A))))) (Int64.ofNat 0))))]
  rw [own_nx0 hA']
  show own_G _ _ _ _ _ _ _ _ 198 #[.val (.long p1), .second, .val (.long p2), .second, .val (.long p3), .second, .val (.long p4), .second, .val (.long p5), .second, .val (.int p6), .val (.long st), .second, .val (.long (Int64.ofNat t)), .second, .val (.long lm), .second, .val (.int (1 : Int32)), .val (.long (Int64.ofNat A)), .second, .val (.long (Int64.ofNat U)), .second, .val (.int (1 : Int32)), .val (.long (Int64.ofNat Bn)), .second, .val (.ref a2), .val (.ref a44), .val (.ref a108), .val (.int (1 : Int32)), .unset, .unset, .unset, .unset, .unset, .unset, .unset, .unset, .unset, .unset, .unset, .unset, .unset] [(.long (st + (Int64.ofNat (own_Rf A (own_Gf A)))))]
  refine own_lstore H #[.val (.long p1), .second, .val (.long p2), .second, .val (.long p3), .second, .val (.long p4), .second, .val (.long p5), .second, .val (.int p6), .val (.long st), .second, .val (.long (Int64.ofNat t)), .second, .val (.long lm), .second, .val (.int (1 : Int32)), .val (.long (Int64.ofNat A)), .second, .val (.long (Int64.ofNat U)), .second, .val (.int (1 : Int32)), .val (.long (Int64.ofNat Bn)), .second, .val (.ref a2), .val (.ref a44), .val (.ref a108), .val (.int (1 : Int32)), .val (.long (st + (Int64.ofNat (own_Rf A (own_Gf A))))), .second, .unset, .unset, .unset, .unset, .unset, .unset, .unset, .unset, .unset, .unset, .unset] rfl at_198 ?_
  refine own_iload H rfl at_200 ?_
  refine own_ifeq_f H at_202 (by decide) ?_
  refine own_lload H rfl at_205 ?_
  refine own_iload H rfl at_207 ?_
  refine own_ifeq_f H at_209 (by decide) ?_
  refine own_lload H rfl at_212 ?_
  refine own_lload H rfl at_214 ?_
  refine own_lload H rfl at_216 ?_
  refine own_invokestatic H (argsL := [(.long (Int64.ofNat A))]) (rest := [(.long (Int64.ofNat A)), (.long st), (.long (st + (Int64.ofNat (own_Rf A (own_Gf A)))))]) (rmGrp l Z a0 (own_hw H) h184 n0 (Int64.ofNat A)) (w1 := 110) (w2 := 111) (w3 := 112) (w4 := 113) rfl rfl rfl rfl own_pd3 rfl 6 (by decide) rfl (by decide) (Nat.le_of_eq rfl) (by decide) (by decide) (by decide) rfl at_218 ?_
  rintro _ _ ⟨rfl, rfl⟩
  show own_G _ _ _ _ _ _ _ _ 221 #[.val (.long p1), .second, .val (.long p2), .second, .val (.long p3), .second, .val (.long p4), .second, .val (.long p5), .second, .val (.int p6), .val (.long st), .second, .val (.long (Int64.ofNat t)), .second, .val (.long lm), .second, .val (.int (1 : Int32)), .val (.long (Int64.ofNat A)), .second, .val (.long (Int64.ofNat U)), .second, .val (.int (1 : Int32)), .val (.long (Int64.ofNat Bn)), .second, .val (.ref a2), .val (.ref a44), .val (.ref a108), .val (.int (1 : Int32)), .val (.long (st + (Int64.ofNat (own_Rf A (own_Gf A))))), .second, .unset, .unset, .unset, .unset, .unset, .unset, .unset, .unset, .unset, .unset, .unset] [(.int (FGrp (Int64.ofNat A))), (.long (Int64.ofNat A)), (.long st), (.long (st + (Int64.ofNat (own_Rf A (own_Gf A)))))]
  rw [own_grp hA']
  show own_G _ _ _ _ _ _ _ _ 221 #[.val (.long p1), .second, .val (.long p2), .second, .val (.long p3), .second, .val (.long p4), .second, .val (.long p5), .second, .val (.int p6), .val (.long st), .second, .val (.long (Int64.ofNat t)), .second, .val (.long lm), .second, .val (.int (1 : Int32)), .val (.long (Int64.ofNat A)), .second, .val (.long (Int64.ofNat U)), .second, .val (.int (1 : Int32)), .val (.long (Int64.ofNat Bn)), .second, .val (.ref a2), .val (.ref a44), .val (.ref a108), .val (.int (1 : Int32)), .val (.long (st + (Int64.ofNat (own_Rf A (own_Gf A))))), .second, .unset, .unset, .unset, .unset, .unset, .unset, .unset, .unset, .unset, .unset, .unset] [(.int (Int32.ofNat (own_Gf A))), (.long (Int64.ofNat A)), (.long st), (.long (st + (Int64.ofNat (own_Rf A (own_Gf A)))))]
  refine own_invokestatic H (argsL := [(.long (Int64.ofNat A)), (.int (Int32.ofNat (own_Gf A)))]) (rest := [(.long st), (.long (st + (Int64.ofNat (own_Rf A (own_Gf A)))))]) (rmRnd l Z a0 (own_hw H) h184 n0 (Int64.ofNat A) (Int32.ofNat (own_Gf A))) (w1 := 114) (w2 := 115) (w3 := 112) (w4 := 116) rfl rfl rfl rfl own_pd5 rfl 4 (by decide) rfl (by decide) (Nat.le_of_eq rfl) (by decide) (by decide) (by decide) rfl at_221 ?_
  rintro _ _ ⟨rfl, rfl⟩
  show own_G _ _ _ _ _ _ _ _ 224 #[.val (.long p1), .second, .val (.long p2), .second, .val (.long p3), .second, .val (.long p4), .second, .val (.long p5), .second, .val (.int p6), .val (.long st), .second, .val (.long (Int64.ofNat t)), .second, .val (.long lm), .second, .val (.int (1 : Int32)), .val (.long (Int64.ofNat A)), .second, .val (.long (Int64.ofNat U)), .second, .val (.int (1 : Int32)), .val (.long (Int64.ofNat Bn)), .second, .val (.ref a2), .val (.ref a44), .val (.ref a108), .val (.int (1 : Int32)), .val (.long (st + (Int64.ofNat (own_Rf A (own_Gf A))))), .second, .unset, .unset, .unset, .unset, .unset, .unset, .unset, .unset, .unset, .unset, .unset] [(.long (FRnd (Int64.ofNat A) (Int32.ofNat (own_Gf A)))), (.long st), (.long (st + (Int64.ofNat (own_Rf A (own_Gf A)))))]
  rw [own_rnd (k := (own_Gf A)) hA' (by have := own_G10 hA'; omega)]
  show own_G _ _ _ _ _ _ _ _ 224 #[.val (.long p1), .second, .val (.long p2), .second, .val (.long p3), .second, .val (.long p4), .second, .val (.long p5), .second, .val (.int p6), .val (.long st), .second, .val (.long (Int64.ofNat t)), .second, .val (.long lm), .second, .val (.int (1 : Int32)), .val (.long (Int64.ofNat A)), .second, .val (.long (Int64.ofNat U)), .second, .val (.int (1 : Int32)), .val (.long (Int64.ofNat Bn)), .second, .val (.ref a2), .val (.ref a44), .val (.ref a108), .val (.int (1 : Int32)), .val (.long (st + (Int64.ofNat (own_Rf A (own_Gf A))))), .second, .unset, .unset, .unset, .unset, .unset, .unset, .unset, .unset, .unset, .unset, .unset] [(.long (Int64.ofNat (own_Rf A (own_Gf A)))), (.long st), (.long (st + (Int64.ofNat (own_Rf A (own_Gf A)))))]
  refine own_ladd H rfl at_224 ?_
  refine own_goto H (pc' := 231) at_225 (by decide) (by decide) ?_
  refine own_lcmpne_f H at_231 at_232 rfl ?_
  refine own_iconst H (1 : Int32) (by decide) at_235 ?_
  refine own_goto H (pc' := 240) at_236 (by decide) (by decide) ?_
  refine own_istore H #[.val (.long p1), .second, .val (.long p2), .second, .val (.long p3), .second, .val (.long p4), .second, .val (.long p5), .second, .val (.int p6), .val (.long st), .second, .val (.long (Int64.ofNat t)), .second, .val (.long lm), .second, .val (.int (1 : Int32)), .val (.long (Int64.ofNat A)), .second, .val (.long (Int64.ofNat U)), .second, .val (.int (1 : Int32)), .val (.long (Int64.ofNat Bn)), .second, .val (.ref a2), .val (.ref a44), .val (.ref a108), .val (.int (1 : Int32)), .val (.long (st + (Int64.ofNat (own_Rf A (own_Gf A))))), .second, .unset, .unset, .unset, .unset, .unset, .unset, .unset, .unset, .unset, .unset, .unset] rfl at_240 ?_
  refine own_aload H rfl rfl at_242 ?_
  refine own_lload H rfl at_244 ?_
  refine own_lload H rfl at_246 ?_
  refine own_ladd H rfl at_248 ?_
  refine own_invokevirtual H (a := a2) (argsL := [(.long (st + (Int64.ofNat U)))]) (rest := []) (rmPo1 l Z a0 (own_hw H) h184 n0 a2 a44 a108 aH aT aO kH kT kO M st (st + (Int64.ofNat A)) (st + (Int64.ofNat Bn)) .null .null (st + (Int64.ofNat U)) A U ⟨⟨u185, u186, u187, u188, u189, u190, u191⟩, ⟨u192, u193, u194, u195, u196, u197, u198, u199, u200, u201, u202, u203, u204, u205, u206⟩, ⟨u207, u208, u209, u210, u211⟩, ⟨u212, u213, u214, u215, u216, u217⟩, ⟨u218, u219, u220⟩, ⟨u221, u222, u223⟩, ⟨u224, u225, u226⟩⟩ hM hA' hU' hLA (own_sc _ _) (own_sc _ _)) u207 (w1 := 71) (w0 := 72) (w5 := 74) (w2 := 73) (w3 := 10) (w4 := 75) rfl rfl rfl rfl rfl rfl own_pd12 rfl 0 (by decide) rfl (by decide) (Nat.le_of_eq rfl) (by decide) (by decide) (by decide) rfl at_249 ?_
  rintro _ h227 (⟨hle, rfl, hQ⟩ | ⟨hlt, rfl, hQ⟩)
  ·
    obtain ⟨⟨u228, u229, u230, u231, u232, u233, u234⟩, ⟨u235, u236, u237, u238, u239, u240, u241, u242, u243, u244, u245, u246, u247, u248, u249⟩, ⟨u250, u251, u252, u253, u254⟩, ⟨u255, u256, u257, u258, u259, u260⟩, ⟨u261, u262, u263⟩, ⟨u264, u265, u266⟩, ⟨u267, u268, u269⟩⟩ := hQ
    show own_G _ _ _ _ _ _ _ _ 252 #[.val (.long p1), .second, .val (.long p2), .second, .val (.long p3), .second, .val (.long p4), .second, .val (.long p5), .second, .val (.int p6), .val (.long st), .second, .val (.long (Int64.ofNat t)), .second, .val (.long lm), .second, .val (.int (1 : Int32)), .val (.long (Int64.ofNat A)), .second, .val (.long (Int64.ofNat U)), .second, .val (.int (1 : Int32)), .val (.long (Int64.ofNat Bn)), .second, .val (.ref a2), .val (.ref a44), .val (.ref a108), .val (.int (1 : Int32)), .val (.long (st + (Int64.ofNat (own_Rf A (own_Gf A))))), .second, .unset, .unset, .unset, .unset, .unset, .unset, .unset, .unset, .unset, .unset, .unset] [(.ref a44)]
    have hc1 := own_Rle A 1
    have hLB : own_Gf (Bn ^^^ (own_Rf A 1)) < M := by rw [← hMe]; exact own_GM (by omega) (by omega)
    refine own_astore H rfl #[.val (.long p1), .second, .val (.long p2), .second, .val (.long p3), .second, .val (.long p4), .second, .val (.long p5), .second, .val (.int p6), .val (.long st), .second, .val (.long (Int64.ofNat t)), .second, .val (.long lm), .second, .val (.int (1 : Int32)), .val (.long (Int64.ofNat A)), .second, .val (.long (Int64.ofNat U)), .second, .val (.int (1 : Int32)), .val (.long (Int64.ofNat Bn)), .second, .val (.ref a2), .val (.ref a44), .val (.ref a108), .val (.int (1 : Int32)), .val (.long (st + (Int64.ofNat (own_Rf A (own_Gf A))))), .second, .val (.ref a44), .unset, .unset, .unset, .unset, .unset, .unset, .unset, .unset, .unset, .unset] rfl at_252 ?_
    refine own_iload H rfl at_254 ?_
    refine own_ifeq_f H at_256 (by decide) ?_
    refine own_lload H rfl at_259 ?_
    refine own_lload H rfl at_261 ?_
    refine own_lcmpgt_f H at_263 at_264 (fun z => absurd ((own_lj hU' hA').mp z) (by omega)) ?_
    refine own_iconst H (1 : Int32) (by decide) at_267 ?_
    refine own_goto H (pc' := 272) at_268 (by decide) (by decide) ?_
    refine own_istore H #[.val (.long p1), .second, .val (.long p2), .second, .val (.long p3), .second, .val (.long p4), .second, .val (.long p5), .second, .val (.int p6), .val (.long st), .second, .val (.long (Int64.ofNat t)), .second, .val (.long lm), .second, .val (.int (1 : Int32)), .val (.long (Int64.ofNat A)), .second, .val (.long (Int64.ofNat U)), .second, .val (.int (1 : Int32)), .val (.long (Int64.ofNat Bn)), .second, .val (.ref a2), .val (.ref a44), .val (.ref a108), .val (.int (1 : Int32)), .val (.long (st + (Int64.ofNat (own_Rf A (own_Gf A))))), .second, .val (.ref a44), .val (.int (1 : Int32)), .unset, .unset, .unset, .unset, .unset, .unset, .unset, .unset, .unset] rfl at_272 ?_
    refine own_iload H rfl at_274 ?_
    refine own_ifeq_f H at_276 (by decide) ?_
    refine own_aload H rfl rfl at_279 ?_
    refine own_iload H rfl at_281 ?_
    refine own_ifeq_f H at_283 (by decide) ?_
    refine own_aload H rfl rfl at_286 ?_
    refine own_goto H (pc' := 292) at_288 (by decide) (by decide) ?_
    refine own_acmpne_f H at_292 rfl rfl rfl ?_
    refine own_iconst H (1 : Int32) (by decide) at_295 ?_
    refine own_goto H (pc' := 300) at_296 (by decide) (by decide) ?_
    refine own_istore H #[.val (.long p1), .second, .val (.long p2), .second, .val (.long p3), .second, .val (.long p4), .second, .val (.long p5), .second, .val (.int p6), .val (.long st), .second, .val (.long (Int64.ofNat t)), .second, .val (.long lm), .second, .val (.int (1 : Int32)), .val (.long (Int64.ofNat A)), .second, .val (.long (Int64.ofNat U)), .second, .val (.int (1 : Int32)), .val (.long (Int64.ofNat Bn)), .second, .val (.ref a2), .val (.ref a44), .val (.ref a108), .val (.int (1 : Int32)), .val (.long (st + (Int64.ofNat (own_Rf A (own_Gf A))))), .second, .val (.ref a44), .val (.int (1 : Int32)), .unset, .unset, .unset, .unset, .unset, .unset, .unset, .unset, .unset] rfl at_300 ?_
    refine own_iload H rfl at_302 ?_
    refine own_ifne_t H (pc' := 311) at_304 (by decide) (by decide) (by decide) ?_
    refine own_iload H rfl at_311 ?_
    refine own_ifeq_f H at_313 (by decide) ?_
    refine own_lload H rfl at_316 ?_
    refine own_iconst H (1 : Int32) (by decide) at_318 ?_
    refine own_invokestatic H (argsL := [(.long (Int64.ofNat A)), (.int (1 : Int32))]) (rest := []) (rmRnd l Z a0 (own_hw H) h227 n0 (Int64.ofNat A) (1 : Int32)) (w1 := 114) (w2 := 115) (w3 := 112) (w4 := 116) rfl rfl rfl rfl own_pd5 rfl 0 (by decide) rfl (by decide) (Nat.le_of_eq rfl) (by decide) (by decide) (by decide) rfl at_319 ?_
    rintro _ _ ⟨rfl, rfl⟩
    show own_G _ _ _ _ _ _ _ _ 322 #[.val (.long p1), .second, .val (.long p2), .second, .val (.long p3), .second, .val (.long p4), .second, .val (.long p5), .second, .val (.int p6), .val (.long st), .second, .val (.long (Int64.ofNat t)), .second, .val (.long lm), .second, .val (.int (1 : Int32)), .val (.long (Int64.ofNat A)), .second, .val (.long (Int64.ofNat U)), .second, .val (.int (1 : Int32)), .val (.long (Int64.ofNat Bn)), .second, .val (.ref a2), .val (.ref a44), .val (.ref a108), .val (.int (1 : Int32)), .val (.long (st + (Int64.ofNat (own_Rf A (own_Gf A))))), .second, .val (.ref a44), .val (.int (1 : Int32)), .unset, .unset, .unset, .unset, .unset, .unset, .unset, .unset, .unset] [(.long (FRnd (Int64.ofNat A) (1 : Int32)))]
    rw [show FRnd (Int64.ofNat A) (1 : Int32) = Int64.ofNat (own_Rf A 1) from own_rnd (k := 1) hA' (by omega)]
    show own_G _ _ _ _ _ _ _ _ 322 #[.val (.long p1), .second, .val (.long p2), .second, .val (.long p3), .second, .val (.long p4), .second, .val (.long p5), .second, .val (.int p6), .val (.long st), .second, .val (.long (Int64.ofNat t)), .second, .val (.long lm), .second, .val (.int (1 : Int32)), .val (.long (Int64.ofNat A)), .second, .val (.long (Int64.ofNat U)), .second, .val (.int (1 : Int32)), .val (.long (Int64.ofNat Bn)), .second, .val (.ref a2), .val (.ref a44), .val (.ref a108), .val (.int (1 : Int32)), .val (.long (st + (Int64.ofNat (own_Rf A (own_Gf A))))), .second, .val (.ref a44), .val (.int (1 : Int32)), .unset, .unset, .unset, .unset, .unset, .unset, .unset, .unset, .unset] [(.long (Int64.ofNat (own_Rf A 1)))]
    refine own_goto H (pc' := 340) at_322 (by decide) (by decide) ?_
    refine own_lstore H #[.val (.long p1), .second, .val (.long p2), .second, .val (.long p3), .second, .val (.long p4), .second, .val (.long p5), .second, .val (.int p6), .val (.long st), .second, .val (.long (Int64.ofNat t)), .second, .val (.long lm), .second, .val (.int (1 : Int32)), .val (.long (Int64.ofNat A)), .second, .val (.long (Int64.ofNat U)), .second, .val (.int (1 : Int32)), .val (.long (Int64.ofNat Bn)), .second, .val (.ref a2), .val (.ref a44), .val (.ref a108), .val (.int (1 : Int32)), .val (.long (st + (Int64.ofNat (own_Rf A (own_Gf A))))), .second, .val (.ref a44), .val (.int (1 : Int32)), .val (.long (Int64.ofNat (own_Rf A 1))), .second, .unset, .unset, .unset, .unset, .unset, .unset, .unset] rfl at_340 ?_
    refine own_iload H rfl at_342 ?_
    refine own_ifeq_f H at_344 (by decide) ?_
    refine own_iload H rfl at_347 ?_
    refine own_ifne_t H (pc' := 356) at_349 (by decide) (by decide) (by decide) ?_
    refine own_iconst H (0 : Int32) (by decide) at_356 ?_
    refine own_istore H #[.val (.long p1), .second, .val (.long p2), .second, .val (.long p3), .second, .val (.long p4), .second, .val (.long p5), .second, .val (.int p6), .val (.long st), .second, .val (.long (Int64.ofNat t)), .second, .val (.long lm), .second, .val (.int (1 : Int32)), .val (.long (Int64.ofNat A)), .second, .val (.long (Int64.ofNat U)), .second, .val (.int (1 : Int32)), .val (.long (Int64.ofNat Bn)), .second, .val (.ref a2), .val (.ref a44), .val (.ref a108), .val (.int (1 : Int32)), .val (.long (st + (Int64.ofNat (own_Rf A (own_Gf A))))), .second, .val (.ref a44), .val (.int (1 : Int32)), .val (.long (Int64.ofNat (own_Rf A 1))), .second, .val (.int (0 : Int32)), .unset, .unset, .unset, .unset, .unset, .unset] rfl at_357 ?_
    refine own_iload H rfl at_359 ?_
    refine own_ifeq_t H (pc' := 380) at_361 (by decide) (by decide) (by decide) ?_
    refine own_lconst H (0 : Int64) (by decide) at_380 ?_
    refine own_lstore H #[.val (.long p1), .second, .val (.long p2), .second, .val (.long p3), .second, .val (.long p4), .second, .val (.long p5), .second, .val (.int p6), .val (.long st), .second, .val (.long (Int64.ofNat t)), .second, .val (.long lm), .second, .val (.int (1 : Int32)), .val (.long (Int64.ofNat A)), .second, .val (.long (Int64.ofNat U)), .second, .val (.int (1 : Int32)), .val (.long (Int64.ofNat Bn)), .second, .val (.ref a2), .val (.ref a44), .val (.ref a108), .val (.int (1 : Int32)), .val (.long (st + (Int64.ofNat (own_Rf A (own_Gf A))))), .second, .val (.ref a44), .val (.int (1 : Int32)), .val (.long (Int64.ofNat (own_Rf A 1))), .second, .val (.int (0 : Int32)), .val (.long (0 : Int64)), .second, .unset, .unset, .unset, .unset] rfl at_381 ?_
    refine own_iload H rfl at_383 ?_
    refine own_ifeq_f H at_385 (by decide) ?_
    refine own_aload H rfl rfl at_388 ?_
    refine own_aload H rfl rfl at_390 ?_
    refine own_invokevirtual H (a := a2) (argsL := [(.ref a108)]) (rest := []) (rmAdE l Z a0 (own_hw H) h227 n0 a2 a108 a44 aH aT aO kH kT kO M st (st + (Int64.ofNat Bn)) (st + (Int64.ofNat A)) (Int64.ofNat (own_Rf A 1)) own_h0 own_h0 own_o0 .null .null .null .null (own_h1 a108 (own_Kf Bn (own_Gf (Bn ^^^ (own_Rf A 1))))) (own_h1 a108 (own_Kf Bn (own_Gf (Bn ^^^ (own_Rf A 1))))) (own_o1 (own_Kf Bn (own_Gf (Bn ^^^ (own_Rf A 1))))) (own_Kf Bn (own_Gf (Bn ^^^ (own_Rf A 1)))) (0 : Int64) ⟨⟨u228, u229, u231, u230, u232, u233, u234⟩, ⟨u236, u235, u237, u238, u239, u240.symm, u244, u245, u246, u241, u242, u243, u247, u248, u249⟩, ⟨u250, u252, u251, u253, u254⟩, ⟨u255, u256, u257, u258, u259, u260⟩, ⟨u264, u265, u266⟩, ⟨u261, u262, u263⟩, ⟨u267, u268, u269⟩⟩ hM (own_Klt hLB) rfl rfl (fun _ _ => rfl) (fun _ _ => rfl) (fun i _ => own_g3 _ i) (by rw [own_sc]; exact own_bk hB' (own_Rlt 1 hA'))) u250 (w1 := 81) (w0 := 82) (w5 := 84) (w2 := 83) (w3 := 10) (w4 := 85) rfl rfl rfl rfl rfl rfl own_pd9 rfl 0 (by decide) rfl (by decide) (Nat.le_of_eq rfl) (by decide) (by decide) (by decide) rfl at_392 ?_
    rintro _ h270 ⟨rfl, hQ⟩
    obtain ⟨⟨u271, u272, u273, u274, u275, u276, u277⟩, ⟨u278, u279, u280, u281, u282, u283, u284, u285, u286, u287, u288, u289, u290, u291, u292⟩, ⟨u293, u294, u295, u296, u297⟩, ⟨u298, u299, u300, u301, u302, u303⟩, ⟨u304, u305, u306⟩, ⟨u307, u308, u309⟩, ⟨u310, u311, u312⟩⟩ := hQ
    show own_G _ _ _ _ _ _ _ _ 395 #[.val (.long p1), .second, .val (.long p2), .second, .val (.long p3), .second, .val (.long p4), .second, .val (.long p5), .second, .val (.int p6), .val (.long st), .second, .val (.long (Int64.ofNat t)), .second, .val (.long lm), .second, .val (.int (1 : Int32)), .val (.long (Int64.ofNat A)), .second, .val (.long (Int64.ofNat U)), .second, .val (.int (1 : Int32)), .val (.long (Int64.ofNat Bn)), .second, .val (.ref a2), .val (.ref a44), .val (.ref a108), .val (.int (1 : Int32)), .val (.long (st + (Int64.ofNat (own_Rf A (own_Gf A))))), .second, .val (.ref a44), .val (.int (1 : Int32)), .val (.long (Int64.ofNat (own_Rf A 1))), .second, .val (.int (0 : Int32)), .val (.long (0 : Int64)), .second, .unset, .unset, .unset, .unset] []
    refine own_iload H rfl at_395 ?_
    refine own_ifeq_f H at_397 (by decide) ?_
    refine own_lload H rfl at_400 ?_
    refine own_lload H rfl at_402 ?_
    refine own_lload H rfl at_404 ?_
    refine own_lxor H rfl at_406 ?_
    rw [own_xr Bn (own_Rf A 1)]
    show own_G _ _ _ _ _ _ _ _ 407 #[.val (.long p1), .second, .val (.long p2), .second, .val (.long p3), .second, .val (.long p4), .second, .val (.long p5), .second, .val (.int p6), .val (.long st), .second, .val (.long (Int64.ofNat t)), .second, .val (.long lm), .second, .val (.int (1 : Int32)), .val (.long (Int64.ofNat A)), .second, .val (.long (Int64.ofNat U)), .second, .val (.int (1 : Int32)), .val (.long (Int64.ofNat Bn)), .second, .val (.ref a2), .val (.ref a44), .val (.ref a108), .val (.int (1 : Int32)), .val (.long (st + (Int64.ofNat (own_Rf A (own_Gf A))))), .second, .val (.ref a44), .val (.int (1 : Int32)), .val (.long (Int64.ofNat (own_Rf A 1))), .second, .val (.int (0 : Int32)), .val (.long (0 : Int64)), .second, .unset, .unset, .unset, .unset] [(.long (Int64.ofNat (Bn ^^^ (own_Rf A 1)))), (.long (Int64.ofNat Bn))]
    refine own_invokestatic H (argsL := [(.long (Int64.ofNat (Bn ^^^ (own_Rf A 1))))]) (rest := [(.long (Int64.ofNat Bn))]) (rmGrp l Z a0 (own_hw H) h270 n0 (Int64.ofNat (Bn ^^^ (own_Rf A 1)))) (w1 := 110) (w2 := 111) (w3 := 112) (w4 := 113) rfl rfl rfl rfl own_pd3 rfl 2 (by decide) rfl (by decide) (Nat.le_of_eq rfl) (by decide) (by decide) (by decide) rfl at_407 ?_
    rintro _ _ ⟨rfl, rfl⟩
    show own_G _ _ _ _ _ _ _ _ 410 #[.val (.long p1), .second, .val (.long p2), .second, .val (.long p3), .second, .val (.long p4), .second, .val (.long p5), .second, .val (.int p6), .val (.long st), .second, .val (.long (Int64.ofNat t)), .second, .val (.long lm), .second, .val (.int (1 : Int32)), .val (.long (Int64.ofNat A)), .second, .val (.long (Int64.ofNat U)), .second, .val (.int (1 : Int32)), .val (.long (Int64.ofNat Bn)), .second, .val (.ref a2), .val (.ref a44), .val (.ref a108), .val (.int (1 : Int32)), .val (.long (st + (Int64.ofNat (own_Rf A (own_Gf A))))), .second, .val (.ref a44), .val (.int (1 : Int32)), .val (.long (Int64.ofNat (own_Rf A 1))), .second, .val (.int (0 : Int32)), .val (.long (0 : Int64)), .second, .unset, .unset, .unset, .unset] [(.int (FGrp (Int64.ofNat (Bn ^^^ (own_Rf A 1))))), (.long (Int64.ofNat Bn))]
    rw [own_grp (Nat.xor_lt_two_pow hB' (own_Rlt 1 hA'))]
    show own_G _ _ _ _ _ _ _ _ 410 #[.val (.long p1), .second, .val (.long p2), .second, .val (.long p3), .second, .val (.long p4), .second, .val (.long p5), .second, .val (.int p6), .val (.long st), .second, .val (.long (Int64.ofNat t)), .second, .val (.long lm), .second, .val (.int (1 : Int32)), .val (.long (Int64.ofNat A)), .second, .val (.long (Int64.ofNat U)), .second, .val (.int (1 : Int32)), .val (.long (Int64.ofNat Bn)), .second, .val (.ref a2), .val (.ref a44), .val (.ref a108), .val (.int (1 : Int32)), .val (.long (st + (Int64.ofNat (own_Rf A (own_Gf A))))), .second, .val (.ref a44), .val (.int (1 : Int32)), .val (.long (Int64.ofNat (own_Rf A 1))), .second, .val (.int (0 : Int32)), .val (.long (0 : Int64)), .second, .unset, .unset, .unset, .unset] [(.int (Int32.ofNat (own_Gf (Bn ^^^ (own_Rf A 1))))), (.long (Int64.ofNat Bn))]
    refine own_invokestatic H (argsL := [(.long (Int64.ofNat Bn)), (.int (Int32.ofNat (own_Gf (Bn ^^^ (own_Rf A 1)))))]) (rest := []) (rmRnd l Z a0 (own_hw H) h270 n0 (Int64.ofNat Bn) (Int32.ofNat (own_Gf (Bn ^^^ (own_Rf A 1))))) (w1 := 114) (w2 := 115) (w3 := 112) (w4 := 116) rfl rfl rfl rfl own_pd5 rfl 0 (by decide) rfl (by decide) (Nat.le_of_eq rfl) (by decide) (by decide) (by decide) rfl at_410 ?_
    rintro _ _ ⟨rfl, rfl⟩
    show own_G _ _ _ _ _ _ _ _ 413 #[.val (.long p1), .second, .val (.long p2), .second, .val (.long p3), .second, .val (.long p4), .second, .val (.long p5), .second, .val (.int p6), .val (.long st), .second, .val (.long (Int64.ofNat t)), .second, .val (.long lm), .second, .val (.int (1 : Int32)), .val (.long (Int64.ofNat A)), .second, .val (.long (Int64.ofNat U)), .second, .val (.int (1 : Int32)), .val (.long (Int64.ofNat Bn)), .second, .val (.ref a2), .val (.ref a44), .val (.ref a108), .val (.int (1 : Int32)), .val (.long (st + (Int64.ofNat (own_Rf A (own_Gf A))))), .second, .val (.ref a44), .val (.int (1 : Int32)), .val (.long (Int64.ofNat (own_Rf A 1))), .second, .val (.int (0 : Int32)), .val (.long (0 : Int64)), .second, .unset, .unset, .unset, .unset] [(.long (FRnd (Int64.ofNat Bn) (Int32.ofNat (own_Gf (Bn ^^^ (own_Rf A 1))))))]
    rw [own_rnd (k := (own_Gf (Bn ^^^ (own_Rf A 1)))) hB' (by have := own_G10 (Nat.xor_lt_two_pow hB' (own_Rlt 1 hA')); omega)]
    show own_G _ _ _ _ _ _ _ _ 413 #[.val (.long p1), .second, .val (.long p2), .second, .val (.long p3), .second, .val (.long p4), .second, .val (.long p5), .second, .val (.int p6), .val (.long st), .second, .val (.long (Int64.ofNat t)), .second, .val (.long lm), .second, .val (.int (1 : Int32)), .val (.long (Int64.ofNat A)), .second, .val (.long (Int64.ofNat U)), .second, .val (.int (1 : Int32)), .val (.long (Int64.ofNat Bn)), .second, .val (.ref a2), .val (.ref a44), .val (.ref a108), .val (.int (1 : Int32)), .val (.long (st + (Int64.ofNat (own_Rf A (own_Gf A))))), .second, .val (.ref a44), .val (.int (1 : Int32)), .val (.long (Int64.ofNat (own_Rf A 1))), .second, .val (.int (0 : Int32)), .val (.long (0 : Int64)), .second, .unset, .unset, .unset, .unset] [(.long (Int64.ofNat (own_Rf Bn (own_Gf (Bn ^^^ (own_Rf A 1))))))]
    refine own_goto H (pc' := 417) at_413 (by decide) (by decide) ?_
    refine own_lstore H #[.val (.long p1), .second, .val (.long p2), .second, .val (.long p3), .second, .val (.long p4), .second, .val (.long p5), .second, .val (.int p6), .val (.long st), .second, .val (.long (Int64.ofNat t)), .second, .val (.long lm), .second, .val (.int (1 : Int32)), .val (.long (Int64.ofNat A)), .second, .val (.long (Int64.ofNat U)), .second, .val (.int (1 : Int32)), .val (.long (Int64.ofNat Bn)), .second, .val (.ref a2), .val (.ref a44), .val (.ref a108), .val (.int (1 : Int32)), .val (.long (st + (Int64.ofNat (own_Rf A (own_Gf A))))), .second, .val (.ref a44), .val (.int (1 : Int32)), .val (.long (Int64.ofNat (own_Rf A 1))), .second, .val (.int (0 : Int32)), .val (.long (0 : Int64)), .second, .val (.long (Int64.ofNat (own_Rf Bn (own_Gf (Bn ^^^ (own_Rf A 1)))))), .second, .unset, .unset] rfl at_417 ?_
    refine own_iload H rfl at_419 ?_
    refine own_ifeq_t H (pc' := 444) at_421 (by decide) (by decide) (by decide) ?_
    refine own_iload H rfl at_444 ?_
    refine own_ifeq_t H (pc' := 459) at_446 (by decide) (by decide) (by decide) ?_
    refine own_iload H rfl at_459 ?_
    refine own_ifeq_f H at_461 (by decide) ?_
    refine own_lload H rfl at_464 ?_
    refine own_lload H rfl at_466 ?_
    refine own_ladd H rfl at_468 ?_
    refine own_lstore H #[.val (.long p1), .second, .val (.long p2), .second, .val (.long p3), .second, .val (.long p4), .second, .val (.long p5), .second, .val (.int p6), .val (.long st), .second, .val (.long (Int64.ofNat t)), .second, .val (.long lm), .second, .val (.int (1 : Int32)), .val (.long (Int64.ofNat A)), .second, .val (.long (Int64.ofNat U)), .second, .val (.int (1 : Int32)), .val (.long (Int64.ofNat Bn)), .second, .val (.ref a2), .val (.ref a44), .val (.ref a108), .val (.int (1 : Int32)), .val (.long (st + (Int64.ofNat (own_Rf A (own_Gf A))))), .second, .val (.ref a44), .val (.int (1 : Int32)), .val (.long (Int64.ofNat (own_Rf A 1))), .second, .val (.int (0 : Int32)), .val (.long (0 : Int64)), .second, .val (.long (Int64.ofNat (own_Rf Bn (own_Gf (Bn ^^^ (own_Rf A 1)))))), .second, .val (.long (st + (Int64.ofNat (own_Rf Bn (own_Gf (Bn ^^^ (own_Rf A 1))))))), .second] rfl at_469 ?_
    refine own_goto H (pc' := 479) at_471 (by decide) (by decide) ?_
    refine own_iload H rfl at_479 ?_
    refine own_ifeq_f H at_481 (by decide) ?_
    refine own_aload H rfl rfl at_484 ?_
    refine own_invokevirtual H (a := a2) (argsL := []) (rest := []) (rmNiL l Z a0 (own_hw H) h270 n0 a2 aO kO M (own_o1 (own_Kf Bn (own_Gf (Bn ^^^ (own_Rf A 1))))) st (Int64.ofNat (own_Rf A 1)) (own_Gf (Bn ^^^ (own_Rf A 1))) (FBit (Int32.ofNat (own_Kf Bn (own_Gf (Bn ^^^ (own_Rf A 1)))))) u293 u298 u301 u312 u302 u303 hM (fun j hj => own_oz hj) hLB (own_os _ _) (own_nt (own_K704 (by omega))).2) u293 (w1 := 65) (w0 := 66) (w5 := 68) (w2 := 67) (w3 := 10) (w4 := 69) rfl rfl rfl rfl rfl rfl own_pd7 rfl 0 (by decide) rfl (by decide) (Nat.le_of_eq rfl) (by decide) (by decide) (by decide) rfl at_486 ?_
    rintro _ _ ⟨rfl, rfl⟩
    show own_G _ _ _ _ _ _ _ _ 489 #[.val (.long p1), .second, .val (.long p2), .second, .val (.long p3), .second, .val (.long p4), .second, .val (.long p5), .second, .val (.int p6), .val (.long st), .second, .val (.long (Int64.ofNat t)), .second, .val (.long lm), .second, .val (.int (1 : Int32)), .val (.long (Int64.ofNat A)), .second, .val (.long (Int64.ofNat U)), .second, .val (.int (1 : Int32)), .val (.long (Int64.ofNat Bn)), .second, .val (.ref a2), .val (.ref a44), .val (.ref a108), .val (.int (1 : Int32)), .val (.long (st + (Int64.ofNat (own_Rf A (own_Gf A))))), .second, .val (.ref a44), .val (.int (1 : Int32)), .val (.long (Int64.ofNat (own_Rf A 1))), .second, .val (.int (0 : Int32)), .val (.long (0 : Int64)), .second, .val (.long (Int64.ofNat (own_Rf Bn (own_Gf (Bn ^^^ (own_Rf A 1)))))), .second, .val (.long (st + (Int64.ofNat (own_Rf Bn (own_Gf (Bn ^^^ (own_Rf A 1))))))), .second] [(.long (st + (FFo (Int32.ofNat (own_Gf (Bn ^^^ (own_Rf A 1)))) (FNtzL (FBit (Int32.ofNat (own_Kf Bn (own_Gf (Bn ^^^ (own_Rf A 1))))))) (Int64.ofNat (own_Rf A 1)))))]
    rw [own_nx hB' (own_Rlt 1 hA') rfl]
    show own_G _ _ _ _ _ _ _ _ 489 #[.val (.long p1), .second, .val (.long p2), .second, .val (.long p3), .second, .val (.long p4), .second, .val (.long p5), .second, .val (.int p6), .val (.long st), .second, .val (.long (Int64.ofNat t)), .second, .val (.long lm), .second, .val (.int (1 : Int32)), .val (.long (Int64.ofNat A)), .second, .val (.long (Int64.ofNat U)), .second, .val (.int (1 : Int32)), .val (.long (Int64.ofNat Bn)), .second, .val (.ref a2), .val (.ref a44), .val (.ref a108), .val (.int (1 : Int32)), .val (.long (st + (Int64.ofNat (own_Rf A (own_Gf A))))), .second, .val (.ref a44), .val (.int (1 : Int32)), .val (.long (Int64.ofNat (own_Rf A 1))), .second, .val (.int (0 : Int32)), .val (.long (0 : Int64)), .second, .val (.long (Int64.ofNat (own_Rf Bn (own_Gf (Bn ^^^ (own_Rf A 1)))))), .second, .val (.long (st + (Int64.ofNat (own_Rf Bn (own_Gf (Bn ^^^ (own_Rf A 1))))))), .second] [(.long (st + (Int64.ofNat (own_Rf Bn (own_Gf (Bn ^^^ (own_Rf A 1)))))))]
    refine own_lload H rfl at_489 ?_
    refine own_lcmpne_f H at_491 at_492 rfl ?_
    refine own_iconst H (1 : Int32) (by decide) at_495 ?_
    refine own_goto H (pc' := 500) at_496 (by decide) (by decide) ?_
    exact own_ireturn H (by simp) (by decide) at_500 (by decide) (by decide) rfl
  ·
    obtain ⟨⟨u313, u314, u315, u316, u317, u318, u319⟩, ⟨u320, u321, u322, u323, u324, u325, u326, u327, u328, u329, u330, u331, u332, u333, u334⟩, ⟨u335, u336, u337, u338, u339⟩, ⟨u340, u341, u342, u343, u344, u345⟩, ⟨u346, u347, u348⟩, ⟨u349, u350, u351⟩, ⟨u352, u353, u354⟩⟩ := hQ
    show own_G _ _ _ _ _ _ _ _ 252 #[.val (.long p1), .second, .val (.long p2), .second, .val (.long p3), .second, .val (.long p4), .second, .val (.long p5), .second, .val (.int p6), .val (.long st), .second, .val (.long (Int64.ofNat t)), .second, .val (.long lm), .second, .val (.int (1 : Int32)), .val (.long (Int64.ofNat A)), .second, .val (.long (Int64.ofNat U)), .second, .val (.int (1 : Int32)), .val (.long (Int64.ofNat Bn)), .second, .val (.ref a2), .val (.ref a44), .val (.ref a108), .val (.int (1 : Int32)), .val (.long (st + (Int64.ofNat (own_Rf A (own_Gf A))))), .second, .unset, .unset, .unset, .unset, .unset, .unset, .unset, .unset, .unset, .unset, .unset] [.null]
    obtain ⟨hg, hcU⟩ := own_invU hlt
    have hLU : (own_Gf (A ^^^ U)) < M := by rw [← hMe]; exact own_GM (by omega) (by omega)
    have hLB : (own_Gf (Bn ^^^ (own_Rf A ((own_Gf (A ^^^ U)) + 1)))) < M := by rw [← hMe]; exact own_GM (by omega) (by omega)
    refine own_astore H rfl #[.val (.long p1), .second, .val (.long p2), .second, .val (.long p3), .second, .val (.long p4), .second, .val (.long p5), .second, .val (.int p6), .val (.long st), .second, .val (.long (Int64.ofNat t)), .second, .val (.long lm), .second, .val (.int (1 : Int32)), .val (.long (Int64.ofNat A)), .second, .val (.long (Int64.ofNat U)), .second, .val (.int (1 : Int32)), .val (.long (Int64.ofNat Bn)), .second, .val (.ref a2), .val (.ref a44), .val (.ref a108), .val (.int (1 : Int32)), .val (.long (st + (Int64.ofNat (own_Rf A (own_Gf A))))), .second, .val .null, .unset, .unset, .unset, .unset, .unset, .unset, .unset, .unset, .unset, .unset] rfl at_252 ?_
    refine own_iload H rfl at_254 ?_
    refine own_ifeq_f H at_256 (by decide) ?_
    refine own_lload H rfl at_259 ?_
    refine own_lload H rfl at_261 ?_
    refine own_lcmpgt_t H (pc' := 271) at_263 at_264 (by decide) (by decide) ((own_lj hU' hA').mpr hlt) ?_
    refine own_iconst H (0 : Int32) (by decide) at_271 ?_
    refine own_istore H #[.val (.long p1), .second, .val (.long p2), .second, .val (.long p3), .second, .val (.long p4), .second, .val (.long p5), .second, .val (.int p6), .val (.long st), .second, .val (.long (Int64.ofNat t)), .second, .val (.long lm), .second, .val (.int (1 : Int32)), .val (.long (Int64.ofNat A)), .second, .val (.long (Int64.ofNat U)), .second, .val (.int (1 : Int32)), .val (.long (Int64.ofNat Bn)), .second, .val (.ref a2), .val (.ref a44), .val (.ref a108), .val (.int (1 : Int32)), .val (.long (st + (Int64.ofNat (own_Rf A (own_Gf A))))), .second, .val .null, .val (.int (0 : Int32)), .unset, .unset, .unset, .unset, .unset, .unset, .unset, .unset, .unset] rfl at_272 ?_
    refine own_iload H rfl at_274 ?_
    refine own_ifeq_f H at_276 (by decide) ?_
    refine own_aload H rfl rfl at_279 ?_
    refine own_iload H rfl at_281 ?_
    refine own_ifeq_t H (pc' := 291) at_283 (by decide) (by decide) (by decide) ?_
    refine own_aconst_null H at_291 ?_
    refine own_acmpne_f H at_292 rfl rfl rfl ?_
    refine own_iconst H (1 : Int32) (by decide) at_295 ?_
    refine own_goto H (pc' := 300) at_296 (by decide) (by decide) ?_
    refine own_istore H #[.val (.long p1), .second, .val (.long p2), .second, .val (.long p3), .second, .val (.long p4), .second, .val (.long p5), .second, .val (.int p6), .val (.long st), .second, .val (.long (Int64.ofNat t)), .second, .val (.long lm), .second, .val (.int (1 : Int32)), .val (.long (Int64.ofNat A)), .second, .val (.long (Int64.ofNat U)), .second, .val (.int (1 : Int32)), .val (.long (Int64.ofNat Bn)), .second, .val (.ref a2), .val (.ref a44), .val (.ref a108), .val (.int (1 : Int32)), .val (.long (st + (Int64.ofNat (own_Rf A (own_Gf A))))), .second, .val .null, .val (.int (0 : Int32)), .unset, .unset, .unset, .unset, .unset, .unset, .unset, .unset, .unset] rfl at_300 ?_
    refine own_iload H rfl at_302 ?_
    refine own_ifne_t H (pc' := 311) at_304 (by decide) (by decide) (by decide) ?_
    refine own_iload H rfl at_311 ?_
    refine own_ifeq_t H (pc' := 325) at_313 (by decide) (by decide) (by decide) ?_
    refine own_lload H rfl at_325 ?_
    refine own_lload H rfl at_327 ?_
    refine own_lload H rfl at_329 ?_
    refine own_lxor H rfl at_331 ?_
    rw [own_xr A U]
    show own_G _ _ _ _ _ _ _ _ 332 #[.val (.long p1), .second, .val (.long p2), .second, .val (.long p3), .second, .val (.long p4), .second, .val (.long p5), .second, .val (.int p6), .val (.long st), .second, .val (.long (Int64.ofNat t)), .second, .val (.long lm), .second, .val (.int (1 : Int32)), .val (.long (Int64.ofNat A)), .second, .val (.long (Int64.ofNat U)), .second, .val (.int (1 : Int32)), .val (.long (Int64.ofNat Bn)), .second, .val (.ref a2), .val (.ref a44), .val (.ref a108), .val (.int (1 : Int32)), .val (.long (st + (Int64.ofNat (own_Rf A (own_Gf A))))), .second, .val .null, .val (.int (0 : Int32)), .unset, .unset, .unset, .unset, .unset, .unset, .unset, .unset, .unset] [(.long (Int64.ofNat (A ^^^ U))), (.long (Int64.ofNat A))]
    refine own_invokestatic H (argsL := [(.long (Int64.ofNat (A ^^^ U)))]) (rest := [(.long (Int64.ofNat A))]) (rmGrp l Z a0 (own_hw H) h227 n0 (Int64.ofNat (A ^^^ U))) (w1 := 110) (w2 := 111) (w3 := 112) (w4 := 113) rfl rfl rfl rfl own_pd3 rfl 2 (by decide) rfl (by decide) (Nat.le_of_eq rfl) (by decide) (by decide) (by decide) rfl at_332 ?_
    rintro _ _ ⟨rfl, rfl⟩
    show own_G _ _ _ _ _ _ _ _ 335 #[.val (.long p1), .second, .val (.long p2), .second, .val (.long p3), .second, .val (.long p4), .second, .val (.long p5), .second, .val (.int p6), .val (.long st), .second, .val (.long (Int64.ofNat t)), .second, .val (.long lm), .second, .val (.int (1 : Int32)), .val (.long (Int64.ofNat A)), .second, .val (.long (Int64.ofNat U)), .second, .val (.int (1 : Int32)), .val (.long (Int64.ofNat Bn)), .second, .val (.ref a2), .val (.ref a44), .val (.ref a108), .val (.int (1 : Int32)), .val (.long (st + (Int64.ofNat (own_Rf A (own_Gf A))))), .second, .val .null, .val (.int (0 : Int32)), .unset, .unset, .unset, .unset, .unset, .unset, .unset, .unset, .unset] [(.int (FGrp (Int64.ofNat (A ^^^ U)))), (.long (Int64.ofNat A))]
    rw [own_grp (Nat.xor_lt_two_pow hA' hU')]
    show own_G _ _ _ _ _ _ _ _ 335 #[.val (.long p1), .second, .val (.long p2), .second, .val (.long p3), .second, .val (.long p4), .second, .val (.long p5), .second, .val (.int p6), .val (.long st), .second, .val (.long (Int64.ofNat t)), .second, .val (.long lm), .second, .val (.int (1 : Int32)), .val (.long (Int64.ofNat A)), .second, .val (.long (Int64.ofNat U)), .second, .val (.int (1 : Int32)), .val (.long (Int64.ofNat Bn)), .second, .val (.ref a2), .val (.ref a44), .val (.ref a108), .val (.int (1 : Int32)), .val (.long (st + (Int64.ofNat (own_Rf A (own_Gf A))))), .second, .val .null, .val (.int (0 : Int32)), .unset, .unset, .unset, .unset, .unset, .unset, .unset, .unset, .unset] [(.int (Int32.ofNat (own_Gf (A ^^^ U)))), (.long (Int64.ofNat A))]
    refine own_iconst H (1 : Int32) (by decide) at_335 ?_
    refine own_iadd H rfl at_336 ?_
    rw [own_in]
    show own_G _ _ _ _ _ _ _ _ 337 #[.val (.long p1), .second, .val (.long p2), .second, .val (.long p3), .second, .val (.long p4), .second, .val (.long p5), .second, .val (.int p6), .val (.long st), .second, .val (.long (Int64.ofNat t)), .second, .val (.long lm), .second, .val (.int (1 : Int32)), .val (.long (Int64.ofNat A)), .second, .val (.long (Int64.ofNat U)), .second, .val (.int (1 : Int32)), .val (.long (Int64.ofNat Bn)), .second, .val (.ref a2), .val (.ref a44), .val (.ref a108), .val (.int (1 : Int32)), .val (.long (st + (Int64.ofNat (own_Rf A (own_Gf A))))), .second, .val .null, .val (.int (0 : Int32)), .unset, .unset, .unset, .unset, .unset, .unset, .unset, .unset, .unset] [(.int (Int32.ofNat ((own_Gf (A ^^^ U)) + 1))), (.long (Int64.ofNat A))]
    refine own_invokestatic H (argsL := [(.long (Int64.ofNat A)), (.int (Int32.ofNat ((own_Gf (A ^^^ U)) + 1)))]) (rest := []) (rmRnd l Z a0 (own_hw H) h227 n0 (Int64.ofNat A) (Int32.ofNat ((own_Gf (A ^^^ U)) + 1))) (w1 := 114) (w2 := 115) (w3 := 112) (w4 := 116) rfl rfl rfl rfl own_pd5 rfl 0 (by decide) rfl (by decide) (Nat.le_of_eq rfl) (by decide) (by decide) (by decide) rfl at_337 ?_
    rintro _ _ ⟨rfl, rfl⟩
    show own_G _ _ _ _ _ _ _ _ 340 #[.val (.long p1), .second, .val (.long p2), .second, .val (.long p3), .second, .val (.long p4), .second, .val (.long p5), .second, .val (.int p6), .val (.long st), .second, .val (.long (Int64.ofNat t)), .second, .val (.long lm), .second, .val (.int (1 : Int32)), .val (.long (Int64.ofNat A)), .second, .val (.long (Int64.ofNat U)), .second, .val (.int (1 : Int32)), .val (.long (Int64.ofNat Bn)), .second, .val (.ref a2), .val (.ref a44), .val (.ref a108), .val (.int (1 : Int32)), .val (.long (st + (Int64.ofNat (own_Rf A (own_Gf A))))), .second, .val .null, .val (.int (0 : Int32)), .unset, .unset, .unset, .unset, .unset, .unset, .unset, .unset, .unset] [(.long (FRnd (Int64.ofNat A) (Int32.ofNat ((own_Gf (A ^^^ U)) + 1))))]
    rw [own_rnd (k := ((own_Gf (A ^^^ U)) + 1)) hA' (by have := own_G10 (Nat.xor_lt_two_pow hA' hU'); omega)]
    show own_G _ _ _ _ _ _ _ _ 340 #[.val (.long p1), .second, .val (.long p2), .second, .val (.long p3), .second, .val (.long p4), .second, .val (.long p5), .second, .val (.int p6), .val (.long st), .second, .val (.long (Int64.ofNat t)), .second, .val (.long lm), .second, .val (.int (1 : Int32)), .val (.long (Int64.ofNat A)), .second, .val (.long (Int64.ofNat U)), .second, .val (.int (1 : Int32)), .val (.long (Int64.ofNat Bn)), .second, .val (.ref a2), .val (.ref a44), .val (.ref a108), .val (.int (1 : Int32)), .val (.long (st + (Int64.ofNat (own_Rf A (own_Gf A))))), .second, .val .null, .val (.int (0 : Int32)), .unset, .unset, .unset, .unset, .unset, .unset, .unset, .unset, .unset] [(.long (Int64.ofNat (own_Rf A ((own_Gf (A ^^^ U)) + 1))))]
    refine own_lstore H #[.val (.long p1), .second, .val (.long p2), .second, .val (.long p3), .second, .val (.long p4), .second, .val (.long p5), .second, .val (.int p6), .val (.long st), .second, .val (.long (Int64.ofNat t)), .second, .val (.long lm), .second, .val (.int (1 : Int32)), .val (.long (Int64.ofNat A)), .second, .val (.long (Int64.ofNat U)), .second, .val (.int (1 : Int32)), .val (.long (Int64.ofNat Bn)), .second, .val (.ref a2), .val (.ref a44), .val (.ref a108), .val (.int (1 : Int32)), .val (.long (st + (Int64.ofNat (own_Rf A (own_Gf A))))), .second, .val .null, .val (.int (0 : Int32)), .val (.long (Int64.ofNat (own_Rf A ((own_Gf (A ^^^ U)) + 1)))), .second, .unset, .unset, .unset, .unset, .unset, .unset, .unset] rfl at_340 ?_
    refine own_iload H rfl at_342 ?_
    refine own_ifeq_f H at_344 (by decide) ?_
    refine own_iload H rfl at_347 ?_
    refine own_ifne_f H at_349 (by decide) ?_
    refine own_iconst H (1 : Int32) (by decide) at_352 ?_
    refine own_goto H (pc' := 357) at_353 (by decide) (by decide) ?_
    refine own_istore H #[.val (.long p1), .second, .val (.long p2), .second, .val (.long p3), .second, .val (.long p4), .second, .val (.long p5), .second, .val (.int p6), .val (.long st), .second, .val (.long (Int64.ofNat t)), .second, .val (.long lm), .second, .val (.int (1 : Int32)), .val (.long (Int64.ofNat A)), .second, .val (.long (Int64.ofNat U)), .second, .val (.int (1 : Int32)), .val (.long (Int64.ofNat Bn)), .second, .val (.ref a2), .val (.ref a44), .val (.ref a108), .val (.int (1 : Int32)), .val (.long (st + (Int64.ofNat (own_Rf A (own_Gf A))))), .second, .val .null, .val (.int (0 : Int32)), .val (.long (Int64.ofNat (own_Rf A ((own_Gf (A ^^^ U)) + 1)))), .second, .val (.int (1 : Int32)), .unset, .unset, .unset, .unset, .unset, .unset] rfl at_357 ?_
    refine own_iload H rfl at_359 ?_
    refine own_ifeq_f H at_361 (by decide) ?_
    refine own_lload H rfl at_364 ?_
    refine own_lload H rfl at_366 ?_
    refine own_lload H rfl at_368 ?_
    refine own_lxor H rfl at_370 ?_
    rw [own_xr A U]
    show own_G _ _ _ _ _ _ _ _ 371 #[.val (.long p1), .second, .val (.long p2), .second, .val (.long p3), .second, .val (.long p4), .second, .val (.long p5), .second, .val (.int p6), .val (.long st), .second, .val (.long (Int64.ofNat t)), .second, .val (.long lm), .second, .val (.int (1 : Int32)), .val (.long (Int64.ofNat A)), .second, .val (.long (Int64.ofNat U)), .second, .val (.int (1 : Int32)), .val (.long (Int64.ofNat Bn)), .second, .val (.ref a2), .val (.ref a44), .val (.ref a108), .val (.int (1 : Int32)), .val (.long (st + (Int64.ofNat (own_Rf A (own_Gf A))))), .second, .val .null, .val (.int (0 : Int32)), .val (.long (Int64.ofNat (own_Rf A ((own_Gf (A ^^^ U)) + 1)))), .second, .val (.int (1 : Int32)), .unset, .unset, .unset, .unset, .unset, .unset] [(.long (Int64.ofNat (A ^^^ U))), (.long (Int64.ofNat A))]
    refine own_invokestatic H (argsL := [(.long (Int64.ofNat (A ^^^ U)))]) (rest := [(.long (Int64.ofNat A))]) (rmGrp l Z a0 (own_hw H) h227 n0 (Int64.ofNat (A ^^^ U))) (w1 := 110) (w2 := 111) (w3 := 112) (w4 := 113) rfl rfl rfl rfl own_pd3 rfl 2 (by decide) rfl (by decide) (Nat.le_of_eq rfl) (by decide) (by decide) (by decide) rfl at_371 ?_
    rintro _ _ ⟨rfl, rfl⟩
    show own_G _ _ _ _ _ _ _ _ 374 #[.val (.long p1), .second, .val (.long p2), .second, .val (.long p3), .second, .val (.long p4), .second, .val (.long p5), .second, .val (.int p6), .val (.long st), .second, .val (.long (Int64.ofNat t)), .second, .val (.long lm), .second, .val (.int (1 : Int32)), .val (.long (Int64.ofNat A)), .second, .val (.long (Int64.ofNat U)), .second, .val (.int (1 : Int32)), .val (.long (Int64.ofNat Bn)), .second, .val (.ref a2), .val (.ref a44), .val (.ref a108), .val (.int (1 : Int32)), .val (.long (st + (Int64.ofNat (own_Rf A (own_Gf A))))), .second, .val .null, .val (.int (0 : Int32)), .val (.long (Int64.ofNat (own_Rf A ((own_Gf (A ^^^ U)) + 1)))), .second, .val (.int (1 : Int32)), .unset, .unset, .unset, .unset, .unset, .unset] [(.int (FGrp (Int64.ofNat (A ^^^ U)))), (.long (Int64.ofNat A))]
    rw [own_grp (Nat.xor_lt_two_pow hA' hU')]
    show own_G _ _ _ _ _ _ _ _ 374 #[.val (.long p1), .second, .val (.long p2), .second, .val (.long p3), .second, .val (.long p4), .second, .val (.long p5), .second, .val (.int p6), .val (.long st), .second, .val (.long (Int64.ofNat t)), .second, .val (.long lm), .second, .val (.int (1 : Int32)), .val (.long (Int64.ofNat A)), .second, .val (.long (Int64.ofNat U)), .second, .val (.int (1 : Int32)), .val (.long (Int64.ofNat Bn)), .second, .val (.ref a2), .val (.ref a44), .val (.ref a108), .val (.int (1 : Int32)), .val (.long (st + (Int64.ofNat (own_Rf A (own_Gf A))))), .second, .val .null, .val (.int (0 : Int32)), .val (.long (Int64.ofNat (own_Rf A ((own_Gf (A ^^^ U)) + 1)))), .second, .val (.int (1 : Int32)), .unset, .unset, .unset, .unset, .unset, .unset] [(.int (Int32.ofNat (own_Gf (A ^^^ U)))), (.long (Int64.ofNat A))]
    refine own_invokestatic H (argsL := [(.long (Int64.ofNat A)), (.int (Int32.ofNat (own_Gf (A ^^^ U))))]) (rest := []) (rmRnd l Z a0 (own_hw H) h227 n0 (Int64.ofNat A) (Int32.ofNat (own_Gf (A ^^^ U)))) (w1 := 114) (w2 := 115) (w3 := 112) (w4 := 116) rfl rfl rfl rfl own_pd5 rfl 0 (by decide) rfl (by decide) (Nat.le_of_eq rfl) (by decide) (by decide) (by decide) rfl at_374 ?_
    rintro _ _ ⟨rfl, rfl⟩
    show own_G _ _ _ _ _ _ _ _ 377 #[.val (.long p1), .second, .val (.long p2), .second, .val (.long p3), .second, .val (.long p4), .second, .val (.long p5), .second, .val (.int p6), .val (.long st), .second, .val (.long (Int64.ofNat t)), .second, .val (.long lm), .second, .val (.int (1 : Int32)), .val (.long (Int64.ofNat A)), .second, .val (.long (Int64.ofNat U)), .second, .val (.int (1 : Int32)), .val (.long (Int64.ofNat Bn)), .second, .val (.ref a2), .val (.ref a44), .val (.ref a108), .val (.int (1 : Int32)), .val (.long (st + (Int64.ofNat (own_Rf A (own_Gf A))))), .second, .val .null, .val (.int (0 : Int32)), .val (.long (Int64.ofNat (own_Rf A ((own_Gf (A ^^^ U)) + 1)))), .second, .val (.int (1 : Int32)), .unset, .unset, .unset, .unset, .unset, .unset] [(.long (FRnd (Int64.ofNat A) (Int32.ofNat (own_Gf (A ^^^ U)))))]
    rw [own_rnd (k := (own_Gf (A ^^^ U))) hA' (by have := own_G10 (Nat.xor_lt_two_pow hA' hU'); omega)]
    show own_G _ _ _ _ _ _ _ _ 377 #[.val (.long p1), .second, .val (.long p2), .second, .val (.long p3), .second, .val (.long p4), .second, .val (.long p5), .second, .val (.int p6), .val (.long st), .second, .val (.long (Int64.ofNat t)), .second, .val (.long lm), .second, .val (.int (1 : Int32)), .val (.long (Int64.ofNat A)), .second, .val (.long (Int64.ofNat U)), .second, .val (.int (1 : Int32)), .val (.long (Int64.ofNat Bn)), .second, .val (.ref a2), .val (.ref a44), .val (.ref a108), .val (.int (1 : Int32)), .val (.long (st + (Int64.ofNat (own_Rf A (own_Gf A))))), .second, .val .null, .val (.int (0 : Int32)), .val (.long (Int64.ofNat (own_Rf A ((own_Gf (A ^^^ U)) + 1)))), .second, .val (.int (1 : Int32)), .unset, .unset, .unset, .unset, .unset, .unset] [(.long (Int64.ofNat (own_Rf A (own_Gf (A ^^^ U)))))]
    refine own_goto H (pc' := 381) at_377 (by decide) (by decide) ?_
    refine own_lstore H #[.val (.long p1), .second, .val (.long p2), .second, .val (.long p3), .second, .val (.long p4), .second, .val (.long p5), .second, .val (.int p6), .val (.long st), .second, .val (.long (Int64.ofNat t)), .second, .val (.long lm), .second, .val (.int (1 : Int32)), .val (.long (Int64.ofNat A)), .second, .val (.long (Int64.ofNat U)), .second, .val (.int (1 : Int32)), .val (.long (Int64.ofNat Bn)), .second, .val (.ref a2), .val (.ref a44), .val (.ref a108), .val (.int (1 : Int32)), .val (.long (st + (Int64.ofNat (own_Rf A (own_Gf A))))), .second, .val .null, .val (.int (0 : Int32)), .val (.long (Int64.ofNat (own_Rf A ((own_Gf (A ^^^ U)) + 1)))), .second, .val (.int (1 : Int32)), .val (.long (Int64.ofNat (own_Rf A (own_Gf (A ^^^ U))))), .second, .unset, .unset, .unset, .unset] rfl at_381 ?_
    refine own_iload H rfl at_383 ?_
    refine own_ifeq_f H at_385 (by decide) ?_
    have hXb := own_G10 (Nat.xor_lt_two_pow hB' (own_Rlt (own_Gf (A ^^^ U) + 1) hA'))
    rcases own_tri (own_Gf (A ^^^ U)) (own_Gf (Bn ^^^ (own_Rf A ((own_Gf (A ^^^ U)) + 1)))) (own_Kf A (own_Gf (A ^^^ U))) (own_Kf Bn (own_Gf (Bn ^^^ (own_Rf A ((own_Gf (A ^^^ U)) + 1))))) with cc | cc | ⟨ce, cc⟩ | ⟨ce, cc⟩
    ·
      refine own_aload H rfl rfl at_388 ?_
      refine own_aload H rfl rfl at_390 ?_
      refine own_invokevirtual H (a := a2) (argsL := [(.ref a108)]) (rest := []) (rmAdE l Z a0 (own_hw H) h227 n0 a2 a108 a44 aH aT aO kH kT kO M st (st + (Int64.ofNat Bn)) (st + (Int64.ofNat A)) (Int64.ofNat (own_Rf A ((own_Gf (A ^^^ U)) + 1))) (own_h1 a44 (own_Kf A (own_Gf (A ^^^ U)))) (own_h1 a44 (own_Kf A (own_Gf (A ^^^ U)))) (own_o1 (own_Kf A (own_Gf (A ^^^ U)))) .null .null .null .null (fun i => if i = (own_Kf Bn (own_Gf (Bn ^^^ (own_Rf A ((own_Gf (A ^^^ U)) + 1))))) then (.ref a108 : Value) else (own_h1 a44 (own_Kf A (own_Gf (A ^^^ U)))) i) (fun i => if i = (own_Kf Bn (own_Gf (Bn ^^^ (own_Rf A ((own_Gf (A ^^^ U)) + 1))))) then (.ref a108 : Value) else (own_h1 a44 (own_Kf A (own_Gf (A ^^^ U)))) i) (own_o2 (own_Kf A (own_Gf (A ^^^ U))) (own_Kf Bn (own_Gf (Bn ^^^ (own_Rf A ((own_Gf (A ^^^ U)) + 1))))) ((0 : Int64) ||| (FBit (Int32.ofNat (own_Kf Bn (own_Gf (Bn ^^^ (own_Rf A ((own_Gf (A ^^^ U)) + 1))))))))) (own_Kf Bn (own_Gf (Bn ^^^ (own_Rf A ((own_Gf (A ^^^ U)) + 1))))) (0 : Int64) ⟨⟨u313, u314, u316, u315, u317, u318, u319⟩, ⟨u321, u320, u322, u323, u324, u325.symm, u329, u330, u331, u326, u327, u328, u332, u333, u334⟩, ⟨u335, u337, u336, u338, u339⟩, ⟨u340, u341, u342, u343, u344, u345⟩, ⟨u349, u350, u351⟩, ⟨u346, u347, u348⟩, ⟨u352, u353, u354⟩⟩ hM (own_Klt hLB) (own_t0 cc) (own_v0 cc) (fun _ _ => rfl) (fun _ _ => rfl) (fun _ _ => rfl) (by rw [own_sc]; exact own_bk hB' (own_Rlt _ hA'))) u335 (w1 := 81) (w0 := 82) (w5 := 84) (w2 := 83) (w3 := 10) (w4 := 85) rfl rfl rfl rfl rfl rfl own_pd9 rfl 0 (by decide) rfl (by decide) (Nat.le_of_eq rfl) (by decide) (by decide) (by decide) rfl at_392 ?_
      rintro _ h355 ⟨rfl, hQ⟩
      obtain ⟨⟨u356, u357, u358, u359, u360, u361, u362⟩, ⟨u363, u364, u365, u366, u367, u368, u369, u370, u371, u372, u373, u374, u375, u376, u377⟩, ⟨u378, u379, u380, u381, u382⟩, ⟨u383, u384, u385, u386, u387, u388⟩, ⟨u389, u390, u391⟩, ⟨u392, u393, u394⟩, ⟨u395, u396, u397⟩⟩ := hQ
      show own_G _ _ _ _ _ _ _ _ 395 #[.val (.long p1), .second, .val (.long p2), .second, .val (.long p3), .second, .val (.long p4), .second, .val (.long p5), .second, .val (.int p6), .val (.long st), .second, .val (.long (Int64.ofNat t)), .second, .val (.long lm), .second, .val (.int (1 : Int32)), .val (.long (Int64.ofNat A)), .second, .val (.long (Int64.ofNat U)), .second, .val (.int (1 : Int32)), .val (.long (Int64.ofNat Bn)), .second, .val (.ref a2), .val (.ref a44), .val (.ref a108), .val (.int (1 : Int32)), .val (.long (st + (Int64.ofNat (own_Rf A (own_Gf A))))), .second, .val .null, .val (.int (0 : Int32)), .val (.long (Int64.ofNat (own_Rf A ((own_Gf (A ^^^ U)) + 1)))), .second, .val (.int (1 : Int32)), .val (.long (Int64.ofNat (own_Rf A (own_Gf (A ^^^ U))))), .second, .unset, .unset, .unset, .unset] []
      refine own_iload H rfl at_395 ?_
      refine own_ifeq_f H at_397 (by decide) ?_
      refine own_lload H rfl at_400 ?_
      refine own_lload H rfl at_402 ?_
      refine own_lload H rfl at_404 ?_
      refine own_lxor H rfl at_406 ?_
      rw [own_xr Bn (own_Rf A ((own_Gf (A ^^^ U)) + 1))]
      show own_G _ _ _ _ _ _ _ _ 407 #[.val (.long p1), .second, .val (.long p2), .second, .val (.long p3), .second, .val (.long p4), .second, .val (.long p5), .second, .val (.int p6), .val (.long st), .second, .val (.long (Int64.ofNat t)), .second, .val (.long lm), .second, .val (.int (1 : Int32)), .val (.long (Int64.ofNat A)), .second, .val (.long (Int64.ofNat U)), .second, .val (.int (1 : Int32)), .val (.long (Int64.ofNat Bn)), .second, .val (.ref a2), .val (.ref a44), .val (.ref a108), .val (.int (1 : Int32)), .val (.long (st + (Int64.ofNat (own_Rf A (own_Gf A))))), .second, .val .null, .val (.int (0 : Int32)), .val (.long (Int64.ofNat (own_Rf A ((own_Gf (A ^^^ U)) + 1)))), .second, .val (.int (1 : Int32)), .val (.long (Int64.ofNat (own_Rf A (own_Gf (A ^^^ U))))), .second, .unset, .unset, .unset, .unset] [(.long (Int64.ofNat (Bn ^^^ (own_Rf A ((own_Gf (A ^^^ U)) + 1))))), (.long (Int64.ofNat Bn))]
      refine own_invokestatic H (argsL := [(.long (Int64.ofNat (Bn ^^^ (own_Rf A ((own_Gf (A ^^^ U)) + 1)))))]) (rest := [(.long (Int64.ofNat Bn))]) (rmGrp l Z a0 (own_hw H) h355 n0 (Int64.ofNat (Bn ^^^ (own_Rf A ((own_Gf (A ^^^ U)) + 1))))) (w1 := 110) (w2 := 111) (w3 := 112) (w4 := 113) rfl rfl rfl rfl own_pd3 rfl 2 (by decide) rfl (by decide) (Nat.le_of_eq rfl) (by decide) (by decide) (by decide) rfl at_407 ?_
      rintro _ _ ⟨rfl, rfl⟩
      show own_G _ _ _ _ _ _ _ _ 410 #[.val (.long p1), .second, .val (.long p2), .second, .val (.long p3), .second, .val (.long p4), .second, .val (.long p5), .second, .val (.int p6), .val (.long st), .second, .val (.long (Int64.ofNat t)), .second, .val (.long lm), .second, .val (.int (1 : Int32)), .val (.long (Int64.ofNat A)), .second, .val (.long (Int64.ofNat U)), .second, .val (.int (1 : Int32)), .val (.long (Int64.ofNat Bn)), .second, .val (.ref a2), .val (.ref a44), .val (.ref a108), .val (.int (1 : Int32)), .val (.long (st + (Int64.ofNat (own_Rf A (own_Gf A))))), .second, .val .null, .val (.int (0 : Int32)), .val (.long (Int64.ofNat (own_Rf A ((own_Gf (A ^^^ U)) + 1)))), .second, .val (.int (1 : Int32)), .val (.long (Int64.ofNat (own_Rf A (own_Gf (A ^^^ U))))), .second, .unset, .unset, .unset, .unset] [(.int (FGrp (Int64.ofNat (Bn ^^^ (own_Rf A ((own_Gf (A ^^^ U)) + 1)))))), (.long (Int64.ofNat Bn))]
      rw [own_grp (Nat.xor_lt_two_pow hB' (own_Rlt _ hA'))]
      show own_G _ _ _ _ _ _ _ _ 410 #[.val (.long p1), .second, .val (.long p2), .second, .val (.long p3), .second, .val (.long p4), .second, .val (.long p5), .second, .val (.int p6), .val (.long st), .second, .val (.long (Int64.ofNat t)), .second, .val (.long lm), .second, .val (.int (1 : Int32)), .val (.long (Int64.ofNat A)), .second, .val (.long (Int64.ofNat U)), .second, .val (.int (1 : Int32)), .val (.long (Int64.ofNat Bn)), .second, .val (.ref a2), .val (.ref a44), .val (.ref a108), .val (.int (1 : Int32)), .val (.long (st + (Int64.ofNat (own_Rf A (own_Gf A))))), .second, .val .null, .val (.int (0 : Int32)), .val (.long (Int64.ofNat (own_Rf A ((own_Gf (A ^^^ U)) + 1)))), .second, .val (.int (1 : Int32)), .val (.long (Int64.ofNat (own_Rf A (own_Gf (A ^^^ U))))), .second, .unset, .unset, .unset, .unset] [(.int (Int32.ofNat (own_Gf (Bn ^^^ (own_Rf A ((own_Gf (A ^^^ U)) + 1)))))), (.long (Int64.ofNat Bn))]
      refine own_invokestatic H (argsL := [(.long (Int64.ofNat Bn)), (.int (Int32.ofNat (own_Gf (Bn ^^^ (own_Rf A ((own_Gf (A ^^^ U)) + 1))))))]) (rest := []) (rmRnd l Z a0 (own_hw H) h355 n0 (Int64.ofNat Bn) (Int32.ofNat (own_Gf (Bn ^^^ (own_Rf A ((own_Gf (A ^^^ U)) + 1)))))) (w1 := 114) (w2 := 115) (w3 := 112) (w4 := 116) rfl rfl rfl rfl own_pd5 rfl 0 (by decide) rfl (by decide) (Nat.le_of_eq rfl) (by decide) (by decide) (by decide) rfl at_410 ?_
      rintro _ _ ⟨rfl, rfl⟩
      show own_G _ _ _ _ _ _ _ _ 413 #[.val (.long p1), .second, .val (.long p2), .second, .val (.long p3), .second, .val (.long p4), .second, .val (.long p5), .second, .val (.int p6), .val (.long st), .second, .val (.long (Int64.ofNat t)), .second, .val (.long lm), .second, .val (.int (1 : Int32)), .val (.long (Int64.ofNat A)), .second, .val (.long (Int64.ofNat U)), .second, .val (.int (1 : Int32)), .val (.long (Int64.ofNat Bn)), .second, .val (.ref a2), .val (.ref a44), .val (.ref a108), .val (.int (1 : Int32)), .val (.long (st + (Int64.ofNat (own_Rf A (own_Gf A))))), .second, .val .null, .val (.int (0 : Int32)), .val (.long (Int64.ofNat (own_Rf A ((own_Gf (A ^^^ U)) + 1)))), .second, .val (.int (1 : Int32)), .val (.long (Int64.ofNat (own_Rf A (own_Gf (A ^^^ U))))), .second, .unset, .unset, .unset, .unset] [(.long (FRnd (Int64.ofNat Bn) (Int32.ofNat (own_Gf (Bn ^^^ (own_Rf A ((own_Gf (A ^^^ U)) + 1)))))))]
      rw [own_rnd (k := (own_Gf (Bn ^^^ (own_Rf A ((own_Gf (A ^^^ U)) + 1))))) hB' (by have := own_G10 (Nat.xor_lt_two_pow hB' (own_Rlt (own_Gf (A ^^^ U) + 1) hA')); omega)]
      show own_G _ _ _ _ _ _ _ _ 413 #[.val (.long p1), .second, .val (.long p2), .second, .val (.long p3), .second, .val (.long p4), .second, .val (.long p5), .second, .val (.int p6), .val (.long st), .second, .val (.long (Int64.ofNat t)), .second, .val (.long lm), .second, .val (.int (1 : Int32)), .val (.long (Int64.ofNat A)), .second, .val (.long (Int64.ofNat U)), .second, .val (.int (1 : Int32)), .val (.long (Int64.ofNat Bn)), .second, .val (.ref a2), .val (.ref a44), .val (.ref a108), .val (.int (1 : Int32)), .val (.long (st + (Int64.ofNat (own_Rf A (own_Gf A))))), .second, .val .null, .val (.int (0 : Int32)), .val (.long (Int64.ofNat (own_Rf A ((own_Gf (A ^^^ U)) + 1)))), .second, .val (.int (1 : Int32)), .val (.long (Int64.ofNat (own_Rf A (own_Gf (A ^^^ U))))), .second, .unset, .unset, .unset, .unset] [(.long (Int64.ofNat (own_Rf Bn (own_Gf (Bn ^^^ (own_Rf A ((own_Gf (A ^^^ U)) + 1)))))))]
      refine own_goto H (pc' := 417) at_413 (by decide) (by decide) ?_
      refine own_lstore H #[.val (.long p1), .second, .val (.long p2), .second, .val (.long p3), .second, .val (.long p4), .second, .val (.long p5), .second, .val (.int p6), .val (.long st), .second, .val (.long (Int64.ofNat t)), .second, .val (.long lm), .second, .val (.int (1 : Int32)), .val (.long (Int64.ofNat A)), .second, .val (.long (Int64.ofNat U)), .second, .val (.int (1 : Int32)), .val (.long (Int64.ofNat Bn)), .second, .val (.ref a2), .val (.ref a44), .val (.ref a108), .val (.int (1 : Int32)), .val (.long (st + (Int64.ofNat (own_Rf A (own_Gf A))))), .second, .val .null, .val (.int (0 : Int32)), .val (.long (Int64.ofNat (own_Rf A ((own_Gf (A ^^^ U)) + 1)))), .second, .val (.int (1 : Int32)), .val (.long (Int64.ofNat (own_Rf A (own_Gf (A ^^^ U))))), .second, .val (.long (Int64.ofNat (own_Rf Bn (own_Gf (Bn ^^^ (own_Rf A ((own_Gf (A ^^^ U)) + 1))))))), .second, .unset, .unset] rfl at_417 ?_
      refine own_iload H rfl at_419 ?_
      refine own_ifeq_f H at_421 (by decide) ?_
      refine own_iload H rfl at_424 ?_
      refine own_ifeq_f H at_426 (by decide) ?_
      refine own_lload H rfl at_429 ?_
      refine own_lload H rfl at_431 ?_
      refine own_lload H rfl at_433 ?_
      refine own_invokestatic H (argsL := [(.long (Int64.ofNat (own_Rf A (own_Gf (A ^^^ U))))), (.long (Int64.ofNat (own_Rf Bn (own_Gf (Bn ^^^ (own_Rf A ((own_Gf (A ^^^ U)) + 1)))))))]) (rest := [(.long st)]) (rmMinJ l Z a0 (own_hw H) h355 n0 (Int64.ofNat (own_Rf A (own_Gf (A ^^^ U)))) (Int64.ofNat (own_Rf Bn (own_Gf (Bn ^^^ (own_Rf A ((own_Gf (A ^^^ U)) + 1))))))) (w1 := 5) (w2 := 6) (w3 := 3) (w4 := 7) rfl rfl rfl rfl own_pd0 rfl 2 (by decide) rfl (by decide) (Nat.le_of_eq rfl) (by decide) (by decide) (by decide) rfl at_435 ?_
      rintro _ _ ⟨rfl, rfl⟩
      show own_G _ _ _ _ _ _ _ _ 438 #[.val (.long p1), .second, .val (.long p2), .second, .val (.long p3), .second, .val (.long p4), .second, .val (.long p5), .second, .val (.int p6), .val (.long st), .second, .val (.long (Int64.ofNat t)), .second, .val (.long lm), .second, .val (.int (1 : Int32)), .val (.long (Int64.ofNat A)), .second, .val (.long (Int64.ofNat U)), .second, .val (.int (1 : Int32)), .val (.long (Int64.ofNat Bn)), .second, .val (.ref a2), .val (.ref a44), .val (.ref a108), .val (.int (1 : Int32)), .val (.long (st + (Int64.ofNat (own_Rf A (own_Gf A))))), .second, .val .null, .val (.int (0 : Int32)), .val (.long (Int64.ofNat (own_Rf A ((own_Gf (A ^^^ U)) + 1)))), .second, .val (.int (1 : Int32)), .val (.long (Int64.ofNat (own_Rf A (own_Gf (A ^^^ U))))), .second, .val (.long (Int64.ofNat (own_Rf Bn (own_Gf (Bn ^^^ (own_Rf A ((own_Gf (A ^^^ U)) + 1))))))), .second, .unset, .unset] [(.long (FMinJ (Int64.ofNat (own_Rf A (own_Gf (A ^^^ U)))) (Int64.ofNat (own_Rf Bn (own_Gf (Bn ^^^ (own_Rf A ((own_Gf (A ^^^ U)) + 1)))))))), (.long st)]
      rw [own_min (own_Rlt _ hA') (own_Rlt _ hB')]
      show own_G _ _ _ _ _ _ _ _ 438 #[.val (.long p1), .second, .val (.long p2), .second, .val (.long p3), .second, .val (.long p4), .second, .val (.long p5), .second, .val (.int p6), .val (.long st), .second, .val (.long (Int64.ofNat t)), .second, .val (.long lm), .second, .val (.int (1 : Int32)), .val (.long (Int64.ofNat A)), .second, .val (.long (Int64.ofNat U)), .second, .val (.int (1 : Int32)), .val (.long (Int64.ofNat Bn)), .second, .val (.ref a2), .val (.ref a44), .val (.ref a108), .val (.int (1 : Int32)), .val (.long (st + (Int64.ofNat (own_Rf A (own_Gf A))))), .second, .val .null, .val (.int (0 : Int32)), .val (.long (Int64.ofNat (own_Rf A ((own_Gf (A ^^^ U)) + 1)))), .second, .val (.int (1 : Int32)), .val (.long (Int64.ofNat (own_Rf A (own_Gf (A ^^^ U))))), .second, .val (.long (Int64.ofNat (own_Rf Bn (own_Gf (Bn ^^^ (own_Rf A ((own_Gf (A ^^^ U)) + 1))))))), .second, .unset, .unset] [(.long (Int64.ofNat (min (own_Rf A (own_Gf (A ^^^ U))) (own_Rf Bn (own_Gf (Bn ^^^ (own_Rf A ((own_Gf (A ^^^ U)) + 1)))))))), (.long st)]
      refine own_ladd H rfl at_438 ?_
      refine own_lstore H #[.val (.long p1), .second, .val (.long p2), .second, .val (.long p3), .second, .val (.long p4), .second, .val (.long p5), .second, .val (.int p6), .val (.long st), .second, .val (.long (Int64.ofNat t)), .second, .val (.long lm), .second, .val (.int (1 : Int32)), .val (.long (Int64.ofNat A)), .second, .val (.long (Int64.ofNat U)), .second, .val (.int (1 : Int32)), .val (.long (Int64.ofNat Bn)), .second, .val (.ref a2), .val (.ref a44), .val (.ref a108), .val (.int (1 : Int32)), .val (.long (st + (Int64.ofNat (own_Rf A (own_Gf A))))), .second, .val .null, .val (.int (0 : Int32)), .val (.long (Int64.ofNat (own_Rf A ((own_Gf (A ^^^ U)) + 1)))), .second, .val (.int (1 : Int32)), .val (.long (Int64.ofNat (own_Rf A (own_Gf (A ^^^ U))))), .second, .val (.long (Int64.ofNat (own_Rf Bn (own_Gf (Bn ^^^ (own_Rf A ((own_Gf (A ^^^ U)) + 1))))))), .second, .val (.long (st + (Int64.ofNat (min (own_Rf A (own_Gf (A ^^^ U))) (own_Rf Bn (own_Gf (Bn ^^^ (own_Rf A ((own_Gf (A ^^^ U)) + 1))))))))), .second] rfl at_439 ?_
      refine own_goto H (pc' := 479) at_441 (by decide) (by decide) ?_
      refine own_iload H rfl at_479 ?_
      refine own_ifeq_f H at_481 (by decide) ?_
      refine own_aload H rfl rfl at_484 ?_
      refine own_invokevirtual H (a := a2) (argsL := []) (rest := []) (rmNiL l Z a0 (own_hw H) h355 n0 a2 aO kO M (own_o2 (own_Kf A (own_Gf (A ^^^ U))) (own_Kf Bn (own_Gf (Bn ^^^ (own_Rf A ((own_Gf (A ^^^ U)) + 1))))) ((0 : Int64) ||| (FBit (Int32.ofNat (own_Kf Bn (own_Gf (Bn ^^^ (own_Rf A ((own_Gf (A ^^^ U)) + 1))))))))) st (Int64.ofNat (own_Rf A ((own_Gf (A ^^^ U)) + 1))) (own_Gf (A ^^^ U)) (FBit (Int32.ofNat (own_Kf A (own_Gf (A ^^^ U))))) u378 u383 u386 u397 u387 u388 hM (fun j hj => own_y0 cc hj) hLU (own_x0 cc) (own_nt (own_K704 (by omega))).2) u378 (w1 := 65) (w0 := 66) (w5 := 68) (w2 := 67) (w3 := 10) (w4 := 69) rfl rfl rfl rfl rfl rfl own_pd7 rfl 0 (by decide) rfl (by decide) (Nat.le_of_eq rfl) (by decide) (by decide) (by decide) rfl at_486 ?_
      rintro _ _ ⟨rfl, rfl⟩
      show own_G _ _ _ _ _ _ _ _ 489 #[.val (.long p1), .second, .val (.long p2), .second, .val (.long p3), .second, .val (.long p4), .second, .val (.long p5), .second, .val (.int p6), .val (.long st), .second, .val (.long (Int64.ofNat t)), .second, .val (.long lm), .second, .val (.int (1 : Int32)), .val (.long (Int64.ofNat A)), .second, .val (.long (Int64.ofNat U)), .second, .val (.int (1 : Int32)), .val (.long (Int64.ofNat Bn)), .second, .val (.ref a2), .val (.ref a44), .val (.ref a108), .val (.int (1 : Int32)), .val (.long (st + (Int64.ofNat (own_Rf A (own_Gf A))))), .second, .val .null, .val (.int (0 : Int32)), .val (.long (Int64.ofNat (own_Rf A ((own_Gf (A ^^^ U)) + 1)))), .second, .val (.int (1 : Int32)), .val (.long (Int64.ofNat (own_Rf A (own_Gf (A ^^^ U))))), .second, .val (.long (Int64.ofNat (own_Rf Bn (own_Gf (Bn ^^^ (own_Rf A ((own_Gf (A ^^^ U)) + 1))))))), .second, .val (.long (st + (Int64.ofNat (min (own_Rf A (own_Gf (A ^^^ U))) (own_Rf Bn (own_Gf (Bn ^^^ (own_Rf A ((own_Gf (A ^^^ U)) + 1))))))))), .second] [(.long (st + (FFo (Int32.ofNat (own_Gf (A ^^^ U))) (FNtzL (FBit (Int32.ofNat (own_Kf A (own_Gf (A ^^^ U)))))) (Int64.ofNat (own_Rf A ((own_Gf (A ^^^ U)) + 1))))))]
      rw [own_n1 hA' hg rfl (by omega) rfl cc]
      show own_G _ _ _ _ _ _ _ _ 489 #[.val (.long p1), .second, .val (.long p2), .second, .val (.long p3), .second, .val (.long p4), .second, .val (.long p5), .second, .val (.int p6), .val (.long st), .second, .val (.long (Int64.ofNat t)), .second, .val (.long lm), .second, .val (.int (1 : Int32)), .val (.long (Int64.ofNat A)), .second, .val (.long (Int64.ofNat U)), .second, .val (.int (1 : Int32)), .val (.long (Int64.ofNat Bn)), .second, .val (.ref a2), .val (.ref a44), .val (.ref a108), .val (.int (1 : Int32)), .val (.long (st + (Int64.ofNat (own_Rf A (own_Gf A))))), .second, .val .null, .val (.int (0 : Int32)), .val (.long (Int64.ofNat (own_Rf A ((own_Gf (A ^^^ U)) + 1)))), .second, .val (.int (1 : Int32)), .val (.long (Int64.ofNat (own_Rf A (own_Gf (A ^^^ U))))), .second, .val (.long (Int64.ofNat (own_Rf Bn (own_Gf (Bn ^^^ (own_Rf A ((own_Gf (A ^^^ U)) + 1))))))), .second, .val (.long (st + (Int64.ofNat (min (own_Rf A (own_Gf (A ^^^ U))) (own_Rf Bn (own_Gf (Bn ^^^ (own_Rf A ((own_Gf (A ^^^ U)) + 1))))))))), .second] [(.long (st + (Int64.ofNat (min (own_Rf A (own_Gf (A ^^^ U))) (own_Rf Bn (own_Gf (Bn ^^^ (own_Rf A ((own_Gf (A ^^^ U)) + 1)))))))))]
      refine own_lload H rfl at_489 ?_
      refine own_lcmpne_f H at_491 at_492 rfl ?_
      refine own_iconst H (1 : Int32) (by decide) at_495 ?_
      refine own_goto H (pc' := 500) at_496 (by decide) (by decide) ?_
      exact own_ireturn H (by simp) (by decide) at_500 (by decide) (by decide) rfl
    ·
      refine own_aload H rfl rfl at_388 ?_
      refine own_aload H rfl rfl at_390 ?_
      refine own_invokevirtual H (a := a2) (argsL := [(.ref a108)]) (rest := []) (rmAdE l Z a0 (own_hw H) h227 n0 a2 a108 a44 aH aT aO kH kT kO M st (st + (Int64.ofNat Bn)) (st + (Int64.ofNat A)) (Int64.ofNat (own_Rf A ((own_Gf (A ^^^ U)) + 1))) (own_h1 a44 (own_Kf A (own_Gf (A ^^^ U)))) (own_h1 a44 (own_Kf A (own_Gf (A ^^^ U)))) (own_o1 (own_Kf A (own_Gf (A ^^^ U)))) .null .null .null .null (fun i => if i = (own_Kf Bn (own_Gf (Bn ^^^ (own_Rf A ((own_Gf (A ^^^ U)) + 1))))) then (.ref a108 : Value) else (own_h1 a44 (own_Kf A (own_Gf (A ^^^ U)))) i) (fun i => if i = (own_Kf Bn (own_Gf (Bn ^^^ (own_Rf A ((own_Gf (A ^^^ U)) + 1))))) then (.ref a108 : Value) else (own_h1 a44 (own_Kf A (own_Gf (A ^^^ U)))) i) (own_o2 (own_Kf A (own_Gf (A ^^^ U))) (own_Kf Bn (own_Gf (Bn ^^^ (own_Rf A ((own_Gf (A ^^^ U)) + 1))))) ((0 : Int64) ||| (FBit (Int32.ofNat (own_Kf Bn (own_Gf (Bn ^^^ (own_Rf A ((own_Gf (A ^^^ U)) + 1))))))))) (own_Kf Bn (own_Gf (Bn ^^^ (own_Rf A ((own_Gf (A ^^^ U)) + 1))))) (0 : Int64) ⟨⟨u313, u314, u316, u315, u317, u318, u319⟩, ⟨u321, u320, u322, u323, u324, u325.symm, u329, u330, u331, u326, u327, u328, u332, u333, u334⟩, ⟨u335, u337, u336, u338, u339⟩, ⟨u340, u341, u342, u343, u344, u345⟩, ⟨u349, u350, u351⟩, ⟨u346, u347, u348⟩, ⟨u352, u353, u354⟩⟩ hM (own_Klt hLB) (own_t1 cc) (own_v1 cc) (fun _ _ => rfl) (fun _ _ => rfl) (fun _ _ => rfl) (by rw [own_sc]; exact own_bk hB' (own_Rlt _ hA'))) u335 (w1 := 81) (w0 := 82) (w5 := 84) (w2 := 83) (w3 := 10) (w4 := 85) rfl rfl rfl rfl rfl rfl own_pd9 rfl 0 (by decide) rfl (by decide) (Nat.le_of_eq rfl) (by decide) (by decide) (by decide) rfl at_392 ?_
      rintro _ h398 ⟨rfl, hQ⟩
      obtain ⟨⟨u399, u400, u401, u402, u403, u404, u405⟩, ⟨u406, u407, u408, u409, u410, u411, u412, u413, u414, u415, u416, u417, u418, u419, u420⟩, ⟨u421, u422, u423, u424, u425⟩, ⟨u426, u427, u428, u429, u430, u431⟩, ⟨u432, u433, u434⟩, ⟨u435, u436, u437⟩, ⟨u438, u439, u440⟩⟩ := hQ
      show own_G _ _ _ _ _ _ _ _ 395 #[.val (.long p1), .second, .val (.long p2), .second, .val (.long p3), .second, .val (.long p4), .second, .val (.long p5), .second, .val (.int p6), .val (.long st), .second, .val (.long (Int64.ofNat t)), .second, .val (.long lm), .second, .val (.int (1 : Int32)), .val (.long (Int64.ofNat A)), .second, .val (.long (Int64.ofNat U)), .second, .val (.int (1 : Int32)), .val (.long (Int64.ofNat Bn)), .second, .val (.ref a2), .val (.ref a44), .val (.ref a108), .val (.int (1 : Int32)), .val (.long (st + (Int64.ofNat (own_Rf A (own_Gf A))))), .second, .val .null, .val (.int (0 : Int32)), .val (.long (Int64.ofNat (own_Rf A ((own_Gf (A ^^^ U)) + 1)))), .second, .val (.int (1 : Int32)), .val (.long (Int64.ofNat (own_Rf A (own_Gf (A ^^^ U))))), .second, .unset, .unset, .unset, .unset] []
      refine own_iload H rfl at_395 ?_
      refine own_ifeq_f H at_397 (by decide) ?_
      refine own_lload H rfl at_400 ?_
      refine own_lload H rfl at_402 ?_
      refine own_lload H rfl at_404 ?_
      refine own_lxor H rfl at_406 ?_
      rw [own_xr Bn (own_Rf A ((own_Gf (A ^^^ U)) + 1))]
      show own_G _ _ _ _ _ _ _ _ 407 #[.val (.long p1), .second, .val (.long p2), .second, .val (.long p3), .second, .val (.long p4), .second, .val (.long p5), .second, .val (.int p6), .val (.long st), .second, .val (.long (Int64.ofNat t)), .second, .val (.long lm), .second, .val (.int (1 : Int32)), .val (.long (Int64.ofNat A)), .second, .val (.long (Int64.ofNat U)), .second, .val (.int (1 : Int32)), .val (.long (Int64.ofNat Bn)), .second, .val (.ref a2), .val (.ref a44), .val (.ref a108), .val (.int (1 : Int32)), .val (.long (st + (Int64.ofNat (own_Rf A (own_Gf A))))), .second, .val .null, .val (.int (0 : Int32)), .val (.long (Int64.ofNat (own_Rf A ((own_Gf (A ^^^ U)) + 1)))), .second, .val (.int (1 : Int32)), .val (.long (Int64.ofNat (own_Rf A (own_Gf (A ^^^ U))))), .second, .unset, .unset, .unset, .unset] [(.long (Int64.ofNat (Bn ^^^ (own_Rf A ((own_Gf (A ^^^ U)) + 1))))), (.long (Int64.ofNat Bn))]
      refine own_invokestatic H (argsL := [(.long (Int64.ofNat (Bn ^^^ (own_Rf A ((own_Gf (A ^^^ U)) + 1)))))]) (rest := [(.long (Int64.ofNat Bn))]) (rmGrp l Z a0 (own_hw H) h398 n0 (Int64.ofNat (Bn ^^^ (own_Rf A ((own_Gf (A ^^^ U)) + 1))))) (w1 := 110) (w2 := 111) (w3 := 112) (w4 := 113) rfl rfl rfl rfl own_pd3 rfl 2 (by decide) rfl (by decide) (Nat.le_of_eq rfl) (by decide) (by decide) (by decide) rfl at_407 ?_
      rintro _ _ ⟨rfl, rfl⟩
      show own_G _ _ _ _ _ _ _ _ 410 #[.val (.long p1), .second, .val (.long p2), .second, .val (.long p3), .second, .val (.long p4), .second, .val (.long p5), .second, .val (.int p6), .val (.long st), .second, .val (.long (Int64.ofNat t)), .second, .val (.long lm), .second, .val (.int (1 : Int32)), .val (.long (Int64.ofNat A)), .second, .val (.long (Int64.ofNat U)), .second, .val (.int (1 : Int32)), .val (.long (Int64.ofNat Bn)), .second, .val (.ref a2), .val (.ref a44), .val (.ref a108), .val (.int (1 : Int32)), .val (.long (st + (Int64.ofNat (own_Rf A (own_Gf A))))), .second, .val .null, .val (.int (0 : Int32)), .val (.long (Int64.ofNat (own_Rf A ((own_Gf (A ^^^ U)) + 1)))), .second, .val (.int (1 : Int32)), .val (.long (Int64.ofNat (own_Rf A (own_Gf (A ^^^ U))))), .second, .unset, .unset, .unset, .unset] [(.int (FGrp (Int64.ofNat (Bn ^^^ (own_Rf A ((own_Gf (A ^^^ U)) + 1)))))), (.long (Int64.ofNat Bn))]
      rw [own_grp (Nat.xor_lt_two_pow hB' (own_Rlt _ hA'))]
      show own_G _ _ _ _ _ _ _ _ 410 #[.val (.long p1), .second, .val (.long p2), .second, .val (.long p3), .second, .val (.long p4), .second, .val (.long p5), .second, .val (.int p6), .val (.long st), .second, .val (.long (Int64.ofNat t)), .second, .val (.long lm), .second, .val (.int (1 : Int32)), .val (.long (Int64.ofNat A)), .second, .val (.long (Int64.ofNat U)), .second, .val (.int (1 : Int32)), .val (.long (Int64.ofNat Bn)), .second, .val (.ref a2), .val (.ref a44), .val (.ref a108), .val (.int (1 : Int32)), .val (.long (st + (Int64.ofNat (own_Rf A (own_Gf A))))), .second, .val .null, .val (.int (0 : Int32)), .val (.long (Int64.ofNat (own_Rf A ((own_Gf (A ^^^ U)) + 1)))), .second, .val (.int (1 : Int32)), .val (.long (Int64.ofNat (own_Rf A (own_Gf (A ^^^ U))))), .second, .unset, .unset, .unset, .unset] [(.int (Int32.ofNat (own_Gf (Bn ^^^ (own_Rf A ((own_Gf (A ^^^ U)) + 1)))))), (.long (Int64.ofNat Bn))]
      refine own_invokestatic H (argsL := [(.long (Int64.ofNat Bn)), (.int (Int32.ofNat (own_Gf (Bn ^^^ (own_Rf A ((own_Gf (A ^^^ U)) + 1))))))]) (rest := []) (rmRnd l Z a0 (own_hw H) h398 n0 (Int64.ofNat Bn) (Int32.ofNat (own_Gf (Bn ^^^ (own_Rf A ((own_Gf (A ^^^ U)) + 1)))))) (w1 := 114) (w2 := 115) (w3 := 112) (w4 := 116) rfl rfl rfl rfl own_pd5 rfl 0 (by decide) rfl (by decide) (Nat.le_of_eq rfl) (by decide) (by decide) (by decide) rfl at_410 ?_
      rintro _ _ ⟨rfl, rfl⟩
      show own_G _ _ _ _ _ _ _ _ 413 #[.val (.long p1), .second, .val (.long p2), .second, .val (.long p3), .second, .val (.long p4), .second, .val (.long p5), .second, .val (.int p6), .val (.long st), .second, .val (.long (Int64.ofNat t)), .second, .val (.long lm), .second, .val (.int (1 : Int32)), .val (.long (Int64.ofNat A)), .second, .val (.long (Int64.ofNat U)), .second, .val (.int (1 : Int32)), .val (.long (Int64.ofNat Bn)), .second, .val (.ref a2), .val (.ref a44), .val (.ref a108), .val (.int (1 : Int32)), .val (.long (st + (Int64.ofNat (own_Rf A (own_Gf A))))), .second, .val .null, .val (.int (0 : Int32)), .val (.long (Int64.ofNat (own_Rf A ((own_Gf (A ^^^ U)) + 1)))), .second, .val (.int (1 : Int32)), .val (.long (Int64.ofNat (own_Rf A (own_Gf (A ^^^ U))))), .second, .unset, .unset, .unset, .unset] [(.long (FRnd (Int64.ofNat Bn) (Int32.ofNat (own_Gf (Bn ^^^ (own_Rf A ((own_Gf (A ^^^ U)) + 1)))))))]
      rw [own_rnd (k := (own_Gf (Bn ^^^ (own_Rf A ((own_Gf (A ^^^ U)) + 1))))) hB' (by have := own_G10 (Nat.xor_lt_two_pow hB' (own_Rlt (own_Gf (A ^^^ U) + 1) hA')); omega)]
      show own_G _ _ _ _ _ _ _ _ 413 #[.val (.long p1), .second, .val (.long p2), .second, .val (.long p3), .second, .val (.long p4), .second, .val (.long p5), .second, .val (.int p6), .val (.long st), .second, .val (.long (Int64.ofNat t)), .second, .val (.long lm), .second, .val (.int (1 : Int32)), .val (.long (Int64.ofNat A)), .second, .val (.long (Int64.ofNat U)), .second, .val (.int (1 : Int32)), .val (.long (Int64.ofNat Bn)), .second, .val (.ref a2), .val (.ref a44), .val (.ref a108), .val (.int (1 : Int32)), .val (.long (st + (Int64.ofNat (own_Rf A (own_Gf A))))), .second, .val .null, .val (.int (0 : Int32)), .val (.long (Int64.ofNat (own_Rf A ((own_Gf (A ^^^ U)) + 1)))), .second, .val (.int (1 : Int32)), .val (.long (Int64.ofNat (own_Rf A (own_Gf (A ^^^ U))))), .second, .unset, .unset, .unset, .unset] [(.long (Int64.ofNat (own_Rf Bn (own_Gf (Bn ^^^ (own_Rf A ((own_Gf (A ^^^ U)) + 1)))))))]
      refine own_goto H (pc' := 417) at_413 (by decide) (by decide) ?_
      refine own_lstore H #[.val (.long p1), .second, .val (.long p2), .second, .val (.long p3), .second, .val (.long p4), .second, .val (.long p5), .second, .val (.int p6), .val (.long st), .second, .val (.long (Int64.ofNat t)), .second, .val (.long lm), .second, .val (.int (1 : Int32)), .val (.long (Int64.ofNat A)), .second, .val (.long (Int64.ofNat U)), .second, .val (.int (1 : Int32)), .val (.long (Int64.ofNat Bn)), .second, .val (.ref a2), .val (.ref a44), .val (.ref a108), .val (.int (1 : Int32)), .val (.long (st + (Int64.ofNat (own_Rf A (own_Gf A))))), .second, .val .null, .val (.int (0 : Int32)), .val (.long (Int64.ofNat (own_Rf A ((own_Gf (A ^^^ U)) + 1)))), .second, .val (.int (1 : Int32)), .val (.long (Int64.ofNat (own_Rf A (own_Gf (A ^^^ U))))), .second, .val (.long (Int64.ofNat (own_Rf Bn (own_Gf (Bn ^^^ (own_Rf A ((own_Gf (A ^^^ U)) + 1))))))), .second, .unset, .unset] rfl at_417 ?_
      refine own_iload H rfl at_419 ?_
      refine own_ifeq_f H at_421 (by decide) ?_
      refine own_iload H rfl at_424 ?_
      refine own_ifeq_f H at_426 (by decide) ?_
      refine own_lload H rfl at_429 ?_
      refine own_lload H rfl at_431 ?_
      refine own_lload H rfl at_433 ?_
      refine own_invokestatic H (argsL := [(.long (Int64.ofNat (own_Rf A (own_Gf (A ^^^ U))))), (.long (Int64.ofNat (own_Rf Bn (own_Gf (Bn ^^^ (own_Rf A ((own_Gf (A ^^^ U)) + 1)))))))]) (rest := [(.long st)]) (rmMinJ l Z a0 (own_hw H) h398 n0 (Int64.ofNat (own_Rf A (own_Gf (A ^^^ U)))) (Int64.ofNat (own_Rf Bn (own_Gf (Bn ^^^ (own_Rf A ((own_Gf (A ^^^ U)) + 1))))))) (w1 := 5) (w2 := 6) (w3 := 3) (w4 := 7) rfl rfl rfl rfl own_pd0 rfl 2 (by decide) rfl (by decide) (Nat.le_of_eq rfl) (by decide) (by decide) (by decide) rfl at_435 ?_
      rintro _ _ ⟨rfl, rfl⟩
      show own_G _ _ _ _ _ _ _ _ 438 #[.val (.long p1), .second, .val (.long p2), .second, .val (.long p3), .second, .val (.long p4), .second, .val (.long p5), .second, .val (.int p6), .val (.long st), .second, .val (.long (Int64.ofNat t)), .second, .val (.long lm), .second, .val (.int (1 : Int32)), .val (.long (Int64.ofNat A)), .second, .val (.long (Int64.ofNat U)), .second, .val (.int (1 : Int32)), .val (.long (Int64.ofNat Bn)), .second, .val (.ref a2), .val (.ref a44), .val (.ref a108), .val (.int (1 : Int32)), .val (.long (st + (Int64.ofNat (own_Rf A (own_Gf A))))), .second, .val .null, .val (.int (0 : Int32)), .val (.long (Int64.ofNat (own_Rf A ((own_Gf (A ^^^ U)) + 1)))), .second, .val (.int (1 : Int32)), .val (.long (Int64.ofNat (own_Rf A (own_Gf (A ^^^ U))))), .second, .val (.long (Int64.ofNat (own_Rf Bn (own_Gf (Bn ^^^ (own_Rf A ((own_Gf (A ^^^ U)) + 1))))))), .second, .unset, .unset] [(.long (FMinJ (Int64.ofNat (own_Rf A (own_Gf (A ^^^ U)))) (Int64.ofNat (own_Rf Bn (own_Gf (Bn ^^^ (own_Rf A ((own_Gf (A ^^^ U)) + 1)))))))), (.long st)]
      rw [own_min (own_Rlt _ hA') (own_Rlt _ hB')]
      show own_G _ _ _ _ _ _ _ _ 438 #[.val (.long p1), .second, .val (.long p2), .second, .val (.long p3), .second, .val (.long p4), .second, .val (.long p5), .second, .val (.int p6), .val (.long st), .second, .val (.long (Int64.ofNat t)), .second, .val (.long lm), .second, .val (.int (1 : Int32)), .val (.long (Int64.ofNat A)), .second, .val (.long (Int64.ofNat U)), .second, .val (.int (1 : Int32)), .val (.long (Int64.ofNat Bn)), .second, .val (.ref a2), .val (.ref a44), .val (.ref a108), .val (.int (1 : Int32)), .val (.long (st + (Int64.ofNat (own_Rf A (own_Gf A))))), .second, .val .null, .val (.int (0 : Int32)), .val (.long (Int64.ofNat (own_Rf A ((own_Gf (A ^^^ U)) + 1)))), .second, .val (.int (1 : Int32)), .val (.long (Int64.ofNat (own_Rf A (own_Gf (A ^^^ U))))), .second, .val (.long (Int64.ofNat (own_Rf Bn (own_Gf (Bn ^^^ (own_Rf A ((own_Gf (A ^^^ U)) + 1))))))), .second, .unset, .unset] [(.long (Int64.ofNat (min (own_Rf A (own_Gf (A ^^^ U))) (own_Rf Bn (own_Gf (Bn ^^^ (own_Rf A ((own_Gf (A ^^^ U)) + 1)))))))), (.long st)]
      refine own_ladd H rfl at_438 ?_
      refine own_lstore H #[.val (.long p1), .second, .val (.long p2), .second, .val (.long p3), .second, .val (.long p4), .second, .val (.long p5), .second, .val (.int p6), .val (.long st), .second, .val (.long (Int64.ofNat t)), .second, .val (.long lm), .second, .val (.int (1 : Int32)), .val (.long (Int64.ofNat A)), .second, .val (.long (Int64.ofNat U)), .second, .val (.int (1 : Int32)), .val (.long (Int64.ofNat Bn)), .second, .val (.ref a2), .val (.ref a44), .val (.ref a108), .val (.int (1 : Int32)), .val (.long (st + (Int64.ofNat (own_Rf A (own_Gf A))))), .second, .val .null, .val (.int (0 : Int32)), .val (.long (Int64.ofNat (own_Rf A ((own_Gf (A ^^^ U)) + 1)))), .second, .val (.int (1 : Int32)), .val (.long (Int64.ofNat (own_Rf A (own_Gf (A ^^^ U))))), .second, .val (.long (Int64.ofNat (own_Rf Bn (own_Gf (Bn ^^^ (own_Rf A ((own_Gf (A ^^^ U)) + 1))))))), .second, .val (.long (st + (Int64.ofNat (min (own_Rf A (own_Gf (A ^^^ U))) (own_Rf Bn (own_Gf (Bn ^^^ (own_Rf A ((own_Gf (A ^^^ U)) + 1))))))))), .second] rfl at_439 ?_
      refine own_goto H (pc' := 479) at_441 (by decide) (by decide) ?_
      refine own_iload H rfl at_479 ?_
      refine own_ifeq_f H at_481 (by decide) ?_
      refine own_aload H rfl rfl at_484 ?_
      refine own_invokevirtual H (a := a2) (argsL := []) (rest := []) (rmNiL l Z a0 (own_hw H) h398 n0 a2 aO kO M (own_o2 (own_Kf A (own_Gf (A ^^^ U))) (own_Kf Bn (own_Gf (Bn ^^^ (own_Rf A ((own_Gf (A ^^^ U)) + 1))))) ((0 : Int64) ||| (FBit (Int32.ofNat (own_Kf Bn (own_Gf (Bn ^^^ (own_Rf A ((own_Gf (A ^^^ U)) + 1))))))))) st (Int64.ofNat (own_Rf A ((own_Gf (A ^^^ U)) + 1))) (own_Gf (Bn ^^^ (own_Rf A ((own_Gf (A ^^^ U)) + 1)))) ((0 : Int64) ||| (FBit (Int32.ofNat (own_Kf Bn (own_Gf (Bn ^^^ (own_Rf A ((own_Gf (A ^^^ U)) + 1)))))))) u421 u426 u429 u440 u430 u431 hM (fun j hj => own_y1 cc hj) hLB (own_x1 _ _ _ _) (own_n2' (own_K704 (by omega)))) u421 (w1 := 65) (w0 := 66) (w5 := 68) (w2 := 67) (w3 := 10) (w4 := 69) rfl rfl rfl rfl rfl rfl own_pd7 rfl 0 (by decide) rfl (by decide) (Nat.le_of_eq rfl) (by decide) (by decide) (by decide) rfl at_486 ?_
      rintro _ _ ⟨rfl, rfl⟩
      show own_G _ _ _ _ _ _ _ _ 489 #[.val (.long p1), .second, .val (.long p2), .second, .val (.long p3), .second, .val (.long p4), .second, .val (.long p5), .second, .val (.int p6), .val (.long st), .second, .val (.long (Int64.ofNat t)), .second, .val (.long lm), .second, .val (.int (1 : Int32)), .val (.long (Int64.ofNat A)), .second, .val (.long (Int64.ofNat U)), .second, .val (.int (1 : Int32)), .val (.long (Int64.ofNat Bn)), .second, .val (.ref a2), .val (.ref a44), .val (.ref a108), .val (.int (1 : Int32)), .val (.long (st + (Int64.ofNat (own_Rf A (own_Gf A))))), .second, .val .null, .val (.int (0 : Int32)), .val (.long (Int64.ofNat (own_Rf A ((own_Gf (A ^^^ U)) + 1)))), .second, .val (.int (1 : Int32)), .val (.long (Int64.ofNat (own_Rf A (own_Gf (A ^^^ U))))), .second, .val (.long (Int64.ofNat (own_Rf Bn (own_Gf (Bn ^^^ (own_Rf A ((own_Gf (A ^^^ U)) + 1))))))), .second, .val (.long (st + (Int64.ofNat (min (own_Rf A (own_Gf (A ^^^ U))) (own_Rf Bn (own_Gf (Bn ^^^ (own_Rf A ((own_Gf (A ^^^ U)) + 1))))))))), .second] [(.long (st + (FFo (Int32.ofNat (own_Gf (Bn ^^^ (own_Rf A ((own_Gf (A ^^^ U)) + 1))))) (FNtzL ((0 : Int64) ||| (FBit (Int32.ofNat (own_Kf Bn (own_Gf (Bn ^^^ (own_Rf A ((own_Gf (A ^^^ U)) + 1))))))))) (Int64.ofNat (own_Rf A ((own_Gf (A ^^^ U)) + 1))))))]
      rw [own_n2 hA' hB' hg (own_Rle _ _) rfl cc]
      show own_G _ _ _ _ _ _ _ _ 489 #[.val (.long p1), .second, .val (.long p2), .second, .val (.long p3), .second, .val (.long p4), .second, .val (.long p5), .second, .val (.int p6), .val (.long st), .second, .val (.long (Int64.ofNat t)), .second, .val (.long lm), .second, .val (.int (1 : Int32)), .val (.long (Int64.ofNat A)), .second, .val (.long (Int64.ofNat U)), .second, .val (.int (1 : Int32)), .val (.long (Int64.ofNat Bn)), .second, .val (.ref a2), .val (.ref a44), .val (.ref a108), .val (.int (1 : Int32)), .val (.long (st + (Int64.ofNat (own_Rf A (own_Gf A))))), .second, .val .null, .val (.int (0 : Int32)), .val (.long (Int64.ofNat (own_Rf A ((own_Gf (A ^^^ U)) + 1)))), .second, .val (.int (1 : Int32)), .val (.long (Int64.ofNat (own_Rf A (own_Gf (A ^^^ U))))), .second, .val (.long (Int64.ofNat (own_Rf Bn (own_Gf (Bn ^^^ (own_Rf A ((own_Gf (A ^^^ U)) + 1))))))), .second, .val (.long (st + (Int64.ofNat (min (own_Rf A (own_Gf (A ^^^ U))) (own_Rf Bn (own_Gf (Bn ^^^ (own_Rf A ((own_Gf (A ^^^ U)) + 1))))))))), .second] [(.long (st + (Int64.ofNat (min (own_Rf A (own_Gf (A ^^^ U))) (own_Rf Bn (own_Gf (Bn ^^^ (own_Rf A ((own_Gf (A ^^^ U)) + 1)))))))))]
      refine own_lload H rfl at_489 ?_
      refine own_lcmpne_f H at_491 at_492 rfl ?_
      refine own_iconst H (1 : Int32) (by decide) at_495 ?_
      refine own_goto H (pc' := 500) at_496 (by decide) (by decide) ?_
      exact own_ireturn H (by simp) (by decide) at_500 (by decide) (by decide) rfl
    ·
      refine own_aload H rfl rfl at_388 ?_
      refine own_aload H rfl rfl at_390 ?_
      refine own_invokevirtual H (a := a2) (argsL := [(.ref a108)]) (rest := []) (rmAdN l Z a0 (own_hw H) h227 n0 a2 a108 a44 aH aT aO kH kT kO M st (st + (Int64.ofNat Bn)) (st + (Int64.ofNat A)) (Int64.ofNat (own_Rf A ((own_Gf (A ^^^ U)) + 1))) (own_h1 a44 (own_Kf A (own_Gf (A ^^^ U)))) (own_h1 a44 (own_Kf A (own_Gf (A ^^^ U)))) (own_o1 (own_Kf A (own_Gf (A ^^^ U)))) .null .null .null .null (fun i => if i = (own_Kf Bn (own_Gf (Bn ^^^ (own_Rf A ((own_Gf (A ^^^ U)) + 1))))) then (.ref a108 : Value) else (own_h1 a44 (own_Kf A (own_Gf (A ^^^ U)))) i) (own_Kf Bn (own_Gf (Bn ^^^ (own_Rf A ((own_Gf (A ^^^ U)) + 1))))) ⟨⟨u313, u314, u316, u315, u317, u318, u319⟩, ⟨u321, u320, u322, u323, u324, u325.symm, u329, u330, u331, u326, u327, u328, u332, u333, u334⟩, ⟨u335, u337, u336, u338, u339⟩, ⟨u340, u341, u342, u343, u344, u345⟩, ⟨u349, u350, u351⟩, ⟨u346, u347, u348⟩, ⟨u352, u353, u354⟩⟩ hM (own_Klt hLB) (by rw [← cc]; exact own_h1s _ _) (fun _ _ => rfl) (by rw [own_sc]; exact own_bk hB' (own_Rlt _ hA'))) u335 (w1 := 81) (w0 := 82) (w5 := 84) (w2 := 83) (w3 := 10) (w4 := 85) rfl rfl rfl rfl rfl rfl own_pd9 rfl 0 (by decide) rfl (by decide) (Nat.le_of_eq rfl) (by decide) (by decide) (by decide) rfl at_392 ?_
      rintro _ h441 ⟨rfl, hQ⟩
      obtain ⟨⟨u442, u443, u444, u445, u446, u447, u448⟩, ⟨u449, u450, u451, u452, u453, u454, u455, u456, u457, u458, u459, u460, u461, u462, u463⟩, ⟨u464, u465, u466, u467, u468⟩, ⟨u469, u470, u471, u472, u473, u474⟩, ⟨u475, u476, u477⟩, ⟨u478, u479, u480⟩, ⟨u481, u482, u483⟩⟩ := hQ
      show own_G _ _ _ _ _ _ _ _ 395 #[.val (.long p1), .second, .val (.long p2), .second, .val (.long p3), .second, .val (.long p4), .second, .val (.long p5), .second, .val (.int p6), .val (.long st), .second, .val (.long (Int64.ofNat t)), .second, .val (.long lm), .second, .val (.int (1 : Int32)), .val (.long (Int64.ofNat A)), .second, .val (.long (Int64.ofNat U)), .second, .val (.int (1 : Int32)), .val (.long (Int64.ofNat Bn)), .second, .val (.ref a2), .val (.ref a44), .val (.ref a108), .val (.int (1 : Int32)), .val (.long (st + (Int64.ofNat (own_Rf A (own_Gf A))))), .second, .val .null, .val (.int (0 : Int32)), .val (.long (Int64.ofNat (own_Rf A ((own_Gf (A ^^^ U)) + 1)))), .second, .val (.int (1 : Int32)), .val (.long (Int64.ofNat (own_Rf A (own_Gf (A ^^^ U))))), .second, .unset, .unset, .unset, .unset] []
      refine own_iload H rfl at_395 ?_
      refine own_ifeq_f H at_397 (by decide) ?_
      refine own_lload H rfl at_400 ?_
      refine own_lload H rfl at_402 ?_
      refine own_lload H rfl at_404 ?_
      refine own_lxor H rfl at_406 ?_
      rw [own_xr Bn (own_Rf A ((own_Gf (A ^^^ U)) + 1))]
      show own_G _ _ _ _ _ _ _ _ 407 #[.val (.long p1), .second, .val (.long p2), .second, .val (.long p3), .second, .val (.long p4), .second, .val (.long p5), .second, .val (.int p6), .val (.long st), .second, .val (.long (Int64.ofNat t)), .second, .val (.long lm), .second, .val (.int (1 : Int32)), .val (.long (Int64.ofNat A)), .second, .val (.long (Int64.ofNat U)), .second, .val (.int (1 : Int32)), .val (.long (Int64.ofNat Bn)), .second, .val (.ref a2), .val (.ref a44), .val (.ref a108), .val (.int (1 : Int32)), .val (.long (st + (Int64.ofNat (own_Rf A (own_Gf A))))), .second, .val .null, .val (.int (0 : Int32)), .val (.long (Int64.ofNat (own_Rf A ((own_Gf (A ^^^ U)) + 1)))), .second, .val (.int (1 : Int32)), .val (.long (Int64.ofNat (own_Rf A (own_Gf (A ^^^ U))))), .second, .unset, .unset, .unset, .unset] [(.long (Int64.ofNat (Bn ^^^ (own_Rf A ((own_Gf (A ^^^ U)) + 1))))), (.long (Int64.ofNat Bn))]
      refine own_invokestatic H (argsL := [(.long (Int64.ofNat (Bn ^^^ (own_Rf A ((own_Gf (A ^^^ U)) + 1)))))]) (rest := [(.long (Int64.ofNat Bn))]) (rmGrp l Z a0 (own_hw H) h441 n0 (Int64.ofNat (Bn ^^^ (own_Rf A ((own_Gf (A ^^^ U)) + 1))))) (w1 := 110) (w2 := 111) (w3 := 112) (w4 := 113) rfl rfl rfl rfl own_pd3 rfl 2 (by decide) rfl (by decide) (Nat.le_of_eq rfl) (by decide) (by decide) (by decide) rfl at_407 ?_
      rintro _ _ ⟨rfl, rfl⟩
      show own_G _ _ _ _ _ _ _ _ 410 #[.val (.long p1), .second, .val (.long p2), .second, .val (.long p3), .second, .val (.long p4), .second, .val (.long p5), .second, .val (.int p6), .val (.long st), .second, .val (.long (Int64.ofNat t)), .second, .val (.long lm), .second, .val (.int (1 : Int32)), .val (.long (Int64.ofNat A)), .second, .val (.long (Int64.ofNat U)), .second, .val (.int (1 : Int32)), .val (.long (Int64.ofNat Bn)), .second, .val (.ref a2), .val (.ref a44), .val (.ref a108), .val (.int (1 : Int32)), .val (.long (st + (Int64.ofNat (own_Rf A (own_Gf A))))), .second, .val .null, .val (.int (0 : Int32)), .val (.long (Int64.ofNat (own_Rf A ((own_Gf (A ^^^ U)) + 1)))), .second, .val (.int (1 : Int32)), .val (.long (Int64.ofNat (own_Rf A (own_Gf (A ^^^ U))))), .second, .unset, .unset, .unset, .unset] [(.int (FGrp (Int64.ofNat (Bn ^^^ (own_Rf A ((own_Gf (A ^^^ U)) + 1)))))), (.long (Int64.ofNat Bn))]
      rw [own_grp (Nat.xor_lt_two_pow hB' (own_Rlt _ hA'))]
      show own_G _ _ _ _ _ _ _ _ 410 #[.val (.long p1), .second, .val (.long p2), .second, .val (.long p3), .second, .val (.long p4), .second, .val (.long p5), .second, .val (.int p6), .val (.long st), .second, .val (.long (Int64.ofNat t)), .second, .val (.long lm), .second, .val (.int (1 : Int32)), .val (.long (Int64.ofNat A)), .second, .val (.long (Int64.ofNat U)), .second, .val (.int (1 : Int32)), .val (.long (Int64.ofNat Bn)), .second, .val (.ref a2), .val (.ref a44), .val (.ref a108), .val (.int (1 : Int32)), .val (.long (st + (Int64.ofNat (own_Rf A (own_Gf A))))), .second, .val .null, .val (.int (0 : Int32)), .val (.long (Int64.ofNat (own_Rf A ((own_Gf (A ^^^ U)) + 1)))), .second, .val (.int (1 : Int32)), .val (.long (Int64.ofNat (own_Rf A (own_Gf (A ^^^ U))))), .second, .unset, .unset, .unset, .unset] [(.int (Int32.ofNat (own_Gf (Bn ^^^ (own_Rf A ((own_Gf (A ^^^ U)) + 1)))))), (.long (Int64.ofNat Bn))]
      refine own_invokestatic H (argsL := [(.long (Int64.ofNat Bn)), (.int (Int32.ofNat (own_Gf (Bn ^^^ (own_Rf A ((own_Gf (A ^^^ U)) + 1))))))]) (rest := []) (rmRnd l Z a0 (own_hw H) h441 n0 (Int64.ofNat Bn) (Int32.ofNat (own_Gf (Bn ^^^ (own_Rf A ((own_Gf (A ^^^ U)) + 1)))))) (w1 := 114) (w2 := 115) (w3 := 112) (w4 := 116) rfl rfl rfl rfl own_pd5 rfl 0 (by decide) rfl (by decide) (Nat.le_of_eq rfl) (by decide) (by decide) (by decide) rfl at_410 ?_
      rintro _ _ ⟨rfl, rfl⟩
      show own_G _ _ _ _ _ _ _ _ 413 #[.val (.long p1), .second, .val (.long p2), .second, .val (.long p3), .second, .val (.long p4), .second, .val (.long p5), .second, .val (.int p6), .val (.long st), .second, .val (.long (Int64.ofNat t)), .second, .val (.long lm), .second, .val (.int (1 : Int32)), .val (.long (Int64.ofNat A)), .second, .val (.long (Int64.ofNat U)), .second, .val (.int (1 : Int32)), .val (.long (Int64.ofNat Bn)), .second, .val (.ref a2), .val (.ref a44), .val (.ref a108), .val (.int (1 : Int32)), .val (.long (st + (Int64.ofNat (own_Rf A (own_Gf A))))), .second, .val .null, .val (.int (0 : Int32)), .val (.long (Int64.ofNat (own_Rf A ((own_Gf (A ^^^ U)) + 1)))), .second, .val (.int (1 : Int32)), .val (.long (Int64.ofNat (own_Rf A (own_Gf (A ^^^ U))))), .second, .unset, .unset, .unset, .unset] [(.long (FRnd (Int64.ofNat Bn) (Int32.ofNat (own_Gf (Bn ^^^ (own_Rf A ((own_Gf (A ^^^ U)) + 1)))))))]
      rw [own_rnd (k := (own_Gf (Bn ^^^ (own_Rf A ((own_Gf (A ^^^ U)) + 1))))) hB' (by have := own_G10 (Nat.xor_lt_two_pow hB' (own_Rlt (own_Gf (A ^^^ U) + 1) hA')); omega)]
      show own_G _ _ _ _ _ _ _ _ 413 #[.val (.long p1), .second, .val (.long p2), .second, .val (.long p3), .second, .val (.long p4), .second, .val (.long p5), .second, .val (.int p6), .val (.long st), .second, .val (.long (Int64.ofNat t)), .second, .val (.long lm), .second, .val (.int (1 : Int32)), .val (.long (Int64.ofNat A)), .second, .val (.long (Int64.ofNat U)), .second, .val (.int (1 : Int32)), .val (.long (Int64.ofNat Bn)), .second, .val (.ref a2), .val (.ref a44), .val (.ref a108), .val (.int (1 : Int32)), .val (.long (st + (Int64.ofNat (own_Rf A (own_Gf A))))), .second, .val .null, .val (.int (0 : Int32)), .val (.long (Int64.ofNat (own_Rf A ((own_Gf (A ^^^ U)) + 1)))), .second, .val (.int (1 : Int32)), .val (.long (Int64.ofNat (own_Rf A (own_Gf (A ^^^ U))))), .second, .unset, .unset, .unset, .unset] [(.long (Int64.ofNat (own_Rf Bn (own_Gf (Bn ^^^ (own_Rf A ((own_Gf (A ^^^ U)) + 1)))))))]
      refine own_goto H (pc' := 417) at_413 (by decide) (by decide) ?_
      refine own_lstore H #[.val (.long p1), .second, .val (.long p2), .second, .val (.long p3), .second, .val (.long p4), .second, .val (.long p5), .second, .val (.int p6), .val (.long st), .second, .val (.long (Int64.ofNat t)), .second, .val (.long lm), .second, .val (.int (1 : Int32)), .val (.long (Int64.ofNat A)), .second, .val (.long (Int64.ofNat U)), .second, .val (.int (1 : Int32)), .val (.long (Int64.ofNat Bn)), .second, .val (.ref a2), .val (.ref a44), .val (.ref a108), .val (.int (1 : Int32)), .val (.long (st + (Int64.ofNat (own_Rf A (own_Gf A))))), .second, .val .null, .val (.int (0 : Int32)), .val (.long (Int64.ofNat (own_Rf A ((own_Gf (A ^^^ U)) + 1)))), .second, .val (.int (1 : Int32)), .val (.long (Int64.ofNat (own_Rf A (own_Gf (A ^^^ U))))), .second, .val (.long (Int64.ofNat (own_Rf Bn (own_Gf (Bn ^^^ (own_Rf A ((own_Gf (A ^^^ U)) + 1))))))), .second, .unset, .unset] rfl at_417 ?_
      refine own_iload H rfl at_419 ?_
      refine own_ifeq_f H at_421 (by decide) ?_
      refine own_iload H rfl at_424 ?_
      refine own_ifeq_f H at_426 (by decide) ?_
      refine own_lload H rfl at_429 ?_
      refine own_lload H rfl at_431 ?_
      refine own_lload H rfl at_433 ?_
      refine own_invokestatic H (argsL := [(.long (Int64.ofNat (own_Rf A (own_Gf (A ^^^ U))))), (.long (Int64.ofNat (own_Rf Bn (own_Gf (Bn ^^^ (own_Rf A ((own_Gf (A ^^^ U)) + 1)))))))]) (rest := [(.long st)]) (rmMinJ l Z a0 (own_hw H) h441 n0 (Int64.ofNat (own_Rf A (own_Gf (A ^^^ U)))) (Int64.ofNat (own_Rf Bn (own_Gf (Bn ^^^ (own_Rf A ((own_Gf (A ^^^ U)) + 1))))))) (w1 := 5) (w2 := 6) (w3 := 3) (w4 := 7) rfl rfl rfl rfl own_pd0 rfl 2 (by decide) rfl (by decide) (Nat.le_of_eq rfl) (by decide) (by decide) (by decide) rfl at_435 ?_
      rintro _ _ ⟨rfl, rfl⟩
      show own_G _ _ _ _ _ _ _ _ 438 #[.val (.long p1), .second, .val (.long p2), .second, .val (.long p3), .second, .val (.long p4), .second, .val (.long p5), .second, .val (.int p6), .val (.long st), .second, .val (.long (Int64.ofNat t)), .second, .val (.long lm), .second, .val (.int (1 : Int32)), .val (.long (Int64.ofNat A)), .second, .val (.long (Int64.ofNat U)), .second, .val (.int (1 : Int32)), .val (.long (Int64.ofNat Bn)), .second, .val (.ref a2), .val (.ref a44), .val (.ref a108), .val (.int (1 : Int32)), .val (.long (st + (Int64.ofNat (own_Rf A (own_Gf A))))), .second, .val .null, .val (.int (0 : Int32)), .val (.long (Int64.ofNat (own_Rf A ((own_Gf (A ^^^ U)) + 1)))), .second, .val (.int (1 : Int32)), .val (.long (Int64.ofNat (own_Rf A (own_Gf (A ^^^ U))))), .second, .val (.long (Int64.ofNat (own_Rf Bn (own_Gf (Bn ^^^ (own_Rf A ((own_Gf (A ^^^ U)) + 1))))))), .second, .unset, .unset] [(.long (FMinJ (Int64.ofNat (own_Rf A (own_Gf (A ^^^ U)))) (Int64.ofNat (own_Rf Bn (own_Gf (Bn ^^^ (own_Rf A ((own_Gf (A ^^^ U)) + 1)))))))), (.long st)]
      rw [own_min (own_Rlt _ hA') (own_Rlt _ hB')]
      show own_G _ _ _ _ _ _ _ _ 438 #[.val (.long p1), .second, .val (.long p2), .second, .val (.long p3), .second, .val (.long p4), .second, .val (.long p5), .second, .val (.int p6), .val (.long st), .second, .val (.long (Int64.ofNat t)), .second, .val (.long lm), .second, .val (.int (1 : Int32)), .val (.long (Int64.ofNat A)), .second, .val (.long (Int64.ofNat U)), .second, .val (.int (1 : Int32)), .val (.long (Int64.ofNat Bn)), .second, .val (.ref a2), .val (.ref a44), .val (.ref a108), .val (.int (1 : Int32)), .val (.long (st + (Int64.ofNat (own_Rf A (own_Gf A))))), .second, .val .null, .val (.int (0 : Int32)), .val (.long (Int64.ofNat (own_Rf A ((own_Gf (A ^^^ U)) + 1)))), .second, .val (.int (1 : Int32)), .val (.long (Int64.ofNat (own_Rf A (own_Gf (A ^^^ U))))), .second, .val (.long (Int64.ofNat (own_Rf Bn (own_Gf (Bn ^^^ (own_Rf A ((own_Gf (A ^^^ U)) + 1))))))), .second, .unset, .unset] [(.long (Int64.ofNat (min (own_Rf A (own_Gf (A ^^^ U))) (own_Rf Bn (own_Gf (Bn ^^^ (own_Rf A ((own_Gf (A ^^^ U)) + 1)))))))), (.long st)]
      refine own_ladd H rfl at_438 ?_
      refine own_lstore H #[.val (.long p1), .second, .val (.long p2), .second, .val (.long p3), .second, .val (.long p4), .second, .val (.long p5), .second, .val (.int p6), .val (.long st), .second, .val (.long (Int64.ofNat t)), .second, .val (.long lm), .second, .val (.int (1 : Int32)), .val (.long (Int64.ofNat A)), .second, .val (.long (Int64.ofNat U)), .second, .val (.int (1 : Int32)), .val (.long (Int64.ofNat Bn)), .second, .val (.ref a2), .val (.ref a44), .val (.ref a108), .val (.int (1 : Int32)), .val (.long (st + (Int64.ofNat (own_Rf A (own_Gf A))))), .second, .val .null, .val (.int (0 : Int32)), .val (.long (Int64.ofNat (own_Rf A ((own_Gf (A ^^^ U)) + 1)))), .second, .val (.int (1 : Int32)), .val (.long (Int64.ofNat (own_Rf A (own_Gf (A ^^^ U))))), .second, .val (.long (Int64.ofNat (own_Rf Bn (own_Gf (Bn ^^^ (own_Rf A ((own_Gf (A ^^^ U)) + 1))))))), .second, .val (.long (st + (Int64.ofNat (min (own_Rf A (own_Gf (A ^^^ U))) (own_Rf Bn (own_Gf (Bn ^^^ (own_Rf A ((own_Gf (A ^^^ U)) + 1))))))))), .second] rfl at_439 ?_
      refine own_goto H (pc' := 479) at_441 (by decide) (by decide) ?_
      refine own_iload H rfl at_479 ?_
      refine own_ifeq_f H at_481 (by decide) ?_
      refine own_aload H rfl rfl at_484 ?_
      refine own_invokevirtual H (a := a2) (argsL := []) (rest := []) (rmNiL l Z a0 (own_hw H) h441 n0 a2 aO kO M (own_o1 (own_Kf A (own_Gf (A ^^^ U)))) st (Int64.ofNat (own_Rf A ((own_Gf (A ^^^ U)) + 1))) (own_Gf (A ^^^ U)) (FBit (Int32.ofNat (own_Kf A (own_Gf (A ^^^ U))))) u464 u469 u472 u483 u473 u474 hM (fun j hj => own_oz hj) hLU (own_os _ _) (own_nt (own_K704 (by omega))).2) u464 (w1 := 65) (w0 := 66) (w5 := 68) (w2 := 67) (w3 := 10) (w4 := 69) rfl rfl rfl rfl rfl rfl own_pd7 rfl 0 (by decide) rfl (by decide) (Nat.le_of_eq rfl) (by decide) (by decide) (by decide) rfl at_486 ?_
      rintro _ _ ⟨rfl, rfl⟩
      show own_G _ _ _ _ _ _ _ _ 489 #[.val (.long p1), .second, .val (.long p2), .second, .val (.long p3), .second, .val (.long p4), .second, .val (.long p5), .second, .val (.int p6), .val (.long st), .second, .val (.long (Int64.ofNat t)), .second, .val (.long lm), .second, .val (.int (1 : Int32)), .val (.long (Int64.ofNat A)), .second, .val (.long (Int64.ofNat U)), .second, .val (.int (1 : Int32)), .val (.long (Int64.ofNat Bn)), .second, .val (.ref a2), .val (.ref a44), .val (.ref a108), .val (.int (1 : Int32)), .val (.long (st + (Int64.ofNat (own_Rf A (own_Gf A))))), .second, .val .null, .val (.int (0 : Int32)), .val (.long (Int64.ofNat (own_Rf A ((own_Gf (A ^^^ U)) + 1)))), .second, .val (.int (1 : Int32)), .val (.long (Int64.ofNat (own_Rf A (own_Gf (A ^^^ U))))), .second, .val (.long (Int64.ofNat (own_Rf Bn (own_Gf (Bn ^^^ (own_Rf A ((own_Gf (A ^^^ U)) + 1))))))), .second, .val (.long (st + (Int64.ofNat (min (own_Rf A (own_Gf (A ^^^ U))) (own_Rf Bn (own_Gf (Bn ^^^ (own_Rf A ((own_Gf (A ^^^ U)) + 1))))))))), .second] [(.long (st + (FFo (Int32.ofNat (own_Gf (A ^^^ U))) (FNtzL (FBit (Int32.ofNat (own_Kf A (own_Gf (A ^^^ U)))))) (Int64.ofNat (own_Rf A ((own_Gf (A ^^^ U)) + 1))))))]
      rw [own_w3 hA' (own_Rlt _ hA') hg ce cc]
      show own_G _ _ _ _ _ _ _ _ 489 #[.val (.long p1), .second, .val (.long p2), .second, .val (.long p3), .second, .val (.long p4), .second, .val (.long p5), .second, .val (.int p6), .val (.long st), .second, .val (.long (Int64.ofNat t)), .second, .val (.long lm), .second, .val (.int (1 : Int32)), .val (.long (Int64.ofNat A)), .second, .val (.long (Int64.ofNat U)), .second, .val (.int (1 : Int32)), .val (.long (Int64.ofNat Bn)), .second, .val (.ref a2), .val (.ref a44), .val (.ref a108), .val (.int (1 : Int32)), .val (.long (st + (Int64.ofNat (own_Rf A (own_Gf A))))), .second, .val .null, .val (.int (0 : Int32)), .val (.long (Int64.ofNat (own_Rf A ((own_Gf (A ^^^ U)) + 1)))), .second, .val (.int (1 : Int32)), .val (.long (Int64.ofNat (own_Rf A (own_Gf (A ^^^ U))))), .second, .val (.long (Int64.ofNat (own_Rf Bn (own_Gf (Bn ^^^ (own_Rf A ((own_Gf (A ^^^ U)) + 1))))))), .second, .val (.long (st + (Int64.ofNat (min (own_Rf A (own_Gf (A ^^^ U))) (own_Rf Bn (own_Gf (Bn ^^^ (own_Rf A ((own_Gf (A ^^^ U)) + 1))))))))), .second] [(.long (st + (Int64.ofNat (min (own_Rf A (own_Gf (A ^^^ U))) (own_Rf Bn (own_Gf (Bn ^^^ (own_Rf A ((own_Gf (A ^^^ U)) + 1)))))))))]
      refine own_lload H rfl at_489 ?_
      refine own_lcmpne_f H at_491 at_492 rfl ?_
      refine own_iconst H (1 : Int32) (by decide) at_495 ?_
      refine own_goto H (pc' := 500) at_496 (by decide) (by decide) ?_
      exact own_ireturn H (by simp) (by decide) at_500 (by decide) (by decide) rfl
    ·
      refine own_aload H rfl rfl at_388 ?_
      refine own_aload H rfl rfl at_390 ?_
      refine own_invokevirtual H (a := a2) (argsL := [(.ref a108)]) (rest := []) (rmAdE l Z a0 (own_hw H) h227 n0 a2 a108 a44 aH aT aO kH kT kO M st (st + (Int64.ofNat Bn)) (st + (Int64.ofNat A)) (Int64.ofNat (own_Rf A ((own_Gf (A ^^^ U)) + 1))) (own_h1 a44 (own_Kf A (own_Gf (A ^^^ U)))) (own_h1 a44 (own_Kf A (own_Gf (A ^^^ U)))) (own_o1 (own_Kf A (own_Gf (A ^^^ U)))) .null .null .null .null (fun i => if i = (own_Kf Bn (own_Gf (Bn ^^^ (own_Rf A ((own_Gf (A ^^^ U)) + 1))))) then (.ref a108 : Value) else (own_h1 a44 (own_Kf A (own_Gf (A ^^^ U)))) i) (fun i => if i = (own_Kf Bn (own_Gf (Bn ^^^ (own_Rf A ((own_Gf (A ^^^ U)) + 1))))) then (.ref a108 : Value) else (own_h1 a44 (own_Kf A (own_Gf (A ^^^ U)))) i) (own_o2 (own_Kf A (own_Gf (A ^^^ U))) (own_Kf Bn (own_Gf (Bn ^^^ (own_Rf A ((own_Gf (A ^^^ U)) + 1))))) ((FBit (Int32.ofNat (own_Kf A (own_Gf (A ^^^ U))))) ||| (FBit (Int32.ofNat (own_Kf Bn (own_Gf (Bn ^^^ (own_Rf A ((own_Gf (A ^^^ U)) + 1))))))))) (own_Kf Bn (own_Gf (Bn ^^^ (own_Rf A ((own_Gf (A ^^^ U)) + 1))))) (FBit (Int32.ofNat (own_Kf A (own_Gf (A ^^^ U))))) ⟨⟨u313, u314, u316, u315, u317, u318, u319⟩, ⟨u321, u320, u322, u323, u324, u325.symm, u329, u330, u331, u326, u327, u328, u332, u333, u334⟩, ⟨u335, u337, u336, u338, u339⟩, ⟨u340, u341, u342, u343, u344, u345⟩, ⟨u349, u350, u351⟩, ⟨u346, u347, u348⟩, ⟨u352, u353, u354⟩⟩ hM (own_Klt hLB) (own_t3 cc) (own_v3 ce) (fun _ _ => rfl) (fun _ _ => rfl) (fun _ _ => rfl) (by rw [own_sc]; exact own_bk hB' (own_Rlt _ hA'))) u335 (w1 := 81) (w0 := 82) (w5 := 84) (w2 := 83) (w3 := 10) (w4 := 85) rfl rfl rfl rfl rfl rfl own_pd9 rfl 0 (by decide) rfl (by decide) (Nat.le_of_eq rfl) (by decide) (by decide) (by decide) rfl at_392 ?_
      rintro _ h484 ⟨rfl, hQ⟩
      obtain ⟨⟨u485, u486, u487, u488, u489, u490, u491⟩, ⟨u492, u493, u494, u495, u496, u497, u498, u499, u500, u501, u502, u503, u504, u505, u506⟩, ⟨u507, u508, u509, u510, u511⟩, ⟨u512, u513, u514, u515, u516, u517⟩, ⟨u518, u519, u520⟩, ⟨u521, u522, u523⟩, ⟨u524, u525, u526⟩⟩ := hQ
      show own_G _ _ _ _ _ _ _ _ 395 #[.val (.long p1), .second, .val (.long p2), .second, .val (.long p3), .second, .val (.long p4), .second, .val (.long p5), .second, .val (.int p6), .val (.long st), .second, .val (.long (Int64.ofNat t)), .second, .val (.long lm), .second, .val (.int (1 : Int32)), .val (.long (Int64.ofNat A)), .second, .val (.long (Int64.ofNat U)), .second, .val (.int (1 : Int32)), .val (.long (Int64.ofNat Bn)), .second, .val (.ref a2), .val (.ref a44), .val (.ref a108), .val (.int (1 : Int32)), .val (.long (st + (Int64.ofNat (own_Rf A (own_Gf A))))), .second, .val .null, .val (.int (0 : Int32)), .val (.long (Int64.ofNat (own_Rf A ((own_Gf (A ^^^ U)) + 1)))), .second, .val (.int (1 : Int32)), .val (.long (Int64.ofNat (own_Rf A (own_Gf (A ^^^ U))))), .second, .unset, .unset, .unset, .unset] []
      refine own_iload H rfl at_395 ?_
      refine own_ifeq_f H at_397 (by decide) ?_
      refine own_lload H rfl at_400 ?_
      refine own_lload H rfl at_402 ?_
      refine own_lload H rfl at_404 ?_
      refine own_lxor H rfl at_406 ?_
      rw [own_xr Bn (own_Rf A ((own_Gf (A ^^^ U)) + 1))]
      show own_G _ _ _ _ _ _ _ _ 407 #[.val (.long p1), .second, .val (.long p2), .second, .val (.long p3), .second, .val (.long p4), .second, .val (.long p5), .second, .val (.int p6), .val (.long st), .second, .val (.long (Int64.ofNat t)), .second, .val (.long lm), .second, .val (.int (1 : Int32)), .val (.long (Int64.ofNat A)), .second, .val (.long (Int64.ofNat U)), .second, .val (.int (1 : Int32)), .val (.long (Int64.ofNat Bn)), .second, .val (.ref a2), .val (.ref a44), .val (.ref a108), .val (.int (1 : Int32)), .val (.long (st + (Int64.ofNat (own_Rf A (own_Gf A))))), .second, .val .null, .val (.int (0 : Int32)), .val (.long (Int64.ofNat (own_Rf A ((own_Gf (A ^^^ U)) + 1)))), .second, .val (.int (1 : Int32)), .val (.long (Int64.ofNat (own_Rf A (own_Gf (A ^^^ U))))), .second, .unset, .unset, .unset, .unset] [(.long (Int64.ofNat (Bn ^^^ (own_Rf A ((own_Gf (A ^^^ U)) + 1))))), (.long (Int64.ofNat Bn))]
      refine own_invokestatic H (argsL := [(.long (Int64.ofNat (Bn ^^^ (own_Rf A ((own_Gf (A ^^^ U)) + 1)))))]) (rest := [(.long (Int64.ofNat Bn))]) (rmGrp l Z a0 (own_hw H) h484 n0 (Int64.ofNat (Bn ^^^ (own_Rf A ((own_Gf (A ^^^ U)) + 1))))) (w1 := 110) (w2 := 111) (w3 := 112) (w4 := 113) rfl rfl rfl rfl own_pd3 rfl 2 (by decide) rfl (by decide) (Nat.le_of_eq rfl) (by decide) (by decide) (by decide) rfl at_407 ?_
      rintro _ _ ⟨rfl, rfl⟩
      show own_G _ _ _ _ _ _ _ _ 410 #[.val (.long p1), .second, .val (.long p2), .second, .val (.long p3), .second, .val (.long p4), .second, .val (.long p5), .second, .val (.int p6), .val (.long st), .second, .val (.long (Int64.ofNat t)), .second, .val (.long lm), .second, .val (.int (1 : Int32)), .val (.long (Int64.ofNat A)), .second, .val (.long (Int64.ofNat U)), .second, .val (.int (1 : Int32)), .val (.long (Int64.ofNat Bn)), .second, .val (.ref a2), .val (.ref a44), .val (.ref a108), .val (.int (1 : Int32)), .val (.long (st + (Int64.ofNat (own_Rf A (own_Gf A))))), .second, .val .null, .val (.int (0 : Int32)), .val (.long (Int64.ofNat (own_Rf A ((own_Gf (A ^^^ U)) + 1)))), .second, .val (.int (1 : Int32)), .val (.long (Int64.ofNat (own_Rf A (own_Gf (A ^^^ U))))), .second, .unset, .unset, .unset, .unset] [(.int (FGrp (Int64.ofNat (Bn ^^^ (own_Rf A ((own_Gf (A ^^^ U)) + 1)))))), (.long (Int64.ofNat Bn))]
      rw [own_grp (Nat.xor_lt_two_pow hB' (own_Rlt _ hA'))]
      show own_G _ _ _ _ _ _ _ _ 410 #[.val (.long p1), .second, .val (.long p2), .second, .val (.long p3), .second, .val (.long p4), .second, .val (.long p5), .second, .val (.int p6), .val (.long st), .second, .val (.long (Int64.ofNat t)), .second, .val (.long lm), .second, .val (.int (1 : Int32)), .val (.long (Int64.ofNat A)), .second, .val (.long (Int64.ofNat U)), .second, .val (.int (1 : Int32)), .val (.long (Int64.ofNat Bn)), .second, .val (.ref a2), .val (.ref a44), .val (.ref a108), .val (.int (1 : Int32)), .val (.long (st + (Int64.ofNat (own_Rf A (own_Gf A))))), .second, .val .null, .val (.int (0 : Int32)), .val (.long (Int64.ofNat (own_Rf A ((own_Gf (A ^^^ U)) + 1)))), .second, .val (.int (1 : Int32)), .val (.long (Int64.ofNat (own_Rf A (own_Gf (A ^^^ U))))), .second, .unset, .unset, .unset, .unset] [(.int (Int32.ofNat (own_Gf (Bn ^^^ (own_Rf A ((own_Gf (A ^^^ U)) + 1)))))), (.long (Int64.ofNat Bn))]
      refine own_invokestatic H (argsL := [(.long (Int64.ofNat Bn)), (.int (Int32.ofNat (own_Gf (Bn ^^^ (own_Rf A ((own_Gf (A ^^^ U)) + 1))))))]) (rest := []) (rmRnd l Z a0 (own_hw H) h484 n0 (Int64.ofNat Bn) (Int32.ofNat (own_Gf (Bn ^^^ (own_Rf A ((own_Gf (A ^^^ U)) + 1)))))) (w1 := 114) (w2 := 115) (w3 := 112) (w4 := 116) rfl rfl rfl rfl own_pd5 rfl 0 (by decide) rfl (by decide) (Nat.le_of_eq rfl) (by decide) (by decide) (by decide) rfl at_410 ?_
      rintro _ _ ⟨rfl, rfl⟩
      show own_G _ _ _ _ _ _ _ _ 413 #[.val (.long p1), .second, .val (.long p2), .second, .val (.long p3), .second, .val (.long p4), .second, .val (.long p5), .second, .val (.int p6), .val (.long st), .second, .val (.long (Int64.ofNat t)), .second, .val (.long lm), .second, .val (.int (1 : Int32)), .val (.long (Int64.ofNat A)), .second, .val (.long (Int64.ofNat U)), .second, .val (.int (1 : Int32)), .val (.long (Int64.ofNat Bn)), .second, .val (.ref a2), .val (.ref a44), .val (.ref a108), .val (.int (1 : Int32)), .val (.long (st + (Int64.ofNat (own_Rf A (own_Gf A))))), .second, .val .null, .val (.int (0 : Int32)), .val (.long (Int64.ofNat (own_Rf A ((own_Gf (A ^^^ U)) + 1)))), .second, .val (.int (1 : Int32)), .val (.long (Int64.ofNat (own_Rf A (own_Gf (A ^^^ U))))), .second, .unset, .unset, .unset, .unset] [(.long (FRnd (Int64.ofNat Bn) (Int32.ofNat (own_Gf (Bn ^^^ (own_Rf A ((own_Gf (A ^^^ U)) + 1)))))))]
      rw [own_rnd (k := (own_Gf (Bn ^^^ (own_Rf A ((own_Gf (A ^^^ U)) + 1))))) hB' (by have := own_G10 (Nat.xor_lt_two_pow hB' (own_Rlt (own_Gf (A ^^^ U) + 1) hA')); omega)]
      show own_G _ _ _ _ _ _ _ _ 413 #[.val (.long p1), .second, .val (.long p2), .second, .val (.long p3), .second, .val (.long p4), .second, .val (.long p5), .second, .val (.int p6), .val (.long st), .second, .val (.long (Int64.ofNat t)), .second, .val (.long lm), .second, .val (.int (1 : Int32)), .val (.long (Int64.ofNat A)), .second, .val (.long (Int64.ofNat U)), .second, .val (.int (1 : Int32)), .val (.long (Int64.ofNat Bn)), .second, .val (.ref a2), .val (.ref a44), .val (.ref a108), .val (.int (1 : Int32)), .val (.long (st + (Int64.ofNat (own_Rf A (own_Gf A))))), .second, .val .null, .val (.int (0 : Int32)), .val (.long (Int64.ofNat (own_Rf A ((own_Gf (A ^^^ U)) + 1)))), .second, .val (.int (1 : Int32)), .val (.long (Int64.ofNat (own_Rf A (own_Gf (A ^^^ U))))), .second, .unset, .unset, .unset, .unset] [(.long (Int64.ofNat (own_Rf Bn (own_Gf (Bn ^^^ (own_Rf A ((own_Gf (A ^^^ U)) + 1)))))))]
      refine own_goto H (pc' := 417) at_413 (by decide) (by decide) ?_
      refine own_lstore H #[.val (.long p1), .second, .val (.long p2), .second, .val (.long p3), .second, .val (.long p4), .second, .val (.long p5), .second, .val (.int p6), .val (.long st), .second, .val (.long (Int64.ofNat t)), .second, .val (.long lm), .second, .val (.int (1 : Int32)), .val (.long (Int64.ofNat A)), .second, .val (.long (Int64.ofNat U)), .second, .val (.int (1 : Int32)), .val (.long (Int64.ofNat Bn)), .second, .val (.ref a2), .val (.ref a44), .val (.ref a108), .val (.int (1 : Int32)), .val (.long (st + (Int64.ofNat (own_Rf A (own_Gf A))))), .second, .val .null, .val (.int (0 : Int32)), .val (.long (Int64.ofNat (own_Rf A ((own_Gf (A ^^^ U)) + 1)))), .second, .val (.int (1 : Int32)), .val (.long (Int64.ofNat (own_Rf A (own_Gf (A ^^^ U))))), .second, .val (.long (Int64.ofNat (own_Rf Bn (own_Gf (Bn ^^^ (own_Rf A ((own_Gf (A ^^^ U)) + 1))))))), .second, .unset, .unset] rfl at_417 ?_
      refine own_iload H rfl at_419 ?_
      refine own_ifeq_f H at_421 (by decide) ?_
      refine own_iload H rfl at_424 ?_
      refine own_ifeq_f H at_426 (by decide) ?_
      refine own_lload H rfl at_429 ?_
      refine own_lload H rfl at_431 ?_
      refine own_lload H rfl at_433 ?_
      refine own_invokestatic H (argsL := [(.long (Int64.ofNat (own_Rf A (own_Gf (A ^^^ U))))), (.long (Int64.ofNat (own_Rf Bn (own_Gf (Bn ^^^ (own_Rf A ((own_Gf (A ^^^ U)) + 1)))))))]) (rest := [(.long st)]) (rmMinJ l Z a0 (own_hw H) h484 n0 (Int64.ofNat (own_Rf A (own_Gf (A ^^^ U)))) (Int64.ofNat (own_Rf Bn (own_Gf (Bn ^^^ (own_Rf A ((own_Gf (A ^^^ U)) + 1))))))) (w1 := 5) (w2 := 6) (w3 := 3) (w4 := 7) rfl rfl rfl rfl own_pd0 rfl 2 (by decide) rfl (by decide) (Nat.le_of_eq rfl) (by decide) (by decide) (by decide) rfl at_435 ?_
      rintro _ _ ⟨rfl, rfl⟩
      show own_G _ _ _ _ _ _ _ _ 438 #[.val (.long p1), .second, .val (.long p2), .second, .val (.long p3), .second, .val (.long p4), .second, .val (.long p5), .second, .val (.int p6), .val (.long st), .second, .val (.long (Int64.ofNat t)), .second, .val (.long lm), .second, .val (.int (1 : Int32)), .val (.long (Int64.ofNat A)), .second, .val (.long (Int64.ofNat U)), .second, .val (.int (1 : Int32)), .val (.long (Int64.ofNat Bn)), .second, .val (.ref a2), .val (.ref a44), .val (.ref a108), .val (.int (1 : Int32)), .val (.long (st + (Int64.ofNat (own_Rf A (own_Gf A))))), .second, .val .null, .val (.int (0 : Int32)), .val (.long (Int64.ofNat (own_Rf A ((own_Gf (A ^^^ U)) + 1)))), .second, .val (.int (1 : Int32)), .val (.long (Int64.ofNat (own_Rf A (own_Gf (A ^^^ U))))), .second, .val (.long (Int64.ofNat (own_Rf Bn (own_Gf (Bn ^^^ (own_Rf A ((own_Gf (A ^^^ U)) + 1))))))), .second, .unset, .unset] [(.long (FMinJ (Int64.ofNat (own_Rf A (own_Gf (A ^^^ U)))) (Int64.ofNat (own_Rf Bn (own_Gf (Bn ^^^ (own_Rf A ((own_Gf (A ^^^ U)) + 1)))))))), (.long st)]
      rw [own_min (own_Rlt _ hA') (own_Rlt _ hB')]
      show own_G _ _ _ _ _ _ _ _ 438 #[.val (.long p1), .second, .val (.long p2), .second, .val (.long p3), .second, .val (.long p4), .second, .val (.long p5), .second, .val (.int p6), .val (.long st), .second, .val (.long (Int64.ofNat t)), .second, .val (.long lm), .second, .val (.int (1 : Int32)), .val (.long (Int64.ofNat A)), .second, .val (.long (Int64.ofNat U)), .second, .val (.int (1 : Int32)), .val (.long (Int64.ofNat Bn)), .second, .val (.ref a2), .val (.ref a44), .val (.ref a108), .val (.int (1 : Int32)), .val (.long (st + (Int64.ofNat (own_Rf A (own_Gf A))))), .second, .val .null, .val (.int (0 : Int32)), .val (.long (Int64.ofNat (own_Rf A ((own_Gf (A ^^^ U)) + 1)))), .second, .val (.int (1 : Int32)), .val (.long (Int64.ofNat (own_Rf A (own_Gf (A ^^^ U))))), .second, .val (.long (Int64.ofNat (own_Rf Bn (own_Gf (Bn ^^^ (own_Rf A ((own_Gf (A ^^^ U)) + 1))))))), .second, .unset, .unset] [(.long (Int64.ofNat (min (own_Rf A (own_Gf (A ^^^ U))) (own_Rf Bn (own_Gf (Bn ^^^ (own_Rf A ((own_Gf (A ^^^ U)) + 1)))))))), (.long st)]
      refine own_ladd H rfl at_438 ?_
      refine own_lstore H #[.val (.long p1), .second, .val (.long p2), .second, .val (.long p3), .second, .val (.long p4), .second, .val (.long p5), .second, .val (.int p6), .val (.long st), .second, .val (.long (Int64.ofNat t)), .second, .val (.long lm), .second, .val (.int (1 : Int32)), .val (.long (Int64.ofNat A)), .second, .val (.long (Int64.ofNat U)), .second, .val (.int (1 : Int32)), .val (.long (Int64.ofNat Bn)), .second, .val (.ref a2), .val (.ref a44), .val (.ref a108), .val (.int (1 : Int32)), .val (.long (st + (Int64.ofNat (own_Rf A (own_Gf A))))), .second, .val .null, .val (.int (0 : Int32)), .val (.long (Int64.ofNat (own_Rf A ((own_Gf (A ^^^ U)) + 1)))), .second, .val (.int (1 : Int32)), .val (.long (Int64.ofNat (own_Rf A (own_Gf (A ^^^ U))))), .second, .val (.long (Int64.ofNat (own_Rf Bn (own_Gf (Bn ^^^ (own_Rf A ((own_Gf (A ^^^ U)) + 1))))))), .second, .val (.long (st + (Int64.ofNat (min (own_Rf A (own_Gf (A ^^^ U))) (own_Rf Bn (own_Gf (Bn ^^^ (own_Rf A ((own_Gf (A ^^^ U)) + 1))))))))), .second] rfl at_439 ?_
      refine own_goto H (pc' := 479) at_441 (by decide) (by decide) ?_
      refine own_iload H rfl at_479 ?_
      refine own_ifeq_f H at_481 (by decide) ?_
      refine own_aload H rfl rfl at_484 ?_
      refine own_invokevirtual H (a := a2) (argsL := []) (rest := []) (rmNiL l Z a0 (own_hw H) h484 n0 a2 aO kO M (own_o2 (own_Kf A (own_Gf (A ^^^ U))) (own_Kf Bn (own_Gf (Bn ^^^ (own_Rf A ((own_Gf (A ^^^ U)) + 1))))) ((FBit (Int32.ofNat (own_Kf A (own_Gf (A ^^^ U))))) ||| (FBit (Int32.ofNat (own_Kf Bn (own_Gf (Bn ^^^ (own_Rf A ((own_Gf (A ^^^ U)) + 1))))))))) st (Int64.ofNat (own_Rf A ((own_Gf (A ^^^ U)) + 1))) (own_Gf (A ^^^ U)) ((FBit (Int32.ofNat (own_Kf A (own_Gf (A ^^^ U))))) ||| (FBit (Int32.ofNat (own_Kf Bn (own_Gf (Bn ^^^ (own_Rf A ((own_Gf (A ^^^ U)) + 1)))))))) u507 u512 u515 u526 u516 u517 hM (fun j hj => own_y3 ce hj) hLU (own_x3 ce) (own_n4' (own_K704 (by omega)) (own_K704 (by omega)))) u507 (w1 := 65) (w0 := 66) (w5 := 68) (w2 := 67) (w3 := 10) (w4 := 69) rfl rfl rfl rfl rfl rfl own_pd7 rfl 0 (by decide) rfl (by decide) (Nat.le_of_eq rfl) (by decide) (by decide) (by decide) rfl at_486 ?_
      rintro _ _ ⟨rfl, rfl⟩
      show own_G _ _ _ _ _ _ _ _ 489 #[.val (.long p1), .second, .val (.long p2), .second, .val (.long p3), .second, .val (.long p4), .second, .val (.long p5), .second, .val (.int p6), .val (.long st), .second, .val (.long (Int64.ofNat t)), .second, .val (.long lm), .second, .val (.int (1 : Int32)), .val (.long (Int64.ofNat A)), .second, .val (.long (Int64.ofNat U)), .second, .val (.int (1 : Int32)), .val (.long (Int64.ofNat Bn)), .second, .val (.ref a2), .val (.ref a44), .val (.ref a108), .val (.int (1 : Int32)), .val (.long (st + (Int64.ofNat (own_Rf A (own_Gf A))))), .second, .val .null, .val (.int (0 : Int32)), .val (.long (Int64.ofNat (own_Rf A ((own_Gf (A ^^^ U)) + 1)))), .second, .val (.int (1 : Int32)), .val (.long (Int64.ofNat (own_Rf A (own_Gf (A ^^^ U))))), .second, .val (.long (Int64.ofNat (own_Rf Bn (own_Gf (Bn ^^^ (own_Rf A ((own_Gf (A ^^^ U)) + 1))))))), .second, .val (.long (st + (Int64.ofNat (min (own_Rf A (own_Gf (A ^^^ U))) (own_Rf Bn (own_Gf (Bn ^^^ (own_Rf A ((own_Gf (A ^^^ U)) + 1))))))))), .second] [(.long (st + (FFo (Int32.ofNat (own_Gf (A ^^^ U))) (FNtzL ((FBit (Int32.ofNat (own_Kf A (own_Gf (A ^^^ U))))) ||| (FBit (Int32.ofNat (own_Kf Bn (own_Gf (Bn ^^^ (own_Rf A ((own_Gf (A ^^^ U)) + 1))))))))) (Int64.ofNat (own_Rf A ((own_Gf (A ^^^ U)) + 1))))))]
      rw [own_w4 hA' (own_Rlt _ hA') hg ce]
      show own_G _ _ _ _ _ _ _ _ 489 #[.val (.long p1), .second, .val (.long p2), .second, .val (.long p3), .second, .val (.long p4), .second, .val (.long p5), .second, .val (.int p6), .val (.long st), .second, .val (.long (Int64.ofNat t)), .second, .val (.long lm), .second, .val (.int (1 : Int32)), .val (.long (Int64.ofNat A)), .second, .val (.long (Int64.ofNat U)), .second, .val (.int (1 : Int32)), .val (.long (Int64.ofNat Bn)), .second, .val (.ref a2), .val (.ref a44), .val (.ref a108), .val (.int (1 : Int32)), .val (.long (st + (Int64.ofNat (own_Rf A (own_Gf A))))), .second, .val .null, .val (.int (0 : Int32)), .val (.long (Int64.ofNat (own_Rf A ((own_Gf (A ^^^ U)) + 1)))), .second, .val (.int (1 : Int32)), .val (.long (Int64.ofNat (own_Rf A (own_Gf (A ^^^ U))))), .second, .val (.long (Int64.ofNat (own_Rf Bn (own_Gf (Bn ^^^ (own_Rf A ((own_Gf (A ^^^ U)) + 1))))))), .second, .val (.long (st + (Int64.ofNat (min (own_Rf A (own_Gf (A ^^^ U))) (own_Rf Bn (own_Gf (Bn ^^^ (own_Rf A ((own_Gf (A ^^^ U)) + 1))))))))), .second] [(.long (st + (Int64.ofNat (min (own_Rf A (own_Gf (A ^^^ U))) (own_Rf Bn (own_Gf (Bn ^^^ (own_Rf A ((own_Gf (A ^^^ U)) + 1)))))))))]
      refine own_lload H rfl at_489 ?_
      refine own_lcmpne_f H at_491 at_492 rfl ?_
      refine own_iconst H (1 : Int32) (by decide) at_495 ?_
      refine own_goto H (pc' := 500) at_496 (by decide) (by decide) ?_
      exact own_ireturn H (by simp) (by decide) at_500 (by decide) (by decide) rfl
theorem own_and63 (p : Int64) : ∃ n : Nat, p &&& (9223372036854775807 : Int64) = Int64.ofNat n ∧ n < 2 ^ 63 := by
  refine ⟨p.toBitVec.toNat % 2 ^ 63, ?_, Nat.mod_lt _ (by omega)⟩
  rw [← Int64.toBitVec_inj, Int64.toBitVec_and, Int64.toBitVec_ofNat', ← BitVec.toNat_inj, BitVec.toNat_and, BitVec.toNat_ofNat]
  have e : (9223372036854775807 : Int64).toBitVec.toNat = 2 ^ 63 - 1 := by decide
  rw [e, Nat.and_two_pow_sub_one_eq_mod]
  omega
theorem own_tk (p : Int64) : ∃ t : Nat, FMaxJ (1 : Int64) (p &&& (9223372036854775807 : Int64)) = Int64.ofNat t ∧ 1 ≤ t ∧ t < 2 ^ 63 := by
  obtain ⟨n, e, h⟩ := own_and63 p
  rw [e]
  unfold FMaxJ
  have e1 : (1 : Int64) = Int64.ofNat 1 := rfl
  by_cases c : 1 < n
  · rw [if_pos (by rw [e1]; exact (own_lj (by omega) h).mpr c)]
    exact ⟨n, rfl, by omega, h⟩
  · rw [if_neg (by rw [e1]; exact fun q => c ((own_lj (by omega) h).mp q))]
    exact ⟨1, rfl, by omega, by omega⟩
theorem own_nz {z : Nat} (h1 : 1 ≤ z) (h2 : z < 2 ^ 63) : Int64.ofNat z ≠ 0 := by
  intro q
  have e0 : (0 : Int64) = Int64.ofNat 0 := rfl
  rw [e0, own_ej h2 (by omega)] at q
  omega
theorem own_subN {n m : Nat} (h : m ≤ n) : Int64.ofNat n - Int64.ofNat m = Int64.ofNat (n - m) := by
  have e : n = (n - m) + m := by omega
  rw [e, Int64.ofNat_add, Int64.add_sub_cancel]
  congr 1
  omega
theorem own_divN {n z : Nat} (hn : n < 2 ^ 63) (h1 : 1 ≤ z) (h2 : z < 2 ^ 63) : Int64.ofNat n / Int64.ofNat z = Int64.ofNat (n / z) := by
  have ez := Int64.toInt_ofNat_of_lt h2
  rw [← Int64.toInt_inj, Int64.toInt_div_of_ne_right _ _ (fun q => by
    have := congrArg Int64.toInt q
    rw [ez] at this
    have e : (-1 : Int64).toInt = -1 := by decide
    omega), Int64.toInt_ofNat_of_lt hn, ez, Int64.toInt_ofNat_of_lt (Nat.lt_of_le_of_lt (Nat.div_le_self _ _) hn)]
  exact (Int.natCast_ediv n z) ▸ Int.tdiv_eq_ediv_of_nonneg (by omega)
theorem own_rem (p : Int64) {z : Nat} (h1 : 1 ≤ z) (h2 : z < 2 ^ 63) : ∃ r : Nat, (p &&& (9223372036854775807 : Int64)) - (p &&& (9223372036854775807 : Int64)) / Int64.ofNat z * Int64.ofNat z = Int64.ofNat r ∧ r < z := by
  obtain ⟨n, e, h⟩ := own_and63 p
  refine ⟨n % z, ?_, Nat.mod_lt _ h1⟩
  rw [e, own_divN h h1 h2, ← Int64.ofNat_mul, own_subN (Nat.div_mul_le_self _ _)]
  congr 1
  have := Nat.div_add_mod n z
  rw [Nat.mul_comm] at this
  omega
theorem own_cl {U lm : Nat} (hU : U + 1 < 2 ^ 63) (hl : lm < 2 ^ 63) (c : Int64.ofNat U + (1 : Int64) < Int64.ofNat lm) : U + 1 < lm := by
  have e1 : (1 : Int64) = Int64.ofNat 1 := rfl
  rw [e1, ← Int64.ofNat_add, own_lj hU hl] at c
  exact c
theorem own_dd {U lm : Nat} (h : U + 1 < lm) (hl : lm < 2 ^ 63) : Int64.ofNat lm - Int64.ofNat U - (1 : Int64) = Int64.ofNat (lm - U - 1) := by
  have e1 : (1 : Int64) = Int64.ofNat 1 := rfl
  rw [e1, own_subN (by omega), own_subN (by omega)]
theorem own_a3 (U W : Nat) : Int64.ofNat U + (1 : Int64) + Int64.ofNat W = Int64.ofNat (U + 1 + W) := by
  have e1 : (1 : Int64) = Int64.ofNat 1 := rfl
  rw [e1, ← Int64.ofNat_add, ← Int64.ofNat_add]
theorem own_lim (p : Int64) {t : Nat} (h1 : 1 ≤ t) (h : t < 2 ^ 63) : ∃ lm : Nat, (if (0 : Int64) < p then (FMinJ (Int64.ofNat t) (((9223372036854775807 : Int64) - p) + (1 : Int64))) else (Int64.ofNat t)) = Int64.ofNat lm ∧ 1 ≤ lm ∧ lm ≤ t := by
  by_cases c : (0 : Int64) < p
  · rw [if_pos c]
    rw [Int64.lt_iff_toInt_lt] at c
    have e0 : (0 : Int64).toInt = 0 := rfl
    have eM : (9223372036854775807 : Int64).toInt = 9223372036854775807 := by decide
    have e1 : (1 : Int64).toInt = 1 := by decide
    have hp := p.toInt_lt
    have s1 : ((9223372036854775807 : Int64) - p).toInt = 9223372036854775807 - p.toInt := by
      rw [XT.sub64 ⟨by rw [eM]; omega, by rw [eM]; omega⟩, eM]
    have s2 : ((9223372036854775807 : Int64) - p) + (1 : Int64) = Int64.ofNat (9223372036854775808 - p.toInt).toNat := by
      rw [← Int64.toInt_inj, XT.add64 ⟨by rw [s1, e1]; omega, by rw [s1, e1]; omega⟩, s1, e1, Int64.toInt_ofNat_of_lt (by omega)]
      omega
    rw [s2, own_min h (by omega)]
    exact ⟨_, rfl, by omega, Nat.min_le_left _ _⟩
  · rw [if_neg c]
    exact ⟨t, rfl, h1, Nat.le_refl _⟩

theorem own_pl0 : plainFor x = true := plainFor_of_name (by first | (simp [plainName, overriddenIn]; done) | decide +kernel)
set_option maxHeartbeats 40000000 in
theorem rm0 (l : Launch) (Z : State) (a0 : Array Value) (hw : ∀ (i : Nat) (d : Jvm.Cond), tables_1[i]? = some d → d.before a0 Z = true) (ws : List Jvm.Cond) (h0 : Heap) (n0 : Nat) (p1 p2 p3 p4 p5 : Int64) (p6 : Int32) (hZ0 : n0 ≤ h0.size) :
    own_MetW l Z ws x code maxLocals ret room_1 #[(.long p1), (.long p2), (.long p3), (.long p4), (.long p5), (.int p6)] h0 n0 24 4992 (fun v h' => v = some (.int 1)) := by
  refine own_metW (Ls := #[.val (.long p1), .second, .val (.long p2), .second, .val (.long p3), .second, .val (.long p4), .second, .val (.long p5), .second, .val (.int p6), .unset, .unset, .unset, .unset, .unset, .unset, .unset, .unset, .unset, .unset, .unset, .unset, .unset, .unset, .unset, .unset, .unset, .unset, .unset, .unset, .unset, .unset, .unset, .unset, .unset, .unset, .unset, .unset, .unset, .unset, .unset]) hw own_pl0 (fun m => by first | (simp [entryFrame, mkF, argsToLocals, Value.category, maxLocals]; done) | rfl) ?_
  intro B H D
  refine own_lload_n H rfl at_0 ?_
  refine own_lstore H #[.val (.long p1), .second, .val (.long p2), .second, .val (.long p3), .second, .val (.long p4), .second, .val (.long p5), .second, .val (.int p6), .val (.long p1), .second, .unset, .unset, .unset, .unset, .unset, .unset, .unset, .unset, .unset, .unset, .unset, .unset, .unset, .unset, .unset, .unset, .unset, .unset, .unset, .unset, .unset, .unset, .unset, .unset, .unset, .unset, .unset, .unset, .unset] rfl at_1 ?_
  refine own_lconst H (1 : Int64) (by decide) at_3 ?_
  refine own_lload_n H rfl at_4 ?_
  refine own_ldc2J H (w := 0) rfl at_5 ?_
  refine own_land H rfl at_8 ?_
  refine own_invokestatic H (argsL := [(.long (1 : Int64)), (.long (p2 &&& (9223372036854775807 : Int64)))]) (rest := []) (rmMaxJ l Z a0 (own_hw H) h0 n0 (1 : Int64) (p2 &&& (9223372036854775807 : Int64))) (w1 := 1) (w2 := 2) (w3 := 3) (w4 := 4) rfl rfl rfl rfl own_pd0 rfl 0 (by decide) rfl (by decide) (Nat.le_of_eq rfl) (by decide) (by decide) (by decide) rfl at_9 ?_
  rintro _ _ ⟨rfl, rfl⟩
  show own_G _ _ _ _ _ _ _ _ 12 #[.val (.long p1), .second, .val (.long p2), .second, .val (.long p3), .second, .val (.long p4), .second, .val (.long p5), .second, .val (.int p6), .val (.long p1), .second, .unset, .unset, .unset, .unset, .unset, .unset, .unset, .unset, .unset, .unset, .unset, .unset, .unset, .unset, .unset, .unset, .unset, .unset, .unset, .unset, .unset, .unset, .unset, .unset, .unset, .unset, .unset, .unset, .unset] [(.long (FMaxJ (1 : Int64) (p2 &&& (9223372036854775807 : Int64))))]
  refine own_lstore H #[.val (.long p1), .second, .val (.long p2), .second, .val (.long p3), .second, .val (.long p4), .second, .val (.long p5), .second, .val (.int p6), .val (.long p1), .second, .val (.long (FMaxJ (1 : Int64) (p2 &&& (9223372036854775807 : Int64)))), .second, .unset, .unset, .unset, .unset, .unset, .unset, .unset, .unset, .unset, .unset, .unset, .unset, .unset, .unset, .unset, .unset, .unset, .unset, .unset, .unset, .unset, .unset, .unset, .unset, .unset, .unset, .unset] rfl at_12 ?_
  obtain ⟨t, e1, ht1, ht⟩ := own_tk p2
  rw [e1]
  show own_G _ _ _ _ _ _ _ _ 14 #[.val (.long p1), .second, .val (.long p2), .second, .val (.long p3), .second, .val (.long p4), .second, .val (.long p5), .second, .val (.int p6), .val (.long p1), .second, .val (.long (Int64.ofNat t)), .second, .unset, .unset, .unset, .unset, .unset, .unset, .unset, .unset, .unset, .unset, .unset, .unset, .unset, .unset, .unset, .unset, .unset, .unset, .unset, .unset, .unset, .unset, .unset, .unset, .unset, .unset, .unset] []
  refine own_lload H rfl at_14 ?_
  refine own_lconst H (0 : Int64) (by decide) at_16 ?_
  refine own_cut 39 #[.val (.long p1), .second, .val (.long p2), .second, .val (.long p3), .second, .val (.long p4), .second, .val (.long p5), .second, .val (.int p6), .val (.long p1), .second, .val (.long (Int64.ofNat t)), .second, .unset, .unset, .unset, .unset, .unset, .unset, .unset, .unset, .unset, .unset, .unset, .unset, .unset, .unset, .unset, .unset, .unset, .unset, .unset, .unset, .unset, .unset, .unset, .unset, .unset, .unset, .unset] [(.long (if (0 : Int64) < p1 then (FMinJ (Int64.ofNat t) (((9223372036854775807 : Int64) - p1) + (1 : Int64))) else (Int64.ofNat t)))] (fun k2 => ?_) ?_
  ·
    by_cases c1 : (0 : Int64) < p1
    ·
      refine own_lcmpgt_t H (pc' := 26) at_17 at_18 (by decide) (by decide) c1 ?_
      refine own_lload H rfl at_26 ?_
      refine own_ldc2J H (w := 0) rfl at_28 ?_
      refine own_lload H rfl at_31 ?_
      refine own_lsub H rfl at_33 ?_
      refine own_lconst H (1 : Int64) (by decide) at_34 ?_
      refine own_ladd H rfl at_35 ?_
      refine own_invokestatic H (argsL := [(.long (Int64.ofNat t)), (.long (((9223372036854775807 : Int64) - p1) + (1 : Int64)))]) (rest := []) (rmMinJ l Z a0 (own_hw H) h0 n0 (Int64.ofNat t) (((9223372036854775807 : Int64) - p1) + (1 : Int64))) (w1 := 5) (w2 := 6) (w3 := 3) (w4 := 7) rfl rfl rfl rfl own_pd0 rfl 0 (by decide) rfl (by decide) (Nat.le_of_eq rfl) (by decide) (by decide) (by decide) rfl at_36 ?_
      rintro _ _ ⟨rfl, rfl⟩
      show own_G _ _ _ _ _ _ _ _ 39 #[.val (.long p1), .second, .val (.long p2), .second, .val (.long p3), .second, .val (.long p4), .second, .val (.long p5), .second, .val (.int p6), .val (.long p1), .second, .val (.long (Int64.ofNat t)), .second, .unset, .unset, .unset, .unset, .unset, .unset, .unset, .unset, .unset, .unset, .unset, .unset, .unset, .unset, .unset, .unset, .unset, .unset, .unset, .unset, .unset, .unset, .unset, .unset, .unset, .unset, .unset] [(.long (FMinJ (Int64.ofNat t) (((9223372036854775807 : Int64) - p1) + (1 : Int64))))]
      exact own_cast (by simp only [if_pos c1]) (by simp only [if_pos c1]) k2
    ·
      refine own_lcmpgt_f H at_17 at_18 c1 ?_
      refine own_lload H rfl at_21 ?_
      refine own_goto H (pc' := 39) at_23 (by decide) (by decide) ?_
      exact own_cast (by simp only [if_neg c1]) (by simp only [if_neg c1]) k2
  refine own_lstore H #[.val (.long p1), .second, .val (.long p2), .second, .val (.long p3), .second, .val (.long p4), .second, .val (.long p5), .second, .val (.int p6), .val (.long p1), .second, .val (.long (Int64.ofNat t)), .second, .val (.long (if (0 : Int64) < p1 then (FMinJ (Int64.ofNat t) (((9223372036854775807 : Int64) - p1) + (1 : Int64))) else (Int64.ofNat t))), .second, .unset, .unset, .unset, .unset, .unset, .unset, .unset, .unset, .unset, .unset, .unset, .unset, .unset, .unset, .unset, .unset, .unset, .unset, .unset, .unset, .unset, .unset, .unset, .unset, .unset] rfl at_39 ?_
  obtain ⟨lm, e2, hl1, hlt⟩ := own_lim p1 ht1 ht
  rw [e2]
  show own_G _ _ _ _ _ _ _ _ 41 #[.val (.long p1), .second, .val (.long p2), .second, .val (.long p3), .second, .val (.long p4), .second, .val (.long p5), .second, .val (.int p6), .val (.long p1), .second, .val (.long (Int64.ofNat t)), .second, .val (.long (Int64.ofNat lm)), .second, .unset, .unset, .unset, .unset, .unset, .unset, .unset, .unset, .unset, .unset, .unset, .unset, .unset, .unset, .unset, .unset, .unset, .unset, .unset, .unset, .unset, .unset, .unset, .unset, .unset] []
  refine own_iload H rfl at_41 ?_
  refine own_iconst H (1 : Int32) (by decide) at_43 ?_
  refine own_iand H rfl at_44 ?_
  by_cases c3 : (p6 &&& (1 : Int32)) = 0
  ·
    refine own_ifeq_t H (pc' := 52) at_45 (by decide) (by decide) c3 ?_
    refine own_iconst H (0 : Int32) (by decide) at_52 ?_
    refine own_istore H #[.val (.long p1), .second, .val (.long p2), .second, .val (.long p3), .second, .val (.long p4), .second, .val (.long p5), .second, .val (.int p6), .val (.long p1), .second, .val (.long (Int64.ofNat t)), .second, .val (.long (Int64.ofNat lm)), .second, .val (.int (0 : Int32)), .unset, .unset, .unset, .unset, .unset, .unset, .unset, .unset, .unset, .unset, .unset, .unset, .unset, .unset, .unset, .unset, .unset, .unset, .unset, .unset, .unset, .unset, .unset, .unset] rfl at_53 ?_
    refine own_lload H rfl at_55 ?_
    refine own_ldc2J H (w := 0) rfl at_57 ?_
    refine own_land H rfl at_60 ?_
    refine own_lload H rfl at_61 ?_
    refine own_lrem H rfl at_63 (own_nz hl1 (by omega)) ?_
    refine own_lstore H #[.val (.long p1), .second, .val (.long p2), .second, .val (.long p3), .second, .val (.long p4), .second, .val (.long p5), .second, .val (.int p6), .val (.long p1), .second, .val (.long (Int64.ofNat t)), .second, .val (.long (Int64.ofNat lm)), .second, .val (.int (0 : Int32)), .val (.long ((p3 &&& (9223372036854775807 : Int64)) - (p3 &&& (9223372036854775807 : Int64)) / (Int64.ofNat lm) * (Int64.ofNat lm))), .second, .unset, .unset, .unset, .unset, .unset, .unset, .unset, .unset, .unset, .unset, .unset, .unset, .unset, .unset, .unset, .unset, .unset, .unset, .unset, .unset, .unset, .unset] rfl at_64 ?_
    obtain ⟨A, e18, hA⟩ := own_rem p3 (z := lm) hl1 (by omega)
    rw [e18]
    show own_G _ _ _ _ _ _ _ _ 66 #[.val (.long p1), .second, .val (.long p2), .second, .val (.long p3), .second, .val (.long p4), .second, .val (.long p5), .second, .val (.int p6), .val (.long p1), .second, .val (.long (Int64.ofNat t)), .second, .val (.long (Int64.ofNat lm)), .second, .val (.int (0 : Int32)), .val (.long (Int64.ofNat A)), .second, .unset, .unset, .unset, .unset, .unset, .unset, .unset, .unset, .unset, .unset, .unset, .unset, .unset, .unset, .unset, .unset, .unset, .unset, .unset, .unset, .unset, .unset] []
    refine own_lload H rfl at_66 ?_
    refine own_ldc2J H (w := 0) rfl at_68 ?_
    refine own_land H rfl at_71 ?_
    refine own_lload H rfl at_72 ?_
    refine own_lrem H rfl at_74 (own_nz hl1 (by omega)) ?_
    refine own_lstore H #[.val (.long p1), .second, .val (.long p2), .second, .val (.long p3), .second, .val (.long p4), .second, .val (.long p5), .second, .val (.int p6), .val (.long p1), .second, .val (.long (Int64.ofNat t)), .second, .val (.long (Int64.ofNat lm)), .second, .val (.int (0 : Int32)), .val (.long (Int64.ofNat A)), .second, .val (.long ((p4 &&& (9223372036854775807 : Int64)) - (p4 &&& (9223372036854775807 : Int64)) / (Int64.ofNat lm) * (Int64.ofNat lm))), .second, .unset, .unset, .unset, .unset, .unset, .unset, .unset, .unset, .unset, .unset, .unset, .unset, .unset, .unset, .unset, .unset, .unset, .unset, .unset, .unset] rfl at_75 ?_
    obtain ⟨U, e20, hU⟩ := own_rem p4 (z := lm) hl1 (by omega)
    rw [e20]
    show own_G _ _ _ _ _ _ _ _ 77 #[.val (.long p1), .second, .val (.long p2), .second, .val (.long p3), .second, .val (.long p4), .second, .val (.long p5), .second, .val (.int p6), .val (.long p1), .second, .val (.long (Int64.ofNat t)), .second, .val (.long (Int64.ofNat lm)), .second, .val (.int (0 : Int32)), .val (.long (Int64.ofNat A)), .second, .val (.long (Int64.ofNat U)), .second, .unset, .unset, .unset, .unset, .unset, .unset, .unset, .unset, .unset, .unset, .unset, .unset, .unset, .unset, .unset, .unset, .unset, .unset, .unset, .unset] []
    refine own_iload H rfl at_77 ?_
    refine own_iconst H (2 : Int32) (by decide) at_79 ?_
    refine own_iand H rfl at_80 ?_
    by_cases c4 : (p6 &&& (2 : Int32)) = 0
    ·
      refine own_ifeq_t H (pc' := 98) at_81 (by decide) (by decide) c4 ?_
      refine own_iconst H (0 : Int32) (by decide) at_98 ?_
      refine own_istore H #[.val (.long p1), .second, .val (.long p2), .second, .val (.long p3), .second, .val (.long p4), .second, .val (.long p5), .second, .val (.int p6), .val (.long p1), .second, .val (.long (Int64.ofNat t)), .second, .val (.long (Int64.ofNat lm)), .second, .val (.int (0 : Int32)), .val (.long (Int64.ofNat A)), .second, .val (.long (Int64.ofNat U)), .second, .val (.int (0 : Int32)), .unset, .unset, .unset, .unset, .unset, .unset, .unset, .unset, .unset, .unset, .unset, .unset, .unset, .unset, .unset, .unset, .unset, .unset, .unset] rfl at_99 ?_
      refine own_iload H rfl at_101 ?_
      refine own_ifeq_t H (pc' := 128) at_103 (by decide) (by decide) (by decide) ?_
      refine own_lconst H (0 : Int64) (by decide) at_128 ?_
      refine own_lstore H #[.val (.long p1), .second, .val (.long p2), .second, .val (.long p3), .second, .val (.long p4), .second, .val (.long p5), .second, .val (.int p6), .val (.long p1), .second, .val (.long (Int64.ofNat t)), .second, .val (.long (Int64.ofNat lm)), .second, .val (.int (0 : Int32)), .val (.long (Int64.ofNat A)), .second, .val (.long (Int64.ofNat U)), .second, .val (.int (0 : Int32)), .val (.long (0 : Int64)), .second, .unset, .unset, .unset, .unset, .unset, .unset, .unset, .unset, .unset, .unset, .unset, .unset, .unset, .unset, .unset, .unset, .unset] rfl at_129 ?_
      exact own_p2_00 H D hZ0 p1 p2 p3 p4 p5 p6 p1 (Int64.ofNat lm) t A U (own_Gf (t - 1) + 1) (own_lev ht1 ht) rfl (by have := own_G10 (D := t - 1) (by omega); omega) ht (by omega) (by omega)
    ·
      refine own_ifeq_f H at_81 c4 ?_
      refine own_lload H rfl at_84 ?_
      refine own_lconst H (1 : Int64) (by decide) at_86 ?_
      refine own_ladd H rfl at_87 ?_
      refine own_lload H rfl at_88 ?_
      by_cases c5 : ((Int64.ofNat U) + (1 : Int64)) < (Int64.ofNat lm)
      ·
        refine own_lcmpge_f H at_90 at_91 c5 ?_
        refine own_iconst H (1 : Int32) (by decide) at_94 ?_
        refine own_goto H (pc' := 99) at_95 (by decide) (by decide) ?_
        refine own_istore H #[.val (.long p1), .second, .val (.long p2), .second, .val (.long p3), .second, .val (.long p4), .second, .val (.long p5), .second, .val (.int p6), .val (.long p1), .second, .val (.long (Int64.ofNat t)), .second, .val (.long (Int64.ofNat lm)), .second, .val (.int (0 : Int32)), .val (.long (Int64.ofNat A)), .second, .val (.long (Int64.ofNat U)), .second, .val (.int (1 : Int32)), .unset, .unset, .unset, .unset, .unset, .unset, .unset, .unset, .unset, .unset, .unset, .unset, .unset, .unset, .unset, .unset, .unset, .unset, .unset] rfl at_99 ?_
        refine own_iload H rfl at_101 ?_
        refine own_ifeq_f H at_103 (by decide) ?_
        have hUl : U + 1 < lm := own_cl (by omega) (by omega) c5
        refine own_lload H rfl at_106 ?_
        refine own_lconst H (1 : Int64) (by decide) at_108 ?_
        refine own_ladd H rfl at_109 ?_
        refine own_lload H rfl at_110 ?_
        refine own_ldc2J H (w := 0) rfl at_112 ?_
        refine own_land H rfl at_115 ?_
        refine own_lload H rfl at_116 ?_
        refine own_lload H rfl at_118 ?_
        refine own_lsub H rfl at_120 ?_
        refine own_lconst H (1 : Int64) (by decide) at_121 ?_
        refine own_lsub H rfl at_122 ?_
        rw [own_dd hUl (by omega)]
        show own_G _ _ _ _ _ _ _ _ 123 #[.val (.long p1), .second, .val (.long p2), .second, .val (.long p3), .second, .val (.long p4), .second, .val (.long p5), .second, .val (.int p6), .val (.long p1), .second, .val (.long (Int64.ofNat t)), .second, .val (.long (Int64.ofNat lm)), .second, .val (.int (0 : Int32)), .val (.long (Int64.ofNat A)), .second, .val (.long (Int64.ofNat U)), .second, .val (.int (1 : Int32)), .unset, .unset, .unset, .unset, .unset, .unset, .unset, .unset, .unset, .unset, .unset, .unset, .unset, .unset, .unset, .unset, .unset, .unset, .unset] [(.long (Int64.ofNat (lm - U - 1))), (.long (p5 &&& (9223372036854775807 : Int64))), (.long ((Int64.ofNat U) + (1 : Int64)))]
        refine own_lrem H rfl at_123 (own_nz (by omega) (by omega)) ?_
        obtain ⟨W, e3, hW⟩ := own_rem p5 (z := lm - U - 1) (by omega) (by omega)
        rw [e3]
        show own_G _ _ _ _ _ _ _ _ 124 #[.val (.long p1), .second, .val (.long p2), .second, .val (.long p3), .second, .val (.long p4), .second, .val (.long p5), .second, .val (.int p6), .val (.long p1), .second, .val (.long (Int64.ofNat t)), .second, .val (.long (Int64.ofNat lm)), .second, .val (.int (0 : Int32)), .val (.long (Int64.ofNat A)), .second, .val (.long (Int64.ofNat U)), .second, .val (.int (1 : Int32)), .unset, .unset, .unset, .unset, .unset, .unset, .unset, .unset, .unset, .unset, .unset, .unset, .unset, .unset, .unset, .unset, .unset, .unset, .unset] [(.long (Int64.ofNat W)), (.long ((Int64.ofNat U) + (1 : Int64)))]
        refine own_ladd H rfl at_124 ?_
        rw [own_a3 U W]
        show own_G _ _ _ _ _ _ _ _ 125 #[.val (.long p1), .second, .val (.long p2), .second, .val (.long p3), .second, .val (.long p4), .second, .val (.long p5), .second, .val (.int p6), .val (.long p1), .second, .val (.long (Int64.ofNat t)), .second, .val (.long (Int64.ofNat lm)), .second, .val (.int (0 : Int32)), .val (.long (Int64.ofNat A)), .second, .val (.long (Int64.ofNat U)), .second, .val (.int (1 : Int32)), .unset, .unset, .unset, .unset, .unset, .unset, .unset, .unset, .unset, .unset, .unset, .unset, .unset, .unset, .unset, .unset, .unset, .unset, .unset] [(.long (Int64.ofNat (U + 1 + W)))]
        refine own_goto H (pc' := 129) at_125 (by decide) (by decide) ?_
        refine own_lstore H #[.val (.long p1), .second, .val (.long p2), .second, .val (.long p3), .second, .val (.long p4), .second, .val (.long p5), .second, .val (.int p6), .val (.long p1), .second, .val (.long (Int64.ofNat t)), .second, .val (.long (Int64.ofNat lm)), .second, .val (.int (0 : Int32)), .val (.long (Int64.ofNat A)), .second, .val (.long (Int64.ofNat U)), .second, .val (.int (1 : Int32)), .val (.long (Int64.ofNat (U + 1 + W))), .second, .unset, .unset, .unset, .unset, .unset, .unset, .unset, .unset, .unset, .unset, .unset, .unset, .unset, .unset, .unset, .unset, .unset] rfl at_129 ?_
        exact own_p2_01 H D hZ0 p1 p2 p3 p4 p5 p6 p1 (Int64.ofNat lm) t A U (U + 1 + W) (own_Gf (t - 1) + 1) (own_lev ht1 ht) rfl (by have := own_G10 (D := t - 1) (by omega); omega) ht (by omega) (by omega) (by omega) (by omega)
      ·
        refine own_lcmpge_t H (pc' := 98) at_90 at_91 (by decide) (by decide) c5 ?_
        refine own_iconst H (0 : Int32) (by decide) at_98 ?_
        refine own_istore H #[.val (.long p1), .second, .val (.long p2), .second, .val (.long p3), .second, .val (.long p4), .second, .val (.long p5), .second, .val (.int p6), .val (.long p1), .second, .val (.long (Int64.ofNat t)), .second, .val (.long (Int64.ofNat lm)), .second, .val (.int (0 : Int32)), .val (.long (Int64.ofNat A)), .second, .val (.long (Int64.ofNat U)), .second, .val (.int (0 : Int32)), .unset, .unset, .unset, .unset, .unset, .unset, .unset, .unset, .unset, .unset, .unset, .unset, .unset, .unset, .unset, .unset, .unset, .unset, .unset] rfl at_99 ?_
        refine own_iload H rfl at_101 ?_
        refine own_ifeq_t H (pc' := 128) at_103 (by decide) (by decide) (by decide) ?_
        refine own_lconst H (0 : Int64) (by decide) at_128 ?_
        refine own_lstore H #[.val (.long p1), .second, .val (.long p2), .second, .val (.long p3), .second, .val (.long p4), .second, .val (.long p5), .second, .val (.int p6), .val (.long p1), .second, .val (.long (Int64.ofNat t)), .second, .val (.long (Int64.ofNat lm)), .second, .val (.int (0 : Int32)), .val (.long (Int64.ofNat A)), .second, .val (.long (Int64.ofNat U)), .second, .val (.int (0 : Int32)), .val (.long (0 : Int64)), .second, .unset, .unset, .unset, .unset, .unset, .unset, .unset, .unset, .unset, .unset, .unset, .unset, .unset, .unset, .unset, .unset, .unset] rfl at_129 ?_
        exact own_p2_00 H D hZ0 p1 p2 p3 p4 p5 p6 p1 (Int64.ofNat lm) t A U (own_Gf (t - 1) + 1) (own_lev ht1 ht) rfl (by have := own_G10 (D := t - 1) (by omega); omega) ht (by omega) (by omega)
  ·
    refine own_ifeq_f H at_45 c3 ?_
    refine own_iconst H (1 : Int32) (by decide) at_48 ?_
    refine own_goto H (pc' := 53) at_49 (by decide) (by decide) ?_
    refine own_istore H #[.val (.long p1), .second, .val (.long p2), .second, .val (.long p3), .second, .val (.long p4), .second, .val (.long p5), .second, .val (.int p6), .val (.long p1), .second, .val (.long (Int64.ofNat t)), .second, .val (.long (Int64.ofNat lm)), .second, .val (.int (1 : Int32)), .unset, .unset, .unset, .unset, .unset, .unset, .unset, .unset, .unset, .unset, .unset, .unset, .unset, .unset, .unset, .unset, .unset, .unset, .unset, .unset, .unset, .unset, .unset, .unset] rfl at_53 ?_
    refine own_lload H rfl at_55 ?_
    refine own_ldc2J H (w := 0) rfl at_57 ?_
    refine own_land H rfl at_60 ?_
    refine own_lload H rfl at_61 ?_
    refine own_lrem H rfl at_63 (own_nz hl1 (by omega)) ?_
    refine own_lstore H #[.val (.long p1), .second, .val (.long p2), .second, .val (.long p3), .second, .val (.long p4), .second, .val (.long p5), .second, .val (.int p6), .val (.long p1), .second, .val (.long (Int64.ofNat t)), .second, .val (.long (Int64.ofNat lm)), .second, .val (.int (1 : Int32)), .val (.long ((p3 &&& (9223372036854775807 : Int64)) - (p3 &&& (9223372036854775807 : Int64)) / (Int64.ofNat lm) * (Int64.ofNat lm))), .second, .unset, .unset, .unset, .unset, .unset, .unset, .unset, .unset, .unset, .unset, .unset, .unset, .unset, .unset, .unset, .unset, .unset, .unset, .unset, .unset, .unset, .unset] rfl at_64 ?_
    obtain ⟨A, e18, hA⟩ := own_rem p3 (z := lm) hl1 (by omega)
    rw [e18]
    show own_G _ _ _ _ _ _ _ _ 66 #[.val (.long p1), .second, .val (.long p2), .second, .val (.long p3), .second, .val (.long p4), .second, .val (.long p5), .second, .val (.int p6), .val (.long p1), .second, .val (.long (Int64.ofNat t)), .second, .val (.long (Int64.ofNat lm)), .second, .val (.int (1 : Int32)), .val (.long (Int64.ofNat A)), .second, .unset, .unset, .unset, .unset, .unset, .unset, .unset, .unset, .unset, .unset, .unset, .unset, .unset, .unset, .unset, .unset, .unset, .unset, .unset, .unset, .unset, .unset] []
    refine own_lload H rfl at_66 ?_
    refine own_ldc2J H (w := 0) rfl at_68 ?_
    refine own_land H rfl at_71 ?_
    refine own_lload H rfl at_72 ?_
    refine own_lrem H rfl at_74 (own_nz hl1 (by omega)) ?_
    refine own_lstore H #[.val (.long p1), .second, .val (.long p2), .second, .val (.long p3), .second, .val (.long p4), .second, .val (.long p5), .second, .val (.int p6), .val (.long p1), .second, .val (.long (Int64.ofNat t)), .second, .val (.long (Int64.ofNat lm)), .second, .val (.int (1 : Int32)), .val (.long (Int64.ofNat A)), .second, .val (.long ((p4 &&& (9223372036854775807 : Int64)) - (p4 &&& (9223372036854775807 : Int64)) / (Int64.ofNat lm) * (Int64.ofNat lm))), .second, .unset, .unset, .unset, .unset, .unset, .unset, .unset, .unset, .unset, .unset, .unset, .unset, .unset, .unset, .unset, .unset, .unset, .unset, .unset, .unset] rfl at_75 ?_
    obtain ⟨U, e20, hU⟩ := own_rem p4 (z := lm) hl1 (by omega)
    rw [e20]
    show own_G _ _ _ _ _ _ _ _ 77 #[.val (.long p1), .second, .val (.long p2), .second, .val (.long p3), .second, .val (.long p4), .second, .val (.long p5), .second, .val (.int p6), .val (.long p1), .second, .val (.long (Int64.ofNat t)), .second, .val (.long (Int64.ofNat lm)), .second, .val (.int (1 : Int32)), .val (.long (Int64.ofNat A)), .second, .val (.long (Int64.ofNat U)), .second, .unset, .unset, .unset, .unset, .unset, .unset, .unset, .unset, .unset, .unset, .unset, .unset, .unset, .unset, .unset, .unset, .unset, .unset, .unset, .unset] []
    refine own_iload H rfl at_77 ?_
    refine own_iconst H (2 : Int32) (by decide) at_79 ?_
    refine own_iand H rfl at_80 ?_
    by_cases c6 : (p6 &&& (2 : Int32)) = 0
    ·
      refine own_ifeq_t H (pc' := 98) at_81 (by decide) (by decide) c6 ?_
      refine own_iconst H (0 : Int32) (by decide) at_98 ?_
      refine own_istore H #[.val (.long p1), .second, .val (.long p2), .second, .val (.long p3), .second, .val (.long p4), .second, .val (.long p5), .second, .val (.int p6), .val (.long p1), .second, .val (.long (Int64.ofNat t)), .second, .val (.long (Int64.ofNat lm)), .second, .val (.int (1 : Int32)), .val (.long (Int64.ofNat A)), .second, .val (.long (Int64.ofNat U)), .second, .val (.int (0 : Int32)), .unset, .unset, .unset, .unset, .unset, .unset, .unset, .unset, .unset, .unset, .unset, .unset, .unset, .unset, .unset, .unset, .unset, .unset, .unset] rfl at_99 ?_
      refine own_iload H rfl at_101 ?_
      refine own_ifeq_t H (pc' := 128) at_103 (by decide) (by decide) (by decide) ?_
      refine own_lconst H (0 : Int64) (by decide) at_128 ?_
      refine own_lstore H #[.val (.long p1), .second, .val (.long p2), .second, .val (.long p3), .second, .val (.long p4), .second, .val (.long p5), .second, .val (.int p6), .val (.long p1), .second, .val (.long (Int64.ofNat t)), .second, .val (.long (Int64.ofNat lm)), .second, .val (.int (1 : Int32)), .val (.long (Int64.ofNat A)), .second, .val (.long (Int64.ofNat U)), .second, .val (.int (0 : Int32)), .val (.long (0 : Int64)), .second, .unset, .unset, .unset, .unset, .unset, .unset, .unset, .unset, .unset, .unset, .unset, .unset, .unset, .unset, .unset, .unset, .unset] rfl at_129 ?_
      exact own_p2_10 H D hZ0 p1 p2 p3 p4 p5 p6 p1 (Int64.ofNat lm) t A U (own_Gf (t - 1) + 1) (own_lev ht1 ht) rfl (by have := own_G10 (D := t - 1) (by omega); omega) ht (by omega) (by omega)
    ·
      refine own_ifeq_f H at_81 c6 ?_
      refine own_lload H rfl at_84 ?_
      refine own_lconst H (1 : Int64) (by decide) at_86 ?_
      refine own_ladd H rfl at_87 ?_
      refine own_lload H rfl at_88 ?_
      by_cases c7 : ((Int64.ofNat U) + (1 : Int64)) < (Int64.ofNat lm)
      ·
        refine own_lcmpge_f H at_90 at_91 c7 ?_
        refine own_iconst H (1 : Int32) (by decide) at_94 ?_
        refine own_goto H (pc' := 99) at_95 (by decide) (by decide) ?_
        refine own_istore H #[.val (.long p1), .second, .val (.long p2), .second, .val (.long p3), .second, .val (.long p4), .second, .val (.long p5), .second, .val (.int p6), .val (.long p1), .second, .val (.long (Int64.ofNat t)), .second, .val (.long (Int64.ofNat lm)), .second, .val (.int (1 : Int32)), .val (.long (Int64.ofNat A)), .second, .val (.long (Int64.ofNat U)), .second, .val (.int (1 : Int32)), .unset, .unset, .unset, .unset, .unset, .unset, .unset, .unset, .unset, .unset, .unset, .unset, .unset, .unset, .unset, .unset, .unset, .unset, .unset] rfl at_99 ?_
        refine own_iload H rfl at_101 ?_
        refine own_ifeq_f H at_103 (by decide) ?_
        have hUl : U + 1 < lm := own_cl (by omega) (by omega) c7
        refine own_lload H rfl at_106 ?_
        refine own_lconst H (1 : Int64) (by decide) at_108 ?_
        refine own_ladd H rfl at_109 ?_
        refine own_lload H rfl at_110 ?_
        refine own_ldc2J H (w := 0) rfl at_112 ?_
        refine own_land H rfl at_115 ?_
        refine own_lload H rfl at_116 ?_
        refine own_lload H rfl at_118 ?_
        refine own_lsub H rfl at_120 ?_
        refine own_lconst H (1 : Int64) (by decide) at_121 ?_
        refine own_lsub H rfl at_122 ?_
        rw [own_dd hUl (by omega)]
        show own_G _ _ _ _ _ _ _ _ 123 #[.val (.long p1), .second, .val (.long p2), .second, .val (.long p3), .second, .val (.long p4), .second, .val (.long p5), .second, .val (.int p6), .val (.long p1), .second, .val (.long (Int64.ofNat t)), .second, .val (.long (Int64.ofNat lm)), .second, .val (.int (1 : Int32)), .val (.long (Int64.ofNat A)), .second, .val (.long (Int64.ofNat U)), .second, .val (.int (1 : Int32)), .unset, .unset, .unset, .unset, .unset, .unset, .unset, .unset, .unset, .unset, .unset, .unset, .unset, .unset, .unset, .unset, .unset, .unset, .unset] [(.long (Int64.ofNat (lm - U - 1))), (.long (p5 &&& (9223372036854775807 : Int64))), (.long ((Int64.ofNat U) + (1 : Int64)))]
        refine own_lrem H rfl at_123 (own_nz (by omega) (by omega)) ?_
        obtain ⟨W, e3, hW⟩ := own_rem p5 (z := lm - U - 1) (by omega) (by omega)
        rw [e3]
        show own_G _ _ _ _ _ _ _ _ 124 #[.val (.long p1), .second, .val (.long p2), .second, .val (.long p3), .second, .val (.long p4), .second, .val (.long p5), .second, .val (.int p6), .val (.long p1), .second, .val (.long (Int64.ofNat t)), .second, .val (.long (Int64.ofNat lm)), .second, .val (.int (1 : Int32)), .val (.long (Int64.ofNat A)), .second, .val (.long (Int64.ofNat U)), .second, .val (.int (1 : Int32)), .unset, .unset, .unset, .unset, .unset, .unset, .unset, .unset, .unset, .unset, .unset, .unset, .unset, .unset, .unset, .unset, .unset, .unset, .unset] [(.long (Int64.ofNat W)), (.long ((Int64.ofNat U) + (1 : Int64)))]
        refine own_ladd H rfl at_124 ?_
        rw [own_a3 U W]
        show own_G _ _ _ _ _ _ _ _ 125 #[.val (.long p1), .second, .val (.long p2), .second, .val (.long p3), .second, .val (.long p4), .second, .val (.long p5), .second, .val (.int p6), .val (.long p1), .second, .val (.long (Int64.ofNat t)), .second, .val (.long (Int64.ofNat lm)), .second, .val (.int (1 : Int32)), .val (.long (Int64.ofNat A)), .second, .val (.long (Int64.ofNat U)), .second, .val (.int (1 : Int32)), .unset, .unset, .unset, .unset, .unset, .unset, .unset, .unset, .unset, .unset, .unset, .unset, .unset, .unset, .unset, .unset, .unset, .unset, .unset] [(.long (Int64.ofNat (U + 1 + W)))]
        refine own_goto H (pc' := 129) at_125 (by decide) (by decide) ?_
        refine own_lstore H #[.val (.long p1), .second, .val (.long p2), .second, .val (.long p3), .second, .val (.long p4), .second, .val (.long p5), .second, .val (.int p6), .val (.long p1), .second, .val (.long (Int64.ofNat t)), .second, .val (.long (Int64.ofNat lm)), .second, .val (.int (1 : Int32)), .val (.long (Int64.ofNat A)), .second, .val (.long (Int64.ofNat U)), .second, .val (.int (1 : Int32)), .val (.long (Int64.ofNat (U + 1 + W))), .second, .unset, .unset, .unset, .unset, .unset, .unset, .unset, .unset, .unset, .unset, .unset, .unset, .unset, .unset, .unset, .unset, .unset] rfl at_129 ?_
        exact own_p2_11 H D hZ0 p1 p2 p3 p4 p5 p6 p1 (Int64.ofNat lm) t A U (U + 1 + W) (own_Gf (t - 1) + 1) (own_lev ht1 ht) rfl (by have := own_G10 (D := t - 1) (by omega); omega) ht (by omega) (by omega) (by omega) (by omega)
      ·
        refine own_lcmpge_t H (pc' := 98) at_90 at_91 (by decide) (by decide) c7 ?_
        refine own_iconst H (0 : Int32) (by decide) at_98 ?_
        refine own_istore H #[.val (.long p1), .second, .val (.long p2), .second, .val (.long p3), .second, .val (.long p4), .second, .val (.long p5), .second, .val (.int p6), .val (.long p1), .second, .val (.long (Int64.ofNat t)), .second, .val (.long (Int64.ofNat lm)), .second, .val (.int (1 : Int32)), .val (.long (Int64.ofNat A)), .second, .val (.long (Int64.ofNat U)), .second, .val (.int (0 : Int32)), .unset, .unset, .unset, .unset, .unset, .unset, .unset, .unset, .unset, .unset, .unset, .unset, .unset, .unset, .unset, .unset, .unset, .unset, .unset] rfl at_99 ?_
        refine own_iload H rfl at_101 ?_
        refine own_ifeq_t H (pc' := 128) at_103 (by decide) (by decide) (by decide) ?_
        refine own_lconst H (0 : Int64) (by decide) at_128 ?_
        refine own_lstore H #[.val (.long p1), .second, .val (.long p2), .second, .val (.long p3), .second, .val (.long p4), .second, .val (.long p5), .second, .val (.int p6), .val (.long p1), .second, .val (.long (Int64.ofNat t)), .second, .val (.long (Int64.ofNat lm)), .second, .val (.int (1 : Int32)), .val (.long (Int64.ofNat A)), .second, .val (.long (Int64.ofNat U)), .second, .val (.int (0 : Int32)), .val (.long (0 : Int64)), .second, .unset, .unset, .unset, .unset, .unset, .unset, .unset, .unset, .unset, .unset, .unset, .unset, .unset, .unset, .unset, .unset, .unset] rfl at_129 ?_
        exact own_p2_10 H D hZ0 p1 p2 p3 p4 p5 p6 p1 (Int64.ofNat lm) t A U (own_Gf (t - 1) + 1) (own_lev ht1 ht) rfl (by have := own_G10 (D := t - 1) (by omega); omega) ht (by omega) (by omega)
set_option maxHeartbeats 40000000 in
theorem comes_1 {Post : Tables → Env → Array Value → State → Outcome → State → Prop} (hpost : ∀ tb e args s v u, (limb_1_1.after args s (.returned v) u = true ∧ limb_1_2.after args s (.returned v) u = true ∧ True) → ReturnedEndW s (.returned v) u (Jvm.fieldLocs frame_1_writes args s ++ Jvm.arrayLocs frame_1_arrays args s ++ Jvm.staticLocs frame_1_statics s) 24 4992 → Post tb e args s (.returned v) u) :
    ArmFor flags0 classFile x code maxLocals ret World_1 tables_1 room_1 Calls_1 rest_1 Pre_1 Post := by
  intro l hfl _ _ p e ha hc hk s m args below hf hA hF happ hP
  obtain ⟨hcalls, hrest, hpre⟩ := hP
  obtain ⟨-, -, -, hnamed, -, -, -, hat⟩ := (Spec.applies_iff hf).mp happ
  obtain ⟨hg, hn⟩ := and_e (Cond.before_iff.mp (show (Jvm.Cond.and given_1 narrow_1).before args s = true from hpre))
  obtain ⟨h1, g0⟩ := and_e hg
  obtain ⟨w0, w1, w2, w3, w4, w5, rfl⟩ : ∃ w0 w1 w2 w3 w4 w5 : Value, args = #[w0, w1, w2, w3, w4, w5] := by
    have hs : args.size = 6 := by simpa [Cond.value, given_1] using h1
    obtain ⟨L⟩ := args
    match L, hs with
    | [w0, w1, w2, w3, w4, w5], _ => exact ⟨w0, w1, w2, w3, w4, w5, rfl⟩
  have hw := fun d (hd : d ∈ tables_1) => atoms_spec (ws := Jvm.Cond.code x code maxLocals ret :: tables_1) hat d (List.mem_cons_of_mem _ hd)
  have hw' : ∀ (i : Nat) (d : Jvm.Cond), tables_1[i]? = some d → d.before _ s = true := fun i d q => hw d (List.mem_of_getElem? q)
  obtain ⟨u0, g1⟩ := and_e g0
  obtain ⟨i0, e0⟩ := isL_v u0
  obtain rfl : w0 = (.long i0) := Option.some.inj e0
  obtain ⟨u1, g2⟩ := and_e g1
  obtain ⟨i1, e1⟩ := isL_v u1
  obtain rfl : w1 = (.long i1) := Option.some.inj e1
  obtain ⟨u2, g3⟩ := and_e g2
  obtain ⟨i2, e2⟩ := isL_v u2
  obtain rfl : w2 = (.long i2) := Option.some.inj e2
  obtain ⟨u3, g4⟩ := and_e g3
  obtain ⟨i3, e3⟩ := isL_v u3
  obtain rfl : w3 = (.long i3) := Option.some.inj e3
  obtain ⟨u4, g5⟩ := and_e g4
  obtain ⟨i4, e4⟩ := isL_v u4
  obtain rfl : w4 = (.long i4) := Option.some.inj e4
  obtain ⟨i5, e5⟩ := is_v g5
  obtain rfl : w5 = (.int i5) := Option.some.inj e5
  obtain ⟨n, o, h1, h2, h3, _, L, rfl, ⟨rfl, N⟩, hq⟩ := rm0 l s _ hw' tables_1 s.heap s.heap.size i0 i1 i2 i3 i4 i5 (Nat.le_refl _) p e ha hc hk s m _ below hf ((Spec.applies_iff_loose hf).mp happ).1 ⟨rfl, State.Warmed39.refl s, rfl⟩ trivial
  refine ⟨n, _, h1, h2, h3, hpost _ _ _ _ _ _ ⟨Cond.after_iff.mpr rfl, Cond.after_iff.mpr (eq_i res_at (Term.int_eval (1)) (rfl)), trivial⟩ ⟨hq.1, hq.2.1, hq.2.2.1, (hq.2.2.2.sift fun y hy => Or.inr (N y hy)).mono (by decide) (by decide)⟩⟩
theorem main_1_1 : Claimed_1_1 := comes_1 fun _ _ _ _ _ _ h hF => ⟨h.1, hF⟩
theorem main_1_2 : Claimed_1_2 := comes_1 fun _ _ _ _ _ _ h hF => ⟨h.2.1, hF⟩
end Jvm.Pilot.@@N@@
namespace Jvm.Pilot.@@N@@
open Jvm Jvm.ClassFile Sem Op Lib Jvm.Free Jvm.Stand Jvm.Pilot.@@N@@.Jvm.D
/-! MADE BY PROGRAM (witnessworld.py) out of the Statement's table words and the real class files: 22 classes; the members and pool entries that the words name. The judged class is class 1, her method 1. -/
namespace start1
open Jvm.ClassFile
def u (s : String) : CpInfo := .utf8 (stringToUtf16 s)
/-- a pool by its gaps: so many unusable entries, then the entry; so many at the end -/
def gap : Nat → List CpInfo → List CpInfo
  | 0, r => r
  | n + 1, r => .unusable :: gap n r
def poolList (es : List (Nat × CpInfo)) (last : Nat) : List CpInfo := es.foldr (fun e r => gap e.1 (e.2 :: r)) (gap last [])
def pool (es : List (Nat × CpInfo)) (last : Nat) : Array CpInfo := ⟨poolList es last⟩
def fileOf (pool : Array CpInfo) (this : Nat) (attrs : Array Attribute := #[]) (ms : Array MethodInfo := #[]) (fl : Nat := 33) (sup : Nat := 0) (ifs : Array Nat := #[]) (fds : Array FieldInfo := #[]) : ClassFile where
  minorVersion := 0
  majorVersion := 65
  constantPool := pool
  accessFlags := fl
  thisClass := this
  superClass := sup
  interfaces := ifs
  fields := fds
  methods := ms
  attributes := attrs
def plain (name : String) (sup : Option ClassId) : Class where
  name := name
  kind := .ordinary
  loader := none
  accessFlags := 33
  super := sup
  interfaces := #[]
  cf := none
  fields := #[]
  methods := #[]
  instanceTypes := #[]
  staticTypes := #[]
  resolved := #[]
  callSites := []
  init := .initialized
  statics := none
  mirror := none

def pool0 : Array CpInfo := pool [(5, u "<init>"), (0, u "()V"), (1, .class_ 10), (1, u "java/lang/Object")] 113

def k0c0 : Code := { maxStack := 0, maxLocals := 1, code := object_method_1_code, exceptionTable := #[], attributes := #[] }
def k0m0 : Method := { name := "<init>", desc := "()V", sig := { parameters := [], returnType := none }, accessFlags := 1, code := some k0c0 }
/-- java/lang/Object -/
def k0 : Class := { plain "java/lang/Object" none with
  accessFlags := 33
  interfaces := #[]
  cf := some (fileOf pool0 8 #[] #[{ accessFlags := 1, nameIndex := 5, descriptorIndex := 6, attributes := #[] }] 33 0 #[] #[])
  fields := #[]
  methods := #[k0m0]
  instanceTypes := #[]
  staticTypes := #[]
  resolved := Array.replicate 124 none
  statics := none }

def pool1 : Array CpInfo := pool [(2, .class_ 4), (1, u "java/lang/Object"), (0, u "<init>"), (0, u "()V"), (0, .long 9223372036854775807), (1, .methodref 10 11), (0, .class_ 12), (0, .nameAndType 13 14), (0, u "java/lang/Math"), (0, u "max"), (0, u "(JJ)J"), (0, .methodref 10 16), (0, .nameAndType 17 14), (0, u "min"), (0, .class_ 19), (0, u "com/example/ring_to_run/ringtorun/TickQueue"), (0, .methodref 18 21), (0, .nameAndType 5 22), (0, u "(JJ)V"), (0, .class_ 24), (0, u "com/example/ring_to_run/ringtorun/Task"), (0, .string 26), (0, u "a"), (0, .methodref 23 28), (0, .nameAndType 5 29), (0, u "(Ljava/lang/String;[BJ)V"), (0, .string 31), (0, u "b"), (0, .methodref 18 33), (0, .nameAndType 34 35), (0, u "add"), (0, u "(Lcom/example/ring_to_run/ringtorun/Task;)V"), (0, .methodref 18 37), (0, .nameAndType 38 39), (0, u "nextInstant"), (0, u "()J"), (0, .methodref 41 42), (0, .class_ 43), (0, .nameAndType 44 45), (0, u "com/example/ring_to_run/ringtorun/TickQueueNextInstantPinLaw"), (0, u "group"), (0, u "(J)I"), (0, .methodref 41 47), (0, .nameAndType 48 49), (0, u "round"), (0, u "(JI)J"), (0, .methodref 18 51), (0, .nameAndType 52 53), (0, u "poll"), (0, u "(J)Lcom/example/ring_to_run/ringtorun/Task;"), (2, u "law"), (0, u "(JJJJJI)Z")] 3

def k1m0 : Method := { name := "<init>", desc := "()V", sig := { parameters := [], returnType := none }, accessFlags := 1, code := none }
def k1c1 : Code := { maxStack := 8, maxLocals := 42, code := code, exceptionTable := #[], attributes := #[] }
def k1m1 : Method := { name := "law", desc := "(JJJJJI)Z", sig := { parameters := [.long, .long, .long, .long, .long, .int], returnType := some .boolean }, accessFlags := 9, code := some k1c1 }
def k1c2 : Code := { maxStack := 4, maxLocals := 2, code := method_3_code, exceptionTable := #[], attributes := #[] }
def k1m2 : Method := { name := "group", desc := "(J)I", sig := { parameters := [.long], returnType := some .int }, accessFlags := 10, code := some k1c2 }
def k1c3 : Code := { maxStack := 3, maxLocals := 4, code := method_4_code, exceptionTable := #[], attributes := #[] }
def k1m3 : Method := { name := "round", desc := "(JI)J", sig := { parameters := [.long, .int], returnType := some .long }, accessFlags := 10, code := some k1c3 }
/-- com/example/ring_to_run/ringtorun/TickQueueNextInstantPinLaw -/
def k1 : Class := { plain "com/example/ring_to_run/ringtorun/TickQueueNextInstantPinLaw" (some 0) with
  accessFlags := 49
  interfaces := #[]
  cf := some (fileOf pool1 41 #[] #[{ accessFlags := 1, nameIndex := 5, descriptorIndex := 6, attributes := #[] }, { accessFlags := 9, nameIndex := 56, descriptorIndex := 57, attributes := #[] }, { accessFlags := 10, nameIndex := 44, descriptorIndex := 45, attributes := #[] }, { accessFlags := 10, nameIndex := 48, descriptorIndex := 49, attributes := #[] }] 49 2 #[] #[])
  fields := #[]
  methods := #[k1m0, k1m1, k1m2, k1m3]
  instanceTypes := #[]
  staticTypes := #[]
  resolved := Array.replicate 61 none
  statics := none }

def pool2 : Array CpInfo := pool [(1, .class_ 2), (0, u "java/lang/Math"), (1, .class_ 6), (1, u "java/lang/Object"), (0, u "<init>"), (0, u "()V"), (89, .class_ 100), (1, u "java/lang/Math$RandomNumberGeneratorHolder"), (20, u "(JJ)J"), (50, u "negativeZeroFloatBits"), (0, u "J"), (2, u "negativeZeroDoubleBits"), (21, u "max"), (2, u "min"), (43, u "$assertionsDisabled"), (0, u "Z"), (88, u "(II)I"), (2, u "twoToTheDoubleScaleDown"), (0, u "D"), (4, u "twoToTheDoubleScaleUp"), (9, u "E"), (3, u "PI"), (2, u "TAU"), (2, u "DEGREES_TO_RADIANS"), (0, u "RADIANS_TO_DEGREES")] 94

def k2m0 : Method := { name := "<init>", desc := "()V", sig := { parameters := [], returnType := none }, accessFlags := 2, code := none }
def k2c1 : Code := { maxStack := 2, maxLocals := 2, code := jdk_29_method_65_code, exceptionTable := #[], attributes := #[] }
def k2m1 : Method := { name := "max", desc := "(II)I", sig := { parameters := [.int, .int], returnType := some .int }, accessFlags := 9, code := some k2c1 }
def k2c2 : Code := { maxStack := 4, maxLocals := 4, code := jdk_29_method_66_code, exceptionTable := #[], attributes := #[] }
def k2m2 : Method := { name := "max", desc := "(JJ)J", sig := { parameters := [.long, .long], returnType := some .long }, accessFlags := 9, code := some k2c2 }
def k2c3 : Code := { maxStack := 4, maxLocals := 4, code := jdk_29_method_70_code, exceptionTable := #[], attributes := #[] }
def k2m3 : Method := { name := "min", desc := "(JJ)J", sig := { parameters := [.long, .long], returnType := some .long }, accessFlags := 9, code := some k2c3 }
/-- java/lang/Math -/
def k2 : Class := { plain "java/lang/Math" (some 0) with
  accessFlags := 49
  interfaces := #[]
  cf := some (fileOf pool2 1 #[.nestMembers #[98]] #[{ accessFlags := 2, nameIndex := 7, descriptorIndex := 8, attributes := #[] }, { accessFlags := 9, nameIndex := 198, descriptorIndex := 335, attributes := #[] }, { accessFlags := 9, nameIndex := 198, descriptorIndex := 121, attributes := #[] }, { accessFlags := 9, nameIndex := 201, descriptorIndex := 121, attributes := #[] }] 49 4 #[] #[{ accessFlags := 25, nameIndex := 354, descriptorIndex := 339, attributes := #[] }, { accessFlags := 25, nameIndex := 358, descriptorIndex := 339, attributes := #[] }, { accessFlags := 25, nameIndex := 361, descriptorIndex := 339, attributes := #[] }, { accessFlags := 26, nameIndex := 364, descriptorIndex := 339, attributes := #[] }, { accessFlags := 26, nameIndex := 365, descriptorIndex := 339, attributes := #[] }, { accessFlags := 26, nameIndex := 172, descriptorIndex := 173, attributes := #[] }, { accessFlags := 26, nameIndex := 176, descriptorIndex := 173, attributes := #[] }, { accessFlags := 8, nameIndex := 344, descriptorIndex := 339, attributes := #[] }, { accessFlags := 8, nameIndex := 338, descriptorIndex := 339, attributes := #[] }, { accessFlags := 4120, nameIndex := 245, descriptorIndex := 246, attributes := #[] }])
  fields := #[{ name := "E", type := .double, accessFlags := 25, slot := 0, constantValue := 0 }, { name := "PI", type := .double, accessFlags := 25, slot := 1, constantValue := 0 }, { name := "TAU", type := .double, accessFlags := 25, slot := 2, constantValue := 0 }, { name := "DEGREES_TO_RADIANS", type := .double, accessFlags := 26, slot := 3, constantValue := 0 }, { name := "RADIANS_TO_DEGREES", type := .double, accessFlags := 26, slot := 4, constantValue := 0 }, { name := "negativeZeroFloatBits", type := .long, accessFlags := 26, slot := 5, constantValue := 0 }, { name := "negativeZeroDoubleBits", type := .long, accessFlags := 26, slot := 6, constantValue := 0 }, { name := "twoToTheDoubleScaleUp", type := .double, accessFlags := 8, slot := 7, constantValue := 0 }, { name := "twoToTheDoubleScaleDown", type := .double, accessFlags := 8, slot := 8, constantValue := 0 }, { name := "$assertionsDisabled", type := .boolean, accessFlags := 4120, slot := 9, constantValue := 0 }]
  methods := #[k2m0, k2m1, k2m2, k2m3]
  instanceTypes := #[]
  staticTypes := #[.double, .double, .double, .double, .double, .long, .long, .double, .double, .boolean]
  resolved := Array.replicate 460 none
  statics := none }

def pool3 : Array CpInfo := pool [(1, .class_ 2), (0, u "com/example/ring_to_run/ringtorun/TickQueue"), (0, .methodref 4 5), (0, .class_ 6), (0, .nameAndType 7 8), (0, u "java/lang/Object"), (0, u "<init>"), (0, u "()V"), (0, .fieldref 1 10), (0, .nameAndType 11 12), (0, u "tickMillis"), (0, u "J"), (0, .class_ 14), (0, u "java/lang/Long"), (0, .methodref 13 16), (0, .nameAndType 17 18), (0, u "numberOfLeadingZeros"), (0, u "(J)I"), (0, .methodref 20 21), (0, .class_ 22), (0, .nameAndType 23 24), (0, u "java/lang/Math"), (0, u "max"), (0, u "(II)I"), (0, .fieldref 1 26), (0, .nameAndType 27 28), (0, u "levels"), (0, u "I"), (0, .class_ 30), (0, u "com/example/ring_to_run/ringtorun/Task"), (0, .fieldref 1 32), (0, .nameAndType 33 34), (0, u "heads"), (0, u "[Lcom/example/ring_to_run/ringtorun/Task;"), (0, .fieldref 1 36), (0, .nameAndType 37 34), (0, u "tails"), (0, .fieldref 1 39), (0, .nameAndType 40 41), (0, u "occupied"), (0, u "[J"), (0, .fieldref 1 43), (0, .nameAndType 44 12), (0, u "start"), (0, .fieldref 1 46), (0, .nameAndType 47 12), (0, u "cursor"), (9, .methodref 29 58), (0, .nameAndType 59 60), (0, u "dueInstant"), (0, u "()J"), (0, .methodref 1 62), (0, .nameAndType 63 18), (0, u "bucketOf"), (0, .methodref 1 65), (0, .nameAndType 66 67), (0, u "append"), (0, u "(Lcom/example/ring_to_run/ringtorun/Task;I)V"), (0, .methodref 1 69), (0, .nameAndType 70 67), (0, u "detach"), (0, .methodref 13 72), (0, .nameAndType 73 18), (0, u "numberOfTrailingZeros"), (0, .methodref 1 75), (0, .nameAndType 76 77), (0, u "firstOffset"), (0, u "(II)J"), (0, .methodref 1 79), (0, .nameAndType 80 81), (0, u "lowestOccupiedLevel"), (0, u "()I"), (0, .methodref 1 83), (0, .nameAndType 84 85), (0, u "moveDown"), (0, u "(I)V"), (0, .long 9223372036854775807), (1, .long 63), (1, .methodref 1 91), (0, .nameAndType 92 93), (0, u "bitOf"), (0, u "(I)J"), (0, .long 18446744073709551615), (1, .fieldref 29 97), (0, .nameAndType 98 99), (0, u "next"), (0, u "Lcom/example/ring_to_run/ringtorun/Task;"), (0, .fieldref 29 101), (0, .nameAndType 102 99), (0, u "previous"), (0, u "BITS"), (2, u "WIDTH"), (1, u "INDEX_MASK"), (1, u "(JJ)V"), (8, u "add"), (0, u "(Lcom/example/ring_to_run/ringtorun/Task;)V"), (1, u "poll"), (0, u "(J)Lcom/example/ring_to_run/ringtorun/Task;"), (0, u "nextInstant")] 2

def k3c0 : Code := { maxStack := 5, maxLocals := 6, code := prog_11_method_1_code, exceptionTable := #[], attributes := #[] }
def k3m0 : Method := { name := "<init>", desc := "(JJ)V", sig := { parameters := [.long, .long], returnType := none }, accessFlags := 0, code := some k3c0 }
def k3c1 : Code := { maxStack := 7, maxLocals := 2, code := prog_11_method_5_code, exceptionTable := #[], attributes := #[] }
def k3m1 : Method := { name := "add", desc := "(Lcom/example/ring_to_run/ringtorun/Task;)V", sig := { parameters := [(.object "com/example/ring_to_run/ringtorun/Task")], returnType := none }, accessFlags := 0, code := some k3c1 }
def k3c2 : Code := { maxStack := 4, maxLocals := 9, code := prog_11_method_7_code, exceptionTable := #[], attributes := #[] }
def k3m2 : Method := { name := "poll", desc := "(J)Lcom/example/ring_to_run/ringtorun/Task;", sig := { parameters := [.long], returnType := some (.object "com/example/ring_to_run/ringtorun/Task") }, accessFlags := 0, code := some k3c2 }
def k3c3 : Code := { maxStack := 6, maxLocals := 2, code := prog_11_method_8_code, exceptionTable := #[], attributes := #[] }
def k3m3 : Method := { name := "nextInstant", desc := "()J", sig := { parameters := [], returnType := some .long }, accessFlags := 0, code := some k3c3 }
def k3c4 : Code := { maxStack := 4, maxLocals := 2, code := prog_11_method_9_code, exceptionTable := #[], attributes := #[] }
def k3m4 : Method := { name := "lowestOccupiedLevel", desc := "()I", sig := { parameters := [], returnType := some .int }, accessFlags := 2, code := some k3c4 }
def k3c5 : Code := { maxStack := 5, maxLocals := 6, code := prog_11_method_10_code, exceptionTable := #[], attributes := #[] }
def k3m5 : Method := { name := "bucketOf", desc := "(J)I", sig := { parameters := [.long], returnType := some .int }, accessFlags := 2, code := some k3c5 }
def k3c6 : Code := { maxStack := 5, maxLocals := 7, code := prog_11_method_11_code, exceptionTable := #[], attributes := #[] }
def k3m6 : Method := { name := "firstOffset", desc := "(II)J", sig := { parameters := [.int, .int], returnType := some .long }, accessFlags := 2, code := some k3c6 }
def k3c7 : Code := { maxStack := 8, maxLocals := 4, code := prog_11_method_12_code, exceptionTable := #[], attributes := #[] }
def k3m7 : Method := { name := "moveDown", desc := "(I)V", sig := { parameters := [.int], returnType := none }, accessFlags := 2, code := some k3c7 }
def k3c8 : Code := { maxStack := 4, maxLocals := 1, code := prog_11_method_13_code, exceptionTable := #[], attributes := #[] }
def k3m8 : Method := { name := "bitOf", desc := "(I)J", sig := { parameters := [.int], returnType := some .long }, accessFlags := 10, code := some k3c8 }
def k3c9 : Code := { maxStack := 6, maxLocals := 4, code := prog_11_method_14_code, exceptionTable := #[], attributes := #[] }
def k3m9 : Method := { name := "append", desc := "(Lcom/example/ring_to_run/ringtorun/Task;I)V", sig := { parameters := [(.object "com/example/ring_to_run/ringtorun/Task"), .int], returnType := none }, accessFlags := 2, code := some k3c9 }
def k3c10 : Code := { maxStack := 8, maxLocals := 3, code := prog_11_method_15_code, exceptionTable := #[], attributes := #[] }
def k3m10 : Method := { name := "detach", desc := "(Lcom/example/ring_to_run/ringtorun/Task;I)V", sig := { parameters := [(.object "com/example/ring_to_run/ringtorun/Task"), .int], returnType := none }, accessFlags := 2, code := some k3c10 }
/-- com/example/ring_to_run/ringtorun/TickQueue -/
def k3 : Class := { plain "com/example/ring_to_run/ringtorun/TickQueue" (some 0) with
  accessFlags := 48
  interfaces := #[]
  cf := some (fileOf pool3 1 #[] #[{ accessFlags := 0, nameIndex := 7, descriptorIndex := 110, attributes := #[] }, { accessFlags := 0, nameIndex := 119, descriptorIndex := 120, attributes := #[] }, { accessFlags := 0, nameIndex := 122, descriptorIndex := 123, attributes := #[] }, { accessFlags := 0, nameIndex := 124, descriptorIndex := 60, attributes := #[] }, { accessFlags := 2, nameIndex := 80, descriptorIndex := 81, attributes := #[] }, { accessFlags := 2, nameIndex := 63, descriptorIndex := 18, attributes := #[] }, { accessFlags := 2, nameIndex := 76, descriptorIndex := 77, attributes := #[] }, { accessFlags := 2, nameIndex := 84, descriptorIndex := 85, attributes := #[] }, { accessFlags := 10, nameIndex := 92, descriptorIndex := 93, attributes := #[] }, { accessFlags := 2, nameIndex := 66, descriptorIndex := 67, attributes := #[] }, { accessFlags := 2, nameIndex := 70, descriptorIndex := 67, attributes := #[] }] 48 4 #[] #[{ accessFlags := 26, nameIndex := 103, descriptorIndex := 28, attributes := #[] }, { accessFlags := 26, nameIndex := 106, descriptorIndex := 28, attributes := #[] }, { accessFlags := 26, nameIndex := 108, descriptorIndex := 28, attributes := #[] }, { accessFlags := 18, nameIndex := 11, descriptorIndex := 12, attributes := #[] }, { accessFlags := 18, nameIndex := 27, descriptorIndex := 28, attributes := #[] }, { accessFlags := 18, nameIndex := 33, descriptorIndex := 34, attributes := #[] }, { accessFlags := 18, nameIndex := 37, descriptorIndex := 34, attributes := #[] }, { accessFlags := 18, nameIndex := 40, descriptorIndex := 41, attributes := #[] }, { accessFlags := 2, nameIndex := 44, descriptorIndex := 12, attributes := #[] }, { accessFlags := 2, nameIndex := 47, descriptorIndex := 12, attributes := #[] }])
  fields := #[{ name := "BITS", type := .int, accessFlags := 26, slot := 0, constantValue := 0 }, { name := "WIDTH", type := .int, accessFlags := 26, slot := 1, constantValue := 0 }, { name := "INDEX_MASK", type := .int, accessFlags := 26, slot := 2, constantValue := 0 }, { name := "tickMillis", type := .long, accessFlags := 18, slot := 0, constantValue := 0 }, { name := "levels", type := .int, accessFlags := 18, slot := 1, constantValue := 0 }, { name := "heads", type := (.array (.object "com/example/ring_to_run/ringtorun/Task")), accessFlags := 18, slot := 2, constantValue := 0 }, { name := "tails", type := (.array (.object "com/example/ring_to_run/ringtorun/Task")), accessFlags := 18, slot := 3, constantValue := 0 }, { name := "occupied", type := (.array .long), accessFlags := 18, slot := 4, constantValue := 0 }, { name := "start", type := .long, accessFlags := 2, slot := 5, constantValue := 0 }, { name := "cursor", type := .long, accessFlags := 2, slot := 6, constantValue := 0 }]
  methods := #[k3m0, k3m1, k3m2, k3m3, k3m4, k3m5, k3m6, k3m7, k3m8, k3m9, k3m10]
  instanceTypes := #[.long, .int, (.array (.object "com/example/ring_to_run/ringtorun/Task")), (.array (.object "com/example/ring_to_run/ringtorun/Task")), (.array .long), .long, .long]
  staticTypes := #[.int, .int, .int]
  resolved := Array.replicate 127 none
  statics := none }

def pool4 : Array CpInfo := pool [(1, .class_ 2), (0, u "java/io/Serializable"), (0, .class_ 4), (0, u "java/lang/Object")] 2

/-- java/io/Serializable -/
def k4 : Class := { plain "java/io/Serializable" (some 0) with
  accessFlags := 1537
  interfaces := #[]
  cf := some (fileOf pool4 1 #[] #[] 1537 3 #[] #[])
  fields := #[]
  methods := #[]
  instanceTypes := #[]
  staticTypes := #[]
  resolved := Array.replicate 7 none
  statics := none }

def pool5 : Array CpInfo := pool [(2, .class_ 4), (1, u "java/lang/Object"), (0, u "<init>"), (0, u "()V"), (1, .class_ 10), (1, u "java/lang/Number"), (2, .class_ 14), (0, u "java/io/Serializable"), (0, u "serialVersionUID"), (0, u "J")] 20

def k5m0 : Method := { name := "<init>", desc := "()V", sig := { parameters := [], returnType := none }, accessFlags := 1, code := none }
/-- java/lang/Number -/
def k5 : Class := { plain "java/lang/Number" (some 0) with
  accessFlags := 1057
  interfaces := #[4]
  cf := some (fileOf pool5 8 #[] #[{ accessFlags := 1, nameIndex := 5, descriptorIndex := 6, attributes := #[] }] 1057 2 #[13] #[{ accessFlags := 26, nameIndex := 15, descriptorIndex := 16, attributes := #[] }])
  fields := #[{ name := "serialVersionUID", type := .long, accessFlags := 26, slot := 0, constantValue := 0 }]
  methods := #[k5m0]
  instanceTypes := #[]
  staticTypes := #[.long]
  resolved := Array.replicate 37 none
  statics := none }

def pool6 : Array CpInfo := pool [(1, .class_ 2), (0, u "java/lang/Comparable"), (0, .class_ 4), (0, u "java/lang/Object")] 7

/-- java/lang/Comparable -/
def k6 : Class := { plain "java/lang/Comparable" (some 0) with
  accessFlags := 1537
  interfaces := #[]
  cf := some (fileOf pool6 1 #[] #[] 1537 3 #[] #[])
  fields := #[]
  methods := #[]
  instanceTypes := #[]
  staticTypes := #[]
  resolved := Array.replicate 12 none
  statics := none }

def pool7 : Array CpInfo := pool [(1, .class_ 2), (0, u "java/lang/constant/Constable"), (0, .class_ 4), (0, u "java/lang/Object")] 6

/-- java/lang/constant/Constable -/
def k7 : Class := { plain "java/lang/constant/Constable" (some 0) with
  accessFlags := 1537
  interfaces := #[]
  cf := some (fileOf pool7 1 #[] #[] 1537 3 #[] #[])
  fields := #[]
  methods := #[]
  instanceTypes := #[]
  staticTypes := #[]
  resolved := Array.replicate 11 none
  statics := none }

def pool8 : Array CpInfo := pool [(1, .class_ 2), (0, u "java/lang/constant/ConstantDesc"), (0, .class_ 4), (0, u "java/lang/Object")] 32

/-- java/lang/constant/ConstantDesc -/
def k8 : Class := { plain "java/lang/constant/ConstantDesc" (some 0) with
  accessFlags := 1537
  interfaces := #[]
  cf := some (fileOf pool8 1 #[] #[] 1537 3 #[] #[])
  fields := #[]
  methods := #[]
  instanceTypes := #[]
  staticTypes := #[]
  resolved := Array.replicate 37 none
  statics := none }

def pool9 : Array CpInfo := pool [(1, .class_ 2), (0, u "java/lang/Long"), (15, .class_ 20), (1, u "java/lang/Integer"), (79, u "numberOfLeadingZeros"), (0, u "(J)I"), (133, .class_ 237), (1, u "java/lang/Long$LongCache"), (33, .class_ 272), (0, u "java/lang/Number"), (2, u "value"), (0, u "J"), (31, .methodref 18 309), (0, .nameAndType 100 310), (0, u "(I)I"), (0, .methodref 18 312), (0, .nameAndType 313 310), (0, u "numberOfTrailingZeros"), (47, u "TYPE"), (0, u "Ljava/lang/Class;"), (0, .class_ 364), (0, u "java/lang/Comparable"), (0, .class_ 366), (0, u "java/lang/constant/Constable"), (0, .class_ 368), (0, u "java/lang/constant/ConstantDesc"), (0, u "MIN_VALUE"), (1, u "MAX_VALUE"), (4, u "SIZE"), (0, u "I"), (1, u "BYTES"), (1, u "serialVersionUID")] 142

def k9c0 : Code := { maxStack := 3, maxLocals := 3, code := jdk_35_method_48_code, exceptionTable := #[], attributes := #[] }
def k9m0 : Method := { name := "numberOfLeadingZeros", desc := "(J)I", sig := { parameters := [.long], returnType := some .int }, accessFlags := 9, code := some k9c0 }
def k9c1 : Code := { maxStack := 4, maxLocals := 3, code := jdk_35_method_49_code, exceptionTable := #[], attributes := #[] }
def k9m1 : Method := { name := "numberOfTrailingZeros", desc := "(J)I", sig := { parameters := [.long], returnType := some .int }, accessFlags := 9, code := some k9c1 }
/-- java/lang/Long -/
def k9 : Class := { plain "java/lang/Long" (some 5) with
  accessFlags := 49
  interfaces := #[6, 7, 8]
  cf := some (fileOf pool9 1 #[.nestMembers #[235]] #[{ accessFlags := 9, nameIndex := 100, descriptorIndex := 101, attributes := #[] }, { accessFlags := 9, nameIndex := 313, descriptorIndex := 101, attributes := #[] }] 49 271 #[363, 365, 367] #[{ accessFlags := 25, nameIndex := 369, descriptorIndex := 276, attributes := #[] }, { accessFlags := 25, nameIndex := 371, descriptorIndex := 276, attributes := #[] }, { accessFlags := 25, nameIndex := 361, descriptorIndex := 362, attributes := #[] }, { accessFlags := 18, nameIndex := 275, descriptorIndex := 276, attributes := #[] }, { accessFlags := 25, nameIndex := 376, descriptorIndex := 377, attributes := #[] }, { accessFlags := 25, nameIndex := 379, descriptorIndex := 377, attributes := #[] }, { accessFlags := 26, nameIndex := 381, descriptorIndex := 276, attributes := #[] }])
  fields := #[{ name := "MIN_VALUE", type := .long, accessFlags := 25, slot := 0, constantValue := 0 }, { name := "MAX_VALUE", type := .long, accessFlags := 25, slot := 1, constantValue := 0 }, { name := "TYPE", type := (.object "java/lang/Class"), accessFlags := 25, slot := 2, constantValue := 0 }, { name := "value", type := .long, accessFlags := 18, slot := 0, constantValue := 0 }, { name := "SIZE", type := .int, accessFlags := 25, slot := 3, constantValue := 0 }, { name := "BYTES", type := .int, accessFlags := 25, slot := 4, constantValue := 0 }, { name := "serialVersionUID", type := .long, accessFlags := 26, slot := 5, constantValue := 0 }]
  methods := #[k9m0, k9m1]
  instanceTypes := #[.long]
  staticTypes := #[.long, .long, (.object "java/lang/Class"), .int, .int, .long]
  resolved := Array.replicate 524 none
  statics := none }

def pool10 : Array CpInfo := pool [(1, .class_ 2), (0, u "java/lang/Integer"), (16, u "digits"), (0, u "[C"), (32, u "numberOfLeadingZeros"), (0, u "(I)I"), (30, u "DigitOnes"), (0, u "[B"), (2, u "DigitTens"), (99, .class_ 190), (0, u "java/lang/Integer$IntegerCache"), (3, u "I"), (8, .class_ 204), (0, u "java/lang/Number"), (2, u "value"), (56, .integer 65536), (37, u "TYPE"), (0, u "Ljava/lang/Class;"), (0, .class_ 305), (0, u "java/lang/Comparable"), (0, .class_ 307), (0, u "java/lang/constant/Constable"), (0, .class_ 309), (0, u "java/lang/constant/ConstantDesc"), (0, u "MIN_VALUE"), (1, u "MAX_VALUE"), (3, u "SIZE"), (1, u "BYTES"), (1, u "serialVersionUID"), (0, u "J"), (84, u "numberOfTrailingZeros")] 46

def k10c0 : Code := { maxStack := 3, maxLocals := 2, code := jdk_33_method_47_code, exceptionTable := #[], attributes := #[] }
def k10m0 : Method := { name := "numberOfLeadingZeros", desc := "(I)I", sig := { parameters := [.int], returnType := some .int }, accessFlags := 9, code := some k10c0 }
def k10c1 : Code := { maxStack := 3, maxLocals := 2, code := jdk_33_method_48_code, exceptionTable := #[], attributes := #[] }
def k10m1 : Method := { name := "numberOfTrailingZeros", desc := "(I)I", sig := { parameters := [.int], returnType := some .int }, accessFlags := 9, code := some k10c1 }
/-- java/lang/Integer -/
def k10 : Class := { plain "java/lang/Integer" (some 5) with
  accessFlags := 49
  interfaces := #[6, 7, 8]
  cf := some (fileOf pool10 1 #[.nestMembers #[189]] #[{ accessFlags := 9, nameIndex := 53, descriptorIndex := 54, attributes := #[] }, { accessFlags := 9, nameIndex := 406, descriptorIndex := 54, attributes := #[] }] 49 203 #[304, 306, 308] #[{ accessFlags := 25, nameIndex := 310, descriptorIndex := 194, attributes := #[] }, { accessFlags := 25, nameIndex := 312, descriptorIndex := 194, attributes := #[] }, { accessFlags := 25, nameIndex := 302, descriptorIndex := 303, attributes := #[] }, { accessFlags := 24, nameIndex := 19, descriptorIndex := 20, attributes := #[] }, { accessFlags := 24, nameIndex := 89, descriptorIndex := 86, attributes := #[] }, { accessFlags := 24, nameIndex := 85, descriptorIndex := 86, attributes := #[] }, { accessFlags := 18, nameIndex := 207, descriptorIndex := 194, attributes := #[] }, { accessFlags := 25, nameIndex := 316, descriptorIndex := 194, attributes := #[] }, { accessFlags := 25, nameIndex := 318, descriptorIndex := 194, attributes := #[] }, { accessFlags := 26, nameIndex := 320, descriptorIndex := 321, attributes := #[] }])
  fields := #[{ name := "MIN_VALUE", type := .int, accessFlags := 25, slot := 0, constantValue := 0 }, { name := "MAX_VALUE", type := .int, accessFlags := 25, slot := 1, constantValue := 0 }, { name := "TYPE", type := (.object "java/lang/Class"), accessFlags := 25, slot := 2, constantValue := 0 }, { name := "digits", type := (.array .char), accessFlags := 24, slot := 3, constantValue := 0 }, { name := "DigitTens", type := (.array .byte), accessFlags := 24, slot := 4, constantValue := 0 }, { name := "DigitOnes", type := (.array .byte), accessFlags := 24, slot := 5, constantValue := 0 }, { name := "value", type := .int, accessFlags := 18, slot := 0, constantValue := 0 }, { name := "SIZE", type := .int, accessFlags := 25, slot := 6, constantValue := 0 }, { name := "BYTES", type := .int, accessFlags := 25, slot := 7, constantValue := 0 }, { name := "serialVersionUID", type := .long, accessFlags := 26, slot := 8, constantValue := 0 }]
  methods := #[k10m0, k10m1]
  instanceTypes := #[.int]
  staticTypes := #[.int, .int, (.object "java/lang/Class"), (.array .char), (.array .byte), (.array .byte), .int, .int, .long]
  resolved := Array.replicate 453 none
  statics := none }

def pool11 : Array CpInfo := pool [(1, .methodref 2 3), (0, .class_ 4), (0, .nameAndType 5 6), (0, u "java/lang/Object"), (0, u "<init>"), (0, u "()V"), (0, .fieldref 8 9), (0, .class_ 10), (0, .nameAndType 11 12), (0, u "com/example/ring_to_run/ringtorun/Task"), (0, u "id"), (0, u "Ljava/lang/String;"), (0, .fieldref 8 14), (0, .nameAndType 15 16), (0, u "payload"), (0, u "[B"), (0, .fieldref 8 18), (0, .nameAndType 19 20), (0, u "dueInstant"), (0, u "J"), (4, u "previous"), (0, u "Lcom/example/ring_to_run/ringtorun/Task;"), (0, u "next"), (0, u "(Ljava/lang/String;[BJ)V"), (4, u "()J")] 18

def k11c0 : Code := { maxStack := 3, maxLocals := 5, code := prog_8_method_1_code, exceptionTable := #[], attributes := #[] }
def k11m0 : Method := { name := "<init>", desc := "(Ljava/lang/String;[BJ)V", sig := { parameters := [(.object "java/lang/String"), (.array .byte), .long], returnType := none }, accessFlags := 0, code := some k11c0 }
def k11c1 : Code := { maxStack := 2, maxLocals := 1, code := prog_8_method_4_code, exceptionTable := #[], attributes := #[] }
def k11m1 : Method := { name := "dueInstant", desc := "()J", sig := { parameters := [], returnType := some .long }, accessFlags := 1, code := some k11c1 }
/-- com/example/ring_to_run/ringtorun/Task -/
def k11 : Class := { plain "com/example/ring_to_run/ringtorun/Task" (some 0) with
  accessFlags := 49
  interfaces := #[]
  cf := some (fileOf pool11 8 #[] #[{ accessFlags := 0, nameIndex := 5, descriptorIndex := 28, attributes := #[] }, { accessFlags := 1, nameIndex := 19, descriptorIndex := 33, attributes := #[] }] 49 2 #[] #[{ accessFlags := 18, nameIndex := 11, descriptorIndex := 12, attributes := #[] }, { accessFlags := 18, nameIndex := 15, descriptorIndex := 16, attributes := #[] }, { accessFlags := 18, nameIndex := 19, descriptorIndex := 20, attributes := #[] }, { accessFlags := 0, nameIndex := 25, descriptorIndex := 26, attributes := #[] }, { accessFlags := 0, nameIndex := 27, descriptorIndex := 26, attributes := #[] }])
  fields := #[{ name := "id", type := (.object "java/lang/String"), accessFlags := 18, slot := 0, constantValue := 0 }, { name := "payload", type := (.array .byte), accessFlags := 18, slot := 1, constantValue := 0 }, { name := "dueInstant", type := .long, accessFlags := 18, slot := 2, constantValue := 0 }, { name := "previous", type := (.object "com/example/ring_to_run/ringtorun/Task"), accessFlags := 0, slot := 3, constantValue := 0 }, { name := "next", type := (.object "com/example/ring_to_run/ringtorun/Task"), accessFlags := 0, slot := 4, constantValue := 0 }]
  methods := #[k11m0, k11m1]
  instanceTypes := #[(.object "java/lang/String"), (.array .byte), .long, (.object "com/example/ring_to_run/ringtorun/Task"), (.object "com/example/ring_to_run/ringtorun/Task")]
  staticTypes := #[]
  resolved := Array.replicate 52 none
  statics := none }

def pool12 : Array CpInfo := pool [(2, .class_ 4), (1, u "java/lang/CharSequence"), (42, .class_ 48), (0, u "java/lang/CharSequence$1CodePointIterator"), (10, .class_ 60), (0, u "java/lang/CharSequence$1CharIterator"), (5, .class_ 67), (0, u "java/lang/Object")] 63

/-- java/lang/CharSequence -/
def k12 : Class := { plain "java/lang/CharSequence" (some 0) with
  accessFlags := 1537
  interfaces := #[]
  cf := some (fileOf pool12 2 #[.nestMembers #[47, 59]] #[] 1537 66 #[] #[])
  fields := #[]
  methods := #[]
  instanceTypes := #[]
  staticTypes := #[]
  resolved := Array.replicate 131 none
  statics := none }

def pool13 : Array CpInfo := pool [(2, .class_ 4), (1, u "java/lang/Object"), (0, u "<init>"), (0, u "()V"), (3, .class_ 12), (1, u "java/lang/String"), (0, u "value"), (0, u "[B"), (2, u "coder"), (0, u "B"), (2, u "hash"), (0, u "I"), (2, u "hashIsZero"), (0, u "Z"), (13, u "COMPACT_STRINGS"), (534, .class_ 576), (0, u "java/lang/CharSequence"), (22, u "CASE_INSENSITIVE_ORDER"), (0, u "Ljava/util/Comparator;"), (500, u "serialPersistentFields"), (0, u "[Ljava/io/ObjectStreamField;"), (0, .class_ 1104), (0, u "java/lang/String$CaseInsensitiveComparator"), (1, .class_ 1107), (0, u "java/io/Serializable"), (0, .class_ 1109), (0, u "java/lang/Comparable"), (0, .class_ 1111), (0, u "java/lang/constant/Constable"), (0, .class_ 1113), (0, u "java/lang/constant/ConstantDesc"), (2, u "serialVersionUID"), (0, u "J"), (3, u "REPL"), (0, u "C"), (2, u "LATIN1"), (1, u "UTF16")] 323

def k13m0 : Method := { name := "<init>", desc := "()V", sig := { parameters := [], returnType := none }, accessFlags := 1, code := none }
/-- java/lang/String -/
def k13 : Class := { plain "java/lang/String" (some 0) with
  accessFlags := 49
  interfaces := #[4, 6, 12, 7, 8]
  cf := some (fileOf pool13 10 #[.nestMembers #[1103]] #[{ accessFlags := 1, nameIndex := 5, descriptorIndex := 6, attributes := #[] }] 49 2 #[1106, 1108, 575, 1110, 1112] #[{ accessFlags := 18, nameIndex := 13, descriptorIndex := 14, attributes := #[] }, { accessFlags := 18, nameIndex := 17, descriptorIndex := 18, attributes := #[] }, { accessFlags := 2, nameIndex := 21, descriptorIndex := 22, attributes := #[] }, { accessFlags := 2, nameIndex := 25, descriptorIndex := 26, attributes := #[] }, { accessFlags := 26, nameIndex := 1116, descriptorIndex := 1117, attributes := #[] }, { accessFlags := 24, nameIndex := 40, descriptorIndex := 26, attributes := #[] }, { accessFlags := 26, nameIndex := 1101, descriptorIndex := 1102, attributes := #[] }, { accessFlags := 26, nameIndex := 1121, descriptorIndex := 1122, attributes := #[] }, { accessFlags := 25, nameIndex := 599, descriptorIndex := 600, attributes := #[] }, { accessFlags := 24, nameIndex := 1125, descriptorIndex := 18, attributes := #[] }, { accessFlags := 24, nameIndex := 1127, descriptorIndex := 18, attributes := #[] }])
  fields := #[{ name := "value", type := (.array .byte), accessFlags := 18, slot := 0, constantValue := 0 }, { name := "coder", type := .byte, accessFlags := 18, slot := 1, constantValue := 0 }, { name := "hash", type := .int, accessFlags := 2, slot := 2, constantValue := 0 }, { name := "hashIsZero", type := .boolean, accessFlags := 2, slot := 3, constantValue := 0 }, { name := "serialVersionUID", type := .long, accessFlags := 26, slot := 0, constantValue := 0 }, { name := "COMPACT_STRINGS", type := .boolean, accessFlags := 24, slot := 1, constantValue := 0 }, { name := "serialPersistentFields", type := (.array (.object "java/io/ObjectStreamField")), accessFlags := 26, slot := 2, constantValue := 0 }, { name := "REPL", type := .char, accessFlags := 26, slot := 3, constantValue := 0 }, { name := "CASE_INSENSITIVE_ORDER", type := (.object "java/util/Comparator"), accessFlags := 25, slot := 4, constantValue := 0 }, { name := "LATIN1", type := .byte, accessFlags := 24, slot := 5, constantValue := 0 }, { name := "UTF16", type := .byte, accessFlags := 24, slot := 6, constantValue := 0 }]
  methods := #[k13m0]
  instanceTypes := #[(.array .byte), .byte, .int, .boolean]
  staticTypes := #[.long, .boolean, (.array (.object "java/io/ObjectStreamField")), .char, (.object "java/util/Comparator"), .byte, .byte]
  resolved := Array.replicate 1451 none
  statics := none }

def pool14 : Array CpInfo := pool [(1, u "java/lang/Cloneable"), (0, .class_ 1), (0, u "java/lang/Object"), (0, .class_ 3)] 3

/-- java/lang/Cloneable -/
def k14 : Class := { plain "java/lang/Cloneable" (some 0) with
  accessFlags := 1537
  interfaces := #[]
  cf := some (fileOf pool14 2 #[] #[] 1537 4 #[] #[])
  fields := #[]
  methods := #[]
  instanceTypes := #[]
  staticTypes := #[]
  resolved := Array.replicate 8 none
  statics := none }

/-- the primitive byte -/
def k15 : Class := { plain "byte" none with kind := .primitive 'B', accessFlags := 0x411 }
/-- [B -/
def k16 : Class := { plain "[B" (some 0) with kind := .array 15 .byte, interfaces := #[14, 4], accessFlags := 1041 }

/-- the primitive int -/
def k17 : Class := { plain "int" none with kind := .primitive 'I', accessFlags := 0x411 }
/-- [I -/
def k18 : Class := { plain "[I" (some 0) with kind := .array 17 .int, interfaces := #[14, 4], accessFlags := 1041 }

/-- the primitive long -/
def k19 : Class := { plain "long" none with kind := .primitive 'J', accessFlags := 0x411 }
/-- [J -/
def k20 : Class := { plain "[J" (some 0) with kind := .array 19 .long, interfaces := #[14, 4], accessFlags := 1041 }

/-- [Lcom/example/ring_to_run/ringtorun/Task; -/
def k21 : Class := { plain "[Lcom/example/ring_to_run/ringtorun/Task;" (some 0) with kind := .array 11 (.object "com/example/ring_to_run/ringtorun/Task"), interfaces := #[14, 4], accessFlags := 1041 }

def heap : Heap := #[]
def classes : Array Class := #[k0, k1, k2, k3, k4, k5, k6, k7, k8, k9, k10, k11, k12, k13, k14, k15, k16, k17, k18, k19, k20, k21]
def interned : List (Array UInt16 × Addr) := []
def slotsUsed : Nat := 0
def theMethod : MethodId := ⟨1, 1⟩
def args0 : Array Value := #[.long 5, .long 1000, .long 700, .long 300, .long 20, .int 3]
def aboutOver (below : List Frame) : State where
  vm := { classes := classes, interned := interned.toArray }
  heap := heap
  slotsUsed := slotsUsed
  threads := #[{ frames := .invoking theMethod args0 :: below }]
def below0 : List Frame := [.native { method := ⟨0, 0⟩, args := #[] }]
def about1 : State := aboutOver below0
def p0 : Program := .bare "" "" ""
def e0 : Env := launch0.env 0 0 0
theorem w_frames : about1.frames = Frame.invoking theMethod args0 :: below0 := rfl
set_option maxRecDepth 65536 in
theorem w_args : argsFit about1.vm theMethod args0 = true := by decide +kernel
set_option maxRecDepth 65536 in
theorem w_heap : heapFits about1 = true := by decide +kernel
set_option maxRecDepth 65536 in
theorem w_runnable : about1.curStatus? = some .runnable := by decide +kernel
set_option maxRecDepth 65536 in
theorem w_alone : about1.alone = true := by decide +kernel
set_option maxRecDepth 65536 in
theorem w_named : about1.methodNamed? x = some theMethod := by decide +kernel
set_option maxRecDepth 65536 in
theorem w_hears : about1.hears theMethod below0 = true := by decide +kernel
set_option maxRecDepth 65536 in
theorem w_ripe : about1.ripe theMethod args0 below0 = true := by decide +kernel
theorem w_running : about1.status = .running := rfl
set_option maxRecDepth 65536 in
theorem w_room : about1.hasRoom e0.platform room_1 = true :=
  launch0.hasRoom_least _ room_1 (by decide +kernel) (by decide +kernel) (by decide +kernel) (by decide +kernel) (by decide +kernel) (by decide +kernel)
theorem allAtoms_all (ts : List Jvm.Cond) (a : Array Jvm.Value) (st : Jvm.State) : (allAtoms ts).before a st = ts.all (fun c => c.before a st) := by
  induction ts with
  | nil => rfl
  | cons c t ih =>
    show (Jvm.Cond.and c (allAtoms t)).before a st = _
    rw [Jvm.Cond.before_and, ih, List.all_cons]
def words1 : List Jvm.Cond := Jvm.Cond.code x code maxLocals ret :: tables_1
/-- a 'code' word, met by the world's own term for the bytes: nothing is compared byte by byte -/
theorem code_word {y : MethodName} {bytes : ByteArray} {mx : Nat} {rt : Option FieldType} {a : Array Value} {s : State} {m : MethodId} {meth : Method} {c : Code} (h1 : s.methodNamed? y = some m) (h2 : s.vm.method? m = some meth) (h3 : meth.code = some c) (h4 : c.code = bytes)
    (h5 : (c.maxLocals == mx && c.exceptionTable.isEmpty && decide (c.maxStack ≤ mostOperands) && decide (meth.sig.returnType = rt) && !meth.locks && decide (parseMethodDescriptor y.desc = some meth.sig)) = true) : (Jvm.Cond.code y bytes mx rt).before a s = true := by
  simp only [Bool.and_eq_true, beq_iff_eq, Bool.not_eq_true', decide_eq_true_eq] at h5
  obtain ⟨⟨⟨⟨⟨g1, g2⟩, g3⟩, g4⟩, g5⟩, g6⟩ := h5
  simp [Cond.before, Cond.holds, Cond.value, h1, h2, h3, h4, g1, g2, g3, g4, g5, g6]
def isCode : Jvm.Cond → Bool
  | .code _ _ _ _ => true
  | _ => false
theorem all_split {L : List Jvm.Cond} {P : Jvm.Cond → Bool} (h1 : L.all (fun c => isCode c || P c) = true) (h2 : ∀ c ∈ L.filter isCode, P c = true) : L.all P = true := by
  refine List.all_eq_true.mpr fun c hc => ?_
  have h := List.all_eq_true.mp h1 c hc
  rcases Bool.eq_false_or_eq_true (isCode c) with hi | hi
  · exact h2 c (List.mem_filter.mpr ⟨hc, hi⟩)
  · simpa [hi] using h
set_option maxRecDepth 65536 in
theorem w_c0 : (Jvm.Cond.code x code maxLocals ret).before args0 about1 = true := code_word (m := ⟨1, 1⟩) (meth := k1m1) (c := k1c1) (by decide +kernel) rfl rfl rfl (by decide +kernel)
set_option maxRecDepth 65536 in
theorem w_c1 : (Jvm.Cond.code ({ cls := "java/lang/Math", name := "max", desc := "(JJ)J" } : Jvm.MethodName) jdk_29_method_66_code (4 : Nat) (Option.some Jvm.ClassFile.FieldType.long)).before args0 about1 = true := code_word (m := ⟨2, 2⟩) (meth := k2m2) (c := k2c2) (by decide +kernel) rfl rfl rfl (by decide +kernel)
set_option maxRecDepth 65536 in
theorem w_c2 : (Jvm.Cond.code ({ cls := "java/lang/Math", name := "min", desc := "(JJ)J" } : Jvm.MethodName) jdk_29_method_70_code (4 : Nat) (Option.some Jvm.ClassFile.FieldType.long)).before args0 about1 = true := code_word (m := ⟨2, 3⟩) (meth := k2m3) (c := k2c3) (by decide +kernel) rfl rfl rfl (by decide +kernel)
set_option maxRecDepth 65536 in
theorem w_c3 : (Jvm.Cond.code ({ cls := "com/example/ring_to_run/ringtorun/TickQueue", name := "<init>", desc := "(JJ)V" } : Jvm.MethodName) prog_11_method_1_code (6 : Nat) (Option.none : Option Jvm.ClassFile.FieldType)).before args0 about1 = true := code_word (m := ⟨3, 0⟩) (meth := k3m0) (c := k3c0) (by decide +kernel) rfl rfl rfl (by decide +kernel)
set_option maxRecDepth 65536 in
theorem w_c4 : (Jvm.Cond.code ({ cls := "java/lang/Object", name := "<init>", desc := "()V" } : Jvm.MethodName) object_method_1_code (1 : Nat) (Option.none : Option Jvm.ClassFile.FieldType)).before args0 about1 = true := code_word (m := ⟨0, 0⟩) (meth := k0m0) (c := k0c0) (by decide +kernel) rfl rfl rfl (by decide +kernel)
set_option maxRecDepth 65536 in
theorem w_c5 : (Jvm.Cond.code ({ cls := "java/lang/Long", name := "numberOfLeadingZeros", desc := "(J)I" } : Jvm.MethodName) jdk_35_method_48_code (3 : Nat) (Option.some Jvm.ClassFile.FieldType.int)).before args0 about1 = true := code_word (m := ⟨9, 0⟩) (meth := k9m0) (c := k9c0) (by decide +kernel) rfl rfl rfl (by decide +kernel)
set_option maxRecDepth 65536 in
theorem w_c6 : (Jvm.Cond.code ({ cls := "java/lang/Integer", name := "numberOfLeadingZeros", desc := "(I)I" } : Jvm.MethodName) jdk_33_method_47_code (2 : Nat) (Option.some Jvm.ClassFile.FieldType.int)).before args0 about1 = true := code_word (m := ⟨10, 0⟩) (meth := k10m0) (c := k10c0) (by decide +kernel) rfl rfl rfl (by decide +kernel)
set_option maxRecDepth 65536 in
theorem w_c7 : (Jvm.Cond.code ({ cls := "java/lang/Math", name := "max", desc := "(II)I" } : Jvm.MethodName) jdk_29_method_65_code (2 : Nat) (Option.some Jvm.ClassFile.FieldType.int)).before args0 about1 = true := code_word (m := ⟨2, 1⟩) (meth := k2m1) (c := k2c1) (by decide +kernel) rfl rfl rfl (by decide +kernel)
set_option maxRecDepth 65536 in
theorem w_c8 : (Jvm.Cond.code ({ cls := "com/example/ring_to_run/ringtorun/Task", name := "<init>", desc := "(Ljava/lang/String;[BJ)V" } : Jvm.MethodName) prog_8_method_1_code (5 : Nat) (Option.none : Option Jvm.ClassFile.FieldType)).before args0 about1 = true := code_word (m := ⟨11, 0⟩) (meth := k11m0) (c := k11c0) (by decide +kernel) rfl rfl rfl (by decide +kernel)
set_option maxRecDepth 65536 in
theorem w_c9 : (Jvm.Cond.code ({ cls := "com/example/ring_to_run/ringtorun/TickQueue", name := "nextInstant", desc := "()J" } : Jvm.MethodName) prog_11_method_8_code (2 : Nat) (Option.some Jvm.ClassFile.FieldType.long)).before args0 about1 = true := code_word (m := ⟨3, 3⟩) (meth := k3m3) (c := k3c3) (by decide +kernel) rfl rfl rfl (by decide +kernel)
set_option maxRecDepth 65536 in
theorem w_c10 : (Jvm.Cond.code ({ cls := "com/example/ring_to_run/ringtorun/TickQueue", name := "poll", desc := "(J)Lcom/example/ring_to_run/ringtorun/Task;" } : Jvm.MethodName) prog_11_method_7_code (9 : Nat) (Option.some (Jvm.ClassFile.FieldType.object "com/example/ring_to_run/ringtorun/Task"))).before args0 about1 = true := code_word (m := ⟨3, 2⟩) (meth := k3m2) (c := k3c2) (by decide +kernel) rfl rfl rfl (by decide +kernel)
set_option maxRecDepth 65536 in
theorem w_c11 : (Jvm.Cond.code ({ cls := "com/example/ring_to_run/ringtorun/TickQueue", name := "lowestOccupiedLevel", desc := "()I" } : Jvm.MethodName) prog_11_method_9_code (2 : Nat) (Option.some Jvm.ClassFile.FieldType.int)).before args0 about1 = true := code_word (m := ⟨3, 4⟩) (meth := k3m4) (c := k3c4) (by decide +kernel) rfl rfl rfl (by decide +kernel)
set_option maxRecDepth 65536 in
theorem w_c12 : (Jvm.Cond.code ({ cls := "com/example/ring_to_run/ringtorun/TickQueue", name := "add", desc := "(Lcom/example/ring_to_run/ringtorun/Task;)V" } : Jvm.MethodName) prog_11_method_5_code (2 : Nat) (Option.none : Option Jvm.ClassFile.FieldType)).before args0 about1 = true := code_word (m := ⟨3, 1⟩) (meth := k3m1) (c := k3c1) (by decide +kernel) rfl rfl rfl (by decide +kernel)
set_option maxRecDepth 65536 in
theorem w_c13 : (Jvm.Cond.code ({ cls := "com/example/ring_to_run/ringtorun/Task", name := "dueInstant", desc := "()J" } : Jvm.MethodName) prog_8_method_4_code (1 : Nat) (Option.some Jvm.ClassFile.FieldType.long)).before args0 about1 = true := code_word (m := ⟨11, 1⟩) (meth := k11m1) (c := k11c1) (by decide +kernel) rfl rfl rfl (by decide +kernel)
set_option maxRecDepth 65536 in
theorem w_c14 : (Jvm.Cond.code ({ cls := "com/example/ring_to_run/ringtorun/TickQueue", name := "bucketOf", desc := "(J)I" } : Jvm.MethodName) prog_11_method_10_code (6 : Nat) (Option.some Jvm.ClassFile.FieldType.int)).before args0 about1 = true := code_word (m := ⟨3, 5⟩) (meth := k3m5) (c := k3c5) (by decide +kernel) rfl rfl rfl (by decide +kernel)
set_option maxRecDepth 65536 in
theorem w_c15 : (Jvm.Cond.code ({ cls := "com/example/ring_to_run/ringtorun/TickQueue", name := "append", desc := "(Lcom/example/ring_to_run/ringtorun/Task;I)V" } : Jvm.MethodName) prog_11_method_14_code (4 : Nat) (Option.none : Option Jvm.ClassFile.FieldType)).before args0 about1 = true := code_word (m := ⟨3, 9⟩) (meth := k3m9) (c := k3c9) (by decide +kernel) rfl rfl rfl (by decide +kernel)
set_option maxRecDepth 65536 in
theorem w_c16 : (Jvm.Cond.code ({ cls := "com/example/ring_to_run/ringtorun/TickQueue", name := "bitOf", desc := "(I)J" } : Jvm.MethodName) prog_11_method_13_code (1 : Nat) (Option.some Jvm.ClassFile.FieldType.long)).before args0 about1 = true := code_word (m := ⟨3, 8⟩) (meth := k3m8) (c := k3c8) (by decide +kernel) rfl rfl rfl (by decide +kernel)
set_option maxRecDepth 65536 in
theorem w_c17 : (Jvm.Cond.code ({ cls := "com/example/ring_to_run/ringtorun/TickQueueNextInstantPinLaw", name := "group", desc := "(J)I" } : Jvm.MethodName) method_3_code (2 : Nat) (Option.some Jvm.ClassFile.FieldType.int)).before args0 about1 = true := code_word (m := ⟨1, 2⟩) (meth := k1m2) (c := k1c2) (by decide +kernel) rfl rfl rfl (by decide +kernel)
set_option maxRecDepth 65536 in
theorem w_c18 : (Jvm.Cond.code ({ cls := "com/example/ring_to_run/ringtorun/TickQueueNextInstantPinLaw", name := "round", desc := "(JI)J" } : Jvm.MethodName) method_4_code (4 : Nat) (Option.some Jvm.ClassFile.FieldType.long)).before args0 about1 = true := code_word (m := ⟨1, 3⟩) (meth := k1m3) (c := k1c3) (by decide +kernel) rfl rfl rfl (by decide +kernel)
set_option maxRecDepth 65536 in
theorem w_c19 : (Jvm.Cond.code ({ cls := "java/lang/Long", name := "numberOfTrailingZeros", desc := "(J)I" } : Jvm.MethodName) jdk_35_method_49_code (3 : Nat) (Option.some Jvm.ClassFile.FieldType.int)).before args0 about1 = true := code_word (m := ⟨9, 1⟩) (meth := k9m1) (c := k9c1) (by decide +kernel) rfl rfl rfl (by decide +kernel)
set_option maxRecDepth 65536 in
theorem w_c20 : (Jvm.Cond.code ({ cls := "java/lang/Integer", name := "numberOfTrailingZeros", desc := "(I)I" } : Jvm.MethodName) jdk_33_method_48_code (2 : Nat) (Option.some Jvm.ClassFile.FieldType.int)).before args0 about1 = true := code_word (m := ⟨10, 1⟩) (meth := k10m1) (c := k10c1) (by decide +kernel) rfl rfl rfl (by decide +kernel)
set_option maxRecDepth 65536 in
theorem w_c21 : (Jvm.Cond.code ({ cls := "com/example/ring_to_run/ringtorun/TickQueue", name := "firstOffset", desc := "(II)J" } : Jvm.MethodName) prog_11_method_11_code (7 : Nat) (Option.some Jvm.ClassFile.FieldType.long)).before args0 about1 = true := code_word (m := ⟨3, 6⟩) (meth := k3m6) (c := k3c6) (by decide +kernel) rfl rfl rfl (by decide +kernel)
set_option maxRecDepth 65536 in
theorem w_c22 : (Jvm.Cond.code ({ cls := "com/example/ring_to_run/ringtorun/TickQueue", name := "moveDown", desc := "(I)V" } : Jvm.MethodName) prog_11_method_12_code (4 : Nat) (Option.none : Option Jvm.ClassFile.FieldType)).before args0 about1 = true := code_word (m := ⟨3, 7⟩) (meth := k3m7) (c := k3c7) (by decide +kernel) rfl rfl rfl (by decide +kernel)
set_option maxRecDepth 65536 in
theorem w_c23 : (Jvm.Cond.code ({ cls := "com/example/ring_to_run/ringtorun/TickQueue", name := "detach", desc := "(Lcom/example/ring_to_run/ringtorun/Task;I)V" } : Jvm.MethodName) prog_11_method_15_code (3 : Nat) (Option.none : Option Jvm.ClassFile.FieldType)).before args0 about1 = true := code_word (m := ⟨3, 10⟩) (meth := k3m10) (c := k3c10) (by decide +kernel) rfl rfl rfl (by decide +kernel)
def codes1 : List Jvm.Cond := [Jvm.Cond.code x code maxLocals ret, Jvm.Cond.code ({ cls := "java/lang/Math", name := "max", desc := "(JJ)J" } : Jvm.MethodName) jdk_29_method_66_code (4 : Nat) (Option.some Jvm.ClassFile.FieldType.long), Jvm.Cond.code ({ cls := "java/lang/Math", name := "min", desc := "(JJ)J" } : Jvm.MethodName) jdk_29_method_70_code (4 : Nat) (Option.some Jvm.ClassFile.FieldType.long), Jvm.Cond.code ({ cls := "com/example/ring_to_run/ringtorun/TickQueue", name := "<init>", desc := "(JJ)V" } : Jvm.MethodName) prog_11_method_1_code (6 : Nat) (Option.none : Option Jvm.ClassFile.FieldType), Jvm.Cond.code ({ cls := "java/lang/Object", name := "<init>", desc := "()V" } : Jvm.MethodName) object_method_1_code (1 : Nat) (Option.none : Option Jvm.ClassFile.FieldType), Jvm.Cond.code ({ cls := "java/lang/Long", name := "numberOfLeadingZeros", desc := "(J)I" } : Jvm.MethodName) jdk_35_method_48_code (3 : Nat) (Option.some Jvm.ClassFile.FieldType.int), Jvm.Cond.code ({ cls := "java/lang/Integer", name := "numberOfLeadingZeros", desc := "(I)I" } : Jvm.MethodName) jdk_33_method_47_code (2 : Nat) (Option.some Jvm.ClassFile.FieldType.int), Jvm.Cond.code ({ cls := "java/lang/Math", name := "max", desc := "(II)I" } : Jvm.MethodName) jdk_29_method_65_code (2 : Nat) (Option.some Jvm.ClassFile.FieldType.int), Jvm.Cond.code ({ cls := "com/example/ring_to_run/ringtorun/Task", name := "<init>", desc := "(Ljava/lang/String;[BJ)V" } : Jvm.MethodName) prog_8_method_1_code (5 : Nat) (Option.none : Option Jvm.ClassFile.FieldType), Jvm.Cond.code ({ cls := "com/example/ring_to_run/ringtorun/TickQueue", name := "nextInstant", desc := "()J" } : Jvm.MethodName) prog_11_method_8_code (2 : Nat) (Option.some Jvm.ClassFile.FieldType.long), Jvm.Cond.code ({ cls := "com/example/ring_to_run/ringtorun/TickQueue", name := "poll", desc := "(J)Lcom/example/ring_to_run/ringtorun/Task;" } : Jvm.MethodName) prog_11_method_7_code (9 : Nat) (Option.some (Jvm.ClassFile.FieldType.object "com/example/ring_to_run/ringtorun/Task")), Jvm.Cond.code ({ cls := "com/example/ring_to_run/ringtorun/TickQueue", name := "lowestOccupiedLevel", desc := "()I" } : Jvm.MethodName) prog_11_method_9_code (2 : Nat) (Option.some Jvm.ClassFile.FieldType.int), Jvm.Cond.code ({ cls := "com/example/ring_to_run/ringtorun/TickQueue", name := "add", desc := "(Lcom/example/ring_to_run/ringtorun/Task;)V" } : Jvm.MethodName) prog_11_method_5_code (2 : Nat) (Option.none : Option Jvm.ClassFile.FieldType), Jvm.Cond.code ({ cls := "com/example/ring_to_run/ringtorun/Task", name := "dueInstant", desc := "()J" } : Jvm.MethodName) prog_8_method_4_code (1 : Nat) (Option.some Jvm.ClassFile.FieldType.long), Jvm.Cond.code ({ cls := "com/example/ring_to_run/ringtorun/TickQueue", name := "bucketOf", desc := "(J)I" } : Jvm.MethodName) prog_11_method_10_code (6 : Nat) (Option.some Jvm.ClassFile.FieldType.int), Jvm.Cond.code ({ cls := "com/example/ring_to_run/ringtorun/TickQueue", name := "append", desc := "(Lcom/example/ring_to_run/ringtorun/Task;I)V" } : Jvm.MethodName) prog_11_method_14_code (4 : Nat) (Option.none : Option Jvm.ClassFile.FieldType), Jvm.Cond.code ({ cls := "com/example/ring_to_run/ringtorun/TickQueue", name := "bitOf", desc := "(I)J" } : Jvm.MethodName) prog_11_method_13_code (1 : Nat) (Option.some Jvm.ClassFile.FieldType.long), Jvm.Cond.code ({ cls := "com/example/ring_to_run/ringtorun/TickQueueNextInstantPinLaw", name := "group", desc := "(J)I" } : Jvm.MethodName) method_3_code (2 : Nat) (Option.some Jvm.ClassFile.FieldType.int), Jvm.Cond.code ({ cls := "com/example/ring_to_run/ringtorun/TickQueueNextInstantPinLaw", name := "round", desc := "(JI)J" } : Jvm.MethodName) method_4_code (4 : Nat) (Option.some Jvm.ClassFile.FieldType.long), Jvm.Cond.code ({ cls := "java/lang/Long", name := "numberOfTrailingZeros", desc := "(J)I" } : Jvm.MethodName) jdk_35_method_49_code (3 : Nat) (Option.some Jvm.ClassFile.FieldType.int), Jvm.Cond.code ({ cls := "java/lang/Integer", name := "numberOfTrailingZeros", desc := "(I)I" } : Jvm.MethodName) jdk_33_method_48_code (2 : Nat) (Option.some Jvm.ClassFile.FieldType.int), Jvm.Cond.code ({ cls := "com/example/ring_to_run/ringtorun/TickQueue", name := "firstOffset", desc := "(II)J" } : Jvm.MethodName) prog_11_method_11_code (7 : Nat) (Option.some Jvm.ClassFile.FieldType.long), Jvm.Cond.code ({ cls := "com/example/ring_to_run/ringtorun/TickQueue", name := "moveDown", desc := "(I)V" } : Jvm.MethodName) prog_11_method_12_code (4 : Nat) (Option.none : Option Jvm.ClassFile.FieldType), Jvm.Cond.code ({ cls := "com/example/ring_to_run/ringtorun/TickQueue", name := "detach", desc := "(Lcom/example/ring_to_run/ringtorun/Task;I)V" } : Jvm.MethodName) prog_11_method_15_code (3 : Nat) (Option.none : Option Jvm.ClassFile.FieldType)]
set_option maxRecDepth 65536 in
theorem codes_eq : words1.filter isCode = codes1 := rfl
theorem w_codes : ∀ c ∈ words1.filter isCode, c.before args0 about1 = true := by
  rw [codes_eq]
  intro c hc
  simp only [codes1, List.mem_cons, List.not_mem_nil, or_false] at hc
  rcases hc with rfl | rfl | rfl | rfl | rfl | rfl | rfl | rfl | rfl | rfl | rfl | rfl | rfl | rfl | rfl | rfl | rfl | rfl | rfl | rfl | rfl | rfl | rfl | rfl
  · exact w_c0
  · exact w_c1
  · exact w_c2
  · exact w_c3
  · exact w_c4
  · exact w_c5
  · exact w_c6
  · exact w_c7
  · exact w_c8
  · exact w_c9
  · exact w_c10
  · exact w_c11
  · exact w_c12
  · exact w_c13
  · exact w_c14
  · exact w_c15
  · exact w_c16
  · exact w_c17
  · exact w_c18
  · exact w_c19
  · exact w_c20
  · exact w_c21
  · exact w_c22
  · exact w_c23
set_option maxRecDepth 65536 in
theorem w_t1 : (words1.take 24).all (fun c => isCode c || c.before args0 about1) = true := by decide +kernel
set_option maxRecDepth 65536 in
theorem w_t2 : ((words1.drop 24).take 24).all (fun c => isCode c || c.before args0 about1) = true := by decide +kernel
set_option maxRecDepth 65536 in
theorem w_t3 : (((words1.drop 24).drop 24).take 24).all (fun c => isCode c || c.before args0 about1) = true := by decide +kernel
set_option maxRecDepth 65536 in
theorem w_t4 : ((((words1.drop 24).drop 24).drop 24).take 24).all (fun c => isCode c || c.before args0 about1) = true := by decide +kernel
set_option maxRecDepth 65536 in
theorem w_t5 : (((((words1.drop 24).drop 24).drop 24).drop 24).take 24).all (fun c => isCode c || c.before args0 about1) = true := by decide +kernel
set_option maxRecDepth 65536 in
theorem w_t6 : (((((words1.drop 24).drop 24).drop 24).drop 24).drop 24).all (fun c => isCode c || c.before args0 about1) = true := by decide +kernel
theorem w_tables : (allAtoms (Jvm.Cond.code x code maxLocals ret :: tables_1)).before args0 about1 = true := by
  rw [allAtoms_all]
  show words1.all (fun c => c.before args0 about1) = true
  refine all_split ?_ w_codes
  rw [← List.take_append_drop 24 words1, List.all_append, w_t1, ← List.take_append_drop 24 (words1.drop 24), List.all_append, w_t2, ← List.take_append_drop 24 ((words1.drop 24).drop 24), List.all_append, w_t3, ← List.take_append_drop 24 (((words1.drop 24).drop 24).drop 24), List.all_append, w_t4, ← List.take_append_drop 24 ((((words1.drop 24).drop 24).drop 24).drop 24), List.all_append, w_t5, w_t6]
  rfl
set_option maxRecDepth 65536 in
theorem w_case : (Jvm.Cond.and given_1 narrow_1).before args0 about1 = true := by decide +kernel
theorem w_applies : (headSpec (Jvm.Cond.code x code maxLocals ret :: tables_1) room_1).applies x e0.platform about1 = true :=
  (Spec.applies_iff w_frames).mpr ⟨w_running, w_runnable, w_alone, w_named, w_hears, w_ripe, w_room, w_tables⟩
theorem atStart : AtStart classFile x code maxLocals ret World_1 tables_1 room_1 Calls_1 rest_1 Pre_1 launch0 p0 e0 about1 theMethod args0 below0 :=
  ⟨lists_1, trivial, launch0.admits_env _ _ _, launch0.least_env, fairChoices_fair.cas, fairChoices_fair.clock, w_frames, w_args, w_heap, w_applies, trivial, trivial, w_case⟩
end start1
theorem witness_1 : WitnessClaimed_1 := ⟨start1.p0, start1.e0, start1.about1, start1.theMethod, start1.args0, start1.below0, start1.atStart⟩
end Jvm.Pilot.@@N@@
