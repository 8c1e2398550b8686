import JvmDerived
import JvmDerived.Pilot.@@N@@Statement
import JvmDerived.Pilot.@@N@@Code
set_option linter.unusedVariables false
set_option linter.unusedSimpArgs false
set_option maxRecDepth 65536
namespace Jvm.Pilot.@@N@@
open Jvm Jvm.ClassFile Sem Op Lib Jvm.Free Jvm.Stand Jvm.LawKit Jvm.RoadKit Bundle Jvm.Pilot.@@N@@.Jvm.D

section OwnKit
/-- a walk's fixed things: program, launch, environment, room, first state, method, arguments, frames below, the method, its code -/
abbrev own_B : Type := Program × Launch × Env × Room × State × MethodId × Array Value × List Frame × Method × Code × Nat × (Outcome → State → List Loc → Nat → Nat → Prop)
def own_Ok (B : own_B) (Z : State) (a0 : Array Value) (l0 : Launch) (R0 : Room) (y : MethodName) (code : ByteArray) (N : Nat) (ret : Option FieldType) : Prop :=
  match B with
  | (p, l, e, R, s, m, args, below, meth, c, k0, P) => l = l0 ∧ R = R0 ∧ p.tables.exec = Jvm.exec ∧ Z.Warmed39 s.vm ∧ s.vm.findClass y.cls = some m.cls ∧ c.code = code ∧ c.maxLocals = N ∧ meth.sig.returnType = ret ∧ meth.locks = false ∧ meth.name = y.name ∧ (∀ (i : Nat) (d : Jvm.Cond), tables_1[i]? = some d → d.before a0 Z = true) ∧ (∀ o t L a b, k0 ≤ t.heap.size → FrameEnd s o t L a b → P o t L a b)
/-- the rest of the walk ends well -/
def own_Fin (p : Program) (e : Env) (below : List Frame) (P : Outcome → State → List Loc → Nat → Nat → Prop) (n0 : Nat) (Q : Option Value → Heap → Prop) (kc ks : Nat) (A : State) : Prop :=
  ∃ s₂ o, Steps p.tables e below A s₂ ∧ s₂.status = .running ∧ Ended s₂ below o ∧ ∃ v L, o = .returned v ∧ (Q v s₂.heap ∧ Fr n0 L) ∧ P o s₂ L kc ks
theorem own_go {p : Program} {e : Env} {below : List Frame} {P : Outcome → State → List Loc → Nat → Nat → Prop} {n0 : Nat} {Q : Option Value → Heap → Prop} {kc ks : Nat} {A A' : State} (st : ∀ t, Steps p.tables e below A' t → Steps p.tables e below A t) (k : own_Fin p e below P n0 Q kc ks A') : own_Fin p e below P n0 Q kc ks A := by
  obtain ⟨s2, o, h1, r⟩ := k
  exact ⟨s2, o, st _ h1, r⟩
/-- from this point (heap h, at most so many cells and slots made, pc, locals, stack) the walk ends in Q -/
def own_G (B : own_B) (n0 : Nat) (Q : Option Value → Heap → Prop) (kc ks cells slots : Nat) (h : Heap) (pc : Nat) (Ls : Array Slot) (st : List Value) : Prop :=
  match B with
  | (p, l, e, R, s, m, args, below, meth, c, k0, P) => ∀ (T : State) (locs : List Loc) (c1 s1 : Nat), Stand p l e R s m args below meth c T locs c1 s1 → Fr n0 locs → c1 ≤ cells → s1 ≤ slots → T.heap = h → k0 ≤ h.size → own_Fin p e below P n0 Q kc ks (T.setTop (mkF m pc Ls st))
/-- a method's contract -/
def own_Met (l : Launch) (Z : State) (ws : List Jvm.Cond) (y : MethodName) (bytes : ByteArray) (maxL : Nat) (ret : Option FieldType) (rm : Room) (as : Array Value) (h : Heap) (n0 kc ks : Nat) (Q : Option Value → Heap → Prop) : Prop :=
  MetFree l y (head1 (Jvm.Cond.code y bytes maxL ret :: ws) rm) (fun a U => a = as ∧ Z.Warmed39 U.vm ∧ U.heap = h) (fun _ _ _ _ _ => True) (fun _ U o U' => ∃ v L, o = .returned v ∧ (Q v U'.heap ∧ Fr n0 L) ∧ FrameEnd U o U' L kc ks)
/-- a callee's contract -/
abbrev own_C (l : Launch) (Z : State) (y : MethodName) (bytes : ByteArray) (maxL : Nat) (ret : Option FieldType) (rm : Room) (as : Array Value) (h : Heap) (n0 : Nat) (Q : Option Value → Heap → Prop) : Prop := own_Met l Z [] y bytes maxL ret rm as h n0 rm.cells rm.slots Q
/-- a callee that returns w and leaves the heap -/
abbrev own_P (l : Launch) (Z : State) (y : MethodName) (bytes : ByteArray) (maxL : Nat) (ret : Option FieldType) (rm : Room) (as : Array Value) (h : Heap) (n0 : Nat) (w : Value) : Prop := own_C l Z y bytes maxL ret rm as h n0 (fun v h' => v = some w ∧ h = h')
abbrev own_rm (f lo : Nat) : Room := { frames := f, cells := 0, slots := 0, locals := lo }
theorem own_met {l : Launch} {Z : State} {a0 : Array Value} {ws : List Jvm.Cond} {y : MethodName} {bytes : ByteArray} {maxL : Nat} {ret : Option FieldType} {rm : Room} {as : Array Value} {h : Heap} {n0 kc ks : Nat} {Q : Option Value → Heap → Prop} {Ls : Array Slot}
    (hw : ∀ (i : Nat) (d : Jvm.Cond), tables_1[i]? = some d → d.before a0 Z = true) (hpl : plainFor y = true) (hef : ∀ m, entryFrame m as maxL = mkF m 0 Ls [])
    (body : ∀ B : own_B, own_Ok B Z a0 l rm y bytes maxL ret → own_G B n0 Q kc ks 0 0 h 0 Ls []) : own_Met l Z ws y bytes maxL ret rm as h n0 kc ks Q := by
  refine MetFree.of_bodySF hpl hisR ?_
  intro p e s m args below meth c s₁ Bd hml0 hP hK
  obtain ⟨rfl, hZ, hh⟩ := hP
  have X0 := Stand.of_body Bd
  have e0 : s₁.heap = h := by rw [← hh, Bd.state]; rfl
  have q := body (p, l, e, rm, s, m, args, below, meth, c, 0, FrameEnd s) ⟨rfl, rfl, Bd.exec, hZ, findClass_of_methodNamed Bd.named, Bd.bytes, hml0, Bd.returns, Bd.notSynchronized, (name_of_methodNamed Bd.named Bd.method).1, hw, fun _ _ _ _ _ _ q => q⟩ s₁ [] 0 0 X0 (Fr.nil n0) (Nat.le_refl _) (Nat.le_refl _) e0 (Nat.zero_le _)
  rw [hef m]
  exact q
theorem own_grow {l : Launch} {Z : State} {ws : List Jvm.Cond} {y : MethodName} {bytes : ByteArray} {maxL : Nat} {ret : Option FieldType} {rm : Room} {as : Array Value} {h : Heap} {n0 kc ks : Nat} {Q : Option Value → Heap → Prop} (hM : own_Met l Z ws y bytes maxL ret rm as h n0 kc ks Q) :
    MetFree l y (head1 (Jvm.Cond.code y bytes maxL ret :: ws) rm) (fun a U => a = as ∧ Z.Warmed39 U.vm ∧ U.heap = h) (fun _ _ _ _ _ => True) (fun _ U o U' => ∃ v L, o = .returned v ∧ ((Q v U'.heap ∧ Fr n0 L) ∧ h.size ≤ U'.heap.size) ∧ FrameEnd U o U' L kc ks) := by
  intro p e ha hc hk s m args below hf happ hP hK
  obtain ⟨n, o, h1, h2, h3, v, L, e1, e2, e3⟩ := hM p e ha hc hk s m args below hf happ hP hK
  refine ⟨n, o, h1, h2, h3, v, L, e1, ⟨e2, ?_⟩, e3⟩
  have q := e3.2.2.2.1
  rw [← hP.2.2]
  exact q
/-- the wide contract: String constants may have been resolved -/
def own_MetW (l : Launch) (Z : State) (ws : List Jvm.Cond) (y : MethodName) (bytes : ByteArray) (maxL : Nat) (ret : Option FieldType) (rm : Room) (as : Array Value) (h : Heap) (n0 kc ks : Nat) (Q : Option Value → Heap → Prop) : Prop :=
  MetFree l y (head1 (Jvm.Cond.code y bytes maxL ret :: ws) rm) (fun a U => a = as ∧ Z.Warmed39 U.vm ∧ U.heap = h) (fun _ _ _ _ _ => True) (fun _ U o U' => ∃ v L, o = .returned v ∧ (Q v U'.heap ∧ Fr n0 L) ∧ ReturnedEndW U o U' L kc ks)
abbrev own_CW (l : Launch) (Z : State) (y : MethodName) (bytes : ByteArray) (maxL : Nat) (ret : Option FieldType) (rm : Room) (as : Array Value) (h : Heap) (n0 : Nat) (Q : Option Value → Heap → Prop) : Prop := own_MetW l Z [] y bytes maxL ret rm as h n0 rm.cells rm.slots Q
/-- the walk's first state is a re-based one, and its end is said of the true start -/
def own_Wd (B : own_B) : Prop :=
  match B with
  | (p, l, e, R, s, m, args, below, meth, c, k0, P) => ∃ (s0 : State) (vm0 : Vm), P = ReturnedEndW s0 ∧ s = s0.setVm vm0 ∧ s0.Since vm0 k0
theorem own_metW {l : Launch} {Z : State} {a0 : Array Value} {ws : List Jvm.Cond} {y : MethodName} {bytes : ByteArray} {maxL : Nat} {ret : Option FieldType} {rm : Room} {as : Array Value} {h : Heap} {n0 kc ks : Nat} {Q : Option Value → Heap → Prop} {Ls : Array Slot}
    (hw : ∀ (i : Nat) (d : Jvm.Cond), tables_1[i]? = some d → d.before a0 Z = true) (hpl : plainFor y = true) (hef : ∀ m, entryFrame m as maxL = mkF m 0 Ls [])
    (body : ∀ B : own_B, own_Ok B Z a0 l rm y bytes maxL ret → own_Wd B → own_G B n0 Q kc ks 0 0 h 0 Ls []) : own_MetW l Z ws y bytes maxL ret rm as h n0 kc ks Q := by
  refine MetFree.of_bodySF hpl hisR ?_
  intro p e s m args below meth c s₁ Bd hml0 hP hK
  obtain ⟨rfl, hZ, hh⟩ := hP
  have X0 := Stand.of_body Bd
  have e0 : s₁.heap = h := by rw [← hh, Bd.state]; rfl
  have q := body (p, l, e, rm, s, m, args, below, meth, c, 0, ReturnedEndW s) ⟨rfl, rfl, Bd.exec, hZ, findClass_of_methodNamed Bd.named, Bd.bytes, hml0, Bd.returns, Bd.notSynchronized, (name_of_methodNamed Bd.named Bd.method).1, hw, fun _ _ _ _ _ _ q => ReturnedEndW.of_narrow q.1 q.2.1 q.2.2⟩ ⟨s, s.vm, rfl, rfl, (State.WarmedH.refl s).since 0⟩ s₁ [] 0 0 X0 (Fr.nil n0) (Nat.le_refl _) (Nat.le_refl _) e0 (Nat.zero_le _)
  rw [hef m]
  exact q
theorem own_pe {s0 : State} {vm1 : Vm} {k1 : Nat} (hS : s0.Since vm1 k1) : ∀ o t L a b, k1 ≤ t.heap.size → FrameEnd (s0.setVm vm1) o t L a b → ReturnedEndW s0 o t L a b := fun o t L a b hk q => by
  obtain ⟨w1, w2, w3⟩ := hS.ended q.2.1 hk q.2.2
  exact ⟨q.1, w1, w2, w3⟩
section Laws
variable {B : own_B} {Z : State} {a0 : Array Value} {l : Launch} {R : Room} {y : MethodName} {code : ByteArray} {N : Nat} {ret : Option FieldType} {n0 : Nat} {Q : Option Value → Heap → Prop} {kc ks cells slots : Nat} {h : Heap} {pc pc' : Nat} {Ls Ls' : Array Slot} {st : List Value}
theorem own_mono {cells' slots' : Nat} (hc : cells ≤ cells') (hs : slots ≤ slots') (k : own_G B n0 Q kc ks cells' slots' h pc Ls st) : own_G B n0 Q kc ks cells slots h pc Ls st := by
  obtain ⟨p, l, e, R, s, m, args, below, meth, c, k0, P⟩ := B
  intro T locs c1 s1 X F q1 q2 eT hk
  exact k T locs c1 s1 X F (Nat.le_trans q1 hc) (Nat.le_trans q2 hs) eT hk
theorem own_cut (pc' : Nat) (Ls' : Array Slot) (st' : List Value) (f : own_G B n0 Q kc ks cells slots h pc' Ls' st' → own_G B n0 Q kc ks cells slots h pc Ls st) (k : own_G B n0 Q kc ks cells slots h pc' Ls' st') : own_G B n0 Q kc ks cells slots h pc Ls st := f k
theorem own_cast {Ls' : Array Slot} {st' : List Value} (hL : Ls = Ls') (hS : st = st') (k : own_G B n0 Q kc ks cells slots h pc Ls' st') : own_G B n0 Q kc ks cells slots h pc Ls st := by
  subst hL hS
  exact k
theorem own_w (H : own_Ok B Z a0 l R y code N ret) {i : Nat} {d : Jvm.Cond} (q : tables_1[i]? = some d) : d.before a0 Z = true := by
  obtain ⟨p, l, e, R, s, m, args, below, meth, c, k0, P⟩ := B
  exact H.2.2.2.2.2.2.2.2.2.2.1 i d q
theorem own_hw (H : own_Ok B Z a0 l R y code N ret) : ∀ (i : Nat) (d : Jvm.Cond), tables_1[i]? = some d → d.before a0 Z = true := by
  obtain ⟨p, l, e, R, s, m, args, below, meth, c, k0, P⟩ := B
  exact H.2.2.2.2.2.2.2.2.2.2.1
theorem own_iadd (H : own_Ok B Z a0 l R y code N ret) {x z v : Int32} (hv : x + z = v) (hd : decode code pc = .ok (.iadd, 1)) (k : own_G B n0 Q kc ks cells slots h (pc + 1) Ls (.int v :: st)) : own_G B n0 Q kc ks cells slots h pc Ls (.int z :: .int x :: st) := by
  subst hv
  obtain ⟨p, l, e, R, s, m, args, below, meth, c, k0, P⟩ := B
  obtain ⟨rfl, rfl, hx, hZ, hown, hby, hml, hrt, hlk, hnm, hw, hPe⟩ := H
  intro T locs c1 s1 X F hc hs eT hk
  exact own_go (fun t q => XS.iadd X.here hx rfl (hb hby hd) rfl q) (k T locs c1 s1 X F hc hs eT hk)
theorem own_isub (H : own_Ok B Z a0 l R y code N ret) {x z v : Int32} (hv : x - z = v) (hd : decode code pc = .ok (.isub, 1)) (k : own_G B n0 Q kc ks cells slots h (pc + 1) Ls (.int v :: st)) : own_G B n0 Q kc ks cells slots h pc Ls (.int z :: .int x :: st) := by
  subst hv
  obtain ⟨p, l, e, R, s, m, args, below, meth, c, k0, P⟩ := B
  obtain ⟨rfl, rfl, hx, hZ, hown, hby, hml, hrt, hlk, hnm, hw, hPe⟩ := H
  intro T locs c1 s1 X F hc hs eT hk
  exact own_go (fun t q => XS.isub X.here hx rfl (hb hby hd) rfl q) (k T locs c1 s1 X F hc hs eT hk)
theorem own_imul (H : own_Ok B Z a0 l R y code N ret) {x z v : Int32} (hv : x * z = v) (hd : decode code pc = .ok (.imul, 1)) (k : own_G B n0 Q kc ks cells slots h (pc + 1) Ls (.int v :: st)) : own_G B n0 Q kc ks cells slots h pc Ls (.int z :: .int x :: st) := by
  subst hv
  obtain ⟨p, l, e, R, s, m, args, below, meth, c, k0, P⟩ := B
  obtain ⟨rfl, rfl, hx, hZ, hown, hby, hml, hrt, hlk, hnm, hw, hPe⟩ := H
  intro T locs c1 s1 X F hc hs eT hk
  exact own_go (fun t q => XS.imul X.here hx rfl (hb hby hd) rfl q) (k T locs c1 s1 X F hc hs eT hk)
theorem own_iand (H : own_Ok B Z a0 l R y code N ret) {x z v : Int32} (hv : x &&& z = v) (hd : decode code pc = .ok (.iand, 1)) (k : own_G B n0 Q kc ks cells slots h (pc + 1) Ls (.int v :: st)) : own_G B n0 Q kc ks cells slots h pc Ls (.int z :: .int x :: st) := by
  subst hv
  obtain ⟨p, l, e, R, s, m, args, below, meth, c, k0, P⟩ := B
  obtain ⟨rfl, rfl, hx, hZ, hown, hby, hml, hrt, hlk, hnm, hw, hPe⟩ := H
  intro T locs c1 s1 X F hc hs eT hk
  exact own_go (fun t q => XS.iand X.here hx rfl (hb hby hd) rfl q) (k T locs c1 s1 X F hc hs eT hk)
theorem own_ior (H : own_Ok B Z a0 l R y code N ret) {x z v : Int32} (hv : x ||| z = v) (hd : decode code pc = .ok (.ior, 1)) (k : own_G B n0 Q kc ks cells slots h (pc + 1) Ls (.int v :: st)) : own_G B n0 Q kc ks cells slots h pc Ls (.int z :: .int x :: st) := by
  subst hv
  obtain ⟨p, l, e, R, s, m, args, below, meth, c, k0, P⟩ := B
  obtain ⟨rfl, rfl, hx, hZ, hown, hby, hml, hrt, hlk, hnm, hw, hPe⟩ := H
  intro T locs c1 s1 X F hc hs eT hk
  exact own_go (fun t q => XT.ior X.here hx rfl (hb hby hd) rfl q) (k T locs c1 s1 X F hc hs eT hk)
theorem own_ixor (H : own_Ok B Z a0 l R y code N ret) {x z v : Int32} (hv : x ^^^ z = v) (hd : decode code pc = .ok (.ixor, 1)) (k : own_G B n0 Q kc ks cells slots h (pc + 1) Ls (.int v :: st)) : own_G B n0 Q kc ks cells slots h pc Ls (.int z :: .int x :: st) := by
  subst hv
  obtain ⟨p, l, e, R, s, m, args, below, meth, c, k0, P⟩ := B
  obtain ⟨rfl, rfl, hx, hZ, hown, hby, hml, hrt, hlk, hnm, hw, hPe⟩ := H
  intro T locs c1 s1 X F hc hs eT hk
  exact own_go (fun t q => XT.ixor X.here hx rfl (hb hby hd) rfl q) (k T locs c1 s1 X F hc hs eT hk)
theorem own_ishl (H : own_Ok B Z a0 l R y code N ret) {x z v : Int32} (hv : x <<< (z &&& 31) = v) (hd : decode code pc = .ok (.ishl, 1)) (k : own_G B n0 Q kc ks cells slots h (pc + 1) Ls (.int v :: st)) : own_G B n0 Q kc ks cells slots h pc Ls (.int z :: .int x :: st) := by
  subst hv
  obtain ⟨p, l, e, R, s, m, args, below, meth, c, k0, P⟩ := B
  obtain ⟨rfl, rfl, hx, hZ, hown, hby, hml, hrt, hlk, hnm, hw, hPe⟩ := H
  intro T locs c1 s1 X F hc hs eT hk
  exact own_go (fun t q => XT.ishl X.here hx rfl (hb hby hd) rfl q) (k T locs c1 s1 X F hc hs eT hk)
theorem own_ishr (H : own_Ok B Z a0 l R y code N ret) {x z v : Int32} (hv : x >>> (z &&& 31) = v) (hd : decode code pc = .ok (.ishr, 1)) (k : own_G B n0 Q kc ks cells slots h (pc + 1) Ls (.int v :: st)) : own_G B n0 Q kc ks cells slots h pc Ls (.int z :: .int x :: st) := by
  subst hv
  obtain ⟨p, l, e, R, s, m, args, below, meth, c, k0, P⟩ := B
  obtain ⟨rfl, rfl, hx, hZ, hown, hby, hml, hrt, hlk, hnm, hw, hPe⟩ := H
  intro T locs c1 s1 X F hc hs eT hk
  exact own_go (fun t q => XT.ishr X.here hx rfl (hb hby hd) rfl q) (k T locs c1 s1 X F hc hs eT hk)
theorem own_iushr (H : own_Ok B Z a0 l R y code N ret) {x z v : Int32} (hv : XT.ushr x z = v) (hd : decode code pc = .ok (.iushr, 1)) (k : own_G B n0 Q kc ks cells slots h (pc + 1) Ls (.int v :: st)) : own_G B n0 Q kc ks cells slots h pc Ls (.int z :: .int x :: st) := by
  subst hv
  obtain ⟨p, l, e, R, s, m, args, below, meth, c, k0, P⟩ := B
  obtain ⟨rfl, rfl, hx, hZ, hown, hby, hml, hrt, hlk, hnm, hw, hPe⟩ := H
  intro T locs c1 s1 X F hc hs eT hk
  exact own_go (fun t q => XT.iushr X.here hx rfl (hb hby hd) rfl q) (k T locs c1 s1 X F hc hs eT hk)
theorem own_ladd (H : own_Ok B Z a0 l R y code N ret) {x z v : Int64} (hv : x + z = v) (hd : decode code pc = .ok (.ladd, 1)) (k : own_G B n0 Q kc ks cells slots h (pc + 1) Ls (.long v :: st)) : own_G B n0 Q kc ks cells slots h pc Ls (.long z :: .long x :: st) := by
  subst hv
  obtain ⟨p, l, e, R, s, m, args, below, meth, c, k0, P⟩ := B
  obtain ⟨rfl, rfl, hx, hZ, hown, hby, hml, hrt, hlk, hnm, hw, hPe⟩ := H
  intro T locs c1 s1 X F hc hs eT hk
  exact own_go (fun t q => XT.ladd X.here hx rfl (hb hby hd) rfl q) (k T locs c1 s1 X F hc hs eT hk)
theorem own_lsub (H : own_Ok B Z a0 l R y code N ret) {x z v : Int64} (hv : x - z = v) (hd : decode code pc = .ok (.lsub, 1)) (k : own_G B n0 Q kc ks cells slots h (pc + 1) Ls (.long v :: st)) : own_G B n0 Q kc ks cells slots h pc Ls (.long z :: .long x :: st) := by
  subst hv
  obtain ⟨p, l, e, R, s, m, args, below, meth, c, k0, P⟩ := B
  obtain ⟨rfl, rfl, hx, hZ, hown, hby, hml, hrt, hlk, hnm, hw, hPe⟩ := H
  intro T locs c1 s1 X F hc hs eT hk
  exact own_go (fun t q => XT.lsub X.here hx rfl (hb hby hd) rfl q) (k T locs c1 s1 X F hc hs eT hk)
theorem own_lmul (H : own_Ok B Z a0 l R y code N ret) {x z v : Int64} (hv : x * z = v) (hd : decode code pc = .ok (.lmul, 1)) (k : own_G B n0 Q kc ks cells slots h (pc + 1) Ls (.long v :: st)) : own_G B n0 Q kc ks cells slots h pc Ls (.long z :: .long x :: st) := by
  subst hv
  obtain ⟨p, l, e, R, s, m, args, below, meth, c, k0, P⟩ := B
  obtain ⟨rfl, rfl, hx, hZ, hown, hby, hml, hrt, hlk, hnm, hw, hPe⟩ := H
  intro T locs c1 s1 X F hc hs eT hk
  exact own_go (fun t q => XT.lmul X.here hx rfl (hb hby hd) rfl q) (k T locs c1 s1 X F hc hs eT hk)
theorem own_land (H : own_Ok B Z a0 l R y code N ret) {x z v : Int64} (hv : x &&& z = v) (hd : decode code pc = .ok (.land, 1)) (k : own_G B n0 Q kc ks cells slots h (pc + 1) Ls (.long v :: st)) : own_G B n0 Q kc ks cells slots h pc Ls (.long z :: .long x :: st) := by
  subst hv
  obtain ⟨p, l, e, R, s, m, args, below, meth, c, k0, P⟩ := B
  obtain ⟨rfl, rfl, hx, hZ, hown, hby, hml, hrt, hlk, hnm, hw, hPe⟩ := H
  intro T locs c1 s1 X F hc hs eT hk
  exact own_go (fun t q => XT.land X.here hx rfl (hb hby hd) rfl q) (k T locs c1 s1 X F hc hs eT hk)
theorem own_lor (H : own_Ok B Z a0 l R y code N ret) {x z v : Int64} (hv : x ||| z = v) (hd : decode code pc = .ok (.lor, 1)) (k : own_G B n0 Q kc ks cells slots h (pc + 1) Ls (.long v :: st)) : own_G B n0 Q kc ks cells slots h pc Ls (.long z :: .long x :: st) := by
  subst hv
  obtain ⟨p, l, e, R, s, m, args, below, meth, c, k0, P⟩ := B
  obtain ⟨rfl, rfl, hx, hZ, hown, hby, hml, hrt, hlk, hnm, hw, hPe⟩ := H
  intro T locs c1 s1 X F hc hs eT hk
  exact own_go (fun t q => XT.lor X.here hx rfl (hb hby hd) rfl q) (k T locs c1 s1 X F hc hs eT hk)
theorem own_lxor (H : own_Ok B Z a0 l R y code N ret) {x z v : Int64} (hv : x ^^^ z = v) (hd : decode code pc = .ok (.lxor, 1)) (k : own_G B n0 Q kc ks cells slots h (pc + 1) Ls (.long v :: st)) : own_G B n0 Q kc ks cells slots h pc Ls (.long z :: .long x :: st) := by
  subst hv
  obtain ⟨p, l, e, R, s, m, args, below, meth, c, k0, P⟩ := B
  obtain ⟨rfl, rfl, hx, hZ, hown, hby, hml, hrt, hlk, hnm, hw, hPe⟩ := H
  intro T locs c1 s1 X F hc hs eT hk
  exact own_go (fun t q => XT.lxor X.here hx rfl (hb hby hd) rfl q) (k T locs c1 s1 X F hc hs eT hk)
theorem own_idiv (H : own_Ok B Z a0 l R y code N ret) {x z v : Int32} (hv : x / z = v) (hd : decode code pc = .ok (.idiv, 1)) (hz : z ≠ 0) (k : own_G B n0 Q kc ks cells slots h (pc + 1) Ls (.int v :: st)) : own_G B n0 Q kc ks cells slots h pc Ls (.int z :: .int x :: st) := by
  subst hv
  obtain ⟨p, l, e, R, s, m, args, below, meth, c, k0, P⟩ := B
  obtain ⟨rfl, rfl, hx, hZ, hown, hby, hml, hrt, hlk, hnm, hw, hPe⟩ := H
  intro T locs c1 s1 X F hc hs eT hk
  exact own_go (fun t q => XS.idiv X.here hx rfl (hb hby hd) rfl hz q) (k T locs c1 s1 X F hc hs eT hk)
theorem own_irem (H : own_Ok B Z a0 l R y code N ret) {x z v : Int32} (hv : x % z = v) (hd : decode code pc = .ok (.irem, 1)) (hz : z ≠ 0) (k : own_G B n0 Q kc ks cells slots h (pc + 1) Ls (.int v :: st)) : own_G B n0 Q kc ks cells slots h pc Ls (.int z :: .int x :: st) := by
  subst hv
  obtain ⟨p, l, e, R, s, m, args, below, meth, c, k0, P⟩ := B
  obtain ⟨rfl, rfl, hx, hZ, hown, hby, hml, hrt, hlk, hnm, hw, hPe⟩ := H
  intro T locs c1 s1 X F hc hs eT hk
  exact own_go (fun t q => iremM X hx rfl (hb hby hd) rfl hz q) (k T locs c1 s1 X F hc hs eT hk)
theorem own_ldiv (H : own_Ok B Z a0 l R y code N ret) {x z v : Int64} (hv : x / z = v) (hd : decode code pc = .ok (.ldiv, 1)) (hz : z ≠ 0) (k : own_G B n0 Q kc ks cells slots h (pc + 1) Ls (.long v :: st)) : own_G B n0 Q kc ks cells slots h pc Ls (.long z :: .long x :: st) := by
  subst hv
  obtain ⟨p, l, e, R, s, m, args, below, meth, c, k0, P⟩ := B
  obtain ⟨rfl, rfl, hx, hZ, hown, hby, hml, hrt, hlk, hnm, hw, hPe⟩ := H
  intro T locs c1 s1 X F hc hs eT hk
  exact own_go (fun t q => XT.ldiv X.here hx rfl (hb hby hd) rfl hz q) (k T locs c1 s1 X F hc hs eT hk)
theorem own_lrem (H : own_Ok B Z a0 l R y code N ret) {x z v : Int64} (hv : x - x / z * z = v) (hd : decode code pc = .ok (.lrem, 1)) (hz : z ≠ 0) (k : own_G B n0 Q kc ks cells slots h (pc + 1) Ls (.long v :: st)) : own_G B n0 Q kc ks cells slots h pc Ls (.long z :: .long x :: st) := by
  subst hv
  obtain ⟨p, l, e, R, s, m, args, below, meth, c, k0, P⟩ := B
  obtain ⟨rfl, rfl, hx, hZ, hown, hby, hml, hrt, hlk, hnm, hw, hPe⟩ := H
  intro T locs c1 s1 X F hc hs eT hk
  exact own_go (fun t q => XT.lrem X.here hx rfl (hb hby hd) rfl hz q) (k T locs c1 s1 X F hc hs eT hk)
theorem own_lshl (H : own_Ok B Z a0 l R y code N ret) {x v : Int64} {z : Int32} (hv : x <<< (z.toInt64 &&& 63) = v) (hd : decode code pc = .ok (.lshl, 1)) (k : own_G B n0 Q kc ks cells slots h (pc + 1) Ls (.long v :: st)) : own_G B n0 Q kc ks cells slots h pc Ls (.int z :: .long x :: st) := by
  subst hv
  obtain ⟨p, l, e, R, s, m, args, below, meth, c, k0, P⟩ := B
  obtain ⟨rfl, rfl, hx, hZ, hown, hby, hml, hrt, hlk, hnm, hw, hPe⟩ := H
  intro T locs c1 s1 X F hc hs eT hk
  exact own_go (fun t q => XT.lshl X.here hx rfl (hb hby hd) rfl q) (k T locs c1 s1 X F hc hs eT hk)
theorem own_lshr (H : own_Ok B Z a0 l R y code N ret) {x v : Int64} {z : Int32} (hv : x >>> (z.toInt64 &&& 63) = v) (hd : decode code pc = .ok (.lshr, 1)) (k : own_G B n0 Q kc ks cells slots h (pc + 1) Ls (.long v :: st)) : own_G B n0 Q kc ks cells slots h pc Ls (.int z :: .long x :: st) := by
  subst hv
  obtain ⟨p, l, e, R, s, m, args, below, meth, c, k0, P⟩ := B
  obtain ⟨rfl, rfl, hx, hZ, hown, hby, hml, hrt, hlk, hnm, hw, hPe⟩ := H
  intro T locs c1 s1 X F hc hs eT hk
  exact own_go (fun t q => XT.lshr X.here hx rfl (hb hby hd) rfl q) (k T locs c1 s1 X F hc hs eT hk)
theorem own_lushr (H : own_Ok B Z a0 l R y code N ret) {x v : Int64} {z : Int32} (hv : XT.ushrL x z = v) (hd : decode code pc = .ok (.lushr, 1)) (k : own_G B n0 Q kc ks cells slots h (pc + 1) Ls (.long v :: st)) : own_G B n0 Q kc ks cells slots h pc Ls (.int z :: .long x :: st) := by
  subst hv
  obtain ⟨p, l, e, R, s, m, args, below, meth, c, k0, P⟩ := B
  obtain ⟨rfl, rfl, hx, hZ, hown, hby, hml, hrt, hlk, hnm, hw, hPe⟩ := H
  intro T locs c1 s1 X F hc hs eT hk
  exact own_go (fun t q => XT.lushr X.here hx rfl (hb hby hd) rfl q) (k T locs c1 s1 X F hc hs eT hk)
theorem own_ineg (H : own_Ok B Z a0 l R y code N ret) {x : Int32} {v : Int32} (hv : -x = v) (hd : decode code pc = .ok (.ineg, 1)) (k : own_G B n0 Q kc ks cells slots h (pc + 1) Ls (.int v :: st)) : own_G B n0 Q kc ks cells slots h pc Ls (.int x :: st) := by
  subst hv
  obtain ⟨p, l, e, R, s, m, args, below, meth, c, k0, P⟩ := B
  obtain ⟨rfl, rfl, hx, hZ, hown, hby, hml, hrt, hlk, hnm, hw, hPe⟩ := H
  intro T locs c1 s1 X F hc hs eT hk
  exact own_go (fun t q => XS.ineg X.here hx rfl (hb hby hd) rfl q) (k T locs c1 s1 X F hc hs eT hk)
theorem own_lneg (H : own_Ok B Z a0 l R y code N ret) {x : Int64} {v : Int64} (hv : -x = v) (hd : decode code pc = .ok (.lneg, 1)) (k : own_G B n0 Q kc ks cells slots h (pc + 1) Ls (.long v :: st)) : own_G B n0 Q kc ks cells slots h pc Ls (.long x :: st) := by
  subst hv
  obtain ⟨p, l, e, R, s, m, args, below, meth, c, k0, P⟩ := B
  obtain ⟨rfl, rfl, hx, hZ, hown, hby, hml, hrt, hlk, hnm, hw, hPe⟩ := H
  intro T locs c1 s1 X F hc hs eT hk
  exact own_go (fun t q => XT.lneg X.here hx rfl (hb hby hd) rfl q) (k T locs c1 s1 X F hc hs eT hk)
theorem own_i2l (H : own_Ok B Z a0 l R y code N ret) {x : Int32} {v : Int64} (hv : x.toInt64 = v) (hd : decode code pc = .ok (.i2l, 1)) (k : own_G B n0 Q kc ks cells slots h (pc + 1) Ls (.long v :: st)) : own_G B n0 Q kc ks cells slots h pc Ls (.int x :: st) := by
  subst hv
  obtain ⟨p, l, e, R, s, m, args, below, meth, c, k0, P⟩ := B
  obtain ⟨rfl, rfl, hx, hZ, hown, hby, hml, hrt, hlk, hnm, hw, hPe⟩ := H
  intro T locs c1 s1 X F hc hs eT hk
  exact own_go (fun t q => XT.i2l X.here hx rfl (hb hby hd) rfl q) (k T locs c1 s1 X F hc hs eT hk)
theorem own_l2i (H : own_Ok B Z a0 l R y code N ret) {x : Int64} {v : Int32} (hv : x.toInt32 = v) (hd : decode code pc = .ok (.l2i, 1)) (k : own_G B n0 Q kc ks cells slots h (pc + 1) Ls (.int v :: st)) : own_G B n0 Q kc ks cells slots h pc Ls (.long x :: st) := by
  subst hv
  obtain ⟨p, l, e, R, s, m, args, below, meth, c, k0, P⟩ := B
  obtain ⟨rfl, rfl, hx, hZ, hown, hby, hml, hrt, hlk, hnm, hw, hPe⟩ := H
  intro T locs c1 s1 X F hc hs eT hk
  exact own_go (fun t q => XT.l2i X.here hx rfl (hb hby hd) rfl q) (k T locs c1 s1 X F hc hs eT hk)
theorem own_i2b (H : own_Ok B Z a0 l R y code N ret) {x : Int32} {v : Int32} (hv : x.toInt8.toInt32 = v) (hd : decode code pc = .ok (.i2b, 1)) (k : own_G B n0 Q kc ks cells slots h (pc + 1) Ls (.int v :: st)) : own_G B n0 Q kc ks cells slots h pc Ls (.int x :: st) := by
  subst hv
  obtain ⟨p, l, e, R, s, m, args, below, meth, c, k0, P⟩ := B
  obtain ⟨rfl, rfl, hx, hZ, hown, hby, hml, hrt, hlk, hnm, hw, hPe⟩ := H
  intro T locs c1 s1 X F hc hs eT hk
  exact own_go (fun t q => XT.i2b X.here hx rfl (hb hby hd) rfl q) (k T locs c1 s1 X F hc hs eT hk)
theorem own_i2c (H : own_Ok B Z a0 l R y code N ret) {x : Int32} {v : Int32} (hv : x.toUInt32.toUInt16.toUInt32.toInt32 = v) (hd : decode code pc = .ok (.i2c, 1)) (k : own_G B n0 Q kc ks cells slots h (pc + 1) Ls (.int v :: st)) : own_G B n0 Q kc ks cells slots h pc Ls (.int x :: st) := by
  subst hv
  obtain ⟨p, l, e, R, s, m, args, below, meth, c, k0, P⟩ := B
  obtain ⟨rfl, rfl, hx, hZ, hown, hby, hml, hrt, hlk, hnm, hw, hPe⟩ := H
  intro T locs c1 s1 X F hc hs eT hk
  exact own_go (fun t q => XT.i2c X.here hx rfl (hb hby hd) rfl q) (k T locs c1 s1 X F hc hs eT hk)
theorem own_i2s (H : own_Ok B Z a0 l R y code N ret) {x : Int32} {v : Int32} (hv : x.toInt16.toInt32 = v) (hd : decode code pc = .ok (.i2s, 1)) (k : own_G B n0 Q kc ks cells slots h (pc + 1) Ls (.int v :: st)) : own_G B n0 Q kc ks cells slots h pc Ls (.int x :: st) := by
  subst hv
  obtain ⟨p, l, e, R, s, m, args, below, meth, c, k0, P⟩ := B
  obtain ⟨rfl, rfl, hx, hZ, hown, hby, hml, hrt, hlk, hnm, hw, hPe⟩ := H
  intro T locs c1 s1 X F hc hs eT hk
  exact own_go (fun t q => XT.i2s X.here hx rfl (hb hby hd) rfl q) (k T locs c1 s1 X F hc hs eT hk)
theorem own_iconst (H : own_Ok B Z a0 l R y code N ret) {i : Int} (v : Int32) (hv : Int32.ofInt i = v) (hd : decode code pc = .ok (.iconst i, 1)) (k : own_G B n0 Q kc ks cells slots h (pc + 1) Ls (.int v :: st)) : own_G B n0 Q kc ks cells slots h pc Ls st := by
  obtain ⟨p, l, e, R, s, m, args, below, meth, c, k0, P⟩ := B
  obtain ⟨rfl, rfl, hx, hZ, hown, hby, hml, hrt, hlk, hnm, hw, hPe⟩ := H
  intro T locs c1 s1 X F hc hs eT hk
  exact own_go (fun t q => XT.iconstV X.here hx rfl v (hb hby hd) hv q) (k T locs c1 s1 X F hc hs eT hk)
theorem own_bipush (H : own_Ok B Z a0 l R y code N ret) {i : Int} (v : Int32) (hv : (Int8.ofInt i).toInt32 = v) (hd : decode code pc = .ok (.bipush i, 2)) (k : own_G B n0 Q kc ks cells slots h (pc + 2) Ls (.int v :: st)) : own_G B n0 Q kc ks cells slots h pc Ls st := by
  obtain ⟨p, l, e, R, s, m, args, below, meth, c, k0, P⟩ := B
  obtain ⟨rfl, rfl, hx, hZ, hown, hby, hml, hrt, hlk, hnm, hw, hPe⟩ := H
  intro T locs c1 s1 X F hc hs eT hk
  exact own_go (fun t q => XT.bipushV X.here hx rfl v (hb hby hd) hv q) (k T locs c1 s1 X F hc hs eT hk)
theorem own_sipush (H : own_Ok B Z a0 l R y code N ret) {i : Int} (v : Int32) (hv : (Int16.ofInt i).toInt32 = v) (hd : decode code pc = .ok (.sipush i, 3)) (k : own_G B n0 Q kc ks cells slots h (pc + 3) Ls (.int v :: st)) : own_G B n0 Q kc ks cells slots h pc Ls st := by
  obtain ⟨p, l, e, R, s, m, args, below, meth, c, k0, P⟩ := B
  obtain ⟨rfl, rfl, hx, hZ, hown, hby, hml, hrt, hlk, hnm, hw, hPe⟩ := H
  intro T locs c1 s1 X F hc hs eT hk
  exact own_go (fun t q => XT.sipushV X.here hx rfl v (hb hby hd) hv q) (k T locs c1 s1 X F hc hs eT hk)
theorem own_lconst (H : own_Ok B Z a0 l R y code N ret) {i : Fin 2} (v : Int64) (hv : Int64.ofNat i = v) (hd : decode code pc = .ok (.lconst i, 1)) (k : own_G B n0 Q kc ks cells slots h (pc + 1) Ls (.long v :: st)) : own_G B n0 Q kc ks cells slots h pc Ls st := by
  obtain ⟨p, l, e, R, s, m, args, below, meth, c, k0, P⟩ := B
  obtain ⟨rfl, rfl, hx, hZ, hown, hby, hml, hrt, hlk, hnm, hw, hPe⟩ := H
  intro T locs c1 s1 X F hc hs eT hk
  exact own_go (fun t q => XT.lconstV X.here hx rfl v (hb hby hd) hv q) (k T locs c1 s1 X F hc hs eT hk)
theorem own_aconst_null (H : own_Ok B Z a0 l R y code N ret)  (hd : decode code pc = .ok (.aconst_null, 1)) (k : own_G B n0 Q kc ks cells slots h (pc + 1) Ls (.null :: st)) : own_G B n0 Q kc ks cells slots h pc Ls st := by
  obtain ⟨p, l, e, R, s, m, args, below, meth, c, k0, P⟩ := B
  obtain ⟨rfl, rfl, hx, hZ, hown, hby, hml, hrt, hlk, hnm, hw, hPe⟩ := H
  intro T locs c1 s1 X F hc hs eT hk
  exact own_go (fun t q => XS.aconstNull X.here hx rfl (hb hby hd)  q) (k T locs c1 s1 X F hc hs eT hk)
theorem own_dup (H : own_Ok B Z a0 l R y code N ret) {x : Value} (hq : x.category = 1) (hd : decode code pc = .ok (.dup, 1)) (k : own_G B n0 Q kc ks cells slots h (pc + 1) Ls (x :: x :: st)) : own_G B n0 Q kc ks cells slots h pc Ls (x :: st) := by
  obtain ⟨p, l, e, R, s, m, args, below, meth, c, k0, P⟩ := B
  obtain ⟨rfl, rfl, hx, hZ, hown, hby, hml, hrt, hlk, hnm, hw, hPe⟩ := H
  intro T locs c1 s1 X F hc hs eT hk
  exact own_go (fun t q => XS.dup X.here hx rfl (hb hby hd) rfl hq q) (k T locs c1 s1 X F hc hs eT hk)
theorem own_dup2 (H : own_Ok B Z a0 l R y code N ret) {x z : Value} (hq : x.category = 1) (hq' : z.category = 1) (hd : decode code pc = .ok (.dup2, 1)) (k : own_G B n0 Q kc ks cells slots h (pc + 1) Ls (x :: z :: x :: z :: st)) : own_G B n0 Q kc ks cells slots h pc Ls (x :: z :: st) := by
  obtain ⟨p, l, e, R, s, m, args, below, meth, c, k0, P⟩ := B
  obtain ⟨rfl, rfl, hx, hZ, hown, hby, hml, hrt, hlk, hnm, hw, hPe⟩ := H
  intro T locs c1 s1 X F hc hs eT hk
  exact own_go (fun t q => XT.dup2 X.here hx rfl (hb hby hd) rfl hq hq' q) (k T locs c1 s1 X F hc hs eT hk)
theorem own_dup2L (H : own_Ok B Z a0 l R y code N ret) {x : Int64} (hd : decode code pc = .ok (.dup2, 1)) (k : own_G B n0 Q kc ks cells slots h (pc + 1) Ls (.long x :: .long x :: st)) : own_G B n0 Q kc ks cells slots h pc Ls (.long x :: st) := by
  obtain ⟨p, l, e, R, s, m, args, below, meth, c, k0, P⟩ := B
  obtain ⟨rfl, rfl, hx, hZ, hown, hby, hml, hrt, hlk, hnm, hw, hPe⟩ := H
  intro T locs c1 s1 X F hc hs eT hk
  exact own_go (fun t q => XT.dup2L X.here hx rfl (hb hby hd) rfl q) (k T locs c1 s1 X F hc hs eT hk)
theorem own_dup_x1 (H : own_Ok B Z a0 l R y code N ret) {x z : Value} (hq : x.category = 1) (hq' : z.category = 1) (hd : decode code pc = .ok (.dup_x1, 1)) (k : own_G B n0 Q kc ks cells slots h (pc + 1) Ls (x :: z :: x :: st)) : own_G B n0 Q kc ks cells slots h pc Ls (x :: z :: st) := by
  obtain ⟨p, l, e, R, s, m, args, below, meth, c, k0, P⟩ := B
  obtain ⟨rfl, rfl, hx, hZ, hown, hby, hml, hrt, hlk, hnm, hw, hPe⟩ := H
  intro T locs c1 s1 X F hc hs eT hk
  exact own_go (fun t q => XT.dupX1 X.here hx rfl (hb hby hd) rfl hq hq' q) (k T locs c1 s1 X F hc hs eT hk)
theorem own_pop (H : own_Ok B Z a0 l R y code N ret) {x : Value} (hq : x.category = 1) (hd : decode code pc = .ok (.pop, 1)) (k : own_G B n0 Q kc ks cells slots h (pc + 1) Ls st) : own_G B n0 Q kc ks cells slots h pc Ls (x :: st) := by
  obtain ⟨p, l, e, R, s, m, args, below, meth, c, k0, P⟩ := B
  obtain ⟨rfl, rfl, hx, hZ, hown, hby, hml, hrt, hlk, hnm, hw, hPe⟩ := H
  intro T locs c1 s1 X F hc hs eT hk
  exact own_go (fun t q => XT.pop X.here hx rfl (hb hby hd) rfl hq q) (k T locs c1 s1 X F hc hs eT hk)
theorem own_iload_n (H : own_Ok B Z a0 l R y code N ret) {i : Fin 4} {v : Int32} (hl : Ls[i.val]? = some (.val (.int v))) (hd : decode code pc = .ok (.iload_n i, 1)) (k : own_G B n0 Q kc ks cells slots h (pc + 1) Ls (.int v :: st)) : own_G B n0 Q kc ks cells slots h pc Ls st := by
  obtain ⟨p, l, e, R, s, m, args, below, meth, c, k0, P⟩ := B
  obtain ⟨rfl, rfl, hx, hZ, hown, hby, hml, hrt, hlk, hnm, hw, hPe⟩ := H
  intro T locs c1 s1 X F hc hs eT hk
  exact own_go (fun t q => XS.iloadN X.here hx rfl (hb hby hd) hl q) (k T locs c1 s1 X F hc hs eT hk)
theorem own_iload (H : own_Ok B Z a0 l R y code N ret) {i : Nat} {v : Int32} (hl : Ls[i]? = some (.val (.int v))) (hd : decode code pc = .ok (.iload i, 2)) (k : own_G B n0 Q kc ks cells slots h (pc + 2) Ls (.int v :: st)) : own_G B n0 Q kc ks cells slots h pc Ls st := by
  obtain ⟨p, l, e, R, s, m, args, below, meth, c, k0, P⟩ := B
  obtain ⟨rfl, rfl, hx, hZ, hown, hby, hml, hrt, hlk, hnm, hw, hPe⟩ := H
  intro T locs c1 s1 X F hc hs eT hk
  exact own_go (fun t q => XS.iload X.here hx rfl (hb hby hd) hl q) (k T locs c1 s1 X F hc hs eT hk)
theorem own_lload_n (H : own_Ok B Z a0 l R y code N ret) {i : Fin 4} {v : Int64} (hl : Ls[i.val]? = some (.val (.long v))) (hd : decode code pc = .ok (.lload_n i, 1)) (k : own_G B n0 Q kc ks cells slots h (pc + 1) Ls (.long v :: st)) : own_G B n0 Q kc ks cells slots h pc Ls st := by
  obtain ⟨p, l, e, R, s, m, args, below, meth, c, k0, P⟩ := B
  obtain ⟨rfl, rfl, hx, hZ, hown, hby, hml, hrt, hlk, hnm, hw, hPe⟩ := H
  intro T locs c1 s1 X F hc hs eT hk
  exact own_go (fun t q => XT.lloadN X.here hx rfl (hb hby hd) hl q) (k T locs c1 s1 X F hc hs eT hk)
theorem own_lload (H : own_Ok B Z a0 l R y code N ret) {i : Nat} {v : Int64} (hl : Ls[i]? = some (.val (.long v))) (hd : decode code pc = .ok (.lload i, 2)) (k : own_G B n0 Q kc ks cells slots h (pc + 2) Ls (.long v :: st)) : own_G B n0 Q kc ks cells slots h pc Ls st := by
  obtain ⟨p, l, e, R, s, m, args, below, meth, c, k0, P⟩ := B
  obtain ⟨rfl, rfl, hx, hZ, hown, hby, hml, hrt, hlk, hnm, hw, hPe⟩ := H
  intro T locs c1 s1 X F hc hs eT hk
  exact own_go (fun t q => XT.lload X.here hx rfl (hb hby hd) hl q) (k T locs c1 s1 X F hc hs eT hk)
theorem own_aload_n (H : own_Ok B Z a0 l R y code N ret) {i : Fin 4} {v : Value} (hl : Ls[i.val]? = some (.val v)) (hv : v.isRef = true) (hd : decode code pc = .ok (.aload_n i, 1)) (k : own_G B n0 Q kc ks cells slots h (pc + 1) Ls (v :: st)) : own_G B n0 Q kc ks cells slots h pc Ls st := by
  obtain ⟨p, l, e, R, s, m, args, below, meth, c, k0, P⟩ := B
  obtain ⟨rfl, rfl, hx, hZ, hown, hby, hml, hrt, hlk, hnm, hw, hPe⟩ := H
  intro T locs c1 s1 X F hc hs eT hk
  exact own_go (fun t q => XS.aloadN X.here hx rfl (hb hby hd) hl hv q) (k T locs c1 s1 X F hc hs eT hk)
theorem own_aload (H : own_Ok B Z a0 l R y code N ret) {i : Nat} {v : Value} (hl : Ls[i]? = some (.val v)) (hv : v.isRef = true) (hd : decode code pc = .ok (.aload i, 2)) (k : own_G B n0 Q kc ks cells slots h (pc + 2) Ls (v :: st)) : own_G B n0 Q kc ks cells slots h pc Ls st := by
  obtain ⟨p, l, e, R, s, m, args, below, meth, c, k0, P⟩ := B
  obtain ⟨rfl, rfl, hx, hZ, hown, hby, hml, hrt, hlk, hnm, hw, hPe⟩ := H
  intro T locs c1 s1 X F hc hs eT hk
  exact own_go (fun t q => XS.aload X.here hx rfl (hb hby hd) hl hv q) (k T locs c1 s1 X F hc hs eT hk)
theorem own_istore_n (H : own_Ok B Z a0 l R y code N ret) {i : Fin 4} {x : Int32} (Ls' : Array Slot) (hl : storeLocals Ls i.val (.int x) = some Ls') (hd : decode code pc = .ok (.istore_n i, 1)) (k : own_G B n0 Q kc ks cells slots h (pc + 1) Ls' st) : own_G B n0 Q kc ks cells slots h pc Ls (.int x :: st) := by
  obtain ⟨p, l, e, R, s, m, args, below, meth, c, k0, P⟩ := B
  obtain ⟨rfl, rfl, hx, hZ, hown, hby, hml, hrt, hlk, hnm, hw, hPe⟩ := H
  intro T locs c1 s1 X F hc hs eT hk
  exact own_go (fun t q => XS.istoreN X.here hx rfl (hb hby hd) rfl hl q) (k T locs c1 s1 X F hc hs eT hk)
theorem own_istore (H : own_Ok B Z a0 l R y code N ret) {i : Nat} {x : Int32} (Ls' : Array Slot) (hl : storeLocals Ls i (.int x) = some Ls') (hd : decode code pc = .ok (.istore i, 2)) (k : own_G B n0 Q kc ks cells slots h (pc + 2) Ls' st) : own_G B n0 Q kc ks cells slots h pc Ls (.int x :: st) := by
  obtain ⟨p, l, e, R, s, m, args, below, meth, c, k0, P⟩ := B
  obtain ⟨rfl, rfl, hx, hZ, hown, hby, hml, hrt, hlk, hnm, hw, hPe⟩ := H
  intro T locs c1 s1 X F hc hs eT hk
  exact own_go (fun t q => XS.istore X.here hx rfl (hb hby hd) rfl hl q) (k T locs c1 s1 X F hc hs eT hk)
theorem own_lstore_n (H : own_Ok B Z a0 l R y code N ret) {i : Fin 4} {x : Int64} (Ls' : Array Slot) (hl : storeLocals Ls i.val (.long x) = some Ls') (hd : decode code pc = .ok (.lstore_n i, 1)) (k : own_G B n0 Q kc ks cells slots h (pc + 1) Ls' st) : own_G B n0 Q kc ks cells slots h pc Ls (.long x :: st) := by
  obtain ⟨p, l, e, R, s, m, args, below, meth, c, k0, P⟩ := B
  obtain ⟨rfl, rfl, hx, hZ, hown, hby, hml, hrt, hlk, hnm, hw, hPe⟩ := H
  intro T locs c1 s1 X F hc hs eT hk
  exact own_go (fun t q => XT.lstoreN X.here hx rfl (hb hby hd) rfl hl q) (k T locs c1 s1 X F hc hs eT hk)
theorem own_lstore (H : own_Ok B Z a0 l R y code N ret) {i : Nat} {x : Int64} (Ls' : Array Slot) (hl : storeLocals Ls i (.long x) = some Ls') (hd : decode code pc = .ok (.lstore i, 2)) (k : own_G B n0 Q kc ks cells slots h (pc + 2) Ls' st) : own_G B n0 Q kc ks cells slots h pc Ls (.long x :: st) := by
  obtain ⟨p, l, e, R, s, m, args, below, meth, c, k0, P⟩ := B
  obtain ⟨rfl, rfl, hx, hZ, hown, hby, hml, hrt, hlk, hnm, hw, hPe⟩ := H
  intro T locs c1 s1 X F hc hs eT hk
  exact own_go (fun t q => XT.lstore X.here hx rfl (hb hby hd) rfl hl q) (k T locs c1 s1 X F hc hs eT hk)
theorem own_astore_n (H : own_Ok B Z a0 l R y code N ret) {i : Fin 4} {x : Value} (hv : x.isRef = true) (Ls' : Array Slot) (hl : storeLocals Ls i.val x = some Ls') (hd : decode code pc = .ok (.astore_n i, 1)) (k : own_G B n0 Q kc ks cells slots h (pc + 1) Ls' st) : own_G B n0 Q kc ks cells slots h pc Ls (x :: st) := by
  obtain ⟨p, l, e, R, s, m, args, below, meth, c, k0, P⟩ := B
  obtain ⟨rfl, rfl, hx, hZ, hown, hby, hml, hrt, hlk, hnm, hw, hPe⟩ := H
  intro T locs c1 s1 X F hc hs eT hk
  exact own_go (fun t q => XS.astoreN X.here hx rfl (hb hby hd) rfl hv hl q) (k T locs c1 s1 X F hc hs eT hk)
theorem own_astore (H : own_Ok B Z a0 l R y code N ret) {i : Nat} {x : Value} (hv : x.isRef = true) (Ls' : Array Slot) (hl : storeLocals Ls i x = some Ls') (hd : decode code pc = .ok (.astore i, 2)) (k : own_G B n0 Q kc ks cells slots h (pc + 2) Ls' st) : own_G B n0 Q kc ks cells slots h pc Ls (x :: st) := by
  obtain ⟨p, l, e, R, s, m, args, below, meth, c, k0, P⟩ := B
  obtain ⟨rfl, rfl, hx, hZ, hown, hby, hml, hrt, hlk, hnm, hw, hPe⟩ := H
  intro T locs c1 s1 X F hc hs eT hk
  exact own_go (fun t q => XS.astore X.here hx rfl (hb hby hd) rfl hv hl q) (k T locs c1 s1 X F hc hs eT hk)
theorem own_iinc (H : own_Ok B Z a0 l R y code N ret) {i : Nat} {cst : Int} {x u : Int32} (v : Int32) (hv : Int32.ofInt cst = v) (hl : Ls[i]? = some (.val (.int x))) (hu : x + v = u) (Ls' : Array Slot) (hl' : storeLocals Ls i (.int u) = some Ls') (hd : decode code pc = .ok (.iinc i cst, 3)) (k : own_G B n0 Q kc ks cells slots h (pc + 3) Ls' st) : own_G B n0 Q kc ks cells slots h pc Ls st := by
  subst hu
  obtain ⟨p, l, e, R, s, m, args, below, meth, c, k0, P⟩ := B
  obtain ⟨rfl, rfl, hx, hZ, hown, hby, hml, hrt, hlk, hnm, hw, hPe⟩ := H
  intro T locs c1 s1 X F hc hs eT hk
  exact own_go (fun t q => XT.iincV X.here hx rfl v (hb hby hd) hv hl hl' q) (k T locs c1 s1 X F hc hs eT hk)
theorem own_goto (H : own_Ok B Z a0 l R y code N ret) {o : Int} (hd : decode code pc = .ok (.goto o, 3)) (ho : 0 ≤ (pc : Int) + o) (hp : ((pc : Int) + o).toNat = pc') (k : own_G B n0 Q kc ks cells slots h pc' Ls st) : own_G B n0 Q kc ks cells slots h pc Ls st := by
  obtain ⟨p, l, e, R, s, m, args, below, meth, c, k0, P⟩ := B
  obtain ⟨rfl, rfl, hx, hZ, hown, hby, hml, hrt, hlk, hnm, hw, hPe⟩ := H
  intro T locs c1 s1 X F hc hs eT hk
  exact own_go (fun t q => XS.goto X.here hx rfl rfl (hb hby hd) ho hp q) (k T locs c1 s1 X F hc hs eT hk)
theorem own_ifeq_t (H : own_Ok B Z a0 l R y code N ret) {x : Int32} {o : Int} (hd : decode code pc = .ok (.ifCond .eq o, 3)) (ho : 0 ≤ (pc : Int) + o) (hp : ((pc : Int) + o).toNat = pc') (hq : x = 0) (k : own_G B n0 Q kc ks cells slots h pc' Ls st) : own_G B n0 Q kc ks cells slots h pc Ls (.int x :: st) := by
  obtain ⟨p, l, e, R, s, m, args, below, meth, c, k0, P⟩ := B
  obtain ⟨rfl, rfl, hx, hZ, hown, hby, hml, hrt, hlk, hnm, hw, hPe⟩ := H
  intro T locs c1 s1 X F hc hs eT hk
  exact own_go (fun t q => XS.ifYes X.here hx rfl rfl (hb hby hd) rfl (XT.i0_eq_t hq) ho hp q) (k T locs c1 s1 X F hc hs eT hk)
theorem own_ifeq_f (H : own_Ok B Z a0 l R y code N ret) {x : Int32} {o : Int} (hd : decode code pc = .ok (.ifCond .eq o, 3)) (hq : ¬ x = 0) (k : own_G B n0 Q kc ks cells slots h (pc + 3) Ls st) : own_G B n0 Q kc ks cells slots h pc Ls (.int x :: st) := by
  obtain ⟨p, l, e, R, s, m, args, below, meth, c, k0, P⟩ := B
  obtain ⟨rfl, rfl, hx, hZ, hown, hby, hml, hrt, hlk, hnm, hw, hPe⟩ := H
  intro T locs c1 s1 X F hc hs eT hk
  exact own_go (fun t q => XS.ifNo X.here hx rfl (hb hby hd) rfl (XT.i0_eq_f hq) q) (k T locs c1 s1 X F hc hs eT hk)
theorem own_icmpeq_t (H : own_Ok B Z a0 l R y code N ret) {x z : Int32} {o : Int} (hd : decode code pc = .ok (.if_icmp .eq o, 3)) (ho : 0 ≤ (pc : Int) + o) (hp : ((pc : Int) + o).toNat = pc') (hq : x = z) (k : own_G B n0 Q kc ks cells slots h pc' Ls st) : own_G B n0 Q kc ks cells slots h pc Ls (.int z :: .int x :: st) := by
  obtain ⟨p, l, e, R, s, m, args, below, meth, c, k0, P⟩ := B
  obtain ⟨rfl, rfl, hx, hZ, hown, hby, hml, hrt, hlk, hnm, hw, hPe⟩ := H
  intro T locs c1 s1 X F hc hs eT hk
  exact own_go (fun t q => XS.icmpYes X.here hx rfl rfl (hb hby hd) rfl (XT.ii_eq_t hq) ho hp q) (k T locs c1 s1 X F hc hs eT hk)
theorem own_icmpeq_f (H : own_Ok B Z a0 l R y code N ret) {x z : Int32} {o : Int} (hd : decode code pc = .ok (.if_icmp .eq o, 3)) (hq : ¬ x = z) (k : own_G B n0 Q kc ks cells slots h (pc + 3) Ls st) : own_G B n0 Q kc ks cells slots h pc Ls (.int z :: .int x :: st) := by
  obtain ⟨p, l, e, R, s, m, args, below, meth, c, k0, P⟩ := B
  obtain ⟨rfl, rfl, hx, hZ, hown, hby, hml, hrt, hlk, hnm, hw, hPe⟩ := H
  intro T locs c1 s1 X F hc hs eT hk
  exact own_go (fun t q => XS.icmpNo X.here hx rfl (hb hby hd) rfl (XT.ii_eq_f hq) q) (k T locs c1 s1 X F hc hs eT hk)
theorem own_lcmpeq_t (H : own_Ok B Z a0 l R y code N ret) {x z : Int64} {o : Int} (hd0 : decode code pc = .ok (.lcmp, 1)) (hd : decode code (pc + 1) = .ok (.ifCond .eq o, 3)) (ho : 0 ≤ ((pc + 1 : Nat) : Int) + o) (hp : (((pc + 1 : Nat) : Int) + o).toNat = pc') (hq : x = z) (k : own_G B n0 Q kc ks cells slots h pc' Ls st) : own_G B n0 Q kc ks cells slots h pc Ls (.long z :: .long x :: st) := by
  obtain ⟨p, l, e, R, s, m, args, below, meth, c, k0, P⟩ := B
  obtain ⟨rfl, rfl, hx, hZ, hown, hby, hml, hrt, hlk, hnm, hw, hPe⟩ := H
  intro T locs c1 s1 X F hc hs eT hk
  exact own_go (fun t q => XT.lcmp X.here hx rfl (hb hby hd0) rfl (XS.ifYes X.here hx rfl rfl (hb hby hd) rfl (XT.ll_eq_t hq) ho hp q)) (k T locs c1 s1 X F hc hs eT hk)
theorem own_lcmpeq_f (H : own_Ok B Z a0 l R y code N ret) {x z : Int64} {o : Int} (hd0 : decode code pc = .ok (.lcmp, 1)) (hd : decode code (pc + 1) = .ok (.ifCond .eq o, 3)) (hq : ¬ x = z) (k : own_G B n0 Q kc ks cells slots h (pc + 4) Ls st) : own_G B n0 Q kc ks cells slots h pc Ls (.long z :: .long x :: st) := by
  obtain ⟨p, l, e, R, s, m, args, below, meth, c, k0, P⟩ := B
  obtain ⟨rfl, rfl, hx, hZ, hown, hby, hml, hrt, hlk, hnm, hw, hPe⟩ := H
  intro T locs c1 s1 X F hc hs eT hk
  exact own_go (fun t q => XT.lcmp X.here hx rfl (hb hby hd0) rfl (XS.ifNo X.here hx rfl (hb hby hd) rfl (XT.ll_eq_f hq) q)) (k T locs c1 s1 X F hc hs eT hk)
theorem own_ifne_t (H : own_Ok B Z a0 l R y code N ret) {x : Int32} {o : Int} (hd : decode code pc = .ok (.ifCond .ne o, 3)) (ho : 0 ≤ (pc : Int) + o) (hp : ((pc : Int) + o).toNat = pc') (hq : ¬ x = 0) (k : own_G B n0 Q kc ks cells slots h pc' Ls st) : own_G B n0 Q kc ks cells slots h pc Ls (.int x :: st) := by
  obtain ⟨p, l, e, R, s, m, args, below, meth, c, k0, P⟩ := B
  obtain ⟨rfl, rfl, hx, hZ, hown, hby, hml, hrt, hlk, hnm, hw, hPe⟩ := H
  intro T locs c1 s1 X F hc hs eT hk
  exact own_go (fun t q => XS.ifYes X.here hx rfl rfl (hb hby hd) rfl (XT.i0_ne_t hq) ho hp q) (k T locs c1 s1 X F hc hs eT hk)
theorem own_ifne_f (H : own_Ok B Z a0 l R y code N ret) {x : Int32} {o : Int} (hd : decode code pc = .ok (.ifCond .ne o, 3)) (hq : x = 0) (k : own_G B n0 Q kc ks cells slots h (pc + 3) Ls st) : own_G B n0 Q kc ks cells slots h pc Ls (.int x :: st) := by
  obtain ⟨p, l, e, R, s, m, args, below, meth, c, k0, P⟩ := B
  obtain ⟨rfl, rfl, hx, hZ, hown, hby, hml, hrt, hlk, hnm, hw, hPe⟩ := H
  intro T locs c1 s1 X F hc hs eT hk
  exact own_go (fun t q => XS.ifNo X.here hx rfl (hb hby hd) rfl (XT.i0_ne_f hq) q) (k T locs c1 s1 X F hc hs eT hk)
theorem own_icmpne_t (H : own_Ok B Z a0 l R y code N ret) {x z : Int32} {o : Int} (hd : decode code pc = .ok (.if_icmp .ne o, 3)) (ho : 0 ≤ (pc : Int) + o) (hp : ((pc : Int) + o).toNat = pc') (hq : ¬ x = z) (k : own_G B n0 Q kc ks cells slots h pc' Ls st) : own_G B n0 Q kc ks cells slots h pc Ls (.int z :: .int x :: st) := by
  obtain ⟨p, l, e, R, s, m, args, below, meth, c, k0, P⟩ := B
  obtain ⟨rfl, rfl, hx, hZ, hown, hby, hml, hrt, hlk, hnm, hw, hPe⟩ := H
  intro T locs c1 s1 X F hc hs eT hk
  exact own_go (fun t q => XS.icmpYes X.here hx rfl rfl (hb hby hd) rfl (XT.ii_ne_t hq) ho hp q) (k T locs c1 s1 X F hc hs eT hk)
theorem own_icmpne_f (H : own_Ok B Z a0 l R y code N ret) {x z : Int32} {o : Int} (hd : decode code pc = .ok (.if_icmp .ne o, 3)) (hq : x = z) (k : own_G B n0 Q kc ks cells slots h (pc + 3) Ls st) : own_G B n0 Q kc ks cells slots h pc Ls (.int z :: .int x :: st) := by
  obtain ⟨p, l, e, R, s, m, args, below, meth, c, k0, P⟩ := B
  obtain ⟨rfl, rfl, hx, hZ, hown, hby, hml, hrt, hlk, hnm, hw, hPe⟩ := H
  intro T locs c1 s1 X F hc hs eT hk
  exact own_go (fun t q => XS.icmpNo X.here hx rfl (hb hby hd) rfl (XT.ii_ne_f hq) q) (k T locs c1 s1 X F hc hs eT hk)
theorem own_lcmpne_t (H : own_Ok B Z a0 l R y code N ret) {x z : Int64} {o : Int} (hd0 : decode code pc = .ok (.lcmp, 1)) (hd : decode code (pc + 1) = .ok (.ifCond .ne o, 3)) (ho : 0 ≤ ((pc + 1 : Nat) : Int) + o) (hp : (((pc + 1 : Nat) : Int) + o).toNat = pc') (hq : ¬ x = z) (k : own_G B n0 Q kc ks cells slots h pc' Ls st) : own_G B n0 Q kc ks cells slots h pc Ls (.long z :: .long x :: st) := by
  obtain ⟨p, l, e, R, s, m, args, below, meth, c, k0, P⟩ := B
  obtain ⟨rfl, rfl, hx, hZ, hown, hby, hml, hrt, hlk, hnm, hw, hPe⟩ := H
  intro T locs c1 s1 X F hc hs eT hk
  exact own_go (fun t q => XT.lcmp X.here hx rfl (hb hby hd0) rfl (XS.ifYes X.here hx rfl rfl (hb hby hd) rfl (XT.ll_ne_t hq) ho hp q)) (k T locs c1 s1 X F hc hs eT hk)
theorem own_lcmpne_f (H : own_Ok B Z a0 l R y code N ret) {x z : Int64} {o : Int} (hd0 : decode code pc = .ok (.lcmp, 1)) (hd : decode code (pc + 1) = .ok (.ifCond .ne o, 3)) (hq : x = z) (k : own_G B n0 Q kc ks cells slots h (pc + 4) Ls st) : own_G B n0 Q kc ks cells slots h pc Ls (.long z :: .long x :: st) := by
  obtain ⟨p, l, e, R, s, m, args, below, meth, c, k0, P⟩ := B
  obtain ⟨rfl, rfl, hx, hZ, hown, hby, hml, hrt, hlk, hnm, hw, hPe⟩ := H
  intro T locs c1 s1 X F hc hs eT hk
  exact own_go (fun t q => XT.lcmp X.here hx rfl (hb hby hd0) rfl (XS.ifNo X.here hx rfl (hb hby hd) rfl (XT.ll_ne_f hq) q)) (k T locs c1 s1 X F hc hs eT hk)
theorem own_iflt_t (H : own_Ok B Z a0 l R y code N ret) {x : Int32} {o : Int} (hd : decode code pc = .ok (.ifCond .lt o, 3)) (ho : 0 ≤ (pc : Int) + o) (hp : ((pc : Int) + o).toNat = pc') (hq : x < 0) (k : own_G B n0 Q kc ks cells slots h pc' Ls st) : own_G B n0 Q kc ks cells slots h pc Ls (.int x :: st) := by
  obtain ⟨p, l, e, R, s, m, args, below, meth, c, k0, P⟩ := B
  obtain ⟨rfl, rfl, hx, hZ, hown, hby, hml, hrt, hlk, hnm, hw, hPe⟩ := H
  intro T locs c1 s1 X F hc hs eT hk
  exact own_go (fun t q => XS.ifYes X.here hx rfl rfl (hb hby hd) rfl (XT.i0_lt_t hq) ho hp q) (k T locs c1 s1 X F hc hs eT hk)
theorem own_iflt_f (H : own_Ok B Z a0 l R y code N ret) {x : Int32} {o : Int} (hd : decode code pc = .ok (.ifCond .lt o, 3)) (hq : ¬ x < 0) (k : own_G B n0 Q kc ks cells slots h (pc + 3) Ls st) : own_G B n0 Q kc ks cells slots h pc Ls (.int x :: st) := by
  obtain ⟨p, l, e, R, s, m, args, below, meth, c, k0, P⟩ := B
  obtain ⟨rfl, rfl, hx, hZ, hown, hby, hml, hrt, hlk, hnm, hw, hPe⟩ := H
  intro T locs c1 s1 X F hc hs eT hk
  exact own_go (fun t q => XS.ifNo X.here hx rfl (hb hby hd) rfl (XT.i0_lt_f hq) q) (k T locs c1 s1 X F hc hs eT hk)
theorem own_icmplt_t (H : own_Ok B Z a0 l R y code N ret) {x z : Int32} {o : Int} (hd : decode code pc = .ok (.if_icmp .lt o, 3)) (ho : 0 ≤ (pc : Int) + o) (hp : ((pc : Int) + o).toNat = pc') (hq : x < z) (k : own_G B n0 Q kc ks cells slots h pc' Ls st) : own_G B n0 Q kc ks cells slots h pc Ls (.int z :: .int x :: st) := by
  obtain ⟨p, l, e, R, s, m, args, below, meth, c, k0, P⟩ := B
  obtain ⟨rfl, rfl, hx, hZ, hown, hby, hml, hrt, hlk, hnm, hw, hPe⟩ := H
  intro T locs c1 s1 X F hc hs eT hk
  exact own_go (fun t q => XS.icmpYes X.here hx rfl rfl (hb hby hd) rfl (XT.ii_lt_t hq) ho hp q) (k T locs c1 s1 X F hc hs eT hk)
theorem own_icmplt_f (H : own_Ok B Z a0 l R y code N ret) {x z : Int32} {o : Int} (hd : decode code pc = .ok (.if_icmp .lt o, 3)) (hq : ¬ x < z) (k : own_G B n0 Q kc ks cells slots h (pc + 3) Ls st) : own_G B n0 Q kc ks cells slots h pc Ls (.int z :: .int x :: st) := by
  obtain ⟨p, l, e, R, s, m, args, below, meth, c, k0, P⟩ := B
  obtain ⟨rfl, rfl, hx, hZ, hown, hby, hml, hrt, hlk, hnm, hw, hPe⟩ := H
  intro T locs c1 s1 X F hc hs eT hk
  exact own_go (fun t q => XS.icmpNo X.here hx rfl (hb hby hd) rfl (XT.ii_lt_f hq) q) (k T locs c1 s1 X F hc hs eT hk)
theorem own_lcmplt_t (H : own_Ok B Z a0 l R y code N ret) {x z : Int64} {o : Int} (hd0 : decode code pc = .ok (.lcmp, 1)) (hd : decode code (pc + 1) = .ok (.ifCond .lt o, 3)) (ho : 0 ≤ ((pc + 1 : Nat) : Int) + o) (hp : (((pc + 1 : Nat) : Int) + o).toNat = pc') (hq : x < z) (k : own_G B n0 Q kc ks cells slots h pc' Ls st) : own_G B n0 Q kc ks cells slots h pc Ls (.long z :: .long x :: st) := by
  obtain ⟨p, l, e, R, s, m, args, below, meth, c, k0, P⟩ := B
  obtain ⟨rfl, rfl, hx, hZ, hown, hby, hml, hrt, hlk, hnm, hw, hPe⟩ := H
  intro T locs c1 s1 X F hc hs eT hk
  exact own_go (fun t q => XT.lcmp X.here hx rfl (hb hby hd0) rfl (XS.ifYes X.here hx rfl rfl (hb hby hd) rfl (XT.ll_lt_t hq) ho hp q)) (k T locs c1 s1 X F hc hs eT hk)
theorem own_lcmplt_f (H : own_Ok B Z a0 l R y code N ret) {x z : Int64} {o : Int} (hd0 : decode code pc = .ok (.lcmp, 1)) (hd : decode code (pc + 1) = .ok (.ifCond .lt o, 3)) (hq : ¬ x < z) (k : own_G B n0 Q kc ks cells slots h (pc + 4) Ls st) : own_G B n0 Q kc ks cells slots h pc Ls (.long z :: .long x :: st) := by
  obtain ⟨p, l, e, R, s, m, args, below, meth, c, k0, P⟩ := B
  obtain ⟨rfl, rfl, hx, hZ, hown, hby, hml, hrt, hlk, hnm, hw, hPe⟩ := H
  intro T locs c1 s1 X F hc hs eT hk
  exact own_go (fun t q => XT.lcmp X.here hx rfl (hb hby hd0) rfl (XS.ifNo X.here hx rfl (hb hby hd) rfl (XT.ll_lt_f hq) q)) (k T locs c1 s1 X F hc hs eT hk)
theorem own_ifge_t (H : own_Ok B Z a0 l R y code N ret) {x : Int32} {o : Int} (hd : decode code pc = .ok (.ifCond .ge o, 3)) (ho : 0 ≤ (pc : Int) + o) (hp : ((pc : Int) + o).toNat = pc') (hq : ¬ x < 0) (k : own_G B n0 Q kc ks cells slots h pc' Ls st) : own_G B n0 Q kc ks cells slots h pc Ls (.int x :: st) := by
  obtain ⟨p, l, e, R, s, m, args, below, meth, c, k0, P⟩ := B
  obtain ⟨rfl, rfl, hx, hZ, hown, hby, hml, hrt, hlk, hnm, hw, hPe⟩ := H
  intro T locs c1 s1 X F hc hs eT hk
  exact own_go (fun t q => XS.ifYes X.here hx rfl rfl (hb hby hd) rfl (XT.i0_ge_t hq) ho hp q) (k T locs c1 s1 X F hc hs eT hk)
theorem own_ifge_f (H : own_Ok B Z a0 l R y code N ret) {x : Int32} {o : Int} (hd : decode code pc = .ok (.ifCond .ge o, 3)) (hq : x < 0) (k : own_G B n0 Q kc ks cells slots h (pc + 3) Ls st) : own_G B n0 Q kc ks cells slots h pc Ls (.int x :: st) := by
  obtain ⟨p, l, e, R, s, m, args, below, meth, c, k0, P⟩ := B
  obtain ⟨rfl, rfl, hx, hZ, hown, hby, hml, hrt, hlk, hnm, hw, hPe⟩ := H
  intro T locs c1 s1 X F hc hs eT hk
  exact own_go (fun t q => XS.ifNo X.here hx rfl (hb hby hd) rfl (XT.i0_ge_f hq) q) (k T locs c1 s1 X F hc hs eT hk)
theorem own_icmpge_t (H : own_Ok B Z a0 l R y code N ret) {x z : Int32} {o : Int} (hd : decode code pc = .ok (.if_icmp .ge o, 3)) (ho : 0 ≤ (pc : Int) + o) (hp : ((pc : Int) + o).toNat = pc') (hq : ¬ x < z) (k : own_G B n0 Q kc ks cells slots h pc' Ls st) : own_G B n0 Q kc ks cells slots h pc Ls (.int z :: .int x :: st) := by
  obtain ⟨p, l, e, R, s, m, args, below, meth, c, k0, P⟩ := B
  obtain ⟨rfl, rfl, hx, hZ, hown, hby, hml, hrt, hlk, hnm, hw, hPe⟩ := H
  intro T locs c1 s1 X F hc hs eT hk
  exact own_go (fun t q => XS.icmpYes X.here hx rfl rfl (hb hby hd) rfl (XT.ii_ge_t hq) ho hp q) (k T locs c1 s1 X F hc hs eT hk)
theorem own_icmpge_f (H : own_Ok B Z a0 l R y code N ret) {x z : Int32} {o : Int} (hd : decode code pc = .ok (.if_icmp .ge o, 3)) (hq : x < z) (k : own_G B n0 Q kc ks cells slots h (pc + 3) Ls st) : own_G B n0 Q kc ks cells slots h pc Ls (.int z :: .int x :: st) := by
  obtain ⟨p, l, e, R, s, m, args, below, meth, c, k0, P⟩ := B
  obtain ⟨rfl, rfl, hx, hZ, hown, hby, hml, hrt, hlk, hnm, hw, hPe⟩ := H
  intro T locs c1 s1 X F hc hs eT hk
  exact own_go (fun t q => XS.icmpNo X.here hx rfl (hb hby hd) rfl (XT.ii_ge_f hq) q) (k T locs c1 s1 X F hc hs eT hk)
theorem own_lcmpge_t (H : own_Ok B Z a0 l R y code N ret) {x z : Int64} {o : Int} (hd0 : decode code pc = .ok (.lcmp, 1)) (hd : decode code (pc + 1) = .ok (.ifCond .ge o, 3)) (ho : 0 ≤ ((pc + 1 : Nat) : Int) + o) (hp : (((pc + 1 : Nat) : Int) + o).toNat = pc') (hq : ¬ x < z) (k : own_G B n0 Q kc ks cells slots h pc' Ls st) : own_G B n0 Q kc ks cells slots h pc Ls (.long z :: .long x :: st) := by
  obtain ⟨p, l, e, R, s, m, args, below, meth, c, k0, P⟩ := B
  obtain ⟨rfl, rfl, hx, hZ, hown, hby, hml, hrt, hlk, hnm, hw, hPe⟩ := H
  intro T locs c1 s1 X F hc hs eT hk
  exact own_go (fun t q => XT.lcmp X.here hx rfl (hb hby hd0) rfl (XS.ifYes X.here hx rfl rfl (hb hby hd) rfl (XT.ll_ge_t hq) ho hp q)) (k T locs c1 s1 X F hc hs eT hk)
theorem own_lcmpge_f (H : own_Ok B Z a0 l R y code N ret) {x z : Int64} {o : Int} (hd0 : decode code pc = .ok (.lcmp, 1)) (hd : decode code (pc + 1) = .ok (.ifCond .ge o, 3)) (hq : x < z) (k : own_G B n0 Q kc ks cells slots h (pc + 4) Ls st) : own_G B n0 Q kc ks cells slots h pc Ls (.long z :: .long x :: st) := by
  obtain ⟨p, l, e, R, s, m, args, below, meth, c, k0, P⟩ := B
  obtain ⟨rfl, rfl, hx, hZ, hown, hby, hml, hrt, hlk, hnm, hw, hPe⟩ := H
  intro T locs c1 s1 X F hc hs eT hk
  exact own_go (fun t q => XT.lcmp X.here hx rfl (hb hby hd0) rfl (XS.ifNo X.here hx rfl (hb hby hd) rfl (XT.ll_ge_f hq) q)) (k T locs c1 s1 X F hc hs eT hk)
theorem own_ifgt_t (H : own_Ok B Z a0 l R y code N ret) {x : Int32} {o : Int} (hd : decode code pc = .ok (.ifCond .gt o, 3)) (ho : 0 ≤ (pc : Int) + o) (hp : ((pc : Int) + o).toNat = pc') (hq : 0 < x) (k : own_G B n0 Q kc ks cells slots h pc' Ls st) : own_G B n0 Q kc ks cells slots h pc Ls (.int x :: st) := by
  obtain ⟨p, l, e, R, s, m, args, below, meth, c, k0, P⟩ := B
  obtain ⟨rfl, rfl, hx, hZ, hown, hby, hml, hrt, hlk, hnm, hw, hPe⟩ := H
  intro T locs c1 s1 X F hc hs eT hk
  exact own_go (fun t q => XS.ifYes X.here hx rfl rfl (hb hby hd) rfl (XT.i0_gt_t hq) ho hp q) (k T locs c1 s1 X F hc hs eT hk)
theorem own_ifgt_f (H : own_Ok B Z a0 l R y code N ret) {x : Int32} {o : Int} (hd : decode code pc = .ok (.ifCond .gt o, 3)) (hq : ¬ 0 < x) (k : own_G B n0 Q kc ks cells slots h (pc + 3) Ls st) : own_G B n0 Q kc ks cells slots h pc Ls (.int x :: st) := by
  obtain ⟨p, l, e, R, s, m, args, below, meth, c, k0, P⟩ := B
  obtain ⟨rfl, rfl, hx, hZ, hown, hby, hml, hrt, hlk, hnm, hw, hPe⟩ := H
  intro T locs c1 s1 X F hc hs eT hk
  exact own_go (fun t q => XS.ifNo X.here hx rfl (hb hby hd) rfl (XT.i0_gt_f hq) q) (k T locs c1 s1 X F hc hs eT hk)
theorem own_icmpgt_t (H : own_Ok B Z a0 l R y code N ret) {x z : Int32} {o : Int} (hd : decode code pc = .ok (.if_icmp .gt o, 3)) (ho : 0 ≤ (pc : Int) + o) (hp : ((pc : Int) + o).toNat = pc') (hq : z < x) (k : own_G B n0 Q kc ks cells slots h pc' Ls st) : own_G B n0 Q kc ks cells slots h pc Ls (.int z :: .int x :: st) := by
  obtain ⟨p, l, e, R, s, m, args, below, meth, c, k0, P⟩ := B
  obtain ⟨rfl, rfl, hx, hZ, hown, hby, hml, hrt, hlk, hnm, hw, hPe⟩ := H
  intro T locs c1 s1 X F hc hs eT hk
  exact own_go (fun t q => XS.icmpYes X.here hx rfl rfl (hb hby hd) rfl (XT.ii_gt_t hq) ho hp q) (k T locs c1 s1 X F hc hs eT hk)
theorem own_icmpgt_f (H : own_Ok B Z a0 l R y code N ret) {x z : Int32} {o : Int} (hd : decode code pc = .ok (.if_icmp .gt o, 3)) (hq : ¬ z < x) (k : own_G B n0 Q kc ks cells slots h (pc + 3) Ls st) : own_G B n0 Q kc ks cells slots h pc Ls (.int z :: .int x :: st) := by
  obtain ⟨p, l, e, R, s, m, args, below, meth, c, k0, P⟩ := B
  obtain ⟨rfl, rfl, hx, hZ, hown, hby, hml, hrt, hlk, hnm, hw, hPe⟩ := H
  intro T locs c1 s1 X F hc hs eT hk
  exact own_go (fun t q => XS.icmpNo X.here hx rfl (hb hby hd) rfl (XT.ii_gt_f hq) q) (k T locs c1 s1 X F hc hs eT hk)
theorem own_lcmpgt_t (H : own_Ok B Z a0 l R y code N ret) {x z : Int64} {o : Int} (hd0 : decode code pc = .ok (.lcmp, 1)) (hd : decode code (pc + 1) = .ok (.ifCond .gt o, 3)) (ho : 0 ≤ ((pc + 1 : Nat) : Int) + o) (hp : (((pc + 1 : Nat) : Int) + o).toNat = pc') (hq : z < x) (k : own_G B n0 Q kc ks cells slots h pc' Ls st) : own_G B n0 Q kc ks cells slots h pc Ls (.long z :: .long x :: st) := by
  obtain ⟨p, l, e, R, s, m, args, below, meth, c, k0, P⟩ := B
  obtain ⟨rfl, rfl, hx, hZ, hown, hby, hml, hrt, hlk, hnm, hw, hPe⟩ := H
  intro T locs c1 s1 X F hc hs eT hk
  exact own_go (fun t q => XT.lcmp X.here hx rfl (hb hby hd0) rfl (XS.ifYes X.here hx rfl rfl (hb hby hd) rfl (XT.ll_gt_t hq) ho hp q)) (k T locs c1 s1 X F hc hs eT hk)
theorem own_lcmpgt_f (H : own_Ok B Z a0 l R y code N ret) {x z : Int64} {o : Int} (hd0 : decode code pc = .ok (.lcmp, 1)) (hd : decode code (pc + 1) = .ok (.ifCond .gt o, 3)) (hq : ¬ z < x) (k : own_G B n0 Q kc ks cells slots h (pc + 4) Ls st) : own_G B n0 Q kc ks cells slots h pc Ls (.long z :: .long x :: st) := by
  obtain ⟨p, l, e, R, s, m, args, below, meth, c, k0, P⟩ := B
  obtain ⟨rfl, rfl, hx, hZ, hown, hby, hml, hrt, hlk, hnm, hw, hPe⟩ := H
  intro T locs c1 s1 X F hc hs eT hk
  exact own_go (fun t q => XT.lcmp X.here hx rfl (hb hby hd0) rfl (XS.ifNo X.here hx rfl (hb hby hd) rfl (XT.ll_gt_f hq) q)) (k T locs c1 s1 X F hc hs eT hk)
theorem own_ifle_t (H : own_Ok B Z a0 l R y code N ret) {x : Int32} {o : Int} (hd : decode code pc = .ok (.ifCond .le o, 3)) (ho : 0 ≤ (pc : Int) + o) (hp : ((pc : Int) + o).toNat = pc') (hq : ¬ 0 < x) (k : own_G B n0 Q kc ks cells slots h pc' Ls st) : own_G B n0 Q kc ks cells slots h pc Ls (.int x :: st) := by
  obtain ⟨p, l, e, R, s, m, args, below, meth, c, k0, P⟩ := B
  obtain ⟨rfl, rfl, hx, hZ, hown, hby, hml, hrt, hlk, hnm, hw, hPe⟩ := H
  intro T locs c1 s1 X F hc hs eT hk
  exact own_go (fun t q => XS.ifYes X.here hx rfl rfl (hb hby hd) rfl (XT.i0_le_t hq) ho hp q) (k T locs c1 s1 X F hc hs eT hk)
theorem own_ifle_f (H : own_Ok B Z a0 l R y code N ret) {x : Int32} {o : Int} (hd : decode code pc = .ok (.ifCond .le o, 3)) (hq : 0 < x) (k : own_G B n0 Q kc ks cells slots h (pc + 3) Ls st) : own_G B n0 Q kc ks cells slots h pc Ls (.int x :: st) := by
  obtain ⟨p, l, e, R, s, m, args, below, meth, c, k0, P⟩ := B
  obtain ⟨rfl, rfl, hx, hZ, hown, hby, hml, hrt, hlk, hnm, hw, hPe⟩ := H
  intro T locs c1 s1 X F hc hs eT hk
  exact own_go (fun t q => XS.ifNo X.here hx rfl (hb hby hd) rfl (XT.i0_le_f hq) q) (k T locs c1 s1 X F hc hs eT hk)
theorem own_icmple_t (H : own_Ok B Z a0 l R y code N ret) {x z : Int32} {o : Int} (hd : decode code pc = .ok (.if_icmp .le o, 3)) (ho : 0 ≤ (pc : Int) + o) (hp : ((pc : Int) + o).toNat = pc') (hq : ¬ z < x) (k : own_G B n0 Q kc ks cells slots h pc' Ls st) : own_G B n0 Q kc ks cells slots h pc Ls (.int z :: .int x :: st) := by
  obtain ⟨p, l, e, R, s, m, args, below, meth, c, k0, P⟩ := B
  obtain ⟨rfl, rfl, hx, hZ, hown, hby, hml, hrt, hlk, hnm, hw, hPe⟩ := H
  intro T locs c1 s1 X F hc hs eT hk
  exact own_go (fun t q => XS.icmpYes X.here hx rfl rfl (hb hby hd) rfl (XT.ii_le_t hq) ho hp q) (k T locs c1 s1 X F hc hs eT hk)
theorem own_icmple_f (H : own_Ok B Z a0 l R y code N ret) {x z : Int32} {o : Int} (hd : decode code pc = .ok (.if_icmp .le o, 3)) (hq : z < x) (k : own_G B n0 Q kc ks cells slots h (pc + 3) Ls st) : own_G B n0 Q kc ks cells slots h pc Ls (.int z :: .int x :: st) := by
  obtain ⟨p, l, e, R, s, m, args, below, meth, c, k0, P⟩ := B
  obtain ⟨rfl, rfl, hx, hZ, hown, hby, hml, hrt, hlk, hnm, hw, hPe⟩ := H
  intro T locs c1 s1 X F hc hs eT hk
  exact own_go (fun t q => XS.icmpNo X.here hx rfl (hb hby hd) rfl (XT.ii_le_f hq) q) (k T locs c1 s1 X F hc hs eT hk)
theorem own_lcmple_t (H : own_Ok B Z a0 l R y code N ret) {x z : Int64} {o : Int} (hd0 : decode code pc = .ok (.lcmp, 1)) (hd : decode code (pc + 1) = .ok (.ifCond .le o, 3)) (ho : 0 ≤ ((pc + 1 : Nat) : Int) + o) (hp : (((pc + 1 : Nat) : Int) + o).toNat = pc') (hq : ¬ z < x) (k : own_G B n0 Q kc ks cells slots h pc' Ls st) : own_G B n0 Q kc ks cells slots h pc Ls (.long z :: .long x :: st) := by
  obtain ⟨p, l, e, R, s, m, args, below, meth, c, k0, P⟩ := B
  obtain ⟨rfl, rfl, hx, hZ, hown, hby, hml, hrt, hlk, hnm, hw, hPe⟩ := H
  intro T locs c1 s1 X F hc hs eT hk
  exact own_go (fun t q => XT.lcmp X.here hx rfl (hb hby hd0) rfl (XS.ifYes X.here hx rfl rfl (hb hby hd) rfl (XT.ll_le_t hq) ho hp q)) (k T locs c1 s1 X F hc hs eT hk)
theorem own_lcmple_f (H : own_Ok B Z a0 l R y code N ret) {x z : Int64} {o : Int} (hd0 : decode code pc = .ok (.lcmp, 1)) (hd : decode code (pc + 1) = .ok (.ifCond .le o, 3)) (hq : z < x) (k : own_G B n0 Q kc ks cells slots h (pc + 4) Ls st) : own_G B n0 Q kc ks cells slots h pc Ls (.long z :: .long x :: st) := by
  obtain ⟨p, l, e, R, s, m, args, below, meth, c, k0, P⟩ := B
  obtain ⟨rfl, rfl, hx, hZ, hown, hby, hml, hrt, hlk, hnm, hw, hPe⟩ := H
  intro T locs c1 s1 X F hc hs eT hk
  exact own_go (fun t q => XT.lcmp X.here hx rfl (hb hby hd0) rfl (XS.ifNo X.here hx rfl (hb hby hd) rfl (XT.ll_le_f hq) q)) (k T locs c1 s1 X F hc hs eT hk)
theorem own_acmpeq_t (H : own_Ok B Z a0 l R y code N ret) {x z : Value} {o : Int} (hd : decode code pc = .ok (.if_acmp .eq o, 3)) (ho : 0 ≤ (pc : Int) + o) (hp : ((pc : Int) + o).toNat = pc') (h1 : x.isRef = true) (h2 : z.isRef = true) (hq : x = z) (k : own_G B n0 Q kc ks cells slots h pc' Ls st) : own_G B n0 Q kc ks cells slots h pc Ls (z :: x :: st) := by
  obtain ⟨p, l, e, R, s, m, args, below, meth, c, k0, P⟩ := B
  obtain ⟨rfl, rfl, hx, hZ, hown, hby, hml, hrt, hlk, hnm, hw, hPe⟩ := H
  intro T locs c1 s1 X F hc hs eT hk
  exact own_go (fun t q => XT.acmpYes X.here hx rfl rfl (hb hby hd) rfl h1 h2 (XT.aa_eq_t hq) ho hp q) (k T locs c1 s1 X F hc hs eT hk)
theorem own_acmpeq_f (H : own_Ok B Z a0 l R y code N ret) {x z : Value} {o : Int} (hd : decode code pc = .ok (.if_acmp .eq o, 3)) (h1 : x.isRef = true) (h2 : z.isRef = true) (hq : ¬ x = z) (k : own_G B n0 Q kc ks cells slots h (pc + 3) Ls st) : own_G B n0 Q kc ks cells slots h pc Ls (z :: x :: st) := by
  obtain ⟨p, l, e, R, s, m, args, below, meth, c, k0, P⟩ := B
  obtain ⟨rfl, rfl, hx, hZ, hown, hby, hml, hrt, hlk, hnm, hw, hPe⟩ := H
  intro T locs c1 s1 X F hc hs eT hk
  exact own_go (fun t q => XT.acmpNo X.here hx rfl (hb hby hd) rfl h1 h2 (XT.aa_eq_f hq) q) (k T locs c1 s1 X F hc hs eT hk)
theorem own_acmpne_t (H : own_Ok B Z a0 l R y code N ret) {x z : Value} {o : Int} (hd : decode code pc = .ok (.if_acmp .ne o, 3)) (ho : 0 ≤ (pc : Int) + o) (hp : ((pc : Int) + o).toNat = pc') (h1 : x.isRef = true) (h2 : z.isRef = true) (hq : ¬ x = z) (k : own_G B n0 Q kc ks cells slots h pc' Ls st) : own_G B n0 Q kc ks cells slots h pc Ls (z :: x :: st) := by
  obtain ⟨p, l, e, R, s, m, args, below, meth, c, k0, P⟩ := B
  obtain ⟨rfl, rfl, hx, hZ, hown, hby, hml, hrt, hlk, hnm, hw, hPe⟩ := H
  intro T locs c1 s1 X F hc hs eT hk
  exact own_go (fun t q => XT.acmpYes X.here hx rfl rfl (hb hby hd) rfl h1 h2 (XT.aa_ne_t hq) ho hp q) (k T locs c1 s1 X F hc hs eT hk)
theorem own_acmpne_f (H : own_Ok B Z a0 l R y code N ret) {x z : Value} {o : Int} (hd : decode code pc = .ok (.if_acmp .ne o, 3)) (h1 : x.isRef = true) (h2 : z.isRef = true) (hq : x = z) (k : own_G B n0 Q kc ks cells slots h (pc + 3) Ls st) : own_G B n0 Q kc ks cells slots h pc Ls (z :: x :: st) := by
  obtain ⟨p, l, e, R, s, m, args, below, meth, c, k0, P⟩ := B
  obtain ⟨rfl, rfl, hx, hZ, hown, hby, hml, hrt, hlk, hnm, hw, hPe⟩ := H
  intro T locs c1 s1 X F hc hs eT hk
  exact own_go (fun t q => XT.acmpNo X.here hx rfl (hb hby hd) rfl h1 h2 (XT.aa_ne_f hq) q) (k T locs c1 s1 X F hc hs eT hk)
theorem own_ifnull_t (H : own_Ok B Z a0 l R y code N ret) {x : Value} {o : Int} (hd : decode code pc = .ok (.ifnull o, 3)) (ho : 0 ≤ (pc : Int) + o) (hp : ((pc : Int) + o).toNat = pc') (h1 : x.isRef = true) (hq : x = .null) (k : own_G B n0 Q kc ks cells slots h pc' Ls st) : own_G B n0 Q kc ks cells slots h pc Ls (x :: st) := by
  obtain ⟨p, l, e, R, s, m, args, below, meth, c, k0, P⟩ := B
  obtain ⟨rfl, rfl, hx, hZ, hown, hby, hml, hrt, hlk, hnm, hw, hPe⟩ := H
  intro T locs c1 s1 X F hc hs eT hk
  exact own_go (fun t q => XT.nullYes X.here hx rfl rfl (hb hby hd) rfl hq ho hp q) (k T locs c1 s1 X F hc hs eT hk)
theorem own_ifnull_f (H : own_Ok B Z a0 l R y code N ret) {x : Value} {o : Int} (hd : decode code pc = .ok (.ifnull o, 3)) (h1 : x.isRef = true) (hq : ¬ x = .null) (k : own_G B n0 Q kc ks cells slots h (pc + 3) Ls st) : own_G B n0 Q kc ks cells slots h pc Ls (x :: st) := by
  obtain ⟨p, l, e, R, s, m, args, below, meth, c, k0, P⟩ := B
  obtain ⟨rfl, rfl, hx, hZ, hown, hby, hml, hrt, hlk, hnm, hw, hPe⟩ := H
  intro T locs c1 s1 X F hc hs eT hk
  exact own_go (fun t q => XT.nullNo X.here hx rfl (hb hby hd) rfl h1 hq q) (k T locs c1 s1 X F hc hs eT hk)
theorem own_ifnonnull_t (H : own_Ok B Z a0 l R y code N ret) {x : Value} {o : Int} (hd : decode code pc = .ok (.ifnonnull o, 3)) (ho : 0 ≤ (pc : Int) + o) (hp : ((pc : Int) + o).toNat = pc') (h1 : x.isRef = true) (hq : ¬ x = .null) (k : own_G B n0 Q kc ks cells slots h pc' Ls st) : own_G B n0 Q kc ks cells slots h pc Ls (x :: st) := by
  obtain ⟨p, l, e, R, s, m, args, below, meth, c, k0, P⟩ := B
  obtain ⟨rfl, rfl, hx, hZ, hown, hby, hml, hrt, hlk, hnm, hw, hPe⟩ := H
  intro T locs c1 s1 X F hc hs eT hk
  exact own_go (fun t q => XT.nonnullYes X.here hx rfl rfl (hb hby hd) rfl h1 hq ho hp q) (k T locs c1 s1 X F hc hs eT hk)
theorem own_ifnonnull_f (H : own_Ok B Z a0 l R y code N ret) {x : Value} {o : Int} (hd : decode code pc = .ok (.ifnonnull o, 3)) (h1 : x.isRef = true) (hq : x = .null) (k : own_G B n0 Q kc ks cells slots h (pc + 3) Ls st) : own_G B n0 Q kc ks cells slots h pc Ls (x :: st) := by
  obtain ⟨p, l, e, R, s, m, args, below, meth, c, k0, P⟩ := B
  obtain ⟨rfl, rfl, hx, hZ, hown, hby, hml, hrt, hlk, hnm, hw, hPe⟩ := H
  intro T locs c1 s1 X F hc hs eT hk
  exact own_go (fun t q => XT.nonnullNo X.here hx rfl (hb hby hd) rfl hq q) (k T locs c1 s1 X F hc hs eT hk)
theorem own_ldcI (H : own_Ok B Z a0 l R y code N ret) {i w : Nat} {v : Int32} (q : tables_1[w]? = some (Jvm.Cond.constant y.cls i v)) (hd : decode code pc = .ok (.ldc i, 2)) (k : own_G B n0 Q kc ks cells slots h (pc + 2) Ls (.int v :: st)) : own_G B n0 Q kc ks cells slots h pc Ls st := by
  obtain ⟨p, l, e, R, s, m, args, below, meth, c, k0, P⟩ := B
  obtain ⟨rfl, rfl, hx, hZ, hown, hby, hml, hrt, hlk, hnm, hw, hPe⟩ := H
  intro T locs c1 s1 X F hc hs eT hk
  exact own_go (fun t r => X.ldcInt hx hown (mvT hZ (hw _ _ q)) (g := mkF m pc Ls st) rfl (hb hby hd) _ r) (k T locs c1 s1 X F hc hs eT hk)
theorem own_ldcwI (H : own_Ok B Z a0 l R y code N ret) {i w : Nat} {v : Int32} (q : tables_1[w]? = some (Jvm.Cond.constant y.cls i v)) (hd : decode code pc = .ok (.ldc_w i, 3)) (k : own_G B n0 Q kc ks cells slots h (pc + 3) Ls (.int v :: st)) : own_G B n0 Q kc ks cells slots h pc Ls st := by
  obtain ⟨p, l, e, R, s, m, args, below, meth, c, k0, P⟩ := B
  obtain ⟨rfl, rfl, hx, hZ, hown, hby, hml, hrt, hlk, hnm, hw, hPe⟩ := H
  intro T locs c1 s1 X F hc hs eT hk
  exact own_go (fun t r => X.ldcwInt hx hown (mvT hZ (hw _ _ q)) (g := mkF m pc Ls st) rfl (hb hby hd) _ r) (k T locs c1 s1 X F hc hs eT hk)
theorem own_ldc2J (H : own_Ok B Z a0 l R y code N ret) {i w : Nat} {v : Int64} (q : tables_1[w]? = some (Jvm.Cond.constantLong y.cls i v)) (hd : decode code pc = .ok (.ldc2_w i, 3)) (k : own_G B n0 Q kc ks cells slots h (pc + 3) Ls (.long v :: st)) : own_G B n0 Q kc ks cells slots h pc Ls st := by
  obtain ⟨p, l, e, R, s, m, args, below, meth, c, k0, P⟩ := B
  obtain ⟨rfl, rfl, hx, hZ, hown, hby, hml, hrt, hlk, hnm, hw, hPe⟩ := H
  intro T locs c1 s1 X F hc hs eT hk
  exact own_go (fun t r => X.ldc2Long hx hown (mvT hZ (hw _ _ q)) (g := mkF m pc Ls st) rfl (hb hby hd) _ r) (k T locs c1 s1 X F hc hs eT hk)
theorem own_ireturn {t : FieldType} (H : own_Ok B Z a0 l R y code N (some t)) {z : Int32} (ht : t = .int ∨ t = .boolean ∨ t = .byte ∨ t = .char ∨ t = .short) (hn : narrow t (.int z) = .int z) (hd : decode code pc = .ok (.ireturn, 1)) (hkc : cells ≤ kc) (hks : slots ≤ ks) (hQ : Q (some (.int z)) h) : own_G B n0 Q kc ks cells slots h pc Ls (.int z :: st) := by
  obtain ⟨p, l, e, R, s, m, args, below, meth, c, k0, P⟩ := B
  obtain ⟨rfl, rfl, hx, hZ, hown, hby, hml, hrt, hlk, hnm, hw, hPe⟩ := H
  intro T locs c1 s1 X F hc hs eT hk
  obtain ⟨fs, hr, hrun, hended, hW, hsame⟩ := X.leave (v := some (.int z)) (fun h => by rw [hrt] at h; cases h) hlk
  exact ⟨_, _, retOut X hx hrt hn (Or.inl ⟨rfl, ht, _, rfl⟩) (hb hby hd) hr, hrun, hended, _, _, rfl, ⟨by show Q _ T.heap; rw [eT]; exact hQ, F⟩, hPe _ _ _ _ _ (by show k0 ≤ T.heap.size; rw [eT]; exact hk) ⟨⟨_, rfl⟩, hW, hsame.mono (Nat.le_trans hc hkc) (Nat.le_trans hs hks)⟩⟩
theorem own_lreturn (H : own_Ok B Z a0 l R y code N (some .long)) {z : Int64} (hd : decode code pc = .ok (.lreturn, 1)) (hkc : cells ≤ kc) (hks : slots ≤ ks) (hQ : Q (some (.long z)) h) : own_G B n0 Q kc ks cells slots h pc Ls (.long z :: st) := by
  obtain ⟨p, l, e, R, s, m, args, below, meth, c, k0, P⟩ := B
  obtain ⟨rfl, rfl, hx, hZ, hown, hby, hml, hrt, hlk, hnm, hw, hPe⟩ := H
  intro T locs c1 s1 X F hc hs eT hk
  obtain ⟨fs, hr, hrun, hended, hW, hsame⟩ := X.leave (v := some (.long z)) (fun h => by rw [hrt] at h; cases h) hlk
  exact ⟨_, _, retOut X hx hrt rfl (Or.inr (Or.inl ⟨rfl, rfl, _, rfl⟩)) (hb hby hd) hr, hrun, hended, _, _, rfl, ⟨by show Q _ T.heap; rw [eT]; exact hQ, F⟩, hPe _ _ _ _ _ (by show k0 ≤ T.heap.size; rw [eT]; exact hk) ⟨⟨_, rfl⟩, hW, hsame.mono (Nat.le_trans hc hkc) (Nat.le_trans hs hks)⟩⟩
theorem own_areturn {t : FieldType} (H : own_Ok B Z a0 l R y code N (some t)) (ht : t.isReference = true) {z : Value} (hz : z.isRef = true) (hn : narrow t z = z) (hd : decode code pc = .ok (.areturn, 1)) (hkc : cells ≤ kc) (hks : slots ≤ ks) (hQ : Q (some z) h) : own_G B n0 Q kc ks cells slots h pc Ls (z :: st) := by
  obtain ⟨p, l, e, R, s, m, args, below, meth, c, k0, P⟩ := B
  obtain ⟨rfl, rfl, hx, hZ, hown, hby, hml, hrt, hlk, hnm, hw, hPe⟩ := H
  intro T locs c1 s1 X F hc hs eT hk
  obtain ⟨fs, hr, hrun, hended, hW, hsame⟩ := X.leave (v := some z) (fun h => by rw [hrt] at h; cases h) hlk
  exact ⟨_, _, retOut X hx hrt hn (Or.inr (Or.inr (Or.inr (Or.inr ⟨rfl, ht, hz⟩)))) (hb hby hd) hr, hrun, hended, _, _, rfl, ⟨by show Q _ T.heap; rw [eT]; exact hQ, F⟩, hPe _ _ _ _ _ (by show k0 ≤ T.heap.size; rw [eT]; exact hk) ⟨⟨_, rfl⟩, hW, hsame.mono (Nat.le_trans hc hkc) (Nat.le_trans hs hks)⟩⟩
theorem own_return (H : own_Ok B Z a0 l R y code N none) (hd : decode code pc = .ok (.return_, 1)) (hkc : cells ≤ kc) (hks : slots ≤ ks) (hQ : Q none h) : own_G B n0 Q kc ks cells slots h pc Ls [] := by
  obtain ⟨p, l, e, R, s, m, args, below, meth, c, k0, P⟩ := B
  obtain ⟨rfl, rfl, hx, hZ, hown, hby, hml, hrt, hlk, hnm, hw, hPe⟩ := H
  intro T locs c1 s1 X F hc hs eT hk
  obtain ⟨fs, hr, hrun, hended, hW, hsame⟩ := X.leave (v := none) (fun h => rfl) hlk
  exact ⟨_, _, X.returnOut hx hrt (hb hby hd) hr, hrun, hended, _, _, rfl, ⟨by show Q _ T.heap; rw [eT]; exact hQ, F⟩, hPe _ _ _ _ _ (by show k0 ≤ T.heap.size; rw [eT]; exact hk) ⟨⟨_, rfl⟩, hW, hsame.mono (Nat.le_trans hc hkc) (Nat.le_trans hs hks)⟩⟩
theorem own_getfield (H : own_Ok B Z a0 l R y code N ret) {O n d : String} {i w : Nat} (q : tables_1[w]? = some (Jvm.Cond.fieldLink y.cls i O n d)) {a : Addr} {v : Value} (Fd : Fld Z h a O n d v) (hd : decode code pc = .ok (.getfield i, 3)) (k : own_G B n0 Q kc ks cells slots h (pc + 3) Ls (v :: st)) : own_G B n0 Q kc ks cells slots h pc Ls (.ref a :: st) := by
  obtain ⟨p, l, e, R, s, m, args, below, meth, c, k0, P⟩ := B
  obtain ⟨rfl, rfl, hx, hZ, hown, hby, hml, hrt, hlk, hnm, hw, hPe⟩ := H
  intro T locs c1 s1 X F hc hs eT hk
  obtain ⟨T', X', e', s'⟩ := getF X hx hZ hown (host := "") (Or.inl (hw _ _ q)) Via.refl eT Fd (g := mkF m pc Ls (.ref a :: st)) rfl rfl (hb hby hd)
  exact own_go s' (k T' locs c1 s1 X' F hc hs e' hk)
theorem own_getstatic (H : own_Ok B Z a0 l R y code N ret) {O n d : String} {i w : Nat} (q : tables_1[w]? = some (Jvm.Cond.fieldLink y.cls i O n d)) {v : Value} (Fd : Sta Z h O n d v) (hd : decode code pc = .ok (.getstatic i, 3)) (k : own_G B n0 Q kc ks cells slots h (pc + 3) Ls (v :: st)) : own_G B n0 Q kc ks cells slots h pc Ls st := by
  obtain ⟨p, l, e, R, s, m, args, below, meth, c, k0, P⟩ := B
  obtain ⟨rfl, rfl, hx, hZ, hown, hby, hml, hrt, hlk, hnm, hw, hPe⟩ := H
  intro T locs c1 s1 X F hc hs eT hk
  obtain ⟨T', X', e', s'⟩ := getS X hx hZ hown (host := "") (hw _ _ q) Via.refl eT Fd (g := mkF m pc Ls st) rfl (hb hby hd)
  exact own_go s' (k T' locs c1 s1 X' F hc hs e' hk)
theorem own_putfield (H : own_Ok B Z a0 l R y code N ret) {O n d C : String} {i w wi kk : Nat} {ty : FieldType} (q : tables_1[w]? = some (Jvm.Cond.fieldLink y.cls i O n d)) {a : Addr} {v old : Value} (Fd : Fld Z h a O n d old) (E : Exa Z h a C) (ha : n0 ≤ a)
    (Lw : (Jvm.Cond.lays C O n d).before a0 Z = true ∨ ((Jvm.Cond.laysFinal C O n d).before a0 Z = true ∧ y.cls = O ∧ y.name = "<init>")) (qi : tables_1[wi]? = some (Jvm.Cond.instantiable C kk)) (hty : parseFieldDescriptor d = some ty) (hn : narrow ty v = v) (hf : fits ty v = true)
    (hd : decode code pc = .ok (.putfield i, 3)) (k : ∀ h', Wr h h' a (Jvm.RoadKit.slotOf Z O n d) v → own_G B n0 Q kc ks cells slots h' (pc + 3) Ls st) : own_G B n0 Q kc ks cells slots h pc Ls (v :: .ref a :: st) := by
  obtain ⟨p, l, e, R, s, m, args, below, meth, c, k0, P⟩ := B
  obtain ⟨rfl, rfl, hx, hZ, hown, hby, hml, hrt, hlk, hnm, hw, hPe⟩ := H
  intro T locs c1 s1 X F hc hs eT hk
  obtain ⟨T', h', X', e', W', s'⟩ := putF X hx hZ hown (host := "") (Or.inl (hw _ _ q)) Via.refl eT Fd E (Lw.imp id fun z => ⟨z.1, z.2.1, hnm.trans z.2.2⟩) (hw _ _ qi) hty hn hf (g := mkF m pc Ls (v :: .ref a :: st)) rfl rfl (hb hby hd)
  exact own_go s' (k h' W' T' _ c1 s1 X' (Fr.snoc X' F ha) hc hs e' (by rw [W'.size]; exact hk))
theorem own_new (H : own_Ok B Z a0 l R y code N ret) {C : String} {i n w wi wz : Nat} (q : tables_1[w]? = some (Jvm.Cond.classLink y.cls i C)) (qi : tables_1[wi]? = some (Jvm.Cond.instantiable C n)) (qz : tables_1[wz]? = some (Jvm.Cond.initialized C)) (hd : decode code pc = .ok (.new i, 3)) (hkc : cells + 1 ≤ R.cells) (hks : slots + n ≤ R.slots)
    (k : ∀ h' a, a = h.size → Ext h h' → Exa Z h' a C → (∀ {O nm d : String} {ty : FieldType}, Laid Z a0 C O nm d → parseFieldDescriptor d = some ty → Fld Z h' a O nm d (defaultValue ty)) → own_G B n0 Q kc ks (cells + 1) (slots + n) h' (pc + 3) Ls (.ref a :: st)) : own_G B n0 Q kc ks cells slots h pc Ls st := by
  obtain ⟨p, l, e, R, s, m, args, below, meth, c, k0, P⟩ := B
  obtain ⟨rfl, rfl, hx, hZ, hown, hby, hml, hrt, hlk, hnm, hw, hPe⟩ := H
  intro T locs c1 s1 X F hc hs eT hk
  obtain ⟨T', h', X', e', E', A', D', -, s'⟩ := newO X hx hZ hown (hw _ _ q) (hw _ _ qi) (hw _ _ qz) eT (g := mkF m pc Ls st) rfl (hb hby hd) (Nat.le_trans (Nat.add_le_add_right hc 1) hkc) (Nat.le_trans (Nat.add_le_add_right hs n) hks)
  exact own_go s' (k h' h.size rfl E' A' D' T' locs _ _ X' F (Nat.add_le_add_right hc 1) (Nat.add_le_add_right hs n) e' (Nat.le_trans hk E'.1))
theorem own_newarray (H : own_Ok B Z a0 l R y code N ret) {aty : ArrayType} {w : Nat} (q : tables_1[w]? = some (Jvm.Cond.arrayClass (newarray.typeOf aty))) {n : Int32} (hn : ¬ n < 0) (cap : Nat) (hcap : n.toNatClampNeg ≤ cap) (hcb : cap * 8 ≤ 536870912) (hd : decode code pc = .ok (.newarray aty, 2)) (hkc : cells + 1 ≤ R.cells) (hks : slots + cap ≤ R.slots)
    (k : ∀ h' a kA, a = h.size → Ext h h' → Arv Z h' a kA (newarray.typeOf aty) n [] (defaultValue (newarray.typeOf aty)) → own_G B n0 Q kc ks (cells + 1) (slots + cap) h' (pc + 2) Ls (.ref a :: st)) : own_G B n0 Q kc ks cells slots h pc Ls (.int n :: st) := by
  obtain ⟨p, l, e, R, s, m, args, below, meth, c, k0, P⟩ := B
  obtain ⟨rfl, rfl, hx, hZ, hown, hby, hml, hrt, hlk, hnm, hw, hPe⟩ := H
  intro T locs c1 s1 X F hc hs eT hk
  obtain ⟨T', h', kA, X', e', E', A', s'⟩ := newP X hx hZ (hw _ _ q) eT (g := mkF m pc Ls (.int n :: st)) rfl (hb hby hd) rfl hn hcap hcb (Nat.le_trans (Nat.add_le_add_right hc 1) hkc) (Nat.le_trans (Nat.add_le_add_right hs cap) hks)
  exact own_go s' (k h' h.size kA rfl E' (Arv.new A' hn) T' locs _ _ X' F (Nat.add_le_add_right hc 1) (Nat.add_le_add_right hs cap) e' (Nat.le_trans hk E'.1))
theorem own_anewarray (H : own_Ok B Z a0 l R y code N ret) {C : String} {i w w2 : Nat} (q : tables_1[w]? = some (Jvm.Cond.classLink y.cls i C)) (q2 : tables_1[w2]? = some (Jvm.Cond.arrayOver (.object C))) {n : Int32} (hn : ¬ n < 0) (cap : Nat) (hcap : n.toNatClampNeg ≤ cap) (hcb : cap * 8 ≤ 536870912) (hd : decode code pc = .ok (.anewarray i, 3)) (hkc : cells + 1 ≤ R.cells) (hks : slots + cap ≤ R.slots)
    (k : ∀ h' a kA, a = h.size → Ext h h' → Arv Z h' a kA (.object C) n [] .null → Ovr Z kA C → own_G B n0 Q kc ks (cells + 1) (slots + cap) h' (pc + 3) Ls (.ref a :: st)) : own_G B n0 Q kc ks cells slots h pc Ls (.int n :: st) := by
  obtain ⟨p, l, e, R, s, m, args, below, meth, c, k0, P⟩ := B
  obtain ⟨rfl, rfl, hx, hZ, hown, hby, hml, hrt, hlk, hnm, hw, hPe⟩ := H
  intro T locs c1 s1 X F hc hs eT hk
  obtain ⟨T', h', kA, X', e', E', A', O', s'⟩ := newR X hx hZ hown (hw _ _ q) (hw _ _ q2) eT (g := mkF m pc Ls (.int n :: st)) rfl (hb hby hd) rfl hn hcap hcb (Nat.le_trans (Nat.add_le_add_right hc 1) hkc) (Nat.le_trans (Nat.add_le_add_right hs cap) hks)
  exact own_go s' (k h' h.size kA rfl E' (Arv.new A' hn) O' T' locs _ _ X' F (Nat.add_le_add_right hc 1) (Nat.add_le_add_right hs cap) e' (Nat.le_trans hk E'.1))
theorem own_iaload (H : own_Ok B Z a0 l R y code N ret) {a : Addr} {cl : Cell} {j : Int32} {v : Value} (A : Arr Z h a cl .int) (hin : ¬ (j < 0 ∨ cl.slots.size ≤ j.toNatClampNeg)) (hv : cl.slots[j.toNatClampNeg]? = some v) (hd : decode code pc = .ok (.iaload, 1)) (k : own_G B n0 Q kc ks cells slots h (pc + 1) Ls (v :: st)) : own_G B n0 Q kc ks cells slots h pc Ls (.int j :: .ref a :: st) := by
  obtain ⟨p, l, e, R, s, m, args, below, meth, c, k0, P⟩ := B
  obtain ⟨rfl, rfl, hx, hZ, hown, hby, hml, hrt, hlk, hnm, hw, hPe⟩ := H
  intro T locs c1 s1 X F hc hs eT hk
  exact own_go (fun t r => X.iaload hx (j := j) (v := v) (by rw [eT]; exact A.1) (State.isArrayOf_alike hZ.alike A.2.1) A.2.2 hin hv (g := mkF m pc Ls (.int j :: .ref a :: st)) rfl rfl (hb hby hd) _ r) (k T locs c1 s1 X F hc hs eT hk)
theorem own_laload (H : own_Ok B Z a0 l R y code N ret) {a : Addr} {cl : Cell} {j : Int32} {v : Value} (A : Arr Z h a cl .long) (hin : ¬ (j < 0 ∨ cl.slots.size ≤ j.toNatClampNeg)) (hv : cl.slots[j.toNatClampNeg]? = some v) (hd : decode code pc = .ok (.laload, 1)) (k : own_G B n0 Q kc ks cells slots h (pc + 1) Ls (v :: st)) : own_G B n0 Q kc ks cells slots h pc Ls (.int j :: .ref a :: st) := by
  obtain ⟨p, l, e, R, s, m, args, below, meth, c, k0, P⟩ := B
  obtain ⟨rfl, rfl, hx, hZ, hown, hby, hml, hrt, hlk, hnm, hw, hPe⟩ := H
  intro T locs c1 s1 X F hc hs eT hk
  exact own_go (fun t r => X.laload hx (j := j) (v := v) (by rw [eT]; exact A.1) (State.isArrayOf_alike hZ.alike A.2.1) A.2.2 hin hv (g := mkF m pc Ls (.int j :: .ref a :: st)) rfl rfl (hb hby hd) _ r) (k T locs c1 s1 X F hc hs eT hk)
theorem own_caload (H : own_Ok B Z a0 l R y code N ret) {a : Addr} {cl : Cell} {j : Int32} {v : Value} (A : Arr Z h a cl .char) (hin : ¬ (j < 0 ∨ cl.slots.size ≤ j.toNatClampNeg)) (hv : cl.slots[j.toNatClampNeg]? = some v) (hd : decode code pc = .ok (.caload, 1)) (k : own_G B n0 Q kc ks cells slots h (pc + 1) Ls (v :: st)) : own_G B n0 Q kc ks cells slots h pc Ls (.int j :: .ref a :: st) := by
  obtain ⟨p, l, e, R, s, m, args, below, meth, c, k0, P⟩ := B
  obtain ⟨rfl, rfl, hx, hZ, hown, hby, hml, hrt, hlk, hnm, hw, hPe⟩ := H
  intro T locs c1 s1 X F hc hs eT hk
  exact own_go (fun t r => X.caload hx (j := j) (v := v) (by rw [eT]; exact A.1) (State.isArrayOf_alike hZ.alike A.2.1) A.2.2 hin hv (g := mkF m pc Ls (.int j :: .ref a :: st)) rfl rfl (hb hby hd) _ r) (k T locs c1 s1 X F hc hs eT hk)
theorem own_baload (H : own_Ok B Z a0 l R y code N ret) {a : Addr} {cl : Cell} {j : Int32} {v : Value} (A : Arr Z h a cl .byte) (hin : ¬ (j < 0 ∨ cl.slots.size ≤ j.toNatClampNeg)) (hv : cl.slots[j.toNatClampNeg]? = some v) (hd : decode code pc = .ok (.baload, 1)) (k : own_G B n0 Q kc ks cells slots h (pc + 1) Ls (v :: st)) : own_G B n0 Q kc ks cells slots h pc Ls (.int j :: .ref a :: st) := by
  obtain ⟨p, l, e, R, s, m, args, below, meth, c, k0, P⟩ := B
  obtain ⟨rfl, rfl, hx, hZ, hown, hby, hml, hrt, hlk, hnm, hw, hPe⟩ := H
  intro T locs c1 s1 X F hc hs eT hk
  exact own_go (fun t r => X.baloadBytes hx (j := j) (v := v) (by rw [eT]; exact A.1) (State.isArrayOf_alike hZ.alike A.2.1) A.2.2 hin hv (g := mkF m pc Ls (.int j :: .ref a :: st)) rfl rfl (hb hby hd) _ r) (k T locs c1 s1 X F hc hs eT hk)
theorem own_aaload (H : own_Ok B Z a0 l R y code N ret) {a : Addr} {cl : Cell} {ty : FieldType} {j : Int32} {v : Value} (A : Arr Z h a cl ty) (hty : ty.isReference = true) (hin : ¬ (j < 0 ∨ cl.slots.size ≤ j.toNatClampNeg)) (hv : cl.slots[j.toNatClampNeg]? = some v) (hd : decode code pc = .ok (.aaload, 1)) (k : own_G B n0 Q kc ks cells slots h (pc + 1) Ls (v :: st)) : own_G B n0 Q kc ks cells slots h pc Ls (.int j :: .ref a :: st) := by
  obtain ⟨p, l, e, R, s, m, args, below, meth, c, k0, P⟩ := B
  obtain ⟨rfl, rfl, hx, hZ, hown, hby, hml, hrt, hlk, hnm, hw, hPe⟩ := H
  intro T locs c1 s1 X F hc hs eT hk
  exact own_go (fun t r => X.aaload hx (j := j) (v := v) (by rw [eT]; exact A.1) (State.isArrayOf_alike hZ.alike A.2.1) hty A.2.2 hin hv (g := mkF m pc Ls (.int j :: .ref a :: st)) rfl rfl (hb hby hd) _ r) (k T locs c1 s1 X F hc hs eT hk)
theorem own_arraylength (H : own_Ok B Z a0 l R y code N ret) {a : Addr} {cl : Cell} {ty : FieldType} {z : Int32} (A : Arr Z h a cl ty) (S : cl.slots.size = z.toNatClampNeg) (hz : ¬ z < 0) (hd : decode code pc = .ok (.arraylength, 1)) (k : own_G B n0 Q kc ks cells slots h (pc + 1) Ls (.int z :: st)) : own_G B n0 Q kc ks cells slots h pc Ls (.ref a :: st) := by
  obtain ⟨p, l, e, R, s, m, args, below, meth, c, k0, P⟩ := B
  obtain ⟨rfl, rfl, hx, hZ, hown, hby, hml, hrt, hlk, hnm, hw, hPe⟩ := H
  intro T locs c1 s1 X F hc hs eT hk
  refine own_go (fun t r => X.arraylength hx (by rw [eT]; exact A.1) (State.isArrayOf_alike hZ.alike A.2.1) (g := mkF m pc Ls (.ref a :: st)) rfl rfl (hb hby hd) _ r) ?_
  rw [len_of S hz]
  exact k T locs c1 s1 X F hc hs eT hk
theorem own_iastore (H : own_Ok B Z a0 l R y code N ret) {a : Addr} {cl : Cell} {j : Int32} {x : Int32} (A : Arr Z h a cl .int) (hin : ¬ (j < 0 ∨ cl.slots.size ≤ j.toNatClampNeg)) (ha : n0 ≤ a) (hd : decode code pc = .ok (.iastore, 1)) (k : ∀ h', Wr h h' a j.toNatClampNeg (.int x) → own_G B n0 Q kc ks cells slots h' (pc + 1) Ls st) : own_G B n0 Q kc ks cells slots h pc Ls (.int x :: .int j :: .ref a :: st) := by
  obtain ⟨p, l, e, R, s, m, args, below, meth, c, k0, P⟩ := B
  obtain ⟨rfl, rfl, hx, hZ, hown, hby, hml, hrt, hlk, hnm, hw, hPe⟩ := H
  intro T locs c1 s1 X F hc hs eT hk
  obtain ⟨T', h', X', e', W', s'⟩ := stI X hx hZ eT A hin (g := mkF m pc Ls (.int x :: .int j :: .ref a :: st)) rfl rfl (hb hby hd)
  exact own_go s' (k h' W' T' _ c1 s1 X' (Fr.snoc X' F ha) hc hs e' (by rw [W'.size]; exact hk))
theorem own_lastore (H : own_Ok B Z a0 l R y code N ret) {a : Addr} {cl : Cell} {j : Int32} {x : Int64} (A : Arr Z h a cl .long) (hin : ¬ (j < 0 ∨ cl.slots.size ≤ j.toNatClampNeg)) (ha : n0 ≤ a) (hd : decode code pc = .ok (.lastore, 1)) (k : ∀ h', Wr h h' a j.toNatClampNeg (.long x) → own_G B n0 Q kc ks cells slots h' (pc + 1) Ls st) : own_G B n0 Q kc ks cells slots h pc Ls (.long x :: .int j :: .ref a :: st) := by
  obtain ⟨p, l, e, R, s, m, args, below, meth, c, k0, P⟩ := B
  obtain ⟨rfl, rfl, hx, hZ, hown, hby, hml, hrt, hlk, hnm, hw, hPe⟩ := H
  intro T locs c1 s1 X F hc hs eT hk
  obtain ⟨T', h', X', e', W', s'⟩ := stJ X hx hZ eT A hin (g := mkF m pc Ls (.long x :: .int j :: .ref a :: st)) rfl rfl (hb hby hd)
  exact own_go s' (k h' W' T' _ c1 s1 X' (Fr.snoc X' F ha) hc hs e' (by rw [W'.size]; exact hk))
theorem own_bastore (H : own_Ok B Z a0 l R y code N ret) {a : Addr} {cl : Cell} {j : Int32} {x : Int32} (A : Arr Z h a cl .byte) (hin : ¬ (j < 0 ∨ cl.slots.size ≤ j.toNatClampNeg)) (ha : n0 ≤ a) (hd : decode code pc = .ok (.bastore, 1)) (k : ∀ h', Wr h h' a j.toNatClampNeg (.int (nar .byte x)) → own_G B n0 Q kc ks cells slots h' (pc + 1) Ls st) : own_G B n0 Q kc ks cells slots h pc Ls (.int x :: .int j :: .ref a :: st) := by
  obtain ⟨p, l, e, R, s, m, args, below, meth, c, k0, P⟩ := B
  obtain ⟨rfl, rfl, hx, hZ, hown, hby, hml, hrt, hlk, hnm, hw, hPe⟩ := H
  intro T locs c1 s1 X F hc hs eT hk
  obtain ⟨T', h', X', e', W', s'⟩ := stB X hx hZ eT A hin (g := mkF m pc Ls (.int x :: .int j :: .ref a :: st)) rfl rfl (hb hby hd)
  exact own_go s' (k h' W' T' _ c1 s1 X' (Fr.snoc X' F ha) hc hs e' (by rw [W'.size]; exact hk))
theorem own_castore (H : own_Ok B Z a0 l R y code N ret) {a : Addr} {cl : Cell} {j : Int32} {x : Int32} (A : Arr Z h a cl .char) (hin : ¬ (j < 0 ∨ cl.slots.size ≤ j.toNatClampNeg)) (ha : n0 ≤ a) (hd : decode code pc = .ok (.castore, 1)) (k : ∀ h', Wr h h' a j.toNatClampNeg (.int (nar .char x)) → own_G B n0 Q kc ks cells slots h' (pc + 1) Ls st) : own_G B n0 Q kc ks cells slots h pc Ls (.int x :: .int j :: .ref a :: st) := by
  obtain ⟨p, l, e, R, s, m, args, below, meth, c, k0, P⟩ := B
  obtain ⟨rfl, rfl, hx, hZ, hown, hby, hml, hrt, hlk, hnm, hw, hPe⟩ := H
  intro T locs c1 s1 X F hc hs eT hk
  obtain ⟨T', h', X', e', W', s'⟩ := stC X hx hZ eT A hin (g := mkF m pc Ls (.int x :: .int j :: .ref a :: st)) rfl rfl (hb hby hd)
  exact own_go s' (k h' W' T' _ c1 s1 X' (Fr.snoc X' F ha) hc hs e' (by rw [W'.size]; exact hk))
theorem own_ialoadV (H : own_Ok B Z a0 l R y code N ret) {a : Addr} {kA : ClassId} {n j : Int32} {vs : List Value} {dv v : Value} (V : Arv Z h a kA .int n vs dv) (h1 : ¬ j < 0) (h2 : j < n) (hv : vs.getD j.toNatClampNeg dv = v) (hd : decode code pc = .ok (.iaload, 1)) (k : own_G B n0 Q kc ks cells slots h (pc + 1) Ls (v :: st)) : own_G B n0 Q kc ks cells slots h pc Ls (.int j :: .ref a :: st) := by
  obtain ⟨cl, A, -, S, M, Hs, -⟩ := V
  exact own_iaload H A (inb_of S ⟨h1, h2⟩) (Hs.at (inb_of S ⟨h1, h2⟩) hv) hd k
theorem own_laloadV (H : own_Ok B Z a0 l R y code N ret) {a : Addr} {kA : ClassId} {n j : Int32} {vs : List Value} {dv v : Value} (V : Arv Z h a kA .long n vs dv) (h1 : ¬ j < 0) (h2 : j < n) (hv : vs.getD j.toNatClampNeg dv = v) (hd : decode code pc = .ok (.laload, 1)) (k : own_G B n0 Q kc ks cells slots h (pc + 1) Ls (v :: st)) : own_G B n0 Q kc ks cells slots h pc Ls (.int j :: .ref a :: st) := by
  obtain ⟨cl, A, -, S, M, Hs, -⟩ := V
  exact own_laload H A (inb_of S ⟨h1, h2⟩) (Hs.at (inb_of S ⟨h1, h2⟩) hv) hd k
theorem own_caloadV (H : own_Ok B Z a0 l R y code N ret) {a : Addr} {kA : ClassId} {n j : Int32} {vs : List Value} {dv v : Value} (V : Arv Z h a kA .char n vs dv) (h1 : ¬ j < 0) (h2 : j < n) (hv : vs.getD j.toNatClampNeg dv = v) (hd : decode code pc = .ok (.caload, 1)) (k : own_G B n0 Q kc ks cells slots h (pc + 1) Ls (v :: st)) : own_G B n0 Q kc ks cells slots h pc Ls (.int j :: .ref a :: st) := by
  obtain ⟨cl, A, -, S, M, Hs, -⟩ := V
  exact own_caload H A (inb_of S ⟨h1, h2⟩) (Hs.at (inb_of S ⟨h1, h2⟩) hv) hd k
theorem own_baloadV (H : own_Ok B Z a0 l R y code N ret) {a : Addr} {kA : ClassId} {n j : Int32} {vs : List Value} {dv v : Value} (V : Arv Z h a kA .byte n vs dv) (h1 : ¬ j < 0) (h2 : j < n) (hv : vs.getD j.toNatClampNeg dv = v) (hd : decode code pc = .ok (.baload, 1)) (k : own_G B n0 Q kc ks cells slots h (pc + 1) Ls (v :: st)) : own_G B n0 Q kc ks cells slots h pc Ls (.int j :: .ref a :: st) := by
  obtain ⟨cl, A, -, S, M, Hs, -⟩ := V
  exact own_baload H A (inb_of S ⟨h1, h2⟩) (Hs.at (inb_of S ⟨h1, h2⟩) hv) hd k
theorem own_aaloadV (H : own_Ok B Z a0 l R y code N ret) {a : Addr} {kA : ClassId} {ty : FieldType} {n j : Int32} {vs : List Value} {dv v : Value} (V : Arv Z h a kA ty n vs dv) (hty : ty.isReference = true) (h1 : ¬ j < 0) (h2 : j < n) (hv : vs.getD j.toNatClampNeg dv = v) (hd : decode code pc = .ok (.aaload, 1)) (k : own_G B n0 Q kc ks cells slots h (pc + 1) Ls (v :: st)) : own_G B n0 Q kc ks cells slots h pc Ls (.int j :: .ref a :: st) := by
  obtain ⟨cl, A, -, S, M, Hs, -⟩ := V
  exact own_aaload H A hty (inb_of S ⟨h1, h2⟩) (Hs.at (inb_of S ⟨h1, h2⟩) hv) hd k
theorem own_arraylengthV (H : own_Ok B Z a0 l R y code N ret) {a : Addr} {kA : ClassId} {ty : FieldType} {n : Int32} {vs : List Value} {dv : Value} (V : Arv Z h a kA ty n vs dv) (hd : decode code pc = .ok (.arraylength, 1)) (k : own_G B n0 Q kc ks cells slots h (pc + 1) Ls (.int n :: st)) : own_G B n0 Q kc ks cells slots h pc Ls (.ref a :: st) := by
  obtain ⟨cl, A, -, S, M, -, -⟩ := V
  exact own_arraylength H A S M hd k
theorem own_iastoreV (H : own_Ok B Z a0 l R y code N ret) {a : Addr} {kA : ClassId} {n j : Int32} {vs : List Value} {dv u : Value} {x : Int32} (V : Arv Z h a kA .int n vs dv) (h1 : ¬ j < 0) (h2 : j < n) (i : Nat) (hj : j.toNatClampNeg = i) (hi : i < vs.length) (ha : n0 ≤ a) (hu : (.int x) = u) (hd : decode code pc = .ok (.iastore, 1)) (k : ∀ h', Wr h h' a j.toNatClampNeg u → Arv Z h' a kA .int n (vs.set i u) dv → own_G B n0 Q kc ks cells slots h' (pc + 1) Ls st) : own_G B n0 Q kc ks cells slots h pc Ls (.int x :: .int j :: .ref a :: st) := by
  subst hu
  obtain ⟨cl, A, q1, S, M, Hs, Fs⟩ := V
  exact own_iastore H A (inb_of S ⟨h1, h2⟩) ha hd fun h' W => k h' W (Arv.set A q1 S M Hs Fs rfl W i hj hi)
theorem own_lastoreV (H : own_Ok B Z a0 l R y code N ret) {a : Addr} {kA : ClassId} {n j : Int32} {vs : List Value} {dv u : Value} {x : Int64} (V : Arv Z h a kA .long n vs dv) (h1 : ¬ j < 0) (h2 : j < n) (i : Nat) (hj : j.toNatClampNeg = i) (hi : i < vs.length) (ha : n0 ≤ a) (hu : (.long x) = u) (hd : decode code pc = .ok (.lastore, 1)) (k : ∀ h', Wr h h' a j.toNatClampNeg u → Arv Z h' a kA .long n (vs.set i u) dv → own_G B n0 Q kc ks cells slots h' (pc + 1) Ls st) : own_G B n0 Q kc ks cells slots h pc Ls (.long x :: .int j :: .ref a :: st) := by
  subst hu
  obtain ⟨cl, A, q1, S, M, Hs, Fs⟩ := V
  exact own_lastore H A (inb_of S ⟨h1, h2⟩) ha hd fun h' W => k h' W (Arv.set A q1 S M Hs Fs rfl W i hj hi)
theorem own_bastoreV (H : own_Ok B Z a0 l R y code N ret) {a : Addr} {kA : ClassId} {n j : Int32} {vs : List Value} {dv u : Value} {x : Int32} (V : Arv Z h a kA .byte n vs dv) (h1 : ¬ j < 0) (h2 : j < n) (i : Nat) (hj : j.toNatClampNeg = i) (hi : i < vs.length) (ha : n0 ≤ a) (hu : (.int (nar .byte x)) = u) (hd : decode code pc = .ok (.bastore, 1)) (k : ∀ h', Wr h h' a j.toNatClampNeg u → Arv Z h' a kA .byte n (vs.set i u) dv → own_G B n0 Q kc ks cells slots h' (pc + 1) Ls st) : own_G B n0 Q kc ks cells slots h pc Ls (.int x :: .int j :: .ref a :: st) := by
  subst hu
  obtain ⟨cl, A, q1, S, M, Hs, Fs⟩ := V
  exact own_bastore H A (inb_of S ⟨h1, h2⟩) ha hd fun h' W => k h' W (Arv.set A q1 S M Hs Fs (fits_nar_byte x) W i hj hi)
theorem own_castoreV (H : own_Ok B Z a0 l R y code N ret) {a : Addr} {kA : ClassId} {n j : Int32} {vs : List Value} {dv u : Value} {x : Int32} (V : Arv Z h a kA .char n vs dv) (h1 : ¬ j < 0) (h2 : j < n) (i : Nat) (hj : j.toNatClampNeg = i) (hi : i < vs.length) (ha : n0 ≤ a) (hu : (.int (nar .char x)) = u) (hd : decode code pc = .ok (.castore, 1)) (k : ∀ h', Wr h h' a j.toNatClampNeg u → Arv Z h' a kA .char n (vs.set i u) dv → own_G B n0 Q kc ks cells slots h' (pc + 1) Ls st) : own_G B n0 Q kc ks cells slots h pc Ls (.int x :: .int j :: .ref a :: st) := by
  subst hu
  obtain ⟨cl, A, q1, S, M, Hs, Fs⟩ := V
  exact own_castore H A (inb_of S ⟨h1, h2⟩) ha hd fun h' W => k h' W (Arv.set A q1 S M Hs Fs (fits_nar_char x) W i hj hi)
theorem own_initObject (H : own_Ok B Z a0 l R y code N ret) {i w1 w2 w3 : Nat} (q1 : tables_1[w1]? = some (Jvm.Cond.methodLink y.cls i Lib.objectInit)) (q2 : tables_1[w2]? = some (Jvm.Cond.instanceMethod Lib.objectInit)) (q3 : tables_1[w3]? = some (Jvm.Cond.code Lib.objectInit ⟨#[0xb1]⟩ 1 none)) {a : Addr} (W : Nat) (hsz : Ls.size = N) (hf : 1 ≤ R.frames) (hW : (st.map fun v => v.category).sum ≤ W) (hl : W + 12 ≤ R.locals)
    (hd : decode code pc = .ok (.invokespecial i, 3)) (k : own_G B n0 Q kc ks cells slots h (pc + 3) Ls st) : own_G B n0 Q kc ks cells slots h pc Ls (.ref a :: st) := by
  obtain ⟨p, l, e, R, s, m, args, below, meth, c, k0, P⟩ := B
  obtain ⟨rfl, rfl, hx, hZ, hown, hby, hml, hrt, hlk, hnm, hw, hPe⟩ := H
  intro T locs c1 s1 X F hc hs eT hk
  obtain ⟨T', X', e', s'⟩ := initO X hx hZ hown (hw _ _ q1) (hw _ _ q2) (hw _ _ q3) eT (g := mkF m pc Ls (.ref a :: st)) rfl (hsz.trans hml.symm) rfl (hb hby hd) hf (W := W) (by show 2 * 0 + _ ≤ _; omega) hl
  exact own_go s' (k T' locs c1 s1 X' F hc hs e' hk)
theorem own_invokestatic (H : own_Ok B Z a0 l R y code N ret) {i w1 w2 w3 w4 : Nat} {yc : MethodName} {bytes : ByteArray} {maxL : Nat} {rc : Option FieldType} {rm : Room} {Qc : Option Value → Heap → Prop} {argsL rest : List Value} (hM : own_C l Z yc bytes maxL rc rm argsL.toArray h n0 Qc)
    (q1 : tables_1[w1]? = some (Jvm.Cond.methodLink y.cls i yc)) (q2 : tables_1[w2]? = some (Jvm.Cond.static yc)) (qz : tables_1[w3]? = some (Jvm.Cond.initialized yc.cls)) (qc : tables_1[w4]? = some (Jvm.Cond.code yc bytes maxL rc)) {ps : List FieldType} {r : Option FieldType} (hpd : parseMethodDescriptor yc.desc = some ⟨ps, r⟩) (hln : argsL.length = ps.length) (W : Nat) (hne : yc.cls ≠ "java/lang/invoke/MethodHandle" ∧ yc.cls ≠ "java/lang/invoke/VarHandle")
    (hsz : Ls.size = N) (hfr : rm.frames + 1 ≤ R.frames) (hW : (rest.map fun v => v.category).sum ≤ W) (hlo : W + (maxL + 11) + rm.locals ≤ R.locals) (hkc : cells + rm.cells ≤ R.cells) (hks : slots + rm.slots ≤ R.slots) (hst : st = argsL.reverse ++ rest) (hd : decode code pc = .ok (.invokestatic i, 3))
    (k : ∀ v h', Qc v h' → own_G B n0 Q kc ks (cells + rm.cells) (slots + rm.slots) h' (pc + 3) Ls (v.toList ++ rest)) : own_G B n0 Q kc ks cells slots h pc Ls st := by
  obtain ⟨p, l, e, R, s, m, args, below, meth, c, k0, P⟩ := B
  obtain ⟨rfl, rfl, hx, hZ, hown, hby, hml, hrt, hlk, hnm, hw, hPe⟩ := H
  intro T locs c1 s1 X F hc hs eT hk
  subst hst
  obtain ⟨v', _, ⟨T', L', k', n'⟩, -, X', ⟨Lc', hQ', l', y', z'⟩, s'⟩ := Jvm.LawKit.callS X hx (y := yc) hown (mvT hZ (hw _ _ q1)) (mvT hZ (hw _ _ q2)) (mvT hZ (hw _ _ qz)) (mvT hZ (hw _ _ qc)) hne (backOf (W := W) (bytes := bytes) (rm := rm) (Q := fun v hh L => (Qc v hh ∧ Fr n0 L) ∧ h.size ≤ hh.size) (h := h) (own_grow hM) hZ (hw _ _ qc) (hw _ _ qz) hfr hlo) (g := mkF m pc Ls (argsL.reverse ++ rest)) rfl (hsz.trans hml.symm) (argsL := argsL) (rest := rest) (lenOf hpd hln) rfl (by show 2 * 0 + _ ≤ _; omega) (hb hby hd) (fun _ _ => ⟨rfl, eT, Nat.le_trans (Nat.add_le_add_right hc _) hkc, Nat.le_trans (Nat.add_le_add_right hs _) hks⟩)
  dsimp only [Pt.U, Pt.locs, Pt.cells, Pt.slots] at X' l' y' z' s' hQ'
  subst l' y' z'
  exact own_go s' (k v' _ hQ'.1.1 T' _ _ _ X' (F.app hQ'.1.2) (Nat.add_le_add_right hc _) (Nat.add_le_add_right hs _) rfl (Nat.le_trans hk hQ'.2))
theorem own_invokespecial (H : own_Ok B Z a0 l R y code N ret) {i w1 w2 w3 w4 : Nat} {yc : MethodName} {bytes : ByteArray} {maxL : Nat} {rm : Room} {Qc : Option Value → Heap → Prop} {a : Addr} {argsL rest : List Value} (hM : own_C l Z yc bytes maxL none rm (.ref a :: argsL).toArray h n0 Qc) (hin : yc.name = "<init>")
    (q1 : tables_1[w1]? = some (Jvm.Cond.methodLink y.cls i yc)) (q2 : tables_1[w2]? = some (Jvm.Cond.instanceMethod yc)) (qz : tables_1[w3]? = some (Jvm.Cond.initialized yc.cls)) (qc : tables_1[w4]? = some (Jvm.Cond.code yc bytes maxL none)) {ps : List FieldType} {r : Option FieldType} (hpd : parseMethodDescriptor yc.desc = some ⟨ps, r⟩) (hln : argsL.length = ps.length) (W : Nat) (hne : yc.cls ≠ "java/lang/invoke/MethodHandle" ∧ yc.cls ≠ "java/lang/invoke/VarHandle")
    (hsz : Ls.size = N) (hfr : rm.frames + 1 ≤ R.frames) (hW : (rest.map fun v => v.category).sum ≤ W) (hlo : W + (maxL + 11) + rm.locals ≤ R.locals) (hkc : cells + rm.cells ≤ R.cells) (hks : slots + rm.slots ≤ R.slots) (hst : st = argsL.reverse ++ .ref a :: rest) (hd : decode code pc = .ok (.invokespecial i, 3))
    (k : ∀ v h', Qc v h' → own_G B n0 Q kc ks (cells + rm.cells) (slots + rm.slots) h' (pc + 3) Ls (v.toList ++ rest)) : own_G B n0 Q kc ks cells slots h pc Ls st := by
  obtain ⟨p, l, e, R, s, m, args, below, meth, c, k0, P⟩ := B
  obtain ⟨rfl, rfl, hx, hZ, hown, hby, hml, hrt, hlk, hnm, hw, hPe⟩ := H
  intro T locs c1 s1 X F hc hs eT hk
  subst hst
  obtain ⟨v', _, ⟨T', L', k', n'⟩, -, X', ⟨Lc', hQ', l', y', z'⟩, s'⟩ := X.specialBack hx (y := yc) hin hown (mvT hZ (hw _ _ q1)) (mvT hZ (hw _ _ q2)) (mvT hZ (hw _ _ qc)) hne (backOf (W := W) (bytes := bytes) (rm := rm) (Q := fun v hh L => (Qc v hh ∧ Fr n0 L) ∧ h.size ≤ hh.size) (h := h) (own_grow hM) hZ (hw _ _ qc) (hw _ _ qz) hfr hlo) (g := mkF m pc Ls (argsL.reverse ++ .ref a :: rest)) rfl (hsz.trans hml.symm) (Steps.refl _) (a := a) (argsL := argsL) (rest := rest) (lenOf hpd hln) rfl (by show 2 * 0 + _ ≤ _; omega) (hb hby hd) (fun _ _ => ⟨rfl, eT, Nat.le_trans (Nat.add_le_add_right hc _) hkc, Nat.le_trans (Nat.add_le_add_right hs _) hks⟩)
  dsimp only [Pt.U, Pt.locs, Pt.cells, Pt.slots] at X' l' y' z' s' hQ'
  subst l' y' z'
  exact own_go (fun t q => s'.trans q) (k v' _ hQ'.1.1 T' _ _ _ X' (F.app hQ'.1.2) (Nat.add_le_add_right hc _) (Nat.add_le_add_right hs _) rfl (Nat.le_trans hk hQ'.2))
theorem own_invokevirtual (H : own_Ok B Z a0 l R y code N ret) {i w0 w1 w2 w3 w4 w5 : Nat} {C : String} {yc : MethodName} {bytes : ByteArray} {maxL : Nat} {rc : Option FieldType} {rm : Room} {Qc : Option Value → Heap → Prop} {a : Addr} {argsL rest : List Value} (hM : own_C l Z yc bytes maxL rc rm (.ref a :: argsL).toArray h n0 Qc) (E : Exa Z h a C)
    (q1 : tables_1[w1]? = some (Jvm.Cond.methodLink y.cls i yc)) (q0 : tables_1[w0]? = some (Jvm.Cond.declares yc)) (q5 : tables_1[w5]? = some (Jvm.Cond.selects C yc yc)) (q2 : tables_1[w2]? = some (Jvm.Cond.instanceMethod yc)) (qz : tables_1[w3]? = some (Jvm.Cond.initialized yc.cls)) (qc : tables_1[w4]? = some (Jvm.Cond.code yc bytes maxL rc)) {ps : List FieldType} {r : Option FieldType} (hpd : parseMethodDescriptor yc.desc = some ⟨ps, r⟩) (hln : argsL.length = ps.length) (W : Nat) (hne : yc.cls ≠ "java/lang/invoke/MethodHandle" ∧ yc.cls ≠ "java/lang/invoke/VarHandle")
    (hsz : Ls.size = N) (hfr : rm.frames + 1 ≤ R.frames) (hW : (rest.map fun v => v.category).sum ≤ W) (hlo : W + (maxL + 11) + rm.locals ≤ R.locals) (hkc : cells + rm.cells ≤ R.cells) (hks : slots + rm.slots ≤ R.slots) (hst : st = argsL.reverse ++ .ref a :: rest) (hd : decode code pc = .ok (.invokevirtual i, 3))
    (k : ∀ v h', Qc v h' → own_G B n0 Q kc ks (cells + rm.cells) (slots + rm.slots) h' (pc + 3) Ls (v.toList ++ rest)) : own_G B n0 Q kc ks cells slots h pc Ls st := by
  obtain ⟨p, l, e, R, s, m, args, below, meth, c, k0, P⟩ := B
  obtain ⟨rfl, rfl, hx, hZ, hown, hby, hml, hrt, hlk, hnm, hw, hPe⟩ := H
  intro T locs c1 s1 X F hc hs eT hk
  subst hst
  obtain ⟨cq, kq, qa, -, qb⟩ := isOf hZ eT E
  obtain ⟨v', _, ⟨T', L', k', n'⟩, -, X', ⟨Lc', hQ', l', y', z'⟩, s'⟩ := X.virtualBack hx (y := yc) (z := yc) hown (mvT hZ (hw _ _ q1)) (mvT hZ (hw _ _ q0)) (notFace_of_selects (args := #[]) (mvT hZ (hw _ _ q5))) (mvT hZ (hw _ _ q5)) (mvT hZ (hw _ _ q2)) hne (backOf (W := W) (bytes := bytes) (rm := rm) (Q := fun v hh L => (Qc v hh ∧ Fr n0 L) ∧ h.size ≤ hh.size) (h := h) (own_grow hM) hZ (hw _ _ qc) (hw _ _ qz) hfr hlo) qa qb (g := mkF m pc Ls (argsL.reverse ++ .ref a :: rest)) rfl (hsz.trans hml.symm) (Steps.refl _) (argsL := argsL) (rest := rest) (lenOf hpd hln) rfl (by show 2 * 0 + _ ≤ _; omega) (hb hby hd) (fun _ _ => ⟨rfl, eT, Nat.le_trans (Nat.add_le_add_right hc _) hkc, Nat.le_trans (Nat.add_le_add_right hs _) hks⟩)
  dsimp only [Pt.U, Pt.locs, Pt.cells, Pt.slots] at X' l' y' z' s' hQ'
  subst l' y' z'
  exact own_go (fun t q => s'.trans q) (k v' _ hQ'.1.1 T' _ _ _ X' (F.app hQ'.1.2) (Nat.add_le_add_right hc _) (Nat.add_le_add_right hs _) rfl (Nat.le_trans hk hQ'.2))
theorem own_newarrayE (H : own_Ok B Z a0 l R y code N ret) {aty : ArrayType} {w : Nat} (q : tables_1[w]? = some (Jvm.Cond.arrayClass (newarray.typeOf aty))) {n : Int32} (ad : String) (had : "[" ++ (newarray.typeOf aty).toString = ad) (hn : ¬ n < 0) (cap : Nat) (hcap : n.toNatClampNeg ≤ cap) (hcb : cap * 8 ≤ 536870912) (hd : decode code pc = .ok (.newarray aty, 2)) (hkc : cells + 1 ≤ R.cells) (hks : slots + cap ≤ R.slots)
    (k : ∀ h' a kA, a = h.size → Ext h h' → Arv Z h' a kA (newarray.typeOf aty) n [] (defaultValue (newarray.typeOf aty)) → Exa Z h' a ad → own_G B n0 Q kc ks (cells + 1) (slots + cap) h' (pc + 2) Ls (.ref a :: st)) : own_G B n0 Q kc ks cells slots h pc Ls (.int n :: st) := by
  obtain ⟨p, l, e, R, s, m, args, below, meth, c, k0, P⟩ := B
  obtain ⟨rfl, rfl, hx, hZ, hown, hby, hml, hrt, hlk, hnm, hw, hPe⟩ := H
  intro T locs c1 s1 X F hc hs eT hk
  obtain ⟨T', h', kA, X', e', E', A', Ex', s'⟩ := newPE X hx hZ (hw _ _ q) eT (g := mkF m pc Ls (.int n :: st)) rfl (hb hby hd) rfl hn hcap hcb (Nat.le_trans (Nat.add_le_add_right hc 1) hkc) (Nat.le_trans (Nat.add_le_add_right hs cap) hks) had
  exact own_go s' (k h' h.size kA rfl E' (Arv.new A' hn) Ex' T' locs _ _ X' F (Nat.add_le_add_right hc 1) (Nat.add_le_add_right hs cap) e' (Nat.le_trans hk E'.1))
theorem own_clone (H : own_Ok B Z a0 l R y code N ret) {ad : String} {i w1 w2 w3 w4 w5 w6 : Nat} (q1 : tables_1[w1]? = some (Jvm.Cond.methodLink y.cls i ⟨ad, "clone", "()Ljava/lang/Object;"⟩)) (q2 : tables_1[w2]? = some (Jvm.Cond.sameMethod ad "java/lang/Object" "clone" "()Ljava/lang/Object;")) (q3 : tables_1[w3]? = some (Jvm.Cond.native ⟨"java/lang/Object", "clone", "()Ljava/lang/Object;"⟩)) (q4 : tables_1[w4]? = some (Jvm.Cond.instanceMethod ⟨"java/lang/Object", "clone", "()Ljava/lang/Object;"⟩)) (q5 : tables_1[w5]? = some (Jvm.Cond.selects ad ⟨ad, "clone", "()Ljava/lang/Object;"⟩ ⟨"java/lang/Object", "clone", "()Ljava/lang/Object;"⟩)) (q6 : tables_1[w6]? = some (Jvm.Cond.castable ad "java/lang/Cloneable"))
    {a : Addr} {kA : ClassId} {ty : FieldType} {n : Int32} {vs : List Value} {dv : Value} (V : Arv Z h a kA ty n vs dv) (E : Exa Z h a ad) (hsz : Ls.size = N) (hf : 1 ≤ R.frames) (W : Nat) (hW : (st.map fun v => v.category).sum ≤ W) (hl : W + 14 ≤ R.locals) (cap : Nat) (hcap : n.toNatClampNeg ≤ cap) (hd : decode code pc = .ok (.invokevirtual i, 3)) (hkc : cells + 1 ≤ R.cells) (hks : slots + cap ≤ R.slots)
    (k : ∀ h' b, b = h.size → Ext h h' → Arv Z h' b kA ty n vs dv → Exa Z h' b ad → own_G B n0 Q kc ks (cells + 1) (slots + cap) h' (pc + 3) Ls (.ref b :: st)) : own_G B n0 Q kc ks cells slots h pc Ls (.ref a :: st) := by
  obtain ⟨p, l, e, R, s, m, args, below, meth, c, k0, P⟩ := B
  obtain ⟨rfl, rfl, hx, hZ, hown, hby, hml, hrt, hlk, hnm, hw, hPe⟩ := H
  intro T locs c1 s1 X F hc hs eT hk
  obtain ⟨T', h', X', e', E', A', Ex', s'⟩ := cloneH X hx hZ hown (hw _ _ q1) (hw _ _ q2) (hw _ _ q3) (hw _ _ q4) (hw _ _ q5) (hw _ _ q6) eT V.arh E (g := mkF m pc Ls (.ref a :: st)) rfl (hsz.trans hml.symm) rfl (hb hby hd) hf (W := W) (by show 2 * 0 + _ ≤ _; omega) hl hcap (Nat.le_trans (Nat.add_le_add_right hc 1) hkc) (Nat.le_trans (Nat.add_le_add_right hs cap) hks)
  exact own_go s' (k h' h.size rfl E' A' Ex' T' locs _ _ X' F (Nat.add_le_add_right hc 1) (Nat.add_le_add_right hs cap) e' (Nat.le_trans hk E'.1))
theorem own_checkcast (H : own_Ok B Z a0 l R y code N ret) {K : String} {i w : Nat} (q : tables_1[w]? = some (Jvm.Cond.classLink y.cls i K)) {a : Addr} (I : Ins Z h a K true) (hd : decode code pc = .ok (.checkcast i, 3)) (k : own_G B n0 Q kc ks cells slots h (pc + 3) Ls (.ref a :: st)) : own_G B n0 Q kc ks cells slots h pc Ls (.ref a :: st) := by
  obtain ⟨p, l, e, R, s, m, args, below, meth, c, k0, P⟩ := B
  obtain ⟨rfl, rfl, hx, hZ, hown, hby, hml, hrt, hlk, hnm, hw, hPe⟩ := H
  intro T locs c1 s1 X F hc hs eT hk
  obtain ⟨T', X', e', s'⟩ := castY X hx hZ hown (hw _ _ q) eT I (g := mkF m pc Ls (.ref a :: st)) rfl rfl (hb hby hd)
  exact own_go s' (k T' locs c1 s1 X' F hc hs e' hk)
theorem own_arraycopy (H : own_Ok B Z a0 l R y code N ret) {i w1 w2 w3 w4 : Nat} (q1 : tables_1[w1]? = some (Jvm.Cond.methodLink y.cls i Jvm.Stand.acN)) (q2 : tables_1[w2]? = some (Jvm.Cond.native Jvm.Stand.acN)) (q3 : tables_1[w3]? = some (Jvm.Cond.static Jvm.Stand.acN)) (q4 : tables_1[w4]? = some (Jvm.Cond.initialized "java/lang/System"))
    {a b : Addr} {kA kB : ClassId} {ty : FieldType} {n n' sp dp nn : Int32} {vs vd us : List Value} {dv dd : Value} (A : Arv Z h a kA ty n vs dv) (D : Arv Z h b kB ty n' vd dd) (hty : refKind ty = false) (h1 : ¬ sp < 0) (h2 : ¬ dp < 0) (h3 : ¬ nn < 0) (h4 : sp.toNatClampNeg + nn.toNatClampNeg ≤ n.toNatClampNeg) (h5 : dp.toNatClampNeg + nn.toNatClampNeg ≤ n'.toNatClampNeg)
    (hus : us = (List.range nn.toNatClampNeg).map fun i => vs.getD (sp.toNatClampNeg + i) dv) (hlv : dp.toNatClampNeg + nn.toNatClampNeg ≤ vd.length) (hb0 : n0 ≤ b) (hsz : Ls.size = N) (hf : 1 ≤ R.frames) (W : Nat) (hW : (st.map fun v => v.category).sum ≤ W) (hlo : W + (nativeFrameWords "java/lang/System" "arraycopy" 5 + 11) ≤ R.locals) (hd : decode code pc = .ok (.invokestatic i, 3))
    (k : ∀ h', Keep h h' [b] → Arv Z h' b kB ty n' (vd.take dp.toNatClampNeg ++ us ++ vd.drop (dp.toNatClampNeg + nn.toNatClampNeg)) dd → own_G B n0 Q kc ks cells slots h' (pc + 3) Ls st) : own_G B n0 Q kc ks cells slots h pc Ls (.int nn :: .int dp :: .ref b :: .int sp :: .ref a :: st) := by
  obtain ⟨p, l, e, R, s, m, args, below, meth, c, k0, P⟩ := B
  obtain ⟨rfl, rfl, hx, hZ, hown, hby, hml, hrt, hlk, hnm, hw, hPe⟩ := H
  intro T locs c1 s1 X F hc hs eT hk
  obtain ⟨T', h', L', X', e', F', K', A', s'⟩ := cpA X hx hZ hown (hw _ _ q1) (hw _ _ q2) (hw _ _ q3) (hw _ _ q4) eT A D (Or.inl ⟨rfl, hty⟩) h1 h2 h3 h4 h5 hus hlv F hb0 (g := mkF m pc Ls (.int nn :: .int dp :: .ref b :: .int sp :: .ref a :: st)) rfl (hsz.trans hml.symm) rfl (hb hby hd) hf (W := W) (by show 2 * 0 + _ ≤ _; omega) hlo
  exact own_go s' (k h' K' A' T' L' c1 s1 X' F' hc hs e' (Nat.le_trans hk K'.1))
theorem own_aastore (H : own_Ok B Z a0 l R y code N ret) {a : Addr} {cl : Cell} {ty : FieldType} {j : Int32} {v : Value} (A : Arr Z h a cl ty) (hty : ty.isReference = true) (S : Sto Z h a v) (hin : ¬ (j < 0 ∨ cl.slots.size ≤ j.toNatClampNeg)) (ha : n0 ≤ a) (hd : decode code pc = .ok (.aastore, 1)) (k : ∀ h', Wr h h' a j.toNatClampNeg v → own_G B n0 Q kc ks cells slots h' (pc + 1) Ls st) : own_G B n0 Q kc ks cells slots h pc Ls (v :: .int j :: .ref a :: st) := by
  obtain ⟨p, l, e, R, s, m, args, below, meth, c, k0, P⟩ := B
  obtain ⟨rfl, rfl, hx, hZ, hown, hby, hml, hrt, hlk, hnm, hw, hPe⟩ := H
  intro T locs c1 s1 X F hc hs eT hk
  obtain ⟨T', h', X', e', W', s'⟩ := stR X hx hZ eT A hin hty S (g := mkF m pc Ls (v :: .int j :: .ref a :: st)) rfl rfl (hb hby hd)
  exact own_go s' (k h' W' T' _ c1 s1 X' (Fr.snoc X' F ha) hc hs e' (by rw [W'.size]; exact hk))
theorem own_invokeprivate (H : own_Ok B Z a0 l R y code N ret) {i w1 w2 w3 w4 w5 w6 : Nat} {C : String} {yc : MethodName} {bytes : ByteArray} {maxL : Nat} {rc : Option FieldType} {rm : Room} {Qc : Option Value → Heap → Prop} {a : Addr} {argsL rest : List Value} (hM : own_C l Z yc bytes maxL rc rm (.ref a :: argsL).toArray h n0 Qc) (E : Exa Z h a C)
    (q1 : tables_1[w1]? = some (Jvm.Cond.methodLink y.cls i yc)) (q2 : tables_1[w2]? = some (Jvm.Cond.instanceMethod yc)) (q5 : tables_1[w5]? = some (Jvm.Cond.selects yc.cls yc yc)) (q6 : tables_1[w6]? = some (Jvm.Cond.privateMethod yc)) (qz : tables_1[w3]? = some (Jvm.Cond.initialized yc.cls)) (qc : tables_1[w4]? = some (Jvm.Cond.code yc bytes maxL rc)) {ps : List FieldType} {r : Option FieldType} (hpd : parseMethodDescriptor yc.desc = some ⟨ps, r⟩) (hln : argsL.length = ps.length) (W : Nat) (hne : yc.cls ≠ "java/lang/invoke/MethodHandle" ∧ yc.cls ≠ "java/lang/invoke/VarHandle")
    (hsz : Ls.size = N) (hfr : rm.frames + 1 ≤ R.frames) (hW : (rest.map fun v => v.category).sum ≤ W) (hlo : W + (maxL + 11) + rm.locals ≤ R.locals) (hkc : cells + rm.cells ≤ R.cells) (hks : slots + rm.slots ≤ R.slots) (hst : st = argsL.reverse ++ .ref a :: rest) (hd : decode code pc = .ok (.invokevirtual i, 3))
    (k : ∀ v h', Qc v h' → own_G B n0 Q kc ks (cells + rm.cells) (slots + rm.slots) h' (pc + 3) Ls (v.toList ++ rest)) : own_G B n0 Q kc ks cells slots h pc Ls st := by
  obtain ⟨p, l, e, R, s, m, args, below, meth, c, k0, P⟩ := B
  obtain ⟨rfl, rfl, hx, hZ, hown, hby, hml, hrt, hlk, hnm, hw, hPe⟩ := H
  intro T locs c1 s1 X F hc hs eT hk
  subst hst
  obtain ⟨cq, ce, co⟩ := E.cell
  obtain ⟨v', _, ⟨T', L', k', n'⟩, -, X', ⟨Lc', hQ', l', y', z'⟩, s'⟩ := X.privateBack hx (y := yc) hown (mvT hZ (hw _ _ q1)) (mvT hZ (hw _ _ q2)) (mvT hZ (hw _ _ q5)) (Cond.privateMethod_at (mvP hZ (hw _ _ q6) (args := #[]))) (mvT hZ (hw _ _ qc)) hne (backOf (W := W) (bytes := bytes) (rm := rm) (Q := fun v hh L => (Qc v hh ∧ Fr n0 L) ∧ h.size ≤ hh.size) (h := h) (own_grow hM) hZ (hw _ _ qc) (hw _ _ qz) hfr hlo) (g := mkF m pc Ls (argsL.reverse ++ .ref a :: rest)) rfl (hsz.trans hml.symm) (Steps.refl _) (a := a) (by rw [eT]; exact ce) co (argsL := argsL) (rest := rest) (lenOf hpd hln) rfl (by show 2 * 0 + _ ≤ _; omega) (hb hby hd) (fun _ _ => ⟨rfl, eT, Nat.le_trans (Nat.add_le_add_right hc _) hkc, Nat.le_trans (Nat.add_le_add_right hs _) hks⟩)
  dsimp only [Pt.U, Pt.locs, Pt.cells, Pt.slots] at X' l' y' z' s' hQ'
  subst l' y' z'
  exact own_go (fun t q => s'.trans q) (k v' _ hQ'.1.1 T' _ _ _ X' (F.app hQ'.1.2) (Nat.add_le_add_right hc _) (Nat.add_le_add_right hs _) rfl (Nat.le_trans hk hQ'.2))
theorem own_atoms (H : own_Ok B Z a0 l R y code N ret) {f : Fin 7 → Nat} (q0 : tables_1[f 0]? = some (Jvm.Cond.initialized "java/lang/String")) (q1 : tables_1[f 1]? = some (Jvm.Cond.instantiable "java/lang/String" 4)) (q2 : tables_1[f 2]? = some (Jvm.Cond.arrayClass .byte)) (q3 : tables_1[f 3]? = some (Jvm.Cond.laysFinal "java/lang/String" "java/lang/String" "value" "[B")) (q4 : tables_1[f 4]? = some (Jvm.Cond.laysFinal "java/lang/String" "java/lang/String" "coder" "B")) (q5 : tables_1[f 5]? = some (Jvm.Cond.soleField "java/lang/String" "value")) (q6 : tables_1[f 6]? = some (Jvm.Cond.soleField "java/lang/String" "coder")) : ∀ d ∈ Bundle.stringAtoms, d.before a0 Z = true := by
  have hw := own_hw H
  intro d hd
  simp only [Bundle.stringAtoms, List.mem_cons, List.not_mem_nil, or_false] at hd
  rcases hd with rfl | rfl | rfl | rfl | rfl | rfl | rfl
  · exact hw _ _ q0
  · exact hw _ _ q1
  · exact hw _ _ q2
  · exact hw _ _ q3
  · exact hw _ _ q4
  · exact hw _ _ q5
  · exact hw _ _ q6
theorem own_ldcS (H : own_Ok B Z a0 l R y code N ret) (D : own_Wd B) {i w : Nat} {text : String} (q : tables_1[w]? = some (Jvm.Cond.stringLink y.cls i text)) (wS : ∀ d ∈ Bundle.stringAtoms, d.before a0 Z = true) (n : Nat) (hn : 4 * text.toList.length ≤ n) (hbig : n ≤ 536870912) (hd : decode code pc = .ok (.ldc i, 2)) (hkc : cells + 2 ≤ R.cells) (hks : slots + (n + 4) ≤ R.slots)
    (k : ∀ (B' : own_B) (a : Addr) (h' : Heap), own_Ok B' Z a0 l R y code N ret → own_Wd B' → Ext h h' → own_G B' n0 Q kc ks (cells + 2) (slots + (n + 4)) h' (pc + 2) Ls (.ref a :: st)) : own_G B n0 Q kc ks cells slots h pc Ls st := by
  obtain ⟨p, l, e, R, s, m, args, below, meth, c, k0, P⟩ := B
  obtain ⟨rfl, rfl, hx, hZ, hown, hby, hml, hrt, hlk, hnm, hw, hPe⟩ := H
  obtain ⟨s0, vm0, rfl, rfl, hS⟩ := D
  intro T locs c1 s1 X F hc hs eT hk
  obtain ⟨a, T', h', k1, X', e', E', hS', hk', hZ', hown', s'⟩ := ldcS X hx hZ hown (hw _ _ q) wS eT hS hk (g := mkF m pc Ls st) rfl (hb hby hd) hn hbig (Nat.le_trans (Nat.add_le_add_right hc 2) hkc) (Nat.le_trans (Nat.add_le_add_right hs _) hks)
  exact own_go s' (k (p, l, e, R, s0.setVm T'.vm, m, args, below, meth, c, k1, ReturnedEndW s0) a h' ⟨rfl, rfl, hx, hZ', hown', hby, hml, hrt, hlk, hnm, hw, own_pe hS'⟩ ⟨s0, T'.vm, rfl, rfl, hS'⟩ E' T' locs _ _ X' F (Nat.add_le_add_right hc 2) (Nat.add_le_add_right hs _) e' hk')
theorem own_invokevirtualW (H : own_Ok B Z a0 l R y code N ret) (D : own_Wd B) {i w0 w1 w2 w3 w4 w5 : Nat} {C : String} {yc : MethodName} {bytes : ByteArray} {maxL : Nat} {rc : Option FieldType} {rm : Room} {Qc : Option Value → Heap → Prop} {a : Addr} {argsL rest : List Value} (hM : own_CW l Z yc bytes maxL rc rm (.ref a :: argsL).toArray h n0 Qc) (E : Exa Z h a C)
    (q1 : tables_1[w1]? = some (Jvm.Cond.methodLink y.cls i yc)) (q0 : tables_1[w0]? = some (Jvm.Cond.declares yc)) (q5 : tables_1[w5]? = some (Jvm.Cond.selects C yc yc)) (q2 : tables_1[w2]? = some (Jvm.Cond.instanceMethod yc)) (qz : tables_1[w3]? = some (Jvm.Cond.initialized yc.cls)) (qc : tables_1[w4]? = some (Jvm.Cond.code yc bytes maxL rc)) {ps : List FieldType} {r : Option FieldType} (hpd : parseMethodDescriptor yc.desc = some ⟨ps, r⟩) (hln : argsL.length = ps.length) (W : Nat) (hne : yc.cls ≠ "java/lang/invoke/MethodHandle" ∧ yc.cls ≠ "java/lang/invoke/VarHandle")
    (hsz : Ls.size = N) (hfr : rm.frames + 1 ≤ R.frames) (hW : (rest.map fun v => v.category).sum ≤ W) (hlo : W + (maxL + 11) + rm.locals ≤ R.locals) (hkc : cells + rm.cells ≤ R.cells) (hks : slots + rm.slots ≤ R.slots) (hst : st = argsL.reverse ++ .ref a :: rest) (hd : decode code pc = .ok (.invokevirtual i, 3))
    (k : ∀ (B' : own_B) v h', own_Ok B' Z a0 l R y code N ret → own_Wd B' → Qc v h' → own_G B' n0 Q kc ks (cells + rm.cells) (slots + rm.slots) h' (pc + 3) Ls (v.toList ++ rest)) : own_G B n0 Q kc ks cells slots h pc Ls st := by
  obtain ⟨p, l, e, R, s, m, args, below, meth, c, k0, P⟩ := B
  obtain ⟨rfl, rfl, hx, hZ, hown, hby, hml, hrt, hlk, hnm, hw, hPe⟩ := H
  obtain ⟨s0, vm0, rfl, rfl, hS⟩ := D
  intro T locs c1 s1 X F hc hs eT hk
  subst hst
  obtain ⟨cq, kq, qa, -, qb⟩ := isOf hZ eT E
  obtain ⟨v', _, ⟨T', L', k', n'⟩, -, X', hS', hgr, ⟨Lc', hQ', l', y', z'⟩, s'⟩ := X.virtualBackS hx (y := yc) (z := yc) hown (mvT hZ (hw _ _ q1)) (mvT hZ (hw _ _ q0)) (notFace_of_selects (args := #[]) (mvT hZ (hw _ _ q5))) (mvT hZ (hw _ _ q5)) (mvT hZ (hw _ _ q2)) hne (backOfS (W := W) (bytes := bytes) (rm := rm) (Q := fun v hh L => Qc v hh ∧ Fr n0 L) (h := h) hM hZ (hw _ _ qc) (hw _ _ qz) hfr hlo) qa qb (g := mkF m pc Ls (argsL.reverse ++ .ref a :: rest)) rfl (hsz.trans hml.symm) (Steps.refl _) (argsL := argsL) (rest := rest) (lenOf hpd hln) rfl (by show 2 * 0 + _ ≤ _; omega) (hb hby hd) (fun _ _ => ⟨rfl, eT, Nat.le_trans (Nat.add_le_add_right hc _) hkc, Nat.le_trans (Nat.add_le_add_right hs _) hks⟩)
  dsimp only [Pt.U, Pt.locs, Pt.cells, Pt.slots] at X' l' y' z' s' hQ' hS' hgr
  subst l' y' z'
  have hS2 : s0.Since T'.vm T'.heap.size := foldS (T := T) hS (by rw [eT]; exact hk) hS' hgr
  exact own_go (fun t q => s'.trans q) (k (p, l, e, R, s0.setVm T'.vm, m, args, below, meth, c, T'.heap.size, ReturnedEndW s0) v' _ ⟨rfl, rfl, hx, State.Warmed39.trans (t := s0.setVm vm0) hZ hS'.1, by rw [show (s0.setVm T'.vm).vm = T'.vm from rfl, hS'.1.alike.findClass]; exact hown, hby, hml, hrt, hlk, hnm, hw, own_pe hS2⟩ ⟨s0, T'.vm, rfl, rfl, hS2⟩ hQ'.1 T' _ _ _ X' (F.app hQ'.2) (Nat.add_le_add_right hc _) (Nat.add_le_add_right hs _) rfl (Nat.le_refl _))
theorem own_ldc2D (H : own_Ok B Z a0 l R y code N ret) {i w : Nat} {v : UInt64} (q : tables_1[w]? = some (Jvm.Cond.constantDouble y.cls i v)) (hd : decode code pc = .ok (.ldc2_w i, 3)) (k : own_G B n0 Q kc ks cells slots h (pc + 3) Ls (.double v :: st)) : own_G B n0 Q kc ks cells slots h pc Ls st := by
  obtain ⟨p, l, e, R, s, m, args, below, meth, c, k0, P⟩ := B
  obtain ⟨rfl, rfl, hx, hZ, hown, hby, hml, hrt, hlk, hnm, hw, hPe⟩ := H
  intro T locs c1 s1 X F hc hs eT hk
  exact own_go (fun t r => X.ldc2DoubleC hx hown (mvT hZ (hw _ _ q)) (g := mkF m pc Ls st) rfl (hb hby hd) _ r) (k T locs c1 s1 X F hc hs eT hk)
theorem own_daloadV (H : own_Ok B Z a0 l R y code N ret) {a : Addr} {kA : ClassId} {n j : Int32} {vs : List Value} {dv v : Value} (V : Arv Z h a kA .double n vs dv) (h1 : ¬ j < 0) (h2 : j < n) (hv : vs.getD j.toNatClampNeg dv = v) (hd : decode code pc = .ok (.daload, 1)) (k : own_G B n0 Q kc ks cells slots h (pc + 1) Ls (v :: st)) : own_G B n0 Q kc ks cells slots h pc Ls (.int j :: .ref a :: st) := by
  obtain ⟨cl, A, -, S, M, Hs, -⟩ := V
  obtain ⟨p, l, e, R, s, m, args, below, meth, c, k0, P⟩ := B
  obtain ⟨rfl, rfl, hx, hZ, hown, hby, hml, hrt, hlk, hnm, hw, hPe⟩ := H
  intro T locs c1 s1 X F hc hs eT hk
  exact own_go (fun t r => X.daload hx (j := j) (v := v) (by rw [eT]; exact A.1) (State.isArrayOf_alike hZ.alike A.2.1) A.2.2 (inb_of S ⟨h1, h2⟩) (Hs.at (inb_of S ⟨h1, h2⟩) hv) (g := mkF m pc Ls (.int j :: .ref a :: st)) rfl rfl (hb hby hd) _ r) (k T locs c1 s1 X F hc hs eT hk)
theorem own_dastoreV (H : own_Ok B Z a0 l R y code N ret) {a : Addr} {kA : ClassId} {n j : Int32} {vs : List Value} {dv : Value} {x : UInt64} (V : Arv Z h a kA .double n vs dv) (h1 : ¬ j < 0) (h2 : j < n) (i : Nat) (hj : j.toNatClampNeg = i) (hi : i < vs.length) (ha : n0 ≤ a) (hd : decode code pc = .ok (.dastore, 1)) (k : ∀ h', Wr h h' a j.toNatClampNeg (.double x) → Arv Z h' a kA .double n (vs.set i (.double x)) dv → own_G B n0 Q kc ks cells slots h' (pc + 1) Ls st) : own_G B n0 Q kc ks cells slots h pc Ls (.double x :: .int j :: .ref a :: st) := by
  obtain ⟨cl, A, q1, S, M, Hs, Fs⟩ := V
  obtain ⟨p, l, e, R, s, m, args, below, meth, c, k0, P⟩ := B
  obtain ⟨rfl, rfl, hx, hZ, hown, hby, hml, hrt, hlk, hnm, hw, hPe⟩ := H
  intro T locs c1 s1 X F hc hs eT hk
  have hj' := inb_of S ⟨h1, h2⟩
  obtain ⟨X', s'⟩ := X.dastore hx (by rw [eT]; exact A.1) (State.isArrayOf_alike hZ.alike A.2.1) A.2.2 hj' (x := x) (g := mkF m pc Ls (.double x :: .int j :: .ref a :: st)) rfl rfl (hb hby hd)
  have W' : Wr h (T.setCell a (cl.setSlot j.toNatClampNeg (.double x))).heap a j.toNatClampNeg (.double x) := ⟨cl, A.1, A.plain, Nat.lt_of_not_le fun q => hj' (Or.inr q), by rw [← eT]; rfl⟩
  exact own_go s' (k _ W' (Arv.set A q1 S M Hs Fs rfl W' i hj hi) _ _ c1 s1 X' (Fr.snoc X' F ha) hc hs rfl (by rw [W'.size]; exact hk))
theorem own_dcmp (H : own_Ok B Z a0 l R y code N ret) {o : CmpOp} {x z : UInt64} (v : Int32) (hv : cmpValue (FP.dcmp x z) o = v) (hd : decode code pc = .ok (.dcmp o, 1)) (k : own_G B n0 Q kc ks cells slots h (pc + 1) Ls (.int v :: st)) : own_G B n0 Q kc ks cells slots h pc Ls (.double z :: .double x :: st) := by
  obtain ⟨p, l, e, R, s, m, args, below, meth, c, k0, P⟩ := B
  obtain ⟨rfl, rfl, hx, hZ, hown, hby, hml, hrt, hlk, hnm, hw, hPe⟩ := H
  intro T locs c1 s1 X F hc hs eT hk
  exact own_go (fun t q => XS.dcmpS X.here hx rfl (hb hby hd) rfl hv q) (k T locs c1 s1 X F hc hs eT hk)
theorem own_dreturn (H : own_Ok B Z a0 l R y code N (some .double)) {z : UInt64} (hd : decode code pc = .ok (.dreturn, 1)) (hkc : cells ≤ kc) (hks : slots ≤ ks) (hQ : Q (some (.double z)) h) : own_G B n0 Q kc ks cells slots h pc Ls (.double z :: st) := by
  obtain ⟨p, l, e, R, s, m, args, below, meth, c, k0, P⟩ := B
  obtain ⟨rfl, rfl, hx, hZ, hown, hby, hml, hrt, hlk, hnm, hw, hPe⟩ := H
  intro T locs c1 s1 X F hc hs eT hk
  obtain ⟨fs, hr, hrun, hended, hW, hsame⟩ := X.leave (v := some (.double z)) (fun h => by rw [hrt] at h; cases h) hlk
  exact ⟨_, _, retOut X hx hrt rfl (Or.inr (Or.inr (Or.inl ⟨rfl, rfl, _, rfl⟩))) (hb hby hd) hr, hrun, hended, _, _, rfl, ⟨by show Q _ T.heap; rw [eT]; exact hQ, F⟩, hPe _ _ _ _ _ (by show k0 ≤ T.heap.size; rw [eT]; exact hk) ⟨⟨_, rfl⟩, hW, hsame.mono (Nat.le_trans hc hkc) (Nat.le_trans hs hks)⟩⟩

end Laws
end OwnKit
theorem own_sr (m : Int32) : m - m = (0 : Int32) := by simp
theorem d1_0 : decode method_2_code 0 = .ok (.iload_n 0, 1) := by decide +kernel
theorem d1_1 : decode method_2_code 1 = .ok (.ifCond .ne 7, 3) := by decide +kernel
theorem d1_4 : decode method_2_code 4 = .ok (.iconst 0, 1) := by decide +kernel
theorem d1_5 : decode method_2_code 5 = .ok (.newarray .double, 2) := by decide +kernel
theorem d1_7 : decode method_2_code 7 = .ok (.areturn, 1) := by decide +kernel
theorem d1_8 : decode method_2_code 8 = .ok (.iload_n 0, 1) := by decide +kernel
theorem d1_9 : decode method_2_code 9 = .ok (.iconst 1, 1) := by decide +kernel
theorem d1_10 : decode method_2_code 10 = .ok (.if_icmp .ne 13, 3) := by decide +kernel
theorem d1_13 : decode method_2_code 13 = .ok (.iconst 1, 1) := by decide +kernel
theorem d1_14 : decode method_2_code 14 = .ok (.newarray .double, 2) := by decide +kernel
theorem d1_16 : decode method_2_code 16 = .ok (.dup, 1) := by decide +kernel
theorem d1_17 : decode method_2_code 17 = .ok (.iconst 0, 1) := by decide +kernel
theorem d1_18 : decode method_2_code 18 = .ok (.ldc2_w 7, 3) := by decide +kernel
theorem d1_21 : decode method_2_code 21 = .ok (.dastore, 1) := by decide +kernel
theorem d1_22 : decode method_2_code 22 = .ok (.areturn, 1) := by decide +kernel
theorem d1_23 : decode method_2_code 23 = .ok (.iload_n 0, 1) := by decide +kernel
theorem d1_24 : decode method_2_code 24 = .ok (.iconst 2, 1) := by decide +kernel
theorem d1_25 : decode method_2_code 25 = .ok (.if_icmp .ne 19, 3) := by decide +kernel
theorem d1_28 : decode method_2_code 28 = .ok (.iconst 2, 1) := by decide +kernel
theorem d1_29 : decode method_2_code 29 = .ok (.newarray .double, 2) := by decide +kernel
theorem d1_31 : decode method_2_code 31 = .ok (.dup, 1) := by decide +kernel
theorem d1_32 : decode method_2_code 32 = .ok (.iconst 0, 1) := by decide +kernel
theorem d1_33 : decode method_2_code 33 = .ok (.ldc2_w 7, 3) := by decide +kernel
theorem d1_36 : decode method_2_code 36 = .ok (.dastore, 1) := by decide +kernel
theorem d1_37 : decode method_2_code 37 = .ok (.dup, 1) := by decide +kernel
theorem d1_38 : decode method_2_code 38 = .ok (.iconst 1, 1) := by decide +kernel
theorem d1_39 : decode method_2_code 39 = .ok (.ldc2_w 9, 3) := by decide +kernel
theorem d1_42 : decode method_2_code 42 = .ok (.dastore, 1) := by decide +kernel
theorem d1_43 : decode method_2_code 43 = .ok (.areturn, 1) := by decide +kernel
theorem d1_44 : decode method_2_code 44 = .ok (.iload_n 0, 1) := by decide +kernel
theorem d1_45 : decode method_2_code 45 = .ok (.iconst 3, 1) := by decide +kernel
theorem d1_46 : decode method_2_code 46 = .ok (.if_icmp .ne 25, 3) := by decide +kernel
theorem d1_49 : decode method_2_code 49 = .ok (.iconst 3, 1) := by decide +kernel
theorem d1_50 : decode method_2_code 50 = .ok (.newarray .double, 2) := by decide +kernel
theorem d1_52 : decode method_2_code 52 = .ok (.dup, 1) := by decide +kernel
theorem d1_53 : decode method_2_code 53 = .ok (.iconst 0, 1) := by decide +kernel
theorem d1_54 : decode method_2_code 54 = .ok (.ldc2_w 7, 3) := by decide +kernel
theorem d1_57 : decode method_2_code 57 = .ok (.dastore, 1) := by decide +kernel
theorem d1_58 : decode method_2_code 58 = .ok (.dup, 1) := by decide +kernel
theorem d1_59 : decode method_2_code 59 = .ok (.iconst 1, 1) := by decide +kernel
theorem d1_60 : decode method_2_code 60 = .ok (.ldc2_w 9, 3) := by decide +kernel
theorem d1_63 : decode method_2_code 63 = .ok (.dastore, 1) := by decide +kernel
theorem d1_64 : decode method_2_code 64 = .ok (.dup, 1) := by decide +kernel
theorem d1_65 : decode method_2_code 65 = .ok (.iconst 2, 1) := by decide +kernel
theorem d1_66 : decode method_2_code 66 = .ok (.ldc2_w 11, 3) := by decide +kernel
theorem d1_69 : decode method_2_code 69 = .ok (.dastore, 1) := by decide +kernel
theorem d1_70 : decode method_2_code 70 = .ok (.areturn, 1) := by decide +kernel
theorem d1_71 : decode method_2_code 71 = .ok (.iconst 4, 1) := by decide +kernel
theorem d1_72 : decode method_2_code 72 = .ok (.newarray .double, 2) := by decide +kernel
theorem d1_74 : decode method_2_code 74 = .ok (.dup, 1) := by decide +kernel
theorem d1_75 : decode method_2_code 75 = .ok (.iconst 0, 1) := by decide +kernel
theorem d1_76 : decode method_2_code 76 = .ok (.ldc2_w 7, 3) := by decide +kernel
theorem d1_79 : decode method_2_code 79 = .ok (.dastore, 1) := by decide +kernel
theorem d1_80 : decode method_2_code 80 = .ok (.dup, 1) := by decide +kernel
theorem d1_81 : decode method_2_code 81 = .ok (.iconst 1, 1) := by decide +kernel
theorem d1_82 : decode method_2_code 82 = .ok (.ldc2_w 9, 3) := by decide +kernel
theorem d1_85 : decode method_2_code 85 = .ok (.dastore, 1) := by decide +kernel
theorem d1_86 : decode method_2_code 86 = .ok (.dup, 1) := by decide +kernel
theorem d1_87 : decode method_2_code 87 = .ok (.iconst 2, 1) := by decide +kernel
theorem d1_88 : decode method_2_code 88 = .ok (.ldc2_w 11, 3) := by decide +kernel
theorem d1_91 : decode method_2_code 91 = .ok (.dastore, 1) := by decide +kernel
theorem d1_92 : decode method_2_code 92 = .ok (.dup, 1) := by decide +kernel
theorem d1_93 : decode method_2_code 93 = .ok (.iconst 3, 1) := by decide +kernel
theorem d1_94 : decode method_2_code 94 = .ok (.ldc2_w 13, 3) := by decide +kernel
theorem d1_97 : decode method_2_code 97 = .ok (.dastore, 1) := by decide +kernel
theorem d1_98 : decode method_2_code 98 = .ok (.areturn, 1) := by decide +kernel
theorem own_pl1 : plainFor (⟨"com/example/vestwright/vestwright/actuarial/MortalityTableMaximumAgePinLaw", "rates", "(I)[D"⟩ : MethodName) = true := plainFor_of_name (by first | (simp [plainName, overriddenIn]; done) | decide +kernel)
theorem own_pd0 : parseMethodDescriptor "(I)[D" = some ⟨[.int], some (.array .double)⟩ := by decide +kernel
set_option maxHeartbeats 4000000 in
theorem rmR0 (l : Launch) (Z : State) (a0 : Array Value) (hw : ∀ (i : Nat) (d : Jvm.Cond), tables_1[i]? = some d → d.before a0 Z = true) (h0 : Heap) (n0 : Nat) (hZ0 : n0 ≤ h0.size) :
    own_C l Z (⟨"com/example/vestwright/vestwright/actuarial/MortalityTableMaximumAgePinLaw", "rates", "(I)[D"⟩ : MethodName) method_2_code 1 (some (.array .double)) ({ frames := 0, cells := 1, slots := 0, locals := 0 } : Room) #[(.int (0 : Int32))] h0 n0 (fun v h' => ∃ (a2 : Addr) (kA3 : ClassId), v = some (.ref a2) ∧ Keep h0 h' [] ∧ n0 ≤ a2 ∧ h0.size ≤ a2 ∧ a2 < h'.size ∧ Arv Z h' a2 kA3 .double (0 : Int32) [] (.double 0) ∧ Exa Z h' a2 "[D") := by
  refine own_met (Ls := #[.val (.int (0 : Int32))]) hw own_pl1 (fun m => by first | (simp [entryFrame, mkF, argsToLocals, Value.category]; done) | rfl) ?_
  intro B H
  have hK : Keep h0 h0 [] := Keep.refl _ _
  refine own_iload_n H rfl d1_0 ?_
  refine own_ifne_f H d1_1 (by decide) ?_
  refine own_iconst H (0 : Int32) (by decide) d1_4 ?_
  refine own_newarrayE H (w := 6) (n := (0 : Int32)) rfl "[D" (by decide) (by decide) 0 (by decide) (by decide) d1_5 (by decide) (by decide) ?_
  intro h1 a2 kA3 ha4 E5 V6 X7
  have f8 : n0 ≤ a2 := by rw [ha4]; exact hZ0
  have f9 : h0.size ≤ a2 := by rw [ha4]; exact hK.1
  have f10 : n0 ≤ h1.size := Nat.le_trans hZ0 E5.1
  have f11 : Keep h0 h1 [] := hK.ext E5
  have f12 : Arv Z h1 a2 kA3 .double (0 : Int32) [] (.double 0) := V6.pad (pad_rep [] (.double 0) 0)
  show own_G _ _ _ _ _ _ _ _ 7 #[.val (.int (0 : Int32))] [(.ref a2)]
  exact own_areturn H rfl rfl rfl d1_7 (by decide) (by decide) ⟨a2, kA3, rfl, f11, f8, f9, X7.lt, f12, X7⟩
theorem d2_0 : decode prog_4_method_1_code 0 = .ok (.aload_n 0, 1) := by decide +kernel
theorem d2_1 : decode prog_4_method_1_code 1 = .ok (.invokespecial 1, 3) := by decide +kernel
theorem d2_4 : decode prog_4_method_1_code 4 = .ok (.aload_n 0, 1) := by decide +kernel
theorem d2_5 : decode prog_4_method_1_code 5 = .ok (.aload_n 1, 1) := by decide +kernel
theorem d2_6 : decode prog_4_method_1_code 6 = .ok (.putfield 7, 3) := by decide +kernel
theorem d2_9 : decode prog_4_method_1_code 9 = .ok (.aload_n 0, 1) := by decide +kernel
theorem d2_10 : decode prog_4_method_1_code 10 = .ok (.iload_n 2, 1) := by decide +kernel
theorem d2_11 : decode prog_4_method_1_code 11 = .ok (.putfield 13, 3) := by decide +kernel
theorem d2_14 : decode prog_4_method_1_code 14 = .ok (.aload_n 0, 1) := by decide +kernel
theorem d2_15 : decode prog_4_method_1_code 15 = .ok (.aload_n 3, 1) := by decide +kernel
theorem d2_16 : decode prog_4_method_1_code 16 = .ok (.invokevirtual 17, 3) := by decide +kernel
theorem d2_19 : decode prog_4_method_1_code 19 = .ok (.checkcast 18, 3) := by decide +kernel
theorem d2_22 : decode prog_4_method_1_code 22 = .ok (.putfield 23, 3) := by decide +kernel
theorem d2_25 : decode prog_4_method_1_code 25 = .ok (.return_, 1) := by decide +kernel
theorem own_pl2 : plainFor (⟨"com/example/vestwright/vestwright/actuarial/MortalityTable", "<init>", "(Ljava/lang/String;I[D)V"⟩ : MethodName) = true := plainFor_of_name (by first | (simp [plainName, overriddenIn]; done) | decide +kernel)
theorem own_pd1 : parseMethodDescriptor "(Ljava/lang/String;I[D)V" = some ⟨[(.object "java/lang/String"), .int, (.array .double)], none⟩ := by decide +kernel
set_option maxHeartbeats 4000000 in
theorem rmI0 (l : Launch) (Z : State) (a0 : Array Value) (hw : ∀ (i : Nat) (d : Jvm.Cond), tables_1[i]? = some d → d.before a0 Z = true) (h0 : Heap) (n0 : Nat) (a : Addr) (s : Addr) (m : Int32) (r : Addr) (kA : ClassId) (hZ0 : n0 ≤ h0.size) (hE : Exa Z h0 a "com/example/vestwright/vestwright/actuarial/MortalityTable") (hF1 : Fld Z h0 a "com/example/vestwright/vestwright/actuarial/MortalityTable" "name" "Ljava/lang/String;" .null) (hF2 : Fld Z h0 a "com/example/vestwright/vestwright/actuarial/MortalityTable" "minimumAge" "I" (.int (0 : Int32))) (hF3 : Fld Z h0 a "com/example/vestwright/vestwright/actuarial/MortalityTable" "rates" "[D" .null) (hV : Arv Z h0 r kA .double (0 : Int32) [] (.double 0)) (hEr : Exa Z h0 r "[D") (hne : r ≠ a) (hA_a : n0 ≤ a) :
    own_C l Z (⟨"com/example/vestwright/vestwright/actuarial/MortalityTable", "<init>", "(Ljava/lang/String;I[D)V"⟩ : MethodName) prog_4_method_1_code 4 none ({ frames := 1, cells := 1, slots := 0, locals := 16 } : Room) #[(.ref a), (.ref s), (.int m), (.ref r)] h0 n0 (fun v h' => ∃ (a22 : Addr), v = none ∧ Keep h0 h' [a] ∧ n0 ≤ a22 ∧ h0.size ≤ a22 ∧ a22 < h'.size ∧ Fld Z h' a "com/example/vestwright/vestwright/actuarial/MortalityTable" "minimumAge" "I" (.int m) ∧ Fld Z h' a "com/example/vestwright/vestwright/actuarial/MortalityTable" "rates" "[D" (.ref a22) ∧ Arv Z h' a22 kA .double (0 : Int32) [] (.double 0)) := by
  refine own_met (Ls := #[.val (.ref a), .val (.ref s), .val (.int m), .val (.ref r)]) hw own_pl2 (fun m => by first | (simp [entryFrame, mkF, argsToLocals, Value.category]; done) | rfl) ?_
  intro B H
  have hK : Keep h0 h0 [a] := Keep.refl _ _
  refine own_aload_n H rfl rfl d2_0 ?_
  refine own_initObject H (w1 := 21) (w2 := 22) (w3 := 23) rfl rfl rfl 0 rfl (by decide) (Nat.le_of_eq rfl) (by decide) d2_1 ?_
  refine own_aload_n H rfl rfl d2_4 ?_
  refine own_aload_n H rfl rfl d2_5 ?_
  refine own_putfield H (w := 24) (wi := 8) rfl hF1 hE hA_a (Or.inr ⟨own_w H (i := 25) rfl, rfl, rfl⟩) rfl (ty := (.object "java/lang/String")) (by decide) rfl rfl d2_6 ?_
  intro h1 W2
  have f3 : Exa Z h1 a "com/example/vestwright/vestwright/actuarial/MortalityTable" := hE.wr W2
  have f4 : Fld Z h1 a "com/example/vestwright/vestwright/actuarial/MortalityTable" "name" "Ljava/lang/String;" (.ref s) := hF1.same W2
  have f5 : Fld Z h1 a "com/example/vestwright/vestwright/actuarial/MortalityTable" "minimumAge" "I" (.int (0 : Int32)) := hF2.other W2 (Or.inr (slot_ne (Or.inr (own_w H (i := 27) rfl)) (Or.inr (own_w H (i := 25) rfl)) (by decide) (t := .int) (t' := (.object "java/lang/String")) (by decide) (by decide)))
  have f6 : Fld Z h1 a "com/example/vestwright/vestwright/actuarial/MortalityTable" "rates" "[D" .null := hF3.other W2 (Or.inr (slot_ne (Or.inr (own_w H (i := 38) rfl)) (Or.inr (own_w H (i := 25) rfl)) (by decide) (t := (.array .double)) (t' := (.object "java/lang/String")) (by decide) (by decide)))
  have f7 : Arv Z h1 r kA .double (0 : Int32) [] (.double 0) := hV.other W2 hne
  have f8 : Exa Z h1 r "[D" := hEr.wr W2
  have f9 : n0 ≤ h1.size := by rw [W2.size]; exact hZ0
  have f10 : Keep h0 h1 [a] := hK.wr W2 (Or.inl (by simp))
  refine own_aload_n H rfl rfl d2_9 ?_
  refine own_iload_n H rfl d2_10 ?_
  refine own_putfield H (w := 26) (wi := 8) rfl f5 f3 hA_a (Or.inr ⟨own_w H (i := 27) rfl, rfl, rfl⟩) rfl (ty := .int) (by decide) rfl rfl d2_11 ?_
  intro h11 W12
  have f13 : Exa Z h11 a "com/example/vestwright/vestwright/actuarial/MortalityTable" := f3.wr W12
  have f14 : Fld Z h11 a "com/example/vestwright/vestwright/actuarial/MortalityTable" "name" "Ljava/lang/String;" (.ref s) := f4.other W12 (Or.inr (slot_ne (Or.inr (own_w H (i := 25) rfl)) (Or.inr (own_w H (i := 27) rfl)) (by decide) (t := (.object "java/lang/String")) (t' := .int) (by decide) (by decide)))
  have f15 : Fld Z h11 a "com/example/vestwright/vestwright/actuarial/MortalityTable" "minimumAge" "I" (.int m) := f5.same W12
  have f16 : Fld Z h11 a "com/example/vestwright/vestwright/actuarial/MortalityTable" "rates" "[D" .null := f6.other W12 (Or.inr (slot_ne (Or.inr (own_w H (i := 38) rfl)) (Or.inr (own_w H (i := 27) rfl)) (by decide) (t := (.array .double)) (t' := .int) (by decide) (by decide)))
  have f17 : Arv Z h11 r kA .double (0 : Int32) [] (.double 0) := f7.other W12 hne
  have f18 : Exa Z h11 r "[D" := f8.wr W12
  have f19 : n0 ≤ h11.size := by rw [W12.size]; exact f9
  have f20 : Keep h0 h11 [a] := f10.wr W12 (Or.inl (by simp))
  refine own_aload_n H rfl rfl d2_14 ?_
  refine own_aload_n H rfl rfl d2_15 ?_
  refine own_clone H (ad := "[D") (w1 := 28) (w2 := 29) (w3 := 33) (w4 := 31) (w5 := 32) (w6 := 34) rfl rfl rfl rfl rfl rfl f17 f18 rfl (by decide) 1 (Nat.le_of_eq rfl) (by decide) 0 (by decide) d2_16 (by decide) (by decide) ?_
  intro h21 a22 ha23 E24 V25 X26
  have f27 : a ≠ a22 := Nat.ne_of_lt (by rw [ha23]; exact f13.lt)
  have f28 : r ≠ a22 := Nat.ne_of_lt (by rw [ha23]; exact f18.lt)
  have f29 : n0 ≤ a22 := by rw [ha23]; exact f19
  have f30 : h0.size ≤ a22 := by rw [ha23]; exact f20.1
  have f31 : Exa Z h21 a "com/example/vestwright/vestwright/actuarial/MortalityTable" := f13.ext E24
  have f32 : Fld Z h21 a "com/example/vestwright/vestwright/actuarial/MortalityTable" "name" "Ljava/lang/String;" (.ref s) := f14.ext E24
  have f33 : Fld Z h21 a "com/example/vestwright/vestwright/actuarial/MortalityTable" "minimumAge" "I" (.int m) := f15.ext E24
  have f34 : Fld Z h21 a "com/example/vestwright/vestwright/actuarial/MortalityTable" "rates" "[D" .null := f16.ext E24
  have f35 : Arv Z h21 r kA .double (0 : Int32) [] (.double 0) := f17.ext E24
  have f36 : Exa Z h21 r "[D" := f18.ext E24
  have f37 : n0 ≤ h21.size := Nat.le_trans f19 E24.1
  have f38 : Keep h0 h21 [a] := f20.ext E24
  show own_G _ _ _ _ _ _ _ _ 19 #[.val (.ref a), .val (.ref s), .val (.int m), .val (.ref r)] [(.ref a22), (.ref a)]
  refine own_checkcast H (w := 35) rfl (Ins.self X26) d2_19 ?_
  show own_G _ _ _ _ _ _ _ _ 22 #[.val (.ref a), .val (.ref s), .val (.int m), .val (.ref r)] [(.ref a22), (.ref a)]
  refine own_putfield H (w := 37) (wi := 8) rfl f34 f31 hA_a (Or.inr ⟨own_w H (i := 38) rfl, rfl, rfl⟩) rfl (ty := (.array .double)) (by decide) rfl rfl d2_22 ?_
  intro h39 W40
  have f41 : Exa Z h39 a "com/example/vestwright/vestwright/actuarial/MortalityTable" := f31.wr W40
  have f42 : Fld Z h39 a "com/example/vestwright/vestwright/actuarial/MortalityTable" "name" "Ljava/lang/String;" (.ref s) := f32.other W40 (Or.inr (slot_ne (Or.inr (own_w H (i := 25) rfl)) (Or.inr (own_w H (i := 38) rfl)) (by decide) (t := (.object "java/lang/String")) (t' := (.array .double)) (by decide) (by decide)))
  have f43 : Fld Z h39 a "com/example/vestwright/vestwright/actuarial/MortalityTable" "minimumAge" "I" (.int m) := f33.other W40 (Or.inr (slot_ne (Or.inr (own_w H (i := 27) rfl)) (Or.inr (own_w H (i := 38) rfl)) (by decide) (t := .int) (t' := (.array .double)) (by decide) (by decide)))
  have f44 : Fld Z h39 a "com/example/vestwright/vestwright/actuarial/MortalityTable" "rates" "[D" (.ref a22) := f34.same W40
  have f45 : Arv Z h39 r kA .double (0 : Int32) [] (.double 0) := f35.other W40 hne
  have f46 : Exa Z h39 r "[D" := f36.wr W40
  have f47 : n0 ≤ h39.size := by rw [W40.size]; exact f37
  have f48 : Keep h0 h39 [a] := f38.wr W40 (Or.inl (by simp))
  have f49 : Arv Z h39 a22 kA .double (0 : Int32) [] (.double 0) := V25.other W40 f27.symm
  have f50 : Exa Z h39 a22 "[D" := X26.wr W40
  exact own_return H d2_25 (by decide) (by decide) ⟨a22, rfl, f48, f29, f30, f50.lt, f43, f44, f49⟩
theorem d4_0 : decode prog_4_method_4_code 0 = .ok (.aload_n 0, 1) := by decide +kernel
theorem d4_1 : decode prog_4_method_4_code 1 = .ok (.getfield 13, 3) := by decide +kernel
theorem d4_4 : decode prog_4_method_4_code 4 = .ok (.aload_n 0, 1) := by decide +kernel
theorem d4_5 : decode prog_4_method_4_code 5 = .ok (.getfield 23, 3) := by decide +kernel
theorem d4_8 : decode prog_4_method_4_code 8 = .ok (.arraylength, 1) := by decide +kernel
theorem d4_9 : decode prog_4_method_4_code 9 = .ok (.iadd, 1) := by decide +kernel
theorem d4_10 : decode prog_4_method_4_code 10 = .ok (.iconst 1, 1) := by decide +kernel
theorem d4_11 : decode prog_4_method_4_code 11 = .ok (.isub, 1) := by decide +kernel
theorem d4_12 : decode prog_4_method_4_code 12 = .ok (.ireturn, 1) := by decide +kernel
theorem own_pl4 : plainFor (⟨"com/example/vestwright/vestwright/actuarial/MortalityTable", "maximumAge", "()I"⟩ : MethodName) = true := plainFor_of_name (by first | (simp [plainName, overriddenIn]; done) | decide +kernel)
theorem own_pd2 : parseMethodDescriptor "()I" = some ⟨[], some .int⟩ := by decide +kernel
set_option maxHeartbeats 4000000 in
theorem rmM0 (l : Launch) (Z : State) (a0 : Array Value) (hw : ∀ (i : Nat) (d : Jvm.Cond), tables_1[i]? = some d → d.before a0 Z = true) (h0 : Heap) (n0 : Nat) (a : Addr) (m : Int32) (t : Addr) (kA : ClassId) (hF2 : Fld Z h0 a "com/example/vestwright/vestwright/actuarial/MortalityTable" "minimumAge" "I" (.int m)) (hF3 : Fld Z h0 a "com/example/vestwright/vestwright/actuarial/MortalityTable" "rates" "[D" (.ref t)) (hV : Arv Z h0 t kA .double (0 : Int32) [] (.double 0)) :
    own_C l Z (⟨"com/example/vestwright/vestwright/actuarial/MortalityTable", "maximumAge", "()I"⟩ : MethodName) prog_4_method_4_code 1 (some .int) ({ frames := 0, cells := 0, slots := 0, locals := 0 } : Room) #[(.ref a)] h0 n0 (fun v h' => v = some (.int ((m + (0 : Int32)) - (1 : Int32))) ∧ h0 = h') := by
  refine own_met (Ls := #[.val (.ref a)]) hw own_pl4 (fun m => by first | (simp [entryFrame, mkF, argsToLocals, Value.category]; done) | rfl) ?_
  intro B H
  refine own_aload_n H rfl rfl d4_0 ?_
  refine own_getfield H (w := 26) rfl hF2 d4_1 ?_
  refine own_aload_n H rfl rfl d4_4 ?_
  refine own_getfield H (w := 37) rfl hF3 d4_5 ?_
  refine own_arraylengthV H hV d4_8 ?_
  refine own_iadd H rfl d4_9 ?_
  refine own_iconst H (1 : Int32) (by decide) d4_10 ?_
  refine own_isub H rfl d4_11 ?_
  exact own_ireturn H (by simp) rfl d4_12 (by decide) (by decide) ⟨rfl, rfl⟩
set_option maxHeartbeats 4000000 in
theorem rmR1 (l : Launch) (Z : State) (a0 : Array Value) (hw : ∀ (i : Nat) (d : Jvm.Cond), tables_1[i]? = some d → d.before a0 Z = true) (h0 : Heap) (n0 : Nat) (hZ0 : n0 ≤ h0.size) :
    own_C l Z (⟨"com/example/vestwright/vestwright/actuarial/MortalityTableMaximumAgePinLaw", "rates", "(I)[D"⟩ : MethodName) method_2_code 1 (some (.array .double)) ({ frames := 0, cells := 1, slots := 1, locals := 0 } : Room) #[(.int (1 : Int32))] h0 n0 (fun v h' => ∃ (a2 : Addr) (kA3 : ClassId), v = some (.ref a2) ∧ Keep h0 h' [] ∧ n0 ≤ a2 ∧ h0.size ≤ a2 ∧ a2 < h'.size ∧ Arv Z h' a2 kA3 .double (1 : Int32) [(.double (4593671619917905920 : UInt64))] (.double 0) ∧ Exa Z h' a2 "[D") := by
  refine own_met (Ls := #[.val (.int (1 : Int32))]) hw own_pl1 (fun m => by first | (simp [entryFrame, mkF, argsToLocals, Value.category]; done) | rfl) ?_
  intro B H
  have hK : Keep h0 h0 [] := Keep.refl _ _
  refine own_iload_n H rfl d1_0 ?_
  refine own_ifne_t H (pc' := 8) d1_1 (by decide) (by decide) (by decide) ?_
  refine own_iload_n H rfl d1_8 ?_
  refine own_iconst H (1 : Int32) (by decide) d1_9 ?_
  refine own_icmpne_f H d1_10 (by decide) ?_
  refine own_iconst H (1 : Int32) (by decide) d1_13 ?_
  refine own_newarrayE H (w := 6) (n := (1 : Int32)) rfl "[D" (by decide) (by decide) 1 (by decide) (by decide) d1_14 (by decide) (by decide) ?_
  intro h1 a2 kA3 ha4 E5 V6 X7
  have f8 : n0 ≤ a2 := by rw [ha4]; exact hZ0
  have f9 : h0.size ≤ a2 := by rw [ha4]; exact hK.1
  have f10 : n0 ≤ h1.size := Nat.le_trans hZ0 E5.1
  have f11 : Keep h0 h1 [] := hK.ext E5
  have f12 : Arv Z h1 a2 kA3 .double (1 : Int32) [(.double 0)] (.double 0) := V6.pad (pad_rep [] (.double 0) 1)
  show own_G _ _ _ _ _ _ _ _ 16 #[.val (.int (1 : Int32))] [(.ref a2)]
  refine own_dup H rfl d1_16 ?_
  refine own_iconst H (0 : Int32) (by decide) d1_17 ?_
  refine own_ldc2D H (w := 44) (v := (4593671619917905920 : UInt64)) rfl d1_18 ?_
  refine own_dastoreV H f12 (by decide) (by decide) 0 (by decide) (Nat.le_of_ble_eq_true rfl) f8 d1_21 ?_
  intro h13 W14 V15
  have f16 : n0 ≤ h13.size := by rw [W14.size]; exact f10
  have f17 : Keep h0 h13 [] := f11.wr W14 (Or.inr f9)
  have f18 : Exa Z h13 a2 "[D" := X7.wr W14
  have f19 : Arv Z h13 a2 kA3 .double (1 : Int32) [(.double (4593671619917905920 : UInt64))] (.double 0) := V15
  exact own_areturn H rfl rfl rfl d1_22 (by decide) (by decide) ⟨a2, kA3, rfl, f17, f8, f9, f18.lt, f19, f18⟩
set_option maxHeartbeats 4000000 in
theorem rmI1 (l : Launch) (Z : State) (a0 : Array Value) (hw : ∀ (i : Nat) (d : Jvm.Cond), tables_1[i]? = some d → d.before a0 Z = true) (h0 : Heap) (n0 : Nat) (a : Addr) (s : Addr) (m : Int32) (r : Addr) (kA : ClassId) (hZ0 : n0 ≤ h0.size) (hE : Exa Z h0 a "com/example/vestwright/vestwright/actuarial/MortalityTable") (hF1 : Fld Z h0 a "com/example/vestwright/vestwright/actuarial/MortalityTable" "name" "Ljava/lang/String;" .null) (hF2 : Fld Z h0 a "com/example/vestwright/vestwright/actuarial/MortalityTable" "minimumAge" "I" (.int (0 : Int32))) (hF3 : Fld Z h0 a "com/example/vestwright/vestwright/actuarial/MortalityTable" "rates" "[D" .null) (hV : Arv Z h0 r kA .double (1 : Int32) [(.double (4593671619917905920 : UInt64))] (.double 0)) (hEr : Exa Z h0 r "[D") (hne : r ≠ a) (hA_a : n0 ≤ a) :
    own_C l Z (⟨"com/example/vestwright/vestwright/actuarial/MortalityTable", "<init>", "(Ljava/lang/String;I[D)V"⟩ : MethodName) prog_4_method_1_code 4 none ({ frames := 1, cells := 1, slots := 1, locals := 16 } : Room) #[(.ref a), (.ref s), (.int m), (.ref r)] h0 n0 (fun v h' => ∃ (a22 : Addr), v = none ∧ Keep h0 h' [a] ∧ n0 ≤ a22 ∧ h0.size ≤ a22 ∧ a22 < h'.size ∧ Fld Z h' a "com/example/vestwright/vestwright/actuarial/MortalityTable" "minimumAge" "I" (.int m) ∧ Fld Z h' a "com/example/vestwright/vestwright/actuarial/MortalityTable" "rates" "[D" (.ref a22) ∧ Arv Z h' a22 kA .double (1 : Int32) [(.double (4593671619917905920 : UInt64))] (.double 0)) := by
  refine own_met (Ls := #[.val (.ref a), .val (.ref s), .val (.int m), .val (.ref r)]) hw own_pl2 (fun m => by first | (simp [entryFrame, mkF, argsToLocals, Value.category]; done) | rfl) ?_
  intro B H
  have hK : Keep h0 h0 [a] := Keep.refl _ _
  refine own_aload_n H rfl rfl d2_0 ?_
  refine own_initObject H (w1 := 21) (w2 := 22) (w3 := 23) rfl rfl rfl 0 rfl (by decide) (Nat.le_of_eq rfl) (by decide) d2_1 ?_
  refine own_aload_n H rfl rfl d2_4 ?_
  refine own_aload_n H rfl rfl d2_5 ?_
  refine own_putfield H (w := 24) (wi := 8) rfl hF1 hE hA_a (Or.inr ⟨own_w H (i := 25) rfl, rfl, rfl⟩) rfl (ty := (.object "java/lang/String")) (by decide) rfl rfl d2_6 ?_
  intro h1 W2
  have f3 : Exa Z h1 a "com/example/vestwright/vestwright/actuarial/MortalityTable" := hE.wr W2
  have f4 : Fld Z h1 a "com/example/vestwright/vestwright/actuarial/MortalityTable" "name" "Ljava/lang/String;" (.ref s) := hF1.same W2
  have f5 : Fld Z h1 a "com/example/vestwright/vestwright/actuarial/MortalityTable" "minimumAge" "I" (.int (0 : Int32)) := hF2.other W2 (Or.inr (slot_ne (Or.inr (own_w H (i := 27) rfl)) (Or.inr (own_w H (i := 25) rfl)) (by decide) (t := .int) (t' := (.object "java/lang/String")) (by decide) (by decide)))
  have f6 : Fld Z h1 a "com/example/vestwright/vestwright/actuarial/MortalityTable" "rates" "[D" .null := hF3.other W2 (Or.inr (slot_ne (Or.inr (own_w H (i := 38) rfl)) (Or.inr (own_w H (i := 25) rfl)) (by decide) (t := (.array .double)) (t' := (.object "java/lang/String")) (by decide) (by decide)))
  have f7 : Arv Z h1 r kA .double (1 : Int32) [(.double (4593671619917905920 : UInt64))] (.double 0) := hV.other W2 hne
  have f8 : Exa Z h1 r "[D" := hEr.wr W2
  have f9 : n0 ≤ h1.size := by rw [W2.size]; exact hZ0
  have f10 : Keep h0 h1 [a] := hK.wr W2 (Or.inl (by simp))
  refine own_aload_n H rfl rfl d2_9 ?_
  refine own_iload_n H rfl d2_10 ?_
  refine own_putfield H (w := 26) (wi := 8) rfl f5 f3 hA_a (Or.inr ⟨own_w H (i := 27) rfl, rfl, rfl⟩) rfl (ty := .int) (by decide) rfl rfl d2_11 ?_
  intro h11 W12
  have f13 : Exa Z h11 a "com/example/vestwright/vestwright/actuarial/MortalityTable" := f3.wr W12
  have f14 : Fld Z h11 a "com/example/vestwright/vestwright/actuarial/MortalityTable" "name" "Ljava/lang/String;" (.ref s) := f4.other W12 (Or.inr (slot_ne (Or.inr (own_w H (i := 25) rfl)) (Or.inr (own_w H (i := 27) rfl)) (by decide) (t := (.object "java/lang/String")) (t' := .int) (by decide) (by decide)))
  have f15 : Fld Z h11 a "com/example/vestwright/vestwright/actuarial/MortalityTable" "minimumAge" "I" (.int m) := f5.same W12
  have f16 : Fld Z h11 a "com/example/vestwright/vestwright/actuarial/MortalityTable" "rates" "[D" .null := f6.other W12 (Or.inr (slot_ne (Or.inr (own_w H (i := 38) rfl)) (Or.inr (own_w H (i := 27) rfl)) (by decide) (t := (.array .double)) (t' := .int) (by decide) (by decide)))
  have f17 : Arv Z h11 r kA .double (1 : Int32) [(.double (4593671619917905920 : UInt64))] (.double 0) := f7.other W12 hne
  have f18 : Exa Z h11 r "[D" := f8.wr W12
  have f19 : n0 ≤ h11.size := by rw [W12.size]; exact f9
  have f20 : Keep h0 h11 [a] := f10.wr W12 (Or.inl (by simp))
  refine own_aload_n H rfl rfl d2_14 ?_
  refine own_aload_n H rfl rfl d2_15 ?_
  refine own_clone H (ad := "[D") (w1 := 28) (w2 := 29) (w3 := 33) (w4 := 31) (w5 := 32) (w6 := 34) rfl rfl rfl rfl rfl rfl f17 f18 rfl (by decide) 1 (Nat.le_of_eq rfl) (by decide) 1 (by decide) d2_16 (by decide) (by decide) ?_
  intro h21 a22 ha23 E24 V25 X26
  have f27 : a ≠ a22 := Nat.ne_of_lt (by rw [ha23]; exact f13.lt)
  have f28 : r ≠ a22 := Nat.ne_of_lt (by rw [ha23]; exact f18.lt)
  have f29 : n0 ≤ a22 := by rw [ha23]; exact f19
  have f30 : h0.size ≤ a22 := by rw [ha23]; exact f20.1
  have f31 : Exa Z h21 a "com/example/vestwright/vestwright/actuarial/MortalityTable" := f13.ext E24
  have f32 : Fld Z h21 a "com/example/vestwright/vestwright/actuarial/MortalityTable" "name" "Ljava/lang/String;" (.ref s) := f14.ext E24
  have f33 : Fld Z h21 a "com/example/vestwright/vestwright/actuarial/MortalityTable" "minimumAge" "I" (.int m) := f15.ext E24
  have f34 : Fld Z h21 a "com/example/vestwright/vestwright/actuarial/MortalityTable" "rates" "[D" .null := f16.ext E24
  have f35 : Arv Z h21 r kA .double (1 : Int32) [(.double (4593671619917905920 : UInt64))] (.double 0) := f17.ext E24
  have f36 : Exa Z h21 r "[D" := f18.ext E24
  have f37 : n0 ≤ h21.size := Nat.le_trans f19 E24.1
  have f38 : Keep h0 h21 [a] := f20.ext E24
  show own_G _ _ _ _ _ _ _ _ 19 #[.val (.ref a), .val (.ref s), .val (.int m), .val (.ref r)] [(.ref a22), (.ref a)]
  refine own_checkcast H (w := 35) rfl (Ins.self X26) d2_19 ?_
  show own_G _ _ _ _ _ _ _ _ 22 #[.val (.ref a), .val (.ref s), .val (.int m), .val (.ref r)] [(.ref a22), (.ref a)]
  refine own_putfield H (w := 37) (wi := 8) rfl f34 f31 hA_a (Or.inr ⟨own_w H (i := 38) rfl, rfl, rfl⟩) rfl (ty := (.array .double)) (by decide) rfl rfl d2_22 ?_
  intro h39 W40
  have f41 : Exa Z h39 a "com/example/vestwright/vestwright/actuarial/MortalityTable" := f31.wr W40
  have f42 : Fld Z h39 a "com/example/vestwright/vestwright/actuarial/MortalityTable" "name" "Ljava/lang/String;" (.ref s) := f32.other W40 (Or.inr (slot_ne (Or.inr (own_w H (i := 25) rfl)) (Or.inr (own_w H (i := 38) rfl)) (by decide) (t := (.object "java/lang/String")) (t' := (.array .double)) (by decide) (by decide)))
  have f43 : Fld Z h39 a "com/example/vestwright/vestwright/actuarial/MortalityTable" "minimumAge" "I" (.int m) := f33.other W40 (Or.inr (slot_ne (Or.inr (own_w H (i := 27) rfl)) (Or.inr (own_w H (i := 38) rfl)) (by decide) (t := .int) (t' := (.array .double)) (by decide) (by decide)))
  have f44 : Fld Z h39 a "com/example/vestwright/vestwright/actuarial/MortalityTable" "rates" "[D" (.ref a22) := f34.same W40
  have f45 : Arv Z h39 r kA .double (1 : Int32) [(.double (4593671619917905920 : UInt64))] (.double 0) := f35.other W40 hne
  have f46 : Exa Z h39 r "[D" := f36.wr W40
  have f47 : n0 ≤ h39.size := by rw [W40.size]; exact f37
  have f48 : Keep h0 h39 [a] := f38.wr W40 (Or.inl (by simp))
  have f49 : Arv Z h39 a22 kA .double (1 : Int32) [(.double (4593671619917905920 : UInt64))] (.double 0) := V25.other W40 f27.symm
  have f50 : Exa Z h39 a22 "[D" := X26.wr W40
  exact own_return H d2_25 (by decide) (by decide) ⟨a22, rfl, f48, f29, f30, f50.lt, f43, f44, f49⟩
set_option maxHeartbeats 4000000 in
theorem rmM1 (l : Launch) (Z : State) (a0 : Array Value) (hw : ∀ (i : Nat) (d : Jvm.Cond), tables_1[i]? = some d → d.before a0 Z = true) (h0 : Heap) (n0 : Nat) (a : Addr) (m : Int32) (t : Addr) (kA : ClassId) (hF2 : Fld Z h0 a "com/example/vestwright/vestwright/actuarial/MortalityTable" "minimumAge" "I" (.int m)) (hF3 : Fld Z h0 a "com/example/vestwright/vestwright/actuarial/MortalityTable" "rates" "[D" (.ref t)) (hV : Arv Z h0 t kA .double (1 : Int32) [(.double (4593671619917905920 : UInt64))] (.double 0)) :
    own_C l Z (⟨"com/example/vestwright/vestwright/actuarial/MortalityTable", "maximumAge", "()I"⟩ : MethodName) prog_4_method_4_code 1 (some .int) ({ frames := 0, cells := 0, slots := 0, locals := 0 } : Room) #[(.ref a)] h0 n0 (fun v h' => v = some (.int ((m + (1 : Int32)) - (1 : Int32))) ∧ h0 = h') := by
  refine own_met (Ls := #[.val (.ref a)]) hw own_pl4 (fun m => by first | (simp [entryFrame, mkF, argsToLocals, Value.category]; done) | rfl) ?_
  intro B H
  refine own_aload_n H rfl rfl d4_0 ?_
  refine own_getfield H (w := 26) rfl hF2 d4_1 ?_
  refine own_aload_n H rfl rfl d4_4 ?_
  refine own_getfield H (w := 37) rfl hF3 d4_5 ?_
  refine own_arraylengthV H hV d4_8 ?_
  refine own_iadd H rfl d4_9 ?_
  refine own_iconst H (1 : Int32) (by decide) d4_10 ?_
  refine own_isub H rfl d4_11 ?_
  exact own_ireturn H (by simp) rfl d4_12 (by decide) (by decide) ⟨rfl, rfl⟩
theorem d6_0 : decode prog_4_method_6_code 0 = .ok (.iload_n 1, 1) := by decide +kernel
theorem d6_1 : decode prog_4_method_6_code 1 = .ok (.aload_n 0, 1) := by decide +kernel
theorem d6_2 : decode prog_4_method_6_code 2 = .ok (.getfield 13, 3) := by decide +kernel
theorem d6_5 : decode prog_4_method_6_code 5 = .ok (.if_icmp .lt 11, 3) := by decide +kernel
theorem d6_8 : decode prog_4_method_6_code 8 = .ok (.iload_n 1, 1) := by decide +kernel
theorem d6_9 : decode prog_4_method_6_code 9 = .ok (.aload_n 0, 1) := by decide +kernel
theorem d6_10 : decode prog_4_method_6_code 10 = .ok (.invokevirtual 32, 3) := by decide +kernel
theorem d6_13 : decode prog_4_method_6_code 13 = .ok (.if_icmp .le 30, 3) := by decide +kernel
theorem d6_16 : decode prog_4_method_6_code 16 = .ok (.new 36, 3) := by decide +kernel
theorem d6_19 : decode prog_4_method_6_code 19 = .ok (.dup, 1) := by decide +kernel
theorem d6_20 : decode prog_4_method_6_code 20 = .ok (.aload_n 0, 1) := by decide +kernel
theorem d6_21 : decode prog_4_method_6_code 21 = .ok (.getfield 7, 3) := by decide +kernel
theorem d6_24 : decode prog_4_method_6_code 24 = .ok (.aload_n 2, 1) := by decide +kernel
theorem d6_25 : decode prog_4_method_6_code 25 = .ok (.iload_n 1, 1) := by decide +kernel
theorem d6_26 : decode prog_4_method_6_code 26 = .ok (.aload_n 0, 1) := by decide +kernel
theorem d6_27 : decode prog_4_method_6_code 27 = .ok (.getfield 13, 3) := by decide +kernel
theorem d6_30 : decode prog_4_method_6_code 30 = .ok (.aload_n 0, 1) := by decide +kernel
theorem d6_31 : decode prog_4_method_6_code 31 = .ok (.invokevirtual 32, 3) := by decide +kernel
theorem d6_34 : decode prog_4_method_6_code 34 = .ok (.invokedynamic 38, 5) := by decide +kernel
theorem d6_39 : decode prog_4_method_6_code 39 = .ok (.invokespecial 42, 3) := by decide +kernel
theorem d6_42 : decode prog_4_method_6_code 42 = .ok (.athrow, 1) := by decide +kernel
theorem d6_43 : decode prog_4_method_6_code 43 = .ok (.return_, 1) := by decide +kernel
theorem own_pl6 : plainFor (⟨"com/example/vestwright/vestwright/actuarial/MortalityTable", "checkAge", "(ILjava/lang/String;)V"⟩ : MethodName) = true := plainFor_of_name (by first | (simp [plainName, overriddenIn]; done) | decide +kernel)
theorem own_pd3 : parseMethodDescriptor "(ILjava/lang/String;)V" = some ⟨[.int, (.object "java/lang/String")], none⟩ := by decide +kernel
set_option maxHeartbeats 4000000 in
theorem rmC1 (l : Launch) (Z : State) (a0 : Array Value) (hw : ∀ (i : Nat) (d : Jvm.Cond), tables_1[i]? = some d → d.before a0 Z = true) (h0 : Heap) (n0 : Nat) (a : Addr) (q : Int32) (s : Addr) (m : Int32) (t : Addr) (kA : ClassId) (hE : Exa Z h0 a "com/example/vestwright/vestwright/actuarial/MortalityTable") (hF2 : Fld Z h0 a "com/example/vestwright/vestwright/actuarial/MortalityTable" "minimumAge" "I" (.int m)) (hF3 : Fld Z h0 a "com/example/vestwright/vestwright/actuarial/MortalityTable" "rates" "[D" (.ref t)) (hV : Arv Z h0 t kA .double (1 : Int32) [(.double (4593671619917905920 : UInt64))] (.double 0)) (hq1 : ¬ q < m) (hq2 : ¬ ((m + (1 : Int32)) - (1 : Int32)) < q) :
    own_C l Z (⟨"com/example/vestwright/vestwright/actuarial/MortalityTable", "checkAge", "(ILjava/lang/String;)V"⟩ : MethodName) prog_4_method_6_code 3 none ({ frames := 1, cells := 0, slots := 0, locals := 20 } : Room) #[(.ref a), (.int q), (.ref s)] h0 n0 (fun v h' => v = none ∧ h0 = h') := by
  refine own_met (Ls := #[.val (.ref a), .val (.int q), .val (.ref s)]) hw own_pl6 (fun m => by first | (simp [entryFrame, mkF, argsToLocals, Value.category]; done) | rfl) ?_
  intro B H
  refine own_iload_n H rfl d6_0 ?_
  refine own_aload_n H rfl rfl d6_1 ?_
  refine own_getfield H (w := 26) rfl hF2 d6_2 ?_
  refine own_icmplt_f H d6_5 hq1 ?_
  refine own_iload_n H rfl d6_8 ?_
  refine own_aload_n H rfl rfl d6_9 ?_
  refine own_invokevirtual H (a := a) (argsL := []) (rest := [(.int q)]) (rmM1 l Z a0 (own_hw H) h0 n0 a m t kA hF2 hF3 hV) hE (w1 := 59) (w0 := 40) (w5 := 42) (w2 := 41) (w3 := 9) (w4 := 43) rfl rfl rfl rfl rfl rfl own_pd2 rfl 1 (by decide) rfl (by decide) (Nat.le_of_eq rfl) (by decide) (by decide) (by decide) rfl d6_10 ?_
  rintro _ _ ⟨rfl, rfl⟩
  show own_G _ _ _ _ _ _ _ _ 13 #[.val (.ref a), .val (.int q), .val (.ref s)] [(.int ((m + (1 : Int32)) - (1 : Int32))), (.int q)]
  refine own_icmple_t H (pc' := 43) d6_13 (by decide) (by decide) hq2 ?_
  exact own_return H d6_43 (by decide) (by decide) ⟨rfl, rfl⟩
theorem d5_0 : decode prog_4_method_5_code 0 = .ok (.aload_n 0, 1) := by decide +kernel
theorem d5_1 : decode prog_4_method_5_code 1 = .ok (.iload_n 1, 1) := by decide +kernel
theorem d5_2 : decode prog_4_method_5_code 2 = .ok (.ldc 26, 2) := by decide +kernel
theorem d5_4 : decode prog_4_method_5_code 4 = .ok (.invokevirtual 28, 3) := by decide +kernel
theorem d5_7 : decode prog_4_method_5_code 7 = .ok (.aload_n 0, 1) := by decide +kernel
theorem d5_8 : decode prog_4_method_5_code 8 = .ok (.getfield 23, 3) := by decide +kernel
theorem d5_11 : decode prog_4_method_5_code 11 = .ok (.iload_n 1, 1) := by decide +kernel
theorem d5_12 : decode prog_4_method_5_code 12 = .ok (.aload_n 0, 1) := by decide +kernel
theorem d5_13 : decode prog_4_method_5_code 13 = .ok (.getfield 13, 3) := by decide +kernel
theorem d5_16 : decode prog_4_method_5_code 16 = .ok (.isub, 1) := by decide +kernel
theorem d5_17 : decode prog_4_method_5_code 17 = .ok (.daload, 1) := by decide +kernel
theorem d5_18 : decode prog_4_method_5_code 18 = .ok (.dreturn, 1) := by decide +kernel
theorem own_pl5 : plainFor (⟨"com/example/vestwright/vestwright/actuarial/MortalityTable", "probabilityOfDeath", "(I)D"⟩ : MethodName) = true := plainFor_of_name (by first | (simp [plainName, overriddenIn]; done) | decide +kernel)
theorem own_pd4 : parseMethodDescriptor "(I)D" = some ⟨[.int], some .double⟩ := by decide +kernel
set_option maxHeartbeats 4000000 in
theorem rmP1_0 (l : Launch) (Z : State) (a0 : Array Value) (hw : ∀ (i : Nat) (d : Jvm.Cond), tables_1[i]? = some d → d.before a0 Z = true) (h0 : Heap) (n0 : Nat) (a : Addr) (q : Int32) (m : Int32) (t : Addr) (kA : ClassId) (hZ0 : n0 ≤ h0.size) (hE : Exa Z h0 a "com/example/vestwright/vestwright/actuarial/MortalityTable") (hF2 : Fld Z h0 a "com/example/vestwright/vestwright/actuarial/MortalityTable" "minimumAge" "I" (.int m)) (hF3 : Fld Z h0 a "com/example/vestwright/vestwright/actuarial/MortalityTable" "rates" "[D" (.ref t)) (hV : Arv Z h0 t kA .double (1 : Int32) [(.double (4593671619917905920 : UInt64))] (.double 0)) (hq1 : ¬ q < m) (hq2 : ¬ ((m + (1 : Int32)) - (1 : Int32)) < q) (hj : q - m = (0 : Int32)) :
    own_CW l Z (⟨"com/example/vestwright/vestwright/actuarial/MortalityTable", "probabilityOfDeath", "(I)D"⟩ : MethodName) prog_4_method_5_code 2 (some .double) ({ frames := 2, cells := 2, slots := 20, locals := 50 } : Room) #[(.ref a), (.int q)] h0 n0 (fun v h' => v = some (.double (4593671619917905920 : UInt64)) ∧ Keep h0 h' []) := by
  refine own_metW (Ls := #[.val (.ref a), .val (.int q)]) hw own_pl5 (fun m => by first | (simp [entryFrame, mkF, argsToLocals, Value.category]; done) | rfl) ?_
  intro B H D
  have hK : Keep h0 h0 [] := Keep.refl _ _
  refine own_aload_n H rfl rfl d5_0 ?_
  refine own_iload_n H rfl d5_1 ?_
  refine own_ldcS H D (w := 53) rfl (own_atoms H (f := fun i => [11, 12, 13, 14, 15, 16, 17].getD i.val 0) rfl rfl rfl rfl rfl rfl rfl) 16 (by decide) (by decide) d5_2 (by decide) (by decide) ?_
  intro B a2 h1 H D E3
  have f4 : Exa Z h1 a "com/example/vestwright/vestwright/actuarial/MortalityTable" := hE.ext E3
  have f5 : Fld Z h1 a "com/example/vestwright/vestwright/actuarial/MortalityTable" "minimumAge" "I" (.int m) := hF2.ext E3
  have f6 : Fld Z h1 a "com/example/vestwright/vestwright/actuarial/MortalityTable" "rates" "[D" (.ref t) := hF3.ext E3
  have f7 : Arv Z h1 t kA .double (1 : Int32) [(.double (4593671619917905920 : UInt64))] (.double 0) := hV.ext E3
  have f8 : n0 ≤ h1.size := Nat.le_trans hZ0 E3.1
  have f9 : Keep h0 h1 [] := hK.ext E3
  show own_G _ _ _ _ _ _ _ _ 4 #[.val (.ref a), .val (.int q)] [(.ref a2), (.int q), (.ref a)]
  refine own_invokevirtual H (a := a) (argsL := [(.int q), (.ref a2)]) (rest := []) (rmC1 l Z a0 (own_hw H) h1 n0 a q a2 m t kA f4 f5 f6 f7 hq1 hq2) f4 (w1 := 54) (w0 := 55) (w5 := 57) (w2 := 56) (w3 := 9) (w4 := 58) rfl rfl rfl rfl rfl rfl own_pd3 rfl 0 (by decide) rfl (by decide) (Nat.le_of_eq rfl) (by decide) (by decide) (by decide) rfl d5_4 ?_
  rintro _ _ ⟨rfl, rfl⟩
  show own_G _ _ _ _ _ _ _ _ 7 #[.val (.ref a), .val (.int q)] []
  refine own_aload_n H rfl rfl d5_7 ?_
  refine own_getfield H (w := 37) rfl f6 d5_8 ?_
  refine own_iload_n H rfl d5_11 ?_
  refine own_aload_n H rfl rfl d5_12 ?_
  refine own_getfield H (w := 26) rfl f5 d5_13 ?_
  refine own_isub H rfl d5_16 ?_
  rw [hj]
  show own_G _ _ _ _ _ _ _ _ 17 #[.val (.ref a), .val (.int q)] [(.int (0 : Int32)), (.ref t)]
  refine own_daloadV H f7 (by decide) (by decide) rfl d5_17 ?_
  exact own_dreturn H d5_18 (by decide) (by decide) ⟨rfl, f9⟩
set_option maxHeartbeats 4000000 in
theorem rmR2 (l : Launch) (Z : State) (a0 : Array Value) (hw : ∀ (i : Nat) (d : Jvm.Cond), tables_1[i]? = some d → d.before a0 Z = true) (h0 : Heap) (n0 : Nat) (hZ0 : n0 ≤ h0.size) :
    own_C l Z (⟨"com/example/vestwright/vestwright/actuarial/MortalityTableMaximumAgePinLaw", "rates", "(I)[D"⟩ : MethodName) method_2_code 1 (some (.array .double)) ({ frames := 0, cells := 1, slots := 2, locals := 0 } : Room) #[(.int (2 : Int32))] h0 n0 (fun v h' => ∃ (a2 : Addr) (kA3 : ClassId), v = some (.ref a2) ∧ Keep h0 h' [] ∧ n0 ≤ a2 ∧ h0.size ≤ a2 ∧ a2 < h'.size ∧ Arv Z h' a2 kA3 .double (2 : Int32) [(.double (4593671619917905920 : UInt64)), (.double (4598175219545276416 : UInt64))] (.double 0) ∧ Exa Z h' a2 "[D") := by
  refine own_met (Ls := #[.val (.int (2 : Int32))]) hw own_pl1 (fun m => by first | (simp [entryFrame, mkF, argsToLocals, Value.category]; done) | rfl) ?_
  intro B H
  have hK : Keep h0 h0 [] := Keep.refl _ _
  refine own_iload_n H rfl d1_0 ?_
  refine own_ifne_t H (pc' := 8) d1_1 (by decide) (by decide) (by decide) ?_
  refine own_iload_n H rfl d1_8 ?_
  refine own_iconst H (1 : Int32) (by decide) d1_9 ?_
  refine own_icmpne_t H (pc' := 23) d1_10 (by decide) (by decide) (by decide) ?_
  refine own_iload_n H rfl d1_23 ?_
  refine own_iconst H (2 : Int32) (by decide) d1_24 ?_
  refine own_icmpne_f H d1_25 (by decide) ?_
  refine own_iconst H (2 : Int32) (by decide) d1_28 ?_
  refine own_newarrayE H (w := 6) (n := (2 : Int32)) rfl "[D" (by decide) (by decide) 2 (by decide) (by decide) d1_29 (by decide) (by decide) ?_
  intro h1 a2 kA3 ha4 E5 V6 X7
  have f8 : n0 ≤ a2 := by rw [ha4]; exact hZ0
  have f9 : h0.size ≤ a2 := by rw [ha4]; exact hK.1
  have f10 : n0 ≤ h1.size := Nat.le_trans hZ0 E5.1
  have f11 : Keep h0 h1 [] := hK.ext E5
  have f12 : Arv Z h1 a2 kA3 .double (2 : Int32) [(.double 0), (.double 0)] (.double 0) := V6.pad (pad_rep [] (.double 0) 2)
  show own_G _ _ _ _ _ _ _ _ 31 #[.val (.int (2 : Int32))] [(.ref a2)]
  refine own_dup H rfl d1_31 ?_
  refine own_iconst H (0 : Int32) (by decide) d1_32 ?_
  refine own_ldc2D H (w := 44) (v := (4593671619917905920 : UInt64)) rfl d1_33 ?_
  refine own_dastoreV H f12 (by decide) (by decide) 0 (by decide) (Nat.le_of_ble_eq_true rfl) f8 d1_36 ?_
  intro h13 W14 V15
  have f16 : n0 ≤ h13.size := by rw [W14.size]; exact f10
  have f17 : Keep h0 h13 [] := f11.wr W14 (Or.inr f9)
  have f18 : Exa Z h13 a2 "[D" := X7.wr W14
  have f19 : Arv Z h13 a2 kA3 .double (2 : Int32) [(.double (4593671619917905920 : UInt64)), (.double 0)] (.double 0) := V15
  refine own_dup H rfl d1_37 ?_
  refine own_iconst H (1 : Int32) (by decide) d1_38 ?_
  refine own_ldc2D H (w := 45) (v := (4598175219545276416 : UInt64)) rfl d1_39 ?_
  refine own_dastoreV H f19 (by decide) (by decide) 1 (by decide) (Nat.le_of_ble_eq_true rfl) f8 d1_42 ?_
  intro h20 W21 V22
  have f23 : n0 ≤ h20.size := by rw [W21.size]; exact f16
  have f24 : Keep h0 h20 [] := f17.wr W21 (Or.inr f9)
  have f25 : Exa Z h20 a2 "[D" := f18.wr W21
  have f26 : Arv Z h20 a2 kA3 .double (2 : Int32) [(.double (4593671619917905920 : UInt64)), (.double (4598175219545276416 : UInt64))] (.double 0) := V22
  exact own_areturn H rfl rfl rfl d1_43 (by decide) (by decide) ⟨a2, kA3, rfl, f24, f8, f9, f25.lt, f26, f25⟩
set_option maxHeartbeats 4000000 in
theorem rmI2 (l : Launch) (Z : State) (a0 : Array Value) (hw : ∀ (i : Nat) (d : Jvm.Cond), tables_1[i]? = some d → d.before a0 Z = true) (h0 : Heap) (n0 : Nat) (a : Addr) (s : Addr) (m : Int32) (r : Addr) (kA : ClassId) (hZ0 : n0 ≤ h0.size) (hE : Exa Z h0 a "com/example/vestwright/vestwright/actuarial/MortalityTable") (hF1 : Fld Z h0 a "com/example/vestwright/vestwright/actuarial/MortalityTable" "name" "Ljava/lang/String;" .null) (hF2 : Fld Z h0 a "com/example/vestwright/vestwright/actuarial/MortalityTable" "minimumAge" "I" (.int (0 : Int32))) (hF3 : Fld Z h0 a "com/example/vestwright/vestwright/actuarial/MortalityTable" "rates" "[D" .null) (hV : Arv Z h0 r kA .double (2 : Int32) [(.double (4593671619917905920 : UInt64)), (.double (4598175219545276416 : UInt64))] (.double 0)) (hEr : Exa Z h0 r "[D") (hne : r ≠ a) (hA_a : n0 ≤ a) :
    own_C l Z (⟨"com/example/vestwright/vestwright/actuarial/MortalityTable", "<init>", "(Ljava/lang/String;I[D)V"⟩ : MethodName) prog_4_method_1_code 4 none ({ frames := 1, cells := 1, slots := 2, locals := 16 } : Room) #[(.ref a), (.ref s), (.int m), (.ref r)] h0 n0 (fun v h' => ∃ (a22 : Addr), v = none ∧ Keep h0 h' [a] ∧ n0 ≤ a22 ∧ h0.size ≤ a22 ∧ a22 < h'.size ∧ Fld Z h' a "com/example/vestwright/vestwright/actuarial/MortalityTable" "minimumAge" "I" (.int m) ∧ Fld Z h' a "com/example/vestwright/vestwright/actuarial/MortalityTable" "rates" "[D" (.ref a22) ∧ Arv Z h' a22 kA .double (2 : Int32) [(.double (4593671619917905920 : UInt64)), (.double (4598175219545276416 : UInt64))] (.double 0)) := by
  refine own_met (Ls := #[.val (.ref a), .val (.ref s), .val (.int m), .val (.ref r)]) hw own_pl2 (fun m => by first | (simp [entryFrame, mkF, argsToLocals, Value.category]; done) | rfl) ?_
  intro B H
  have hK : Keep h0 h0 [a] := Keep.refl _ _
  refine own_aload_n H rfl rfl d2_0 ?_
  refine own_initObject H (w1 := 21) (w2 := 22) (w3 := 23) rfl rfl rfl 0 rfl (by decide) (Nat.le_of_eq rfl) (by decide) d2_1 ?_
  refine own_aload_n H rfl rfl d2_4 ?_
  refine own_aload_n H rfl rfl d2_5 ?_
  refine own_putfield H (w := 24) (wi := 8) rfl hF1 hE hA_a (Or.inr ⟨own_w H (i := 25) rfl, rfl, rfl⟩) rfl (ty := (.object "java/lang/String")) (by decide) rfl rfl d2_6 ?_
  intro h1 W2
  have f3 : Exa Z h1 a "com/example/vestwright/vestwright/actuarial/MortalityTable" := hE.wr W2
  have f4 : Fld Z h1 a "com/example/vestwright/vestwright/actuarial/MortalityTable" "name" "Ljava/lang/String;" (.ref s) := hF1.same W2
  have f5 : Fld Z h1 a "com/example/vestwright/vestwright/actuarial/MortalityTable" "minimumAge" "I" (.int (0 : Int32)) := hF2.other W2 (Or.inr (slot_ne (Or.inr (own_w H (i := 27) rfl)) (Or.inr (own_w H (i := 25) rfl)) (by decide) (t := .int) (t' := (.object "java/lang/String")) (by decide) (by decide)))
  have f6 : Fld Z h1 a "com/example/vestwright/vestwright/actuarial/MortalityTable" "rates" "[D" .null := hF3.other W2 (Or.inr (slot_ne (Or.inr (own_w H (i := 38) rfl)) (Or.inr (own_w H (i := 25) rfl)) (by decide) (t := (.array .double)) (t' := (.object "java/lang/String")) (by decide) (by decide)))
  have f7 : Arv Z h1 r kA .double (2 : Int32) [(.double (4593671619917905920 : UInt64)), (.double (4598175219545276416 : UInt64))] (.double 0) := hV.other W2 hne
  have f8 : Exa Z h1 r "[D" := hEr.wr W2
  have f9 : n0 ≤ h1.size := by rw [W2.size]; exact hZ0
  have f10 : Keep h0 h1 [a] := hK.wr W2 (Or.inl (by simp))
  refine own_aload_n H rfl rfl d2_9 ?_
  refine own_iload_n H rfl d2_10 ?_
  refine own_putfield H (w := 26) (wi := 8) rfl f5 f3 hA_a (Or.inr ⟨own_w H (i := 27) rfl, rfl, rfl⟩) rfl (ty := .int) (by decide) rfl rfl d2_11 ?_
  intro h11 W12
  have f13 : Exa Z h11 a "com/example/vestwright/vestwright/actuarial/MortalityTable" := f3.wr W12
  have f14 : Fld Z h11 a "com/example/vestwright/vestwright/actuarial/MortalityTable" "name" "Ljava/lang/String;" (.ref s) := f4.other W12 (Or.inr (slot_ne (Or.inr (own_w H (i := 25) rfl)) (Or.inr (own_w H (i := 27) rfl)) (by decide) (t := (.object "java/lang/String")) (t' := .int) (by decide) (by decide)))
  have f15 : Fld Z h11 a "com/example/vestwright/vestwright/actuarial/MortalityTable" "minimumAge" "I" (.int m) := f5.same W12
  have f16 : Fld Z h11 a "com/example/vestwright/vestwright/actuarial/MortalityTable" "rates" "[D" .null := f6.other W12 (Or.inr (slot_ne (Or.inr (own_w H (i := 38) rfl)) (Or.inr (own_w H (i := 27) rfl)) (by decide) (t := (.array .double)) (t' := .int) (by decide) (by decide)))
  have f17 : Arv Z h11 r kA .double (2 : Int32) [(.double (4593671619917905920 : UInt64)), (.double (4598175219545276416 : UInt64))] (.double 0) := f7.other W12 hne
  have f18 : Exa Z h11 r "[D" := f8.wr W12
  have f19 : n0 ≤ h11.size := by rw [W12.size]; exact f9
  have f20 : Keep h0 h11 [a] := f10.wr W12 (Or.inl (by simp))
  refine own_aload_n H rfl rfl d2_14 ?_
  refine own_aload_n H rfl rfl d2_15 ?_
  refine own_clone H (ad := "[D") (w1 := 28) (w2 := 29) (w3 := 33) (w4 := 31) (w5 := 32) (w6 := 34) rfl rfl rfl rfl rfl rfl f17 f18 rfl (by decide) 1 (Nat.le_of_eq rfl) (by decide) 2 (by decide) d2_16 (by decide) (by decide) ?_
  intro h21 a22 ha23 E24 V25 X26
  have f27 : a ≠ a22 := Nat.ne_of_lt (by rw [ha23]; exact f13.lt)
  have f28 : r ≠ a22 := Nat.ne_of_lt (by rw [ha23]; exact f18.lt)
  have f29 : n0 ≤ a22 := by rw [ha23]; exact f19
  have f30 : h0.size ≤ a22 := by rw [ha23]; exact f20.1
  have f31 : Exa Z h21 a "com/example/vestwright/vestwright/actuarial/MortalityTable" := f13.ext E24
  have f32 : Fld Z h21 a "com/example/vestwright/vestwright/actuarial/MortalityTable" "name" "Ljava/lang/String;" (.ref s) := f14.ext E24
  have f33 : Fld Z h21 a "com/example/vestwright/vestwright/actuarial/MortalityTable" "minimumAge" "I" (.int m) := f15.ext E24
  have f34 : Fld Z h21 a "com/example/vestwright/vestwright/actuarial/MortalityTable" "rates" "[D" .null := f16.ext E24
  have f35 : Arv Z h21 r kA .double (2 : Int32) [(.double (4593671619917905920 : UInt64)), (.double (4598175219545276416 : UInt64))] (.double 0) := f17.ext E24
  have f36 : Exa Z h21 r "[D" := f18.ext E24
  have f37 : n0 ≤ h21.size := Nat.le_trans f19 E24.1
  have f38 : Keep h0 h21 [a] := f20.ext E24
  show own_G _ _ _ _ _ _ _ _ 19 #[.val (.ref a), .val (.ref s), .val (.int m), .val (.ref r)] [(.ref a22), (.ref a)]
  refine own_checkcast H (w := 35) rfl (Ins.self X26) d2_19 ?_
  show own_G _ _ _ _ _ _ _ _ 22 #[.val (.ref a), .val (.ref s), .val (.int m), .val (.ref r)] [(.ref a22), (.ref a)]
  refine own_putfield H (w := 37) (wi := 8) rfl f34 f31 hA_a (Or.inr ⟨own_w H (i := 38) rfl, rfl, rfl⟩) rfl (ty := (.array .double)) (by decide) rfl rfl d2_22 ?_
  intro h39 W40
  have f41 : Exa Z h39 a "com/example/vestwright/vestwright/actuarial/MortalityTable" := f31.wr W40
  have f42 : Fld Z h39 a "com/example/vestwright/vestwright/actuarial/MortalityTable" "name" "Ljava/lang/String;" (.ref s) := f32.other W40 (Or.inr (slot_ne (Or.inr (own_w H (i := 25) rfl)) (Or.inr (own_w H (i := 38) rfl)) (by decide) (t := (.object "java/lang/String")) (t' := (.array .double)) (by decide) (by decide)))
  have f43 : Fld Z h39 a "com/example/vestwright/vestwright/actuarial/MortalityTable" "minimumAge" "I" (.int m) := f33.other W40 (Or.inr (slot_ne (Or.inr (own_w H (i := 27) rfl)) (Or.inr (own_w H (i := 38) rfl)) (by decide) (t := .int) (t' := (.array .double)) (by decide) (by decide)))
  have f44 : Fld Z h39 a "com/example/vestwright/vestwright/actuarial/MortalityTable" "rates" "[D" (.ref a22) := f34.same W40
  have f45 : Arv Z h39 r kA .double (2 : Int32) [(.double (4593671619917905920 : UInt64)), (.double (4598175219545276416 : UInt64))] (.double 0) := f35.other W40 hne
  have f46 : Exa Z h39 r "[D" := f36.wr W40
  have f47 : n0 ≤ h39.size := by rw [W40.size]; exact f37
  have f48 : Keep h0 h39 [a] := f38.wr W40 (Or.inl (by simp))
  have f49 : Arv Z h39 a22 kA .double (2 : Int32) [(.double (4593671619917905920 : UInt64)), (.double (4598175219545276416 : UInt64))] (.double 0) := V25.other W40 f27.symm
  have f50 : Exa Z h39 a22 "[D" := X26.wr W40
  exact own_return H d2_25 (by decide) (by decide) ⟨a22, rfl, f48, f29, f30, f50.lt, f43, f44, f49⟩
set_option maxHeartbeats 4000000 in
theorem rmM2 (l : Launch) (Z : State) (a0 : Array Value) (hw : ∀ (i : Nat) (d : Jvm.Cond), tables_1[i]? = some d → d.before a0 Z = true) (h0 : Heap) (n0 : Nat) (a : Addr) (m : Int32) (t : Addr) (kA : ClassId) (hF2 : Fld Z h0 a "com/example/vestwright/vestwright/actuarial/MortalityTable" "minimumAge" "I" (.int m)) (hF3 : Fld Z h0 a "com/example/vestwright/vestwright/actuarial/MortalityTable" "rates" "[D" (.ref t)) (hV : Arv Z h0 t kA .double (2 : Int32) [(.double (4593671619917905920 : UInt64)), (.double (4598175219545276416 : UInt64))] (.double 0)) :
    own_C l Z (⟨"com/example/vestwright/vestwright/actuarial/MortalityTable", "maximumAge", "()I"⟩ : MethodName) prog_4_method_4_code 1 (some .int) ({ frames := 0, cells := 0, slots := 0, locals := 0 } : Room) #[(.ref a)] h0 n0 (fun v h' => v = some (.int ((m + (2 : Int32)) - (1 : Int32))) ∧ h0 = h') := by
  refine own_met (Ls := #[.val (.ref a)]) hw own_pl4 (fun m => by first | (simp [entryFrame, mkF, argsToLocals, Value.category]; done) | rfl) ?_
  intro B H
  refine own_aload_n H rfl rfl d4_0 ?_
  refine own_getfield H (w := 26) rfl hF2 d4_1 ?_
  refine own_aload_n H rfl rfl d4_4 ?_
  refine own_getfield H (w := 37) rfl hF3 d4_5 ?_
  refine own_arraylengthV H hV d4_8 ?_
  refine own_iadd H rfl d4_9 ?_
  refine own_iconst H (1 : Int32) (by decide) d4_10 ?_
  refine own_isub H rfl d4_11 ?_
  exact own_ireturn H (by simp) rfl d4_12 (by decide) (by decide) ⟨rfl, rfl⟩
set_option maxHeartbeats 4000000 in
theorem rmC2 (l : Launch) (Z : State) (a0 : Array Value) (hw : ∀ (i : Nat) (d : Jvm.Cond), tables_1[i]? = some d → d.before a0 Z = true) (h0 : Heap) (n0 : Nat) (a : Addr) (q : Int32) (s : Addr) (m : Int32) (t : Addr) (kA : ClassId) (hE : Exa Z h0 a "com/example/vestwright/vestwright/actuarial/MortalityTable") (hF2 : Fld Z h0 a "com/example/vestwright/vestwright/actuarial/MortalityTable" "minimumAge" "I" (.int m)) (hF3 : Fld Z h0 a "com/example/vestwright/vestwright/actuarial/MortalityTable" "rates" "[D" (.ref t)) (hV : Arv Z h0 t kA .double (2 : Int32) [(.double (4593671619917905920 : UInt64)), (.double (4598175219545276416 : UInt64))] (.double 0)) (hq1 : ¬ q < m) (hq2 : ¬ ((m + (2 : Int32)) - (1 : Int32)) < q) :
    own_C l Z (⟨"com/example/vestwright/vestwright/actuarial/MortalityTable", "checkAge", "(ILjava/lang/String;)V"⟩ : MethodName) prog_4_method_6_code 3 none ({ frames := 1, cells := 0, slots := 0, locals := 20 } : Room) #[(.ref a), (.int q), (.ref s)] h0 n0 (fun v h' => v = none ∧ h0 = h') := by
  refine own_met (Ls := #[.val (.ref a), .val (.int q), .val (.ref s)]) hw own_pl6 (fun m => by first | (simp [entryFrame, mkF, argsToLocals, Value.category]; done) | rfl) ?_
  intro B H
  refine own_iload_n H rfl d6_0 ?_
  refine own_aload_n H rfl rfl d6_1 ?_
  refine own_getfield H (w := 26) rfl hF2 d6_2 ?_
  refine own_icmplt_f H d6_5 hq1 ?_
  refine own_iload_n H rfl d6_8 ?_
  refine own_aload_n H rfl rfl d6_9 ?_
  refine own_invokevirtual H (a := a) (argsL := []) (rest := [(.int q)]) (rmM2 l Z a0 (own_hw H) h0 n0 a m t kA hF2 hF3 hV) hE (w1 := 59) (w0 := 40) (w5 := 42) (w2 := 41) (w3 := 9) (w4 := 43) rfl rfl rfl rfl rfl rfl own_pd2 rfl 1 (by decide) rfl (by decide) (Nat.le_of_eq rfl) (by decide) (by decide) (by decide) rfl d6_10 ?_
  rintro _ _ ⟨rfl, rfl⟩
  show own_G _ _ _ _ _ _ _ _ 13 #[.val (.ref a), .val (.int q), .val (.ref s)] [(.int ((m + (2 : Int32)) - (1 : Int32))), (.int q)]
  refine own_icmple_t H (pc' := 43) d6_13 (by decide) (by decide) hq2 ?_
  exact own_return H d6_43 (by decide) (by decide) ⟨rfl, rfl⟩
set_option maxHeartbeats 4000000 in
theorem rmP2_0 (l : Launch) (Z : State) (a0 : Array Value) (hw : ∀ (i : Nat) (d : Jvm.Cond), tables_1[i]? = some d → d.before a0 Z = true) (h0 : Heap) (n0 : Nat) (a : Addr) (q : Int32) (m : Int32) (t : Addr) (kA : ClassId) (hZ0 : n0 ≤ h0.size) (hE : Exa Z h0 a "com/example/vestwright/vestwright/actuarial/MortalityTable") (hF2 : Fld Z h0 a "com/example/vestwright/vestwright/actuarial/MortalityTable" "minimumAge" "I" (.int m)) (hF3 : Fld Z h0 a "com/example/vestwright/vestwright/actuarial/MortalityTable" "rates" "[D" (.ref t)) (hV : Arv Z h0 t kA .double (2 : Int32) [(.double (4593671619917905920 : UInt64)), (.double (4598175219545276416 : UInt64))] (.double 0)) (hq1 : ¬ q < m) (hq2 : ¬ ((m + (2 : Int32)) - (1 : Int32)) < q) (hj : q - m = (0 : Int32)) :
    own_CW l Z (⟨"com/example/vestwright/vestwright/actuarial/MortalityTable", "probabilityOfDeath", "(I)D"⟩ : MethodName) prog_4_method_5_code 2 (some .double) ({ frames := 2, cells := 2, slots := 20, locals := 50 } : Room) #[(.ref a), (.int q)] h0 n0 (fun v h' => v = some (.double (4593671619917905920 : UInt64)) ∧ Keep h0 h' []) := by
  refine own_metW (Ls := #[.val (.ref a), .val (.int q)]) hw own_pl5 (fun m => by first | (simp [entryFrame, mkF, argsToLocals, Value.category]; done) | rfl) ?_
  intro B H D
  have hK : Keep h0 h0 [] := Keep.refl _ _
  refine own_aload_n H rfl rfl d5_0 ?_
  refine own_iload_n H rfl d5_1 ?_
  refine own_ldcS H D (w := 53) rfl (own_atoms H (f := fun i => [11, 12, 13, 14, 15, 16, 17].getD i.val 0) rfl rfl rfl rfl rfl rfl rfl) 16 (by decide) (by decide) d5_2 (by decide) (by decide) ?_
  intro B a2 h1 H D E3
  have f4 : Exa Z h1 a "com/example/vestwright/vestwright/actuarial/MortalityTable" := hE.ext E3
  have f5 : Fld Z h1 a "com/example/vestwright/vestwright/actuarial/MortalityTable" "minimumAge" "I" (.int m) := hF2.ext E3
  have f6 : Fld Z h1 a "com/example/vestwright/vestwright/actuarial/MortalityTable" "rates" "[D" (.ref t) := hF3.ext E3
  have f7 : Arv Z h1 t kA .double (2 : Int32) [(.double (4593671619917905920 : UInt64)), (.double (4598175219545276416 : UInt64))] (.double 0) := hV.ext E3
  have f8 : n0 ≤ h1.size := Nat.le_trans hZ0 E3.1
  have f9 : Keep h0 h1 [] := hK.ext E3
  show own_G _ _ _ _ _ _ _ _ 4 #[.val (.ref a), .val (.int q)] [(.ref a2), (.int q), (.ref a)]
  refine own_invokevirtual H (a := a) (argsL := [(.int q), (.ref a2)]) (rest := []) (rmC2 l Z a0 (own_hw H) h1 n0 a q a2 m t kA f4 f5 f6 f7 hq1 hq2) f4 (w1 := 54) (w0 := 55) (w5 := 57) (w2 := 56) (w3 := 9) (w4 := 58) rfl rfl rfl rfl rfl rfl own_pd3 rfl 0 (by decide) rfl (by decide) (Nat.le_of_eq rfl) (by decide) (by decide) (by decide) rfl d5_4 ?_
  rintro _ _ ⟨rfl, rfl⟩
  show own_G _ _ _ _ _ _ _ _ 7 #[.val (.ref a), .val (.int q)] []
  refine own_aload_n H rfl rfl d5_7 ?_
  refine own_getfield H (w := 37) rfl f6 d5_8 ?_
  refine own_iload_n H rfl d5_11 ?_
  refine own_aload_n H rfl rfl d5_12 ?_
  refine own_getfield H (w := 26) rfl f5 d5_13 ?_
  refine own_isub H rfl d5_16 ?_
  rw [hj]
  show own_G _ _ _ _ _ _ _ _ 17 #[.val (.ref a), .val (.int q)] [(.int (0 : Int32)), (.ref t)]
  refine own_daloadV H f7 (by decide) (by decide) rfl d5_17 ?_
  exact own_dreturn H d5_18 (by decide) (by decide) ⟨rfl, f9⟩
set_option maxHeartbeats 4000000 in
theorem rmP2_1 (l : Launch) (Z : State) (a0 : Array Value) (hw : ∀ (i : Nat) (d : Jvm.Cond), tables_1[i]? = some d → d.before a0 Z = true) (h0 : Heap) (n0 : Nat) (a : Addr) (q : Int32) (m : Int32) (t : Addr) (kA : ClassId) (hZ0 : n0 ≤ h0.size) (hE : Exa Z h0 a "com/example/vestwright/vestwright/actuarial/MortalityTable") (hF2 : Fld Z h0 a "com/example/vestwright/vestwright/actuarial/MortalityTable" "minimumAge" "I" (.int m)) (hF3 : Fld Z h0 a "com/example/vestwright/vestwright/actuarial/MortalityTable" "rates" "[D" (.ref t)) (hV : Arv Z h0 t kA .double (2 : Int32) [(.double (4593671619917905920 : UInt64)), (.double (4598175219545276416 : UInt64))] (.double 0)) (hq1 : ¬ q < m) (hq2 : ¬ ((m + (2 : Int32)) - (1 : Int32)) < q) (hj : q - m = (1 : Int32)) :
    own_CW l Z (⟨"com/example/vestwright/vestwright/actuarial/MortalityTable", "probabilityOfDeath", "(I)D"⟩ : MethodName) prog_4_method_5_code 2 (some .double) ({ frames := 2, cells := 2, slots := 20, locals := 50 } : Room) #[(.ref a), (.int q)] h0 n0 (fun v h' => v = some (.double (4598175219545276416 : UInt64)) ∧ Keep h0 h' []) := by
  refine own_metW (Ls := #[.val (.ref a), .val (.int q)]) hw own_pl5 (fun m => by first | (simp [entryFrame, mkF, argsToLocals, Value.category]; done) | rfl) ?_
  intro B H D
  have hK : Keep h0 h0 [] := Keep.refl _ _
  refine own_aload_n H rfl rfl d5_0 ?_
  refine own_iload_n H rfl d5_1 ?_
  refine own_ldcS H D (w := 53) rfl (own_atoms H (f := fun i => [11, 12, 13, 14, 15, 16, 17].getD i.val 0) rfl rfl rfl rfl rfl rfl rfl) 16 (by decide) (by decide) d5_2 (by decide) (by decide) ?_
  intro B a2 h1 H D E3
  have f4 : Exa Z h1 a "com/example/vestwright/vestwright/actuarial/MortalityTable" := hE.ext E3
  have f5 : Fld Z h1 a "com/example/vestwright/vestwright/actuarial/MortalityTable" "minimumAge" "I" (.int m) := hF2.ext E3
  have f6 : Fld Z h1 a "com/example/vestwright/vestwright/actuarial/MortalityTable" "rates" "[D" (.ref t) := hF3.ext E3
  have f7 : Arv Z h1 t kA .double (2 : Int32) [(.double (4593671619917905920 : UInt64)), (.double (4598175219545276416 : UInt64))] (.double 0) := hV.ext E3
  have f8 : n0 ≤ h1.size := Nat.le_trans hZ0 E3.1
  have f9 : Keep h0 h1 [] := hK.ext E3
  show own_G _ _ _ _ _ _ _ _ 4 #[.val (.ref a), .val (.int q)] [(.ref a2), (.int q), (.ref a)]
  refine own_invokevirtual H (a := a) (argsL := [(.int q), (.ref a2)]) (rest := []) (rmC2 l Z a0 (own_hw H) h1 n0 a q a2 m t kA f4 f5 f6 f7 hq1 hq2) f4 (w1 := 54) (w0 := 55) (w5 := 57) (w2 := 56) (w3 := 9) (w4 := 58) rfl rfl rfl rfl rfl rfl own_pd3 rfl 0 (by decide) rfl (by decide) (Nat.le_of_eq rfl) (by decide) (by decide) (by decide) rfl d5_4 ?_
  rintro _ _ ⟨rfl, rfl⟩
  show own_G _ _ _ _ _ _ _ _ 7 #[.val (.ref a), .val (.int q)] []
  refine own_aload_n H rfl rfl d5_7 ?_
  refine own_getfield H (w := 37) rfl f6 d5_8 ?_
  refine own_iload_n H rfl d5_11 ?_
  refine own_aload_n H rfl rfl d5_12 ?_
  refine own_getfield H (w := 26) rfl f5 d5_13 ?_
  refine own_isub H rfl d5_16 ?_
  rw [hj]
  show own_G _ _ _ _ _ _ _ _ 17 #[.val (.ref a), .val (.int q)] [(.int (1 : Int32)), (.ref t)]
  refine own_daloadV H f7 (by decide) (by decide) rfl d5_17 ?_
  exact own_dreturn H d5_18 (by decide) (by decide) ⟨rfl, f9⟩
set_option maxHeartbeats 4000000 in
theorem rmR3 (l : Launch) (Z : State) (a0 : Array Value) (hw : ∀ (i : Nat) (d : Jvm.Cond), tables_1[i]? = some d → d.before a0 Z = true) (h0 : Heap) (n0 : Nat) (hZ0 : n0 ≤ h0.size) :
    own_C l Z (⟨"com/example/vestwright/vestwright/actuarial/MortalityTableMaximumAgePinLaw", "rates", "(I)[D"⟩ : MethodName) method_2_code 1 (some (.array .double)) ({ frames := 0, cells := 1, slots := 3, locals := 0 } : Room) #[(.int (3 : Int32))] h0 n0 (fun v h' => ∃ (a2 : Addr) (kA3 : ClassId), v = some (.ref a2) ∧ Keep h0 h' [] ∧ n0 ≤ a2 ∧ h0.size ≤ a2 ∧ a2 < h'.size ∧ Arv Z h' a2 kA3 .double (3 : Int32) [(.double (4593671619917905920 : UInt64)), (.double (4598175219545276416 : UInt64)), (.double (4602678819172646912 : UInt64))] (.double 0) ∧ Exa Z h' a2 "[D") := by
  refine own_met (Ls := #[.val (.int (3 : Int32))]) hw own_pl1 (fun m => by first | (simp [entryFrame, mkF, argsToLocals, Value.category]; done) | rfl) ?_
  intro B H
  have hK : Keep h0 h0 [] := Keep.refl _ _
  refine own_iload_n H rfl d1_0 ?_
  refine own_ifne_t H (pc' := 8) d1_1 (by decide) (by decide) (by decide) ?_
  refine own_iload_n H rfl d1_8 ?_
  refine own_iconst H (1 : Int32) (by decide) d1_9 ?_
  refine own_icmpne_t H (pc' := 23) d1_10 (by decide) (by decide) (by decide) ?_
  refine own_iload_n H rfl d1_23 ?_
  refine own_iconst H (2 : Int32) (by decide) d1_24 ?_
  refine own_icmpne_t H (pc' := 44) d1_25 (by decide) (by decide) (by decide) ?_
  refine own_iload_n H rfl d1_44 ?_
  refine own_iconst H (3 : Int32) (by decide) d1_45 ?_
  refine own_icmpne_f H d1_46 (by decide) ?_
  refine own_iconst H (3 : Int32) (by decide) d1_49 ?_
  refine own_newarrayE H (w := 6) (n := (3 : Int32)) rfl "[D" (by decide) (by decide) 3 (by decide) (by decide) d1_50 (by decide) (by decide) ?_
  intro h1 a2 kA3 ha4 E5 V6 X7
  have f8 : n0 ≤ a2 := by rw [ha4]; exact hZ0
  have f9 : h0.size ≤ a2 := by rw [ha4]; exact hK.1
  have f10 : n0 ≤ h1.size := Nat.le_trans hZ0 E5.1
  have f11 : Keep h0 h1 [] := hK.ext E5
  have f12 : Arv Z h1 a2 kA3 .double (3 : Int32) [(.double 0), (.double 0), (.double 0)] (.double 0) := V6.pad (pad_rep [] (.double 0) 3)
  show own_G _ _ _ _ _ _ _ _ 52 #[.val (.int (3 : Int32))] [(.ref a2)]
  refine own_dup H rfl d1_52 ?_
  refine own_iconst H (0 : Int32) (by decide) d1_53 ?_
  refine own_ldc2D H (w := 44) (v := (4593671619917905920 : UInt64)) rfl d1_54 ?_
  refine own_dastoreV H f12 (by decide) (by decide) 0 (by decide) (Nat.le_of_ble_eq_true rfl) f8 d1_57 ?_
  intro h13 W14 V15
  have f16 : n0 ≤ h13.size := by rw [W14.size]; exact f10
  have f17 : Keep h0 h13 [] := f11.wr W14 (Or.inr f9)
  have f18 : Exa Z h13 a2 "[D" := X7.wr W14
  have f19 : Arv Z h13 a2 kA3 .double (3 : Int32) [(.double (4593671619917905920 : UInt64)), (.double 0), (.double 0)] (.double 0) := V15
  refine own_dup H rfl d1_58 ?_
  refine own_iconst H (1 : Int32) (by decide) d1_59 ?_
  refine own_ldc2D H (w := 45) (v := (4598175219545276416 : UInt64)) rfl d1_60 ?_
  refine own_dastoreV H f19 (by decide) (by decide) 1 (by decide) (Nat.le_of_ble_eq_true rfl) f8 d1_63 ?_
  intro h20 W21 V22
  have f23 : n0 ≤ h20.size := by rw [W21.size]; exact f16
  have f24 : Keep h0 h20 [] := f17.wr W21 (Or.inr f9)
  have f25 : Exa Z h20 a2 "[D" := f18.wr W21
  have f26 : Arv Z h20 a2 kA3 .double (3 : Int32) [(.double (4593671619917905920 : UInt64)), (.double (4598175219545276416 : UInt64)), (.double 0)] (.double 0) := V22
  refine own_dup H rfl d1_64 ?_
  refine own_iconst H (2 : Int32) (by decide) d1_65 ?_
  refine own_ldc2D H (w := 46) (v := (4602678819172646912 : UInt64)) rfl d1_66 ?_
  refine own_dastoreV H f26 (by decide) (by decide) 2 (by decide) (Nat.le_of_ble_eq_true rfl) f8 d1_69 ?_
  intro h27 W28 V29
  have f30 : n0 ≤ h27.size := by rw [W28.size]; exact f23
  have f31 : Keep h0 h27 [] := f24.wr W28 (Or.inr f9)
  have f32 : Exa Z h27 a2 "[D" := f25.wr W28
  have f33 : Arv Z h27 a2 kA3 .double (3 : Int32) [(.double (4593671619917905920 : UInt64)), (.double (4598175219545276416 : UInt64)), (.double (4602678819172646912 : UInt64))] (.double 0) := V29
  exact own_areturn H rfl rfl rfl d1_70 (by decide) (by decide) ⟨a2, kA3, rfl, f31, f8, f9, f32.lt, f33, f32⟩
set_option maxHeartbeats 4000000 in
theorem rmI3 (l : Launch) (Z : State) (a0 : Array Value) (hw : ∀ (i : Nat) (d : Jvm.Cond), tables_1[i]? = some d → d.before a0 Z = true) (h0 : Heap) (n0 : Nat) (a : Addr) (s : Addr) (m : Int32) (r : Addr) (kA : ClassId) (hZ0 : n0 ≤ h0.size) (hE : Exa Z h0 a "com/example/vestwright/vestwright/actuarial/MortalityTable") (hF1 : Fld Z h0 a "com/example/vestwright/vestwright/actuarial/MortalityTable" "name" "Ljava/lang/String;" .null) (hF2 : Fld Z h0 a "com/example/vestwright/vestwright/actuarial/MortalityTable" "minimumAge" "I" (.int (0 : Int32))) (hF3 : Fld Z h0 a "com/example/vestwright/vestwright/actuarial/MortalityTable" "rates" "[D" .null) (hV : Arv Z h0 r kA .double (3 : Int32) [(.double (4593671619917905920 : UInt64)), (.double (4598175219545276416 : UInt64)), (.double (4602678819172646912 : UInt64))] (.double 0)) (hEr : Exa Z h0 r "[D") (hne : r ≠ a) (hA_a : n0 ≤ a) :
    own_C l Z (⟨"com/example/vestwright/vestwright/actuarial/MortalityTable", "<init>", "(Ljava/lang/String;I[D)V"⟩ : MethodName) prog_4_method_1_code 4 none ({ frames := 1, cells := 1, slots := 3, locals := 16 } : Room) #[(.ref a), (.ref s), (.int m), (.ref r)] h0 n0 (fun v h' => ∃ (a22 : Addr), v = none ∧ Keep h0 h' [a] ∧ n0 ≤ a22 ∧ h0.size ≤ a22 ∧ a22 < h'.size ∧ Fld Z h' a "com/example/vestwright/vestwright/actuarial/MortalityTable" "minimumAge" "I" (.int m) ∧ Fld Z h' a "com/example/vestwright/vestwright/actuarial/MortalityTable" "rates" "[D" (.ref a22) ∧ Arv Z h' a22 kA .double (3 : Int32) [(.double (4593671619917905920 : UInt64)), (.double (4598175219545276416 : UInt64)), (.double (4602678819172646912 : UInt64))] (.double 0)) := by
  refine own_met (Ls := #[.val (.ref a), .val (.ref s), .val (.int m), .val (.ref r)]) hw own_pl2 (fun m => by first | (simp [entryFrame, mkF, argsToLocals, Value.category]; done) | rfl) ?_
  intro B H
  have hK : Keep h0 h0 [a] := Keep.refl _ _
  refine own_aload_n H rfl rfl d2_0 ?_
  refine own_initObject H (w1 := 21) (w2 := 22) (w3 := 23) rfl rfl rfl 0 rfl (by decide) (Nat.le_of_eq rfl) (by decide) d2_1 ?_
  refine own_aload_n H rfl rfl d2_4 ?_
  refine own_aload_n H rfl rfl d2_5 ?_
  refine own_putfield H (w := 24) (wi := 8) rfl hF1 hE hA_a (Or.inr ⟨own_w H (i := 25) rfl, rfl, rfl⟩) rfl (ty := (.object "java/lang/String")) (by decide) rfl rfl d2_6 ?_
  intro h1 W2
  have f3 : Exa Z h1 a "com/example/vestwright/vestwright/actuarial/MortalityTable" := hE.wr W2
  have f4 : Fld Z h1 a "com/example/vestwright/vestwright/actuarial/MortalityTable" "name" "Ljava/lang/String;" (.ref s) := hF1.same W2
  have f5 : Fld Z h1 a "com/example/vestwright/vestwright/actuarial/MortalityTable" "minimumAge" "I" (.int (0 : Int32)) := hF2.other W2 (Or.inr (slot_ne (Or.inr (own_w H (i := 27) rfl)) (Or.inr (own_w H (i := 25) rfl)) (by decide) (t := .int) (t' := (.object "java/lang/String")) (by decide) (by decide)))
  have f6 : Fld Z h1 a "com/example/vestwright/vestwright/actuarial/MortalityTable" "rates" "[D" .null := hF3.other W2 (Or.inr (slot_ne (Or.inr (own_w H (i := 38) rfl)) (Or.inr (own_w H (i := 25) rfl)) (by decide) (t := (.array .double)) (t' := (.object "java/lang/String")) (by decide) (by decide)))
  have f7 : Arv Z h1 r kA .double (3 : Int32) [(.double (4593671619917905920 : UInt64)), (.double (4598175219545276416 : UInt64)), (.double (4602678819172646912 : UInt64))] (.double 0) := hV.other W2 hne
  have f8 : Exa Z h1 r "[D" := hEr.wr W2
  have f9 : n0 ≤ h1.size := by rw [W2.size]; exact hZ0
  have f10 : Keep h0 h1 [a] := hK.wr W2 (Or.inl (by simp))
  refine own_aload_n H rfl rfl d2_9 ?_
  refine own_iload_n H rfl d2_10 ?_
  refine own_putfield H (w := 26) (wi := 8) rfl f5 f3 hA_a (Or.inr ⟨own_w H (i := 27) rfl, rfl, rfl⟩) rfl (ty := .int) (by decide) rfl rfl d2_11 ?_
  intro h11 W12
  have f13 : Exa Z h11 a "com/example/vestwright/vestwright/actuarial/MortalityTable" := f3.wr W12
  have f14 : Fld Z h11 a "com/example/vestwright/vestwright/actuarial/MortalityTable" "name" "Ljava/lang/String;" (.ref s) := f4.other W12 (Or.inr (slot_ne (Or.inr (own_w H (i := 25) rfl)) (Or.inr (own_w H (i := 27) rfl)) (by decide) (t := (.object "java/lang/String")) (t' := .int) (by decide) (by decide)))
  have f15 : Fld Z h11 a "com/example/vestwright/vestwright/actuarial/MortalityTable" "minimumAge" "I" (.int m) := f5.same W12
  have f16 : Fld Z h11 a "com/example/vestwright/vestwright/actuarial/MortalityTable" "rates" "[D" .null := f6.other W12 (Or.inr (slot_ne (Or.inr (own_w H (i := 38) rfl)) (Or.inr (own_w H (i := 27) rfl)) (by decide) (t := (.array .double)) (t' := .int) (by decide) (by decide)))
  have f17 : Arv Z h11 r kA .double (3 : Int32) [(.double (4593671619917905920 : UInt64)), (.double (4598175219545276416 : UInt64)), (.double (4602678819172646912 : UInt64))] (.double 0) := f7.other W12 hne
  have f18 : Exa Z h11 r "[D" := f8.wr W12
  have f19 : n0 ≤ h11.size := by rw [W12.size]; exact f9
  have f20 : Keep h0 h11 [a] := f10.wr W12 (Or.inl (by simp))
  refine own_aload_n H rfl rfl d2_14 ?_
  refine own_aload_n H rfl rfl d2_15 ?_
  refine own_clone H (ad := "[D") (w1 := 28) (w2 := 29) (w3 := 33) (w4 := 31) (w5 := 32) (w6 := 34) rfl rfl rfl rfl rfl rfl f17 f18 rfl (by decide) 1 (Nat.le_of_eq rfl) (by decide) 3 (by decide) d2_16 (by decide) (by decide) ?_
  intro h21 a22 ha23 E24 V25 X26
  have f27 : a ≠ a22 := Nat.ne_of_lt (by rw [ha23]; exact f13.lt)
  have f28 : r ≠ a22 := Nat.ne_of_lt (by rw [ha23]; exact f18.lt)
  have f29 : n0 ≤ a22 := by rw [ha23]; exact f19
  have f30 : h0.size ≤ a22 := by rw [ha23]; exact f20.1
  have f31 : Exa Z h21 a "com/example/vestwright/vestwright/actuarial/MortalityTable" := f13.ext E24
  have f32 : Fld Z h21 a "com/example/vestwright/vestwright/actuarial/MortalityTable" "name" "Ljava/lang/String;" (.ref s) := f14.ext E24
  have f33 : Fld Z h21 a "com/example/vestwright/vestwright/actuarial/MortalityTable" "minimumAge" "I" (.int m) := f15.ext E24
  have f34 : Fld Z h21 a "com/example/vestwright/vestwright/actuarial/MortalityTable" "rates" "[D" .null := f16.ext E24
  have f35 : Arv Z h21 r kA .double (3 : Int32) [(.double (4593671619917905920 : UInt64)), (.double (4598175219545276416 : UInt64)), (.double (4602678819172646912 : UInt64))] (.double 0) := f17.ext E24
  have f36 : Exa Z h21 r "[D" := f18.ext E24
  have f37 : n0 ≤ h21.size := Nat.le_trans f19 E24.1
  have f38 : Keep h0 h21 [a] := f20.ext E24
  show own_G _ _ _ _ _ _ _ _ 19 #[.val (.ref a), .val (.ref s), .val (.int m), .val (.ref r)] [(.ref a22), (.ref a)]
  refine own_checkcast H (w := 35) rfl (Ins.self X26) d2_19 ?_
  show own_G _ _ _ _ _ _ _ _ 22 #[.val (.ref a), .val (.ref s), .val (.int m), .val (.ref r)] [(.ref a22), (.ref a)]
  refine own_putfield H (w := 37) (wi := 8) rfl f34 f31 hA_a (Or.inr ⟨own_w H (i := 38) rfl, rfl, rfl⟩) rfl (ty := (.array .double)) (by decide) rfl rfl d2_22 ?_
  intro h39 W40
  have f41 : Exa Z h39 a "com/example/vestwright/vestwright/actuarial/MortalityTable" := f31.wr W40
  have f42 : Fld Z h39 a "com/example/vestwright/vestwright/actuarial/MortalityTable" "name" "Ljava/lang/String;" (.ref s) := f32.other W40 (Or.inr (slot_ne (Or.inr (own_w H (i := 25) rfl)) (Or.inr (own_w H (i := 38) rfl)) (by decide) (t := (.object "java/lang/String")) (t' := (.array .double)) (by decide) (by decide)))
  have f43 : Fld Z h39 a "com/example/vestwright/vestwright/actuarial/MortalityTable" "minimumAge" "I" (.int m) := f33.other W40 (Or.inr (slot_ne (Or.inr (own_w H (i := 27) rfl)) (Or.inr (own_w H (i := 38) rfl)) (by decide) (t := .int) (t' := (.array .double)) (by decide) (by decide)))
  have f44 : Fld Z h39 a "com/example/vestwright/vestwright/actuarial/MortalityTable" "rates" "[D" (.ref a22) := f34.same W40
  have f45 : Arv Z h39 r kA .double (3 : Int32) [(.double (4593671619917905920 : UInt64)), (.double (4598175219545276416 : UInt64)), (.double (4602678819172646912 : UInt64))] (.double 0) := f35.other W40 hne
  have f46 : Exa Z h39 r "[D" := f36.wr W40
  have f47 : n0 ≤ h39.size := by rw [W40.size]; exact f37
  have f48 : Keep h0 h39 [a] := f38.wr W40 (Or.inl (by simp))
  have f49 : Arv Z h39 a22 kA .double (3 : Int32) [(.double (4593671619917905920 : UInt64)), (.double (4598175219545276416 : UInt64)), (.double (4602678819172646912 : UInt64))] (.double 0) := V25.other W40 f27.symm
  have f50 : Exa Z h39 a22 "[D" := X26.wr W40
  exact own_return H d2_25 (by decide) (by decide) ⟨a22, rfl, f48, f29, f30, f50.lt, f43, f44, f49⟩
set_option maxHeartbeats 4000000 in
theorem rmM3 (l : Launch) (Z : State) (a0 : Array Value) (hw : ∀ (i : Nat) (d : Jvm.Cond), tables_1[i]? = some d → d.before a0 Z = true) (h0 : Heap) (n0 : Nat) (a : Addr) (m : Int32) (t : Addr) (kA : ClassId) (hF2 : Fld Z h0 a "com/example/vestwright/vestwright/actuarial/MortalityTable" "minimumAge" "I" (.int m)) (hF3 : Fld Z h0 a "com/example/vestwright/vestwright/actuarial/MortalityTable" "rates" "[D" (.ref t)) (hV : Arv Z h0 t kA .double (3 : Int32) [(.double (4593671619917905920 : UInt64)), (.double (4598175219545276416 : UInt64)), (.double (4602678819172646912 : UInt64))] (.double 0)) :
    own_C l Z (⟨"com/example/vestwright/vestwright/actuarial/MortalityTable", "maximumAge", "()I"⟩ : MethodName) prog_4_method_4_code 1 (some .int) ({ frames := 0, cells := 0, slots := 0, locals := 0 } : Room) #[(.ref a)] h0 n0 (fun v h' => v = some (.int ((m + (3 : Int32)) - (1 : Int32))) ∧ h0 = h') := by
  refine own_met (Ls := #[.val (.ref a)]) hw own_pl4 (fun m => by first | (simp [entryFrame, mkF, argsToLocals, Value.category]; done) | rfl) ?_
  intro B H
  refine own_aload_n H rfl rfl d4_0 ?_
  refine own_getfield H (w := 26) rfl hF2 d4_1 ?_
  refine own_aload_n H rfl rfl d4_4 ?_
  refine own_getfield H (w := 37) rfl hF3 d4_5 ?_
  refine own_arraylengthV H hV d4_8 ?_
  refine own_iadd H rfl d4_9 ?_
  refine own_iconst H (1 : Int32) (by decide) d4_10 ?_
  refine own_isub H rfl d4_11 ?_
  exact own_ireturn H (by simp) rfl d4_12 (by decide) (by decide) ⟨rfl, rfl⟩
set_option maxHeartbeats 4000000 in
theorem rmC3 (l : Launch) (Z : State) (a0 : Array Value) (hw : ∀ (i : Nat) (d : Jvm.Cond), tables_1[i]? = some d → d.before a0 Z = true) (h0 : Heap) (n0 : Nat) (a : Addr) (q : Int32) (s : Addr) (m : Int32) (t : Addr) (kA : ClassId) (hE : Exa Z h0 a "com/example/vestwright/vestwright/actuarial/MortalityTable") (hF2 : Fld Z h0 a "com/example/vestwright/vestwright/actuarial/MortalityTable" "minimumAge" "I" (.int m)) (hF3 : Fld Z h0 a "com/example/vestwright/vestwright/actuarial/MortalityTable" "rates" "[D" (.ref t)) (hV : Arv Z h0 t kA .double (3 : Int32) [(.double (4593671619917905920 : UInt64)), (.double (4598175219545276416 : UInt64)), (.double (4602678819172646912 : UInt64))] (.double 0)) (hq1 : ¬ q < m) (hq2 : ¬ ((m + (3 : Int32)) - (1 : Int32)) < q) :
    own_C l Z (⟨"com/example/vestwright/vestwright/actuarial/MortalityTable", "checkAge", "(ILjava/lang/String;)V"⟩ : MethodName) prog_4_method_6_code 3 none ({ frames := 1, cells := 0, slots := 0, locals := 20 } : Room) #[(.ref a), (.int q), (.ref s)] h0 n0 (fun v h' => v = none ∧ h0 = h') := by
  refine own_met (Ls := #[.val (.ref a), .val (.int q), .val (.ref s)]) hw own_pl6 (fun m => by first | (simp [entryFrame, mkF, argsToLocals, Value.category]; done) | rfl) ?_
  intro B H
  refine own_iload_n H rfl d6_0 ?_
  refine own_aload_n H rfl rfl d6_1 ?_
  refine own_getfield H (w := 26) rfl hF2 d6_2 ?_
  refine own_icmplt_f H d6_5 hq1 ?_
  refine own_iload_n H rfl d6_8 ?_
  refine own_aload_n H rfl rfl d6_9 ?_
  refine own_invokevirtual H (a := a) (argsL := []) (rest := [(.int q)]) (rmM3 l Z a0 (own_hw H) h0 n0 a m t kA hF2 hF3 hV) hE (w1 := 59) (w0 := 40) (w5 := 42) (w2 := 41) (w3 := 9) (w4 := 43) rfl rfl rfl rfl rfl rfl own_pd2 rfl 1 (by decide) rfl (by decide) (Nat.le_of_eq rfl) (by decide) (by decide) (by decide) rfl d6_10 ?_
  rintro _ _ ⟨rfl, rfl⟩
  show own_G _ _ _ _ _ _ _ _ 13 #[.val (.ref a), .val (.int q), .val (.ref s)] [(.int ((m + (3 : Int32)) - (1 : Int32))), (.int q)]
  refine own_icmple_t H (pc' := 43) d6_13 (by decide) (by decide) hq2 ?_
  exact own_return H d6_43 (by decide) (by decide) ⟨rfl, rfl⟩
set_option maxHeartbeats 4000000 in
theorem rmP3_0 (l : Launch) (Z : State) (a0 : Array Value) (hw : ∀ (i : Nat) (d : Jvm.Cond), tables_1[i]? = some d → d.before a0 Z = true) (h0 : Heap) (n0 : Nat) (a : Addr) (q : Int32) (m : Int32) (t : Addr) (kA : ClassId) (hZ0 : n0 ≤ h0.size) (hE : Exa Z h0 a "com/example/vestwright/vestwright/actuarial/MortalityTable") (hF2 : Fld Z h0 a "com/example/vestwright/vestwright/actuarial/MortalityTable" "minimumAge" "I" (.int m)) (hF3 : Fld Z h0 a "com/example/vestwright/vestwright/actuarial/MortalityTable" "rates" "[D" (.ref t)) (hV : Arv Z h0 t kA .double (3 : Int32) [(.double (4593671619917905920 : UInt64)), (.double (4598175219545276416 : UInt64)), (.double (4602678819172646912 : UInt64))] (.double 0)) (hq1 : ¬ q < m) (hq2 : ¬ ((m + (3 : Int32)) - (1 : Int32)) < q) (hj : q - m = (0 : Int32)) :
    own_CW l Z (⟨"com/example/vestwright/vestwright/actuarial/MortalityTable", "probabilityOfDeath", "(I)D"⟩ : MethodName) prog_4_method_5_code 2 (some .double) ({ frames := 2, cells := 2, slots := 20, locals := 50 } : Room) #[(.ref a), (.int q)] h0 n0 (fun v h' => v = some (.double (4593671619917905920 : UInt64)) ∧ Keep h0 h' []) := by
  refine own_metW (Ls := #[.val (.ref a), .val (.int q)]) hw own_pl5 (fun m => by first | (simp [entryFrame, mkF, argsToLocals, Value.category]; done) | rfl) ?_
  intro B H D
  have hK : Keep h0 h0 [] := Keep.refl _ _
  refine own_aload_n H rfl rfl d5_0 ?_
  refine own_iload_n H rfl d5_1 ?_
  refine own_ldcS H D (w := 53) rfl (own_atoms H (f := fun i => [11, 12, 13, 14, 15, 16, 17].getD i.val 0) rfl rfl rfl rfl rfl rfl rfl) 16 (by decide) (by decide) d5_2 (by decide) (by decide) ?_
  intro B a2 h1 H D E3
  have f4 : Exa Z h1 a "com/example/vestwright/vestwright/actuarial/MortalityTable" := hE.ext E3
  have f5 : Fld Z h1 a "com/example/vestwright/vestwright/actuarial/MortalityTable" "minimumAge" "I" (.int m) := hF2.ext E3
  have f6 : Fld Z h1 a "com/example/vestwright/vestwright/actuarial/MortalityTable" "rates" "[D" (.ref t) := hF3.ext E3
  have f7 : Arv Z h1 t kA .double (3 : Int32) [(.double (4593671619917905920 : UInt64)), (.double (4598175219545276416 : UInt64)), (.double (4602678819172646912 : UInt64))] (.double 0) := hV.ext E3
  have f8 : n0 ≤ h1.size := Nat.le_trans hZ0 E3.1
  have f9 : Keep h0 h1 [] := hK.ext E3
  show own_G _ _ _ _ _ _ _ _ 4 #[.val (.ref a), .val (.int q)] [(.ref a2), (.int q), (.ref a)]
  refine own_invokevirtual H (a := a) (argsL := [(.int q), (.ref a2)]) (rest := []) (rmC3 l Z a0 (own_hw H) h1 n0 a q a2 m t kA f4 f5 f6 f7 hq1 hq2) f4 (w1 := 54) (w0 := 55) (w5 := 57) (w2 := 56) (w3 := 9) (w4 := 58) rfl rfl rfl rfl rfl rfl own_pd3 rfl 0 (by decide) rfl (by decide) (Nat.le_of_eq rfl) (by decide) (by decide) (by decide) rfl d5_4 ?_
  rintro _ _ ⟨rfl, rfl⟩
  show own_G _ _ _ _ _ _ _ _ 7 #[.val (.ref a), .val (.int q)] []
  refine own_aload_n H rfl rfl d5_7 ?_
  refine own_getfield H (w := 37) rfl f6 d5_8 ?_
  refine own_iload_n H rfl d5_11 ?_
  refine own_aload_n H rfl rfl d5_12 ?_
  refine own_getfield H (w := 26) rfl f5 d5_13 ?_
  refine own_isub H rfl d5_16 ?_
  rw [hj]
  show own_G _ _ _ _ _ _ _ _ 17 #[.val (.ref a), .val (.int q)] [(.int (0 : Int32)), (.ref t)]
  refine own_daloadV H f7 (by decide) (by decide) rfl d5_17 ?_
  exact own_dreturn H d5_18 (by decide) (by decide) ⟨rfl, f9⟩
set_option maxHeartbeats 4000000 in
theorem rmP3_2 (l : Launch) (Z : State) (a0 : Array Value) (hw : ∀ (i : Nat) (d : Jvm.Cond), tables_1[i]? = some d → d.before a0 Z = true) (h0 : Heap) (n0 : Nat) (a : Addr) (q : Int32) (m : Int32) (t : Addr) (kA : ClassId) (hZ0 : n0 ≤ h0.size) (hE : Exa Z h0 a "com/example/vestwright/vestwright/actuarial/MortalityTable") (hF2 : Fld Z h0 a "com/example/vestwright/vestwright/actuarial/MortalityTable" "minimumAge" "I" (.int m)) (hF3 : Fld Z h0 a "com/example/vestwright/vestwright/actuarial/MortalityTable" "rates" "[D" (.ref t)) (hV : Arv Z h0 t kA .double (3 : Int32) [(.double (4593671619917905920 : UInt64)), (.double (4598175219545276416 : UInt64)), (.double (4602678819172646912 : UInt64))] (.double 0)) (hq1 : ¬ q < m) (hq2 : ¬ ((m + (3 : Int32)) - (1 : Int32)) < q) (hj : q - m = (2 : Int32)) :
    own_CW l Z (⟨"com/example/vestwright/vestwright/actuarial/MortalityTable", "probabilityOfDeath", "(I)D"⟩ : MethodName) prog_4_method_5_code 2 (some .double) ({ frames := 2, cells := 2, slots := 20, locals := 50 } : Room) #[(.ref a), (.int q)] h0 n0 (fun v h' => v = some (.double (4602678819172646912 : UInt64)) ∧ Keep h0 h' []) := by
  refine own_metW (Ls := #[.val (.ref a), .val (.int q)]) hw own_pl5 (fun m => by first | (simp [entryFrame, mkF, argsToLocals, Value.category]; done) | rfl) ?_
  intro B H D
  have hK : Keep h0 h0 [] := Keep.refl _ _
  refine own_aload_n H rfl rfl d5_0 ?_
  refine own_iload_n H rfl d5_1 ?_
  refine own_ldcS H D (w := 53) rfl (own_atoms H (f := fun i => [11, 12, 13, 14, 15, 16, 17].getD i.val 0) rfl rfl rfl rfl rfl rfl rfl) 16 (by decide) (by decide) d5_2 (by decide) (by decide) ?_
  intro B a2 h1 H D E3
  have f4 : Exa Z h1 a "com/example/vestwright/vestwright/actuarial/MortalityTable" := hE.ext E3
  have f5 : Fld Z h1 a "com/example/vestwright/vestwright/actuarial/MortalityTable" "minimumAge" "I" (.int m) := hF2.ext E3
  have f6 : Fld Z h1 a "com/example/vestwright/vestwright/actuarial/MortalityTable" "rates" "[D" (.ref t) := hF3.ext E3
  have f7 : Arv Z h1 t kA .double (3 : Int32) [(.double (4593671619917905920 : UInt64)), (.double (4598175219545276416 : UInt64)), (.double (4602678819172646912 : UInt64))] (.double 0) := hV.ext E3
  have f8 : n0 ≤ h1.size := Nat.le_trans hZ0 E3.1
  have f9 : Keep h0 h1 [] := hK.ext E3
  show own_G _ _ _ _ _ _ _ _ 4 #[.val (.ref a), .val (.int q)] [(.ref a2), (.int q), (.ref a)]
  refine own_invokevirtual H (a := a) (argsL := [(.int q), (.ref a2)]) (rest := []) (rmC3 l Z a0 (own_hw H) h1 n0 a q a2 m t kA f4 f5 f6 f7 hq1 hq2) f4 (w1 := 54) (w0 := 55) (w5 := 57) (w2 := 56) (w3 := 9) (w4 := 58) rfl rfl rfl rfl rfl rfl own_pd3 rfl 0 (by decide) rfl (by decide) (Nat.le_of_eq rfl) (by decide) (by decide) (by decide) rfl d5_4 ?_
  rintro _ _ ⟨rfl, rfl⟩
  show own_G _ _ _ _ _ _ _ _ 7 #[.val (.ref a), .val (.int q)] []
  refine own_aload_n H rfl rfl d5_7 ?_
  refine own_getfield H (w := 37) rfl f6 d5_8 ?_
  refine own_iload_n H rfl d5_11 ?_
  refine own_aload_n H rfl rfl d5_12 ?_
  refine own_getfield H (w := 26) rfl f5 d5_13 ?_
  refine own_isub H rfl d5_16 ?_
  rw [hj]
  show own_G _ _ _ _ _ _ _ _ 17 #[.val (.ref a), .val (.int q)] [(.int (2 : Int32)), (.ref t)]
  refine own_daloadV H f7 (by decide) (by decide) rfl d5_17 ?_
  exact own_dreturn H d5_18 (by decide) (by decide) ⟨rfl, f9⟩
set_option maxHeartbeats 4000000 in
theorem rmR4 (l : Launch) (Z : State) (a0 : Array Value) (hw : ∀ (i : Nat) (d : Jvm.Cond), tables_1[i]? = some d → d.before a0 Z = true) (h0 : Heap) (n0 : Nat) (hZ0 : n0 ≤ h0.size) :
    own_C l Z (⟨"com/example/vestwright/vestwright/actuarial/MortalityTableMaximumAgePinLaw", "rates", "(I)[D"⟩ : MethodName) method_2_code 1 (some (.array .double)) ({ frames := 0, cells := 1, slots := 4, locals := 0 } : Room) #[(.int (4 : Int32))] h0 n0 (fun v h' => ∃ (a2 : Addr) (kA3 : ClassId), v = some (.ref a2) ∧ Keep h0 h' [] ∧ n0 ≤ a2 ∧ h0.size ≤ a2 ∧ a2 < h'.size ∧ Arv Z h' a2 kA3 .double (4 : Int32) [(.double (4593671619917905920 : UInt64)), (.double (4598175219545276416 : UInt64)), (.double (4602678819172646912 : UInt64)), (.double (4604930618986332160 : UInt64))] (.double 0) ∧ Exa Z h' a2 "[D") := by
  refine own_met (Ls := #[.val (.int (4 : Int32))]) hw own_pl1 (fun m => by first | (simp [entryFrame, mkF, argsToLocals, Value.category]; done) | rfl) ?_
  intro B H
  have hK : Keep h0 h0 [] := Keep.refl _ _
  refine own_iload_n H rfl d1_0 ?_
  refine own_ifne_t H (pc' := 8) d1_1 (by decide) (by decide) (by decide) ?_
  refine own_iload_n H rfl d1_8 ?_
  refine own_iconst H (1 : Int32) (by decide) d1_9 ?_
  refine own_icmpne_t H (pc' := 23) d1_10 (by decide) (by decide) (by decide) ?_
  refine own_iload_n H rfl d1_23 ?_
  refine own_iconst H (2 : Int32) (by decide) d1_24 ?_
  refine own_icmpne_t H (pc' := 44) d1_25 (by decide) (by decide) (by decide) ?_
  refine own_iload_n H rfl d1_44 ?_
  refine own_iconst H (3 : Int32) (by decide) d1_45 ?_
  refine own_icmpne_t H (pc' := 71) d1_46 (by decide) (by decide) (by decide) ?_
  refine own_iconst H (4 : Int32) (by decide) d1_71 ?_
  refine own_newarrayE H (w := 6) (n := (4 : Int32)) rfl "[D" (by decide) (by decide) 4 (by decide) (by decide) d1_72 (by decide) (by decide) ?_
  intro h1 a2 kA3 ha4 E5 V6 X7
  have f8 : n0 ≤ a2 := by rw [ha4]; exact hZ0
  have f9 : h0.size ≤ a2 := by rw [ha4]; exact hK.1
  have f10 : n0 ≤ h1.size := Nat.le_trans hZ0 E5.1
  have f11 : Keep h0 h1 [] := hK.ext E5
  have f12 : Arv Z h1 a2 kA3 .double (4 : Int32) [(.double 0), (.double 0), (.double 0), (.double 0)] (.double 0) := V6.pad (pad_rep [] (.double 0) 4)
  show own_G _ _ _ _ _ _ _ _ 74 #[.val (.int (4 : Int32))] [(.ref a2)]
  refine own_dup H rfl d1_74 ?_
  refine own_iconst H (0 : Int32) (by decide) d1_75 ?_
  refine own_ldc2D H (w := 44) (v := (4593671619917905920 : UInt64)) rfl d1_76 ?_
  refine own_dastoreV H f12 (by decide) (by decide) 0 (by decide) (Nat.le_of_ble_eq_true rfl) f8 d1_79 ?_
  intro h13 W14 V15
  have f16 : n0 ≤ h13.size := by rw [W14.size]; exact f10
  have f17 : Keep h0 h13 [] := f11.wr W14 (Or.inr f9)
  have f18 : Exa Z h13 a2 "[D" := X7.wr W14
  have f19 : Arv Z h13 a2 kA3 .double (4 : Int32) [(.double (4593671619917905920 : UInt64)), (.double 0), (.double 0), (.double 0)] (.double 0) := V15
  refine own_dup H rfl d1_80 ?_
  refine own_iconst H (1 : Int32) (by decide) d1_81 ?_
  refine own_ldc2D H (w := 45) (v := (4598175219545276416 : UInt64)) rfl d1_82 ?_
  refine own_dastoreV H f19 (by decide) (by decide) 1 (by decide) (Nat.le_of_ble_eq_true rfl) f8 d1_85 ?_
  intro h20 W21 V22
  have f23 : n0 ≤ h20.size := by rw [W21.size]; exact f16
  have f24 : Keep h0 h20 [] := f17.wr W21 (Or.inr f9)
  have f25 : Exa Z h20 a2 "[D" := f18.wr W21
  have f26 : Arv Z h20 a2 kA3 .double (4 : Int32) [(.double (4593671619917905920 : UInt64)), (.double (4598175219545276416 : UInt64)), (.double 0), (.double 0)] (.double 0) := V22
  refine own_dup H rfl d1_86 ?_
  refine own_iconst H (2 : Int32) (by decide) d1_87 ?_
  refine own_ldc2D H (w := 46) (v := (4602678819172646912 : UInt64)) rfl d1_88 ?_
  refine own_dastoreV H f26 (by decide) (by decide) 2 (by decide) (Nat.le_of_ble_eq_true rfl) f8 d1_91 ?_
  intro h27 W28 V29
  have f30 : n0 ≤ h27.size := by rw [W28.size]; exact f23
  have f31 : Keep h0 h27 [] := f24.wr W28 (Or.inr f9)
  have f32 : Exa Z h27 a2 "[D" := f25.wr W28
  have f33 : Arv Z h27 a2 kA3 .double (4 : Int32) [(.double (4593671619917905920 : UInt64)), (.double (4598175219545276416 : UInt64)), (.double (4602678819172646912 : UInt64)), (.double 0)] (.double 0) := V29
  refine own_dup H rfl d1_92 ?_
  refine own_iconst H (3 : Int32) (by decide) d1_93 ?_
  refine own_ldc2D H (w := 47) (v := (4604930618986332160 : UInt64)) rfl d1_94 ?_
  refine own_dastoreV H f33 (by decide) (by decide) 3 (by decide) (Nat.le_of_ble_eq_true rfl) f8 d1_97 ?_
  intro h34 W35 V36
  have f37 : n0 ≤ h34.size := by rw [W35.size]; exact f30
  have f38 : Keep h0 h34 [] := f31.wr W35 (Or.inr f9)
  have f39 : Exa Z h34 a2 "[D" := f32.wr W35
  have f40 : Arv Z h34 a2 kA3 .double (4 : Int32) [(.double (4593671619917905920 : UInt64)), (.double (4598175219545276416 : UInt64)), (.double (4602678819172646912 : UInt64)), (.double (4604930618986332160 : UInt64))] (.double 0) := V36
  exact own_areturn H rfl rfl rfl d1_98 (by decide) (by decide) ⟨a2, kA3, rfl, f38, f8, f9, f39.lt, f40, f39⟩
set_option maxHeartbeats 4000000 in
theorem rmI4 (l : Launch) (Z : State) (a0 : Array Value) (hw : ∀ (i : Nat) (d : Jvm.Cond), tables_1[i]? = some d → d.before a0 Z = true) (h0 : Heap) (n0 : Nat) (a : Addr) (s : Addr) (m : Int32) (r : Addr) (kA : ClassId) (hZ0 : n0 ≤ h0.size) (hE : Exa Z h0 a "com/example/vestwright/vestwright/actuarial/MortalityTable") (hF1 : Fld Z h0 a "com/example/vestwright/vestwright/actuarial/MortalityTable" "name" "Ljava/lang/String;" .null) (hF2 : Fld Z h0 a "com/example/vestwright/vestwright/actuarial/MortalityTable" "minimumAge" "I" (.int (0 : Int32))) (hF3 : Fld Z h0 a "com/example/vestwright/vestwright/actuarial/MortalityTable" "rates" "[D" .null) (hV : Arv Z h0 r kA .double (4 : Int32) [(.double (4593671619917905920 : UInt64)), (.double (4598175219545276416 : UInt64)), (.double (4602678819172646912 : UInt64)), (.double (4604930618986332160 : UInt64))] (.double 0)) (hEr : Exa Z h0 r "[D") (hne : r ≠ a) (hA_a : n0 ≤ a) :
    own_C l Z (⟨"com/example/vestwright/vestwright/actuarial/MortalityTable", "<init>", "(Ljava/lang/String;I[D)V"⟩ : MethodName) prog_4_method_1_code 4 none ({ frames := 1, cells := 1, slots := 4, locals := 16 } : Room) #[(.ref a), (.ref s), (.int m), (.ref r)] h0 n0 (fun v h' => ∃ (a22 : Addr), v = none ∧ Keep h0 h' [a] ∧ n0 ≤ a22 ∧ h0.size ≤ a22 ∧ a22 < h'.size ∧ Fld Z h' a "com/example/vestwright/vestwright/actuarial/MortalityTable" "minimumAge" "I" (.int m) ∧ Fld Z h' a "com/example/vestwright/vestwright/actuarial/MortalityTable" "rates" "[D" (.ref a22) ∧ Arv Z h' a22 kA .double (4 : Int32) [(.double (4593671619917905920 : UInt64)), (.double (4598175219545276416 : UInt64)), (.double (4602678819172646912 : UInt64)), (.double (4604930618986332160 : UInt64))] (.double 0)) := by
  refine own_met (Ls := #[.val (.ref a), .val (.ref s), .val (.int m), .val (.ref r)]) hw own_pl2 (fun m => by first | (simp [entryFrame, mkF, argsToLocals, Value.category]; done) | rfl) ?_
  intro B H
  have hK : Keep h0 h0 [a] := Keep.refl _ _
  refine own_aload_n H rfl rfl d2_0 ?_
  refine own_initObject H (w1 := 21) (w2 := 22) (w3 := 23) rfl rfl rfl 0 rfl (by decide) (Nat.le_of_eq rfl) (by decide) d2_1 ?_
  refine own_aload_n H rfl rfl d2_4 ?_
  refine own_aload_n H rfl rfl d2_5 ?_
  refine own_putfield H (w := 24) (wi := 8) rfl hF1 hE hA_a (Or.inr ⟨own_w H (i := 25) rfl, rfl, rfl⟩) rfl (ty := (.object "java/lang/String")) (by decide) rfl rfl d2_6 ?_
  intro h1 W2
  have f3 : Exa Z h1 a "com/example/vestwright/vestwright/actuarial/MortalityTable" := hE.wr W2
  have f4 : Fld Z h1 a "com/example/vestwright/vestwright/actuarial/MortalityTable" "name" "Ljava/lang/String;" (.ref s) := hF1.same W2
  have f5 : Fld Z h1 a "com/example/vestwright/vestwright/actuarial/MortalityTable" "minimumAge" "I" (.int (0 : Int32)) := hF2.other W2 (Or.inr (slot_ne (Or.inr (own_w H (i := 27) rfl)) (Or.inr (own_w H (i := 25) rfl)) (by decide) (t := .int) (t' := (.object "java/lang/String")) (by decide) (by decide)))
  have f6 : Fld Z h1 a "com/example/vestwright/vestwright/actuarial/MortalityTable" "rates" "[D" .null := hF3.other W2 (Or.inr (slot_ne (Or.inr (own_w H (i := 38) rfl)) (Or.inr (own_w H (i := 25) rfl)) (by decide) (t := (.array .double)) (t' := (.object "java/lang/String")) (by decide) (by decide)))
  have f7 : Arv Z h1 r kA .double (4 : Int32) [(.double (4593671619917905920 : UInt64)), (.double (4598175219545276416 : UInt64)), (.double (4602678819172646912 : UInt64)), (.double (4604930618986332160 : UInt64))] (.double 0) := hV.other W2 hne
  have f8 : Exa Z h1 r "[D" := hEr.wr W2
  have f9 : n0 ≤ h1.size := by rw [W2.size]; exact hZ0
  have f10 : Keep h0 h1 [a] := hK.wr W2 (Or.inl (by simp))
  refine own_aload_n H rfl rfl d2_9 ?_
  refine own_iload_n H rfl d2_10 ?_
  refine own_putfield H (w := 26) (wi := 8) rfl f5 f3 hA_a (Or.inr ⟨own_w H (i := 27) rfl, rfl, rfl⟩) rfl (ty := .int) (by decide) rfl rfl d2_11 ?_
  intro h11 W12
  have f13 : Exa Z h11 a "com/example/vestwright/vestwright/actuarial/MortalityTable" := f3.wr W12
  have f14 : Fld Z h11 a "com/example/vestwright/vestwright/actuarial/MortalityTable" "name" "Ljava/lang/String;" (.ref s) := f4.other W12 (Or.inr (slot_ne (Or.inr (own_w H (i := 25) rfl)) (Or.inr (own_w H (i := 27) rfl)) (by decide) (t := (.object "java/lang/String")) (t' := .int) (by decide) (by decide)))
  have f15 : Fld Z h11 a "com/example/vestwright/vestwright/actuarial/MortalityTable" "minimumAge" "I" (.int m) := f5.same W12
  have f16 : Fld Z h11 a "com/example/vestwright/vestwright/actuarial/MortalityTable" "rates" "[D" .null := f6.other W12 (Or.inr (slot_ne (Or.inr (own_w H (i := 38) rfl)) (Or.inr (own_w H (i := 27) rfl)) (by decide) (t := (.array .double)) (t' := .int) (by decide) (by decide)))
  have f17 : Arv Z h11 r kA .double (4 : Int32) [(.double (4593671619917905920 : UInt64)), (.double (4598175219545276416 : UInt64)), (.double (4602678819172646912 : UInt64)), (.double (4604930618986332160 : UInt64))] (.double 0) := f7.other W12 hne
  have f18 : Exa Z h11 r "[D" := f8.wr W12
  have f19 : n0 ≤ h11.size := by rw [W12.size]; exact f9
  have f20 : Keep h0 h11 [a] := f10.wr W12 (Or.inl (by simp))
  refine own_aload_n H rfl rfl d2_14 ?_
  refine own_aload_n H rfl rfl d2_15 ?_
  refine own_clone H (ad := "[D") (w1 := 28) (w2 := 29) (w3 := 33) (w4 := 31) (w5 := 32) (w6 := 34) rfl rfl rfl rfl rfl rfl f17 f18 rfl (by decide) 1 (Nat.le_of_eq rfl) (by decide) 4 (by decide) d2_16 (by decide) (by decide) ?_
  intro h21 a22 ha23 E24 V25 X26
  have f27 : a ≠ a22 := Nat.ne_of_lt (by rw [ha23]; exact f13.lt)
  have f28 : r ≠ a22 := Nat.ne_of_lt (by rw [ha23]; exact f18.lt)
  have f29 : n0 ≤ a22 := by rw [ha23]; exact f19
  have f30 : h0.size ≤ a22 := by rw [ha23]; exact f20.1
  have f31 : Exa Z h21 a "com/example/vestwright/vestwright/actuarial/MortalityTable" := f13.ext E24
  have f32 : Fld Z h21 a "com/example/vestwright/vestwright/actuarial/MortalityTable" "name" "Ljava/lang/String;" (.ref s) := f14.ext E24
  have f33 : Fld Z h21 a "com/example/vestwright/vestwright/actuarial/MortalityTable" "minimumAge" "I" (.int m) := f15.ext E24
  have f34 : Fld Z h21 a "com/example/vestwright/vestwright/actuarial/MortalityTable" "rates" "[D" .null := f16.ext E24
  have f35 : Arv Z h21 r kA .double (4 : Int32) [(.double (4593671619917905920 : UInt64)), (.double (4598175219545276416 : UInt64)), (.double (4602678819172646912 : UInt64)), (.double (4604930618986332160 : UInt64))] (.double 0) := f17.ext E24
  have f36 : Exa Z h21 r "[D" := f18.ext E24
  have f37 : n0 ≤ h21.size := Nat.le_trans f19 E24.1
  have f38 : Keep h0 h21 [a] := f20.ext E24
  show own_G _ _ _ _ _ _ _ _ 19 #[.val (.ref a), .val (.ref s), .val (.int m), .val (.ref r)] [(.ref a22), (.ref a)]
  refine own_checkcast H (w := 35) rfl (Ins.self X26) d2_19 ?_
  show own_G _ _ _ _ _ _ _ _ 22 #[.val (.ref a), .val (.ref s), .val (.int m), .val (.ref r)] [(.ref a22), (.ref a)]
  refine own_putfield H (w := 37) (wi := 8) rfl f34 f31 hA_a (Or.inr ⟨own_w H (i := 38) rfl, rfl, rfl⟩) rfl (ty := (.array .double)) (by decide) rfl rfl d2_22 ?_
  intro h39 W40
  have f41 : Exa Z h39 a "com/example/vestwright/vestwright/actuarial/MortalityTable" := f31.wr W40
  have f42 : Fld Z h39 a "com/example/vestwright/vestwright/actuarial/MortalityTable" "name" "Ljava/lang/String;" (.ref s) := f32.other W40 (Or.inr (slot_ne (Or.inr (own_w H (i := 25) rfl)) (Or.inr (own_w H (i := 38) rfl)) (by decide) (t := (.object "java/lang/String")) (t' := (.array .double)) (by decide) (by decide)))
  have f43 : Fld Z h39 a "com/example/vestwright/vestwright/actuarial/MortalityTable" "minimumAge" "I" (.int m) := f33.other W40 (Or.inr (slot_ne (Or.inr (own_w H (i := 27) rfl)) (Or.inr (own_w H (i := 38) rfl)) (by decide) (t := .int) (t' := (.array .double)) (by decide) (by decide)))
  have f44 : Fld Z h39 a "com/example/vestwright/vestwright/actuarial/MortalityTable" "rates" "[D" (.ref a22) := f34.same W40
  have f45 : Arv Z h39 r kA .double (4 : Int32) [(.double (4593671619917905920 : UInt64)), (.double (4598175219545276416 : UInt64)), (.double (4602678819172646912 : UInt64)), (.double (4604930618986332160 : UInt64))] (.double 0) := f35.other W40 hne
  have f46 : Exa Z h39 r "[D" := f36.wr W40
  have f47 : n0 ≤ h39.size := by rw [W40.size]; exact f37
  have f48 : Keep h0 h39 [a] := f38.wr W40 (Or.inl (by simp))
  have f49 : Arv Z h39 a22 kA .double (4 : Int32) [(.double (4593671619917905920 : UInt64)), (.double (4598175219545276416 : UInt64)), (.double (4602678819172646912 : UInt64)), (.double (4604930618986332160 : UInt64))] (.double 0) := V25.other W40 f27.symm
  have f50 : Exa Z h39 a22 "[D" := X26.wr W40
  exact own_return H d2_25 (by decide) (by decide) ⟨a22, rfl, f48, f29, f30, f50.lt, f43, f44, f49⟩
set_option maxHeartbeats 4000000 in
theorem rmM4 (l : Launch) (Z : State) (a0 : Array Value) (hw : ∀ (i : Nat) (d : Jvm.Cond), tables_1[i]? = some d → d.before a0 Z = true) (h0 : Heap) (n0 : Nat) (a : Addr) (m : Int32) (t : Addr) (kA : ClassId) (hF2 : Fld Z h0 a "com/example/vestwright/vestwright/actuarial/MortalityTable" "minimumAge" "I" (.int m)) (hF3 : Fld Z h0 a "com/example/vestwright/vestwright/actuarial/MortalityTable" "rates" "[D" (.ref t)) (hV : Arv Z h0 t kA .double (4 : Int32) [(.double (4593671619917905920 : UInt64)), (.double (4598175219545276416 : UInt64)), (.double (4602678819172646912 : UInt64)), (.double (4604930618986332160 : UInt64))] (.double 0)) :
    own_C l Z (⟨"com/example/vestwright/vestwright/actuarial/MortalityTable", "maximumAge", "()I"⟩ : MethodName) prog_4_method_4_code 1 (some .int) ({ frames := 0, cells := 0, slots := 0, locals := 0 } : Room) #[(.ref a)] h0 n0 (fun v h' => v = some (.int ((m + (4 : Int32)) - (1 : Int32))) ∧ h0 = h') := by
  refine own_met (Ls := #[.val (.ref a)]) hw own_pl4 (fun m => by first | (simp [entryFrame, mkF, argsToLocals, Value.category]; done) | rfl) ?_
  intro B H
  refine own_aload_n H rfl rfl d4_0 ?_
  refine own_getfield H (w := 26) rfl hF2 d4_1 ?_
  refine own_aload_n H rfl rfl d4_4 ?_
  refine own_getfield H (w := 37) rfl hF3 d4_5 ?_
  refine own_arraylengthV H hV d4_8 ?_
  refine own_iadd H rfl d4_9 ?_
  refine own_iconst H (1 : Int32) (by decide) d4_10 ?_
  refine own_isub H rfl d4_11 ?_
  exact own_ireturn H (by simp) rfl d4_12 (by decide) (by decide) ⟨rfl, rfl⟩
set_option maxHeartbeats 4000000 in
theorem rmC4 (l : Launch) (Z : State) (a0 : Array Value) (hw : ∀ (i : Nat) (d : Jvm.Cond), tables_1[i]? = some d → d.before a0 Z = true) (h0 : Heap) (n0 : Nat) (a : Addr) (q : Int32) (s : Addr) (m : Int32) (t : Addr) (kA : ClassId) (hE : Exa Z h0 a "com/example/vestwright/vestwright/actuarial/MortalityTable") (hF2 : Fld Z h0 a "com/example/vestwright/vestwright/actuarial/MortalityTable" "minimumAge" "I" (.int m)) (hF3 : Fld Z h0 a "com/example/vestwright/vestwright/actuarial/MortalityTable" "rates" "[D" (.ref t)) (hV : Arv Z h0 t kA .double (4 : Int32) [(.double (4593671619917905920 : UInt64)), (.double (4598175219545276416 : UInt64)), (.double (4602678819172646912 : UInt64)), (.double (4604930618986332160 : UInt64))] (.double 0)) (hq1 : ¬ q < m) (hq2 : ¬ ((m + (4 : Int32)) - (1 : Int32)) < q) :
    own_C l Z (⟨"com/example/vestwright/vestwright/actuarial/MortalityTable", "checkAge", "(ILjava/lang/String;)V"⟩ : MethodName) prog_4_method_6_code 3 none ({ frames := 1, cells := 0, slots := 0, locals := 20 } : Room) #[(.ref a), (.int q), (.ref s)] h0 n0 (fun v h' => v = none ∧ h0 = h') := by
  refine own_met (Ls := #[.val (.ref a), .val (.int q), .val (.ref s)]) hw own_pl6 (fun m => by first | (simp [entryFrame, mkF, argsToLocals, Value.category]; done) | rfl) ?_
  intro B H
  refine own_iload_n H rfl d6_0 ?_
  refine own_aload_n H rfl rfl d6_1 ?_
  refine own_getfield H (w := 26) rfl hF2 d6_2 ?_
  refine own_icmplt_f H d6_5 hq1 ?_
  refine own_iload_n H rfl d6_8 ?_
  refine own_aload_n H rfl rfl d6_9 ?_
  refine own_invokevirtual H (a := a) (argsL := []) (rest := [(.int q)]) (rmM4 l Z a0 (own_hw H) h0 n0 a m t kA hF2 hF3 hV) hE (w1 := 59) (w0 := 40) (w5 := 42) (w2 := 41) (w3 := 9) (w4 := 43) rfl rfl rfl rfl rfl rfl own_pd2 rfl 1 (by decide) rfl (by decide) (Nat.le_of_eq rfl) (by decide) (by decide) (by decide) rfl d6_10 ?_
  rintro _ _ ⟨rfl, rfl⟩
  show own_G _ _ _ _ _ _ _ _ 13 #[.val (.ref a), .val (.int q), .val (.ref s)] [(.int ((m + (4 : Int32)) - (1 : Int32))), (.int q)]
  refine own_icmple_t H (pc' := 43) d6_13 (by decide) (by decide) hq2 ?_
  exact own_return H d6_43 (by decide) (by decide) ⟨rfl, rfl⟩
set_option maxHeartbeats 4000000 in
theorem rmP4_0 (l : Launch) (Z : State) (a0 : Array Value) (hw : ∀ (i : Nat) (d : Jvm.Cond), tables_1[i]? = some d → d.before a0 Z = true) (h0 : Heap) (n0 : Nat) (a : Addr) (q : Int32) (m : Int32) (t : Addr) (kA : ClassId) (hZ0 : n0 ≤ h0.size) (hE : Exa Z h0 a "com/example/vestwright/vestwright/actuarial/MortalityTable") (hF2 : Fld Z h0 a "com/example/vestwright/vestwright/actuarial/MortalityTable" "minimumAge" "I" (.int m)) (hF3 : Fld Z h0 a "com/example/vestwright/vestwright/actuarial/MortalityTable" "rates" "[D" (.ref t)) (hV : Arv Z h0 t kA .double (4 : Int32) [(.double (4593671619917905920 : UInt64)), (.double (4598175219545276416 : UInt64)), (.double (4602678819172646912 : UInt64)), (.double (4604930618986332160 : UInt64))] (.double 0)) (hq1 : ¬ q < m) (hq2 : ¬ ((m + (4 : Int32)) - (1 : Int32)) < q) (hj : q - m = (0 : Int32)) :
    own_CW l Z (⟨"com/example/vestwright/vestwright/actuarial/MortalityTable", "probabilityOfDeath", "(I)D"⟩ : MethodName) prog_4_method_5_code 2 (some .double) ({ frames := 2, cells := 2, slots := 20, locals := 50 } : Room) #[(.ref a), (.int q)] h0 n0 (fun v h' => v = some (.double (4593671619917905920 : UInt64)) ∧ Keep h0 h' []) := by
  refine own_metW (Ls := #[.val (.ref a), .val (.int q)]) hw own_pl5 (fun m => by first | (simp [entryFrame, mkF, argsToLocals, Value.category]; done) | rfl) ?_
  intro B H D
  have hK : Keep h0 h0 [] := Keep.refl _ _
  refine own_aload_n H rfl rfl d5_0 ?_
  refine own_iload_n H rfl d5_1 ?_
  refine own_ldcS H D (w := 53) rfl (own_atoms H (f := fun i => [11, 12, 13, 14, 15, 16, 17].getD i.val 0) rfl rfl rfl rfl rfl rfl rfl) 16 (by decide) (by decide) d5_2 (by decide) (by decide) ?_
  intro B a2 h1 H D E3
  have f4 : Exa Z h1 a "com/example/vestwright/vestwright/actuarial/MortalityTable" := hE.ext E3
  have f5 : Fld Z h1 a "com/example/vestwright/vestwright/actuarial/MortalityTable" "minimumAge" "I" (.int m) := hF2.ext E3
  have f6 : Fld Z h1 a "com/example/vestwright/vestwright/actuarial/MortalityTable" "rates" "[D" (.ref t) := hF3.ext E3
  have f7 : Arv Z h1 t kA .double (4 : Int32) [(.double (4593671619917905920 : UInt64)), (.double (4598175219545276416 : UInt64)), (.double (4602678819172646912 : UInt64)), (.double (4604930618986332160 : UInt64))] (.double 0) := hV.ext E3
  have f8 : n0 ≤ h1.size := Nat.le_trans hZ0 E3.1
  have f9 : Keep h0 h1 [] := hK.ext E3
  show own_G _ _ _ _ _ _ _ _ 4 #[.val (.ref a), .val (.int q)] [(.ref a2), (.int q), (.ref a)]
  refine own_invokevirtual H (a := a) (argsL := [(.int q), (.ref a2)]) (rest := []) (rmC4 l Z a0 (own_hw H) h1 n0 a q a2 m t kA f4 f5 f6 f7 hq1 hq2) f4 (w1 := 54) (w0 := 55) (w5 := 57) (w2 := 56) (w3 := 9) (w4 := 58) rfl rfl rfl rfl rfl rfl own_pd3 rfl 0 (by decide) rfl (by decide) (Nat.le_of_eq rfl) (by decide) (by decide) (by decide) rfl d5_4 ?_
  rintro _ _ ⟨rfl, rfl⟩
  show own_G _ _ _ _ _ _ _ _ 7 #[.val (.ref a), .val (.int q)] []
  refine own_aload_n H rfl rfl d5_7 ?_
  refine own_getfield H (w := 37) rfl f6 d5_8 ?_
  refine own_iload_n H rfl d5_11 ?_
  refine own_aload_n H rfl rfl d5_12 ?_
  refine own_getfield H (w := 26) rfl f5 d5_13 ?_
  refine own_isub H rfl d5_16 ?_
  rw [hj]
  show own_G _ _ _ _ _ _ _ _ 17 #[.val (.ref a), .val (.int q)] [(.int (0 : Int32)), (.ref t)]
  refine own_daloadV H f7 (by decide) (by decide) rfl d5_17 ?_
  exact own_dreturn H d5_18 (by decide) (by decide) ⟨rfl, f9⟩
set_option maxHeartbeats 4000000 in
theorem rmP4_3 (l : Launch) (Z : State) (a0 : Array Value) (hw : ∀ (i : Nat) (d : Jvm.Cond), tables_1[i]? = some d → d.before a0 Z = true) (h0 : Heap) (n0 : Nat) (a : Addr) (q : Int32) (m : Int32) (t : Addr) (kA : ClassId) (hZ0 : n0 ≤ h0.size) (hE : Exa Z h0 a "com/example/vestwright/vestwright/actuarial/MortalityTable") (hF2 : Fld Z h0 a "com/example/vestwright/vestwright/actuarial/MortalityTable" "minimumAge" "I" (.int m)) (hF3 : Fld Z h0 a "com/example/vestwright/vestwright/actuarial/MortalityTable" "rates" "[D" (.ref t)) (hV : Arv Z h0 t kA .double (4 : Int32) [(.double (4593671619917905920 : UInt64)), (.double (4598175219545276416 : UInt64)), (.double (4602678819172646912 : UInt64)), (.double (4604930618986332160 : UInt64))] (.double 0)) (hq1 : ¬ q < m) (hq2 : ¬ ((m + (4 : Int32)) - (1 : Int32)) < q) (hj : q - m = (3 : Int32)) :
    own_CW l Z (⟨"com/example/vestwright/vestwright/actuarial/MortalityTable", "probabilityOfDeath", "(I)D"⟩ : MethodName) prog_4_method_5_code 2 (some .double) ({ frames := 2, cells := 2, slots := 20, locals := 50 } : Room) #[(.ref a), (.int q)] h0 n0 (fun v h' => v = some (.double (4604930618986332160 : UInt64)) ∧ Keep h0 h' []) := by
  refine own_metW (Ls := #[.val (.ref a), .val (.int q)]) hw own_pl5 (fun m => by first | (simp [entryFrame, mkF, argsToLocals, Value.category]; done) | rfl) ?_
  intro B H D
  have hK : Keep h0 h0 [] := Keep.refl _ _
  refine own_aload_n H rfl rfl d5_0 ?_
  refine own_iload_n H rfl d5_1 ?_
  refine own_ldcS H D (w := 53) rfl (own_atoms H (f := fun i => [11, 12, 13, 14, 15, 16, 17].getD i.val 0) rfl rfl rfl rfl rfl rfl rfl) 16 (by decide) (by decide) d5_2 (by decide) (by decide) ?_
  intro B a2 h1 H D E3
  have f4 : Exa Z h1 a "com/example/vestwright/vestwright/actuarial/MortalityTable" := hE.ext E3
  have f5 : Fld Z h1 a "com/example/vestwright/vestwright/actuarial/MortalityTable" "minimumAge" "I" (.int m) := hF2.ext E3
  have f6 : Fld Z h1 a "com/example/vestwright/vestwright/actuarial/MortalityTable" "rates" "[D" (.ref t) := hF3.ext E3
  have f7 : Arv Z h1 t kA .double (4 : Int32) [(.double (4593671619917905920 : UInt64)), (.double (4598175219545276416 : UInt64)), (.double (4602678819172646912 : UInt64)), (.double (4604930618986332160 : UInt64))] (.double 0) := hV.ext E3
  have f8 : n0 ≤ h1.size := Nat.le_trans hZ0 E3.1
  have f9 : Keep h0 h1 [] := hK.ext E3
  show own_G _ _ _ _ _ _ _ _ 4 #[.val (.ref a), .val (.int q)] [(.ref a2), (.int q), (.ref a)]
  refine own_invokevirtual H (a := a) (argsL := [(.int q), (.ref a2)]) (rest := []) (rmC4 l Z a0 (own_hw H) h1 n0 a q a2 m t kA f4 f5 f6 f7 hq1 hq2) f4 (w1 := 54) (w0 := 55) (w5 := 57) (w2 := 56) (w3 := 9) (w4 := 58) rfl rfl rfl rfl rfl rfl own_pd3 rfl 0 (by decide) rfl (by decide) (Nat.le_of_eq rfl) (by decide) (by decide) (by decide) rfl d5_4 ?_
  rintro _ _ ⟨rfl, rfl⟩
  show own_G _ _ _ _ _ _ _ _ 7 #[.val (.ref a), .val (.int q)] []
  refine own_aload_n H rfl rfl d5_7 ?_
  refine own_getfield H (w := 37) rfl f6 d5_8 ?_
  refine own_iload_n H rfl d5_11 ?_
  refine own_aload_n H rfl rfl d5_12 ?_
  refine own_getfield H (w := 26) rfl f5 d5_13 ?_
  refine own_isub H rfl d5_16 ?_
  rw [hj]
  show own_G _ _ _ _ _ _ _ _ 17 #[.val (.ref a), .val (.int q)] [(.int (3 : Int32)), (.ref t)]
  refine own_daloadV H f7 (by decide) (by decide) rfl d5_17 ?_
  exact own_dreturn H d5_18 (by decide) (by decide) ⟨rfl, f9⟩
theorem own_and31 (p : Int32) : 0 ≤ (p &&& (2147483647 : Int32)).toInt := by
  have h : (p &&& (2147483647 : Int32)).toBitVec.toNat = p.toBitVec.toNat % 2147483648 := by
    have : (p &&& (2147483647 : Int32)).toBitVec.toNat = p.toBitVec.toNat &&& 2147483647 := by
      rw [Int32.toBitVec_and, BitVec.toNat_and]; rfl
    rw [this]
    exact Nat.and_two_pow_sub_one_eq_mod _ 31
  show 0 ≤ (p &&& (2147483647 : Int32)).toBitVec.toInt
  rw [BitVec.toInt_eq_toNat_cond, if_pos (by omega)]
  omega
theorem own_mod (p q : Int32) (hq : 0 < q.toInt) (hq2 : q.toInt < 1000) : 0 ≤ ((p &&& (2147483647 : Int32)) % q).toInt ∧ ((p &&& (2147483647 : Int32)) % q).toInt < q.toInt := by
  have h := own_and31 p
  rw [Int32.toInt_mod, Int.tmod_eq_emod_of_nonneg h]
  exact ⟨Int.emod_nonneg _ (by omega), Int.emod_lt_of_pos _ hq⟩

theorem own_k5 (p : Int32) (c0 : ¬ (p &&& (2147483647 : Int32)) % (5 : Int32) = (0 : Int32)) (c1 : ¬ (p &&& (2147483647 : Int32)) % (5 : Int32) = (1 : Int32)) (c2 : ¬ (p &&& (2147483647 : Int32)) % (5 : Int32) = (2 : Int32)) (c3 : ¬ (p &&& (2147483647 : Int32)) % (5 : Int32) = (3 : Int32)) : (p &&& (2147483647 : Int32)) % (5 : Int32) = (4 : Int32) := by
  obtain ⟨h1, h2⟩ := own_mod p 5 (by decide) (by decide)
  simp only [← Int32.toInt_inj] at *
  have e0 : (0 : Int32).toInt = 0 := rfl
  have e1 : (1 : Int32).toInt = 1 := by decide
  have e2 : (2 : Int32).toInt = 2 := by decide
  have e3 : (3 : Int32).toInt = 3 := by decide
  have e4 : (4 : Int32).toInt = 4 := by decide
  have e5 : (5 : Int32).toInt = 5 := by decide
  omega
theorem own_m30 (p : Int32) : 0 ≤ (p &&& (1073741823 : Int32)).toInt ∧ (p &&& (1073741823 : Int32)).toInt < 1073741824 := by
  have h : (p &&& (1073741823 : Int32)).toBitVec.toNat = p.toBitVec.toNat % 1073741824 := by
    have : (p &&& (1073741823 : Int32)).toBitVec.toNat = p.toBitVec.toNat &&& 1073741823 := by
      rw [Int32.toBitVec_and, BitVec.toNat_and]; rfl
    rw [this]
    exact Nat.and_two_pow_sub_one_eq_mod _ 30
  have e : (p &&& (1073741823 : Int32)).toInt = (p &&& (1073741823 : Int32)).toBitVec.toNat := by
    show (p &&& (1073741823 : Int32)).toBitVec.toInt = _
    rw [BitVec.toInt_eq_toNat_cond, if_pos (by omega)]
  rw [e, h]
  omega
theorem own_mx (m k : Int32) (hm : 0 ≤ m.toInt ∧ m.toInt < 1073741824) (hk : 0 ≤ k.toInt ∧ k.toInt ≤ 4) : ((m + k) - (1 : Int32)).toInt = m.toInt + k.toInt - 1 := by
  have l1 : (1 : Int32).toInt = 1 := by decide
  have e : (m + k).toInt = m.toInt + k.toInt := XT.add32 ⟨by omega, by omega⟩
  rw [XT.sub32 ⟨by rw [e, l1]; omega, by rw [e, l1]; omega⟩, e, l1]
theorem own_b1 (m k : Int32) (hm : 0 ≤ m.toInt ∧ m.toInt < 1073741824) (hk : 0 ≤ k.toInt ∧ k.toInt ≤ 4) : (((((m + k) - (1 : Int32)).toInt64) - (m.toInt64)) + (1 : Int64)) = k.toInt64 := by
  have l1 : (1 : Int64).toInt = 1 := by decide
  have e := own_mx m k hm hk
  have e1 : ((((m + k) - (1 : Int32)).toInt64) - (m.toInt64)).toInt = k.toInt - 1 := by
    rw [XT.sub64 ⟨by rw [Int32.toInt_toInt64, Int32.toInt_toInt64, e]; omega, by rw [Int32.toInt_toInt64, Int32.toInt_toInt64, e]; omega⟩, Int32.toInt_toInt64, Int32.toInt_toInt64, e]
    omega
  rw [← Int64.toInt_inj, XT.add64 ⟨by rw [e1, l1]; omega, by rw [e1, l1]; omega⟩, e1, l1, Int32.toInt_toInt64]
  omega
theorem own_q1 (m k : Int32) (hm : 0 ≤ m.toInt ∧ m.toInt < 1073741824) (hk : 1 ≤ k.toInt ∧ k.toInt ≤ 4) : ¬ ((m + k) - (1 : Int32)) < m := by
  rw [Int32.lt_iff_toInt_lt, own_mx m k hm (by omega)]
  omega
theorem own_q2 (m : Int32) : ¬ m < m := by simp
theorem own_q3 (m k : Int32) : ((m + k) - (1 : Int32)) - m = k - 1 := by grind
theorem own_pl0 : plainFor x = true := plainFor_of_name (by first | (simp [plainName, overriddenIn]; done) | decide +kernel)
set_option maxHeartbeats 40000000 in
theorem rm0 (l : Launch) (Z : State) (a0 : Array Value) (hw : ∀ (i : Nat) (d : Jvm.Cond), tables_1[i]? = some d → d.before a0 Z = true) (ws : List Jvm.Cond) (h0 : Heap) (n0 : Nat) (p1 p2 : Int32) (hZ0 : n0 ≤ h0.size) :
    own_MetW l Z ws x code maxLocals ret room_1 #[(.int p1), (.int p2)] h0 n0 24 2176 (fun v h' => v = some (.int 1)) := by
  refine own_metW (Ls := #[.val (.int p1), .val (.int p2), .unset, .unset, .unset, .unset, .unset]) hw own_pl0 (fun m => by first | (simp [entryFrame, mkF, argsToLocals, Value.category, maxLocals]; done) | rfl) ?_
  intro B H D
  refine own_iload_n H rfl at_0 ?_
  refine own_ldcI H (w := 0) rfl at_1 ?_
  refine own_iand H rfl at_3 ?_
  refine own_iconst H (5 : Int32) (by decide) at_4 ?_
  refine own_irem H rfl at_5 (by decide) ?_
  refine own_istore_n H #[.val (.int p1), .val (.int p2), .val (.int ((p1 &&& (2147483647 : Int32)) % (5 : Int32))), .unset, .unset, .unset, .unset] rfl at_6 ?_
  refine own_iload_n H rfl at_7 ?_
  refine own_ldcI H (w := 1) rfl at_8 ?_
  refine own_iand H rfl at_10 ?_
  refine own_istore_n H #[.val (.int p1), .val (.int p2), .val (.int ((p1 &&& (2147483647 : Int32)) % (5 : Int32))), .val (.int (p2 &&& (1073741823 : Int32))), .unset, .unset, .unset] rfl at_11 ?_
  by_cases c1 : ((p1 &&& (2147483647 : Int32)) % (5 : Int32)) = (0 : Int32)
  ·
    rw [c1]
    show own_G _ _ _ _ _ _ _ _ 12 #[.val (.int p1), .val (.int p2), .val (.int (0 : Int32)), .val (.int (p2 &&& (1073741823 : Int32))), .unset, .unset, .unset] []
    refine own_iload_n H rfl at_12 ?_
    refine own_invokestatic H (argsL := [(.int (0 : Int32))]) (rest := []) (rmR0 l Z a0 (own_hw H) h0 n0 hZ0) (w1 := 2) (w2 := 3) (w3 := 4) (w4 := 5) rfl rfl rfl rfl own_pd0 rfl 0 (by decide) rfl (by decide) (Nat.le_of_eq rfl) (by decide) (by decide) (by decide) rfl at_13 ?_
    rintro _ h2 ⟨a4, kA5, rfl, K3, f6, f7, f8, f9, f10⟩
    have f11 : n0 ≤ h2.size := Nat.le_trans hZ0 K3.1
    show own_G _ _ _ _ _ _ _ _ 16 #[.val (.int p1), .val (.int p2), .val (.int (0 : Int32)), .val (.int (p2 &&& (1073741823 : Int32))), .unset, .unset, .unset] [(.ref a4)]
    refine own_astore H rfl #[.val (.int p1), .val (.int p2), .val (.int (0 : Int32)), .val (.int (p2 &&& (1073741823 : Int32))), .val (.ref a4), .unset, .unset] rfl at_16 ?_
    refine own_new H (w := 7) (wi := 8) (wz := 9) rfl rfl rfl at_18 (by decide) (by decide) ?_
    intro h12 a13 ha14 E15 X16 D17
    have f18 : a4 ≠ a13 := Nat.ne_of_lt (by rw [ha14]; exact f10.lt)
    have f19 : n0 ≤ a13 := by rw [ha14]; exact f11
    have f20 : n0 ≤ h12.size := Nat.le_trans f11 E15.1
    have f21 : Arv Z h12 a4 kA5 .double (0 : Int32) [] (.double 0) := f9.ext E15
    have f22 : Exa Z h12 a4 "[D" := f10.ext E15
    have f23 : Fld Z h12 a13 "com/example/vestwright/vestwright/actuarial/MortalityTable" "name" "Ljava/lang/String;" .null := D17 (Or.inr (own_w H (i := 25) rfl)) (ty := (.object "java/lang/String")) (by decide)
    have f24 : Fld Z h12 a13 "com/example/vestwright/vestwright/actuarial/MortalityTable" "minimumAge" "I" (.int (0 : Int32)) := D17 (Or.inr (own_w H (i := 27) rfl)) (ty := .int) (by decide)
    have f25 : Fld Z h12 a13 "com/example/vestwright/vestwright/actuarial/MortalityTable" "rates" "[D" .null := D17 (Or.inr (own_w H (i := 38) rfl)) (ty := (.array .double)) (by decide)
    show own_G _ _ _ _ _ _ _ _ 21 #[.val (.int p1), .val (.int p2), .val (.int (0 : Int32)), .val (.int (p2 &&& (1073741823 : Int32))), .val (.ref a4), .unset, .unset] [(.ref a13)]
    refine own_dup H rfl at_21 ?_
    refine own_ldcS H D (w := 10) rfl (own_atoms H (f := fun i => [11, 12, 13, 14, 15, 16, 17].getD i.val 0) rfl rfl rfl rfl rfl rfl rfl) 4 (by decide) (by decide) at_22 (by decide) (by decide) ?_
    intro B a27 h26 H D E28
    have f29 : n0 ≤ h26.size := Nat.le_trans f20 E28.1
    have f30 : Arv Z h26 a4 kA5 .double (0 : Int32) [] (.double 0) := f21.ext E28
    have f31 : Exa Z h26 a4 "[D" := f22.ext E28
    have f32 : Exa Z h26 a13 "com/example/vestwright/vestwright/actuarial/MortalityTable" := X16.ext E28
    have f33 : Fld Z h26 a13 "com/example/vestwright/vestwright/actuarial/MortalityTable" "name" "Ljava/lang/String;" .null := f23.ext E28
    have f34 : Fld Z h26 a13 "com/example/vestwright/vestwright/actuarial/MortalityTable" "minimumAge" "I" (.int (0 : Int32)) := f24.ext E28
    have f35 : Fld Z h26 a13 "com/example/vestwright/vestwright/actuarial/MortalityTable" "rates" "[D" .null := f25.ext E28
    show own_G _ _ _ _ _ _ _ _ 24 #[.val (.int p1), .val (.int p2), .val (.int (0 : Int32)), .val (.int (p2 &&& (1073741823 : Int32))), .val (.ref a4), .unset, .unset] [(.ref a27), (.ref a13), (.ref a13)]
    refine own_iload_n H rfl at_24 ?_
    refine own_aload H rfl rfl at_25 ?_
    refine own_invokespecial H (a := a13) (argsL := [(.ref a27), (.int (p2 &&& (1073741823 : Int32))), (.ref a4)]) (rest := [(.ref a13)]) (rmI0 l Z a0 (own_hw H) h26 n0 a13 a27 (p2 &&& (1073741823 : Int32)) a4 kA5 f29 f32 f33 f34 f35 f30 f31 f18 f19) rfl (w1 := 18) (w2 := 19) (w3 := 9) (w4 := 20) rfl rfl rfl rfl own_pd1 rfl 1 (by decide) rfl (by decide) (Nat.le_of_eq rfl) (by decide) (by decide) (by decide) rfl at_27 ?_
    rintro _ h36 ⟨a38, rfl, K37, f39, f40, f41, f42, f43, f44⟩
    have f45 : a13 ≠ a38 := Nat.ne_of_lt (Nat.lt_of_lt_of_le f32.lt f40)
    have f46 : a4 ≠ a38 := Nat.ne_of_lt (Nat.lt_of_lt_of_le f31.lt f40)
    have f47 : n0 ≤ h36.size := Nat.le_trans f29 K37.1
    have f48 : Arv Z h36 a4 kA5 .double (0 : Int32) [] (.double 0) := f30.keep K37 (ninS f18 nin0)
    have f49 : Exa Z h36 a4 "[D" := f31.keep K37
    have f50 : Exa Z h36 a13 "com/example/vestwright/vestwright/actuarial/MortalityTable" := f32.keep K37
    show own_G _ _ _ _ _ _ _ _ 30 #[.val (.int p1), .val (.int p2), .val (.int (0 : Int32)), .val (.int (p2 &&& (1073741823 : Int32))), .val (.ref a4), .unset, .unset] [(.ref a13)]
    refine own_astore H rfl #[.val (.int p1), .val (.int p2), .val (.int (0 : Int32)), .val (.int (p2 &&& (1073741823 : Int32))), .val (.ref a4), .val (.ref a13), .unset] rfl at_30 ?_
    refine own_aload H rfl rfl at_32 ?_
    refine own_invokevirtual H (a := a13) (argsL := []) (rest := []) (rmM0 l Z a0 (own_hw H) h36 n0 a13 (p2 &&& (1073741823 : Int32)) a38 kA5 f42 f43 f44) f50 (w1 := 39) (w0 := 40) (w5 := 42) (w2 := 41) (w3 := 9) (w4 := 43) rfl rfl rfl rfl rfl rfl own_pd2 rfl 0 (by decide) rfl (by decide) (Nat.le_of_eq rfl) (by decide) (by decide) (by decide) rfl at_34 ?_
    rintro _ _ ⟨rfl, rfl⟩
    show own_G _ _ _ _ _ _ _ _ 37 #[.val (.int p1), .val (.int p2), .val (.int (0 : Int32)), .val (.int (p2 &&& (1073741823 : Int32))), .val (.ref a4), .val (.ref a13), .unset] [(.int (((p2 &&& (1073741823 : Int32)) + (0 : Int32)) - (1 : Int32)))]
    refine own_istore H #[.val (.int p1), .val (.int p2), .val (.int (0 : Int32)), .val (.int (p2 &&& (1073741823 : Int32))), .val (.ref a4), .val (.ref a13), .val (.int (((p2 &&& (1073741823 : Int32)) + (0 : Int32)) - (1 : Int32)))] rfl at_37 ?_
    refine own_iload H rfl at_39 ?_
    refine own_i2l H rfl at_41 ?_
    refine own_iload_n H rfl at_42 ?_
    refine own_i2l H rfl at_43 ?_
    refine own_lsub H rfl at_44 ?_
    refine own_lconst H (1 : Int64) (by decide) at_45 ?_
    refine own_ladd H rfl at_46 ?_
    refine own_iload_n H rfl at_47 ?_
    refine own_i2l (v := (0 : Int64)) H (by decide) at_48 ?_
    refine own_lcmpeq_t H (pc' := 55) at_49 at_50 (by decide) (by decide) ((own_b1 _ (0 : Int32) (own_m30 p2) (by decide)).trans (by decide)) ?_
    refine own_iload_n H rfl at_55 ?_
    refine own_ifne_f H at_56 (by decide) ?_
    refine own_iconst H (1 : Int32) (by decide) at_59 ?_
    exact own_ireturn H (by simp) (by decide) at_60 (by decide) (by decide) rfl
  ·
    by_cases c51 : ((p1 &&& (2147483647 : Int32)) % (5 : Int32)) = (1 : Int32)
    ·
      rw [c51]
      show own_G _ _ _ _ _ _ _ _ 12 #[.val (.int p1), .val (.int p2), .val (.int (1 : Int32)), .val (.int (p2 &&& (1073741823 : Int32))), .unset, .unset, .unset] []
      refine own_iload_n H rfl at_12 ?_
      refine own_invokestatic H (argsL := [(.int (1 : Int32))]) (rest := []) (rmR1 l Z a0 (own_hw H) h0 n0 hZ0) (w1 := 2) (w2 := 3) (w3 := 4) (w4 := 5) rfl rfl rfl rfl own_pd0 rfl 0 (by decide) rfl (by decide) (Nat.le_of_eq rfl) (by decide) (by decide) (by decide) rfl at_13 ?_
      rintro _ h52 ⟨a54, kA55, rfl, K53, f56, f57, f58, f59, f60⟩
      have f61 : n0 ≤ h52.size := Nat.le_trans hZ0 K53.1
      show own_G _ _ _ _ _ _ _ _ 16 #[.val (.int p1), .val (.int p2), .val (.int (1 : Int32)), .val (.int (p2 &&& (1073741823 : Int32))), .unset, .unset, .unset] [(.ref a54)]
      refine own_astore H rfl #[.val (.int p1), .val (.int p2), .val (.int (1 : Int32)), .val (.int (p2 &&& (1073741823 : Int32))), .val (.ref a54), .unset, .unset] rfl at_16 ?_
      refine own_new H (w := 7) (wi := 8) (wz := 9) rfl rfl rfl at_18 (by decide) (by decide) ?_
      intro h62 a63 ha64 E65 X66 D67
      have f68 : a54 ≠ a63 := Nat.ne_of_lt (by rw [ha64]; exact f60.lt)
      have f69 : n0 ≤ a63 := by rw [ha64]; exact f61
      have f70 : n0 ≤ h62.size := Nat.le_trans f61 E65.1
      have f71 : Arv Z h62 a54 kA55 .double (1 : Int32) [(.double (4593671619917905920 : UInt64))] (.double 0) := f59.ext E65
      have f72 : Exa Z h62 a54 "[D" := f60.ext E65
      have f73 : Fld Z h62 a63 "com/example/vestwright/vestwright/actuarial/MortalityTable" "name" "Ljava/lang/String;" .null := D67 (Or.inr (own_w H (i := 25) rfl)) (ty := (.object "java/lang/String")) (by decide)
      have f74 : Fld Z h62 a63 "com/example/vestwright/vestwright/actuarial/MortalityTable" "minimumAge" "I" (.int (0 : Int32)) := D67 (Or.inr (own_w H (i := 27) rfl)) (ty := .int) (by decide)
      have f75 : Fld Z h62 a63 "com/example/vestwright/vestwright/actuarial/MortalityTable" "rates" "[D" .null := D67 (Or.inr (own_w H (i := 38) rfl)) (ty := (.array .double)) (by decide)
      show own_G _ _ _ _ _ _ _ _ 21 #[.val (.int p1), .val (.int p2), .val (.int (1 : Int32)), .val (.int (p2 &&& (1073741823 : Int32))), .val (.ref a54), .unset, .unset] [(.ref a63)]
      refine own_dup H rfl at_21 ?_
      refine own_ldcS H D (w := 10) rfl (own_atoms H (f := fun i => [11, 12, 13, 14, 15, 16, 17].getD i.val 0) rfl rfl rfl rfl rfl rfl rfl) 4 (by decide) (by decide) at_22 (by decide) (by decide) ?_
      intro B a77 h76 H D E78
      have f79 : n0 ≤ h76.size := Nat.le_trans f70 E78.1
      have f80 : Arv Z h76 a54 kA55 .double (1 : Int32) [(.double (4593671619917905920 : UInt64))] (.double 0) := f71.ext E78
      have f81 : Exa Z h76 a54 "[D" := f72.ext E78
      have f82 : Exa Z h76 a63 "com/example/vestwright/vestwright/actuarial/MortalityTable" := X66.ext E78
      have f83 : Fld Z h76 a63 "com/example/vestwright/vestwright/actuarial/MortalityTable" "name" "Ljava/lang/String;" .null := f73.ext E78
      have f84 : Fld Z h76 a63 "com/example/vestwright/vestwright/actuarial/MortalityTable" "minimumAge" "I" (.int (0 : Int32)) := f74.ext E78
      have f85 : Fld Z h76 a63 "com/example/vestwright/vestwright/actuarial/MortalityTable" "rates" "[D" .null := f75.ext E78
      show own_G _ _ _ _ _ _ _ _ 24 #[.val (.int p1), .val (.int p2), .val (.int (1 : Int32)), .val (.int (p2 &&& (1073741823 : Int32))), .val (.ref a54), .unset, .unset] [(.ref a77), (.ref a63), (.ref a63)]
      refine own_iload_n H rfl at_24 ?_
      refine own_aload H rfl rfl at_25 ?_
      refine own_invokespecial H (a := a63) (argsL := [(.ref a77), (.int (p2 &&& (1073741823 : Int32))), (.ref a54)]) (rest := [(.ref a63)]) (rmI1 l Z a0 (own_hw H) h76 n0 a63 a77 (p2 &&& (1073741823 : Int32)) a54 kA55 f79 f82 f83 f84 f85 f80 f81 f68 f69) rfl (w1 := 18) (w2 := 19) (w3 := 9) (w4 := 20) rfl rfl rfl rfl own_pd1 rfl 1 (by decide) rfl (by decide) (Nat.le_of_eq rfl) (by decide) (by decide) (by decide) rfl at_27 ?_
      rintro _ h86 ⟨a88, rfl, K87, f89, f90, f91, f92, f93, f94⟩
      have f95 : a54 ≠ a88 := Nat.ne_of_lt (Nat.lt_of_lt_of_le f81.lt f90)
      have f96 : a63 ≠ a88 := Nat.ne_of_lt (Nat.lt_of_lt_of_le f82.lt f90)
      have f97 : n0 ≤ h86.size := Nat.le_trans f79 K87.1
      have f98 : Arv Z h86 a54 kA55 .double (1 : Int32) [(.double (4593671619917905920 : UInt64))] (.double 0) := f80.keep K87 (ninS f68 nin0)
      have f99 : Exa Z h86 a54 "[D" := f81.keep K87
      have f100 : Exa Z h86 a63 "com/example/vestwright/vestwright/actuarial/MortalityTable" := f82.keep K87
      show own_G _ _ _ _ _ _ _ _ 30 #[.val (.int p1), .val (.int p2), .val (.int (1 : Int32)), .val (.int (p2 &&& (1073741823 : Int32))), .val (.ref a54), .unset, .unset] [(.ref a63)]
      refine own_astore H rfl #[.val (.int p1), .val (.int p2), .val (.int (1 : Int32)), .val (.int (p2 &&& (1073741823 : Int32))), .val (.ref a54), .val (.ref a63), .unset] rfl at_30 ?_
      refine own_aload H rfl rfl at_32 ?_
      refine own_invokevirtual H (a := a63) (argsL := []) (rest := []) (rmM1 l Z a0 (own_hw H) h86 n0 a63 (p2 &&& (1073741823 : Int32)) a88 kA55 f92 f93 f94) f100 (w1 := 39) (w0 := 40) (w5 := 42) (w2 := 41) (w3 := 9) (w4 := 43) rfl rfl rfl rfl rfl rfl own_pd2 rfl 0 (by decide) rfl (by decide) (Nat.le_of_eq rfl) (by decide) (by decide) (by decide) rfl at_34 ?_
      rintro _ _ ⟨rfl, rfl⟩
      show own_G _ _ _ _ _ _ _ _ 37 #[.val (.int p1), .val (.int p2), .val (.int (1 : Int32)), .val (.int (p2 &&& (1073741823 : Int32))), .val (.ref a54), .val (.ref a63), .unset] [(.int (((p2 &&& (1073741823 : Int32)) + (1 : Int32)) - (1 : Int32)))]
      refine own_istore H #[.val (.int p1), .val (.int p2), .val (.int (1 : Int32)), .val (.int (p2 &&& (1073741823 : Int32))), .val (.ref a54), .val (.ref a63), .val (.int (((p2 &&& (1073741823 : Int32)) + (1 : Int32)) - (1 : Int32)))] rfl at_37 ?_
      refine own_iload H rfl at_39 ?_
      refine own_i2l H rfl at_41 ?_
      refine own_iload_n H rfl at_42 ?_
      refine own_i2l H rfl at_43 ?_
      refine own_lsub H rfl at_44 ?_
      refine own_lconst H (1 : Int64) (by decide) at_45 ?_
      refine own_ladd H rfl at_46 ?_
      refine own_iload_n H rfl at_47 ?_
      refine own_i2l (v := (1 : Int64)) H (by decide) at_48 ?_
      refine own_lcmpeq_t H (pc' := 55) at_49 at_50 (by decide) (by decide) ((own_b1 _ (1 : Int32) (own_m30 p2) (by decide)).trans (by decide)) ?_
      refine own_iload_n H rfl at_55 ?_
      refine own_ifne_t H (pc' := 61) at_56 (by decide) (by decide) (by decide) ?_
      refine own_aload H rfl rfl at_61 ?_
      refine own_iload H rfl at_63 ?_
      refine own_invokevirtualW H D (a := a63) (argsL := [(.int (((p2 &&& (1073741823 : Int32)) + (1 : Int32)) - (1 : Int32)))]) (rest := []) (rmP1_0 l Z a0 (own_hw H) h86 n0 a63 (((p2 &&& (1073741823 : Int32)) + (1 : Int32)) - (1 : Int32)) (p2 &&& (1073741823 : Int32)) a88 kA55 f97 f100 f92 f93 f94 (own_q1 _ _ (own_m30 p2) (by decide)) (own_q2 _) (own_q3 _ _)) f100 (w1 := 48) (w0 := 49) (w5 := 51) (w2 := 50) (w3 := 9) (w4 := 52) rfl rfl rfl rfl rfl rfl own_pd4 rfl 0 (by decide) rfl (by decide) (Nat.le_of_eq rfl) (by decide) (by decide) (by decide) rfl at_65 ?_
      intro B _ h101 H D hq
      obtain ⟨rfl, K102⟩ := hq
      have f103 : n0 ≤ h101.size := Nat.le_trans f97 K102.1
      have f104 : Arv Z h101 a54 kA55 .double (1 : Int32) [(.double (4593671619917905920 : UInt64))] (.double 0) := f98.keep K102 nin0
      have f105 : Exa Z h101 a54 "[D" := f99.keep K102
      have f106 : Exa Z h101 a63 "com/example/vestwright/vestwright/actuarial/MortalityTable" := f100.keep K102
      have f107 : Fld Z h101 a63 "com/example/vestwright/vestwright/actuarial/MortalityTable" "minimumAge" "I" (.int (p2 &&& (1073741823 : Int32))) := f92.keep K102 nin0
      have f108 : Fld Z h101 a63 "com/example/vestwright/vestwright/actuarial/MortalityTable" "rates" "[D" (.ref a88) := f93.keep K102 nin0
      have f109 : Arv Z h101 a88 kA55 .double (1 : Int32) [(.double (4593671619917905920 : UInt64))] (.double 0) := f94.keep K102 nin0
      show own_G _ _ _ _ _ _ _ _ 68 #[.val (.int p1), .val (.int p2), .val (.int (1 : Int32)), .val (.int (p2 &&& (1073741823 : Int32))), .val (.ref a54), .val (.ref a63), .val (.int (((p2 &&& (1073741823 : Int32)) + (1 : Int32)) - (1 : Int32)))] [(.double (4593671619917905920 : UInt64))]
      refine own_aload H rfl rfl at_68 ?_
      refine own_iload_n H rfl at_70 ?_
      refine own_iconst H (1 : Int32) (by decide) at_71 ?_
      refine own_isub (v := (0 : Int32)) H (by decide) at_72 ?_
      refine own_daloadV H f104 (by decide) (by decide) rfl at_73 ?_
      refine own_dcmp H (0 : Int32) (by decide +kernel) at_74 ?_
      refine own_ifne_f H at_75 (by decide) ?_
      refine own_aload H rfl rfl at_78 ?_
      refine own_iload_n H rfl at_80 ?_
      refine own_invokevirtualW H D (a := a63) (argsL := [(.int (p2 &&& (1073741823 : Int32)))]) (rest := []) (rmP1_0 l Z a0 (own_hw H) h101 n0 a63 (p2 &&& (1073741823 : Int32)) (p2 &&& (1073741823 : Int32)) a88 kA55 f103 f106 f107 f108 f109 (own_q2 _) (own_q1 _ _ (own_m30 p2) (by decide)) (own_sr _)) f106 (w1 := 48) (w0 := 49) (w5 := 51) (w2 := 50) (w3 := 9) (w4 := 52) rfl rfl rfl rfl rfl rfl own_pd4 rfl 0 (by decide) rfl (by decide) (Nat.le_of_eq rfl) (by decide) (by decide) (by decide) rfl at_81 ?_
      intro B _ h110 H D hq
      obtain ⟨rfl, K111⟩ := hq
      have f112 : n0 ≤ h110.size := Nat.le_trans f103 K111.1
      have f113 : Arv Z h110 a54 kA55 .double (1 : Int32) [(.double (4593671619917905920 : UInt64))] (.double 0) := f104.keep K111 nin0
      have f114 : Exa Z h110 a54 "[D" := f105.keep K111
      have f115 : Exa Z h110 a63 "com/example/vestwright/vestwright/actuarial/MortalityTable" := f106.keep K111
      have f116 : Fld Z h110 a63 "com/example/vestwright/vestwright/actuarial/MortalityTable" "minimumAge" "I" (.int (p2 &&& (1073741823 : Int32))) := f107.keep K111 nin0
      have f117 : Fld Z h110 a63 "com/example/vestwright/vestwright/actuarial/MortalityTable" "rates" "[D" (.ref a88) := f108.keep K111 nin0
      have f118 : Arv Z h110 a88 kA55 .double (1 : Int32) [(.double (4593671619917905920 : UInt64))] (.double 0) := f109.keep K111 nin0
      show own_G _ _ _ _ _ _ _ _ 84 #[.val (.int p1), .val (.int p2), .val (.int (1 : Int32)), .val (.int (p2 &&& (1073741823 : Int32))), .val (.ref a54), .val (.ref a63), .val (.int (((p2 &&& (1073741823 : Int32)) + (1 : Int32)) - (1 : Int32)))] [(.double (4593671619917905920 : UInt64))]
      refine own_aload H rfl rfl at_84 ?_
      refine own_iconst H (0 : Int32) (by decide) at_86 ?_
      refine own_daloadV H f113 (by decide) (by decide) rfl at_87 ?_
      refine own_dcmp H (0 : Int32) (by decide +kernel) at_88 ?_
      refine own_ifne_f H at_89 (by decide) ?_
      refine own_iconst H (1 : Int32) (by decide) at_92 ?_
      refine own_goto H (pc' := 97) at_93 (by decide) (by decide) ?_
      exact own_ireturn H (by simp) (by decide) at_97 (by decide) (by decide) rfl
    ·
      by_cases c119 : ((p1 &&& (2147483647 : Int32)) % (5 : Int32)) = (2 : Int32)
      ·
        rw [c119]
        show own_G _ _ _ _ _ _ _ _ 12 #[.val (.int p1), .val (.int p2), .val (.int (2 : Int32)), .val (.int (p2 &&& (1073741823 : Int32))), .unset, .unset, .unset] []
        refine own_iload_n H rfl at_12 ?_
        refine own_invokestatic H (argsL := [(.int (2 : Int32))]) (rest := []) (rmR2 l Z a0 (own_hw H) h0 n0 hZ0) (w1 := 2) (w2 := 3) (w3 := 4) (w4 := 5) rfl rfl rfl rfl own_pd0 rfl 0 (by decide) rfl (by decide) (Nat.le_of_eq rfl) (by decide) (by decide) (by decide) rfl at_13 ?_
        rintro _ h120 ⟨a122, kA123, rfl, K121, f124, f125, f126, f127, f128⟩
        have f129 : n0 ≤ h120.size := Nat.le_trans hZ0 K121.1
        show own_G _ _ _ _ _ _ _ _ 16 #[.val (.int p1), .val (.int p2), .val (.int (2 : Int32)), .val (.int (p2 &&& (1073741823 : Int32))), .unset, .unset, .unset] [(.ref a122)]
        refine own_astore H rfl #[.val (.int p1), .val (.int p2), .val (.int (2 : Int32)), .val (.int (p2 &&& (1073741823 : Int32))), .val (.ref a122), .unset, .unset] rfl at_16 ?_
        refine own_new H (w := 7) (wi := 8) (wz := 9) rfl rfl rfl at_18 (by decide) (by decide) ?_
        intro h130 a131 ha132 E133 X134 D135
        have f136 : a122 ≠ a131 := Nat.ne_of_lt (by rw [ha132]; exact f128.lt)
        have f137 : n0 ≤ a131 := by rw [ha132]; exact f129
        have f138 : n0 ≤ h130.size := Nat.le_trans f129 E133.1
        have f139 : Arv Z h130 a122 kA123 .double (2 : Int32) [(.double (4593671619917905920 : UInt64)), (.double (4598175219545276416 : UInt64))] (.double 0) := f127.ext E133
        have f140 : Exa Z h130 a122 "[D" := f128.ext E133
        have f141 : Fld Z h130 a131 "com/example/vestwright/vestwright/actuarial/MortalityTable" "name" "Ljava/lang/String;" .null := D135 (Or.inr (own_w H (i := 25) rfl)) (ty := (.object "java/lang/String")) (by decide)
        have f142 : Fld Z h130 a131 "com/example/vestwright/vestwright/actuarial/MortalityTable" "minimumAge" "I" (.int (0 : Int32)) := D135 (Or.inr (own_w H (i := 27) rfl)) (ty := .int) (by decide)
        have f143 : Fld Z h130 a131 "com/example/vestwright/vestwright/actuarial/MortalityTable" "rates" "[D" .null := D135 (Or.inr (own_w H (i := 38) rfl)) (ty := (.array .double)) (by decide)
        show own_G _ _ _ _ _ _ _ _ 21 #[.val (.int p1), .val (.int p2), .val (.int (2 : Int32)), .val (.int (p2 &&& (1073741823 : Int32))), .val (.ref a122), .unset, .unset] [(.ref a131)]
        refine own_dup H rfl at_21 ?_
        refine own_ldcS H D (w := 10) rfl (own_atoms H (f := fun i => [11, 12, 13, 14, 15, 16, 17].getD i.val 0) rfl rfl rfl rfl rfl rfl rfl) 4 (by decide) (by decide) at_22 (by decide) (by decide) ?_
        intro B a145 h144 H D E146
        have f147 : n0 ≤ h144.size := Nat.le_trans f138 E146.1
        have f148 : Arv Z h144 a122 kA123 .double (2 : Int32) [(.double (4593671619917905920 : UInt64)), (.double (4598175219545276416 : UInt64))] (.double 0) := f139.ext E146
        have f149 : Exa Z h144 a122 "[D" := f140.ext E146
        have f150 : Exa Z h144 a131 "com/example/vestwright/vestwright/actuarial/MortalityTable" := X134.ext E146
        have f151 : Fld Z h144 a131 "com/example/vestwright/vestwright/actuarial/MortalityTable" "name" "Ljava/lang/String;" .null := f141.ext E146
        have f152 : Fld Z h144 a131 "com/example/vestwright/vestwright/actuarial/MortalityTable" "minimumAge" "I" (.int (0 : Int32)) := f142.ext E146
        have f153 : Fld Z h144 a131 "com/example/vestwright/vestwright/actuarial/MortalityTable" "rates" "[D" .null := f143.ext E146
        show own_G _ _ _ _ _ _ _ _ 24 #[.val (.int p1), .val (.int p2), .val (.int (2 : Int32)), .val (.int (p2 &&& (1073741823 : Int32))), .val (.ref a122), .unset, .unset] [(.ref a145), (.ref a131), (.ref a131)]
        refine own_iload_n H rfl at_24 ?_
        refine own_aload H rfl rfl at_25 ?_
        refine own_invokespecial H (a := a131) (argsL := [(.ref a145), (.int (p2 &&& (1073741823 : Int32))), (.ref a122)]) (rest := [(.ref a131)]) (rmI2 l Z a0 (own_hw H) h144 n0 a131 a145 (p2 &&& (1073741823 : Int32)) a122 kA123 f147 f150 f151 f152 f153 f148 f149 f136 f137) rfl (w1 := 18) (w2 := 19) (w3 := 9) (w4 := 20) rfl rfl rfl rfl own_pd1 rfl 1 (by decide) rfl (by decide) (Nat.le_of_eq rfl) (by decide) (by decide) (by decide) rfl at_27 ?_
        rintro _ h154 ⟨a156, rfl, K155, f157, f158, f159, f160, f161, f162⟩
        have f163 : a122 ≠ a156 := Nat.ne_of_lt (Nat.lt_of_lt_of_le f149.lt f158)
        have f164 : a131 ≠ a156 := Nat.ne_of_lt (Nat.lt_of_lt_of_le f150.lt f158)
        have f165 : n0 ≤ h154.size := Nat.le_trans f147 K155.1
        have f166 : Arv Z h154 a122 kA123 .double (2 : Int32) [(.double (4593671619917905920 : UInt64)), (.double (4598175219545276416 : UInt64))] (.double 0) := f148.keep K155 (ninS f136 nin0)
        have f167 : Exa Z h154 a122 "[D" := f149.keep K155
        have f168 : Exa Z h154 a131 "com/example/vestwright/vestwright/actuarial/MortalityTable" := f150.keep K155
        show own_G _ _ _ _ _ _ _ _ 30 #[.val (.int p1), .val (.int p2), .val (.int (2 : Int32)), .val (.int (p2 &&& (1073741823 : Int32))), .val (.ref a122), .unset, .unset] [(.ref a131)]
        refine own_astore H rfl #[.val (.int p1), .val (.int p2), .val (.int (2 : Int32)), .val (.int (p2 &&& (1073741823 : Int32))), .val (.ref a122), .val (.ref a131), .unset] rfl at_30 ?_
        refine own_aload H rfl rfl at_32 ?_
        refine own_invokevirtual H (a := a131) (argsL := []) (rest := []) (rmM2 l Z a0 (own_hw H) h154 n0 a131 (p2 &&& (1073741823 : Int32)) a156 kA123 f160 f161 f162) f168 (w1 := 39) (w0 := 40) (w5 := 42) (w2 := 41) (w3 := 9) (w4 := 43) rfl rfl rfl rfl rfl rfl own_pd2 rfl 0 (by decide) rfl (by decide) (Nat.le_of_eq rfl) (by decide) (by decide) (by decide) rfl at_34 ?_
        rintro _ _ ⟨rfl, rfl⟩
        show own_G _ _ _ _ _ _ _ _ 37 #[.val (.int p1), .val (.int p2), .val (.int (2 : Int32)), .val (.int (p2 &&& (1073741823 : Int32))), .val (.ref a122), .val (.ref a131), .unset] [(.int (((p2 &&& (1073741823 : Int32)) + (2 : Int32)) - (1 : Int32)))]
        refine own_istore H #[.val (.int p1), .val (.int p2), .val (.int (2 : Int32)), .val (.int (p2 &&& (1073741823 : Int32))), .val (.ref a122), .val (.ref a131), .val (.int (((p2 &&& (1073741823 : Int32)) + (2 : Int32)) - (1 : Int32)))] rfl at_37 ?_
        refine own_iload H rfl at_39 ?_
        refine own_i2l H rfl at_41 ?_
        refine own_iload_n H rfl at_42 ?_
        refine own_i2l H rfl at_43 ?_
        refine own_lsub H rfl at_44 ?_
        refine own_lconst H (1 : Int64) (by decide) at_45 ?_
        refine own_ladd H rfl at_46 ?_
        refine own_iload_n H rfl at_47 ?_
        refine own_i2l (v := (2 : Int64)) H (by decide) at_48 ?_
        refine own_lcmpeq_t H (pc' := 55) at_49 at_50 (by decide) (by decide) ((own_b1 _ (2 : Int32) (own_m30 p2) (by decide)).trans (by decide)) ?_
        refine own_iload_n H rfl at_55 ?_
        refine own_ifne_t H (pc' := 61) at_56 (by decide) (by decide) (by decide) ?_
        refine own_aload H rfl rfl at_61 ?_
        refine own_iload H rfl at_63 ?_
        refine own_invokevirtualW H D (a := a131) (argsL := [(.int (((p2 &&& (1073741823 : Int32)) + (2 : Int32)) - (1 : Int32)))]) (rest := []) (rmP2_1 l Z a0 (own_hw H) h154 n0 a131 (((p2 &&& (1073741823 : Int32)) + (2 : Int32)) - (1 : Int32)) (p2 &&& (1073741823 : Int32)) a156 kA123 f165 f168 f160 f161 f162 (own_q1 _ _ (own_m30 p2) (by decide)) (own_q2 _) (own_q3 _ _)) f168 (w1 := 48) (w0 := 49) (w5 := 51) (w2 := 50) (w3 := 9) (w4 := 52) rfl rfl rfl rfl rfl rfl own_pd4 rfl 0 (by decide) rfl (by decide) (Nat.le_of_eq rfl) (by decide) (by decide) (by decide) rfl at_65 ?_
        intro B _ h169 H D hq
        obtain ⟨rfl, K170⟩ := hq
        have f171 : n0 ≤ h169.size := Nat.le_trans f165 K170.1
        have f172 : Arv Z h169 a122 kA123 .double (2 : Int32) [(.double (4593671619917905920 : UInt64)), (.double (4598175219545276416 : UInt64))] (.double 0) := f166.keep K170 nin0
        have f173 : Exa Z h169 a122 "[D" := f167.keep K170
        have f174 : Exa Z h169 a131 "com/example/vestwright/vestwright/actuarial/MortalityTable" := f168.keep K170
        have f175 : Fld Z h169 a131 "com/example/vestwright/vestwright/actuarial/MortalityTable" "minimumAge" "I" (.int (p2 &&& (1073741823 : Int32))) := f160.keep K170 nin0
        have f176 : Fld Z h169 a131 "com/example/vestwright/vestwright/actuarial/MortalityTable" "rates" "[D" (.ref a156) := f161.keep K170 nin0
        have f177 : Arv Z h169 a156 kA123 .double (2 : Int32) [(.double (4593671619917905920 : UInt64)), (.double (4598175219545276416 : UInt64))] (.double 0) := f162.keep K170 nin0
        show own_G _ _ _ _ _ _ _ _ 68 #[.val (.int p1), .val (.int p2), .val (.int (2 : Int32)), .val (.int (p2 &&& (1073741823 : Int32))), .val (.ref a122), .val (.ref a131), .val (.int (((p2 &&& (1073741823 : Int32)) + (2 : Int32)) - (1 : Int32)))] [(.double (4598175219545276416 : UInt64))]
        refine own_aload H rfl rfl at_68 ?_
        refine own_iload_n H rfl at_70 ?_
        refine own_iconst H (1 : Int32) (by decide) at_71 ?_
        refine own_isub (v := (1 : Int32)) H (by decide) at_72 ?_
        refine own_daloadV H f172 (by decide) (by decide) rfl at_73 ?_
        refine own_dcmp H (0 : Int32) (by decide +kernel) at_74 ?_
        refine own_ifne_f H at_75 (by decide) ?_
        refine own_aload H rfl rfl at_78 ?_
        refine own_iload_n H rfl at_80 ?_
        refine own_invokevirtualW H D (a := a131) (argsL := [(.int (p2 &&& (1073741823 : Int32)))]) (rest := []) (rmP2_0 l Z a0 (own_hw H) h169 n0 a131 (p2 &&& (1073741823 : Int32)) (p2 &&& (1073741823 : Int32)) a156 kA123 f171 f174 f175 f176 f177 (own_q2 _) (own_q1 _ _ (own_m30 p2) (by decide)) (own_sr _)) f174 (w1 := 48) (w0 := 49) (w5 := 51) (w2 := 50) (w3 := 9) (w4 := 52) rfl rfl rfl rfl rfl rfl own_pd4 rfl 0 (by decide) rfl (by decide) (Nat.le_of_eq rfl) (by decide) (by decide) (by decide) rfl at_81 ?_
        intro B _ h178 H D hq
        obtain ⟨rfl, K179⟩ := hq
        have f180 : n0 ≤ h178.size := Nat.le_trans f171 K179.1
        have f181 : Arv Z h178 a122 kA123 .double (2 : Int32) [(.double (4593671619917905920 : UInt64)), (.double (4598175219545276416 : UInt64))] (.double 0) := f172.keep K179 nin0
        have f182 : Exa Z h178 a122 "[D" := f173.keep K179
        have f183 : Exa Z h178 a131 "com/example/vestwright/vestwright/actuarial/MortalityTable" := f174.keep K179
        have f184 : Fld Z h178 a131 "com/example/vestwright/vestwright/actuarial/MortalityTable" "minimumAge" "I" (.int (p2 &&& (1073741823 : Int32))) := f175.keep K179 nin0
        have f185 : Fld Z h178 a131 "com/example/vestwright/vestwright/actuarial/MortalityTable" "rates" "[D" (.ref a156) := f176.keep K179 nin0
        have f186 : Arv Z h178 a156 kA123 .double (2 : Int32) [(.double (4593671619917905920 : UInt64)), (.double (4598175219545276416 : UInt64))] (.double 0) := f177.keep K179 nin0
        show own_G _ _ _ _ _ _ _ _ 84 #[.val (.int p1), .val (.int p2), .val (.int (2 : Int32)), .val (.int (p2 &&& (1073741823 : Int32))), .val (.ref a122), .val (.ref a131), .val (.int (((p2 &&& (1073741823 : Int32)) + (2 : Int32)) - (1 : Int32)))] [(.double (4593671619917905920 : UInt64))]
        refine own_aload H rfl rfl at_84 ?_
        refine own_iconst H (0 : Int32) (by decide) at_86 ?_
        refine own_daloadV H f181 (by decide) (by decide) rfl at_87 ?_
        refine own_dcmp H (0 : Int32) (by decide +kernel) at_88 ?_
        refine own_ifne_f H at_89 (by decide) ?_
        refine own_iconst H (1 : Int32) (by decide) at_92 ?_
        refine own_goto H (pc' := 97) at_93 (by decide) (by decide) ?_
        exact own_ireturn H (by simp) (by decide) at_97 (by decide) (by decide) rfl
      ·
        by_cases c187 : ((p1 &&& (2147483647 : Int32)) % (5 : Int32)) = (3 : Int32)
        ·
          rw [c187]
          show own_G _ _ _ _ _ _ _ _ 12 #[.val (.int p1), .val (.int p2), .val (.int (3 : Int32)), .val (.int (p2 &&& (1073741823 : Int32))), .unset, .unset, .unset] []
          refine own_iload_n H rfl at_12 ?_
          refine own_invokestatic H (argsL := [(.int (3 : Int32))]) (rest := []) (rmR3 l Z a0 (own_hw H) h0 n0 hZ0) (w1 := 2) (w2 := 3) (w3 := 4) (w4 := 5) rfl rfl rfl rfl own_pd0 rfl 0 (by decide) rfl (by decide) (Nat.le_of_eq rfl) (by decide) (by decide) (by decide) rfl at_13 ?_
          rintro _ h188 ⟨a190, kA191, rfl, K189, f192, f193, f194, f195, f196⟩
          have f197 : n0 ≤ h188.size := Nat.le_trans hZ0 K189.1
          show own_G _ _ _ _ _ _ _ _ 16 #[.val (.int p1), .val (.int p2), .val (.int (3 : Int32)), .val (.int (p2 &&& (1073741823 : Int32))), .unset, .unset, .unset] [(.ref a190)]
          refine own_astore H rfl #[.val (.int p1), .val (.int p2), .val (.int (3 : Int32)), .val (.int (p2 &&& (1073741823 : Int32))), .val (.ref a190), .unset, .unset] rfl at_16 ?_
          refine own_new H (w := 7) (wi := 8) (wz := 9) rfl rfl rfl at_18 (by decide) (by decide) ?_
          intro h198 a199 ha200 E201 X202 D203
          have f204 : a190 ≠ a199 := Nat.ne_of_lt (by rw [ha200]; exact f196.lt)
          have f205 : n0 ≤ a199 := by rw [ha200]; exact f197
          have f206 : n0 ≤ h198.size := Nat.le_trans f197 E201.1
          have f207 : Arv Z h198 a190 kA191 .double (3 : Int32) [(.double (4593671619917905920 : UInt64)), (.double (4598175219545276416 : UInt64)), (.double (4602678819172646912 : UInt64))] (.double 0) := f195.ext E201
          have f208 : Exa Z h198 a190 "[D" := f196.ext E201
          have f209 : Fld Z h198 a199 "com/example/vestwright/vestwright/actuarial/MortalityTable" "name" "Ljava/lang/String;" .null := D203 (Or.inr (own_w H (i := 25) rfl)) (ty := (.object "java/lang/String")) (by decide)
          have f210 : Fld Z h198 a199 "com/example/vestwright/vestwright/actuarial/MortalityTable" "minimumAge" "I" (.int (0 : Int32)) := D203 (Or.inr (own_w H (i := 27) rfl)) (ty := .int) (by decide)
          have f211 : Fld Z h198 a199 "com/example/vestwright/vestwright/actuarial/MortalityTable" "rates" "[D" .null := D203 (Or.inr (own_w H (i := 38) rfl)) (ty := (.array .double)) (by decide)
          show own_G _ _ _ _ _ _ _ _ 21 #[.val (.int p1), .val (.int p2), .val (.int (3 : Int32)), .val (.int (p2 &&& (1073741823 : Int32))), .val (.ref a190), .unset, .unset] [(.ref a199)]
          refine own_dup H rfl at_21 ?_
          refine own_ldcS H D (w := 10) rfl (own_atoms H (f := fun i => [11, 12, 13, 14, 15, 16, 17].getD i.val 0) rfl rfl rfl rfl rfl rfl rfl) 4 (by decide) (by decide) at_22 (by decide) (by decide) ?_
          intro B a213 h212 H D E214
          have f215 : n0 ≤ h212.size := Nat.le_trans f206 E214.1
          have f216 : Arv Z h212 a190 kA191 .double (3 : Int32) [(.double (4593671619917905920 : UInt64)), (.double (4598175219545276416 : UInt64)), (.double (4602678819172646912 : UInt64))] (.double 0) := f207.ext E214
          have f217 : Exa Z h212 a190 "[D" := f208.ext E214
          have f218 : Exa Z h212 a199 "com/example/vestwright/vestwright/actuarial/MortalityTable" := X202.ext E214
          have f219 : Fld Z h212 a199 "com/example/vestwright/vestwright/actuarial/MortalityTable" "name" "Ljava/lang/String;" .null := f209.ext E214
          have f220 : Fld Z h212 a199 "com/example/vestwright/vestwright/actuarial/MortalityTable" "minimumAge" "I" (.int (0 : Int32)) := f210.ext E214
          have f221 : Fld Z h212 a199 "com/example/vestwright/vestwright/actuarial/MortalityTable" "rates" "[D" .null := f211.ext E214
          show own_G _ _ _ _ _ _ _ _ 24 #[.val (.int p1), .val (.int p2), .val (.int (3 : Int32)), .val (.int (p2 &&& (1073741823 : Int32))), .val (.ref a190), .unset, .unset] [(.ref a213), (.ref a199), (.ref a199)]
          refine own_iload_n H rfl at_24 ?_
          refine own_aload H rfl rfl at_25 ?_
          refine own_invokespecial H (a := a199) (argsL := [(.ref a213), (.int (p2 &&& (1073741823 : Int32))), (.ref a190)]) (rest := [(.ref a199)]) (rmI3 l Z a0 (own_hw H) h212 n0 a199 a213 (p2 &&& (1073741823 : Int32)) a190 kA191 f215 f218 f219 f220 f221 f216 f217 f204 f205) rfl (w1 := 18) (w2 := 19) (w3 := 9) (w4 := 20) rfl rfl rfl rfl own_pd1 rfl 1 (by decide) rfl (by decide) (Nat.le_of_eq rfl) (by decide) (by decide) (by decide) rfl at_27 ?_
          rintro _ h222 ⟨a224, rfl, K223, f225, f226, f227, f228, f229, f230⟩
          have f231 : a190 ≠ a224 := Nat.ne_of_lt (Nat.lt_of_lt_of_le f217.lt f226)
          have f232 : a199 ≠ a224 := Nat.ne_of_lt (Nat.lt_of_lt_of_le f218.lt f226)
          have f233 : n0 ≤ h222.size := Nat.le_trans f215 K223.1
          have f234 : Arv Z h222 a190 kA191 .double (3 : Int32) [(.double (4593671619917905920 : UInt64)), (.double (4598175219545276416 : UInt64)), (.double (4602678819172646912 : UInt64))] (.double 0) := f216.keep K223 (ninS f204 nin0)
          have f235 : Exa Z h222 a190 "[D" := f217.keep K223
          have f236 : Exa Z h222 a199 "com/example/vestwright/vestwright/actuarial/MortalityTable" := f218.keep K223
          show own_G _ _ _ _ _ _ _ _ 30 #[.val (.int p1), .val (.int p2), .val (.int (3 : Int32)), .val (.int (p2 &&& (1073741823 : Int32))), .val (.ref a190), .unset, .unset] [(.ref a199)]
          refine own_astore H rfl #[.val (.int p1), .val (.int p2), .val (.int (3 : Int32)), .val (.int (p2 &&& (1073741823 : Int32))), .val (.ref a190), .val (.ref a199), .unset] rfl at_30 ?_
          refine own_aload H rfl rfl at_32 ?_
          refine own_invokevirtual H (a := a199) (argsL := []) (rest := []) (rmM3 l Z a0 (own_hw H) h222 n0 a199 (p2 &&& (1073741823 : Int32)) a224 kA191 f228 f229 f230) f236 (w1 := 39) (w0 := 40) (w5 := 42) (w2 := 41) (w3 := 9) (w4 := 43) rfl rfl rfl rfl rfl rfl own_pd2 rfl 0 (by decide) rfl (by decide) (Nat.le_of_eq rfl) (by decide) (by decide) (by decide) rfl at_34 ?_
          rintro _ _ ⟨rfl, rfl⟩
          show own_G _ _ _ _ _ _ _ _ 37 #[.val (.int p1), .val (.int p2), .val (.int (3 : Int32)), .val (.int (p2 &&& (1073741823 : Int32))), .val (.ref a190), .val (.ref a199), .unset] [(.int (((p2 &&& (1073741823 : Int32)) + (3 : Int32)) - (1 : Int32)))]
          refine own_istore H #[.val (.int p1), .val (.int p2), .val (.int (3 : Int32)), .val (.int (p2 &&& (1073741823 : Int32))), .val (.ref a190), .val (.ref a199), .val (.int (((p2 &&& (1073741823 : Int32)) + (3 : Int32)) - (1 : Int32)))] rfl at_37 ?_
          refine own_iload H rfl at_39 ?_
          refine own_i2l H rfl at_41 ?_
          refine own_iload_n H rfl at_42 ?_
          refine own_i2l H rfl at_43 ?_
          refine own_lsub H rfl at_44 ?_
          refine own_lconst H (1 : Int64) (by decide) at_45 ?_
          refine own_ladd H rfl at_46 ?_
          refine own_iload_n H rfl at_47 ?_
          refine own_i2l (v := (3 : Int64)) H (by decide) at_48 ?_
          refine own_lcmpeq_t H (pc' := 55) at_49 at_50 (by decide) (by decide) ((own_b1 _ (3 : Int32) (own_m30 p2) (by decide)).trans (by decide)) ?_
          refine own_iload_n H rfl at_55 ?_
          refine own_ifne_t H (pc' := 61) at_56 (by decide) (by decide) (by decide) ?_
          refine own_aload H rfl rfl at_61 ?_
          refine own_iload H rfl at_63 ?_
          refine own_invokevirtualW H D (a := a199) (argsL := [(.int (((p2 &&& (1073741823 : Int32)) + (3 : Int32)) - (1 : Int32)))]) (rest := []) (rmP3_2 l Z a0 (own_hw H) h222 n0 a199 (((p2 &&& (1073741823 : Int32)) + (3 : Int32)) - (1 : Int32)) (p2 &&& (1073741823 : Int32)) a224 kA191 f233 f236 f228 f229 f230 (own_q1 _ _ (own_m30 p2) (by decide)) (own_q2 _) (own_q3 _ _)) f236 (w1 := 48) (w0 := 49) (w5 := 51) (w2 := 50) (w3 := 9) (w4 := 52) rfl rfl rfl rfl rfl rfl own_pd4 rfl 0 (by decide) rfl (by decide) (Nat.le_of_eq rfl) (by decide) (by decide) (by decide) rfl at_65 ?_
          intro B _ h237 H D hq
          obtain ⟨rfl, K238⟩ := hq
          have f239 : n0 ≤ h237.size := Nat.le_trans f233 K238.1
          have f240 : Arv Z h237 a190 kA191 .double (3 : Int32) [(.double (4593671619917905920 : UInt64)), (.double (4598175219545276416 : UInt64)), (.double (4602678819172646912 : UInt64))] (.double 0) := f234.keep K238 nin0
          have f241 : Exa Z h237 a190 "[D" := f235.keep K238
          have f242 : Exa Z h237 a199 "com/example/vestwright/vestwright/actuarial/MortalityTable" := f236.keep K238
          have f243 : Fld Z h237 a199 "com/example/vestwright/vestwright/actuarial/MortalityTable" "minimumAge" "I" (.int (p2 &&& (1073741823 : Int32))) := f228.keep K238 nin0
          have f244 : Fld Z h237 a199 "com/example/vestwright/vestwright/actuarial/MortalityTable" "rates" "[D" (.ref a224) := f229.keep K238 nin0
          have f245 : Arv Z h237 a224 kA191 .double (3 : Int32) [(.double (4593671619917905920 : UInt64)), (.double (4598175219545276416 : UInt64)), (.double (4602678819172646912 : UInt64))] (.double 0) := f230.keep K238 nin0
          show own_G _ _ _ _ _ _ _ _ 68 #[.val (.int p1), .val (.int p2), .val (.int (3 : Int32)), .val (.int (p2 &&& (1073741823 : Int32))), .val (.ref a190), .val (.ref a199), .val (.int (((p2 &&& (1073741823 : Int32)) + (3 : Int32)) - (1 : Int32)))] [(.double (4602678819172646912 : UInt64))]
          refine own_aload H rfl rfl at_68 ?_
          refine own_iload_n H rfl at_70 ?_
          refine own_iconst H (1 : Int32) (by decide) at_71 ?_
          refine own_isub (v := (2 : Int32)) H (by decide) at_72 ?_
          refine own_daloadV H f240 (by decide) (by decide) rfl at_73 ?_
          refine own_dcmp H (0 : Int32) (by decide +kernel) at_74 ?_
          refine own_ifne_f H at_75 (by decide) ?_
          refine own_aload H rfl rfl at_78 ?_
          refine own_iload_n H rfl at_80 ?_
          refine own_invokevirtualW H D (a := a199) (argsL := [(.int (p2 &&& (1073741823 : Int32)))]) (rest := []) (rmP3_0 l Z a0 (own_hw H) h237 n0 a199 (p2 &&& (1073741823 : Int32)) (p2 &&& (1073741823 : Int32)) a224 kA191 f239 f242 f243 f244 f245 (own_q2 _) (own_q1 _ _ (own_m30 p2) (by decide)) (own_sr _)) f242 (w1 := 48) (w0 := 49) (w5 := 51) (w2 := 50) (w3 := 9) (w4 := 52) rfl rfl rfl rfl rfl rfl own_pd4 rfl 0 (by decide) rfl (by decide) (Nat.le_of_eq rfl) (by decide) (by decide) (by decide) rfl at_81 ?_
          intro B _ h246 H D hq
          obtain ⟨rfl, K247⟩ := hq
          have f248 : n0 ≤ h246.size := Nat.le_trans f239 K247.1
          have f249 : Arv Z h246 a190 kA191 .double (3 : Int32) [(.double (4593671619917905920 : UInt64)), (.double (4598175219545276416 : UInt64)), (.double (4602678819172646912 : UInt64))] (.double 0) := f240.keep K247 nin0
          have f250 : Exa Z h246 a190 "[D" := f241.keep K247
          have f251 : Exa Z h246 a199 "com/example/vestwright/vestwright/actuarial/MortalityTable" := f242.keep K247
          have f252 : Fld Z h246 a199 "com/example/vestwright/vestwright/actuarial/MortalityTable" "minimumAge" "I" (.int (p2 &&& (1073741823 : Int32))) := f243.keep K247 nin0
          have f253 : Fld Z h246 a199 "com/example/vestwright/vestwright/actuarial/MortalityTable" "rates" "[D" (.ref a224) := f244.keep K247 nin0
          have f254 : Arv Z h246 a224 kA191 .double (3 : Int32) [(.double (4593671619917905920 : UInt64)), (.double (4598175219545276416 : UInt64)), (.double (4602678819172646912 : UInt64))] (.double 0) := f245.keep K247 nin0
          show own_G _ _ _ _ _ _ _ _ 84 #[.val (.int p1), .val (.int p2), .val (.int (3 : Int32)), .val (.int (p2 &&& (1073741823 : Int32))), .val (.ref a190), .val (.ref a199), .val (.int (((p2 &&& (1073741823 : Int32)) + (3 : Int32)) - (1 : Int32)))] [(.double (4593671619917905920 : UInt64))]
          refine own_aload H rfl rfl at_84 ?_
          refine own_iconst H (0 : Int32) (by decide) at_86 ?_
          refine own_daloadV H f249 (by decide) (by decide) rfl at_87 ?_
          refine own_dcmp H (0 : Int32) (by decide +kernel) at_88 ?_
          refine own_ifne_f H at_89 (by decide) ?_
          refine own_iconst H (1 : Int32) (by decide) at_92 ?_
          refine own_goto H (pc' := 97) at_93 (by decide) (by decide) ?_
          exact own_ireturn H (by simp) (by decide) at_97 (by decide) (by decide) rfl
        ·
          have c255 : ((p1 &&& (2147483647 : Int32)) % (5 : Int32)) = (4 : Int32) := own_k5 p1 c1 c51 c119 c187
          rw [c255]
          show own_G _ _ _ _ _ _ _ _ 12 #[.val (.int p1), .val (.int p2), .val (.int (4 : Int32)), .val (.int (p2 &&& (1073741823 : Int32))), .unset, .unset, .unset] []
          refine own_iload_n H rfl at_12 ?_
          refine own_invokestatic H (argsL := [(.int (4 : Int32))]) (rest := []) (rmR4 l Z a0 (own_hw H) h0 n0 hZ0) (w1 := 2) (w2 := 3) (w3 := 4) (w4 := 5) rfl rfl rfl rfl own_pd0 rfl 0 (by decide) rfl (by decide) (Nat.le_of_eq rfl) (by decide) (by decide) (by decide) rfl at_13 ?_
          rintro _ h256 ⟨a258, kA259, rfl, K257, f260, f261, f262, f263, f264⟩
          have f265 : n0 ≤ h256.size := Nat.le_trans hZ0 K257.1
          show own_G _ _ _ _ _ _ _ _ 16 #[.val (.int p1), .val (.int p2), .val (.int (4 : Int32)), .val (.int (p2 &&& (1073741823 : Int32))), .unset, .unset, .unset] [(.ref a258)]
          refine own_astore H rfl #[.val (.int p1), .val (.int p2), .val (.int (4 : Int32)), .val (.int (p2 &&& (1073741823 : Int32))), .val (.ref a258), .unset, .unset] rfl at_16 ?_
          refine own_new H (w := 7) (wi := 8) (wz := 9) rfl rfl rfl at_18 (by decide) (by decide) ?_
          intro h266 a267 ha268 E269 X270 D271
          have f272 : a258 ≠ a267 := Nat.ne_of_lt (by rw [ha268]; exact f264.lt)
          have f273 : n0 ≤ a267 := by rw [ha268]; exact f265
          have f274 : n0 ≤ h266.size := Nat.le_trans f265 E269.1
          have f275 : Arv Z h266 a258 kA259 .double (4 : Int32) [(.double (4593671619917905920 : UInt64)), (.double (4598175219545276416 : UInt64)), (.double (4602678819172646912 : UInt64)), (.double (4604930618986332160 : UInt64))] (.double 0) := f263.ext E269
          have f276 : Exa Z h266 a258 "[D" := f264.ext E269
          have f277 : Fld Z h266 a267 "com/example/vestwright/vestwright/actuarial/MortalityTable" "name" "Ljava/lang/String;" .null := D271 (Or.inr (own_w H (i := 25) rfl)) (ty := (.object "java/lang/String")) (by decide)
          have f278 : Fld Z h266 a267 "com/example/vestwright/vestwright/actuarial/MortalityTable" "minimumAge" "I" (.int (0 : Int32)) := D271 (Or.inr (own_w H (i := 27) rfl)) (ty := .int) (by decide)
          have f279 : Fld Z h266 a267 "com/example/vestwright/vestwright/actuarial/MortalityTable" "rates" "[D" .null := D271 (Or.inr (own_w H (i := 38) rfl)) (ty := (.array .double)) (by decide)
          show own_G _ _ _ _ _ _ _ _ 21 #[.val (.int p1), .val (.int p2), .val (.int (4 : Int32)), .val (.int (p2 &&& (1073741823 : Int32))), .val (.ref a258), .unset, .unset] [(.ref a267)]
          refine own_dup H rfl at_21 ?_
          refine own_ldcS H D (w := 10) rfl (own_atoms H (f := fun i => [11, 12, 13, 14, 15, 16, 17].getD i.val 0) rfl rfl rfl rfl rfl rfl rfl) 4 (by decide) (by decide) at_22 (by decide) (by decide) ?_
          intro B a281 h280 H D E282
          have f283 : n0 ≤ h280.size := Nat.le_trans f274 E282.1
          have f284 : Arv Z h280 a258 kA259 .double (4 : Int32) [(.double (4593671619917905920 : UInt64)), (.double (4598175219545276416 : UInt64)), (.double (4602678819172646912 : UInt64)), (.double (4604930618986332160 : UInt64))] (.double 0) := f275.ext E282
          have f285 : Exa Z h280 a258 "[D" := f276.ext E282
          have f286 : Exa Z h280 a267 "com/example/vestwright/vestwright/actuarial/MortalityTable" := X270.ext E282
          have f287 : Fld Z h280 a267 "com/example/vestwright/vestwright/actuarial/MortalityTable" "name" "Ljava/lang/String;" .null := f277.ext E282
          have f288 : Fld Z h280 a267 "com/example/vestwright/vestwright/actuarial/MortalityTable" "minimumAge" "I" (.int (0 : Int32)) := f278.ext E282
          have f289 : Fld Z h280 a267 "com/example/vestwright/vestwright/actuarial/MortalityTable" "rates" "[D" .null := f279.ext E282
          show own_G _ _ _ _ _ _ _ _ 24 #[.val (.int p1), .val (.int p2), .val (.int (4 : Int32)), .val (.int (p2 &&& (1073741823 : Int32))), .val (.ref a258), .unset, .unset] [(.ref a281), (.ref a267), (.ref a267)]
          refine own_iload_n H rfl at_24 ?_
          refine own_aload H rfl rfl at_25 ?_
          refine own_invokespecial H (a := a267) (argsL := [(.ref a281), (.int (p2 &&& (1073741823 : Int32))), (.ref a258)]) (rest := [(.ref a267)]) (rmI4 l Z a0 (own_hw H) h280 n0 a267 a281 (p2 &&& (1073741823 : Int32)) a258 kA259 f283 f286 f287 f288 f289 f284 f285 f272 f273) rfl (w1 := 18) (w2 := 19) (w3 := 9) (w4 := 20) rfl rfl rfl rfl own_pd1 rfl 1 (by decide) rfl (by decide) (Nat.le_of_eq rfl) (by decide) (by decide) (by decide) rfl at_27 ?_
          rintro _ h290 ⟨a292, rfl, K291, f293, f294, f295, f296, f297, f298⟩
          have f299 : a258 ≠ a292 := Nat.ne_of_lt (Nat.lt_of_lt_of_le f285.lt f294)
          have f300 : a267 ≠ a292 := Nat.ne_of_lt (Nat.lt_of_lt_of_le f286.lt f294)
          have f301 : n0 ≤ h290.size := Nat.le_trans f283 K291.1
          have f302 : Arv Z h290 a258 kA259 .double (4 : Int32) [(.double (4593671619917905920 : UInt64)), (.double (4598175219545276416 : UInt64)), (.double (4602678819172646912 : UInt64)), (.double (4604930618986332160 : UInt64))] (.double 0) := f284.keep K291 (ninS f272 nin0)
          have f303 : Exa Z h290 a258 "[D" := f285.keep K291
          have f304 : Exa Z h290 a267 "com/example/vestwright/vestwright/actuarial/MortalityTable" := f286.keep K291
          show own_G _ _ _ _ _ _ _ _ 30 #[.val (.int p1), .val (.int p2), .val (.int (4 : Int32)), .val (.int (p2 &&& (1073741823 : Int32))), .val (.ref a258), .unset, .unset] [(.ref a267)]
          refine own_astore H rfl #[.val (.int p1), .val (.int p2), .val (.int (4 : Int32)), .val (.int (p2 &&& (1073741823 : Int32))), .val (.ref a258), .val (.ref a267), .unset] rfl at_30 ?_
          refine own_aload H rfl rfl at_32 ?_
          refine own_invokevirtual H (a := a267) (argsL := []) (rest := []) (rmM4 l Z a0 (own_hw H) h290 n0 a267 (p2 &&& (1073741823 : Int32)) a292 kA259 f296 f297 f298) f304 (w1 := 39) (w0 := 40) (w5 := 42) (w2 := 41) (w3 := 9) (w4 := 43) rfl rfl rfl rfl rfl rfl own_pd2 rfl 0 (by decide) rfl (by decide) (Nat.le_of_eq rfl) (by decide) (by decide) (by decide) rfl at_34 ?_
          rintro _ _ ⟨rfl, rfl⟩
          show own_G _ _ _ _ _ _ _ _ 37 #[.val (.int p1), .val (.int p2), .val (.int (4 : Int32)), .val (.int (p2 &&& (1073741823 : Int32))), .val (.ref a258), .val (.ref a267), .unset] [(.int (((p2 &&& (1073741823 : Int32)) + (4 : Int32)) - (1 : Int32)))]
          refine own_istore H #[.val (.int p1), .val (.int p2), .val (.int (4 : Int32)), .val (.int (p2 &&& (1073741823 : Int32))), .val (.ref a258), .val (.ref a267), .val (.int (((p2 &&& (1073741823 : Int32)) + (4 : Int32)) - (1 : Int32)))] rfl at_37 ?_
          refine own_iload H rfl at_39 ?_
          refine own_i2l H rfl at_41 ?_
          refine own_iload_n H rfl at_42 ?_
          refine own_i2l H rfl at_43 ?_
          refine own_lsub H rfl at_44 ?_
          refine own_lconst H (1 : Int64) (by decide) at_45 ?_
          refine own_ladd H rfl at_46 ?_
          refine own_iload_n H rfl at_47 ?_
          refine own_i2l (v := (4 : Int64)) H (by decide) at_48 ?_
          refine own_lcmpeq_t H (pc' := 55) at_49 at_50 (by decide) (by decide) ((own_b1 _ (4 : Int32) (own_m30 p2) (by decide)).trans (by decide)) ?_
          refine own_iload_n H rfl at_55 ?_
          refine own_ifne_t H (pc' := 61) at_56 (by decide) (by decide) (by decide) ?_
          refine own_aload H rfl rfl at_61 ?_
          refine own_iload H rfl at_63 ?_
          refine own_invokevirtualW H D (a := a267) (argsL := [(.int (((p2 &&& (1073741823 : Int32)) + (4 : Int32)) - (1 : Int32)))]) (rest := []) (rmP4_3 l Z a0 (own_hw H) h290 n0 a267 (((p2 &&& (1073741823 : Int32)) + (4 : Int32)) - (1 : Int32)) (p2 &&& (1073741823 : Int32)) a292 kA259 f301 f304 f296 f297 f298 (own_q1 _ _ (own_m30 p2) (by decide)) (own_q2 _) (own_q3 _ _)) f304 (w1 := 48) (w0 := 49) (w5 := 51) (w2 := 50) (w3 := 9) (w4 := 52) rfl rfl rfl rfl rfl rfl own_pd4 rfl 0 (by decide) rfl (by decide) (Nat.le_of_eq rfl) (by decide) (by decide) (by decide) rfl at_65 ?_
          intro B _ h305 H D hq
          obtain ⟨rfl, K306⟩ := hq
          have f307 : n0 ≤ h305.size := Nat.le_trans f301 K306.1
          have f308 : Arv Z h305 a258 kA259 .double (4 : Int32) [(.double (4593671619917905920 : UInt64)), (.double (4598175219545276416 : UInt64)), (.double (4602678819172646912 : UInt64)), (.double (4604930618986332160 : UInt64))] (.double 0) := f302.keep K306 nin0
          have f309 : Exa Z h305 a258 "[D" := f303.keep K306
          have f310 : Exa Z h305 a267 "com/example/vestwright/vestwright/actuarial/MortalityTable" := f304.keep K306
          have f311 : Fld Z h305 a267 "com/example/vestwright/vestwright/actuarial/MortalityTable" "minimumAge" "I" (.int (p2 &&& (1073741823 : Int32))) := f296.keep K306 nin0
          have f312 : Fld Z h305 a267 "com/example/vestwright/vestwright/actuarial/MortalityTable" "rates" "[D" (.ref a292) := f297.keep K306 nin0
          have f313 : Arv Z h305 a292 kA259 .double (4 : Int32) [(.double (4593671619917905920 : UInt64)), (.double (4598175219545276416 : UInt64)), (.double (4602678819172646912 : UInt64)), (.double (4604930618986332160 : UInt64))] (.double 0) := f298.keep K306 nin0
          show own_G _ _ _ _ _ _ _ _ 68 #[.val (.int p1), .val (.int p2), .val (.int (4 : Int32)), .val (.int (p2 &&& (1073741823 : Int32))), .val (.ref a258), .val (.ref a267), .val (.int (((p2 &&& (1073741823 : Int32)) + (4 : Int32)) - (1 : Int32)))] [(.double (4604930618986332160 : UInt64))]
          refine own_aload H rfl rfl at_68 ?_
          refine own_iload_n H rfl at_70 ?_
          refine own_iconst H (1 : Int32) (by decide) at_71 ?_
          refine own_isub (v := (3 : Int32)) H (by decide) at_72 ?_
          refine own_daloadV H f308 (by decide) (by decide) rfl at_73 ?_
          refine own_dcmp H (0 : Int32) (by decide +kernel) at_74 ?_
          refine own_ifne_f H at_75 (by decide) ?_
          refine own_aload H rfl rfl at_78 ?_
          refine own_iload_n H rfl at_80 ?_
          refine own_invokevirtualW H D (a := a267) (argsL := [(.int (p2 &&& (1073741823 : Int32)))]) (rest := []) (rmP4_0 l Z a0 (own_hw H) h305 n0 a267 (p2 &&& (1073741823 : Int32)) (p2 &&& (1073741823 : Int32)) a292 kA259 f307 f310 f311 f312 f313 (own_q2 _) (own_q1 _ _ (own_m30 p2) (by decide)) (own_sr _)) f310 (w1 := 48) (w0 := 49) (w5 := 51) (w2 := 50) (w3 := 9) (w4 := 52) rfl rfl rfl rfl rfl rfl own_pd4 rfl 0 (by decide) rfl (by decide) (Nat.le_of_eq rfl) (by decide) (by decide) (by decide) rfl at_81 ?_
          intro B _ h314 H D hq
          obtain ⟨rfl, K315⟩ := hq
          have f316 : n0 ≤ h314.size := Nat.le_trans f307 K315.1
          have f317 : Arv Z h314 a258 kA259 .double (4 : Int32) [(.double (4593671619917905920 : UInt64)), (.double (4598175219545276416 : UInt64)), (.double (4602678819172646912 : UInt64)), (.double (4604930618986332160 : UInt64))] (.double 0) := f308.keep K315 nin0
          have f318 : Exa Z h314 a258 "[D" := f309.keep K315
          have f319 : Exa Z h314 a267 "com/example/vestwright/vestwright/actuarial/MortalityTable" := f310.keep K315
          have f320 : Fld Z h314 a267 "com/example/vestwright/vestwright/actuarial/MortalityTable" "minimumAge" "I" (.int (p2 &&& (1073741823 : Int32))) := f311.keep K315 nin0
          have f321 : Fld Z h314 a267 "com/example/vestwright/vestwright/actuarial/MortalityTable" "rates" "[D" (.ref a292) := f312.keep K315 nin0
          have f322 : Arv Z h314 a292 kA259 .double (4 : Int32) [(.double (4593671619917905920 : UInt64)), (.double (4598175219545276416 : UInt64)), (.double (4602678819172646912 : UInt64)), (.double (4604930618986332160 : UInt64))] (.double 0) := f313.keep K315 nin0
          show own_G _ _ _ _ _ _ _ _ 84 #[.val (.int p1), .val (.int p2), .val (.int (4 : Int32)), .val (.int (p2 &&& (1073741823 : Int32))), .val (.ref a258), .val (.ref a267), .val (.int (((p2 &&& (1073741823 : Int32)) + (4 : Int32)) - (1 : Int32)))] [(.double (4593671619917905920 : UInt64))]
          refine own_aload H rfl rfl at_84 ?_
          refine own_iconst H (0 : Int32) (by decide) at_86 ?_
          refine own_daloadV H f317 (by decide) (by decide) rfl at_87 ?_
          refine own_dcmp H (0 : Int32) (by decide +kernel) at_88 ?_
          refine own_ifne_f H at_89 (by decide) ?_
          refine own_iconst H (1 : Int32) (by decide) at_92 ?_
          refine own_goto H (pc' := 97) at_93 (by decide) (by decide) ?_
          exact own_ireturn H (by simp) (by decide) at_97 (by decide) (by decide) rfl
set_option maxHeartbeats 40000000 in
theorem comes_1 {Post : Tables → Env → Array Value → State → Outcome → State → Prop} (hpost : ∀ tb e args s v u, (limb_1_1.after args s (.returned v) u = true ∧ limb_1_2.after args s (.returned v) u = true ∧ True) → ReturnedEndW s (.returned v) u (Jvm.fieldLocs frame_1_writes args s ++ Jvm.arrayLocs frame_1_arrays args s ++ Jvm.staticLocs frame_1_statics s) 24 2176 → Post tb e args s (.returned v) u) :
    ArmFor flags0 classFile x code maxLocals ret World_1 tables_1 room_1 Calls_1 rest_1 Pre_1 Post := by
  intro l hfl _ _ p e ha hc hk s m args below hf hA hF happ hP
  obtain ⟨hcalls, hrest, hpre⟩ := hP
  obtain ⟨-, -, -, hnamed, -, -, -, hat⟩ := (Spec.applies_iff hf).mp happ
  obtain ⟨hg, hn⟩ := and_e (Cond.before_iff.mp (show (Jvm.Cond.and given_1 narrow_1).before args s = true from hpre))
  obtain ⟨h1, g0⟩ := and_e hg
  obtain ⟨w0, w1, rfl⟩ : ∃ w0 w1 : Value, args = #[w0, w1] := by
    have hs : args.size = 2 := by simpa [Cond.value, given_1] using h1
    obtain ⟨L⟩ := args
    match L, hs with
    | [w0, w1], _ => exact ⟨w0, w1, rfl⟩
  have hw := fun d (hd : d ∈ tables_1) => atoms_spec (ws := Jvm.Cond.code x code maxLocals ret :: tables_1) hat d (List.mem_cons_of_mem _ hd)
  have hw' : ∀ (i : Nat) (d : Jvm.Cond), tables_1[i]? = some d → d.before _ s = true := fun i d q => hw d (List.mem_of_getElem? q)
  obtain ⟨u0, g1⟩ := and_e g0
  obtain ⟨i0, e0⟩ := is_v u0
  obtain rfl : w0 = (.int i0) := Option.some.inj e0
  obtain ⟨i1, e1⟩ := is_v g1
  obtain rfl : w1 = (.int i1) := Option.some.inj e1
  obtain ⟨n, o, h1, h2, h3, _, L, rfl, ⟨rfl, N⟩, hq⟩ := rm0 l s _ hw' tables_1 s.heap s.heap.size i0 i1 (Nat.le_refl _) p e ha hc hk s m _ below hf ((Spec.applies_iff_loose hf).mp happ).1 ⟨rfl, State.Warmed39.refl s, rfl⟩ trivial
  refine ⟨n, _, h1, h2, h3, hpost _ _ _ _ _ _ ⟨Cond.after_iff.mpr rfl, Cond.after_iff.mpr (eq_i res_at (Term.int_eval (1)) (rfl)), trivial⟩ ⟨hq.1, hq.2.1, hq.2.2.1, (hq.2.2.2.sift fun y hy => Or.inr (N y hy)).mono (by decide) (by decide)⟩⟩
theorem main_1_1 : Claimed_1_1 := comes_1 fun _ _ _ _ _ _ h hF => ⟨h.1, hF⟩
theorem main_1_2 : Claimed_1_2 := comes_1 fun _ _ _ _ _ _ h hF => ⟨h.2.1, hF⟩
end Jvm.Pilot.@@N@@
namespace Jvm.Pilot.@@N@@
open Jvm Jvm.ClassFile Sem Op Lib Jvm.Free Jvm.Stand Jvm.Pilot.@@N@@.Jvm.D
/-! MADE BY PROGRAM (witnessworld.py) out of the Statement's table words and the real class files: 16 classes; the members and pool entries that the words name. The judged class is class 1, her method 2. -/
namespace start1
open Jvm.ClassFile
def u (s : String) : CpInfo := .utf8 (stringToUtf16 s)
/-- a pool by its gaps: so many unusable entries, then the entry; so many at the end -/
def gap : Nat → List CpInfo → List CpInfo
  | 0, r => r
  | n + 1, r => .unusable :: gap n r
def poolList (es : List (Nat × CpInfo)) (last : Nat) : List CpInfo := es.foldr (fun e r => gap e.1 (e.2 :: r)) (gap last [])
def pool (es : List (Nat × CpInfo)) (last : Nat) : Array CpInfo := ⟨poolList es last⟩
def fileOf (pool : Array CpInfo) (this : Nat) (attrs : Array Attribute := #[]) (ms : Array MethodInfo := #[]) (fl : Nat := 33) (sup : Nat := 0) (ifs : Array Nat := #[]) (fds : Array FieldInfo := #[]) : ClassFile where
  minorVersion := 0
  majorVersion := 65
  constantPool := pool
  accessFlags := fl
  thisClass := this
  superClass := sup
  interfaces := ifs
  fields := fds
  methods := ms
  attributes := attrs
def plain (name : String) (sup : Option ClassId) : Class where
  name := name
  kind := .ordinary
  loader := none
  accessFlags := 33
  super := sup
  interfaces := #[]
  cf := none
  fields := #[]
  methods := #[]
  instanceTypes := #[]
  staticTypes := #[]
  resolved := #[]
  callSites := []
  init := .initialized
  statics := none
  mirror := none

def pool0 : Array CpInfo := pool [(5, u "<init>"), (0, u "()V"), (1, .class_ 10), (1, u "java/lang/Object"), (85, u "clone"), (0, u "()Ljava/lang/Object;")] 26

def k0c0 : Code := { maxStack := 0, maxLocals := 1, code := object_method_1_code, exceptionTable := #[], attributes := #[] }
def k0m0 : Method := { name := "<init>", desc := "()V", sig := { parameters := [], returnType := none }, accessFlags := 1, code := some k0c0 }
def k0m1 : Method := { name := "clone", desc := "()Ljava/lang/Object;", sig := { parameters := [], returnType := some (.object "java/lang/Object") }, accessFlags := 260, code := none }
/-- java/lang/Object -/
def k0 : Class := { plain "java/lang/Object" none with
  accessFlags := 33
  interfaces := #[]
  cf := some (fileOf pool0 8 #[] #[{ accessFlags := 1, nameIndex := 5, descriptorIndex := 6, attributes := #[] }, { accessFlags := 260, nameIndex := 96, descriptorIndex := 97, attributes := #[] }] 33 0 #[] #[])
  fields := #[]
  methods := #[k0m0, k0m1]
  instanceTypes := #[]
  staticTypes := #[]
  resolved := Array.replicate 124 none
  statics := none }

def pool1 : Array CpInfo := pool [(2, .class_ 4), (1, u "java/lang/Object"), (0, u "<init>"), (0, u "()V"), (0, .double 4593671619917905920), (1, .double 4598175219545276416), (1, .double 4602678819172646912), (1, .double 4604930618986332160), (1, .integer 2147483647), (0, .integer 1073741823), (0, .methodref 18 19), (0, .class_ 20), (0, .nameAndType 21 22), (0, u "com/example/vestwright/vestwright/actuarial/MortalityTableMaximumAgePinLaw"), (0, u "rates"), (0, u "(I)[D"), (0, .class_ 24), (0, u "com/example/vestwright/vestwright/actuarial/MortalityTable"), (0, .string 26), (0, u "t"), (0, .methodref 23 28), (0, .nameAndType 5 29), (0, u "(Ljava/lang/String;I[D)V"), (0, .methodref 23 31), (0, .nameAndType 32 33), (0, u "maximumAge"), (0, u "()I"), (0, .methodref 23 35), (0, .nameAndType 36 37), (0, u "probabilityOfDeath"), (0, u "(I)D"), (3, u "law"), (0, u "(II)Z")] 4

def k1m0 : Method := { name := "<init>", desc := "()V", sig := { parameters := [], returnType := none }, accessFlags := 1, code := none }
def k1c1 : Code := { maxStack := 5, maxLocals := 1, code := method_2_code, exceptionTable := #[], attributes := #[] }
def k1m1 : Method := { name := "rates", desc := "(I)[D", sig := { parameters := [.int], returnType := some (.array .double) }, accessFlags := 10, code := some k1c1 }
def k1c2 : Code := { maxStack := 5, maxLocals := 7, code := code, exceptionTable := #[], attributes := #[] }
def k1m2 : Method := { name := "law", desc := "(II)Z", sig := { parameters := [.int, .int], returnType := some .boolean }, accessFlags := 9, code := some k1c2 }
/-- com/example/vestwright/vestwright/actuarial/MortalityTableMaximumAgePinLaw -/
def k1 : Class := { plain "com/example/vestwright/vestwright/actuarial/MortalityTableMaximumAgePinLaw" (some 0) with
  accessFlags := 49
  interfaces := #[]
  cf := some (fileOf pool1 18 #[] #[{ accessFlags := 1, nameIndex := 5, descriptorIndex := 6, attributes := #[] }, { accessFlags := 10, nameIndex := 21, descriptorIndex := 22, attributes := #[] }, { accessFlags := 9, nameIndex := 41, descriptorIndex := 42, attributes := #[] }] 49 2 #[] #[])
  fields := #[]
  methods := #[k1m0, k1m1, k1m2]
  instanceTypes := #[]
  staticTypes := #[]
  resolved := Array.replicate 47 none
  statics := none }

def pool2 : Array CpInfo := pool [(1, .methodref 2 3), (0, .class_ 4), (0, .nameAndType 5 6), (0, u "java/lang/Object"), (0, u "<init>"), (0, u "()V"), (0, .fieldref 8 9), (0, .class_ 10), (0, .nameAndType 11 12), (0, u "com/example/vestwright/vestwright/actuarial/MortalityTable"), (0, u "name"), (0, u "Ljava/lang/String;"), (0, .fieldref 8 14), (0, .nameAndType 15 16), (0, u "minimumAge"), (0, u "I"), (0, .methodref 18 19), (0, .class_ 20), (0, .nameAndType 21 22), (0, u "[D"), (0, u "clone"), (0, u "()Ljava/lang/Object;"), (0, .fieldref 8 24), (0, .nameAndType 25 20), (0, u "rates"), (0, .string 27), (0, u "rate"), (0, .methodref 8 29), (0, .nameAndType 30 31), (0, u "checkAge"), (0, u "(ILjava/lang/String;)V"), (0, .methodref 8 33), (0, .nameAndType 34 35), (0, u "maximumAge"), (0, u "()I"), (9, u "(Ljava/lang/String;I[D)V"), (3, u "probabilityOfDeath"), (0, u "(I)D")] 18

def k2c0 : Code := { maxStack := 2, maxLocals := 4, code := prog_4_method_1_code, exceptionTable := #[], attributes := #[] }
def k2m0 : Method := { name := "<init>", desc := "(Ljava/lang/String;I[D)V", sig := { parameters := [(.object "java/lang/String"), .int, (.array .double)], returnType := none }, accessFlags := 0, code := some k2c0 }
def k2c1 : Code := { maxStack := 2, maxLocals := 1, code := prog_4_method_4_code, exceptionTable := #[], attributes := #[] }
def k2m1 : Method := { name := "maximumAge", desc := "()I", sig := { parameters := [], returnType := some .int }, accessFlags := 1, code := some k2c1 }
def k2c2 : Code := { maxStack := 3, maxLocals := 2, code := prog_4_method_5_code, exceptionTable := #[], attributes := #[] }
def k2m2 : Method := { name := "probabilityOfDeath", desc := "(I)D", sig := { parameters := [.int], returnType := some .double }, accessFlags := 1, code := some k2c2 }
def k2c3 : Code := { maxStack := 7, maxLocals := 3, code := prog_4_method_6_code, exceptionTable := #[], attributes := #[] }
def k2m3 : Method := { name := "checkAge", desc := "(ILjava/lang/String;)V", sig := { parameters := [.int, (.object "java/lang/String")], returnType := none }, accessFlags := 0, code := some k2c3 }
/-- com/example/vestwright/vestwright/actuarial/MortalityTable -/
def k2 : Class := { plain "com/example/vestwright/vestwright/actuarial/MortalityTable" (some 0) with
  accessFlags := 49
  interfaces := #[]
  cf := some (fileOf pool2 8 #[] #[{ accessFlags := 0, nameIndex := 5, descriptorIndex := 45, attributes := #[] }, { accessFlags := 1, nameIndex := 34, descriptorIndex := 35, attributes := #[] }, { accessFlags := 1, nameIndex := 49, descriptorIndex := 50, attributes := #[] }, { accessFlags := 0, nameIndex := 30, descriptorIndex := 31, attributes := #[] }] 49 2 #[] #[{ accessFlags := 18, nameIndex := 11, descriptorIndex := 12, attributes := #[] }, { accessFlags := 18, nameIndex := 15, descriptorIndex := 16, attributes := #[] }, { accessFlags := 18, nameIndex := 25, descriptorIndex := 20, attributes := #[] }])
  fields := #[{ name := "name", type := (.object "java/lang/String"), accessFlags := 18, slot := 0, constantValue := 0 }, { name := "minimumAge", type := .int, accessFlags := 18, slot := 1, constantValue := 0 }, { name := "rates", type := (.array .double), accessFlags := 18, slot := 2, constantValue := 0 }]
  methods := #[k2m0, k2m1, k2m2, k2m3]
  instanceTypes := #[(.object "java/lang/String"), .int, (.array .double)]
  staticTypes := #[]
  resolved := Array.replicate 69 none
  statics := none }

def pool3 : Array CpInfo := pool [(1, .class_ 2), (0, u "java/io/Serializable"), (0, .class_ 4), (0, u "java/lang/Object")] 2

/-- java/io/Serializable -/
def k3 : Class := { plain "java/io/Serializable" (some 0) with
  accessFlags := 1537
  interfaces := #[]
  cf := some (fileOf pool3 1 #[] #[] 1537 3 #[] #[])
  fields := #[]
  methods := #[]
  instanceTypes := #[]
  staticTypes := #[]
  resolved := Array.replicate 7 none
  statics := none }

def pool4 : Array CpInfo := pool [(1, .class_ 2), (0, u "java/lang/Comparable"), (0, .class_ 4), (0, u "java/lang/Object")] 7

/-- java/lang/Comparable -/
def k4 : Class := { plain "java/lang/Comparable" (some 0) with
  accessFlags := 1537
  interfaces := #[]
  cf := some (fileOf pool4 1 #[] #[] 1537 3 #[] #[])
  fields := #[]
  methods := #[]
  instanceTypes := #[]
  staticTypes := #[]
  resolved := Array.replicate 12 none
  statics := none }

def pool5 : Array CpInfo := pool [(2, .class_ 4), (1, u "java/lang/CharSequence"), (42, .class_ 48), (0, u "java/lang/CharSequence$1CodePointIterator"), (10, .class_ 60), (0, u "java/lang/CharSequence$1CharIterator"), (5, .class_ 67), (0, u "java/lang/Object")] 63

/-- java/lang/CharSequence -/
def k5 : Class := { plain "java/lang/CharSequence" (some 0) with
  accessFlags := 1537
  interfaces := #[]
  cf := some (fileOf pool5 2 #[.nestMembers #[47, 59]] #[] 1537 66 #[] #[])
  fields := #[]
  methods := #[]
  instanceTypes := #[]
  staticTypes := #[]
  resolved := Array.replicate 131 none
  statics := none }

def pool6 : Array CpInfo := pool [(1, .class_ 2), (0, u "java/lang/constant/Constable"), (0, .class_ 4), (0, u "java/lang/Object")] 6

/-- java/lang/constant/Constable -/
def k6 : Class := { plain "java/lang/constant/Constable" (some 0) with
  accessFlags := 1537
  interfaces := #[]
  cf := some (fileOf pool6 1 #[] #[] 1537 3 #[] #[])
  fields := #[]
  methods := #[]
  instanceTypes := #[]
  staticTypes := #[]
  resolved := Array.replicate 11 none
  statics := none }

def pool7 : Array CpInfo := pool [(1, .class_ 2), (0, u "java/lang/constant/ConstantDesc"), (0, .class_ 4), (0, u "java/lang/Object")] 32

/-- java/lang/constant/ConstantDesc -/
def k7 : Class := { plain "java/lang/constant/ConstantDesc" (some 0) with
  accessFlags := 1537
  interfaces := #[]
  cf := some (fileOf pool7 1 #[] #[] 1537 3 #[] #[])
  fields := #[]
  methods := #[]
  instanceTypes := #[]
  staticTypes := #[]
  resolved := Array.replicate 37 none
  statics := none }

def pool8 : Array CpInfo := pool [(2, .class_ 4), (1, u "java/lang/Object"), (0, u "<init>"), (0, u "()V"), (3, .class_ 12), (1, u "java/lang/String"), (0, u "value"), (0, u "[B"), (2, u "coder"), (0, u "B"), (2, u "hash"), (0, u "I"), (2, u "hashIsZero"), (0, u "Z"), (13, u "COMPACT_STRINGS"), (534, .class_ 576), (0, u "java/lang/CharSequence"), (22, u "CASE_INSENSITIVE_ORDER"), (0, u "Ljava/util/Comparator;"), (500, u "serialPersistentFields"), (0, u "[Ljava/io/ObjectStreamField;"), (0, .class_ 1104), (0, u "java/lang/String$CaseInsensitiveComparator"), (1, .class_ 1107), (0, u "java/io/Serializable"), (0, .class_ 1109), (0, u "java/lang/Comparable"), (0, .class_ 1111), (0, u "java/lang/constant/Constable"), (0, .class_ 1113), (0, u "java/lang/constant/ConstantDesc"), (2, u "serialVersionUID"), (0, u "J"), (3, u "REPL"), (0, u "C"), (2, u "LATIN1"), (1, u "UTF16")] 323

def k8m0 : Method := { name := "<init>", desc := "()V", sig := { parameters := [], returnType := none }, accessFlags := 1, code := none }
/-- java/lang/String -/
def k8 : Class := { plain "java/lang/String" (some 0) with
  accessFlags := 49
  interfaces := #[3, 4, 5, 6, 7]
  cf := some (fileOf pool8 10 #[.nestMembers #[1103]] #[{ accessFlags := 1, nameIndex := 5, descriptorIndex := 6, attributes := #[] }] 49 2 #[1106, 1108, 575, 1110, 1112] #[{ accessFlags := 18, nameIndex := 13, descriptorIndex := 14, attributes := #[] }, { accessFlags := 18, nameIndex := 17, descriptorIndex := 18, attributes := #[] }, { accessFlags := 2, nameIndex := 21, descriptorIndex := 22, attributes := #[] }, { accessFlags := 2, nameIndex := 25, descriptorIndex := 26, attributes := #[] }, { accessFlags := 26, nameIndex := 1116, descriptorIndex := 1117, attributes := #[] }, { accessFlags := 24, nameIndex := 40, descriptorIndex := 26, attributes := #[] }, { accessFlags := 26, nameIndex := 1101, descriptorIndex := 1102, attributes := #[] }, { accessFlags := 26, nameIndex := 1121, descriptorIndex := 1122, attributes := #[] }, { accessFlags := 25, nameIndex := 599, descriptorIndex := 600, attributes := #[] }, { accessFlags := 24, nameIndex := 1125, descriptorIndex := 18, attributes := #[] }, { accessFlags := 24, nameIndex := 1127, descriptorIndex := 18, attributes := #[] }])
  fields := #[{ name := "value", type := (.array .byte), accessFlags := 18, slot := 0, constantValue := 0 }, { name := "coder", type := .byte, accessFlags := 18, slot := 1, constantValue := 0 }, { name := "hash", type := .int, accessFlags := 2, slot := 2, constantValue := 0 }, { name := "hashIsZero", type := .boolean, accessFlags := 2, slot := 3, constantValue := 0 }, { name := "serialVersionUID", type := .long, accessFlags := 26, slot := 0, constantValue := 0 }, { name := "COMPACT_STRINGS", type := .boolean, accessFlags := 24, slot := 1, constantValue := 0 }, { name := "serialPersistentFields", type := (.array (.object "java/io/ObjectStreamField")), accessFlags := 26, slot := 2, constantValue := 0 }, { name := "REPL", type := .char, accessFlags := 26, slot := 3, constantValue := 0 }, { name := "CASE_INSENSITIVE_ORDER", type := (.object "java/util/Comparator"), accessFlags := 25, slot := 4, constantValue := 0 }, { name := "LATIN1", type := .byte, accessFlags := 24, slot := 5, constantValue := 0 }, { name := "UTF16", type := .byte, accessFlags := 24, slot := 6, constantValue := 0 }]
  methods := #[k8m0]
  instanceTypes := #[(.array .byte), .byte, .int, .boolean]
  staticTypes := #[.long, .boolean, (.array (.object "java/io/ObjectStreamField")), .char, (.object "java/util/Comparator"), .byte, .byte]
  resolved := Array.replicate 1451 none
  statics := none }

def pool9 : Array CpInfo := pool [(1, .class_ 2), (0, u "java/lang/Cloneable"), (0, .class_ 4), (0, u "java/lang/Object")] 2

/-- java/lang/Cloneable -/
def k9 : Class := { plain "java/lang/Cloneable" (some 0) with
  accessFlags := 1537
  interfaces := #[]
  cf := some (fileOf pool9 1 #[] #[] 1537 3 #[] #[])
  fields := #[]
  methods := #[]
  instanceTypes := #[]
  staticTypes := #[]
  resolved := Array.replicate 7 none
  statics := none }

/-- the primitive byte -/
def k10 : Class := { plain "byte" none with kind := .primitive 'B', accessFlags := 0x411 }
/-- [B -/
def k11 : Class := { plain "[B" (some 0) with kind := .array 10 .byte, interfaces := #[9, 3], accessFlags := 1041 }

/-- the primitive double -/
def k12 : Class := { plain "double" none with kind := .primitive 'D', accessFlags := 0x411 }
/-- [D -/
def k13 : Class := { plain "[D" (some 0) with kind := .array 12 .double, interfaces := #[9, 3], accessFlags := 1041 }

/-- the primitive int -/
def k14 : Class := { plain "int" none with kind := .primitive 'I', accessFlags := 0x411 }
/-- [I -/
def k15 : Class := { plain "[I" (some 0) with kind := .array 14 .int, interfaces := #[9, 3], accessFlags := 1041 }

def heap : Heap := #[]
def classes : Array Class := #[k0, k1, k2, k3, k4, k5, k6, k7, k8, k9, k10, k11, k12, k13, k14, k15]
def interned : List (Array UInt16 × Addr) := []
def slotsUsed : Nat := 0
def theMethod : MethodId := ⟨1, 2⟩
def args0 : Array Value := #[.int 3, .int 40]
def aboutOver (below : List Frame) : State where
  vm := { classes := classes, interned := interned.toArray }
  heap := heap
  slotsUsed := slotsUsed
  threads := #[{ frames := .invoking theMethod args0 :: below }]
def below0 : List Frame := [.native { method := ⟨0, 0⟩, args := #[] }]
def about1 : State := aboutOver below0
def p0 : Program := .bare "" "" ""
def e0 : Env := launch0.env 0 0 0
theorem w_frames : about1.frames = Frame.invoking theMethod args0 :: below0 := rfl
set_option maxRecDepth 65536 in
theorem w_args : argsFit about1.vm theMethod args0 = true := by decide +kernel
set_option maxRecDepth 65536 in
theorem w_heap : heapFits about1 = true := by decide +kernel
set_option maxRecDepth 65536 in
theorem w_runnable : about1.curStatus? = some .runnable := by decide +kernel
set_option maxRecDepth 65536 in
theorem w_alone : about1.alone = true := by decide +kernel
set_option maxRecDepth 65536 in
theorem w_named : about1.methodNamed? x = some theMethod := by decide +kernel
set_option maxRecDepth 65536 in
theorem w_hears : about1.hears theMethod below0 = true := by decide +kernel
set_option maxRecDepth 65536 in
theorem w_ripe : about1.ripe theMethod args0 below0 = true := by decide +kernel
theorem w_running : about1.status = .running := rfl
set_option maxRecDepth 65536 in
theorem w_room : about1.hasRoom e0.platform room_1 = true :=
  launch0.hasRoom_least _ room_1 (by decide +kernel) (by decide +kernel) (by decide +kernel) (by decide +kernel) (by decide +kernel) (by decide +kernel)
theorem allAtoms_all (ts : List Jvm.Cond) (a : Array Jvm.Value) (st : Jvm.State) : (allAtoms ts).before a st = ts.all (fun c => c.before a st) := by
  induction ts with
  | nil => rfl
  | cons c t ih =>
    show (Jvm.Cond.and c (allAtoms t)).before a st = _
    rw [Jvm.Cond.before_and, ih, List.all_cons]
def words1 : List Jvm.Cond := Jvm.Cond.code x code maxLocals ret :: tables_1
/-- a 'code' word, met by the world's own term for the bytes: nothing is compared byte by byte -/
theorem code_word {y : MethodName} {bytes : ByteArray} {mx : Nat} {rt : Option FieldType} {a : Array Value} {s : State} {m : MethodId} {meth : Method} {c : Code} (h1 : s.methodNamed? y = some m) (h2 : s.vm.method? m = some meth) (h3 : meth.code = some c) (h4 : c.code = bytes)
    (h5 : (c.maxLocals == mx && c.exceptionTable.isEmpty && decide (c.maxStack ≤ mostOperands) && decide (meth.sig.returnType = rt) && !meth.locks && decide (parseMethodDescriptor y.desc = some meth.sig)) = true) : (Jvm.Cond.code y bytes mx rt).before a s = true := by
  simp only [Bool.and_eq_true, beq_iff_eq, Bool.not_eq_true', decide_eq_true_eq] at h5
  obtain ⟨⟨⟨⟨⟨g1, g2⟩, g3⟩, g4⟩, g5⟩, g6⟩ := h5
  simp [Cond.before, Cond.holds, Cond.value, h1, h2, h3, h4, g1, g2, g3, g4, g5, g6]
def isCode : Jvm.Cond → Bool
  | .code _ _ _ _ => true
  | _ => false
theorem all_split {L : List Jvm.Cond} {P : Jvm.Cond → Bool} (h1 : L.all (fun c => isCode c || P c) = true) (h2 : ∀ c ∈ L.filter isCode, P c = true) : L.all P = true := by
  refine List.all_eq_true.mpr fun c hc => ?_
  have h := List.all_eq_true.mp h1 c hc
  rcases Bool.eq_false_or_eq_true (isCode c) with hi | hi
  · exact h2 c (List.mem_filter.mpr ⟨hc, hi⟩)
  · simpa [hi] using h
set_option maxRecDepth 65536 in
theorem w_c0 : (Jvm.Cond.code x code maxLocals ret).before args0 about1 = true := code_word (m := ⟨1, 2⟩) (meth := k1m2) (c := k1c2) (by decide +kernel) rfl rfl rfl (by decide +kernel)
set_option maxRecDepth 65536 in
theorem w_c1 : (Jvm.Cond.code ({ cls := "com/example/vestwright/vestwright/actuarial/MortalityTableMaximumAgePinLaw", name := "rates", desc := "(I)[D" } : Jvm.MethodName) method_2_code (1 : Nat) (Option.some (Jvm.ClassFile.FieldType.array Jvm.ClassFile.FieldType.double))).before args0 about1 = true := code_word (m := ⟨1, 1⟩) (meth := k1m1) (c := k1c1) (by decide +kernel) rfl rfl rfl (by decide +kernel)
set_option maxRecDepth 65536 in
theorem w_c2 : (Jvm.Cond.code ({ cls := "com/example/vestwright/vestwright/actuarial/MortalityTable", name := "<init>", desc := "(Ljava/lang/String;I[D)V" } : Jvm.MethodName) prog_4_method_1_code (4 : Nat) (Option.none : Option Jvm.ClassFile.FieldType)).before args0 about1 = true := code_word (m := ⟨2, 0⟩) (meth := k2m0) (c := k2c0) (by decide +kernel) rfl rfl rfl (by decide +kernel)
set_option maxRecDepth 65536 in
theorem w_c3 : (Jvm.Cond.code ({ cls := "java/lang/Object", name := "<init>", desc := "()V" } : Jvm.MethodName) object_method_1_code (1 : Nat) (Option.none : Option Jvm.ClassFile.FieldType)).before args0 about1 = true := code_word (m := ⟨0, 0⟩) (meth := k0m0) (c := k0c0) (by decide +kernel) rfl rfl rfl (by decide +kernel)
set_option maxRecDepth 65536 in
theorem w_c4 : (Jvm.Cond.code ({ cls := "com/example/vestwright/vestwright/actuarial/MortalityTable", name := "maximumAge", desc := "()I" } : Jvm.MethodName) prog_4_method_4_code (1 : Nat) (Option.some Jvm.ClassFile.FieldType.int)).before args0 about1 = true := code_word (m := ⟨2, 1⟩) (meth := k2m1) (c := k2c1) (by decide +kernel) rfl rfl rfl (by decide +kernel)
set_option maxRecDepth 65536 in
theorem w_c5 : (Jvm.Cond.code ({ cls := "com/example/vestwright/vestwright/actuarial/MortalityTable", name := "probabilityOfDeath", desc := "(I)D" } : Jvm.MethodName) prog_4_method_5_code (2 : Nat) (Option.some Jvm.ClassFile.FieldType.double)).before args0 about1 = true := code_word (m := ⟨2, 2⟩) (meth := k2m2) (c := k2c2) (by decide +kernel) rfl rfl rfl (by decide +kernel)
set_option maxRecDepth 65536 in
theorem w_c6 : (Jvm.Cond.code ({ cls := "com/example/vestwright/vestwright/actuarial/MortalityTable", name := "checkAge", desc := "(ILjava/lang/String;)V" } : Jvm.MethodName) prog_4_method_6_code (3 : Nat) (Option.none : Option Jvm.ClassFile.FieldType)).before args0 about1 = true := code_word (m := ⟨2, 3⟩) (meth := k2m3) (c := k2c3) (by decide +kernel) rfl rfl rfl (by decide +kernel)
def codes1 : List Jvm.Cond := [Jvm.Cond.code x code maxLocals ret, Jvm.Cond.code ({ cls := "com/example/vestwright/vestwright/actuarial/MortalityTableMaximumAgePinLaw", name := "rates", desc := "(I)[D" } : Jvm.MethodName) method_2_code (1 : Nat) (Option.some (Jvm.ClassFile.FieldType.array Jvm.ClassFile.FieldType.double)), Jvm.Cond.code ({ cls := "com/example/vestwright/vestwright/actuarial/MortalityTable", name := "<init>", desc := "(Ljava/lang/String;I[D)V" } : Jvm.MethodName) prog_4_method_1_code (4 : Nat) (Option.none : Option Jvm.ClassFile.FieldType), Jvm.Cond.code ({ cls := "java/lang/Object", name := "<init>", desc := "()V" } : Jvm.MethodName) object_method_1_code (1 : Nat) (Option.none : Option Jvm.ClassFile.FieldType), Jvm.Cond.code ({ cls := "com/example/vestwright/vestwright/actuarial/MortalityTable", name := "maximumAge", desc := "()I" } : Jvm.MethodName) prog_4_method_4_code (1 : Nat) (Option.some Jvm.ClassFile.FieldType.int), Jvm.Cond.code ({ cls := "com/example/vestwright/vestwright/actuarial/MortalityTable", name := "probabilityOfDeath", desc := "(I)D" } : Jvm.MethodName) prog_4_method_5_code (2 : Nat) (Option.some Jvm.ClassFile.FieldType.double), Jvm.Cond.code ({ cls := "com/example/vestwright/vestwright/actuarial/MortalityTable", name := "checkAge", desc := "(ILjava/lang/String;)V" } : Jvm.MethodName) prog_4_method_6_code (3 : Nat) (Option.none : Option Jvm.ClassFile.FieldType)]
set_option maxRecDepth 65536 in
theorem codes_eq : words1.filter isCode = codes1 := rfl
theorem w_codes : ∀ c ∈ words1.filter isCode, c.before args0 about1 = true := by
  rw [codes_eq]
  intro c hc
  simp only [codes1, List.mem_cons, List.not_mem_nil, or_false] at hc
  rcases hc with rfl | rfl | rfl | rfl | rfl | rfl | rfl
  · exact w_c0
  · exact w_c1
  · exact w_c2
  · exact w_c3
  · exact w_c4
  · exact w_c5
  · exact w_c6
set_option maxRecDepth 65536 in
theorem w_t1 : (words1.take 24).all (fun c => isCode c || c.before args0 about1) = true := by decide +kernel
set_option maxRecDepth 65536 in
theorem w_t2 : ((words1.drop 24).take 24).all (fun c => isCode c || c.before args0 about1) = true := by decide +kernel
set_option maxRecDepth 65536 in
theorem w_t3 : ((words1.drop 24).drop 24).all (fun c => isCode c || c.before args0 about1) = true := by decide +kernel
theorem w_tables : (allAtoms (Jvm.Cond.code x code maxLocals ret :: tables_1)).before args0 about1 = true := by
  rw [allAtoms_all]
  show words1.all (fun c => c.before args0 about1) = true
  refine all_split ?_ w_codes
  rw [← List.take_append_drop 24 words1, List.all_append, w_t1, ← List.take_append_drop 24 (words1.drop 24), List.all_append, w_t2, w_t3]
  rfl
set_option maxRecDepth 65536 in
theorem w_case : (Jvm.Cond.and given_1 narrow_1).before args0 about1 = true := by decide +kernel
theorem w_applies : (headSpec (Jvm.Cond.code x code maxLocals ret :: tables_1) room_1).applies x e0.platform about1 = true :=
  (Spec.applies_iff w_frames).mpr ⟨w_running, w_runnable, w_alone, w_named, w_hears, w_ripe, w_room, w_tables⟩
theorem atStart : AtStart classFile x code maxLocals ret World_1 tables_1 room_1 Calls_1 rest_1 Pre_1 launch0 p0 e0 about1 theMethod args0 below0 :=
  ⟨lists_1, trivial, launch0.admits_env _ _ _, launch0.least_env, fairChoices_fair.cas, fairChoices_fair.clock, w_frames, w_args, w_heap, w_applies, trivial, trivial, w_case⟩
end start1
theorem witness_1 : WitnessClaimed_1 := ⟨start1.p0, start1.e0, start1.about1, start1.theMethod, start1.args0, start1.below0, start1.atStart⟩
end Jvm.Pilot.@@N@@
