import JvmDerived
import JvmDerived.Pilot.@@N@@Statement
import JvmDerived.Pilot.@@N@@Code
set_option linter.unusedVariables false
set_option linter.unusedSimpArgs false

namespace Jvm.RoadKit
open Sem ClassFile Op Lib Jvm.Stand Jvm.Free Jvm.LawKit
section New
variable {p : Program} {l : Launch} {e : Env} {R : Room} {s : State} {m : MethodId} {args : Array Value} {below : List Frame} {meth : Method} {c : Code} {T : State} {locs : List Loc} {cells slots : Nat}
theorem retI (X : Stand p l e R s m args below meth c T locs cells slots) (hx : p.tables.exec = Jvm.exec) {pc : Nat} {Ls : Array Slot} {z : Int32} {rest : List Value} (hret : meth.sig.returnType = some .int) (hd : decode c.code pc = .ok (.ireturn, 1)) {fs : List Frame}
    (hl : ∀ (f : JFrame) (acts : List Action), f.method = m → f.locked = none → f.entered = [] → (doReturn e (T.setTop f) acts (some (.int z))).1 = T.setFrames fs) : Steps p.tables e below (T.setTop (mkF m pc Ls (.int z :: rest))) (T.setFrames fs) := by
  have hm' : T.vm.method? m = some meth := X.method'
  have hn : narrow .int (.int z) = .int z := rfl
  show Steps p.tables e below (T.setTop { method := m, pc := pc, locals := Ls, stack := _ :: rest, locked := none }) _
  jvm_step X.here [X.here.top, hx, hd, hm', hret, hn]
  first | (intro acts; rw [hl _ acts rfl rfl rfl]) | rw [hl _ _ rfl rfl rfl]
  exact Steps.refl _
end New
end Jvm.RoadKit
namespace Jvm.Pilot.@@N@@
open Jvm Jvm.ClassFile Sem Op Lib Jvm.Free Jvm.Stand Jvm.LawKit Jvm.RoadKit Bundle Jvm.Pilot.@@N@@.Jvm.D
/-- from S0 the run comes to T with the frame g on top -/
abbrev Pth (p : Program) (e : Env) (below : List Frame) (S0 T : State) (g : JFrame) : Prop := ∀ t, Steps p.tables e below (T.setTop g) t → Steps p.tables e below S0 t
theorem ef_may (m : MethodId) (x0 : Int32)  : entryFrame m #[(.int x0)] 1 = mkF m 0 #[.val (.int x0)] [] := by first | (simp [entryFrame, mkF, argsToLocals, Value.category]; done) | rfl
theorem pn_com_example_sheaf_sheaf_cbor_MajorType : plainName "com/example/sheaf/sheaf/cbor/MajorType" = true := by first | (simp [plainName, overriddenIn]; done) | decide +kernel
theorem d_may_0 : decode prog_19_method_4_code 0 = .ok (.iload_n 0, 1) := by decide +kernel
theorem d_may_1 : decode prog_19_method_4_code 1 = .ok (.iconst 2, 1) := by decide +kernel
theorem d_may_2 : decode prog_19_method_4_code 2 = .ok (.if_icmp .lt 12, 3) := by decide +kernel
theorem d_may_14 : decode prog_19_method_4_code 14 = .ok (.iconst 0, 1) := by decide +kernel
theorem d_may_15 : decode prog_19_method_4_code 15 = .ok (.ireturn, 1) := by decide +kernel
theorem d_may_5 : decode prog_19_method_4_code 5 = .ok (.iload_n 0, 1) := by decide +kernel
theorem d_may_6 : decode prog_19_method_4_code 6 = .ok (.iconst 5, 1) := by decide +kernel
theorem d_may_7 : decode prog_19_method_4_code 7 = .ok (.if_icmp .gt 7, 3) := by decide +kernel
theorem d_may_10 : decode prog_19_method_4_code 10 = .ok (.iconst 1, 1) := by decide +kernel
theorem d_may_11 : decode prog_19_method_4_code 11 = .ok (.goto 4, 3) := by decide +kernel
theorem ef_law (m : MethodId) (x0 : Int32)  : entryFrame m #[(.int x0)] maxLocals = mkF m 0 #[.val (.int x0), .unset, .unset] [] := by first | (simp [entryFrame, mkF, argsToLocals, Value.category, maxLocals]; done) | rfl
theorem pn_com_example_sheaf_sheaf_cbor_MajorTypeMayBeIndefinitePinLaw : plainName "com/example/sheaf/sheaf/cbor/MajorTypeMayBeIndefinitePinLaw" = true := by first | (simp [plainName, overriddenIn]; done) | decide +kernel
theorem pd__I_Z : parseMethodDescriptor "(I)Z" = some ⟨[.int], some .boolean⟩ := by decide +kernel
def own_f (p : Int32) : Int32 := if p < 2 then 0 else if 5 < p then 0 else 1
theorem own_last {x m : Int32} (h : m = x &&& 7) (k0 : ¬ m = 0) (k1 : ¬ m = 1) (k2 : ¬ m = 2) (k3 : ¬ m = 3) (k4 : ¬ m = 4) (k5 : ¬ m = 5) (k6 : ¬ m = 6) : m = 7 := by
  have hb : m.toBitVec.toNat ≤ 7 := by
    rw [h, Int32.toBitVec_and, BitVec.toNat_and]
    exact Nat.and_le_right
  have nb : ∀ k : Int32, ¬ m = k → m.toBitVec.toNat ≠ k.toBitVec.toNat := fun k hk e => hk (Int32.toBitVec_inj.mp (BitVec.eq_of_toNat_eq e))
  have e0 := nb 0 k0; have e1 := nb 1 k1; have e2 := nb 2 k2; have e3 := nb 3 k3; have e4 := nb 4 k4; have e5 := nb 5 k5; have e6 := nb 6 k6
  apply Int32.toBitVec_inj.mp; apply BitVec.eq_of_toNat_eq
  have z0 : (0 : Int32).toBitVec.toNat = 0 := rfl
  have z1 : (1 : Int32).toBitVec.toNat = 1 := rfl
  have z2 : (2 : Int32).toBitVec.toNat = 2 := rfl
  have z3 : (3 : Int32).toBitVec.toNat = 3 := rfl
  have z4 : (4 : Int32).toBitVec.toNat = 4 := rfl
  have z5 : (5 : Int32).toBitVec.toNat = 5 := rfl
  have z6 : (6 : Int32).toBitVec.toNat = 6 := rfl
  have z7 : (7 : Int32).toBitVec.toNat = 7 := rfl
  omega
def Q_may (Z : State) (p1 : Int32) (h0 : Heap) (n0 : Nat) (v : Option Value) (h : Heap) (L : List Loc) : Prop := v = some (.int (own_f p1)) ∧ Fr n0 L ∧ h = h0
set_option maxRecDepth 65536 in
set_option maxHeartbeats 40000000 in
theorem rm_may (l : Launch) (Z : State) (a0 : Array Value) (hw : ∀ d ∈ tables_1, d.before a0 Z = true) (ws : List Jvm.Cond) (p1 : Int32) (h0 : Heap) (n0 : Nat) (Z0 : n0 ≤ h0.size)  :
    MetFree l (⟨"com/example/sheaf/sheaf/cbor/MajorType", "mayBeIndefinite", "(I)Z"⟩ : MethodName) (head1 (Jvm.Cond.code (⟨"com/example/sheaf/sheaf/cbor/MajorType", "mayBeIndefinite", "(I)Z"⟩ : MethodName) prog_19_method_4_code 1 (some .boolean) :: ws) ({ frames := 0, cells := 0, slots := 0, locals := 0 } : Room)) (fun a U => a = #[(.int p1)] ∧ Z.Warmed39 U.vm ∧ U.heap = h0) (fun _ _ _ _ _ => True) (fun _ U o U' => ∃ v L, o = .returned v ∧ Q_may Z p1 h0 n0 v U'.heap L ∧ FrameEnd U o U' L ({ frames := 0, cells := 0, slots := 0, locals := 0 } : Room).cells ({ frames := 0, cells := 0, slots := 0, locals := 0 } : Room).slots) := by
  refine MetFree.of_bodySF (plainFor_of_name pn_com_example_sheaf_sheaf_cbor_MajorType) hisR ?_
  intro p e s m args below meth c s₁ Bd hml0 hP hK
  obtain ⟨rfl, hZ, hh⟩ := hP
  have hx := Bd.exec
  have hby := Bd.bytes
  have hml : c.maxLocals = 1 := hml0
  have hown : s.vm.findClass "com/example/sheaf/sheaf/cbor/MajorType" = some m.cls := findClass_of_methodNamed Bd.named
  have hnm := (name_of_methodNamed Bd.named Bd.method).1
  have X0 : Stand p l e ({ frames := 0, cells := 0, slots := 0, locals := 0 } : Room) s m #[(.int p1)] below meth c s₁ [] 0 0 := Stand.of_body Bd
  have e0 : s₁.heap = h0 := by rw [← hh, Bd.state]; rfl
  have N0 := Fr.nil n0
  obtain ⟨S0, hS0⟩ : ∃ S0, S0 = s₁.setTop (entryFrame m #[(.int p1)] 1) := ⟨_, rfl⟩
  have pre : Pth p e below S0 s₁ (mkF m 0 #[.val (.int p1)] []) := fun t k => by rw [hS0]; exact castTop (ef_may m p1) k
  replace pre : Pth p e below S0 s₁ (mkF m 2 #[.val (.int p1)] [(.int (2 : Int32)), (.int p1)]) := fun t k => pre t (by
    show Steps p.tables e below (s₁.setTop (mkF m 0 #[.val (.int p1)] [])) t
    refine XS.iloadN X0.here hx rfl (hb hby d_may_0) rfl ?_
    show Steps p.tables e below (s₁.setTop (mkF m 1 #[.val (.int p1)] [(.int p1)])) t
    refine XS.iconst X0.here hx rfl (hb hby d_may_1) ?_
    show Steps p.tables e below (s₁.setTop (mkF m 2 #[.val (.int p1)] [(.int (2 : Int32)), (.int p1)])) t
    exact k)
  by_cases h1 : p1 < (2 : Int32)
  · replace pre : Pth p e below S0 s₁ (mkF m 15 #[.val (.int p1)] [(.int (0 : Int32))]) := fun t k => pre t (by
      show Steps p.tables e below (s₁.setTop (mkF m 2 #[.val (.int p1)] [(.int (2 : Int32)), (.int p1)])) t
      refine XS.icmpYes X0.here hx rfl (pc0 := 2) (pc' := 14) rfl (hb hby d_may_2) rfl (XT.ii_lt_t h1) (by decide) (by decide) ?_
      show Steps p.tables e below (s₁.setTop (mkF m 14 #[.val (.int p1)] [])) t
      refine XS.iconst X0.here hx rfl (hb hby d_may_14) ?_
      show Steps p.tables e below (s₁.setTop (mkF m 15 #[.val (.int p1)] [(.int (0 : Int32))])) t
      exact k)
    obtain ⟨fs, hr, hrun, hended, hW, hsame⟩ := X0.leave (v := some (.int (0 : Int32))) (fun h => by rw [Bd.returns] at h; cases h)
    subst hS0
    refine ⟨_, _, pre _ ?_, hrun, hended, _, _, rfl, ?_, ⟨_, rfl⟩, hW, hsame.mono (by decide) (by decide)⟩
    · exact retN X0 hx (t := .boolean) Bd.returns (by simp) (hb hby d_may_15) hr
    · show Q_may Z p1 h0 n0 _ s₁.heap _
      rw [e0]
      exact ⟨by simp [own_f, h1], N0, rfl⟩
  · replace pre : Pth p e below S0 s₁ (mkF m 7 #[.val (.int p1)] [(.int (5 : Int32)), (.int p1)]) := fun t k => pre t (by
      show Steps p.tables e below (s₁.setTop (mkF m 2 #[.val (.int p1)] [(.int (2 : Int32)), (.int p1)])) t
      refine XS.icmpNo X0.here hx rfl (hb hby d_may_2) rfl (XT.ii_lt_f h1) ?_
      show Steps p.tables e below (s₁.setTop (mkF m 5 #[.val (.int p1)] [])) t
      refine XS.iloadN X0.here hx rfl (hb hby d_may_5) rfl ?_
      show Steps p.tables e below (s₁.setTop (mkF m 6 #[.val (.int p1)] [(.int p1)])) t
      refine XS.iconst X0.here hx rfl (hb hby d_may_6) ?_
      show Steps p.tables e below (s₁.setTop (mkF m 7 #[.val (.int p1)] [(.int (5 : Int32)), (.int p1)])) t
      exact k)
    by_cases h2 : (5 : Int32) < p1
    · replace pre : Pth p e below S0 s₁ (mkF m 15 #[.val (.int p1)] [(.int (0 : Int32))]) := fun t k => pre t (by
        show Steps p.tables e below (s₁.setTop (mkF m 7 #[.val (.int p1)] [(.int (5 : Int32)), (.int p1)])) t
        refine XS.icmpYes X0.here hx rfl (pc0 := 7) (pc' := 14) rfl (hb hby d_may_7) rfl (XT.ii_gt_t h2) (by decide) (by decide) ?_
        show Steps p.tables e below (s₁.setTop (mkF m 14 #[.val (.int p1)] [])) t
        refine XS.iconst X0.here hx rfl (hb hby d_may_14) ?_
        show Steps p.tables e below (s₁.setTop (mkF m 15 #[.val (.int p1)] [(.int (0 : Int32))])) t
        exact k)
      obtain ⟨fs, hr, hrun, hended, hW, hsame⟩ := X0.leave (v := some (.int (0 : Int32))) (fun h => by rw [Bd.returns] at h; cases h)
      subst hS0
      refine ⟨_, _, pre _ ?_, hrun, hended, _, _, rfl, ?_, ⟨_, rfl⟩, hW, hsame.mono (by decide) (by decide)⟩
      · exact retN X0 hx (t := .boolean) Bd.returns (by simp) (hb hby d_may_15) hr
      · show Q_may Z p1 h0 n0 _ s₁.heap _
        rw [e0]
        exact ⟨by simp [own_f, h1, h2], N0, rfl⟩
    · replace pre : Pth p e below S0 s₁ (mkF m 15 #[.val (.int p1)] [(.int (1 : Int32))]) := fun t k => pre t (by
        show Steps p.tables e below (s₁.setTop (mkF m 7 #[.val (.int p1)] [(.int (5 : Int32)), (.int p1)])) t
        refine XS.icmpNo X0.here hx rfl (hb hby d_may_7) rfl (XT.ii_gt_f h2) ?_
        show Steps p.tables e below (s₁.setTop (mkF m 10 #[.val (.int p1)] [])) t
        refine XS.iconst X0.here hx rfl (hb hby d_may_10) ?_
        show Steps p.tables e below (s₁.setTop (mkF m 11 #[.val (.int p1)] [(.int (1 : Int32))])) t
        refine XS.goto X0.here hx rfl (pc0 := 11) (pc' := 15) rfl (hb hby d_may_11) (by decide) (by decide) ?_
        show Steps p.tables e below (s₁.setTop (mkF m 15 #[.val (.int p1)] [(.int (1 : Int32))])) t
        exact k)
      obtain ⟨fs, hr, hrun, hended, hW, hsame⟩ := X0.leave (v := some (.int (1 : Int32))) (fun h => by rw [Bd.returns] at h; cases h)
      subst hS0
      refine ⟨_, _, pre _ ?_, hrun, hended, _, _, rfl, ?_, ⟨_, rfl⟩, hW, hsame.mono (by decide) (by decide)⟩
      · exact retN X0 hx (t := .boolean) Bd.returns (by simp) (hb hby d_may_15) hr
      · show Q_may Z p1 h0 n0 _ s₁.heap _
        rw [e0]
        exact ⟨by simp [own_f, h1, h2], N0, rfl⟩
def Q_law (Z : State) (p0 : Int32) (h0 : Heap) (n0 : Nat) (v : Option Value) (h : Heap) (L : List Loc) : Prop := v = some (.int 1) ∧ Fr n0 L
set_option maxRecDepth 65536 in
set_option maxHeartbeats 40000000 in
theorem rm_law (l : Launch) (Z : State) (a0 : Array Value) (hw : ∀ d ∈ tables_1, d.before a0 Z = true) (ws : List Jvm.Cond) (p0 : Int32) (h0 : Heap) (n0 : Nat) (Z0 : n0 ≤ h0.size)  :
    MetFree l x (head1 (Jvm.Cond.code x code maxLocals ret :: ws) room_1) (fun a U => a = #[(.int p0)] ∧ Z.Warmed39 U.vm ∧ U.heap = h0) (fun _ _ _ _ _ => True) (fun _ U o U' => ∃ v L, o = .returned v ∧ Q_law Z p0 h0 n0 v U'.heap L ∧ FrameEnd U o U' L room_1.cells room_1.slots) := by
  refine MetFree.of_bodySF (plainFor_of_name pn_com_example_sheaf_sheaf_cbor_MajorTypeMayBeIndefinitePinLaw) hisR ?_
  intro p e s m args below meth c s₁ Bd hml0 hP hK
  obtain ⟨rfl, hZ, hh⟩ := hP
  have hx := Bd.exec
  have hby := Bd.bytes
  have hml : c.maxLocals = 3 := hml0
  have hown : s.vm.findClass "com/example/sheaf/sheaf/cbor/MajorTypeMayBeIndefinitePinLaw" = some m.cls := findClass_of_methodNamed Bd.named
  have hnm := (name_of_methodNamed Bd.named Bd.method).1
  have X0 : Stand p l e room_1 s m #[(.int p0)] below meth c s₁ [] 0 0 := Stand.of_body Bd
  have e0 : s₁.heap = h0 := by rw [← hh, Bd.state]; rfl
  have N0 := Fr.nil n0
  obtain ⟨S0, hS0⟩ : ∃ S0, S0 = s₁.setTop (entryFrame m #[(.int p0)] maxLocals) := ⟨_, rfl⟩
  have pre : Pth p e below S0 s₁ (mkF m 0 #[.val (.int p0), .unset, .unset] []) := fun t k => by rw [hS0]; exact castTop (ef_law m p0) k
  replace pre : Pth p e below S0 s₁ (mkF m 5 #[.val (.int p0), .val (.int (p0 &&& (7 : Int32))), .unset] []) := fun t k => pre t (by
    show Steps p.tables e below (s₁.setTop (mkF m 0 #[.val (.int p0), .unset, .unset] [])) t
    refine XS.iloadN X0.here hx rfl (hb hby at_0) rfl ?_
    show Steps p.tables e below (s₁.setTop (mkF m 1 #[.val (.int p0), .unset, .unset] [(.int p0)])) t
    refine XS.bipush X0.here hx rfl (hb hby at_1) ?_
    show Steps p.tables e below (s₁.setTop (mkF m 3 #[.val (.int p0), .unset, .unset] [(.int (7 : Int32)), (.int p0)])) t
    refine XS.iand X0.here hx rfl (hb hby at_3) rfl ?_
    show Steps p.tables e below (s₁.setTop (mkF m 4 #[.val (.int p0), .unset, .unset] [(.int (p0 &&& (7 : Int32)))])) t
    refine XS.istoreN X0.here hx rfl (hb hby at_4) rfl (l' := #[.val (.int p0), .val (.int (p0 &&& (7 : Int32))), .unset]) rfl ?_
    show Steps p.tables e below (s₁.setTop (mkF m 5 #[.val (.int p0), .val (.int (p0 &&& (7 : Int32))), .unset] [])) t
    exact k)
  obtain ⟨mm, hm⟩ : ∃ z : Int32, z = (p0 &&& (7 : Int32)) := ⟨_, rfl⟩
  rw [← hm] at pre
  replace pre : Pth p e below S0 s₁ (mkF m 6 #[.val (.int p0), .val (.int mm), .unset] [(.int mm)]) := fun t k => pre t (by
    show Steps p.tables e below (s₁.setTop (mkF m 5 #[.val (.int p0), .val (.int mm), .unset] [])) t
    refine XS.iloadN X0.here hx rfl (hb hby at_5) rfl ?_
    show Steps p.tables e below (s₁.setTop (mkF m 6 #[.val (.int p0), .val (.int mm), .unset] [(.int mm)])) t
    exact k)
  by_cases k0 : mm = (0 : Int32)
  · replace pre : Pth p e below S0 s₁ (mkF m 78 #[.val (.int p0), .val (.int mm), .val (.int (0 : Int32))] [(.int mm)]) := fun t k => pre t (by
      show Steps p.tables e below (s₁.setTop (mkF m 6 #[.val (.int p0), .val (.int mm), .unset] [(.int mm)])) t
      refine XS.ifNo X0.here hx rfl (hb hby at_6) rfl (XT.i0_ne_f k0) ?_
      show Steps p.tables e below (s₁.setTop (mkF m 9 #[.val (.int p0), .val (.int mm), .unset] [])) t
      refine XS.iconst X0.here hx rfl (hb hby at_9) ?_
      show Steps p.tables e below (s₁.setTop (mkF m 10 #[.val (.int p0), .val (.int mm), .unset] [(.int (0 : Int32))])) t
      refine XS.istoreN X0.here hx rfl (hb hby at_10) rfl (l' := #[.val (.int p0), .val (.int mm), .val (.int (0 : Int32))]) rfl ?_
      show Steps p.tables e below (s₁.setTop (mkF m 11 #[.val (.int p0), .val (.int mm), .val (.int (0 : Int32))] [])) t
      refine XS.goto X0.here hx rfl (pc0 := 11) (pc' := 77) rfl (hb hby at_11) (by decide) (by decide) ?_
      show Steps p.tables e below (s₁.setTop (mkF m 77 #[.val (.int p0), .val (.int mm), .val (.int (0 : Int32))] [])) t
      refine XS.iloadN X0.here hx rfl (hb hby at_77) rfl ?_
      show Steps p.tables e below (s₁.setTop (mkF m 78 #[.val (.int p0), .val (.int mm), .val (.int (0 : Int32))] [(.int mm)])) t
      exact k)
    obtain ⟨_, _, ⟨T1, L1, k1, n1⟩, -, X1, ⟨Lc1, hQ1, l1, y1, z1⟩, st1⟩ := Jvm.LawKit.callS X0 hx (y := (⟨"com/example/sheaf/sheaf/cbor/MajorType", "mayBeIndefinite", "(I)Z"⟩ : MethodName)) hown (mvT hZ (hw _ (List.mem_of_getElem? (i := 0) rfl))) (mvT hZ (hw _ (List.mem_of_getElem? (i := 1) rfl))) (mvT hZ (hw _ (List.mem_of_getElem? (i := 2) rfl))) (mvT hZ (hw _ (List.mem_of_getElem? (i := 3) rfl))) (by decide) (backOf (W := 0) (rm_may l Z a0 hw [] mm h0 n0 Z0) hZ (hw _ (List.mem_of_getElem? (i := 3) rfl)) (hw _ (List.mem_of_getElem? (i := 2) rfl)) (by decide) (by decide)) (g := (mkF m 78 #[.val (.int p0), .val (.int mm), .val (.int (0 : Int32))] [(.int mm)])) rfl (by rw [hml]; rfl) (argsL := [(.int mm)]) (rest := []) (lenOf pd__I_Z rfl) rfl (by show 2 * 0 + _ ≤ _; exact Nat.le_of_eq rfl) (hb hby at_78) (fun _ _ => ⟨rfl, e0, (by decide : 0 + 0 ≤ _), (by decide : 0 + 0 ≤ _)⟩)
    dsimp only [Pt.U, Pt.locs, Pt.cells, Pt.slots] at X1 l1 y1 z1 st1 hQ1
    subst l1 y1 z1
    obtain ⟨rfl, N1q, e1⟩ := hQ1
    have N1 := Fr.app N0 N1q
    replace pre : Pth p e below S0 T1 (mkF m 81 #[.val (.int p0), .val (.int mm), .val (.int (0 : Int32))] [(.int (own_f mm))]) := fun t k => pre t (st1 _ k)
    replace pre : Pth p e below S0 T1 (mkF m 90 #[.val (.int p0), .val (.int mm), .val (.int (0 : Int32))] [(.int (1 : Int32))]) := fun t k => pre t (by
      show Steps p.tables e below (T1.setTop (mkF m 81 #[.val (.int p0), .val (.int mm), .val (.int (0 : Int32))] [(.int (own_f mm))])) t
      refine XS.iloadN X1.here hx rfl (hb hby at_81) rfl ?_
      show Steps p.tables e below (T1.setTop (mkF m 82 #[.val (.int p0), .val (.int mm), .val (.int (0 : Int32))] [(.int (0 : Int32)), (.int (own_f mm))])) t
      refine XS.icmpNo X1.here hx rfl (hb hby at_82) rfl (XT.ii_ne_f (by rw [k0]; decide)) ?_
      show Steps p.tables e below (T1.setTop (mkF m 85 #[.val (.int p0), .val (.int mm), .val (.int (0 : Int32))] [])) t
      refine XS.iconst X1.here hx rfl (hb hby at_85) ?_
      show Steps p.tables e below (T1.setTop (mkF m 86 #[.val (.int p0), .val (.int mm), .val (.int (0 : Int32))] [(.int (1 : Int32))])) t
      refine XS.goto X1.here hx rfl (pc0 := 86) (pc' := 90) rfl (hb hby at_86) (by decide) (by decide) ?_
      show Steps p.tables e below (T1.setTop (mkF m 90 #[.val (.int p0), .val (.int mm), .val (.int (0 : Int32))] [(.int (1 : Int32))])) t
      exact k)
    obtain ⟨fs, hr, hrun, hended, hW, hsame⟩ := X1.leave (v := some (.int (1 : Int32))) (fun h => by rw [Bd.returns] at h; cases h)
    subst hS0
    refine ⟨_, _, pre _ ?_, hrun, hended, _, _, rfl, ?_, ⟨_, rfl⟩, hW, hsame.mono (by decide) (by decide)⟩
    · exact retN X1 hx (t := .boolean) Bd.returns (by simp) (hb hby at_90) hr
    · show Q_law Z p0 h0 n0 _ T1.heap _
      rw [e1]
      exact ⟨rfl, N1⟩
  · replace pre : Pth p e below S0 s₁ (mkF m 16 #[.val (.int p0), .val (.int mm), .unset] [(.int (1 : Int32)), (.int mm)]) := fun t k => pre t (by
      show Steps p.tables e below (s₁.setTop (mkF m 6 #[.val (.int p0), .val (.int mm), .unset] [(.int mm)])) t
      refine XS.ifYes X0.here hx rfl (pc0 := 6) (pc' := 14) rfl (hb hby at_6) rfl (XT.i0_ne_t k0) (by decide) (by decide) ?_
      show Steps p.tables e below (s₁.setTop (mkF m 14 #[.val (.int p0), .val (.int mm), .unset] [])) t
      refine XS.iloadN X0.here hx rfl (hb hby at_14) rfl ?_
      show Steps p.tables e below (s₁.setTop (mkF m 15 #[.val (.int p0), .val (.int mm), .unset] [(.int mm)])) t
      refine XS.iconst X0.here hx rfl (hb hby at_15) ?_
      show Steps p.tables e below (s₁.setTop (mkF m 16 #[.val (.int p0), .val (.int mm), .unset] [(.int (1 : Int32)), (.int mm)])) t
      exact k)
    by_cases k1 : mm = (1 : Int32)
    · replace pre : Pth p e below S0 s₁ (mkF m 78 #[.val (.int p0), .val (.int mm), .val (.int (0 : Int32))] [(.int mm)]) := fun t k => pre t (by
        show Steps p.tables e below (s₁.setTop (mkF m 16 #[.val (.int p0), .val (.int mm), .unset] [(.int (1 : Int32)), (.int mm)])) t
        refine XS.icmpNo X0.here hx rfl (hb hby at_16) rfl (XT.ii_ne_f k1) ?_
        show Steps p.tables e below (s₁.setTop (mkF m 19 #[.val (.int p0), .val (.int mm), .unset] [])) t
        refine XS.iconst X0.here hx rfl (hb hby at_19) ?_
        show Steps p.tables e below (s₁.setTop (mkF m 20 #[.val (.int p0), .val (.int mm), .unset] [(.int (0 : Int32))])) t
        refine XS.istoreN X0.here hx rfl (hb hby at_20) rfl (l' := #[.val (.int p0), .val (.int mm), .val (.int (0 : Int32))]) rfl ?_
        show Steps p.tables e below (s₁.setTop (mkF m 21 #[.val (.int p0), .val (.int mm), .val (.int (0 : Int32))] [])) t
        refine XS.goto X0.here hx rfl (pc0 := 21) (pc' := 77) rfl (hb hby at_21) (by decide) (by decide) ?_
        show Steps p.tables e below (s₁.setTop (mkF m 77 #[.val (.int p0), .val (.int mm), .val (.int (0 : Int32))] [])) t
        refine XS.iloadN X0.here hx rfl (hb hby at_77) rfl ?_
        show Steps p.tables e below (s₁.setTop (mkF m 78 #[.val (.int p0), .val (.int mm), .val (.int (0 : Int32))] [(.int mm)])) t
        exact k)
      obtain ⟨_, _, ⟨T2, L2, k2, n2⟩, -, X2, ⟨Lc2, hQ2, l2, y2, z2⟩, st2⟩ := Jvm.LawKit.callS X0 hx (y := (⟨"com/example/sheaf/sheaf/cbor/MajorType", "mayBeIndefinite", "(I)Z"⟩ : MethodName)) hown (mvT hZ (hw _ (List.mem_of_getElem? (i := 0) rfl))) (mvT hZ (hw _ (List.mem_of_getElem? (i := 1) rfl))) (mvT hZ (hw _ (List.mem_of_getElem? (i := 2) rfl))) (mvT hZ (hw _ (List.mem_of_getElem? (i := 3) rfl))) (by decide) (backOf (W := 0) (rm_may l Z a0 hw [] mm h0 n0 Z0) hZ (hw _ (List.mem_of_getElem? (i := 3) rfl)) (hw _ (List.mem_of_getElem? (i := 2) rfl)) (by decide) (by decide)) (g := (mkF m 78 #[.val (.int p0), .val (.int mm), .val (.int (0 : Int32))] [(.int mm)])) rfl (by rw [hml]; rfl) (argsL := [(.int mm)]) (rest := []) (lenOf pd__I_Z rfl) rfl (by show 2 * 0 + _ ≤ _; exact Nat.le_of_eq rfl) (hb hby at_78) (fun _ _ => ⟨rfl, e0, (by decide : 0 + 0 ≤ _), (by decide : 0 + 0 ≤ _)⟩)
      dsimp only [Pt.U, Pt.locs, Pt.cells, Pt.slots] at X2 l2 y2 z2 st2 hQ2
      subst l2 y2 z2
      obtain ⟨rfl, N2q, e2⟩ := hQ2
      have N2 := Fr.app N0 N2q
      replace pre : Pth p e below S0 T2 (mkF m 81 #[.val (.int p0), .val (.int mm), .val (.int (0 : Int32))] [(.int (own_f mm))]) := fun t k => pre t (st2 _ k)
      replace pre : Pth p e below S0 T2 (mkF m 90 #[.val (.int p0), .val (.int mm), .val (.int (0 : Int32))] [(.int (1 : Int32))]) := fun t k => pre t (by
        show Steps p.tables e below (T2.setTop (mkF m 81 #[.val (.int p0), .val (.int mm), .val (.int (0 : Int32))] [(.int (own_f mm))])) t
        refine XS.iloadN X2.here hx rfl (hb hby at_81) rfl ?_
        show Steps p.tables e below (T2.setTop (mkF m 82 #[.val (.int p0), .val (.int mm), .val (.int (0 : Int32))] [(.int (0 : Int32)), (.int (own_f mm))])) t
        refine XS.icmpNo X2.here hx rfl (hb hby at_82) rfl (XT.ii_ne_f (by rw [k1]; decide)) ?_
        show Steps p.tables e below (T2.setTop (mkF m 85 #[.val (.int p0), .val (.int mm), .val (.int (0 : Int32))] [])) t
        refine XS.iconst X2.here hx rfl (hb hby at_85) ?_
        show Steps p.tables e below (T2.setTop (mkF m 86 #[.val (.int p0), .val (.int mm), .val (.int (0 : Int32))] [(.int (1 : Int32))])) t
        refine XS.goto X2.here hx rfl (pc0 := 86) (pc' := 90) rfl (hb hby at_86) (by decide) (by decide) ?_
        show Steps p.tables e below (T2.setTop (mkF m 90 #[.val (.int p0), .val (.int mm), .val (.int (0 : Int32))] [(.int (1 : Int32))])) t
        exact k)
      obtain ⟨fs, hr, hrun, hended, hW, hsame⟩ := X2.leave (v := some (.int (1 : Int32))) (fun h => by rw [Bd.returns] at h; cases h)
      subst hS0
      refine ⟨_, _, pre _ ?_, hrun, hended, _, _, rfl, ?_, ⟨_, rfl⟩, hW, hsame.mono (by decide) (by decide)⟩
      · exact retN X2 hx (t := .boolean) Bd.returns (by simp) (hb hby at_90) hr
      · show Q_law Z p0 h0 n0 _ T2.heap _
        rw [e2]
        exact ⟨rfl, N2⟩
    · replace pre : Pth p e below S0 s₁ (mkF m 26 #[.val (.int p0), .val (.int mm), .unset] [(.int (2 : Int32)), (.int mm)]) := fun t k => pre t (by
        show Steps p.tables e below (s₁.setTop (mkF m 16 #[.val (.int p0), .val (.int mm), .unset] [(.int (1 : Int32)), (.int mm)])) t
        refine XS.icmpYes X0.here hx rfl (pc0 := 16) (pc' := 24) rfl (hb hby at_16) rfl (XT.ii_ne_t k1) (by decide) (by decide) ?_
        show Steps p.tables e below (s₁.setTop (mkF m 24 #[.val (.int p0), .val (.int mm), .unset] [])) t
        refine XS.iloadN X0.here hx rfl (hb hby at_24) rfl ?_
        show Steps p.tables e below (s₁.setTop (mkF m 25 #[.val (.int p0), .val (.int mm), .unset] [(.int mm)])) t
        refine XS.iconst X0.here hx rfl (hb hby at_25) ?_
        show Steps p.tables e below (s₁.setTop (mkF m 26 #[.val (.int p0), .val (.int mm), .unset] [(.int (2 : Int32)), (.int mm)])) t
        exact k)
      by_cases k2 : mm = (2 : Int32)
      · replace pre : Pth p e below S0 s₁ (mkF m 78 #[.val (.int p0), .val (.int mm), .val (.int (1 : Int32))] [(.int mm)]) := fun t k => pre t (by
          show Steps p.tables e below (s₁.setTop (mkF m 26 #[.val (.int p0), .val (.int mm), .unset] [(.int (2 : Int32)), (.int mm)])) t
          refine XS.icmpNo X0.here hx rfl (hb hby at_26) rfl (XT.ii_ne_f k2) ?_
          show Steps p.tables e below (s₁.setTop (mkF m 29 #[.val (.int p0), .val (.int mm), .unset] [])) t
          refine XS.iconst X0.here hx rfl (hb hby at_29) ?_
          show Steps p.tables e below (s₁.setTop (mkF m 30 #[.val (.int p0), .val (.int mm), .unset] [(.int (1 : Int32))])) t
          refine XS.istoreN X0.here hx rfl (hb hby at_30) rfl (l' := #[.val (.int p0), .val (.int mm), .val (.int (1 : Int32))]) rfl ?_
          show Steps p.tables e below (s₁.setTop (mkF m 31 #[.val (.int p0), .val (.int mm), .val (.int (1 : Int32))] [])) t
          refine XS.goto X0.here hx rfl (pc0 := 31) (pc' := 77) rfl (hb hby at_31) (by decide) (by decide) ?_
          show Steps p.tables e below (s₁.setTop (mkF m 77 #[.val (.int p0), .val (.int mm), .val (.int (1 : Int32))] [])) t
          refine XS.iloadN X0.here hx rfl (hb hby at_77) rfl ?_
          show Steps p.tables e below (s₁.setTop (mkF m 78 #[.val (.int p0), .val (.int mm), .val (.int (1 : Int32))] [(.int mm)])) t
          exact k)
        obtain ⟨_, _, ⟨T3, L3, k3, n3⟩, -, X3, ⟨Lc3, hQ3, l3, y3, z3⟩, st3⟩ := Jvm.LawKit.callS X0 hx (y := (⟨"com/example/sheaf/sheaf/cbor/MajorType", "mayBeIndefinite", "(I)Z"⟩ : MethodName)) hown (mvT hZ (hw _ (List.mem_of_getElem? (i := 0) rfl))) (mvT hZ (hw _ (List.mem_of_getElem? (i := 1) rfl))) (mvT hZ (hw _ (List.mem_of_getElem? (i := 2) rfl))) (mvT hZ (hw _ (List.mem_of_getElem? (i := 3) rfl))) (by decide) (backOf (W := 0) (rm_may l Z a0 hw [] mm h0 n0 Z0) hZ (hw _ (List.mem_of_getElem? (i := 3) rfl)) (hw _ (List.mem_of_getElem? (i := 2) rfl)) (by decide) (by decide)) (g := (mkF m 78 #[.val (.int p0), .val (.int mm), .val (.int (1 : Int32))] [(.int mm)])) rfl (by rw [hml]; rfl) (argsL := [(.int mm)]) (rest := []) (lenOf pd__I_Z rfl) rfl (by show 2 * 0 + _ ≤ _; exact Nat.le_of_eq rfl) (hb hby at_78) (fun _ _ => ⟨rfl, e0, (by decide : 0 + 0 ≤ _), (by decide : 0 + 0 ≤ _)⟩)
        dsimp only [Pt.U, Pt.locs, Pt.cells, Pt.slots] at X3 l3 y3 z3 st3 hQ3
        subst l3 y3 z3
        obtain ⟨rfl, N3q, e3⟩ := hQ3
        have N3 := Fr.app N0 N3q
        replace pre : Pth p e below S0 T3 (mkF m 81 #[.val (.int p0), .val (.int mm), .val (.int (1 : Int32))] [(.int (own_f mm))]) := fun t k => pre t (st3 _ k)
        replace pre : Pth p e below S0 T3 (mkF m 90 #[.val (.int p0), .val (.int mm), .val (.int (1 : Int32))] [(.int (1 : Int32))]) := fun t k => pre t (by
          show Steps p.tables e below (T3.setTop (mkF m 81 #[.val (.int p0), .val (.int mm), .val (.int (1 : Int32))] [(.int (own_f mm))])) t
          refine XS.iloadN X3.here hx rfl (hb hby at_81) rfl ?_
          show Steps p.tables e below (T3.setTop (mkF m 82 #[.val (.int p0), .val (.int mm), .val (.int (1 : Int32))] [(.int (1 : Int32)), (.int (own_f mm))])) t
          refine XS.icmpNo X3.here hx rfl (hb hby at_82) rfl (XT.ii_ne_f (by rw [k2]; decide)) ?_
          show Steps p.tables e below (T3.setTop (mkF m 85 #[.val (.int p0), .val (.int mm), .val (.int (1 : Int32))] [])) t
          refine XS.iconst X3.here hx rfl (hb hby at_85) ?_
          show Steps p.tables e below (T3.setTop (mkF m 86 #[.val (.int p0), .val (.int mm), .val (.int (1 : Int32))] [(.int (1 : Int32))])) t
          refine XS.goto X3.here hx rfl (pc0 := 86) (pc' := 90) rfl (hb hby at_86) (by decide) (by decide) ?_
          show Steps p.tables e below (T3.setTop (mkF m 90 #[.val (.int p0), .val (.int mm), .val (.int (1 : Int32))] [(.int (1 : Int32))])) t
          exact k)
        obtain ⟨fs, hr, hrun, hended, hW, hsame⟩ := X3.leave (v := some (.int (1 : Int32))) (fun h => by rw [Bd.returns] at h; cases h)
        subst hS0
        refine ⟨_, _, pre _ ?_, hrun, hended, _, _, rfl, ?_, ⟨_, rfl⟩, hW, hsame.mono (by decide) (by decide)⟩
        · exact retN X3 hx (t := .boolean) Bd.returns (by simp) (hb hby at_90) hr
        · show Q_law Z p0 h0 n0 _ T3.heap _
          rw [e3]
          exact ⟨rfl, N3⟩
      · replace pre : Pth p e below S0 s₁ (mkF m 36 #[.val (.int p0), .val (.int mm), .unset] [(.int (3 : Int32)), (.int mm)]) := fun t k => pre t (by
          show Steps p.tables e below (s₁.setTop (mkF m 26 #[.val (.int p0), .val (.int mm), .unset] [(.int (2 : Int32)), (.int mm)])) t
          refine XS.icmpYes X0.here hx rfl (pc0 := 26) (pc' := 34) rfl (hb hby at_26) rfl (XT.ii_ne_t k2) (by decide) (by decide) ?_
          show Steps p.tables e below (s₁.setTop (mkF m 34 #[.val (.int p0), .val (.int mm), .unset] [])) t
          refine XS.iloadN X0.here hx rfl (hb hby at_34) rfl ?_
          show Steps p.tables e below (s₁.setTop (mkF m 35 #[.val (.int p0), .val (.int mm), .unset] [(.int mm)])) t
          refine XS.iconst X0.here hx rfl (hb hby at_35) ?_
          show Steps p.tables e below (s₁.setTop (mkF m 36 #[.val (.int p0), .val (.int mm), .unset] [(.int (3 : Int32)), (.int mm)])) t
          exact k)
        by_cases k3 : mm = (3 : Int32)
        · replace pre : Pth p e below S0 s₁ (mkF m 78 #[.val (.int p0), .val (.int mm), .val (.int (1 : Int32))] [(.int mm)]) := fun t k => pre t (by
            show Steps p.tables e below (s₁.setTop (mkF m 36 #[.val (.int p0), .val (.int mm), .unset] [(.int (3 : Int32)), (.int mm)])) t
            refine XS.icmpNo X0.here hx rfl (hb hby at_36) rfl (XT.ii_ne_f k3) ?_
            show Steps p.tables e below (s₁.setTop (mkF m 39 #[.val (.int p0), .val (.int mm), .unset] [])) t
            refine XS.iconst X0.here hx rfl (hb hby at_39) ?_
            show Steps p.tables e below (s₁.setTop (mkF m 40 #[.val (.int p0), .val (.int mm), .unset] [(.int (1 : Int32))])) t
            refine XS.istoreN X0.here hx rfl (hb hby at_40) rfl (l' := #[.val (.int p0), .val (.int mm), .val (.int (1 : Int32))]) rfl ?_
            show Steps p.tables e below (s₁.setTop (mkF m 41 #[.val (.int p0), .val (.int mm), .val (.int (1 : Int32))] [])) t
            refine XS.goto X0.here hx rfl (pc0 := 41) (pc' := 77) rfl (hb hby at_41) (by decide) (by decide) ?_
            show Steps p.tables e below (s₁.setTop (mkF m 77 #[.val (.int p0), .val (.int mm), .val (.int (1 : Int32))] [])) t
            refine XS.iloadN X0.here hx rfl (hb hby at_77) rfl ?_
            show Steps p.tables e below (s₁.setTop (mkF m 78 #[.val (.int p0), .val (.int mm), .val (.int (1 : Int32))] [(.int mm)])) t
            exact k)
          obtain ⟨_, _, ⟨T4, L4, k4, n4⟩, -, X4, ⟨Lc4, hQ4, l4, y4, z4⟩, st4⟩ := Jvm.LawKit.callS X0 hx (y := (⟨"com/example/sheaf/sheaf/cbor/MajorType", "mayBeIndefinite", "(I)Z"⟩ : MethodName)) hown (mvT hZ (hw _ (List.mem_of_getElem? (i := 0) rfl))) (mvT hZ (hw _ (List.mem_of_getElem? (i := 1) rfl))) (mvT hZ (hw _ (List.mem_of_getElem? (i := 2) rfl))) (mvT hZ (hw _ (List.mem_of_getElem? (i := 3) rfl))) (by decide) (backOf (W := 0) (rm_may l Z a0 hw [] mm h0 n0 Z0) hZ (hw _ (List.mem_of_getElem? (i := 3) rfl)) (hw _ (List.mem_of_getElem? (i := 2) rfl)) (by decide) (by decide)) (g := (mkF m 78 #[.val (.int p0), .val (.int mm), .val (.int (1 : Int32))] [(.int mm)])) rfl (by rw [hml]; rfl) (argsL := [(.int mm)]) (rest := []) (lenOf pd__I_Z rfl) rfl (by show 2 * 0 + _ ≤ _; exact Nat.le_of_eq rfl) (hb hby at_78) (fun _ _ => ⟨rfl, e0, (by decide : 0 + 0 ≤ _), (by decide : 0 + 0 ≤ _)⟩)
          dsimp only [Pt.U, Pt.locs, Pt.cells, Pt.slots] at X4 l4 y4 z4 st4 hQ4
          subst l4 y4 z4
          obtain ⟨rfl, N4q, e4⟩ := hQ4
          have N4 := Fr.app N0 N4q
          replace pre : Pth p e below S0 T4 (mkF m 81 #[.val (.int p0), .val (.int mm), .val (.int (1 : Int32))] [(.int (own_f mm))]) := fun t k => pre t (st4 _ k)
          replace pre : Pth p e below S0 T4 (mkF m 90 #[.val (.int p0), .val (.int mm), .val (.int (1 : Int32))] [(.int (1 : Int32))]) := fun t k => pre t (by
            show Steps p.tables e below (T4.setTop (mkF m 81 #[.val (.int p0), .val (.int mm), .val (.int (1 : Int32))] [(.int (own_f mm))])) t
            refine XS.iloadN X4.here hx rfl (hb hby at_81) rfl ?_
            show Steps p.tables e below (T4.setTop (mkF m 82 #[.val (.int p0), .val (.int mm), .val (.int (1 : Int32))] [(.int (1 : Int32)), (.int (own_f mm))])) t
            refine XS.icmpNo X4.here hx rfl (hb hby at_82) rfl (XT.ii_ne_f (by rw [k3]; decide)) ?_
            show Steps p.tables e below (T4.setTop (mkF m 85 #[.val (.int p0), .val (.int mm), .val (.int (1 : Int32))] [])) t
            refine XS.iconst X4.here hx rfl (hb hby at_85) ?_
            show Steps p.tables e below (T4.setTop (mkF m 86 #[.val (.int p0), .val (.int mm), .val (.int (1 : Int32))] [(.int (1 : Int32))])) t
            refine XS.goto X4.here hx rfl (pc0 := 86) (pc' := 90) rfl (hb hby at_86) (by decide) (by decide) ?_
            show Steps p.tables e below (T4.setTop (mkF m 90 #[.val (.int p0), .val (.int mm), .val (.int (1 : Int32))] [(.int (1 : Int32))])) t
            exact k)
          obtain ⟨fs, hr, hrun, hended, hW, hsame⟩ := X4.leave (v := some (.int (1 : Int32))) (fun h => by rw [Bd.returns] at h; cases h)
          subst hS0
          refine ⟨_, _, pre _ ?_, hrun, hended, _, _, rfl, ?_, ⟨_, rfl⟩, hW, hsame.mono (by decide) (by decide)⟩
          · exact retN X4 hx (t := .boolean) Bd.returns (by simp) (hb hby at_90) hr
          · show Q_law Z p0 h0 n0 _ T4.heap _
            rw [e4]
            exact ⟨rfl, N4⟩
        · replace pre : Pth p e below S0 s₁ (mkF m 46 #[.val (.int p0), .val (.int mm), .unset] [(.int (4 : Int32)), (.int mm)]) := fun t k => pre t (by
            show Steps p.tables e below (s₁.setTop (mkF m 36 #[.val (.int p0), .val (.int mm), .unset] [(.int (3 : Int32)), (.int mm)])) t
            refine XS.icmpYes X0.here hx rfl (pc0 := 36) (pc' := 44) rfl (hb hby at_36) rfl (XT.ii_ne_t k3) (by decide) (by decide) ?_
            show Steps p.tables e below (s₁.setTop (mkF m 44 #[.val (.int p0), .val (.int mm), .unset] [])) t
            refine XS.iloadN X0.here hx rfl (hb hby at_44) rfl ?_
            show Steps p.tables e below (s₁.setTop (mkF m 45 #[.val (.int p0), .val (.int mm), .unset] [(.int mm)])) t
            refine XS.iconst X0.here hx rfl (hb hby at_45) ?_
            show Steps p.tables e below (s₁.setTop (mkF m 46 #[.val (.int p0), .val (.int mm), .unset] [(.int (4 : Int32)), (.int mm)])) t
            exact k)
          by_cases k4 : mm = (4 : Int32)
          · replace pre : Pth p e below S0 s₁ (mkF m 78 #[.val (.int p0), .val (.int mm), .val (.int (1 : Int32))] [(.int mm)]) := fun t k => pre t (by
              show Steps p.tables e below (s₁.setTop (mkF m 46 #[.val (.int p0), .val (.int mm), .unset] [(.int (4 : Int32)), (.int mm)])) t
              refine XS.icmpNo X0.here hx rfl (hb hby at_46) rfl (XT.ii_ne_f k4) ?_
              show Steps p.tables e below (s₁.setTop (mkF m 49 #[.val (.int p0), .val (.int mm), .unset] [])) t
              refine XS.iconst X0.here hx rfl (hb hby at_49) ?_
              show Steps p.tables e below (s₁.setTop (mkF m 50 #[.val (.int p0), .val (.int mm), .unset] [(.int (1 : Int32))])) t
              refine XS.istoreN X0.here hx rfl (hb hby at_50) rfl (l' := #[.val (.int p0), .val (.int mm), .val (.int (1 : Int32))]) rfl ?_
              show Steps p.tables e below (s₁.setTop (mkF m 51 #[.val (.int p0), .val (.int mm), .val (.int (1 : Int32))] [])) t
              refine XS.goto X0.here hx rfl (pc0 := 51) (pc' := 77) rfl (hb hby at_51) (by decide) (by decide) ?_
              show Steps p.tables e below (s₁.setTop (mkF m 77 #[.val (.int p0), .val (.int mm), .val (.int (1 : Int32))] [])) t
              refine XS.iloadN X0.here hx rfl (hb hby at_77) rfl ?_
              show Steps p.tables e below (s₁.setTop (mkF m 78 #[.val (.int p0), .val (.int mm), .val (.int (1 : Int32))] [(.int mm)])) t
              exact k)
            obtain ⟨_, _, ⟨T5, L5, k5, n5⟩, -, X5, ⟨Lc5, hQ5, l5, y5, z5⟩, st5⟩ := Jvm.LawKit.callS X0 hx (y := (⟨"com/example/sheaf/sheaf/cbor/MajorType", "mayBeIndefinite", "(I)Z"⟩ : MethodName)) hown (mvT hZ (hw _ (List.mem_of_getElem? (i := 0) rfl))) (mvT hZ (hw _ (List.mem_of_getElem? (i := 1) rfl))) (mvT hZ (hw _ (List.mem_of_getElem? (i := 2) rfl))) (mvT hZ (hw _ (List.mem_of_getElem? (i := 3) rfl))) (by decide) (backOf (W := 0) (rm_may l Z a0 hw [] mm h0 n0 Z0) hZ (hw _ (List.mem_of_getElem? (i := 3) rfl)) (hw _ (List.mem_of_getElem? (i := 2) rfl)) (by decide) (by decide)) (g := (mkF m 78 #[.val (.int p0), .val (.int mm), .val (.int (1 : Int32))] [(.int mm)])) rfl (by rw [hml]; rfl) (argsL := [(.int mm)]) (rest := []) (lenOf pd__I_Z rfl) rfl (by show 2 * 0 + _ ≤ _; exact Nat.le_of_eq rfl) (hb hby at_78) (fun _ _ => ⟨rfl, e0, (by decide : 0 + 0 ≤ _), (by decide : 0 + 0 ≤ _)⟩)
            dsimp only [Pt.U, Pt.locs, Pt.cells, Pt.slots] at X5 l5 y5 z5 st5 hQ5
            subst l5 y5 z5
            obtain ⟨rfl, N5q, e5⟩ := hQ5
            have N5 := Fr.app N0 N5q
            replace pre : Pth p e below S0 T5 (mkF m 81 #[.val (.int p0), .val (.int mm), .val (.int (1 : Int32))] [(.int (own_f mm))]) := fun t k => pre t (st5 _ k)
            replace pre : Pth p e below S0 T5 (mkF m 90 #[.val (.int p0), .val (.int mm), .val (.int (1 : Int32))] [(.int (1 : Int32))]) := fun t k => pre t (by
              show Steps p.tables e below (T5.setTop (mkF m 81 #[.val (.int p0), .val (.int mm), .val (.int (1 : Int32))] [(.int (own_f mm))])) t
              refine XS.iloadN X5.here hx rfl (hb hby at_81) rfl ?_
              show Steps p.tables e below (T5.setTop (mkF m 82 #[.val (.int p0), .val (.int mm), .val (.int (1 : Int32))] [(.int (1 : Int32)), (.int (own_f mm))])) t
              refine XS.icmpNo X5.here hx rfl (hb hby at_82) rfl (XT.ii_ne_f (by rw [k4]; decide)) ?_
              show Steps p.tables e below (T5.setTop (mkF m 85 #[.val (.int p0), .val (.int mm), .val (.int (1 : Int32))] [])) t
              refine XS.iconst X5.here hx rfl (hb hby at_85) ?_
              show Steps p.tables e below (T5.setTop (mkF m 86 #[.val (.int p0), .val (.int mm), .val (.int (1 : Int32))] [(.int (1 : Int32))])) t
              refine XS.goto X5.here hx rfl (pc0 := 86) (pc' := 90) rfl (hb hby at_86) (by decide) (by decide) ?_
              show Steps p.tables e below (T5.setTop (mkF m 90 #[.val (.int p0), .val (.int mm), .val (.int (1 : Int32))] [(.int (1 : Int32))])) t
              exact k)
            obtain ⟨fs, hr, hrun, hended, hW, hsame⟩ := X5.leave (v := some (.int (1 : Int32))) (fun h => by rw [Bd.returns] at h; cases h)
            subst hS0
            refine ⟨_, _, pre _ ?_, hrun, hended, _, _, rfl, ?_, ⟨_, rfl⟩, hW, hsame.mono (by decide) (by decide)⟩
            · exact retN X5 hx (t := .boolean) Bd.returns (by simp) (hb hby at_90) hr
            · show Q_law Z p0 h0 n0 _ T5.heap _
              rw [e5]
              exact ⟨rfl, N5⟩
          · replace pre : Pth p e below S0 s₁ (mkF m 56 #[.val (.int p0), .val (.int mm), .unset] [(.int (5 : Int32)), (.int mm)]) := fun t k => pre t (by
              show Steps p.tables e below (s₁.setTop (mkF m 46 #[.val (.int p0), .val (.int mm), .unset] [(.int (4 : Int32)), (.int mm)])) t
              refine XS.icmpYes X0.here hx rfl (pc0 := 46) (pc' := 54) rfl (hb hby at_46) rfl (XT.ii_ne_t k4) (by decide) (by decide) ?_
              show Steps p.tables e below (s₁.setTop (mkF m 54 #[.val (.int p0), .val (.int mm), .unset] [])) t
              refine XS.iloadN X0.here hx rfl (hb hby at_54) rfl ?_
              show Steps p.tables e below (s₁.setTop (mkF m 55 #[.val (.int p0), .val (.int mm), .unset] [(.int mm)])) t
              refine XS.iconst X0.here hx rfl (hb hby at_55) ?_
              show Steps p.tables e below (s₁.setTop (mkF m 56 #[.val (.int p0), .val (.int mm), .unset] [(.int (5 : Int32)), (.int mm)])) t
              exact k)
            by_cases k5 : mm = (5 : Int32)
            · replace pre : Pth p e below S0 s₁ (mkF m 78 #[.val (.int p0), .val (.int mm), .val (.int (1 : Int32))] [(.int mm)]) := fun t k => pre t (by
                show Steps p.tables e below (s₁.setTop (mkF m 56 #[.val (.int p0), .val (.int mm), .unset] [(.int (5 : Int32)), (.int mm)])) t
                refine XS.icmpNo X0.here hx rfl (hb hby at_56) rfl (XT.ii_ne_f k5) ?_
                show Steps p.tables e below (s₁.setTop (mkF m 59 #[.val (.int p0), .val (.int mm), .unset] [])) t
                refine XS.iconst X0.here hx rfl (hb hby at_59) ?_
                show Steps p.tables e below (s₁.setTop (mkF m 60 #[.val (.int p0), .val (.int mm), .unset] [(.int (1 : Int32))])) t
                refine XS.istoreN X0.here hx rfl (hb hby at_60) rfl (l' := #[.val (.int p0), .val (.int mm), .val (.int (1 : Int32))]) rfl ?_
                show Steps p.tables e below (s₁.setTop (mkF m 61 #[.val (.int p0), .val (.int mm), .val (.int (1 : Int32))] [])) t
                refine XS.goto X0.here hx rfl (pc0 := 61) (pc' := 77) rfl (hb hby at_61) (by decide) (by decide) ?_
                show Steps p.tables e below (s₁.setTop (mkF m 77 #[.val (.int p0), .val (.int mm), .val (.int (1 : Int32))] [])) t
                refine XS.iloadN X0.here hx rfl (hb hby at_77) rfl ?_
                show Steps p.tables e below (s₁.setTop (mkF m 78 #[.val (.int p0), .val (.int mm), .val (.int (1 : Int32))] [(.int mm)])) t
                exact k)
              obtain ⟨_, _, ⟨T6, L6, k6, n6⟩, -, X6, ⟨Lc6, hQ6, l6, y6, z6⟩, st6⟩ := Jvm.LawKit.callS X0 hx (y := (⟨"com/example/sheaf/sheaf/cbor/MajorType", "mayBeIndefinite", "(I)Z"⟩ : MethodName)) hown (mvT hZ (hw _ (List.mem_of_getElem? (i := 0) rfl))) (mvT hZ (hw _ (List.mem_of_getElem? (i := 1) rfl))) (mvT hZ (hw _ (List.mem_of_getElem? (i := 2) rfl))) (mvT hZ (hw _ (List.mem_of_getElem? (i := 3) rfl))) (by decide) (backOf (W := 0) (rm_may l Z a0 hw [] mm h0 n0 Z0) hZ (hw _ (List.mem_of_getElem? (i := 3) rfl)) (hw _ (List.mem_of_getElem? (i := 2) rfl)) (by decide) (by decide)) (g := (mkF m 78 #[.val (.int p0), .val (.int mm), .val (.int (1 : Int32))] [(.int mm)])) rfl (by rw [hml]; rfl) (argsL := [(.int mm)]) (rest := []) (lenOf pd__I_Z rfl) rfl (by show 2 * 0 + _ ≤ _; exact Nat.le_of_eq rfl) (hb hby at_78) (fun _ _ => ⟨rfl, e0, (by decide : 0 + 0 ≤ _), (by decide : 0 + 0 ≤ _)⟩)
              dsimp only [Pt.U, Pt.locs, Pt.cells, Pt.slots] at X6 l6 y6 z6 st6 hQ6
              subst l6 y6 z6
              obtain ⟨rfl, N6q, e6⟩ := hQ6
              have N6 := Fr.app N0 N6q
              replace pre : Pth p e below S0 T6 (mkF m 81 #[.val (.int p0), .val (.int mm), .val (.int (1 : Int32))] [(.int (own_f mm))]) := fun t k => pre t (st6 _ k)
              replace pre : Pth p e below S0 T6 (mkF m 90 #[.val (.int p0), .val (.int mm), .val (.int (1 : Int32))] [(.int (1 : Int32))]) := fun t k => pre t (by
                show Steps p.tables e below (T6.setTop (mkF m 81 #[.val (.int p0), .val (.int mm), .val (.int (1 : Int32))] [(.int (own_f mm))])) t
                refine XS.iloadN X6.here hx rfl (hb hby at_81) rfl ?_
                show Steps p.tables e below (T6.setTop (mkF m 82 #[.val (.int p0), .val (.int mm), .val (.int (1 : Int32))] [(.int (1 : Int32)), (.int (own_f mm))])) t
                refine XS.icmpNo X6.here hx rfl (hb hby at_82) rfl (XT.ii_ne_f (by rw [k5]; decide)) ?_
                show Steps p.tables e below (T6.setTop (mkF m 85 #[.val (.int p0), .val (.int mm), .val (.int (1 : Int32))] [])) t
                refine XS.iconst X6.here hx rfl (hb hby at_85) ?_
                show Steps p.tables e below (T6.setTop (mkF m 86 #[.val (.int p0), .val (.int mm), .val (.int (1 : Int32))] [(.int (1 : Int32))])) t
                refine XS.goto X6.here hx rfl (pc0 := 86) (pc' := 90) rfl (hb hby at_86) (by decide) (by decide) ?_
                show Steps p.tables e below (T6.setTop (mkF m 90 #[.val (.int p0), .val (.int mm), .val (.int (1 : Int32))] [(.int (1 : Int32))])) t
                exact k)
              obtain ⟨fs, hr, hrun, hended, hW, hsame⟩ := X6.leave (v := some (.int (1 : Int32))) (fun h => by rw [Bd.returns] at h; cases h)
              subst hS0
              refine ⟨_, _, pre _ ?_, hrun, hended, _, _, rfl, ?_, ⟨_, rfl⟩, hW, hsame.mono (by decide) (by decide)⟩
              · exact retN X6 hx (t := .boolean) Bd.returns (by simp) (hb hby at_90) hr
              · show Q_law Z p0 h0 n0 _ T6.heap _
                rw [e6]
                exact ⟨rfl, N6⟩
            · replace pre : Pth p e below S0 s₁ (mkF m 67 #[.val (.int p0), .val (.int mm), .unset] [(.int (6 : Int32)), (.int mm)]) := fun t k => pre t (by
                show Steps p.tables e below (s₁.setTop (mkF m 56 #[.val (.int p0), .val (.int mm), .unset] [(.int (5 : Int32)), (.int mm)])) t
                refine XS.icmpYes X0.here hx rfl (pc0 := 56) (pc' := 64) rfl (hb hby at_56) rfl (XT.ii_ne_t k5) (by decide) (by decide) ?_
                show Steps p.tables e below (s₁.setTop (mkF m 64 #[.val (.int p0), .val (.int mm), .unset] [])) t
                refine XS.iloadN X0.here hx rfl (hb hby at_64) rfl ?_
                show Steps p.tables e below (s₁.setTop (mkF m 65 #[.val (.int p0), .val (.int mm), .unset] [(.int mm)])) t
                refine XS.bipush X0.here hx rfl (hb hby at_65) ?_
                show Steps p.tables e below (s₁.setTop (mkF m 67 #[.val (.int p0), .val (.int mm), .unset] [(.int (6 : Int32)), (.int mm)])) t
                exact k)
              by_cases k6 : mm = (6 : Int32)
              · replace pre : Pth p e below S0 s₁ (mkF m 78 #[.val (.int p0), .val (.int mm), .val (.int (0 : Int32))] [(.int mm)]) := fun t k => pre t (by
                  show Steps p.tables e below (s₁.setTop (mkF m 67 #[.val (.int p0), .val (.int mm), .unset] [(.int (6 : Int32)), (.int mm)])) t
                  refine XS.icmpNo X0.here hx rfl (hb hby at_67) rfl (XT.ii_ne_f k6) ?_
                  show Steps p.tables e below (s₁.setTop (mkF m 70 #[.val (.int p0), .val (.int mm), .unset] [])) t
                  refine XS.iconst X0.here hx rfl (hb hby at_70) ?_
                  show Steps p.tables e below (s₁.setTop (mkF m 71 #[.val (.int p0), .val (.int mm), .unset] [(.int (0 : Int32))])) t
                  refine XS.istoreN X0.here hx rfl (hb hby at_71) rfl (l' := #[.val (.int p0), .val (.int mm), .val (.int (0 : Int32))]) rfl ?_
                  show Steps p.tables e below (s₁.setTop (mkF m 72 #[.val (.int p0), .val (.int mm), .val (.int (0 : Int32))] [])) t
                  refine XS.goto X0.here hx rfl (pc0 := 72) (pc' := 77) rfl (hb hby at_72) (by decide) (by decide) ?_
                  show Steps p.tables e below (s₁.setTop (mkF m 77 #[.val (.int p0), .val (.int mm), .val (.int (0 : Int32))] [])) t
                  refine XS.iloadN X0.here hx rfl (hb hby at_77) rfl ?_
                  show Steps p.tables e below (s₁.setTop (mkF m 78 #[.val (.int p0), .val (.int mm), .val (.int (0 : Int32))] [(.int mm)])) t
                  exact k)
                obtain ⟨_, _, ⟨T7, L7, k7, n7⟩, -, X7, ⟨Lc7, hQ7, l7, y7, z7⟩, st7⟩ := Jvm.LawKit.callS X0 hx (y := (⟨"com/example/sheaf/sheaf/cbor/MajorType", "mayBeIndefinite", "(I)Z"⟩ : MethodName)) hown (mvT hZ (hw _ (List.mem_of_getElem? (i := 0) rfl))) (mvT hZ (hw _ (List.mem_of_getElem? (i := 1) rfl))) (mvT hZ (hw _ (List.mem_of_getElem? (i := 2) rfl))) (mvT hZ (hw _ (List.mem_of_getElem? (i := 3) rfl))) (by decide) (backOf (W := 0) (rm_may l Z a0 hw [] mm h0 n0 Z0) hZ (hw _ (List.mem_of_getElem? (i := 3) rfl)) (hw _ (List.mem_of_getElem? (i := 2) rfl)) (by decide) (by decide)) (g := (mkF m 78 #[.val (.int p0), .val (.int mm), .val (.int (0 : Int32))] [(.int mm)])) rfl (by rw [hml]; rfl) (argsL := [(.int mm)]) (rest := []) (lenOf pd__I_Z rfl) rfl (by show 2 * 0 + _ ≤ _; exact Nat.le_of_eq rfl) (hb hby at_78) (fun _ _ => ⟨rfl, e0, (by decide : 0 + 0 ≤ _), (by decide : 0 + 0 ≤ _)⟩)
                dsimp only [Pt.U, Pt.locs, Pt.cells, Pt.slots] at X7 l7 y7 z7 st7 hQ7
                subst l7 y7 z7
                obtain ⟨rfl, N7q, e7⟩ := hQ7
                have N7 := Fr.app N0 N7q
                replace pre : Pth p e below S0 T7 (mkF m 81 #[.val (.int p0), .val (.int mm), .val (.int (0 : Int32))] [(.int (own_f mm))]) := fun t k => pre t (st7 _ k)
                replace pre : Pth p e below S0 T7 (mkF m 90 #[.val (.int p0), .val (.int mm), .val (.int (0 : Int32))] [(.int (1 : Int32))]) := fun t k => pre t (by
                  show Steps p.tables e below (T7.setTop (mkF m 81 #[.val (.int p0), .val (.int mm), .val (.int (0 : Int32))] [(.int (own_f mm))])) t
                  refine XS.iloadN X7.here hx rfl (hb hby at_81) rfl ?_
                  show Steps p.tables e below (T7.setTop (mkF m 82 #[.val (.int p0), .val (.int mm), .val (.int (0 : Int32))] [(.int (0 : Int32)), (.int (own_f mm))])) t
                  refine XS.icmpNo X7.here hx rfl (hb hby at_82) rfl (XT.ii_ne_f (by rw [k6]; decide)) ?_
                  show Steps p.tables e below (T7.setTop (mkF m 85 #[.val (.int p0), .val (.int mm), .val (.int (0 : Int32))] [])) t
                  refine XS.iconst X7.here hx rfl (hb hby at_85) ?_
                  show Steps p.tables e below (T7.setTop (mkF m 86 #[.val (.int p0), .val (.int mm), .val (.int (0 : Int32))] [(.int (1 : Int32))])) t
                  refine XS.goto X7.here hx rfl (pc0 := 86) (pc' := 90) rfl (hb hby at_86) (by decide) (by decide) ?_
                  show Steps p.tables e below (T7.setTop (mkF m 90 #[.val (.int p0), .val (.int mm), .val (.int (0 : Int32))] [(.int (1 : Int32))])) t
                  exact k)
                obtain ⟨fs, hr, hrun, hended, hW, hsame⟩ := X7.leave (v := some (.int (1 : Int32))) (fun h => by rw [Bd.returns] at h; cases h)
                subst hS0
                refine ⟨_, _, pre _ ?_, hrun, hended, _, _, rfl, ?_, ⟨_, rfl⟩, hW, hsame.mono (by decide) (by decide)⟩
                · exact retN X7 hx (t := .boolean) Bd.returns (by simp) (hb hby at_90) hr
                · show Q_law Z p0 h0 n0 _ T7.heap _
                  rw [e7]
                  exact ⟨rfl, N7⟩
              · replace pre : Pth p e below S0 s₁ (mkF m 78 #[.val (.int p0), .val (.int mm), .val (.int (0 : Int32))] [(.int mm)]) := fun t k => pre t (by
                  show Steps p.tables e below (s₁.setTop (mkF m 67 #[.val (.int p0), .val (.int mm), .unset] [(.int (6 : Int32)), (.int mm)])) t
                  refine XS.icmpYes X0.here hx rfl (pc0 := 67) (pc' := 75) rfl (hb hby at_67) rfl (XT.ii_ne_t k6) (by decide) (by decide) ?_
                  show Steps p.tables e below (s₁.setTop (mkF m 75 #[.val (.int p0), .val (.int mm), .unset] [])) t
                  refine XS.iconst X0.here hx rfl (hb hby at_75) ?_
                  show Steps p.tables e below (s₁.setTop (mkF m 76 #[.val (.int p0), .val (.int mm), .unset] [(.int (0 : Int32))])) t
                  refine XS.istoreN X0.here hx rfl (hb hby at_76) rfl (l' := #[.val (.int p0), .val (.int mm), .val (.int (0 : Int32))]) rfl ?_
                  show Steps p.tables e below (s₁.setTop (mkF m 77 #[.val (.int p0), .val (.int mm), .val (.int (0 : Int32))] [])) t
                  refine XS.iloadN X0.here hx rfl (hb hby at_77) rfl ?_
                  show Steps p.tables e below (s₁.setTop (mkF m 78 #[.val (.int p0), .val (.int mm), .val (.int (0 : Int32))] [(.int mm)])) t
                  exact k)
                obtain ⟨_, _, ⟨T8, L8, k8, n8⟩, -, X8, ⟨Lc8, hQ8, l8, y8, z8⟩, st8⟩ := Jvm.LawKit.callS X0 hx (y := (⟨"com/example/sheaf/sheaf/cbor/MajorType", "mayBeIndefinite", "(I)Z"⟩ : MethodName)) hown (mvT hZ (hw _ (List.mem_of_getElem? (i := 0) rfl))) (mvT hZ (hw _ (List.mem_of_getElem? (i := 1) rfl))) (mvT hZ (hw _ (List.mem_of_getElem? (i := 2) rfl))) (mvT hZ (hw _ (List.mem_of_getElem? (i := 3) rfl))) (by decide) (backOf (W := 0) (rm_may l Z a0 hw [] mm h0 n0 Z0) hZ (hw _ (List.mem_of_getElem? (i := 3) rfl)) (hw _ (List.mem_of_getElem? (i := 2) rfl)) (by decide) (by decide)) (g := (mkF m 78 #[.val (.int p0), .val (.int mm), .val (.int (0 : Int32))] [(.int mm)])) rfl (by rw [hml]; rfl) (argsL := [(.int mm)]) (rest := []) (lenOf pd__I_Z rfl) rfl (by show 2 * 0 + _ ≤ _; exact Nat.le_of_eq rfl) (hb hby at_78) (fun _ _ => ⟨rfl, e0, (by decide : 0 + 0 ≤ _), (by decide : 0 + 0 ≤ _)⟩)
                dsimp only [Pt.U, Pt.locs, Pt.cells, Pt.slots] at X8 l8 y8 z8 st8 hQ8
                subst l8 y8 z8
                obtain ⟨rfl, N8q, e8⟩ := hQ8
                have N8 := Fr.app N0 N8q
                replace pre : Pth p e below S0 T8 (mkF m 81 #[.val (.int p0), .val (.int mm), .val (.int (0 : Int32))] [(.int (own_f mm))]) := fun t k => pre t (st8 _ k)
                replace pre : Pth p e below S0 T8 (mkF m 90 #[.val (.int p0), .val (.int mm), .val (.int (0 : Int32))] [(.int (1 : Int32))]) := fun t k => pre t (by
                  show Steps p.tables e below (T8.setTop (mkF m 81 #[.val (.int p0), .val (.int mm), .val (.int (0 : Int32))] [(.int (own_f mm))])) t
                  refine XS.iloadN X8.here hx rfl (hb hby at_81) rfl ?_
                  show Steps p.tables e below (T8.setTop (mkF m 82 #[.val (.int p0), .val (.int mm), .val (.int (0 : Int32))] [(.int (0 : Int32)), (.int (own_f mm))])) t
                  refine XS.icmpNo X8.here hx rfl (hb hby at_82) rfl (XT.ii_ne_f (by rw [own_last hm k0 k1 k2 k3 k4 k5 k6]; decide)) ?_
                  show Steps p.tables e below (T8.setTop (mkF m 85 #[.val (.int p0), .val (.int mm), .val (.int (0 : Int32))] [])) t
                  refine XS.iconst X8.here hx rfl (hb hby at_85) ?_
                  show Steps p.tables e below (T8.setTop (mkF m 86 #[.val (.int p0), .val (.int mm), .val (.int (0 : Int32))] [(.int (1 : Int32))])) t
                  refine XS.goto X8.here hx rfl (pc0 := 86) (pc' := 90) rfl (hb hby at_86) (by decide) (by decide) ?_
                  show Steps p.tables e below (T8.setTop (mkF m 90 #[.val (.int p0), .val (.int mm), .val (.int (0 : Int32))] [(.int (1 : Int32))])) t
                  exact k)
                obtain ⟨fs, hr, hrun, hended, hW, hsame⟩ := X8.leave (v := some (.int (1 : Int32))) (fun h => by rw [Bd.returns] at h; cases h)
                subst hS0
                refine ⟨_, _, pre _ ?_, hrun, hended, _, _, rfl, ?_, ⟨_, rfl⟩, hW, hsame.mono (by decide) (by decide)⟩
                · exact retN X8 hx (t := .boolean) Bd.returns (by simp) (hb hby at_90) hr
                · show Q_law Z p0 h0 n0 _ T8.heap _
                  rw [e8]
                  exact ⟨rfl, N8⟩
set_option maxRecDepth 65536 in
set_option maxHeartbeats 40000000 in
theorem comes_1 {Post : Tables → Env → Array Value → State → Outcome → State → Prop} (hpost : ∀ tb e args s v u, (limb_1_1.after args s (.returned v) u = true ∧ limb_1_2.after args s (.returned v) u = true ∧ True) → FrameEnd s (.returned v) u (Jvm.fieldLocs frame_1_writes args s ++ Jvm.arrayLocs frame_1_arrays args s ++ Jvm.staticLocs frame_1_statics s) 0 0 → Post tb e args s (.returned v) u) :
    ArmFor flags0 classFile x code maxLocals ret World_1 tables_1 room_1 Calls_1 rest_1 Pre_1 Post := by
  intro l hfl _ _ p e ha hc hk s m args below hf hA hF happ hP
  obtain ⟨hcalls, hrest, hpre⟩ := hP
  obtain ⟨-, -, -, hnamed, -, -, -, hat⟩ := (Spec.applies_iff hf).mp happ
  obtain ⟨hg, hn⟩ := and_e (Cond.before_iff.mp (show (Jvm.Cond.and given_1 narrow_1).before args s = true from hpre))
  obtain ⟨gv1a, gv1b⟩ := and_e hg
  obtain ⟨w0, rfl⟩ : ∃ w0 : Value, args = #[w0] := by
    have hs : args.size = 1 := by simpa [Cond.value, given_1] using gv1a
    obtain ⟨L⟩ := args
    match L, hs with
    | [w0], _ => exact ⟨w0, rfl⟩
  have hw := fun d (hd : d ∈ tables_1) => atoms_spec (ws := Jvm.Cond.code x code maxLocals ret :: tables_1) hat d (List.mem_cons_of_mem _ hd)
  have hfit : Fit s := fun {y c} hc i hi => by
    obtain ⟨ha, rfl⟩ := Array.getElem?_eq_some_iff.mp hc
    have q := List.all_eq_true.mp ((Array.all_eq_true_iff_forall_mem.mp hF) _ (Array.getElem_mem ha)) i (List.mem_range.mpr hi)
    simpa [Array.getElem?_eq_getElem hi] using q
  obtain ⟨i0, ei0⟩ := is_v gv1b
  obtain rfl : w0 = (.int i0) := Option.some.inj ei0
  obtain ⟨n, o, h1, h2, h3, _, L, rfl, ⟨rfl, N⟩, hq⟩ := rm_law l s _ hw tables_1 i0 s.heap s.heap.size (Nat.le_refl _)  p e ha hc hk s m _ below hf ((Spec.applies_iff_loose hf).mp happ).1 ⟨rfl, State.Warmed39.refl s, rfl⟩ trivial
  refine ⟨n, _, h1, h2, h3, hpost _ _ _ _ _ _ ⟨Cond.after_iff.mpr rfl, Cond.after_iff.mpr (eq_i res_at (Term.int_eval (1)) rfl), trivial⟩ ⟨hq.1, hq.2.1, (hq.2.2.sift fun y hy => Or.inr (N y hy)).mono (by decide) (by decide)⟩⟩
theorem main_1_1 : Claimed_1_1 := comes_1 fun _ _ _ _ _ _ h hF => ⟨h.1, hF⟩
theorem main_1_2 : Claimed_1_2 := comes_1 fun _ _ _ _ _ _ h hF => ⟨h.2.1, hF⟩
end Jvm.Pilot.@@N@@
namespace Jvm.Pilot.@@N@@
open Jvm Jvm.ClassFile Sem Op Lib Jvm.Free Jvm.Stand Jvm.Pilot.@@N@@.Jvm.D
/-! MADE BY PROGRAM (witnessworld.py) out of the Statement's table words and the real class files: 7 classes; the members and pool entries that the words name. The judged class is class 1, her method 1. -/
namespace start1
open Jvm.ClassFile
def u (s : String) : CpInfo := .utf8 (stringToUtf16 s)
/-- a pool by its gaps: so many unusable entries, then the entry; so many at the end -/
def gap : Nat → List CpInfo → List CpInfo
  | 0, r => r
  | n + 1, r => .unusable :: gap n r
def poolList (es : List (Nat × CpInfo)) (last : Nat) : List CpInfo := es.foldr (fun e r => gap e.1 (e.2 :: r)) (gap last [])
def pool (es : List (Nat × CpInfo)) (last : Nat) : Array CpInfo := ⟨poolList es last⟩
def fileOf (pool : Array CpInfo) (this : Nat) (attrs : Array Attribute := #[]) (ms : Array MethodInfo := #[]) (fl : Nat := 33) (sup : Nat := 0) (ifs : Array Nat := #[]) (fds : Array FieldInfo := #[]) : ClassFile where
  minorVersion := 0
  majorVersion := 65
  constantPool := pool
  accessFlags := fl
  thisClass := this
  superClass := sup
  interfaces := ifs
  fields := fds
  methods := ms
  attributes := attrs
def plain (name : String) (sup : Option ClassId) : Class where
  name := name
  kind := .ordinary
  loader := none
  accessFlags := 33
  super := sup
  interfaces := #[]
  cf := none
  fields := #[]
  methods := #[]
  instanceTypes := #[]
  staticTypes := #[]
  resolved := #[]
  callSites := []
  init := .initialized
  statics := none
  mirror := none

def pool0 : Array CpInfo := pool [(5, u "<init>"), (0, u "()V"), (1, .class_ 10), (1, u "java/lang/Object")] 113

def k0m0 : Method := { name := "<init>", desc := "()V", sig := { parameters := [], returnType := none }, accessFlags := 1, code := none }
/-- java/lang/Object -/
def k0 : Class := { plain "java/lang/Object" none with
  accessFlags := 33
  interfaces := #[]
  cf := some (fileOf pool0 8 #[] #[{ accessFlags := 1, nameIndex := 5, descriptorIndex := 6, attributes := #[] }] 33 0 #[] #[])
  fields := #[]
  methods := #[k0m0]
  instanceTypes := #[]
  staticTypes := #[]
  resolved := Array.replicate 124 none
  statics := none }

def pool1 : Array CpInfo := pool [(2, .class_ 4), (1, u "java/lang/Object"), (0, u "<init>"), (0, u "()V"), (0, .methodref 8 9), (0, .class_ 10), (0, .nameAndType 11 12), (0, u "com/example/sheaf/sheaf/cbor/MajorType"), (0, u "mayBeIndefinite"), (0, u "(I)Z"), (0, .class_ 14), (0, u "com/example/sheaf/sheaf/cbor/MajorTypeMayBeIndefinitePinLaw"), (2, u "law")] 3

def k1m0 : Method := { name := "<init>", desc := "()V", sig := { parameters := [], returnType := none }, accessFlags := 2, code := none }
def k1c1 : Code := { maxStack := 2, maxLocals := 3, code := code, exceptionTable := #[], attributes := #[] }
def k1m1 : Method := { name := "law", desc := "(I)Z", sig := { parameters := [.int], returnType := some .boolean }, accessFlags := 9, code := some k1c1 }
/-- com/example/sheaf/sheaf/cbor/MajorTypeMayBeIndefinitePinLaw -/
def k1 : Class := { plain "com/example/sheaf/sheaf/cbor/MajorTypeMayBeIndefinitePinLaw" (some 0) with
  accessFlags := 49
  interfaces := #[]
  cf := some (fileOf pool1 13 #[] #[{ accessFlags := 2, nameIndex := 5, descriptorIndex := 6, attributes := #[] }, { accessFlags := 9, nameIndex := 17, descriptorIndex := 12, attributes := #[] }] 49 2 #[] #[])
  fields := #[]
  methods := #[k1m0, k1m1]
  instanceTypes := #[]
  staticTypes := #[]
  resolved := Array.replicate 21 none
  statics := none }

def pool2 : Array CpInfo := pool [(2, .class_ 4), (1, u "java/lang/Object"), (0, u "<init>"), (0, u "()V"), (1, .class_ 10), (1, u "com/example/sheaf/sheaf/cbor/MajorType"), (0, u "NAMES"), (0, u "[Ljava/lang/String;"), (26, u "UNSIGNED_INTEGER"), (0, u "I"), (2, u "NEGATIVE_INTEGER"), (1, u "BYTE_STRING"), (1, u "TEXT_STRING"), (1, u "ARRAY"), (1, u "MAP"), (1, u "TAG"), (1, u "SIMPLE_OR_FLOAT"), (1, u "NULL"), (1, u "ONE_BYTE_SIMPLE"), (1, u "SMALLEST_TWO_BYTE_SIMPLE"), (1, u "BREAK"), (1, u "ONE_BYTE_ARGUMENT"), (1, u "TWO_BYTE_ARGUMENT"), (1, u "FOUR_BYTE_ARGUMENT"), (1, u "EIGHT_BYTE_ARGUMENT"), (1, u "INDEFINITE_LENGTH"), (1, u "ADDITIONAL_INFORMATION"), (4, u "mayBeIndefinite"), (0, u "(I)Z")] 3

def k2m0 : Method := { name := "<init>", desc := "()V", sig := { parameters := [], returnType := none }, accessFlags := 2, code := none }
def k2c1 : Code := { maxStack := 2, maxLocals := 1, code := prog_19_method_4_code, exceptionTable := #[], attributes := #[] }
def k2m1 : Method := { name := "mayBeIndefinite", desc := "(I)Z", sig := { parameters := [.int], returnType := some .boolean }, accessFlags := 8, code := some k2c1 }
/-- com/example/sheaf/sheaf/cbor/MajorType -/
def k2 : Class := { plain "com/example/sheaf/sheaf/cbor/MajorType" (some 0) with
  accessFlags := 48
  interfaces := #[]
  cf := some (fileOf pool2 8 #[] #[{ accessFlags := 2, nameIndex := 5, descriptorIndex := 6, attributes := #[] }, { accessFlags := 8, nameIndex := 80, descriptorIndex := 81, attributes := #[] }] 48 2 #[] #[{ accessFlags := 24, nameIndex := 39, descriptorIndex := 40, attributes := #[] }, { accessFlags := 24, nameIndex := 43, descriptorIndex := 40, attributes := #[] }, { accessFlags := 24, nameIndex := 45, descriptorIndex := 40, attributes := #[] }, { accessFlags := 24, nameIndex := 47, descriptorIndex := 40, attributes := #[] }, { accessFlags := 24, nameIndex := 49, descriptorIndex := 40, attributes := #[] }, { accessFlags := 24, nameIndex := 51, descriptorIndex := 40, attributes := #[] }, { accessFlags := 24, nameIndex := 53, descriptorIndex := 40, attributes := #[] }, { accessFlags := 24, nameIndex := 55, descriptorIndex := 40, attributes := #[] }, { accessFlags := 24, nameIndex := 57, descriptorIndex := 40, attributes := #[] }, { accessFlags := 24, nameIndex := 59, descriptorIndex := 40, attributes := #[] }, { accessFlags := 24, nameIndex := 61, descriptorIndex := 40, attributes := #[] }, { accessFlags := 24, nameIndex := 63, descriptorIndex := 40, attributes := #[] }, { accessFlags := 24, nameIndex := 65, descriptorIndex := 40, attributes := #[] }, { accessFlags := 24, nameIndex := 67, descriptorIndex := 40, attributes := #[] }, { accessFlags := 24, nameIndex := 69, descriptorIndex := 40, attributes := #[] }, { accessFlags := 24, nameIndex := 71, descriptorIndex := 40, attributes := #[] }, { accessFlags := 24, nameIndex := 73, descriptorIndex := 40, attributes := #[] }, { accessFlags := 24, nameIndex := 75, descriptorIndex := 40, attributes := #[] }, { accessFlags := 26, nameIndex := 11, descriptorIndex := 12, attributes := #[] }])
  fields := #[{ name := "UNSIGNED_INTEGER", type := .int, accessFlags := 24, slot := 0, constantValue := 0 }, { name := "NEGATIVE_INTEGER", type := .int, accessFlags := 24, slot := 1, constantValue := 0 }, { name := "BYTE_STRING", type := .int, accessFlags := 24, slot := 2, constantValue := 0 }, { name := "TEXT_STRING", type := .int, accessFlags := 24, slot := 3, constantValue := 0 }, { name := "ARRAY", type := .int, accessFlags := 24, slot := 4, constantValue := 0 }, { name := "MAP", type := .int, accessFlags := 24, slot := 5, constantValue := 0 }, { name := "TAG", type := .int, accessFlags := 24, slot := 6, constantValue := 0 }, { name := "SIMPLE_OR_FLOAT", type := .int, accessFlags := 24, slot := 7, constantValue := 0 }, { name := "NULL", type := .int, accessFlags := 24, slot := 8, constantValue := 0 }, { name := "ONE_BYTE_SIMPLE", type := .int, accessFlags := 24, slot := 9, constantValue := 0 }, { name := "SMALLEST_TWO_BYTE_SIMPLE", type := .int, accessFlags := 24, slot := 10, constantValue := 0 }, { name := "BREAK", type := .int, accessFlags := 24, slot := 11, constantValue := 0 }, { name := "ONE_BYTE_ARGUMENT", type := .int, accessFlags := 24, slot := 12, constantValue := 0 }, { name := "TWO_BYTE_ARGUMENT", type := .int, accessFlags := 24, slot := 13, constantValue := 0 }, { name := "FOUR_BYTE_ARGUMENT", type := .int, accessFlags := 24, slot := 14, constantValue := 0 }, { name := "EIGHT_BYTE_ARGUMENT", type := .int, accessFlags := 24, slot := 15, constantValue := 0 }, { name := "INDEFINITE_LENGTH", type := .int, accessFlags := 24, slot := 16, constantValue := 0 }, { name := "ADDITIONAL_INFORMATION", type := .int, accessFlags := 24, slot := 17, constantValue := 0 }, { name := "NAMES", type := (.array (.object "java/lang/String")), accessFlags := 26, slot := 18, constantValue := 0 }]
  methods := #[k2m0, k2m1]
  instanceTypes := #[]
  staticTypes := #[.int, .int, .int, .int, .int, .int, .int, .int, .int, .int, .int, .int, .int, .int, .int, .int, .int, .int, (.array (.object "java/lang/String"))]
  resolved := Array.replicate 85 none
  statics := none }

def pool3 : Array CpInfo := pool [(1, u "java/lang/Cloneable"), (0, .class_ 1), (0, u "java/lang/Object"), (0, .class_ 3)] 3

/-- java/lang/Cloneable -/
def k3 : Class := { plain "java/lang/Cloneable" (some 0) with
  accessFlags := 1537
  interfaces := #[]
  cf := some (fileOf pool3 2 #[] #[] 1537 4 #[] #[])
  fields := #[]
  methods := #[]
  instanceTypes := #[]
  staticTypes := #[]
  resolved := Array.replicate 8 none
  statics := none }

def pool4 : Array CpInfo := pool [(1, u "java/io/Serializable"), (0, .class_ 1), (0, u "java/lang/Object"), (0, .class_ 3)] 3

/-- java/io/Serializable -/
def k4 : Class := { plain "java/io/Serializable" (some 0) with
  accessFlags := 1537
  interfaces := #[]
  cf := some (fileOf pool4 2 #[] #[] 1537 4 #[] #[])
  fields := #[]
  methods := #[]
  instanceTypes := #[]
  staticTypes := #[]
  resolved := Array.replicate 8 none
  statics := none }

/-- the primitive byte -/
def k5 : Class := { plain "byte" none with kind := .primitive 'B', accessFlags := 0x411 }
/-- [B -/
def k6 : Class := { plain "[B" (some 0) with kind := .array 5 .byte, interfaces := #[3, 4], accessFlags := 1041 }

def heap : Heap := #[]
def classes : Array Class := #[k0, k1, k2, k3, k4, k5, k6]
def interned : List (Array UInt16 × Addr) := []
def slotsUsed : Nat := 0
def theMethod : MethodId := ⟨1, 1⟩
def args0 : Array Value := #[.int 5]
def aboutOver (below : List Frame) : State where
  vm := { classes := classes, interned := interned.toArray }
  heap := heap
  slotsUsed := slotsUsed
  threads := #[{ frames := .invoking theMethod args0 :: below }]
def below0 : List Frame := [.native { method := ⟨0, 0⟩, args := #[] }]
def about1 : State := aboutOver below0
def p0 : Program := .bare "" "" ""
def e0 : Env := launch0.env 0 0 0
theorem w_frames : about1.frames = Frame.invoking theMethod args0 :: below0 := rfl
set_option maxRecDepth 65536 in
theorem w_args : argsFit about1.vm theMethod args0 = true := by decide +kernel
set_option maxRecDepth 65536 in
theorem w_heap : heapFits about1 = true := by decide +kernel
set_option maxRecDepth 65536 in
theorem w_runnable : about1.curStatus? = some .runnable := by decide +kernel
set_option maxRecDepth 65536 in
theorem w_alone : about1.alone = true := by decide +kernel
set_option maxRecDepth 65536 in
theorem w_named : about1.methodNamed? x = some theMethod := by decide +kernel
set_option maxRecDepth 65536 in
theorem w_hears : about1.hears theMethod below0 = true := by decide +kernel
set_option maxRecDepth 65536 in
theorem w_ripe : about1.ripe theMethod args0 below0 = true := by decide +kernel
theorem w_running : about1.status = .running := rfl
set_option maxRecDepth 65536 in
theorem w_room : about1.hasRoom e0.platform room_1 = true :=
  launch0.hasRoom_least _ room_1 (by decide +kernel) (by decide +kernel) (by decide +kernel) (by decide +kernel) (by decide +kernel) (by decide +kernel)
theorem allAtoms_all (ts : List Jvm.Cond) (a : Array Jvm.Value) (st : Jvm.State) : (allAtoms ts).before a st = ts.all (fun c => c.before a st) := by
  induction ts with
  | nil => rfl
  | cons c t ih =>
    show (Jvm.Cond.and c (allAtoms t)).before a st = _
    rw [Jvm.Cond.before_and, ih, List.all_cons]
def words1 : List Jvm.Cond := Jvm.Cond.code x code maxLocals ret :: tables_1
/-- a 'code' word, met by the world's own term for the bytes: nothing is compared byte by byte -/
theorem code_word {y : MethodName} {bytes : ByteArray} {mx : Nat} {rt : Option FieldType} {a : Array Value} {s : State} {m : MethodId} {meth : Method} {c : Code} (h1 : s.methodNamed? y = some m) (h2 : s.vm.method? m = some meth) (h3 : meth.code = some c) (h4 : c.code = bytes)
    (h5 : (c.maxLocals == mx && c.exceptionTable.isEmpty && decide (c.maxStack ≤ mostOperands) && decide (meth.sig.returnType = rt) && !meth.locks && decide (parseMethodDescriptor y.desc = some meth.sig)) = true) : (Jvm.Cond.code y bytes mx rt).before a s = true := by
  simp only [Bool.and_eq_true, beq_iff_eq, Bool.not_eq_true', decide_eq_true_eq] at h5
  obtain ⟨⟨⟨⟨⟨g1, g2⟩, g3⟩, g4⟩, g5⟩, g6⟩ := h5
  simp [Cond.before, Cond.holds, Cond.value, h1, h2, h3, h4, g1, g2, g3, g4, g5, g6]
def isCode : Jvm.Cond → Bool
  | .code _ _ _ _ => true
  | _ => false
theorem all_split {L : List Jvm.Cond} {P : Jvm.Cond → Bool} (h1 : L.all (fun c => isCode c || P c) = true) (h2 : ∀ c ∈ L.filter isCode, P c = true) : L.all P = true := by
  refine List.all_eq_true.mpr fun c hc => ?_
  have h := List.all_eq_true.mp h1 c hc
  rcases Bool.eq_false_or_eq_true (isCode c) with hi | hi
  · exact h2 c (List.mem_filter.mpr ⟨hc, hi⟩)
  · simpa [hi] using h
set_option maxRecDepth 65536 in
theorem w_c0 : (Jvm.Cond.code x code maxLocals ret).before args0 about1 = true := code_word (m := ⟨1, 1⟩) (meth := k1m1) (c := k1c1) (by decide +kernel) rfl rfl rfl (by decide +kernel)
set_option maxRecDepth 65536 in
theorem w_c1 : (Jvm.Cond.code ({ cls := "com/example/sheaf/sheaf/cbor/MajorType", name := "mayBeIndefinite", desc := "(I)Z" } : Jvm.MethodName) prog_19_method_4_code (1 : Nat) (Option.some Jvm.ClassFile.FieldType.boolean)).before args0 about1 = true := code_word (m := ⟨2, 1⟩) (meth := k2m1) (c := k2c1) (by decide +kernel) rfl rfl rfl (by decide +kernel)
def codes1 : List Jvm.Cond := [Jvm.Cond.code x code maxLocals ret, Jvm.Cond.code ({ cls := "com/example/sheaf/sheaf/cbor/MajorType", name := "mayBeIndefinite", desc := "(I)Z" } : Jvm.MethodName) prog_19_method_4_code (1 : Nat) (Option.some Jvm.ClassFile.FieldType.boolean)]
set_option maxRecDepth 65536 in
theorem codes_eq : words1.filter isCode = codes1 := rfl
theorem w_codes : ∀ c ∈ words1.filter isCode, c.before args0 about1 = true := by
  rw [codes_eq]
  intro c hc
  simp only [codes1, List.mem_cons, List.not_mem_nil, or_false] at hc
  rcases hc with rfl | rfl
  · exact w_c0
  · exact w_c1
set_option maxRecDepth 65536 in
theorem w_t1 : words1.all (fun c => isCode c || c.before args0 about1) = true := by decide +kernel
theorem w_tables : (allAtoms (Jvm.Cond.code x code maxLocals ret :: tables_1)).before args0 about1 = true := by
  rw [allAtoms_all]
  show words1.all (fun c => c.before args0 about1) = true
  refine all_split ?_ w_codes
  rw [w_t1]
set_option maxRecDepth 65536 in
theorem w_case : (Jvm.Cond.and given_1 narrow_1).before args0 about1 = true := by decide +kernel
theorem w_applies : (headSpec (Jvm.Cond.code x code maxLocals ret :: tables_1) room_1).applies x e0.platform about1 = true :=
  (Spec.applies_iff w_frames).mpr ⟨w_running, w_runnable, w_alone, w_named, w_hears, w_ripe, w_room, w_tables⟩
theorem atStart : AtStart classFile x code maxLocals ret World_1 tables_1 room_1 Calls_1 rest_1 Pre_1 launch0 p0 e0 about1 theMethod args0 below0 :=
  ⟨lists_1, trivial, launch0.admits_env _ _ _, launch0.least_env, fairChoices_fair.cas, fairChoices_fair.clock, w_frames, w_args, w_heap, w_applies, trivial, trivial, w_case⟩
end start1
theorem witness_1 : WitnessClaimed_1 := ⟨start1.p0, start1.e0, start1.about1, start1.theMethod, start1.args0, start1.below0, start1.atStart⟩
end Jvm.Pilot.@@N@@
