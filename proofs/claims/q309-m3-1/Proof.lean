import JvmDerived
import JvmDerived.Pilot.@@N@@Statement
import JvmDerived.Pilot.@@N@@Code
set_option linter.unusedVariables false
set_option linter.unusedSimpArgs false

namespace Jvm.RoadKit
open Sem ClassFile Op Lib Jvm.Stand Jvm.Free Jvm.LawKit
section New
variable {p : Program} {l : Launch} {e : Env} {R : Room} {s : State} {m : MethodId} {args : Array Value} {below : List Frame} {meth : Method} {c : Code} {T : State} {locs : List Loc} {cells slots : Nat}
theorem retI (X : Stand p l e R s m args below meth c T locs cells slots) (hx : p.tables.exec = Jvm.exec) {pc : Nat} {Ls : Array Slot} {z : Int32} {rest : List Value} (hret : meth.sig.returnType = some .int) (hd : decode c.code pc = .ok (.ireturn, 1)) {fs : List Frame}
    (hl : ∀ (f : JFrame) (acts : List Action), f.method = m → f.locked = none → f.entered = [] → (doReturn e (T.setTop f) acts (some (.int z))).1 = T.setFrames fs) : Steps p.tables e below (T.setTop (mkF m pc Ls (.int z :: rest))) (T.setFrames fs) := by
  have hm' : T.vm.method? m = some meth := X.method'
  have hn : narrow .int (.int z) = .int z := rfl
  show Steps p.tables e below (T.setTop { method := m, pc := pc, locals := Ls, stack := _ :: rest, locked := none }) _
  jvm_step X.here [X.here.top, hx, hd, hm', hret, hn]
  first | (intro acts; rw [hl _ acts rfl rfl rfl]) | rw [hl _ _ rfl rfl rfl]
  exact Steps.refl _
end New
end Jvm.RoadKit
namespace Jvm.Pilot.@@N@@
open Jvm Jvm.ClassFile Sem Op Lib Jvm.Free Jvm.Stand Jvm.LawKit Jvm.RoadKit Bundle Jvm.Pilot.@@N@@.Jvm.D
/-- from S0 the run comes to T with the frame g on top -/
abbrev Pth (p : Program) (e : Env) (below : List Frame) (S0 T : State) (g : JFrame) : Prop := ∀ t, Steps p.tables e below (T.setTop g) t → Steps p.tables e below S0 t
theorem ef_ir (m : MethodId) (x0 : Addr)  : entryFrame m #[(.ref x0)] 1 = mkF m 0 #[.val (.ref x0)] [] := by first | (simp [entryFrame, mkF, argsToLocals, Value.category]; done) | rfl
theorem pn_siglum_apparatus_EntryReadings_Child : plainName "siglum/apparatus/EntryReadings$Child" = true := by first | (simp [plainName, overriddenIn]; done) | decide +kernel
theorem d_ir_0 : decode prog_5_method_4_code 0 = .ok (.aload_n 0, 1) := by decide +kernel
theorem d_ir_1 : decode prog_5_method_4_code 1 = .ok (.getstatic 7, 3) := by decide +kernel
theorem d_ir_4 : decode prog_5_method_4_code 4 = .ok (.if_acmp .eq 10, 3) := by decide +kernel
theorem d_ir_14 : decode prog_5_method_4_code 14 = .ok (.iconst 1, 1) := by decide +kernel
theorem d_ir_15 : decode prog_5_method_4_code 15 = .ok (.goto 4, 3) := by decide +kernel
theorem d_ir_19 : decode prog_5_method_4_code 19 = .ok (.ireturn, 1) := by decide +kernel
theorem d_ir_7 : decode prog_5_method_4_code 7 = .ok (.aload_n 0, 1) := by decide +kernel
theorem d_ir_8 : decode prog_5_method_4_code 8 = .ok (.getstatic 10, 3) := by decide +kernel
theorem d_ir_11 : decode prog_5_method_4_code 11 = .ok (.if_acmp .ne 7, 3) := by decide +kernel
theorem d_ir_18 : decode prog_5_method_4_code 18 = .ok (.iconst 0, 1) := by decide +kernel
theorem ef_law (m : MethodId) (x0 : Int32)  : entryFrame m #[(.int x0)] maxLocals = mkF m 0 #[.val (.int x0), .unset, .unset, .unset] [] := by first | (simp [entryFrame, mkF, argsToLocals, Value.category, maxLocals]; done) | rfl
theorem pn_siglum_apparatus_ChildIsReadingPinLaw : plainName "siglum/apparatus/ChildIsReadingPinLaw" = true := by first | (simp [plainName, overriddenIn]; done) | decide +kernel
theorem pd___Z : parseMethodDescriptor "()Z" = some ⟨[], some .boolean⟩ := by decide +kernel
theorem own_rne {a b : Addr} (h : a ≠ b) : ¬ (Value.ref a = Value.ref b) := fun q => h (Value.ref.inj q)
theorem own_fldeq {args : Array Value} {s : State} {t : Term} {C n d : String} {a : Addr} {k : Int32} (ev : t.eval args s none [] s = some (.ref a)) (h : (Jvm.Cond.eq (.field t C n d) (.int k)).value args s none s [] = some true) : Fld s s.heap a C n d (.int k) := by
  obtain ⟨x, y, e1, e2, k1, k2⟩ := cmp_v (Or.inl h)
  rw [Term.int_eval] at e2
  cases e2
  obtain ⟨z, rfl⟩ := k2
  have q := gotT (Cond.eq_ints e1 (Term.int_eval k)) h
  rw [fld_at ev] at e1
  subst q
  exact Fld.start e1
def own_ir (a lem rdg : Addr) : Int32 := if Value.ref a = Value.ref lem then 1 else if Value.ref a = Value.ref rdg then 1 else 0
theorem own_ir_l (lem rdg : Addr) : own_ir lem lem rdg = (1 : Int32) := by rw [own_ir, if_pos rfl]
theorem own_ir_r (lem rdg : Addr) : own_ir rdg lem rdg = (1 : Int32) := by rw [own_ir, if_pos (rfl : Value.ref rdg = Value.ref rdg)]; split <;> rfl
theorem own_ir_n {a lem rdg : Addr} (h1 : a ≠ lem) (h2 : a ≠ rdg) : own_ir a lem rdg = (0 : Int32) := by rw [own_ir, if_neg (own_rne h1), if_neg (own_rne h2)]

def Q_ir (Z : State) (a1 : Addr) (lem rdg : Addr) (h0 : Heap) (n0 : Nat) (v : Option Value) (h : Heap) (L : List Loc) : Prop := v = some (.int (own_ir a1 lem rdg)) ∧ Fr n0 L ∧ h = h0
set_option maxRecDepth 65536 in
set_option maxHeartbeats 40000000 in
theorem rm_ir (l : Launch) (Z : State) (a0 : Array Value) (hw : ∀ d ∈ tables_1, d.before a0 Z = true) (ws : List Jvm.Cond) (a1 : Addr) (lem rdg : Addr) (h0 : Heap) (n0 : Nat) (Z0 : n0 ≤ h0.size) (S_LEM : Sta Z h0 "siglum/apparatus/EntryReadings$Child" "LEM" "Lsiglum/apparatus/EntryReadings$Child;" (.ref lem)) (S_RDG : Sta Z h0 "siglum/apparatus/EntryReadings$Child" "RDG" "Lsiglum/apparatus/EntryReadings$Child;" (.ref rdg)) :
    MetFree l (⟨"siglum/apparatus/EntryReadings$Child", "isReading", "()Z"⟩ : MethodName) (head1 (Jvm.Cond.code (⟨"siglum/apparatus/EntryReadings$Child", "isReading", "()Z"⟩ : MethodName) prog_5_method_4_code 1 (some .boolean) :: ws) ({ frames := 0, cells := 0, slots := 0, locals := 0 } : Room)) (fun a U => a = #[(.ref a1)] ∧ Z.Warmed39 U.vm ∧ U.heap = h0) (fun _ _ _ _ _ => True) (fun _ U o U' => ∃ v L, o = .returned v ∧ Q_ir Z a1 lem rdg h0 n0 v U'.heap L ∧ FrameEnd U o U' L ({ frames := 0, cells := 0, slots := 0, locals := 0 } : Room).cells ({ frames := 0, cells := 0, slots := 0, locals := 0 } : Room).slots) := by
  refine MetFree.of_bodySF (plainFor_of_name pn_siglum_apparatus_EntryReadings_Child) hisR ?_
  intro p e s m args below meth c s₁ Bd hml0 hP hK
  obtain ⟨rfl, hZ, hh⟩ := hP
  have hx := Bd.exec
  have hby := Bd.bytes
  have hml : c.maxLocals = 1 := hml0
  have hown : s.vm.findClass "siglum/apparatus/EntryReadings$Child" = some m.cls := findClass_of_methodNamed Bd.named
  have hnm := (name_of_methodNamed Bd.named Bd.method).1
  have X0 : Stand p l e ({ frames := 0, cells := 0, slots := 0, locals := 0 } : Room) s m #[(.ref a1)] below meth c s₁ [] 0 0 := Stand.of_body Bd
  have e0 : s₁.heap = h0 := by rw [← hh, Bd.state]; rfl
  have N0 := Fr.nil n0
  obtain ⟨S0, hS0⟩ : ∃ S0, S0 = s₁.setTop (entryFrame m #[(.ref a1)] 1) := ⟨_, rfl⟩
  have pre : Pth p e below S0 s₁ (mkF m 0 #[.val (.ref a1)] []) := fun t k => by rw [hS0]; exact castTop (ef_ir m a1) k
  replace pre : Pth p e below S0 s₁ (mkF m 1 #[.val (.ref a1)] [(.ref a1)]) := fun t k => pre t (by
    show Steps p.tables e below (s₁.setTop (mkF m 0 #[.val (.ref a1)] [])) t
    refine XS.aloadN X0.here hx rfl (hb hby d_ir_0) rfl rfl ?_
    show Steps p.tables e below (s₁.setTop (mkF m 1 #[.val (.ref a1)] [(.ref a1)])) t
    exact k)
  obtain ⟨T1, X1, e1, st1⟩ := getS2 X0 hx hZ hown (host := "") (Or.inl (hw _ (List.mem_of_getElem? (i := 9) rfl))) Via.refl e0 S_LEM (g := (mkF m 1 #[.val (.ref a1)] [(.ref a1)])) rfl (hb hby d_ir_1)
  replace pre : Pth p e below S0 T1 (mkF m 4 #[.val (.ref a1)] [(.ref lem), (.ref a1)]) := fun t k => pre t (st1 _ k)
  by_cases h1 : ((.ref a1) : Value) = (.ref lem)
  · replace pre : Pth p e below S0 T1 (mkF m 19 #[.val (.ref a1)] [(.int (1 : Int32))]) := fun t k => pre t (by
      show Steps p.tables e below (T1.setTop (mkF m 4 #[.val (.ref a1)] [(.ref lem), (.ref a1)])) t
      refine Jvm.RoadKit.acmp (g := (mkF m 4 #[.val (.ref a1)] [(.ref lem), (.ref a1)])) X1 hx rfl rfl rfl (pc0 := 4) (pc' := 14) (same := true) rfl (hb hby d_ir_4) rfl (decide_eq_true h1) (by decide) (by decide) ?_
      show Steps p.tables e below (T1.setTop (mkF m 14 #[.val (.ref a1)] [])) t
      refine XS.iconst X1.here hx rfl (hb hby d_ir_14) ?_
      show Steps p.tables e below (T1.setTop (mkF m 15 #[.val (.ref a1)] [(.int (1 : Int32))])) t
      refine XS.goto X1.here hx rfl (pc0 := 15) (pc' := 19) rfl (hb hby d_ir_15) (by decide) (by decide) ?_
      show Steps p.tables e below (T1.setTop (mkF m 19 #[.val (.ref a1)] [(.int (1 : Int32))])) t
      exact k)
    obtain ⟨fs, hr, hrun, hended, hW, hsame⟩ := X1.leave (v := some (.int (1 : Int32))) (fun h => by rw [Bd.returns] at h; cases h)
    subst hS0
    refine ⟨_, _, pre _ ?_, hrun, hended, _, _, rfl, ?_, ⟨_, rfl⟩, hW, hsame.mono (by decide) (by decide)⟩
    · exact retN X1 hx (t := .boolean) Bd.returns (by simp) (hb hby d_ir_19) hr
    · show Q_ir Z a1 lem rdg h0 n0 _ T1.heap _
      rw [e1]
      exact ⟨by rw [own_ir, if_pos h1], N0, rfl⟩
  · replace pre : Pth p e below S0 T1 (mkF m 8 #[.val (.ref a1)] [(.ref a1)]) := fun t k => pre t (by
      show Steps p.tables e below (T1.setTop (mkF m 4 #[.val (.ref a1)] [(.ref lem), (.ref a1)])) t
      refine Jvm.RoadKit.acmp (g := (mkF m 4 #[.val (.ref a1)] [(.ref lem), (.ref a1)])) X1 hx rfl rfl rfl (pc0 := 4) (pc' := 7) (same := false) rfl (hb hby d_ir_4) rfl (decide_eq_false h1) (by decide) (by decide) ?_
      show Steps p.tables e below (T1.setTop (mkF m 7 #[.val (.ref a1)] [])) t
      refine XS.aloadN X1.here hx rfl (hb hby d_ir_7) rfl rfl ?_
      show Steps p.tables e below (T1.setTop (mkF m 8 #[.val (.ref a1)] [(.ref a1)])) t
      exact k)
    obtain ⟨T2, X2, e2, st2⟩ := getS2 X1 hx hZ hown (host := "") (Or.inl (hw _ (List.mem_of_getElem? (i := 11) rfl))) Via.refl e1 S_RDG (g := (mkF m 8 #[.val (.ref a1)] [(.ref a1)])) rfl (hb hby d_ir_8)
    replace pre : Pth p e below S0 T2 (mkF m 11 #[.val (.ref a1)] [(.ref rdg), (.ref a1)]) := fun t k => pre t (st2 _ k)
    by_cases h2 : ((.ref a1) : Value) = (.ref rdg)
    · replace pre : Pth p e below S0 T2 (mkF m 19 #[.val (.ref a1)] [(.int (1 : Int32))]) := fun t k => pre t (by
        show Steps p.tables e below (T2.setTop (mkF m 11 #[.val (.ref a1)] [(.ref rdg), (.ref a1)])) t
        refine Jvm.RoadKit.acmp (g := (mkF m 11 #[.val (.ref a1)] [(.ref rdg), (.ref a1)])) X2 hx rfl rfl rfl (pc0 := 11) (pc' := 14) (same := true) rfl (hb hby d_ir_11) rfl (decide_eq_true h2) (by decide) (by decide) ?_
        show Steps p.tables e below (T2.setTop (mkF m 14 #[.val (.ref a1)] [])) t
        refine XS.iconst X2.here hx rfl (hb hby d_ir_14) ?_
        show Steps p.tables e below (T2.setTop (mkF m 15 #[.val (.ref a1)] [(.int (1 : Int32))])) t
        refine XS.goto X2.here hx rfl (pc0 := 15) (pc' := 19) rfl (hb hby d_ir_15) (by decide) (by decide) ?_
        show Steps p.tables e below (T2.setTop (mkF m 19 #[.val (.ref a1)] [(.int (1 : Int32))])) t
        exact k)
      obtain ⟨fs, hr, hrun, hended, hW, hsame⟩ := X2.leave (v := some (.int (1 : Int32))) (fun h => by rw [Bd.returns] at h; cases h)
      subst hS0
      refine ⟨_, _, pre _ ?_, hrun, hended, _, _, rfl, ?_, ⟨_, rfl⟩, hW, hsame.mono (by decide) (by decide)⟩
      · exact retN X2 hx (t := .boolean) Bd.returns (by simp) (hb hby d_ir_19) hr
      · show Q_ir Z a1 lem rdg h0 n0 _ T2.heap _
        rw [e2]
        exact ⟨by rw [own_ir, if_neg h1, if_pos h2], N0, rfl⟩
    · replace pre : Pth p e below S0 T2 (mkF m 19 #[.val (.ref a1)] [(.int (0 : Int32))]) := fun t k => pre t (by
        show Steps p.tables e below (T2.setTop (mkF m 11 #[.val (.ref a1)] [(.ref rdg), (.ref a1)])) t
        refine Jvm.RoadKit.acmp (g := (mkF m 11 #[.val (.ref a1)] [(.ref rdg), (.ref a1)])) X2 hx rfl rfl rfl (pc0 := 11) (pc' := 18) (same := false) rfl (hb hby d_ir_11) rfl (decide_eq_false h2) (by decide) (by decide) ?_
        show Steps p.tables e below (T2.setTop (mkF m 18 #[.val (.ref a1)] [])) t
        refine XS.iconst X2.here hx rfl (hb hby d_ir_18) ?_
        show Steps p.tables e below (T2.setTop (mkF m 19 #[.val (.ref a1)] [(.int (0 : Int32))])) t
        exact k)
      obtain ⟨fs, hr, hrun, hended, hW, hsame⟩ := X2.leave (v := some (.int (0 : Int32))) (fun h => by rw [Bd.returns] at h; cases h)
      subst hS0
      refine ⟨_, _, pre _ ?_, hrun, hended, _, _, rfl, ?_, ⟨_, rfl⟩, hW, hsame.mono (by decide) (by decide)⟩
      · exact retN X2 hx (t := .boolean) Bd.returns (by simp) (hb hby d_ir_19) hr
      · show Q_ir Z a1 lem rdg h0 n0 _ T2.heap _
        rw [e2]
        exact ⟨by rw [own_ir, if_neg h1, if_neg h2], N0, rfl⟩
def Q_law (Z : State) (p0 : Int32) (a_GROUP : Addr) (a_LEM : Addr) (a_RDG : Addr) (a_LACUNA : Addr) (a_OTHER : Addr) (h0 : Heap) (n0 : Nat) (v : Option Value) (h : Heap) (L : List Loc) : Prop := v = some (.int 1) ∧ Fr n0 L
set_option maxRecDepth 65536 in
set_option maxHeartbeats 40000000 in
theorem rm_law (l : Launch) (Z : State) (a0 : Array Value) (hw : ∀ d ∈ tables_1, d.before a0 Z = true) (ws : List Jvm.Cond) (p0 : Int32) (a_GROUP : Addr) (a_LEM : Addr) (a_RDG : Addr) (a_LACUNA : Addr) (a_OTHER : Addr) (h0 : Heap) (n0 : Nat) (Z0 : n0 ≤ h0.size) (S_GROUP : Sta Z h0 "siglum/apparatus/EntryReadings$Child" "GROUP" "Lsiglum/apparatus/EntryReadings$Child;" (.ref a_GROUP)) (E_GROUP : Exa Z h0 a_GROUP "siglum/apparatus/EntryReadings$Child") (S_LEM : Sta Z h0 "siglum/apparatus/EntryReadings$Child" "LEM" "Lsiglum/apparatus/EntryReadings$Child;" (.ref a_LEM)) (E_LEM : Exa Z h0 a_LEM "siglum/apparatus/EntryReadings$Child") (S_RDG : Sta Z h0 "siglum/apparatus/EntryReadings$Child" "RDG" "Lsiglum/apparatus/EntryReadings$Child;" (.ref a_RDG)) (E_RDG : Exa Z h0 a_RDG "siglum/apparatus/EntryReadings$Child") (S_LACUNA : Sta Z h0 "siglum/apparatus/EntryReadings$Child" "LACUNA" "Lsiglum/apparatus/EntryReadings$Child;" (.ref a_LACUNA)) (E_LACUNA : Exa Z h0 a_LACUNA "siglum/apparatus/EntryReadings$Child") (S_OTHER : Sta Z h0 "siglum/apparatus/EntryReadings$Child" "OTHER" "Lsiglum/apparatus/EntryReadings$Child;" (.ref a_OTHER)) (E_OTHER : Exa Z h0 a_OTHER "siglum/apparatus/EntryReadings$Child") (ne_GROUP_LEM : a_GROUP ≠ a_LEM) (ne_GROUP_RDG : a_GROUP ≠ a_RDG) (ne_LACUNA_LEM : a_LACUNA ≠ a_LEM) (ne_LACUNA_RDG : a_LACUNA ≠ a_RDG) (ne_OTHER_LEM : a_OTHER ≠ a_LEM) (ne_OTHER_RDG : a_OTHER ≠ a_RDG) :
    MetFree l x (head1 (Jvm.Cond.code x code maxLocals ret :: ws) room_1) (fun a U => a = #[(.int p0)] ∧ Z.Warmed39 U.vm ∧ U.heap = h0) (fun _ _ _ _ _ => True) (fun _ U o U' => ∃ v L, o = .returned v ∧ Q_law Z p0 a_GROUP a_LEM a_RDG a_LACUNA a_OTHER h0 n0 v U'.heap L ∧ FrameEnd U o U' L room_1.cells room_1.slots) := by
  refine MetFree.of_bodySF (plainFor_of_name pn_siglum_apparatus_ChildIsReadingPinLaw) hisR ?_
  intro p e s m args below meth c s₁ Bd hml0 hP hK
  obtain ⟨rfl, hZ, hh⟩ := hP
  have hx := Bd.exec
  have hby := Bd.bytes
  have hml : c.maxLocals = 4 := hml0
  have hown : s.vm.findClass "siglum/apparatus/ChildIsReadingPinLaw" = some m.cls := findClass_of_methodNamed Bd.named
  have hnm := (name_of_methodNamed Bd.named Bd.method).1
  have X0 : Stand p l e room_1 s m #[(.int p0)] below meth c s₁ [] 0 0 := Stand.of_body Bd
  have e0 : s₁.heap = h0 := by rw [← hh, Bd.state]; rfl
  have N0 := Fr.nil n0
  obtain ⟨S0, hS0⟩ : ∃ S0, S0 = s₁.setTop (entryFrame m #[(.int p0)] maxLocals) := ⟨_, rfl⟩
  have pre : Pth p e below S0 s₁ (mkF m 0 #[.val (.int p0), .unset, .unset, .unset] []) := fun t k => by rw [hS0]; exact castTop (ef_law m p0) k
  replace pre : Pth p e below S0 s₁ (mkF m 7 #[.val (.int p0), .val (.int ((p0 &&& (2147483647 : Int32)) % (5 : Int32))), .unset, .unset] []) := fun t k => pre t (by
    show Steps p.tables e below (s₁.setTop (mkF m 0 #[.val (.int p0), .unset, .unset, .unset] [])) t
    refine XS.iloadN X0.here hx rfl (hb hby at_0) rfl ?_
    show Steps p.tables e below (s₁.setTop (mkF m 1 #[.val (.int p0), .unset, .unset, .unset] [(.int p0)])) t
    refine X0.ldcInt hx hown (mvT hZ (hw _ (List.mem_of_getElem? (i := 0) rfl))) (g := (mkF m 1 #[.val (.int p0), .unset, .unset, .unset] [(.int p0)])) rfl (hb hby at_1) _ ?_
    show Steps p.tables e below (s₁.setTop (mkF m 3 #[.val (.int p0), .unset, .unset, .unset] [(.int (2147483647 : Int32)), (.int p0)])) t
    refine XS.iand X0.here hx rfl (hb hby at_3) rfl ?_
    show Steps p.tables e below (s₁.setTop (mkF m 4 #[.val (.int p0), .unset, .unset, .unset] [(.int (p0 &&& (2147483647 : Int32)))])) t
    refine XS.iconst X0.here hx rfl (hb hby at_4) ?_
    show Steps p.tables e below (s₁.setTop (mkF m 5 #[.val (.int p0), .unset, .unset, .unset] [(.int (5 : Int32)), (.int (p0 &&& (2147483647 : Int32)))])) t
    refine iremM (g := (mkF m 5 #[.val (.int p0), .unset, .unset, .unset] [(.int (5 : Int32)), (.int (p0 &&& (2147483647 : Int32)))])) X0 hx rfl (hb hby at_5) rfl (by decide) ?_
    show Steps p.tables e below (s₁.setTop (mkF m 6 #[.val (.int p0), .unset, .unset, .unset] [(.int ((p0 &&& (2147483647 : Int32)) % (5 : Int32)))])) t
    refine XS.istoreN X0.here hx rfl (hb hby at_6) rfl (l' := #[.val (.int p0), .val (.int ((p0 &&& (2147483647 : Int32)) % (5 : Int32))), .unset, .unset]) rfl ?_
    show Steps p.tables e below (s₁.setTop (mkF m 7 #[.val (.int p0), .val (.int ((p0 &&& (2147483647 : Int32)) % (5 : Int32))), .unset, .unset] [])) t
    exact k)
  obtain ⟨ii, hi⟩ : ∃ z : Int32, z = ((p0 &&& (2147483647 : Int32)) % (5 : Int32)) := ⟨_, rfl⟩
  rw [← hi] at pre
  replace pre : Pth p e below S0 s₁ (mkF m 8 #[.val (.int p0), .val (.int ii), .unset, .unset] [(.int ii)]) := fun t k => pre t (by
    show Steps p.tables e below (s₁.setTop (mkF m 7 #[.val (.int p0), .val (.int ii), .unset, .unset] [])) t
    refine XS.iloadN X0.here hx rfl (hb hby at_7) rfl ?_
    show Steps p.tables e below (s₁.setTop (mkF m 8 #[.val (.int p0), .val (.int ii), .unset, .unset] [(.int ii)])) t
    exact k)
  by_cases k0 : ii = (0 : Int32)
  · replace pre : Pth p e below S0 s₁ (mkF m 11 #[.val (.int p0), .val (.int ii), .unset, .unset] []) := fun t k => pre t (by
      show Steps p.tables e below (s₁.setTop (mkF m 8 #[.val (.int p0), .val (.int ii), .unset, .unset] [(.int ii)])) t
      refine XS.ifNo X0.here hx rfl (hb hby at_8) rfl (XT.i0_ne_f k0) ?_
      show Steps p.tables e below (s₁.setTop (mkF m 11 #[.val (.int p0), .val (.int ii), .unset, .unset] [])) t
      exact k)
    obtain ⟨T3, X3, e3, st3⟩ := getS2 X0 hx hZ hown (host := "") (Or.inl (hw _ (List.mem_of_getElem? (i := 1) rfl))) Via.refl e0 S_GROUP (g := (mkF m 11 #[.val (.int p0), .val (.int ii), .unset, .unset] [])) rfl (hb hby at_11)
    replace pre : Pth p e below S0 T3 (mkF m 14 #[.val (.int p0), .val (.int ii), .unset, .unset] [(.ref a_GROUP)]) := fun t k => pre t (st3 _ k)
    replace pre : Pth p e below S0 T3 (mkF m 69 #[.val (.int p0), .val (.int ii), .val (.ref a_GROUP), .val (.int (0 : Int32))] [(.ref a_GROUP)]) := fun t k => pre t (by
      show Steps p.tables e below (T3.setTop (mkF m 14 #[.val (.int p0), .val (.int ii), .unset, .unset] [(.ref a_GROUP)])) t
      refine XS.astoreN X3.here hx rfl (hb hby at_14) rfl rfl (l' := #[.val (.int p0), .val (.int ii), .val (.ref a_GROUP), .unset]) rfl ?_
      show Steps p.tables e below (T3.setTop (mkF m 15 #[.val (.int p0), .val (.int ii), .val (.ref a_GROUP), .unset] [])) t
      refine XS.iconst X3.here hx rfl (hb hby at_15) ?_
      show Steps p.tables e below (T3.setTop (mkF m 16 #[.val (.int p0), .val (.int ii), .val (.ref a_GROUP), .unset] [(.int (0 : Int32))])) t
      refine XS.istoreN X3.here hx rfl (hb hby at_16) rfl (l' := #[.val (.int p0), .val (.int ii), .val (.ref a_GROUP), .val (.int (0 : Int32))]) rfl ?_
      show Steps p.tables e below (T3.setTop (mkF m 17 #[.val (.int p0), .val (.int ii), .val (.ref a_GROUP), .val (.int (0 : Int32))] [])) t
      refine XS.goto X3.here hx rfl (pc0 := 17) (pc' := 68) rfl (hb hby at_17) (by decide) (by decide) ?_
      show Steps p.tables e below (T3.setTop (mkF m 68 #[.val (.int p0), .val (.int ii), .val (.ref a_GROUP), .val (.int (0 : Int32))] [])) t
      refine XS.aloadN X3.here hx rfl (hb hby at_68) rfl rfl ?_
      show Steps p.tables e below (T3.setTop (mkF m 69 #[.val (.int p0), .val (.int ii), .val (.ref a_GROUP), .val (.int (0 : Int32))] [(.ref a_GROUP)])) t
      exact k)
    obtain ⟨cq4, kq4, q4a, q4b, q4c⟩ := isOf hZ e3 E_GROUP
    obtain ⟨_, _, ⟨T4, L4, k4, n4⟩, -, X4, ⟨Lc4, hQ4, l4, y4, z4⟩, st4⟩ := X3.virtualBack hx (y := (⟨"siglum/apparatus/EntryReadings$Child", "isReading", "()Z"⟩ : MethodName)) (z := (⟨"siglum/apparatus/EntryReadings$Child", "isReading", "()Z"⟩ : MethodName)) hown (mvT hZ (hw _ (List.mem_of_getElem? (i := 4) rfl))) (mvT hZ (hw _ (List.mem_of_getElem? (i := 5) rfl))) (notFace_of_selects (args := #[]) (mvT hZ (hw _ (List.mem_of_getElem? (i := 7) rfl)))) (mvT hZ (hw _ (List.mem_of_getElem? (i := 7) rfl))) (mvT hZ (hw _ (List.mem_of_getElem? (i := 6) rfl))) (by decide) (backOf (W := 0) (rm_ir l Z a0 hw [] a_GROUP a_LEM a_RDG h0 n0 Z0 S_LEM S_RDG) hZ (hw _ (List.mem_of_getElem? (i := 8) rfl)) (hw _ (List.mem_of_getElem? (i := 2) rfl)) (by decide) (by decide)) q4a q4c (g := (mkF m 69 #[.val (.int p0), .val (.int ii), .val (.ref a_GROUP), .val (.int (0 : Int32))] [(.ref a_GROUP)])) rfl (by rw [hml]; rfl) (Steps.refl _) (argsL := []) (rest := []) (lenOf pd___Z rfl) rfl (by show 2 * 0 + _ ≤ _; exact Nat.le_of_eq rfl) (hb hby at_69) (fun _ _ => ⟨rfl, e3, (by decide : 0 + 0 ≤ _), (by decide : 0 + 0 ≤ _)⟩)
    dsimp only [Pt.U, Pt.locs, Pt.cells, Pt.slots] at X4 l4 y4 z4 st4 hQ4
    subst l4 y4 z4
    obtain ⟨rfl, N4q, e4⟩ := hQ4
    have N4 := Fr.app N0 N4q
    replace pre : Pth p e below S0 T4 (mkF m 72 #[.val (.int p0), .val (.int ii), .val (.ref a_GROUP), .val (.int (0 : Int32))] [(.int (own_ir a_GROUP a_LEM a_RDG))]) := fun t k => pre t (st4.trans k)
    replace pre : Pth p e below S0 T4 (mkF m 81 #[.val (.int p0), .val (.int ii), .val (.ref a_GROUP), .val (.int (0 : Int32))] [(.int (1 : Int32))]) := fun t k => pre t (by
      show Steps p.tables e below (T4.setTop (mkF m 72 #[.val (.int p0), .val (.int ii), .val (.ref a_GROUP), .val (.int (0 : Int32))] [(.int (own_ir a_GROUP a_LEM a_RDG))])) t
      refine XS.iloadN X4.here hx rfl (hb hby at_72) rfl ?_
      show Steps p.tables e below (T4.setTop (mkF m 73 #[.val (.int p0), .val (.int ii), .val (.ref a_GROUP), .val (.int (0 : Int32))] [(.int (0 : Int32)), (.int (own_ir a_GROUP a_LEM a_RDG))])) t
      refine XS.icmpNo X4.here hx rfl (hb hby at_73) rfl (XT.ii_ne_f (own_ir_n ne_GROUP_LEM ne_GROUP_RDG)) ?_
      show Steps p.tables e below (T4.setTop (mkF m 76 #[.val (.int p0), .val (.int ii), .val (.ref a_GROUP), .val (.int (0 : Int32))] [])) t
      refine XS.iconst X4.here hx rfl (hb hby at_76) ?_
      show Steps p.tables e below (T4.setTop (mkF m 77 #[.val (.int p0), .val (.int ii), .val (.ref a_GROUP), .val (.int (0 : Int32))] [(.int (1 : Int32))])) t
      refine XS.goto X4.here hx rfl (pc0 := 77) (pc' := 81) rfl (hb hby at_77) (by decide) (by decide) ?_
      show Steps p.tables e below (T4.setTop (mkF m 81 #[.val (.int p0), .val (.int ii), .val (.ref a_GROUP), .val (.int (0 : Int32))] [(.int (1 : Int32))])) t
      exact k)
    obtain ⟨fs, hr, hrun, hended, hW, hsame⟩ := X4.leave (v := some (.int (1 : Int32))) (fun h => by rw [Bd.returns] at h; cases h)
    subst hS0
    refine ⟨_, _, pre _ ?_, hrun, hended, _, _, rfl, ?_, ⟨_, rfl⟩, hW, hsame.mono (by decide) (by decide)⟩
    · exact retN X4 hx (t := .boolean) Bd.returns (by simp) (hb hby at_81) hr
    · show Q_law Z p0 a_GROUP a_LEM a_RDG a_LACUNA a_OTHER h0 n0 _ T4.heap _
      rw [e4]
      exact ⟨rfl, N4⟩
  · replace pre : Pth p e below S0 s₁ (mkF m 22 #[.val (.int p0), .val (.int ii), .unset, .unset] [(.int (1 : Int32)), (.int ii)]) := fun t k => pre t (by
      show Steps p.tables e below (s₁.setTop (mkF m 8 #[.val (.int p0), .val (.int ii), .unset, .unset] [(.int ii)])) t
      refine XS.ifYes X0.here hx rfl (pc0 := 8) (pc' := 20) rfl (hb hby at_8) rfl (XT.i0_ne_t k0) (by decide) (by decide) ?_
      show Steps p.tables e below (s₁.setTop (mkF m 20 #[.val (.int p0), .val (.int ii), .unset, .unset] [])) t
      refine XS.iloadN X0.here hx rfl (hb hby at_20) rfl ?_
      show Steps p.tables e below (s₁.setTop (mkF m 21 #[.val (.int p0), .val (.int ii), .unset, .unset] [(.int ii)])) t
      refine XS.iconst X0.here hx rfl (hb hby at_21) ?_
      show Steps p.tables e below (s₁.setTop (mkF m 22 #[.val (.int p0), .val (.int ii), .unset, .unset] [(.int (1 : Int32)), (.int ii)])) t
      exact k)
    by_cases k1 : ii = (1 : Int32)
    · replace pre : Pth p e below S0 s₁ (mkF m 25 #[.val (.int p0), .val (.int ii), .unset, .unset] []) := fun t k => pre t (by
        show Steps p.tables e below (s₁.setTop (mkF m 22 #[.val (.int p0), .val (.int ii), .unset, .unset] [(.int (1 : Int32)), (.int ii)])) t
        refine XS.icmpNo X0.here hx rfl (hb hby at_22) rfl (XT.ii_ne_f k1) ?_
        show Steps p.tables e below (s₁.setTop (mkF m 25 #[.val (.int p0), .val (.int ii), .unset, .unset] [])) t
        exact k)
      obtain ⟨T5, X5, e5, st5⟩ := getS2 X0 hx hZ hown (host := "") (Or.inl (hw _ (List.mem_of_getElem? (i := 15) rfl))) Via.refl e0 S_LEM (g := (mkF m 25 #[.val (.int p0), .val (.int ii), .unset, .unset] [])) rfl (hb hby at_25)
      replace pre : Pth p e below S0 T5 (mkF m 28 #[.val (.int p0), .val (.int ii), .unset, .unset] [(.ref a_LEM)]) := fun t k => pre t (st5 _ k)
      replace pre : Pth p e below S0 T5 (mkF m 69 #[.val (.int p0), .val (.int ii), .val (.ref a_LEM), .val (.int (1 : Int32))] [(.ref a_LEM)]) := fun t k => pre t (by
        show Steps p.tables e below (T5.setTop (mkF m 28 #[.val (.int p0), .val (.int ii), .unset, .unset] [(.ref a_LEM)])) t
        refine XS.astoreN X5.here hx rfl (hb hby at_28) rfl rfl (l' := #[.val (.int p0), .val (.int ii), .val (.ref a_LEM), .unset]) rfl ?_
        show Steps p.tables e below (T5.setTop (mkF m 29 #[.val (.int p0), .val (.int ii), .val (.ref a_LEM), .unset] [])) t
        refine XS.iconst X5.here hx rfl (hb hby at_29) ?_
        show Steps p.tables e below (T5.setTop (mkF m 30 #[.val (.int p0), .val (.int ii), .val (.ref a_LEM), .unset] [(.int (1 : Int32))])) t
        refine XS.istoreN X5.here hx rfl (hb hby at_30) rfl (l' := #[.val (.int p0), .val (.int ii), .val (.ref a_LEM), .val (.int (1 : Int32))]) rfl ?_
        show Steps p.tables e below (T5.setTop (mkF m 31 #[.val (.int p0), .val (.int ii), .val (.ref a_LEM), .val (.int (1 : Int32))] [])) t
        refine XS.goto X5.here hx rfl (pc0 := 31) (pc' := 68) rfl (hb hby at_31) (by decide) (by decide) ?_
        show Steps p.tables e below (T5.setTop (mkF m 68 #[.val (.int p0), .val (.int ii), .val (.ref a_LEM), .val (.int (1 : Int32))] [])) t
        refine XS.aloadN X5.here hx rfl (hb hby at_68) rfl rfl ?_
        show Steps p.tables e below (T5.setTop (mkF m 69 #[.val (.int p0), .val (.int ii), .val (.ref a_LEM), .val (.int (1 : Int32))] [(.ref a_LEM)])) t
        exact k)
      obtain ⟨cq6, kq6, q6a, q6b, q6c⟩ := isOf hZ e5 E_LEM
      obtain ⟨_, _, ⟨T6, L6, k6, n6⟩, -, X6, ⟨Lc6, hQ6, l6, y6, z6⟩, st6⟩ := X5.virtualBack hx (y := (⟨"siglum/apparatus/EntryReadings$Child", "isReading", "()Z"⟩ : MethodName)) (z := (⟨"siglum/apparatus/EntryReadings$Child", "isReading", "()Z"⟩ : MethodName)) hown (mvT hZ (hw _ (List.mem_of_getElem? (i := 4) rfl))) (mvT hZ (hw _ (List.mem_of_getElem? (i := 5) rfl))) (notFace_of_selects (args := #[]) (mvT hZ (hw _ (List.mem_of_getElem? (i := 7) rfl)))) (mvT hZ (hw _ (List.mem_of_getElem? (i := 7) rfl))) (mvT hZ (hw _ (List.mem_of_getElem? (i := 6) rfl))) (by decide) (backOf (W := 0) (rm_ir l Z a0 hw [] a_LEM a_LEM a_RDG h0 n0 Z0 S_LEM S_RDG) hZ (hw _ (List.mem_of_getElem? (i := 8) rfl)) (hw _ (List.mem_of_getElem? (i := 2) rfl)) (by decide) (by decide)) q6a q6c (g := (mkF m 69 #[.val (.int p0), .val (.int ii), .val (.ref a_LEM), .val (.int (1 : Int32))] [(.ref a_LEM)])) rfl (by rw [hml]; rfl) (Steps.refl _) (argsL := []) (rest := []) (lenOf pd___Z rfl) rfl (by show 2 * 0 + _ ≤ _; exact Nat.le_of_eq rfl) (hb hby at_69) (fun _ _ => ⟨rfl, e5, (by decide : 0 + 0 ≤ _), (by decide : 0 + 0 ≤ _)⟩)
      dsimp only [Pt.U, Pt.locs, Pt.cells, Pt.slots] at X6 l6 y6 z6 st6 hQ6
      subst l6 y6 z6
      obtain ⟨rfl, N6q, e6⟩ := hQ6
      have N6 := Fr.app N0 N6q
      replace pre : Pth p e below S0 T6 (mkF m 72 #[.val (.int p0), .val (.int ii), .val (.ref a_LEM), .val (.int (1 : Int32))] [(.int (own_ir a_LEM a_LEM a_RDG))]) := fun t k => pre t (st6.trans k)
      replace pre : Pth p e below S0 T6 (mkF m 81 #[.val (.int p0), .val (.int ii), .val (.ref a_LEM), .val (.int (1 : Int32))] [(.int (1 : Int32))]) := fun t k => pre t (by
        show Steps p.tables e below (T6.setTop (mkF m 72 #[.val (.int p0), .val (.int ii), .val (.ref a_LEM), .val (.int (1 : Int32))] [(.int (own_ir a_LEM a_LEM a_RDG))])) t
        refine XS.iloadN X6.here hx rfl (hb hby at_72) rfl ?_
        show Steps p.tables e below (T6.setTop (mkF m 73 #[.val (.int p0), .val (.int ii), .val (.ref a_LEM), .val (.int (1 : Int32))] [(.int (1 : Int32)), (.int (own_ir a_LEM a_LEM a_RDG))])) t
        refine XS.icmpNo X6.here hx rfl (hb hby at_73) rfl (XT.ii_ne_f (own_ir_l _ _)) ?_
        show Steps p.tables e below (T6.setTop (mkF m 76 #[.val (.int p0), .val (.int ii), .val (.ref a_LEM), .val (.int (1 : Int32))] [])) t
        refine XS.iconst X6.here hx rfl (hb hby at_76) ?_
        show Steps p.tables e below (T6.setTop (mkF m 77 #[.val (.int p0), .val (.int ii), .val (.ref a_LEM), .val (.int (1 : Int32))] [(.int (1 : Int32))])) t
        refine XS.goto X6.here hx rfl (pc0 := 77) (pc' := 81) rfl (hb hby at_77) (by decide) (by decide) ?_
        show Steps p.tables e below (T6.setTop (mkF m 81 #[.val (.int p0), .val (.int ii), .val (.ref a_LEM), .val (.int (1 : Int32))] [(.int (1 : Int32))])) t
        exact k)
      obtain ⟨fs, hr, hrun, hended, hW, hsame⟩ := X6.leave (v := some (.int (1 : Int32))) (fun h => by rw [Bd.returns] at h; cases h)
      subst hS0
      refine ⟨_, _, pre _ ?_, hrun, hended, _, _, rfl, ?_, ⟨_, rfl⟩, hW, hsame.mono (by decide) (by decide)⟩
      · exact retN X6 hx (t := .boolean) Bd.returns (by simp) (hb hby at_81) hr
      · show Q_law Z p0 a_GROUP a_LEM a_RDG a_LACUNA a_OTHER h0 n0 _ T6.heap _
        rw [e6]
        exact ⟨rfl, N6⟩
    · replace pre : Pth p e below S0 s₁ (mkF m 36 #[.val (.int p0), .val (.int ii), .unset, .unset] [(.int (2 : Int32)), (.int ii)]) := fun t k => pre t (by
        show Steps p.tables e below (s₁.setTop (mkF m 22 #[.val (.int p0), .val (.int ii), .unset, .unset] [(.int (1 : Int32)), (.int ii)])) t
        refine XS.icmpYes X0.here hx rfl (pc0 := 22) (pc' := 34) rfl (hb hby at_22) rfl (XT.ii_ne_t k1) (by decide) (by decide) ?_
        show Steps p.tables e below (s₁.setTop (mkF m 34 #[.val (.int p0), .val (.int ii), .unset, .unset] [])) t
        refine XS.iloadN X0.here hx rfl (hb hby at_34) rfl ?_
        show Steps p.tables e below (s₁.setTop (mkF m 35 #[.val (.int p0), .val (.int ii), .unset, .unset] [(.int ii)])) t
        refine XS.iconst X0.here hx rfl (hb hby at_35) ?_
        show Steps p.tables e below (s₁.setTop (mkF m 36 #[.val (.int p0), .val (.int ii), .unset, .unset] [(.int (2 : Int32)), (.int ii)])) t
        exact k)
      by_cases k2 : ii = (2 : Int32)
      · replace pre : Pth p e below S0 s₁ (mkF m 39 #[.val (.int p0), .val (.int ii), .unset, .unset] []) := fun t k => pre t (by
          show Steps p.tables e below (s₁.setTop (mkF m 36 #[.val (.int p0), .val (.int ii), .unset, .unset] [(.int (2 : Int32)), (.int ii)])) t
          refine XS.icmpNo X0.here hx rfl (hb hby at_36) rfl (XT.ii_ne_f k2) ?_
          show Steps p.tables e below (s₁.setTop (mkF m 39 #[.val (.int p0), .val (.int ii), .unset, .unset] [])) t
          exact k)
        obtain ⟨T7, X7, e7, st7⟩ := getS2 X0 hx hZ hown (host := "") (Or.inl (hw _ (List.mem_of_getElem? (i := 18) rfl))) Via.refl e0 S_RDG (g := (mkF m 39 #[.val (.int p0), .val (.int ii), .unset, .unset] [])) rfl (hb hby at_39)
        replace pre : Pth p e below S0 T7 (mkF m 42 #[.val (.int p0), .val (.int ii), .unset, .unset] [(.ref a_RDG)]) := fun t k => pre t (st7 _ k)
        replace pre : Pth p e below S0 T7 (mkF m 69 #[.val (.int p0), .val (.int ii), .val (.ref a_RDG), .val (.int (1 : Int32))] [(.ref a_RDG)]) := fun t k => pre t (by
          show Steps p.tables e below (T7.setTop (mkF m 42 #[.val (.int p0), .val (.int ii), .unset, .unset] [(.ref a_RDG)])) t
          refine XS.astoreN X7.here hx rfl (hb hby at_42) rfl rfl (l' := #[.val (.int p0), .val (.int ii), .val (.ref a_RDG), .unset]) rfl ?_
          show Steps p.tables e below (T7.setTop (mkF m 43 #[.val (.int p0), .val (.int ii), .val (.ref a_RDG), .unset] [])) t
          refine XS.iconst X7.here hx rfl (hb hby at_43) ?_
          show Steps p.tables e below (T7.setTop (mkF m 44 #[.val (.int p0), .val (.int ii), .val (.ref a_RDG), .unset] [(.int (1 : Int32))])) t
          refine XS.istoreN X7.here hx rfl (hb hby at_44) rfl (l' := #[.val (.int p0), .val (.int ii), .val (.ref a_RDG), .val (.int (1 : Int32))]) rfl ?_
          show Steps p.tables e below (T7.setTop (mkF m 45 #[.val (.int p0), .val (.int ii), .val (.ref a_RDG), .val (.int (1 : Int32))] [])) t
          refine XS.goto X7.here hx rfl (pc0 := 45) (pc' := 68) rfl (hb hby at_45) (by decide) (by decide) ?_
          show Steps p.tables e below (T7.setTop (mkF m 68 #[.val (.int p0), .val (.int ii), .val (.ref a_RDG), .val (.int (1 : Int32))] [])) t
          refine XS.aloadN X7.here hx rfl (hb hby at_68) rfl rfl ?_
          show Steps p.tables e below (T7.setTop (mkF m 69 #[.val (.int p0), .val (.int ii), .val (.ref a_RDG), .val (.int (1 : Int32))] [(.ref a_RDG)])) t
          exact k)
        obtain ⟨cq8, kq8, q8a, q8b, q8c⟩ := isOf hZ e7 E_RDG
        obtain ⟨_, _, ⟨T8, L8, k8, n8⟩, -, X8, ⟨Lc8, hQ8, l8, y8, z8⟩, st8⟩ := X7.virtualBack hx (y := (⟨"siglum/apparatus/EntryReadings$Child", "isReading", "()Z"⟩ : MethodName)) (z := (⟨"siglum/apparatus/EntryReadings$Child", "isReading", "()Z"⟩ : MethodName)) hown (mvT hZ (hw _ (List.mem_of_getElem? (i := 4) rfl))) (mvT hZ (hw _ (List.mem_of_getElem? (i := 5) rfl))) (notFace_of_selects (args := #[]) (mvT hZ (hw _ (List.mem_of_getElem? (i := 7) rfl)))) (mvT hZ (hw _ (List.mem_of_getElem? (i := 7) rfl))) (mvT hZ (hw _ (List.mem_of_getElem? (i := 6) rfl))) (by decide) (backOf (W := 0) (rm_ir l Z a0 hw [] a_RDG a_LEM a_RDG h0 n0 Z0 S_LEM S_RDG) hZ (hw _ (List.mem_of_getElem? (i := 8) rfl)) (hw _ (List.mem_of_getElem? (i := 2) rfl)) (by decide) (by decide)) q8a q8c (g := (mkF m 69 #[.val (.int p0), .val (.int ii), .val (.ref a_RDG), .val (.int (1 : Int32))] [(.ref a_RDG)])) rfl (by rw [hml]; rfl) (Steps.refl _) (argsL := []) (rest := []) (lenOf pd___Z rfl) rfl (by show 2 * 0 + _ ≤ _; exact Nat.le_of_eq rfl) (hb hby at_69) (fun _ _ => ⟨rfl, e7, (by decide : 0 + 0 ≤ _), (by decide : 0 + 0 ≤ _)⟩)
        dsimp only [Pt.U, Pt.locs, Pt.cells, Pt.slots] at X8 l8 y8 z8 st8 hQ8
        subst l8 y8 z8
        obtain ⟨rfl, N8q, e8⟩ := hQ8
        have N8 := Fr.app N0 N8q
        replace pre : Pth p e below S0 T8 (mkF m 72 #[.val (.int p0), .val (.int ii), .val (.ref a_RDG), .val (.int (1 : Int32))] [(.int (own_ir a_RDG a_LEM a_RDG))]) := fun t k => pre t (st8.trans k)
        replace pre : Pth p e below S0 T8 (mkF m 81 #[.val (.int p0), .val (.int ii), .val (.ref a_RDG), .val (.int (1 : Int32))] [(.int (1 : Int32))]) := fun t k => pre t (by
          show Steps p.tables e below (T8.setTop (mkF m 72 #[.val (.int p0), .val (.int ii), .val (.ref a_RDG), .val (.int (1 : Int32))] [(.int (own_ir a_RDG a_LEM a_RDG))])) t
          refine XS.iloadN X8.here hx rfl (hb hby at_72) rfl ?_
          show Steps p.tables e below (T8.setTop (mkF m 73 #[.val (.int p0), .val (.int ii), .val (.ref a_RDG), .val (.int (1 : Int32))] [(.int (1 : Int32)), (.int (own_ir a_RDG a_LEM a_RDG))])) t
          refine XS.icmpNo X8.here hx rfl (hb hby at_73) rfl (XT.ii_ne_f (own_ir_r _ _)) ?_
          show Steps p.tables e below (T8.setTop (mkF m 76 #[.val (.int p0), .val (.int ii), .val (.ref a_RDG), .val (.int (1 : Int32))] [])) t
          refine XS.iconst X8.here hx rfl (hb hby at_76) ?_
          show Steps p.tables e below (T8.setTop (mkF m 77 #[.val (.int p0), .val (.int ii), .val (.ref a_RDG), .val (.int (1 : Int32))] [(.int (1 : Int32))])) t
          refine XS.goto X8.here hx rfl (pc0 := 77) (pc' := 81) rfl (hb hby at_77) (by decide) (by decide) ?_
          show Steps p.tables e below (T8.setTop (mkF m 81 #[.val (.int p0), .val (.int ii), .val (.ref a_RDG), .val (.int (1 : Int32))] [(.int (1 : Int32))])) t
          exact k)
        obtain ⟨fs, hr, hrun, hended, hW, hsame⟩ := X8.leave (v := some (.int (1 : Int32))) (fun h => by rw [Bd.returns] at h; cases h)
        subst hS0
        refine ⟨_, _, pre _ ?_, hrun, hended, _, _, rfl, ?_, ⟨_, rfl⟩, hW, hsame.mono (by decide) (by decide)⟩
        · exact retN X8 hx (t := .boolean) Bd.returns (by simp) (hb hby at_81) hr
        · show Q_law Z p0 a_GROUP a_LEM a_RDG a_LACUNA a_OTHER h0 n0 _ T8.heap _
          rw [e8]
          exact ⟨rfl, N8⟩
      · replace pre : Pth p e below S0 s₁ (mkF m 50 #[.val (.int p0), .val (.int ii), .unset, .unset] [(.int (3 : Int32)), (.int ii)]) := fun t k => pre t (by
          show Steps p.tables e below (s₁.setTop (mkF m 36 #[.val (.int p0), .val (.int ii), .unset, .unset] [(.int (2 : Int32)), (.int ii)])) t
          refine XS.icmpYes X0.here hx rfl (pc0 := 36) (pc' := 48) rfl (hb hby at_36) rfl (XT.ii_ne_t k2) (by decide) (by decide) ?_
          show Steps p.tables e below (s₁.setTop (mkF m 48 #[.val (.int p0), .val (.int ii), .unset, .unset] [])) t
          refine XS.iloadN X0.here hx rfl (hb hby at_48) rfl ?_
          show Steps p.tables e below (s₁.setTop (mkF m 49 #[.val (.int p0), .val (.int ii), .unset, .unset] [(.int ii)])) t
          refine XS.iconst X0.here hx rfl (hb hby at_49) ?_
          show Steps p.tables e below (s₁.setTop (mkF m 50 #[.val (.int p0), .val (.int ii), .unset, .unset] [(.int (3 : Int32)), (.int ii)])) t
          exact k)
        by_cases k3 : ii = (3 : Int32)
        · replace pre : Pth p e below S0 s₁ (mkF m 53 #[.val (.int p0), .val (.int ii), .unset, .unset] []) := fun t k => pre t (by
            show Steps p.tables e below (s₁.setTop (mkF m 50 #[.val (.int p0), .val (.int ii), .unset, .unset] [(.int (3 : Int32)), (.int ii)])) t
            refine XS.icmpNo X0.here hx rfl (hb hby at_50) rfl (XT.ii_ne_f k3) ?_
            show Steps p.tables e below (s₁.setTop (mkF m 53 #[.val (.int p0), .val (.int ii), .unset, .unset] [])) t
            exact k)
          obtain ⟨T9, X9, e9, st9⟩ := getS2 X0 hx hZ hown (host := "") (Or.inl (hw _ (List.mem_of_getElem? (i := 13) rfl))) Via.refl e0 S_LACUNA (g := (mkF m 53 #[.val (.int p0), .val (.int ii), .unset, .unset] [])) rfl (hb hby at_53)
          replace pre : Pth p e below S0 T9 (mkF m 56 #[.val (.int p0), .val (.int ii), .unset, .unset] [(.ref a_LACUNA)]) := fun t k => pre t (st9 _ k)
          replace pre : Pth p e below S0 T9 (mkF m 69 #[.val (.int p0), .val (.int ii), .val (.ref a_LACUNA), .val (.int (0 : Int32))] [(.ref a_LACUNA)]) := fun t k => pre t (by
            show Steps p.tables e below (T9.setTop (mkF m 56 #[.val (.int p0), .val (.int ii), .unset, .unset] [(.ref a_LACUNA)])) t
            refine XS.astoreN X9.here hx rfl (hb hby at_56) rfl rfl (l' := #[.val (.int p0), .val (.int ii), .val (.ref a_LACUNA), .unset]) rfl ?_
            show Steps p.tables e below (T9.setTop (mkF m 57 #[.val (.int p0), .val (.int ii), .val (.ref a_LACUNA), .unset] [])) t
            refine XS.iconst X9.here hx rfl (hb hby at_57) ?_
            show Steps p.tables e below (T9.setTop (mkF m 58 #[.val (.int p0), .val (.int ii), .val (.ref a_LACUNA), .unset] [(.int (0 : Int32))])) t
            refine XS.istoreN X9.here hx rfl (hb hby at_58) rfl (l' := #[.val (.int p0), .val (.int ii), .val (.ref a_LACUNA), .val (.int (0 : Int32))]) rfl ?_
            show Steps p.tables e below (T9.setTop (mkF m 59 #[.val (.int p0), .val (.int ii), .val (.ref a_LACUNA), .val (.int (0 : Int32))] [])) t
            refine XS.goto X9.here hx rfl (pc0 := 59) (pc' := 68) rfl (hb hby at_59) (by decide) (by decide) ?_
            show Steps p.tables e below (T9.setTop (mkF m 68 #[.val (.int p0), .val (.int ii), .val (.ref a_LACUNA), .val (.int (0 : Int32))] [])) t
            refine XS.aloadN X9.here hx rfl (hb hby at_68) rfl rfl ?_
            show Steps p.tables e below (T9.setTop (mkF m 69 #[.val (.int p0), .val (.int ii), .val (.ref a_LACUNA), .val (.int (0 : Int32))] [(.ref a_LACUNA)])) t
            exact k)
          obtain ⟨cq10, kq10, q10a, q10b, q10c⟩ := isOf hZ e9 E_LACUNA
          obtain ⟨_, _, ⟨T10, L10, k10, n10⟩, -, X10, ⟨Lc10, hQ10, l10, y10, z10⟩, st10⟩ := X9.virtualBack hx (y := (⟨"siglum/apparatus/EntryReadings$Child", "isReading", "()Z"⟩ : MethodName)) (z := (⟨"siglum/apparatus/EntryReadings$Child", "isReading", "()Z"⟩ : MethodName)) hown (mvT hZ (hw _ (List.mem_of_getElem? (i := 4) rfl))) (mvT hZ (hw _ (List.mem_of_getElem? (i := 5) rfl))) (notFace_of_selects (args := #[]) (mvT hZ (hw _ (List.mem_of_getElem? (i := 7) rfl)))) (mvT hZ (hw _ (List.mem_of_getElem? (i := 7) rfl))) (mvT hZ (hw _ (List.mem_of_getElem? (i := 6) rfl))) (by decide) (backOf (W := 0) (rm_ir l Z a0 hw [] a_LACUNA a_LEM a_RDG h0 n0 Z0 S_LEM S_RDG) hZ (hw _ (List.mem_of_getElem? (i := 8) rfl)) (hw _ (List.mem_of_getElem? (i := 2) rfl)) (by decide) (by decide)) q10a q10c (g := (mkF m 69 #[.val (.int p0), .val (.int ii), .val (.ref a_LACUNA), .val (.int (0 : Int32))] [(.ref a_LACUNA)])) rfl (by rw [hml]; rfl) (Steps.refl _) (argsL := []) (rest := []) (lenOf pd___Z rfl) rfl (by show 2 * 0 + _ ≤ _; exact Nat.le_of_eq rfl) (hb hby at_69) (fun _ _ => ⟨rfl, e9, (by decide : 0 + 0 ≤ _), (by decide : 0 + 0 ≤ _)⟩)
          dsimp only [Pt.U, Pt.locs, Pt.cells, Pt.slots] at X10 l10 y10 z10 st10 hQ10
          subst l10 y10 z10
          obtain ⟨rfl, N10q, e10⟩ := hQ10
          have N10 := Fr.app N0 N10q
          replace pre : Pth p e below S0 T10 (mkF m 72 #[.val (.int p0), .val (.int ii), .val (.ref a_LACUNA), .val (.int (0 : Int32))] [(.int (own_ir a_LACUNA a_LEM a_RDG))]) := fun t k => pre t (st10.trans k)
          replace pre : Pth p e below S0 T10 (mkF m 81 #[.val (.int p0), .val (.int ii), .val (.ref a_LACUNA), .val (.int (0 : Int32))] [(.int (1 : Int32))]) := fun t k => pre t (by
            show Steps p.tables e below (T10.setTop (mkF m 72 #[.val (.int p0), .val (.int ii), .val (.ref a_LACUNA), .val (.int (0 : Int32))] [(.int (own_ir a_LACUNA a_LEM a_RDG))])) t
            refine XS.iloadN X10.here hx rfl (hb hby at_72) rfl ?_
            show Steps p.tables e below (T10.setTop (mkF m 73 #[.val (.int p0), .val (.int ii), .val (.ref a_LACUNA), .val (.int (0 : Int32))] [(.int (0 : Int32)), (.int (own_ir a_LACUNA a_LEM a_RDG))])) t
            refine XS.icmpNo X10.here hx rfl (hb hby at_73) rfl (XT.ii_ne_f (own_ir_n ne_LACUNA_LEM ne_LACUNA_RDG)) ?_
            show Steps p.tables e below (T10.setTop (mkF m 76 #[.val (.int p0), .val (.int ii), .val (.ref a_LACUNA), .val (.int (0 : Int32))] [])) t
            refine XS.iconst X10.here hx rfl (hb hby at_76) ?_
            show Steps p.tables e below (T10.setTop (mkF m 77 #[.val (.int p0), .val (.int ii), .val (.ref a_LACUNA), .val (.int (0 : Int32))] [(.int (1 : Int32))])) t
            refine XS.goto X10.here hx rfl (pc0 := 77) (pc' := 81) rfl (hb hby at_77) (by decide) (by decide) ?_
            show Steps p.tables e below (T10.setTop (mkF m 81 #[.val (.int p0), .val (.int ii), .val (.ref a_LACUNA), .val (.int (0 : Int32))] [(.int (1 : Int32))])) t
            exact k)
          obtain ⟨fs, hr, hrun, hended, hW, hsame⟩ := X10.leave (v := some (.int (1 : Int32))) (fun h => by rw [Bd.returns] at h; cases h)
          subst hS0
          refine ⟨_, _, pre _ ?_, hrun, hended, _, _, rfl, ?_, ⟨_, rfl⟩, hW, hsame.mono (by decide) (by decide)⟩
          · exact retN X10 hx (t := .boolean) Bd.returns (by simp) (hb hby at_81) hr
          · show Q_law Z p0 a_GROUP a_LEM a_RDG a_LACUNA a_OTHER h0 n0 _ T10.heap _
            rw [e10]
            exact ⟨rfl, N10⟩
        · replace pre : Pth p e below S0 s₁ (mkF m 62 #[.val (.int p0), .val (.int ii), .unset, .unset] []) := fun t k => pre t (by
            show Steps p.tables e below (s₁.setTop (mkF m 50 #[.val (.int p0), .val (.int ii), .unset, .unset] [(.int (3 : Int32)), (.int ii)])) t
            refine XS.icmpYes X0.here hx rfl (pc0 := 50) (pc' := 62) rfl (hb hby at_50) rfl (XT.ii_ne_t k3) (by decide) (by decide) ?_
            show Steps p.tables e below (s₁.setTop (mkF m 62 #[.val (.int p0), .val (.int ii), .unset, .unset] [])) t
            exact k)
          obtain ⟨T11, X11, e11, st11⟩ := getS2 X0 hx hZ hown (host := "") (Or.inl (hw _ (List.mem_of_getElem? (i := 16) rfl))) Via.refl e0 S_OTHER (g := (mkF m 62 #[.val (.int p0), .val (.int ii), .unset, .unset] [])) rfl (hb hby at_62)
          replace pre : Pth p e below S0 T11 (mkF m 65 #[.val (.int p0), .val (.int ii), .unset, .unset] [(.ref a_OTHER)]) := fun t k => pre t (st11 _ k)
          replace pre : Pth p e below S0 T11 (mkF m 69 #[.val (.int p0), .val (.int ii), .val (.ref a_OTHER), .val (.int (0 : Int32))] [(.ref a_OTHER)]) := fun t k => pre t (by
            show Steps p.tables e below (T11.setTop (mkF m 65 #[.val (.int p0), .val (.int ii), .unset, .unset] [(.ref a_OTHER)])) t
            refine XS.astoreN X11.here hx rfl (hb hby at_65) rfl rfl (l' := #[.val (.int p0), .val (.int ii), .val (.ref a_OTHER), .unset]) rfl ?_
            show Steps p.tables e below (T11.setTop (mkF m 66 #[.val (.int p0), .val (.int ii), .val (.ref a_OTHER), .unset] [])) t
            refine XS.iconst X11.here hx rfl (hb hby at_66) ?_
            show Steps p.tables e below (T11.setTop (mkF m 67 #[.val (.int p0), .val (.int ii), .val (.ref a_OTHER), .unset] [(.int (0 : Int32))])) t
            refine XS.istoreN X11.here hx rfl (hb hby at_67) rfl (l' := #[.val (.int p0), .val (.int ii), .val (.ref a_OTHER), .val (.int (0 : Int32))]) rfl ?_
            show Steps p.tables e below (T11.setTop (mkF m 68 #[.val (.int p0), .val (.int ii), .val (.ref a_OTHER), .val (.int (0 : Int32))] [])) t
            refine XS.aloadN X11.here hx rfl (hb hby at_68) rfl rfl ?_
            show Steps p.tables e below (T11.setTop (mkF m 69 #[.val (.int p0), .val (.int ii), .val (.ref a_OTHER), .val (.int (0 : Int32))] [(.ref a_OTHER)])) t
            exact k)
          obtain ⟨cq12, kq12, q12a, q12b, q12c⟩ := isOf hZ e11 E_OTHER
          obtain ⟨_, _, ⟨T12, L12, k12, n12⟩, -, X12, ⟨Lc12, hQ12, l12, y12, z12⟩, st12⟩ := X11.virtualBack hx (y := (⟨"siglum/apparatus/EntryReadings$Child", "isReading", "()Z"⟩ : MethodName)) (z := (⟨"siglum/apparatus/EntryReadings$Child", "isReading", "()Z"⟩ : MethodName)) hown (mvT hZ (hw _ (List.mem_of_getElem? (i := 4) rfl))) (mvT hZ (hw _ (List.mem_of_getElem? (i := 5) rfl))) (notFace_of_selects (args := #[]) (mvT hZ (hw _ (List.mem_of_getElem? (i := 7) rfl)))) (mvT hZ (hw _ (List.mem_of_getElem? (i := 7) rfl))) (mvT hZ (hw _ (List.mem_of_getElem? (i := 6) rfl))) (by decide) (backOf (W := 0) (rm_ir l Z a0 hw [] a_OTHER a_LEM a_RDG h0 n0 Z0 S_LEM S_RDG) hZ (hw _ (List.mem_of_getElem? (i := 8) rfl)) (hw _ (List.mem_of_getElem? (i := 2) rfl)) (by decide) (by decide)) q12a q12c (g := (mkF m 69 #[.val (.int p0), .val (.int ii), .val (.ref a_OTHER), .val (.int (0 : Int32))] [(.ref a_OTHER)])) rfl (by rw [hml]; rfl) (Steps.refl _) (argsL := []) (rest := []) (lenOf pd___Z rfl) rfl (by show 2 * 0 + _ ≤ _; exact Nat.le_of_eq rfl) (hb hby at_69) (fun _ _ => ⟨rfl, e11, (by decide : 0 + 0 ≤ _), (by decide : 0 + 0 ≤ _)⟩)
          dsimp only [Pt.U, Pt.locs, Pt.cells, Pt.slots] at X12 l12 y12 z12 st12 hQ12
          subst l12 y12 z12
          obtain ⟨rfl, N12q, e12⟩ := hQ12
          have N12 := Fr.app N0 N12q
          replace pre : Pth p e below S0 T12 (mkF m 72 #[.val (.int p0), .val (.int ii), .val (.ref a_OTHER), .val (.int (0 : Int32))] [(.int (own_ir a_OTHER a_LEM a_RDG))]) := fun t k => pre t (st12.trans k)
          replace pre : Pth p e below S0 T12 (mkF m 81 #[.val (.int p0), .val (.int ii), .val (.ref a_OTHER), .val (.int (0 : Int32))] [(.int (1 : Int32))]) := fun t k => pre t (by
            show Steps p.tables e below (T12.setTop (mkF m 72 #[.val (.int p0), .val (.int ii), .val (.ref a_OTHER), .val (.int (0 : Int32))] [(.int (own_ir a_OTHER a_LEM a_RDG))])) t
            refine XS.iloadN X12.here hx rfl (hb hby at_72) rfl ?_
            show Steps p.tables e below (T12.setTop (mkF m 73 #[.val (.int p0), .val (.int ii), .val (.ref a_OTHER), .val (.int (0 : Int32))] [(.int (0 : Int32)), (.int (own_ir a_OTHER a_LEM a_RDG))])) t
            refine XS.icmpNo X12.here hx rfl (hb hby at_73) rfl (XT.ii_ne_f (own_ir_n ne_OTHER_LEM ne_OTHER_RDG)) ?_
            show Steps p.tables e below (T12.setTop (mkF m 76 #[.val (.int p0), .val (.int ii), .val (.ref a_OTHER), .val (.int (0 : Int32))] [])) t
            refine XS.iconst X12.here hx rfl (hb hby at_76) ?_
            show Steps p.tables e below (T12.setTop (mkF m 77 #[.val (.int p0), .val (.int ii), .val (.ref a_OTHER), .val (.int (0 : Int32))] [(.int (1 : Int32))])) t
            refine XS.goto X12.here hx rfl (pc0 := 77) (pc' := 81) rfl (hb hby at_77) (by decide) (by decide) ?_
            show Steps p.tables e below (T12.setTop (mkF m 81 #[.val (.int p0), .val (.int ii), .val (.ref a_OTHER), .val (.int (0 : Int32))] [(.int (1 : Int32))])) t
            exact k)
          obtain ⟨fs, hr, hrun, hended, hW, hsame⟩ := X12.leave (v := some (.int (1 : Int32))) (fun h => by rw [Bd.returns] at h; cases h)
          subst hS0
          refine ⟨_, _, pre _ ?_, hrun, hended, _, _, rfl, ?_, ⟨_, rfl⟩, hW, hsame.mono (by decide) (by decide)⟩
          · exact retN X12 hx (t := .boolean) Bd.returns (by simp) (hb hby at_81) hr
          · show Q_law Z p0 a_GROUP a_LEM a_RDG a_LACUNA a_OTHER h0 n0 _ T12.heap _
            rw [e12]
            exact ⟨rfl, N12⟩
set_option maxRecDepth 65536 in
set_option maxHeartbeats 40000000 in
theorem comes_1 {Post : Tables → Env → Array Value → State → Outcome → State → Prop} (hpost : ∀ tb e args s v u, (limb_1_1.after args s (.returned v) u = true ∧ limb_1_2.after args s (.returned v) u = true ∧ True) → FrameEnd s (.returned v) u (Jvm.fieldLocs frame_1_writes args s ++ Jvm.arrayLocs frame_1_arrays args s ++ Jvm.staticLocs frame_1_statics s) 0 0 → Post tb e args s (.returned v) u) :
    ArmFor flags0 classFile x code maxLocals ret World_1 tables_1 room_1 Calls_1 rest_1 Pre_1 Post := by
  intro l hfl _ _ p e ha hc hk s m args below hf hA hF happ hP
  obtain ⟨hcalls, hrest, hpre⟩ := hP
  obtain ⟨-, -, -, hnamed, -, -, -, hat⟩ := (Spec.applies_iff hf).mp happ
  obtain ⟨hg, hn⟩ := and_e (Cond.before_iff.mp (show (Jvm.Cond.and given_1 narrow_1).before args s = true from hpre))
  obtain ⟨gv1a, gv1b⟩ := and_e hg
  obtain ⟨w0, rfl⟩ : ∃ w0 : Value, args = #[w0] := by
    have hs : args.size = 1 := by simpa [Cond.value, given_1] using gv1a
    obtain ⟨L⟩ := args
    match L, hs with
    | [w0], _ => exact ⟨w0, rfl⟩
  have hw := fun d (hd : d ∈ tables_1) => atoms_spec (ws := Jvm.Cond.code x code maxLocals ret :: tables_1) hat d (List.mem_cons_of_mem _ hd)
  have hfit : Fit s := fun {y c} hc i hi => by
    obtain ⟨ha, rfl⟩ := Array.getElem?_eq_some_iff.mp hc
    have q := List.all_eq_true.mp ((Array.all_eq_true_iff_forall_mem.mp hF) _ (Array.getElem_mem ha)) i (List.mem_range.mpr hi)
    simpa [Array.getElem?_eq_getElem hi] using q
  obtain ⟨i0, ei0⟩ := is_v gv1b
  obtain rfl : w0 = (.int i0) := Option.some.inj ei0
  obtain ⟨d0_hx_GROUP, e0_hx_GROUP⟩ := and_e hn
  have hx_GROUP := d0_hx_GROUP
  obtain ⟨d2_hx_LEM, e2_hx_LEM⟩ := and_e e0_hx_GROUP
  have hx_LEM := d2_hx_LEM
  obtain ⟨d4_ho_GROUP, e4_ho_GROUP⟩ := and_e e2_hx_LEM
  have ho_GROUP := d4_ho_GROUP
  obtain ⟨d6_ho_LEM, e6_ho_LEM⟩ := and_e e4_ho_GROUP
  have ho_LEM := d6_ho_LEM
  obtain ⟨d8_hx_RDG, e8_hx_RDG⟩ := and_e e6_ho_LEM
  have hx_RDG := d8_hx_RDG
  obtain ⟨d10_ho_RDG, e10_ho_RDG⟩ := and_e e8_hx_RDG
  have ho_RDG := d10_ho_RDG
  obtain ⟨d12_hx_LACUNA, e12_hx_LACUNA⟩ := and_e e10_ho_RDG
  have hx_LACUNA := d12_hx_LACUNA
  obtain ⟨d14_ho_LACUNA, e14_ho_LACUNA⟩ := and_e e12_hx_LACUNA
  have ho_LACUNA := d14_ho_LACUNA
  obtain ⟨d16_hx_OTHER, e16_hx_OTHER⟩ := and_e e14_ho_LACUNA
  have hx_OTHER := d16_hx_OTHER
  have ho_OTHER := e16_hx_OTHER
  obtain ⟨a_GROUP, ev_GROUP⟩ := exa_v hx_GROUP
  have E_GROUP := Exa.start ev_GROUP hx_GROUP
  have S_GROUP := Sta.start ev_GROUP (Or.inr ⟨(hw _ (List.mem_of_getElem? (i := 2) rfl)), (hw _ (List.mem_of_getElem? (i := 3) rfl))⟩)
  have O_GROUP := own_fldeq ev_GROUP ho_GROUP
  obtain ⟨a_LEM, ev_LEM⟩ := exa_v hx_LEM
  have E_LEM := Exa.start ev_LEM hx_LEM
  have S_LEM := Sta.start ev_LEM (Or.inr ⟨(hw _ (List.mem_of_getElem? (i := 2) rfl)), (hw _ (List.mem_of_getElem? (i := 10) rfl))⟩)
  have O_LEM := own_fldeq ev_LEM ho_LEM
  obtain ⟨a_RDG, ev_RDG⟩ := exa_v hx_RDG
  have E_RDG := Exa.start ev_RDG hx_RDG
  have S_RDG := Sta.start ev_RDG (Or.inr ⟨(hw _ (List.mem_of_getElem? (i := 2) rfl)), (hw _ (List.mem_of_getElem? (i := 12) rfl))⟩)
  have O_RDG := own_fldeq ev_RDG ho_RDG
  obtain ⟨a_LACUNA, ev_LACUNA⟩ := exa_v hx_LACUNA
  have E_LACUNA := Exa.start ev_LACUNA hx_LACUNA
  have S_LACUNA := Sta.start ev_LACUNA (Or.inr ⟨(hw _ (List.mem_of_getElem? (i := 2) rfl)), (hw _ (List.mem_of_getElem? (i := 14) rfl))⟩)
  have O_LACUNA := own_fldeq ev_LACUNA ho_LACUNA
  obtain ⟨a_OTHER, ev_OTHER⟩ := exa_v hx_OTHER
  have E_OTHER := Exa.start ev_OTHER hx_OTHER
  have S_OTHER := Sta.start ev_OTHER (Or.inr ⟨(hw _ (List.mem_of_getElem? (i := 2) rfl)), (hw _ (List.mem_of_getElem? (i := 17) rfl))⟩)
  have O_OTHER := own_fldeq ev_OTHER ho_OTHER
  have ne_GROUP_LEM : a_GROUP ≠ a_LEM := Fld.ne O_GROUP O_LEM (by decide)
  have ne_GROUP_RDG : a_GROUP ≠ a_RDG := Fld.ne O_GROUP O_RDG (by decide)
  have ne_LACUNA_LEM : a_LACUNA ≠ a_LEM := Fld.ne O_LACUNA O_LEM (by decide)
  have ne_LACUNA_RDG : a_LACUNA ≠ a_RDG := Fld.ne O_LACUNA O_RDG (by decide)
  have ne_OTHER_LEM : a_OTHER ≠ a_LEM := Fld.ne O_OTHER O_LEM (by decide)
  have ne_OTHER_RDG : a_OTHER ≠ a_RDG := Fld.ne O_OTHER O_RDG (by decide)
  obtain ⟨n, o, h1, h2, h3, _, L, rfl, ⟨rfl, N⟩, hq⟩ := rm_law l s _ hw tables_1 i0 a_GROUP a_LEM a_RDG a_LACUNA a_OTHER s.heap s.heap.size (Nat.le_refl _) S_GROUP E_GROUP S_LEM E_LEM S_RDG E_RDG S_LACUNA E_LACUNA S_OTHER E_OTHER ne_GROUP_LEM ne_GROUP_RDG ne_LACUNA_LEM ne_LACUNA_RDG ne_OTHER_LEM ne_OTHER_RDG p e ha hc hk s m _ below hf ((Spec.applies_iff_loose hf).mp happ).1 ⟨rfl, State.Warmed39.refl s, rfl⟩ trivial
  refine ⟨n, _, h1, h2, h3, hpost _ _ _ _ _ _ ⟨Cond.after_iff.mpr rfl, Cond.after_iff.mpr (eq_i res_at (Term.int_eval (1)) rfl), trivial⟩ ⟨hq.1, hq.2.1, (hq.2.2.sift fun y hy => Or.inr (N y hy)).mono (by decide) (by decide)⟩⟩
theorem main_1_1 : Claimed_1_1 := comes_1 fun _ _ _ _ _ _ h hF => ⟨h.1, hF⟩
theorem main_1_2 : Claimed_1_2 := comes_1 fun _ _ _ _ _ _ h hF => ⟨h.2.1, hF⟩
end Jvm.Pilot.@@N@@
namespace Jvm.Pilot.@@N@@
open Jvm Jvm.ClassFile Sem Op Lib Jvm.Free Jvm.Stand Jvm.Pilot.@@N@@.Jvm.D
/-! MADE BY PROGRAM (witnessworld.py) out of the Statement's table words and the real class files: 12 classes; the members and pool entries that the words name. The judged class is class 1, her method 1. -/
namespace start1
open Jvm.ClassFile
def u (s : String) : CpInfo := .utf8 (stringToUtf16 s)
/-- a pool by its gaps: so many unusable entries, then the entry; so many at the end -/
def gap : Nat → List CpInfo → List CpInfo
  | 0, r => r
  | n + 1, r => .unusable :: gap n r
def poolList (es : List (Nat × CpInfo)) (last : Nat) : List CpInfo := es.foldr (fun e r => gap e.1 (e.2 :: r)) (gap last [])
def pool (es : List (Nat × CpInfo)) (last : Nat) : Array CpInfo := ⟨poolList es last⟩
def fileOf (pool : Array CpInfo) (this : Nat) (attrs : Array Attribute := #[]) (ms : Array MethodInfo := #[]) (fl : Nat := 33) (sup : Nat := 0) (ifs : Array Nat := #[]) (fds : Array FieldInfo := #[]) : ClassFile where
  minorVersion := 0
  majorVersion := 65
  constantPool := pool
  accessFlags := fl
  thisClass := this
  superClass := sup
  interfaces := ifs
  fields := fds
  methods := ms
  attributes := attrs
def plain (name : String) (sup : Option ClassId) : Class where
  name := name
  kind := .ordinary
  loader := none
  accessFlags := 33
  super := sup
  interfaces := #[]
  cf := none
  fields := #[]
  methods := #[]
  instanceTypes := #[]
  staticTypes := #[]
  resolved := #[]
  callSites := []
  init := .initialized
  statics := none
  mirror := none

def pool0 : Array CpInfo := pool [(5, u "<init>"), (0, u "()V"), (1, .class_ 10), (1, u "java/lang/Object")] 113

def k0m0 : Method := { name := "<init>", desc := "()V", sig := { parameters := [], returnType := none }, accessFlags := 1, code := none }
/-- java/lang/Object -/
def k0 : Class := { plain "java/lang/Object" none with
  accessFlags := 33
  interfaces := #[]
  cf := some (fileOf pool0 8 #[] #[{ accessFlags := 1, nameIndex := 5, descriptorIndex := 6, attributes := #[] }] 33 0 #[] #[])
  fields := #[]
  methods := #[k0m0]
  instanceTypes := #[]
  staticTypes := #[]
  resolved := Array.replicate 124 none
  statics := none }

def pool1 : Array CpInfo := pool [(2, .class_ 4), (1, u "java/lang/Object"), (0, u "<init>"), (0, u "()V"), (0, .integer 2147483647), (0, .fieldref 9 10), (0, .class_ 11), (0, .nameAndType 12 13), (0, u "siglum/apparatus/EntryReadings$Child"), (0, u "GROUP"), (0, u "Lsiglum/apparatus/EntryReadings$Child;"), (0, .fieldref 9 15), (0, .nameAndType 16 13), (0, u "LEM"), (0, .fieldref 9 18), (0, .nameAndType 19 13), (0, u "RDG"), (0, .fieldref 9 21), (0, .nameAndType 22 13), (0, u "LACUNA"), (0, .fieldref 9 24), (0, .nameAndType 25 13), (0, u "OTHER"), (0, .methodref 9 27), (0, .nameAndType 28 29), (0, u "isReading"), (0, u "()Z"), (0, .class_ 31), (0, u "siglum/apparatus/ChildIsReadingPinLaw"), (2, u "law"), (0, u "(I)Z")] 7

def k1m0 : Method := { name := "<init>", desc := "()V", sig := { parameters := [], returnType := none }, accessFlags := 2, code := none }
def k1c1 : Code := { maxStack := 2, maxLocals := 4, code := code, exceptionTable := #[], attributes := #[] }
def k1m1 : Method := { name := "law", desc := "(I)Z", sig := { parameters := [.int], returnType := some .boolean }, accessFlags := 9, code := some k1c1 }
/-- siglum/apparatus/ChildIsReadingPinLaw -/
def k1 : Class := { plain "siglum/apparatus/ChildIsReadingPinLaw" (some 0) with
  accessFlags := 49
  interfaces := #[]
  cf := some (fileOf pool1 30 #[] #[{ accessFlags := 2, nameIndex := 5, descriptorIndex := 6, attributes := #[] }, { accessFlags := 9, nameIndex := 34, descriptorIndex := 35, attributes := #[] }] 49 2 #[] #[])
  fields := #[]
  methods := #[k1m0, k1m1]
  instanceTypes := #[]
  staticTypes := #[]
  resolved := Array.replicate 43 none
  statics := none }

def pool2 : Array CpInfo := pool [(1, .class_ 2), (0, u "java/lang/constant/Constable"), (0, .class_ 4), (0, u "java/lang/Object")] 6

/-- java/lang/constant/Constable -/
def k2 : Class := { plain "java/lang/constant/Constable" (some 0) with
  accessFlags := 1537
  interfaces := #[]
  cf := some (fileOf pool2 1 #[] #[] 1537 3 #[] #[])
  fields := #[]
  methods := #[]
  instanceTypes := #[]
  staticTypes := #[]
  resolved := Array.replicate 11 none
  statics := none }

def pool3 : Array CpInfo := pool [(1, .class_ 2), (0, u "java/lang/Comparable"), (0, .class_ 4), (0, u "java/lang/Object")] 7

/-- java/lang/Comparable -/
def k3 : Class := { plain "java/lang/Comparable" (some 0) with
  accessFlags := 1537
  interfaces := #[]
  cf := some (fileOf pool3 1 #[] #[] 1537 3 #[] #[])
  fields := #[]
  methods := #[]
  instanceTypes := #[]
  staticTypes := #[]
  resolved := Array.replicate 12 none
  statics := none }

def pool4 : Array CpInfo := pool [(1, .class_ 2), (0, u "java/io/Serializable"), (0, .class_ 4), (0, u "java/lang/Object")] 2

/-- java/io/Serializable -/
def k4 : Class := { plain "java/io/Serializable" (some 0) with
  accessFlags := 1537
  interfaces := #[]
  cf := some (fileOf pool4 1 #[] #[] 1537 3 #[] #[])
  fields := #[]
  methods := #[]
  instanceTypes := #[]
  staticTypes := #[]
  resolved := Array.replicate 7 none
  statics := none }

def pool5 : Array CpInfo := pool [(2, .class_ 4), (1, u "java/lang/Enum"), (0, u "name"), (0, u "Ljava/lang/String;"), (2, u "ordinal"), (0, u "I"), (1, .class_ 14), (1, u "java/lang/Object"), (4, u "hash"), (86, .class_ 108), (1, u "java/lang/Enum$EnumDesc"), (2, .class_ 112), (0, u "java/lang/constant/Constable"), (0, .class_ 114), (0, u "java/lang/Comparable"), (0, .class_ 116), (0, u "java/io/Serializable")] 87

/-- java/lang/Enum -/
def k5 : Class := { plain "java/lang/Enum" (some 0) with
  accessFlags := 1057
  interfaces := #[2, 3, 4]
  cf := some (fileOf pool5 2 #[.nestMembers #[106]] #[] 1057 12 #[111, 113, 115] #[{ accessFlags := 18, nameIndex := 5, descriptorIndex := 6, attributes := #[] }, { accessFlags := 18, nameIndex := 9, descriptorIndex := 10, attributes := #[] }, { accessFlags := 2, nameIndex := 19, descriptorIndex := 10, attributes := #[] }])
  fields := #[{ name := "name", type := (.object "java/lang/String"), accessFlags := 18, slot := 0, constantValue := 0 }, { name := "ordinal", type := .int, accessFlags := 18, slot := 1, constantValue := 0 }, { name := "hash", type := .int, accessFlags := 2, slot := 2, constantValue := 0 }]
  methods := #[]
  instanceTypes := #[(.object "java/lang/String"), .int, .int]
  staticTypes := #[]
  resolved := Array.replicate 204 none
  statics := none }

def pool6 : Array CpInfo := pool [(1, .class_ 2), (0, u "siglum/apparatus/EntryReadings$Child"), (2, u "GROUP"), (0, u "Lsiglum/apparatus/EntryReadings$Child;"), (0, .fieldref 1 8), (0, .nameAndType 9 6), (0, u "LEM"), (0, .fieldref 1 11), (0, .nameAndType 12 6), (0, u "RDG"), (2, u "LACUNA"), (2, u "OTHER"), (2, u "$VALUES"), (0, u "[Lsiglum/apparatus/EntryReadings$Child;"), (6, .class_ 31), (1, u "java/lang/Enum"), (23, u "isReading"), (0, u "()Z"), (6, .class_ 64), (0, u "siglum/apparatus/EntryReadings")] 2

def k6c0 : Code := { maxStack := 2, maxLocals := 1, code := prog_5_method_4_code, exceptionTable := #[], attributes := #[] }
def k6m0 : Method := { name := "isReading", desc := "()Z", sig := { parameters := [], returnType := some .boolean }, accessFlags := 1, code := some k6c0 }
/-- siglum/apparatus/EntryReadings$Child -/
def k6 : Class := { plain "siglum/apparatus/EntryReadings$Child" (some 5) with
  accessFlags := 16433
  interfaces := #[]
  cf := some (fileOf pool6 1 #[.nestHost 63] #[{ accessFlags := 1, nameIndex := 55, descriptorIndex := 56, attributes := #[] }] 16433 29 #[] #[{ accessFlags := 16409, nameIndex := 5, descriptorIndex := 6, attributes := #[] }, { accessFlags := 16409, nameIndex := 9, descriptorIndex := 6, attributes := #[] }, { accessFlags := 16409, nameIndex := 12, descriptorIndex := 6, attributes := #[] }, { accessFlags := 16409, nameIndex := 15, descriptorIndex := 6, attributes := #[] }, { accessFlags := 16409, nameIndex := 18, descriptorIndex := 6, attributes := #[] }, { accessFlags := 4122, nameIndex := 21, descriptorIndex := 22, attributes := #[] }])
  fields := #[{ name := "GROUP", type := (.object "siglum/apparatus/EntryReadings$Child"), accessFlags := 16409, slot := 0, constantValue := 0 }, { name := "LEM", type := (.object "siglum/apparatus/EntryReadings$Child"), accessFlags := 16409, slot := 1, constantValue := 0 }, { name := "RDG", type := (.object "siglum/apparatus/EntryReadings$Child"), accessFlags := 16409, slot := 2, constantValue := 0 }, { name := "LACUNA", type := (.object "siglum/apparatus/EntryReadings$Child"), accessFlags := 16409, slot := 3, constantValue := 0 }, { name := "OTHER", type := (.object "siglum/apparatus/EntryReadings$Child"), accessFlags := 16409, slot := 4, constantValue := 0 }, { name := "$VALUES", type := (.array (.object "siglum/apparatus/EntryReadings$Child")), accessFlags := 4122, slot := 5, constantValue := 0 }]
  methods := #[k6m0]
  instanceTypes := #[(.object "java/lang/String"), .int, .int]
  staticTypes := #[(.object "siglum/apparatus/EntryReadings$Child"), (.object "siglum/apparatus/EntryReadings$Child"), (.object "siglum/apparatus/EntryReadings$Child"), (.object "siglum/apparatus/EntryReadings$Child"), (.object "siglum/apparatus/EntryReadings$Child"), (.array (.object "siglum/apparatus/EntryReadings$Child"))]
  resolved := Array.replicate 67 none
  statics := some 0 }

def pool7 : Array CpInfo := pool [(1, u "java/lang/Cloneable"), (0, .class_ 1), (0, u "java/lang/Object"), (0, .class_ 3)] 3

/-- java/lang/Cloneable -/
def k7 : Class := { plain "java/lang/Cloneable" (some 0) with
  accessFlags := 1537
  interfaces := #[]
  cf := some (fileOf pool7 2 #[] #[] 1537 4 #[] #[])
  fields := #[]
  methods := #[]
  instanceTypes := #[]
  staticTypes := #[]
  resolved := Array.replicate 8 none
  statics := none }

/-- the primitive byte -/
def k8 : Class := { plain "byte" none with kind := .primitive 'B', accessFlags := 0x411 }
/-- [B -/
def k9 : Class := { plain "[B" (some 0) with kind := .array 8 .byte, interfaces := #[7, 4], accessFlags := 1041 }

/-- the primitive int -/
def k10 : Class := { plain "int" none with kind := .primitive 'I', accessFlags := 0x411 }
/-- [I -/
def k11 : Class := { plain "[I" (some 0) with kind := .array 10 .int, interfaces := #[7, 4], accessFlags := 1041 }

def heap : Heap := #[{ cls := 6, slots := #[.ref 1, .ref 2, .ref 3, .ref 4, .ref 5, .null], vm := .statics 6 },
  { cls := 6, slots := #[.null, .int 0, .int 0], vm := .none },
  { cls := 6, slots := #[.null, .int 1, .int 0], vm := .none },
  { cls := 6, slots := #[.null, .int 2, .int 0], vm := .none },
  { cls := 6, slots := #[.null, .int 3, .int 0], vm := .none },
  { cls := 6, slots := #[.null, .int 4, .int 0], vm := .none }]
def classes : Array Class := #[k0, k1, k2, k3, k4, k5, k6, k7, k8, k9, k10, k11]
def interned : List (Array UInt16 × Addr) := []
def slotsUsed : Nat := 21
def theMethod : MethodId := ⟨1, 1⟩
def args0 : Array Value := #[.int 5]
def aboutOver (below : List Frame) : State where
  vm := { classes := classes, interned := interned.toArray }
  heap := heap
  slotsUsed := slotsUsed
  threads := #[{ frames := .invoking theMethod args0 :: below }]
def below0 : List Frame := [.native { method := ⟨0, 0⟩, args := #[] }]
def about1 : State := aboutOver below0
def p0 : Program := .bare "" "" ""
def e0 : Env := launch0.env 0 0 0
theorem w_frames : about1.frames = Frame.invoking theMethod args0 :: below0 := rfl
set_option maxRecDepth 65536 in
theorem w_args : argsFit about1.vm theMethod args0 = true := by decide +kernel
set_option maxRecDepth 65536 in
theorem w_heap : heapFits about1 = true := by decide +kernel
set_option maxRecDepth 65536 in
theorem w_runnable : about1.curStatus? = some .runnable := by decide +kernel
set_option maxRecDepth 65536 in
theorem w_alone : about1.alone = true := by decide +kernel
set_option maxRecDepth 65536 in
theorem w_named : about1.methodNamed? x = some theMethod := by decide +kernel
set_option maxRecDepth 65536 in
theorem w_hears : about1.hears theMethod below0 = true := by decide +kernel
set_option maxRecDepth 65536 in
theorem w_ripe : about1.ripe theMethod args0 below0 = true := by decide +kernel
theorem w_running : about1.status = .running := rfl
set_option maxRecDepth 65536 in
theorem w_room : about1.hasRoom e0.platform room_1 = true :=
  launch0.hasRoom_least _ room_1 (by decide +kernel) (by decide +kernel) (by decide +kernel) (by decide +kernel) (by decide +kernel) (by decide +kernel)
theorem allAtoms_all (ts : List Jvm.Cond) (a : Array Jvm.Value) (st : Jvm.State) : (allAtoms ts).before a st = ts.all (fun c => c.before a st) := by
  induction ts with
  | nil => rfl
  | cons c t ih =>
    show (Jvm.Cond.and c (allAtoms t)).before a st = _
    rw [Jvm.Cond.before_and, ih, List.all_cons]
def words1 : List Jvm.Cond := Jvm.Cond.code x code maxLocals ret :: tables_1
/-- a 'code' word, met by the world's own term for the bytes: nothing is compared byte by byte -/
theorem code_word {y : MethodName} {bytes : ByteArray} {mx : Nat} {rt : Option FieldType} {a : Array Value} {s : State} {m : MethodId} {meth : Method} {c : Code} (h1 : s.methodNamed? y = some m) (h2 : s.vm.method? m = some meth) (h3 : meth.code = some c) (h4 : c.code = bytes)
    (h5 : (c.maxLocals == mx && c.exceptionTable.isEmpty && decide (c.maxStack ≤ mostOperands) && decide (meth.sig.returnType = rt) && !meth.locks && decide (parseMethodDescriptor y.desc = some meth.sig)) = true) : (Jvm.Cond.code y bytes mx rt).before a s = true := by
  simp only [Bool.and_eq_true, beq_iff_eq, Bool.not_eq_true', decide_eq_true_eq] at h5
  obtain ⟨⟨⟨⟨⟨g1, g2⟩, g3⟩, g4⟩, g5⟩, g6⟩ := h5
  simp [Cond.before, Cond.holds, Cond.value, h1, h2, h3, h4, g1, g2, g3, g4, g5, g6]
def isCode : Jvm.Cond → Bool
  | .code _ _ _ _ => true
  | _ => false
theorem all_split {L : List Jvm.Cond} {P : Jvm.Cond → Bool} (h1 : L.all (fun c => isCode c || P c) = true) (h2 : ∀ c ∈ L.filter isCode, P c = true) : L.all P = true := by
  refine List.all_eq_true.mpr fun c hc => ?_
  have h := List.all_eq_true.mp h1 c hc
  rcases Bool.eq_false_or_eq_true (isCode c) with hi | hi
  · exact h2 c (List.mem_filter.mpr ⟨hc, hi⟩)
  · simpa [hi] using h
set_option maxRecDepth 65536 in
theorem w_c0 : (Jvm.Cond.code x code maxLocals ret).before args0 about1 = true := code_word (m := ⟨1, 1⟩) (meth := k1m1) (c := k1c1) (by decide +kernel) rfl rfl rfl (by decide +kernel)
set_option maxRecDepth 65536 in
theorem w_c1 : (Jvm.Cond.code ({ cls := "siglum/apparatus/EntryReadings$Child", name := "isReading", desc := "()Z" } : Jvm.MethodName) prog_5_method_4_code (1 : Nat) (Option.some Jvm.ClassFile.FieldType.boolean)).before args0 about1 = true := code_word (m := ⟨6, 0⟩) (meth := k6m0) (c := k6c0) (by decide +kernel) rfl rfl rfl (by decide +kernel)
def codes1 : List Jvm.Cond := [Jvm.Cond.code x code maxLocals ret, Jvm.Cond.code ({ cls := "siglum/apparatus/EntryReadings$Child", name := "isReading", desc := "()Z" } : Jvm.MethodName) prog_5_method_4_code (1 : Nat) (Option.some Jvm.ClassFile.FieldType.boolean)]
set_option maxRecDepth 65536 in
theorem codes_eq : words1.filter isCode = codes1 := rfl
theorem w_codes : ∀ c ∈ words1.filter isCode, c.before args0 about1 = true := by
  rw [codes_eq]
  intro c hc
  simp only [codes1, List.mem_cons, List.not_mem_nil, or_false] at hc
  rcases hc with rfl | rfl
  · exact w_c0
  · exact w_c1
set_option maxRecDepth 65536 in
theorem w_t1 : words1.all (fun c => isCode c || c.before args0 about1) = true := by decide +kernel
theorem w_tables : (allAtoms (Jvm.Cond.code x code maxLocals ret :: tables_1)).before args0 about1 = true := by
  rw [allAtoms_all]
  show words1.all (fun c => c.before args0 about1) = true
  refine all_split ?_ w_codes
  rw [w_t1]
set_option maxRecDepth 65536 in
theorem w_case : (Jvm.Cond.and given_1 narrow_1).before args0 about1 = true := by decide +kernel
theorem w_applies : (headSpec (Jvm.Cond.code x code maxLocals ret :: tables_1) room_1).applies x e0.platform about1 = true :=
  (Spec.applies_iff w_frames).mpr ⟨w_running, w_runnable, w_alone, w_named, w_hears, w_ripe, w_room, w_tables⟩
theorem atStart : AtStart classFile x code maxLocals ret World_1 tables_1 room_1 Calls_1 rest_1 Pre_1 launch0 p0 e0 about1 theMethod args0 below0 :=
  ⟨lists_1, trivial, launch0.admits_env _ _ _, launch0.least_env, fairChoices_fair.cas, fairChoices_fair.clock, w_frames, w_args, w_heap, w_applies, trivial, trivial, w_case⟩
end start1
theorem witness_1 : WitnessClaimed_1 := ⟨start1.p0, start1.e0, start1.about1, start1.theMethod, start1.args0, start1.below0, start1.atStart⟩
end Jvm.Pilot.@@N@@
