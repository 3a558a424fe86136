import JvmDerived
import JvmDerived.Pilot.@@N@@Statement
import JvmDerived.Pilot.@@N@@Code
set_option linter.unusedVariables false
set_option linter.unusedSimpArgs false

namespace Jvm.RoadKit
open Sem ClassFile Op Lib Jvm.Stand Jvm.Free Jvm.LawKit
section New
variable {p : Program} {l : Launch} {e : Env} {R : Room} {s : State} {m : MethodId} {args : Array Value} {below : List Frame} {meth : Method} {c : Code} {T : State} {locs : List Loc} {cells slots : Nat}
theorem retI (X : Stand p l e R s m args below meth c T locs cells slots) (hx : p.tables.exec = Jvm.exec) {pc : Nat} {Ls : Array Slot} {z : Int32} {rest : List Value} (hret : meth.sig.returnType = some .int) (hd : decode c.code pc = .ok (.ireturn, 1)) {fs : List Frame}
    (hl : ∀ (f : JFrame) (acts : List Action), f.method = m → f.locked = none → f.entered = [] → (doReturn e (T.setTop f) acts (some (.int z))).1 = T.setFrames fs) : Steps p.tables e below (T.setTop (mkF m pc Ls (.int z :: rest))) (T.setFrames fs) := by
  have hm' : T.vm.method? m = some meth := X.method'
  have hn : narrow .int (.int z) = .int z := rfl
  show Steps p.tables e below (T.setTop { method := m, pc := pc, locals := Ls, stack := _ :: rest, locked := none }) _
  jvm_step X.here [X.here.top, hx, hd, hm', hret, hn]
  first | (intro acts; rw [hl _ acts rfl rfl rfl]) | rw [hl _ _ rfl rfl rfl]
  exact Steps.refl _
end New
end Jvm.RoadKit
namespace Jvm.Pilot.@@N@@
open Jvm Jvm.ClassFile Sem Op Lib Jvm.Free Jvm.Stand Jvm.LawKit Jvm.RoadKit Bundle Jvm.Pilot.@@N@@.Jvm.D
/-- from S0 the run comes to T with the frame g on top -/
abbrev Pth (p : Program) (e : Env) (below : List Frame) (S0 T : State) (g : JFrame) : Prop := ∀ t, Steps p.tables e below (T.setTop g) t → Steps p.tables e below S0 t
theorem ef_md (m : MethodId) (x0 : Int32)  : entryFrame m #[(.int x0)] 1 = mkF m 0 #[.val (.int x0)] [] := by first | (simp [entryFrame, mkF, argsToLocals, Value.category]; done) | rfl
theorem pn_com_example_signalbox_signalbox_engine_LockModeCompatibleWithPinLaw : plainName "com/example/signalbox/signalbox/engine/LockModeCompatibleWithPinLaw" = true := by first | (simp [plainName, overriddenIn]; done) | decide +kernel
theorem d_md_0 : decode method_2_code 0 = .ok (.iload_n 0, 1) := by decide +kernel
theorem d_md_1 : decode method_2_code 1 = .ok (.ifCond .ne 7, 3) := by decide +kernel
theorem d_md_4 : decode method_2_code 4 = .ok (.getstatic 7, 3) := by decide +kernel
theorem d_md_7 : decode method_2_code 7 = .ok (.areturn, 1) := by decide +kernel
theorem d_md_8 : decode method_2_code 8 = .ok (.iload_n 0, 1) := by decide +kernel
theorem d_md_9 : decode method_2_code 9 = .ok (.iconst 1, 1) := by decide +kernel
theorem d_md_10 : decode method_2_code 10 = .ok (.if_icmp .ne 7, 3) := by decide +kernel
theorem d_md_13 : decode method_2_code 13 = .ok (.getstatic 13, 3) := by decide +kernel
theorem d_md_16 : decode method_2_code 16 = .ok (.areturn, 1) := by decide +kernel
theorem d_md_17 : decode method_2_code 17 = .ok (.getstatic 16, 3) := by decide +kernel
theorem d_md_20 : decode method_2_code 20 = .ok (.areturn, 1) := by decide +kernel
theorem ef_cw (m : MethodId) (x0 : Addr) (x1 : Addr)  : entryFrame m #[(.ref x0), (.ref x1)] 2 = mkF m 0 #[.val (.ref x0), .val (.ref x1)] [] := by first | (simp [entryFrame, mkF, argsToLocals, Value.category]; done) | rfl
theorem pn_com_example_signalbox_signalbox_engine_LockMode : plainName "com/example/signalbox/signalbox/engine/LockMode" = true := by first | (simp [plainName, overriddenIn]; done) | decide +kernel
theorem d_cw_0 : decode prog_44_method_5_code 0 = .ok (.aload_n 0, 1) := by decide +kernel
theorem d_cw_1 : decode prog_44_method_5_code 1 = .ok (.getstatic 10, 3) := by decide +kernel
theorem d_cw_4 : decode prog_44_method_5_code 4 = .ok (.if_acmp .eq 28, 3) := by decide +kernel
theorem d_cw_32 : decode prog_44_method_5_code 32 = .ok (.iconst 0, 1) := by decide +kernel
theorem d_cw_33 : decode prog_44_method_5_code 33 = .ok (.ireturn, 1) := by decide +kernel
theorem d_cw_7 : decode prog_44_method_5_code 7 = .ok (.aload_n 1, 1) := by decide +kernel
theorem d_cw_8 : decode prog_44_method_5_code 8 = .ok (.getstatic 10, 3) := by decide +kernel
theorem d_cw_11 : decode prog_44_method_5_code 11 = .ok (.if_acmp .eq 21, 3) := by decide +kernel
theorem d_cw_14 : decode prog_44_method_5_code 14 = .ok (.aload_n 0, 1) := by decide +kernel
theorem d_cw_15 : decode prog_44_method_5_code 15 = .ok (.getstatic 3, 3) := by decide +kernel
theorem d_cw_18 : decode prog_44_method_5_code 18 = .ok (.if_acmp .eq 10, 3) := by decide +kernel
theorem d_cw_28 : decode prog_44_method_5_code 28 = .ok (.iconst 1, 1) := by decide +kernel
theorem d_cw_29 : decode prog_44_method_5_code 29 = .ok (.goto 4, 3) := by decide +kernel
theorem d_cw_21 : decode prog_44_method_5_code 21 = .ok (.aload_n 1, 1) := by decide +kernel
theorem d_cw_22 : decode prog_44_method_5_code 22 = .ok (.getstatic 3, 3) := by decide +kernel
theorem d_cw_25 : decode prog_44_method_5_code 25 = .ok (.if_acmp .ne 7, 3) := by decide +kernel
theorem ef_law (m : MethodId) (x0 : Int32) (x1 : Int32)  : entryFrame m #[(.int x0), (.int x1)] maxLocals = mkF m 0 #[.val (.int x0), .val (.int x1), .unset, .unset, .unset, .unset, .unset, .unset, .unset] [] := by first | (simp [entryFrame, mkF, argsToLocals, Value.category, maxLocals]; done) | rfl
theorem pd__I_Lcom_example_signalbox_signalbox_engine_LockMode_ : parseMethodDescriptor "(I)Lcom/example/signalbox/signalbox/engine/LockMode;" = some ⟨[.int], some (.object "com/example/signalbox/signalbox/engine/LockMode")⟩ := by decide +kernel
theorem pd__Lcom_example_signalbox_signalbox_engine_LockMode__Z : parseMethodDescriptor "(Lcom/example/signalbox/signalbox/engine/LockMode;)Z" = some ⟨[(.object "com/example/signalbox/signalbox/engine/LockMode")], some .boolean⟩ := by decide +kernel
theorem own_rne {a b : Addr} (h : a ≠ b) : ¬ (Value.ref a = Value.ref b) := fun q => h (Value.ref.inj q)
theorem own_fldeq {args : Array Value} {s : State} {t : Term} {C n d : String} {a : Addr} {k : Int32} (ev : t.eval args s none [] s = some (.ref a)) (h : (Jvm.Cond.eq (.field t C n d) (.int k)).value args s none s [] = some true) : Fld s s.heap a C n d (.int k) := by
  obtain ⟨x, y, e1, e2, k1, k2⟩ := cmp_v (Or.inl h)
  rw [Term.int_eval] at e2
  cases e2
  obtain ⟨z, rfl⟩ := k2
  have q := gotT (Cond.eq_ints e1 (Term.int_eval k)) h
  rw [fld_at ev] at e1
  subst q
  exact Fld.start e1
def own_md (k : Int32) (a b c : Addr) : Addr := if k = 0 then a else if k = 1 then b else c
def own_cw (a b sh ex : Addr) : Int32 := if Value.ref a = Value.ref ex then 0 else if Value.ref b = Value.ref ex then 0 else if Value.ref a = Value.ref sh then 1 else if Value.ref b = Value.ref sh then 1 else 0
theorem own_mdE {Z : State} {h : Heap} {C : String} {a b c : Addr} (k : Int32) (h1 : Exa Z h a C) (h2 : Exa Z h b C) (h3 : Exa Z h c C) : Exa Z h (own_md k a b c) C := by
  unfold own_md; split
  · exact h1
  · split
    · exact h2
    · exact h3
theorem own_r3 {x m : Int32} (h : m = (x &&& (2147483647 : Int32)) % (3 : Int32)) : m = 0 ∨ m = 1 ∨ m = 2 := by
  have h0 : 0 ≤ (x &&& (2147483647 : Int32)).toInt := by
    have h : ¬ (x &&& (2147483647 : Int32)) < 0 := fun q => absurd ((XT.and_neg32 _ _).mp q).2 (by decide)
    rw [Int32.lt_iff_toInt_lt] at h
    have z : (0 : Int32).toInt = 0 := rfl
    omega
  have h3 : (3 : Int32).toInt = 3 := rfl
  have hr : m.toInt = (x &&& (2147483647 : Int32)).toInt % 3 := by rw [h, Int32.toInt_mod, h3, Int.tmod_eq_emod_of_nonneg h0]
  have b : m.toInt = 0 ∨ m.toInt = 1 ∨ m.toInt = 2 := by omega
  rcases b with q | q | q
  · exact Or.inl (Int32.toInt_inj.mp q)
  · exact Or.inr (Or.inl (Int32.toInt_inj.mp q))
  · exact Or.inr (Or.inr (Int32.toInt_inj.mp q))
theorem own_sw {a b : Int32} {P : Int32 → Prop} (h : P (a + b)) : P (b + a) := by rw [Int32.add_comm]; exact h
theorem own_no {a b : Int32} {sh up ex : Addr} (ra : a = 0 ∨ a = 1 ∨ a = 2) (rb : b = 0 ∨ b = 1 ∨ b = 2) (n1 : sh ≠ up) (n2 : sh ≠ ex) (n3 : up ≠ ex) (h : (1 : Int32) < (a + b)) : own_cw (own_md a sh up ex) (own_md b sh up ex) sh ex = (0 : Int32) := by
  have m1 := n1.symm; have m2 := n2.symm; have m3 := n3.symm
  rcases ra with rfl | rfl | rfl <;> rcases rb with rfl | rfl | rfl <;> first | (exact absurd h (by decide)) | simp [own_cw, own_md, n1, n2, n3, m1, m2, m3]
theorem own_yes {a b : Int32} {sh up ex : Addr} (ra : a = 0 ∨ a = 1 ∨ a = 2) (rb : b = 0 ∨ b = 1 ∨ b = 2) (n1 : sh ≠ up) (n2 : sh ≠ ex) (n3 : up ≠ ex) (h : ¬ (1 : Int32) < (a + b)) : own_cw (own_md a sh up ex) (own_md b sh up ex) sh ex = (1 : Int32) := by
  have m1 := n1.symm; have m2 := n2.symm; have m3 := n3.symm
  rcases ra with rfl | rfl | rfl <;> rcases rb with rfl | rfl | rfl <;> first | (exact absurd (by decide) h) | simp [own_cw, own_md, n1, n2, n3, m1, m2, m3]

def Q_md (Z : State) (p1 : Int32) (sh up ex : Addr) (h0 : Heap) (n0 : Nat) (v : Option Value) (h : Heap) (L : List Loc) : Prop := v = some (.ref (own_md p1 sh up ex)) ∧ Fr n0 L ∧ h = h0
set_option maxRecDepth 65536 in
set_option maxHeartbeats 40000000 in
theorem rm_md (l : Launch) (Z : State) (a0 : Array Value) (hw : ∀ d ∈ tables_1, d.before a0 Z = true) (ws : List Jvm.Cond) (p1 : Int32) (sh up ex : Addr) (h0 : Heap) (n0 : Nat) (Z0 : n0 ≤ h0.size) (S_SHARED : Sta Z h0 "com/example/signalbox/signalbox/engine/LockMode" "SHARED" "Lcom/example/signalbox/signalbox/engine/LockMode;" (.ref sh)) (S_UPDATE : Sta Z h0 "com/example/signalbox/signalbox/engine/LockMode" "UPDATE" "Lcom/example/signalbox/signalbox/engine/LockMode;" (.ref up)) (S_EXCLUSIVE : Sta Z h0 "com/example/signalbox/signalbox/engine/LockMode" "EXCLUSIVE" "Lcom/example/signalbox/signalbox/engine/LockMode;" (.ref ex)) :
    MetFree l (⟨"com/example/signalbox/signalbox/engine/LockModeCompatibleWithPinLaw", "mode", "(I)Lcom/example/signalbox/signalbox/engine/LockMode;"⟩ : MethodName) (head1 (Jvm.Cond.code (⟨"com/example/signalbox/signalbox/engine/LockModeCompatibleWithPinLaw", "mode", "(I)Lcom/example/signalbox/signalbox/engine/LockMode;"⟩ : MethodName) method_2_code 1 (some (.object "com/example/signalbox/signalbox/engine/LockMode")) :: ws) ({ frames := 0, cells := 0, slots := 0, locals := 0 } : Room)) (fun a U => a = #[(.int p1)] ∧ Z.Warmed39 U.vm ∧ U.heap = h0) (fun _ _ _ _ _ => True) (fun _ U o U' => ∃ v L, o = .returned v ∧ Q_md Z p1 sh up ex h0 n0 v U'.heap L ∧ FrameEnd U o U' L ({ frames := 0, cells := 0, slots := 0, locals := 0 } : Room).cells ({ frames := 0, cells := 0, slots := 0, locals := 0 } : Room).slots) := by
  refine MetFree.of_bodySF (plainFor_of_name pn_com_example_signalbox_signalbox_engine_LockModeCompatibleWithPinLaw) hisR ?_
  intro p e s m args below meth c s₁ Bd hml0 hP hK
  obtain ⟨rfl, hZ, hh⟩ := hP
  have hx := Bd.exec
  have hby := Bd.bytes
  have hml : c.maxLocals = 1 := hml0
  have hown : s.vm.findClass "com/example/signalbox/signalbox/engine/LockModeCompatibleWithPinLaw" = some m.cls := findClass_of_methodNamed Bd.named
  have hnm := (name_of_methodNamed Bd.named Bd.method).1
  have X0 : Stand p l e ({ frames := 0, cells := 0, slots := 0, locals := 0 } : Room) s m #[(.int p1)] below meth c s₁ [] 0 0 := Stand.of_body Bd
  have e0 : s₁.heap = h0 := by rw [← hh, Bd.state]; rfl
  have N0 := Fr.nil n0
  obtain ⟨S0, hS0⟩ : ∃ S0, S0 = s₁.setTop (entryFrame m #[(.int p1)] 1) := ⟨_, rfl⟩
  have pre : Pth p e below S0 s₁ (mkF m 0 #[.val (.int p1)] []) := fun t k => by rw [hS0]; exact castTop (ef_md m p1) k
  replace pre : Pth p e below S0 s₁ (mkF m 1 #[.val (.int p1)] [(.int p1)]) := fun t k => pre t (by
    show Steps p.tables e below (s₁.setTop (mkF m 0 #[.val (.int p1)] [])) t
    refine XS.iloadN X0.here hx rfl (hb hby d_md_0) rfl ?_
    show Steps p.tables e below (s₁.setTop (mkF m 1 #[.val (.int p1)] [(.int p1)])) t
    exact k)
  by_cases h1 : p1 = (0 : Int32)
  · replace pre : Pth p e below S0 s₁ (mkF m 4 #[.val (.int p1)] []) := fun t k => pre t (by
      show Steps p.tables e below (s₁.setTop (mkF m 1 #[.val (.int p1)] [(.int p1)])) t
      refine XS.ifNo X0.here hx rfl (hb hby d_md_1) rfl (XT.i0_ne_f h1) ?_
      show Steps p.tables e below (s₁.setTop (mkF m 4 #[.val (.int p1)] [])) t
      exact k)
    obtain ⟨T1, X1, e1, st1⟩ := getS2 X0 hx hZ hown (host := "") (Or.inl (hw _ (List.mem_of_getElem? (i := 5) rfl))) Via.refl e0 S_SHARED (g := (mkF m 4 #[.val (.int p1)] [])) rfl (hb hby d_md_4)
    replace pre : Pth p e below S0 T1 (mkF m 7 #[.val (.int p1)] [(.ref sh)]) := fun t k => pre t (st1 _ k)
    obtain ⟨fs, hr, hrun, hended, hW, hsame⟩ := X1.leave (v := some (.ref sh)) (fun h => by rw [Bd.returns] at h; cases h)
    subst hS0
    refine ⟨_, _, pre _ ?_, hrun, hended, _, _, rfl, ?_, ⟨_, rfl⟩, hW, hsame.mono (by decide) (by decide)⟩
    · exact retOut X1 hx (t := (.object "com/example/signalbox/signalbox/engine/LockMode")) Bd.returns rfl (by simp [Value.isRef, FieldType.isReference]) (hb hby d_md_7) hr
    · show Q_md Z p1 sh up ex h0 n0 _ T1.heap _
      rw [e1]
      exact ⟨by rw [own_md, if_pos h1], N0, rfl⟩
  · replace pre : Pth p e below S0 s₁ (mkF m 10 #[.val (.int p1)] [(.int (1 : Int32)), (.int p1)]) := fun t k => pre t (by
      show Steps p.tables e below (s₁.setTop (mkF m 1 #[.val (.int p1)] [(.int p1)])) t
      refine XS.ifYes X0.here hx rfl (pc0 := 1) (pc' := 8) rfl (hb hby d_md_1) rfl (XT.i0_ne_t h1) (by decide) (by decide) ?_
      show Steps p.tables e below (s₁.setTop (mkF m 8 #[.val (.int p1)] [])) t
      refine XS.iloadN X0.here hx rfl (hb hby d_md_8) rfl ?_
      show Steps p.tables e below (s₁.setTop (mkF m 9 #[.val (.int p1)] [(.int p1)])) t
      refine XS.iconst X0.here hx rfl (hb hby d_md_9) ?_
      show Steps p.tables e below (s₁.setTop (mkF m 10 #[.val (.int p1)] [(.int (1 : Int32)), (.int p1)])) t
      exact k)
    by_cases h2 : p1 = (1 : Int32)
    · replace pre : Pth p e below S0 s₁ (mkF m 13 #[.val (.int p1)] []) := fun t k => pre t (by
        show Steps p.tables e below (s₁.setTop (mkF m 10 #[.val (.int p1)] [(.int (1 : Int32)), (.int p1)])) t
        refine XS.icmpNo X0.here hx rfl (hb hby d_md_10) rfl (XT.ii_ne_f h2) ?_
        show Steps p.tables e below (s₁.setTop (mkF m 13 #[.val (.int p1)] [])) t
        exact k)
      obtain ⟨T2, X2, e2, st2⟩ := getS2 X0 hx hZ hown (host := "") (Or.inl (hw _ (List.mem_of_getElem? (i := 17) rfl))) Via.refl e0 S_UPDATE (g := (mkF m 13 #[.val (.int p1)] [])) rfl (hb hby d_md_13)
      replace pre : Pth p e below S0 T2 (mkF m 16 #[.val (.int p1)] [(.ref up)]) := fun t k => pre t (st2 _ k)
      obtain ⟨fs, hr, hrun, hended, hW, hsame⟩ := X2.leave (v := some (.ref up)) (fun h => by rw [Bd.returns] at h; cases h)
      subst hS0
      refine ⟨_, _, pre _ ?_, hrun, hended, _, _, rfl, ?_, ⟨_, rfl⟩, hW, hsame.mono (by decide) (by decide)⟩
      · exact retOut X2 hx (t := (.object "com/example/signalbox/signalbox/engine/LockMode")) Bd.returns rfl (by simp [Value.isRef, FieldType.isReference]) (hb hby d_md_16) hr
      · show Q_md Z p1 sh up ex h0 n0 _ T2.heap _
        rw [e2]
        exact ⟨by rw [own_md, if_neg h1, if_pos h2], N0, rfl⟩
    · replace pre : Pth p e below S0 s₁ (mkF m 17 #[.val (.int p1)] []) := fun t k => pre t (by
        show Steps p.tables e below (s₁.setTop (mkF m 10 #[.val (.int p1)] [(.int (1 : Int32)), (.int p1)])) t
        refine XS.icmpYes X0.here hx rfl (pc0 := 10) (pc' := 17) rfl (hb hby d_md_10) rfl (XT.ii_ne_t h2) (by decide) (by decide) ?_
        show Steps p.tables e below (s₁.setTop (mkF m 17 #[.val (.int p1)] [])) t
        exact k)
      obtain ⟨T3, X3, e3, st3⟩ := getS2 X0 hx hZ hown (host := "") (Or.inl (hw _ (List.mem_of_getElem? (i := 16) rfl))) Via.refl e0 S_EXCLUSIVE (g := (mkF m 17 #[.val (.int p1)] [])) rfl (hb hby d_md_17)
      replace pre : Pth p e below S0 T3 (mkF m 20 #[.val (.int p1)] [(.ref ex)]) := fun t k => pre t (st3 _ k)
      obtain ⟨fs, hr, hrun, hended, hW, hsame⟩ := X3.leave (v := some (.ref ex)) (fun h => by rw [Bd.returns] at h; cases h)
      subst hS0
      refine ⟨_, _, pre _ ?_, hrun, hended, _, _, rfl, ?_, ⟨_, rfl⟩, hW, hsame.mono (by decide) (by decide)⟩
      · exact retOut X3 hx (t := (.object "com/example/signalbox/signalbox/engine/LockMode")) Bd.returns rfl (by simp [Value.isRef, FieldType.isReference]) (hb hby d_md_20) hr
      · show Q_md Z p1 sh up ex h0 n0 _ T3.heap _
        rw [e3]
        exact ⟨by rw [own_md, if_neg h1, if_neg h2], N0, rfl⟩
def Q_cw (Z : State) (a1 : Addr) (b1 : Addr) (sh ex : Addr) (h0 : Heap) (n0 : Nat) (v : Option Value) (h : Heap) (L : List Loc) : Prop := v = some (.int (own_cw a1 b1 sh ex)) ∧ Fr n0 L ∧ h = h0
set_option maxRecDepth 65536 in
set_option maxHeartbeats 40000000 in
theorem rm_cw (l : Launch) (Z : State) (a0 : Array Value) (hw : ∀ d ∈ tables_1, d.before a0 Z = true) (ws : List Jvm.Cond) (a1 : Addr) (b1 : Addr) (sh ex : Addr) (h0 : Heap) (n0 : Nat) (Z0 : n0 ≤ h0.size) (S_SHARED : Sta Z h0 "com/example/signalbox/signalbox/engine/LockMode" "SHARED" "Lcom/example/signalbox/signalbox/engine/LockMode;" (.ref sh)) (S_EXCLUSIVE : Sta Z h0 "com/example/signalbox/signalbox/engine/LockMode" "EXCLUSIVE" "Lcom/example/signalbox/signalbox/engine/LockMode;" (.ref ex)) :
    MetFree l (⟨"com/example/signalbox/signalbox/engine/LockMode", "compatibleWith", "(Lcom/example/signalbox/signalbox/engine/LockMode;)Z"⟩ : MethodName) (head1 (Jvm.Cond.code (⟨"com/example/signalbox/signalbox/engine/LockMode", "compatibleWith", "(Lcom/example/signalbox/signalbox/engine/LockMode;)Z"⟩ : MethodName) prog_44_method_5_code 2 (some .boolean) :: ws) ({ frames := 0, cells := 0, slots := 0, locals := 0 } : Room)) (fun a U => a = #[(.ref a1), (.ref b1)] ∧ Z.Warmed39 U.vm ∧ U.heap = h0) (fun _ _ _ _ _ => True) (fun _ U o U' => ∃ v L, o = .returned v ∧ Q_cw Z a1 b1 sh ex h0 n0 v U'.heap L ∧ FrameEnd U o U' L ({ frames := 0, cells := 0, slots := 0, locals := 0 } : Room).cells ({ frames := 0, cells := 0, slots := 0, locals := 0 } : Room).slots) := by
  refine MetFree.of_bodySF (plainFor_of_name pn_com_example_signalbox_signalbox_engine_LockMode) hisR ?_
  intro p e s m args below meth c s₁ Bd hml0 hP hK
  obtain ⟨rfl, hZ, hh⟩ := hP
  have hx := Bd.exec
  have hby := Bd.bytes
  have hml : c.maxLocals = 2 := hml0
  have hown : s.vm.findClass "com/example/signalbox/signalbox/engine/LockMode" = some m.cls := findClass_of_methodNamed Bd.named
  have hnm := (name_of_methodNamed Bd.named Bd.method).1
  have X0 : Stand p l e ({ frames := 0, cells := 0, slots := 0, locals := 0 } : Room) s m #[(.ref a1), (.ref b1)] below meth c s₁ [] 0 0 := Stand.of_body Bd
  have e0 : s₁.heap = h0 := by rw [← hh, Bd.state]; rfl
  have N0 := Fr.nil n0
  obtain ⟨S0, hS0⟩ : ∃ S0, S0 = s₁.setTop (entryFrame m #[(.ref a1), (.ref b1)] 2) := ⟨_, rfl⟩
  have pre : Pth p e below S0 s₁ (mkF m 0 #[.val (.ref a1), .val (.ref b1)] []) := fun t k => by rw [hS0]; exact castTop (ef_cw m a1 b1) k
  replace pre : Pth p e below S0 s₁ (mkF m 1 #[.val (.ref a1), .val (.ref b1)] [(.ref a1)]) := fun t k => pre t (by
    show Steps p.tables e below (s₁.setTop (mkF m 0 #[.val (.ref a1), .val (.ref b1)] [])) t
    refine XS.aloadN X0.here hx rfl (hb hby d_cw_0) rfl rfl ?_
    show Steps p.tables e below (s₁.setTop (mkF m 1 #[.val (.ref a1), .val (.ref b1)] [(.ref a1)])) t
    exact k)
  obtain ⟨T4, X4, e4, st4⟩ := getS2 X0 hx hZ hown (host := "") (Or.inl (hw _ (List.mem_of_getElem? (i := 13) rfl))) Via.refl e0 S_EXCLUSIVE (g := (mkF m 1 #[.val (.ref a1), .val (.ref b1)] [(.ref a1)])) rfl (hb hby d_cw_1)
  replace pre : Pth p e below S0 T4 (mkF m 4 #[.val (.ref a1), .val (.ref b1)] [(.ref ex), (.ref a1)]) := fun t k => pre t (st4 _ k)
  by_cases h1 : ((.ref a1) : Value) = (.ref ex)
  · replace pre : Pth p e below S0 T4 (mkF m 33 #[.val (.ref a1), .val (.ref b1)] [(.int (0 : Int32))]) := fun t k => pre t (by
      show Steps p.tables e below (T4.setTop (mkF m 4 #[.val (.ref a1), .val (.ref b1)] [(.ref ex), (.ref a1)])) t
      refine Jvm.RoadKit.acmp (g := (mkF m 4 #[.val (.ref a1), .val (.ref b1)] [(.ref ex), (.ref a1)])) X4 hx rfl rfl rfl (pc0 := 4) (pc' := 32) (same := true) rfl (hb hby d_cw_4) rfl (decide_eq_true h1) (by decide) (by decide) ?_
      show Steps p.tables e below (T4.setTop (mkF m 32 #[.val (.ref a1), .val (.ref b1)] [])) t
      refine XS.iconst X4.here hx rfl (hb hby d_cw_32) ?_
      show Steps p.tables e below (T4.setTop (mkF m 33 #[.val (.ref a1), .val (.ref b1)] [(.int (0 : Int32))])) t
      exact k)
    obtain ⟨fs, hr, hrun, hended, hW, hsame⟩ := X4.leave (v := some (.int (0 : Int32))) (fun h => by rw [Bd.returns] at h; cases h)
    subst hS0
    refine ⟨_, _, pre _ ?_, hrun, hended, _, _, rfl, ?_, ⟨_, rfl⟩, hW, hsame.mono (by decide) (by decide)⟩
    · exact retN X4 hx (t := .boolean) Bd.returns (by simp) (hb hby d_cw_33) hr
    · show Q_cw Z a1 b1 sh ex h0 n0 _ T4.heap _
      rw [e4]
      exact ⟨by rw [own_cw, if_pos h1], N0, rfl⟩
  · replace pre : Pth p e below S0 T4 (mkF m 8 #[.val (.ref a1), .val (.ref b1)] [(.ref b1)]) := fun t k => pre t (by
      show Steps p.tables e below (T4.setTop (mkF m 4 #[.val (.ref a1), .val (.ref b1)] [(.ref ex), (.ref a1)])) t
      refine Jvm.RoadKit.acmp (g := (mkF m 4 #[.val (.ref a1), .val (.ref b1)] [(.ref ex), (.ref a1)])) X4 hx rfl rfl rfl (pc0 := 4) (pc' := 7) (same := false) rfl (hb hby d_cw_4) rfl (decide_eq_false h1) (by decide) (by decide) ?_
      show Steps p.tables e below (T4.setTop (mkF m 7 #[.val (.ref a1), .val (.ref b1)] [])) t
      refine XS.aloadN X4.here hx rfl (hb hby d_cw_7) rfl rfl ?_
      show Steps p.tables e below (T4.setTop (mkF m 8 #[.val (.ref a1), .val (.ref b1)] [(.ref b1)])) t
      exact k)
    obtain ⟨T5, X5, e5, st5⟩ := getS2 X4 hx hZ hown (host := "") (Or.inl (hw _ (List.mem_of_getElem? (i := 13) rfl))) Via.refl e4 S_EXCLUSIVE (g := (mkF m 8 #[.val (.ref a1), .val (.ref b1)] [(.ref b1)])) rfl (hb hby d_cw_8)
    replace pre : Pth p e below S0 T5 (mkF m 11 #[.val (.ref a1), .val (.ref b1)] [(.ref ex), (.ref b1)]) := fun t k => pre t (st5 _ k)
    by_cases h2 : ((.ref b1) : Value) = (.ref ex)
    · replace pre : Pth p e below S0 T5 (mkF m 33 #[.val (.ref a1), .val (.ref b1)] [(.int (0 : Int32))]) := fun t k => pre t (by
        show Steps p.tables e below (T5.setTop (mkF m 11 #[.val (.ref a1), .val (.ref b1)] [(.ref ex), (.ref b1)])) t
        refine Jvm.RoadKit.acmp (g := (mkF m 11 #[.val (.ref a1), .val (.ref b1)] [(.ref ex), (.ref b1)])) X5 hx rfl rfl rfl (pc0 := 11) (pc' := 32) (same := true) rfl (hb hby d_cw_11) rfl (decide_eq_true h2) (by decide) (by decide) ?_
        show Steps p.tables e below (T5.setTop (mkF m 32 #[.val (.ref a1), .val (.ref b1)] [])) t
        refine XS.iconst X5.here hx rfl (hb hby d_cw_32) ?_
        show Steps p.tables e below (T5.setTop (mkF m 33 #[.val (.ref a1), .val (.ref b1)] [(.int (0 : Int32))])) t
        exact k)
      obtain ⟨fs, hr, hrun, hended, hW, hsame⟩ := X5.leave (v := some (.int (0 : Int32))) (fun h => by rw [Bd.returns] at h; cases h)
      subst hS0
      refine ⟨_, _, pre _ ?_, hrun, hended, _, _, rfl, ?_, ⟨_, rfl⟩, hW, hsame.mono (by decide) (by decide)⟩
      · exact retN X5 hx (t := .boolean) Bd.returns (by simp) (hb hby d_cw_33) hr
      · show Q_cw Z a1 b1 sh ex h0 n0 _ T5.heap _
        rw [e5]
        exact ⟨by rw [own_cw, if_neg h1, if_pos h2], N0, rfl⟩
    · replace pre : Pth p e below S0 T5 (mkF m 15 #[.val (.ref a1), .val (.ref b1)] [(.ref a1)]) := fun t k => pre t (by
        show Steps p.tables e below (T5.setTop (mkF m 11 #[.val (.ref a1), .val (.ref b1)] [(.ref ex), (.ref b1)])) t
        refine Jvm.RoadKit.acmp (g := (mkF m 11 #[.val (.ref a1), .val (.ref b1)] [(.ref ex), (.ref b1)])) X5 hx rfl rfl rfl (pc0 := 11) (pc' := 14) (same := false) rfl (hb hby d_cw_11) rfl (decide_eq_false h2) (by decide) (by decide) ?_
        show Steps p.tables e below (T5.setTop (mkF m 14 #[.val (.ref a1), .val (.ref b1)] [])) t
        refine XS.aloadN X5.here hx rfl (hb hby d_cw_14) rfl rfl ?_
        show Steps p.tables e below (T5.setTop (mkF m 15 #[.val (.ref a1), .val (.ref b1)] [(.ref a1)])) t
        exact k)
      obtain ⟨T6, X6, e6, st6⟩ := getS2 X5 hx hZ hown (host := "") (Or.inl (hw _ (List.mem_of_getElem? (i := 15) rfl))) Via.refl e5 S_SHARED (g := (mkF m 15 #[.val (.ref a1), .val (.ref b1)] [(.ref a1)])) rfl (hb hby d_cw_15)
      replace pre : Pth p e below S0 T6 (mkF m 18 #[.val (.ref a1), .val (.ref b1)] [(.ref sh), (.ref a1)]) := fun t k => pre t (st6 _ k)
      by_cases h3 : ((.ref a1) : Value) = (.ref sh)
      · replace pre : Pth p e below S0 T6 (mkF m 33 #[.val (.ref a1), .val (.ref b1)] [(.int (1 : Int32))]) := fun t k => pre t (by
          show Steps p.tables e below (T6.setTop (mkF m 18 #[.val (.ref a1), .val (.ref b1)] [(.ref sh), (.ref a1)])) t
          refine Jvm.RoadKit.acmp (g := (mkF m 18 #[.val (.ref a1), .val (.ref b1)] [(.ref sh), (.ref a1)])) X6 hx rfl rfl rfl (pc0 := 18) (pc' := 28) (same := true) rfl (hb hby d_cw_18) rfl (decide_eq_true h3) (by decide) (by decide) ?_
          show Steps p.tables e below (T6.setTop (mkF m 28 #[.val (.ref a1), .val (.ref b1)] [])) t
          refine XS.iconst X6.here hx rfl (hb hby d_cw_28) ?_
          show Steps p.tables e below (T6.setTop (mkF m 29 #[.val (.ref a1), .val (.ref b1)] [(.int (1 : Int32))])) t
          refine XS.goto X6.here hx rfl (pc0 := 29) (pc' := 33) rfl (hb hby d_cw_29) (by decide) (by decide) ?_
          show Steps p.tables e below (T6.setTop (mkF m 33 #[.val (.ref a1), .val (.ref b1)] [(.int (1 : Int32))])) t
          exact k)
        obtain ⟨fs, hr, hrun, hended, hW, hsame⟩ := X6.leave (v := some (.int (1 : Int32))) (fun h => by rw [Bd.returns] at h; cases h)
        subst hS0
        refine ⟨_, _, pre _ ?_, hrun, hended, _, _, rfl, ?_, ⟨_, rfl⟩, hW, hsame.mono (by decide) (by decide)⟩
        · exact retN X6 hx (t := .boolean) Bd.returns (by simp) (hb hby d_cw_33) hr
        · show Q_cw Z a1 b1 sh ex h0 n0 _ T6.heap _
          rw [e6]
          exact ⟨by rw [own_cw, if_neg h1, if_neg h2, if_pos h3], N0, rfl⟩
      · replace pre : Pth p e below S0 T6 (mkF m 22 #[.val (.ref a1), .val (.ref b1)] [(.ref b1)]) := fun t k => pre t (by
          show Steps p.tables e below (T6.setTop (mkF m 18 #[.val (.ref a1), .val (.ref b1)] [(.ref sh), (.ref a1)])) t
          refine Jvm.RoadKit.acmp (g := (mkF m 18 #[.val (.ref a1), .val (.ref b1)] [(.ref sh), (.ref a1)])) X6 hx rfl rfl rfl (pc0 := 18) (pc' := 21) (same := false) rfl (hb hby d_cw_18) rfl (decide_eq_false h3) (by decide) (by decide) ?_
          show Steps p.tables e below (T6.setTop (mkF m 21 #[.val (.ref a1), .val (.ref b1)] [])) t
          refine XS.aloadN X6.here hx rfl (hb hby d_cw_21) rfl rfl ?_
          show Steps p.tables e below (T6.setTop (mkF m 22 #[.val (.ref a1), .val (.ref b1)] [(.ref b1)])) t
          exact k)
        obtain ⟨T7, X7, e7, st7⟩ := getS2 X6 hx hZ hown (host := "") (Or.inl (hw _ (List.mem_of_getElem? (i := 15) rfl))) Via.refl e6 S_SHARED (g := (mkF m 22 #[.val (.ref a1), .val (.ref b1)] [(.ref b1)])) rfl (hb hby d_cw_22)
        replace pre : Pth p e below S0 T7 (mkF m 25 #[.val (.ref a1), .val (.ref b1)] [(.ref sh), (.ref b1)]) := fun t k => pre t (st7 _ k)
        by_cases h4 : ((.ref b1) : Value) = (.ref sh)
        · replace pre : Pth p e below S0 T7 (mkF m 33 #[.val (.ref a1), .val (.ref b1)] [(.int (1 : Int32))]) := fun t k => pre t (by
            show Steps p.tables e below (T7.setTop (mkF m 25 #[.val (.ref a1), .val (.ref b1)] [(.ref sh), (.ref b1)])) t
            refine Jvm.RoadKit.acmp (g := (mkF m 25 #[.val (.ref a1), .val (.ref b1)] [(.ref sh), (.ref b1)])) X7 hx rfl rfl rfl (pc0 := 25) (pc' := 28) (same := true) rfl (hb hby d_cw_25) rfl (decide_eq_true h4) (by decide) (by decide) ?_
            show Steps p.tables e below (T7.setTop (mkF m 28 #[.val (.ref a1), .val (.ref b1)] [])) t
            refine XS.iconst X7.here hx rfl (hb hby d_cw_28) ?_
            show Steps p.tables e below (T7.setTop (mkF m 29 #[.val (.ref a1), .val (.ref b1)] [(.int (1 : Int32))])) t
            refine XS.goto X7.here hx rfl (pc0 := 29) (pc' := 33) rfl (hb hby d_cw_29) (by decide) (by decide) ?_
            show Steps p.tables e below (T7.setTop (mkF m 33 #[.val (.ref a1), .val (.ref b1)] [(.int (1 : Int32))])) t
            exact k)
          obtain ⟨fs, hr, hrun, hended, hW, hsame⟩ := X7.leave (v := some (.int (1 : Int32))) (fun h => by rw [Bd.returns] at h; cases h)
          subst hS0
          refine ⟨_, _, pre _ ?_, hrun, hended, _, _, rfl, ?_, ⟨_, rfl⟩, hW, hsame.mono (by decide) (by decide)⟩
          · exact retN X7 hx (t := .boolean) Bd.returns (by simp) (hb hby d_cw_33) hr
          · show Q_cw Z a1 b1 sh ex h0 n0 _ T7.heap _
            rw [e7]
            exact ⟨by rw [own_cw, if_neg h1, if_neg h2, if_neg h3, if_pos h4], N0, rfl⟩
        · replace pre : Pth p e below S0 T7 (mkF m 33 #[.val (.ref a1), .val (.ref b1)] [(.int (0 : Int32))]) := fun t k => pre t (by
            show Steps p.tables e below (T7.setTop (mkF m 25 #[.val (.ref a1), .val (.ref b1)] [(.ref sh), (.ref b1)])) t
            refine Jvm.RoadKit.acmp (g := (mkF m 25 #[.val (.ref a1), .val (.ref b1)] [(.ref sh), (.ref b1)])) X7 hx rfl rfl rfl (pc0 := 25) (pc' := 32) (same := false) rfl (hb hby d_cw_25) rfl (decide_eq_false h4) (by decide) (by decide) ?_
            show Steps p.tables e below (T7.setTop (mkF m 32 #[.val (.ref a1), .val (.ref b1)] [])) t
            refine XS.iconst X7.here hx rfl (hb hby d_cw_32) ?_
            show Steps p.tables e below (T7.setTop (mkF m 33 #[.val (.ref a1), .val (.ref b1)] [(.int (0 : Int32))])) t
            exact k)
          obtain ⟨fs, hr, hrun, hended, hW, hsame⟩ := X7.leave (v := some (.int (0 : Int32))) (fun h => by rw [Bd.returns] at h; cases h)
          subst hS0
          refine ⟨_, _, pre _ ?_, hrun, hended, _, _, rfl, ?_, ⟨_, rfl⟩, hW, hsame.mono (by decide) (by decide)⟩
          · exact retN X7 hx (t := .boolean) Bd.returns (by simp) (hb hby d_cw_33) hr
          · show Q_cw Z a1 b1 sh ex h0 n0 _ T7.heap _
            rw [e7]
            exact ⟨by rw [own_cw, if_neg h1, if_neg h2, if_neg h3, if_neg h4], N0, rfl⟩
def Q_law (Z : State) (p0 : Int32) (p1 : Int32) (sh up ex : Addr) (h0 : Heap) (n0 : Nat) (v : Option Value) (h : Heap) (L : List Loc) : Prop := v = some (.int 1) ∧ Fr n0 L
set_option maxRecDepth 65536 in
set_option maxHeartbeats 40000000 in
theorem rm_law (l : Launch) (Z : State) (a0 : Array Value) (hw : ∀ d ∈ tables_1, d.before a0 Z = true) (ws : List Jvm.Cond) (p0 : Int32) (p1 : Int32) (sh up ex : Addr) (h0 : Heap) (n0 : Nat) (Z0 : n0 ≤ h0.size) (S_SHARED : Sta Z h0 "com/example/signalbox/signalbox/engine/LockMode" "SHARED" "Lcom/example/signalbox/signalbox/engine/LockMode;" (.ref sh)) (S_UPDATE : Sta Z h0 "com/example/signalbox/signalbox/engine/LockMode" "UPDATE" "Lcom/example/signalbox/signalbox/engine/LockMode;" (.ref up)) (S_EXCLUSIVE : Sta Z h0 "com/example/signalbox/signalbox/engine/LockMode" "EXCLUSIVE" "Lcom/example/signalbox/signalbox/engine/LockMode;" (.ref ex)) (E_SHARED : Exa Z h0 sh "com/example/signalbox/signalbox/engine/LockMode") (E_UPDATE : Exa Z h0 up "com/example/signalbox/signalbox/engine/LockMode") (E_EXCLUSIVE : Exa Z h0 ex "com/example/signalbox/signalbox/engine/LockMode") (n1 : sh ≠ up) (n2 : sh ≠ ex) (n3 : up ≠ ex) :
    MetFree l x (head1 (Jvm.Cond.code x code maxLocals ret :: ws) room_1) (fun a U => a = #[(.int p0), (.int p1)] ∧ Z.Warmed39 U.vm ∧ U.heap = h0) (fun _ _ _ _ _ => True) (fun _ U o U' => ∃ v L, o = .returned v ∧ Q_law Z p0 p1 sh up ex h0 n0 v U'.heap L ∧ FrameEnd U o U' L room_1.cells room_1.slots) := by
  refine MetFree.of_bodySF (plainFor_of_name pn_com_example_signalbox_signalbox_engine_LockModeCompatibleWithPinLaw) hisR ?_
  intro p e s m args below meth c s₁ Bd hml0 hP hK
  obtain ⟨rfl, hZ, hh⟩ := hP
  have hx := Bd.exec
  have hby := Bd.bytes
  have hml : c.maxLocals = 9 := hml0
  have hown : s.vm.findClass "com/example/signalbox/signalbox/engine/LockModeCompatibleWithPinLaw" = some m.cls := findClass_of_methodNamed Bd.named
  have hnm := (name_of_methodNamed Bd.named Bd.method).1
  have X0 : Stand p l e room_1 s m #[(.int p0), (.int p1)] below meth c s₁ [] 0 0 := Stand.of_body Bd
  have e0 : s₁.heap = h0 := by rw [← hh, Bd.state]; rfl
  have N0 := Fr.nil n0
  obtain ⟨S0, hS0⟩ : ∃ S0, S0 = s₁.setTop (entryFrame m #[(.int p0), (.int p1)] maxLocals) := ⟨_, rfl⟩
  have pre : Pth p e below S0 s₁ (mkF m 0 #[.val (.int p0), .val (.int p1), .unset, .unset, .unset, .unset, .unset, .unset, .unset] []) := fun t k => by rw [hS0]; exact castTop (ef_law m p0 p1) k
  replace pre : Pth p e below S0 s₁ (mkF m 14 #[.val (.int p0), .val (.int p1), .val (.int ((p0 &&& (2147483647 : Int32)) % (3 : Int32))), .val (.int ((p1 &&& (2147483647 : Int32)) % (3 : Int32))), .unset, .unset, .unset, .unset, .unset] []) := fun t k => pre t (by
    show Steps p.tables e below (s₁.setTop (mkF m 0 #[.val (.int p0), .val (.int p1), .unset, .unset, .unset, .unset, .unset, .unset, .unset] [])) t
    refine XS.iloadN X0.here hx rfl (hb hby at_0) rfl ?_
    show Steps p.tables e below (s₁.setTop (mkF m 1 #[.val (.int p0), .val (.int p1), .unset, .unset, .unset, .unset, .unset, .unset, .unset] [(.int p0)])) t
    refine X0.ldcInt hx hown (mvT hZ (hw _ (List.mem_of_getElem? (i := 0) rfl))) (g := (mkF m 1 #[.val (.int p0), .val (.int p1), .unset, .unset, .unset, .unset, .unset, .unset, .unset] [(.int p0)])) rfl (hb hby at_1) _ ?_
    show Steps p.tables e below (s₁.setTop (mkF m 3 #[.val (.int p0), .val (.int p1), .unset, .unset, .unset, .unset, .unset, .unset, .unset] [(.int (2147483647 : Int32)), (.int p0)])) t
    refine XS.iand X0.here hx rfl (hb hby at_3) rfl ?_
    show Steps p.tables e below (s₁.setTop (mkF m 4 #[.val (.int p0), .val (.int p1), .unset, .unset, .unset, .unset, .unset, .unset, .unset] [(.int (p0 &&& (2147483647 : Int32)))])) t
    refine XS.iconst X0.here hx rfl (hb hby at_4) ?_
    show Steps p.tables e below (s₁.setTop (mkF m 5 #[.val (.int p0), .val (.int p1), .unset, .unset, .unset, .unset, .unset, .unset, .unset] [(.int (3 : Int32)), (.int (p0 &&& (2147483647 : Int32)))])) t
    refine iremM (g := (mkF m 5 #[.val (.int p0), .val (.int p1), .unset, .unset, .unset, .unset, .unset, .unset, .unset] [(.int (3 : Int32)), (.int (p0 &&& (2147483647 : Int32)))])) X0 hx rfl (hb hby at_5) rfl (by decide) ?_
    show Steps p.tables e below (s₁.setTop (mkF m 6 #[.val (.int p0), .val (.int p1), .unset, .unset, .unset, .unset, .unset, .unset, .unset] [(.int ((p0 &&& (2147483647 : Int32)) % (3 : Int32)))])) t
    refine XS.istoreN X0.here hx rfl (hb hby at_6) rfl (l' := #[.val (.int p0), .val (.int p1), .val (.int ((p0 &&& (2147483647 : Int32)) % (3 : Int32))), .unset, .unset, .unset, .unset, .unset, .unset]) rfl ?_
    show Steps p.tables e below (s₁.setTop (mkF m 7 #[.val (.int p0), .val (.int p1), .val (.int ((p0 &&& (2147483647 : Int32)) % (3 : Int32))), .unset, .unset, .unset, .unset, .unset, .unset] [])) t
    refine XS.iloadN X0.here hx rfl (hb hby at_7) rfl ?_
    show Steps p.tables e below (s₁.setTop (mkF m 8 #[.val (.int p0), .val (.int p1), .val (.int ((p0 &&& (2147483647 : Int32)) % (3 : Int32))), .unset, .unset, .unset, .unset, .unset, .unset] [(.int p1)])) t
    refine X0.ldcInt hx hown (mvT hZ (hw _ (List.mem_of_getElem? (i := 0) rfl))) (g := (mkF m 8 #[.val (.int p0), .val (.int p1), .val (.int ((p0 &&& (2147483647 : Int32)) % (3 : Int32))), .unset, .unset, .unset, .unset, .unset, .unset] [(.int p1)])) rfl (hb hby at_8) _ ?_
    show Steps p.tables e below (s₁.setTop (mkF m 10 #[.val (.int p0), .val (.int p1), .val (.int ((p0 &&& (2147483647 : Int32)) % (3 : Int32))), .unset, .unset, .unset, .unset, .unset, .unset] [(.int (2147483647 : Int32)), (.int p1)])) t
    refine XS.iand X0.here hx rfl (hb hby at_10) rfl ?_
    show Steps p.tables e below (s₁.setTop (mkF m 11 #[.val (.int p0), .val (.int p1), .val (.int ((p0 &&& (2147483647 : Int32)) % (3 : Int32))), .unset, .unset, .unset, .unset, .unset, .unset] [(.int (p1 &&& (2147483647 : Int32)))])) t
    refine XS.iconst X0.here hx rfl (hb hby at_11) ?_
    show Steps p.tables e below (s₁.setTop (mkF m 12 #[.val (.int p0), .val (.int p1), .val (.int ((p0 &&& (2147483647 : Int32)) % (3 : Int32))), .unset, .unset, .unset, .unset, .unset, .unset] [(.int (3 : Int32)), (.int (p1 &&& (2147483647 : Int32)))])) t
    refine iremM (g := (mkF m 12 #[.val (.int p0), .val (.int p1), .val (.int ((p0 &&& (2147483647 : Int32)) % (3 : Int32))), .unset, .unset, .unset, .unset, .unset, .unset] [(.int (3 : Int32)), (.int (p1 &&& (2147483647 : Int32)))])) X0 hx rfl (hb hby at_12) rfl (by decide) ?_
    show Steps p.tables e below (s₁.setTop (mkF m 13 #[.val (.int p0), .val (.int p1), .val (.int ((p0 &&& (2147483647 : Int32)) % (3 : Int32))), .unset, .unset, .unset, .unset, .unset, .unset] [(.int ((p1 &&& (2147483647 : Int32)) % (3 : Int32)))])) t
    refine XS.istoreN X0.here hx rfl (hb hby at_13) rfl (l' := #[.val (.int p0), .val (.int p1), .val (.int ((p0 &&& (2147483647 : Int32)) % (3 : Int32))), .val (.int ((p1 &&& (2147483647 : Int32)) % (3 : Int32))), .unset, .unset, .unset, .unset, .unset]) rfl ?_
    show Steps p.tables e below (s₁.setTop (mkF m 14 #[.val (.int p0), .val (.int p1), .val (.int ((p0 &&& (2147483647 : Int32)) % (3 : Int32))), .val (.int ((p1 &&& (2147483647 : Int32)) % (3 : Int32))), .unset, .unset, .unset, .unset, .unset] [])) t
    exact k)
  obtain ⟨aa, ha⟩ : ∃ z : Int32, z = ((p0 &&& (2147483647 : Int32)) % (3 : Int32)) := ⟨_, rfl⟩
  rw [← ha] at pre
  obtain ⟨bb, hb'⟩ : ∃ z : Int32, z = ((p1 &&& (2147483647 : Int32)) % (3 : Int32)) := ⟨_, rfl⟩
  rw [← hb'] at pre
  have ra := own_r3 ha
  have rb := own_r3 hb'
  replace pre : Pth p e below S0 s₁ (mkF m 15 #[.val (.int p0), .val (.int p1), .val (.int aa), .val (.int bb), .unset, .unset, .unset, .unset, .unset] [(.int aa)]) := fun t k => pre t (by
    show Steps p.tables e below (s₁.setTop (mkF m 14 #[.val (.int p0), .val (.int p1), .val (.int aa), .val (.int bb), .unset, .unset, .unset, .unset, .unset] [])) t
    refine XS.iloadN X0.here hx rfl (hb hby at_14) rfl ?_
    show Steps p.tables e below (s₁.setTop (mkF m 15 #[.val (.int p0), .val (.int p1), .val (.int aa), .val (.int bb), .unset, .unset, .unset, .unset, .unset] [(.int aa)])) t
    exact k)
  obtain ⟨_, _, ⟨T8, L8, k8, n8⟩, -, X8, ⟨Lc8, hQ8, l8, y8, z8⟩, st8⟩ := Jvm.LawKit.callS X0 hx (y := (⟨"com/example/signalbox/signalbox/engine/LockModeCompatibleWithPinLaw", "mode", "(I)Lcom/example/signalbox/signalbox/engine/LockMode;"⟩ : MethodName)) hown (mvT hZ (hw _ (List.mem_of_getElem? (i := 1) rfl))) (mvT hZ (hw _ (List.mem_of_getElem? (i := 2) rfl))) (mvT hZ (hw _ (List.mem_of_getElem? (i := 3) rfl))) (mvT hZ (hw _ (List.mem_of_getElem? (i := 4) rfl))) (by decide) (backOf (W := 0) (rm_md l Z a0 hw [] aa sh up ex h0 n0 Z0 S_SHARED S_UPDATE S_EXCLUSIVE) hZ (hw _ (List.mem_of_getElem? (i := 4) rfl)) (hw _ (List.mem_of_getElem? (i := 3) rfl)) (by decide) (by decide)) (g := (mkF m 15 #[.val (.int p0), .val (.int p1), .val (.int aa), .val (.int bb), .unset, .unset, .unset, .unset, .unset] [(.int aa)])) rfl (by rw [hml]; rfl) (argsL := [(.int aa)]) (rest := []) (lenOf pd__I_Lcom_example_signalbox_signalbox_engine_LockMode_ rfl) rfl (by show 2 * 0 + _ ≤ _; exact Nat.le_of_eq rfl) (hb hby at_15) (fun _ _ => ⟨rfl, e0, (by decide : 0 + 0 ≤ _), (by decide : 0 + 0 ≤ _)⟩)
  dsimp only [Pt.U, Pt.locs, Pt.cells, Pt.slots] at X8 l8 y8 z8 st8 hQ8
  subst l8 y8 z8
  obtain ⟨rfl, N8q, e8⟩ := hQ8
  have N8 := Fr.app N0 N8q
  replace pre : Pth p e below S0 T8 (mkF m 18 #[.val (.int p0), .val (.int p1), .val (.int aa), .val (.int bb), .unset, .unset, .unset, .unset, .unset] [(.ref (own_md aa sh up ex))]) := fun t k => pre t (st8 _ k)
  replace pre : Pth p e below S0 T8 (mkF m 21 #[.val (.int p0), .val (.int p1), .val (.int aa), .val (.int bb), .val (.ref (own_md aa sh up ex)), .unset, .unset, .unset, .unset] [(.int bb)]) := fun t k => pre t (by
    show Steps p.tables e below (T8.setTop (mkF m 18 #[.val (.int p0), .val (.int p1), .val (.int aa), .val (.int bb), .unset, .unset, .unset, .unset, .unset] [(.ref (own_md aa sh up ex))])) t
    refine XS.astore X8.here hx rfl (hb hby at_18) rfl rfl (l' := #[.val (.int p0), .val (.int p1), .val (.int aa), .val (.int bb), .val (.ref (own_md aa sh up ex)), .unset, .unset, .unset, .unset]) rfl ?_
    show Steps p.tables e below (T8.setTop (mkF m 20 #[.val (.int p0), .val (.int p1), .val (.int aa), .val (.int bb), .val (.ref (own_md aa sh up ex)), .unset, .unset, .unset, .unset] [])) t
    refine XS.iloadN X8.here hx rfl (hb hby at_20) rfl ?_
    show Steps p.tables e below (T8.setTop (mkF m 21 #[.val (.int p0), .val (.int p1), .val (.int aa), .val (.int bb), .val (.ref (own_md aa sh up ex)), .unset, .unset, .unset, .unset] [(.int bb)])) t
    exact k)
  obtain ⟨_, _, ⟨T9, L9, k9, n9⟩, -, X9, ⟨Lc9, hQ9, l9, y9, z9⟩, st9⟩ := Jvm.LawKit.callS X8 hx (y := (⟨"com/example/signalbox/signalbox/engine/LockModeCompatibleWithPinLaw", "mode", "(I)Lcom/example/signalbox/signalbox/engine/LockMode;"⟩ : MethodName)) hown (mvT hZ (hw _ (List.mem_of_getElem? (i := 1) rfl))) (mvT hZ (hw _ (List.mem_of_getElem? (i := 2) rfl))) (mvT hZ (hw _ (List.mem_of_getElem? (i := 3) rfl))) (mvT hZ (hw _ (List.mem_of_getElem? (i := 4) rfl))) (by decide) (backOf (W := 0) (rm_md l Z a0 hw [] bb sh up ex h0 n0 Z0 S_SHARED S_UPDATE S_EXCLUSIVE) hZ (hw _ (List.mem_of_getElem? (i := 4) rfl)) (hw _ (List.mem_of_getElem? (i := 3) rfl)) (by decide) (by decide)) (g := (mkF m 21 #[.val (.int p0), .val (.int p1), .val (.int aa), .val (.int bb), .val (.ref (own_md aa sh up ex)), .unset, .unset, .unset, .unset] [(.int bb)])) rfl (by rw [hml]; rfl) (argsL := [(.int bb)]) (rest := []) (lenOf pd__I_Lcom_example_signalbox_signalbox_engine_LockMode_ rfl) rfl (by show 2 * 0 + _ ≤ _; exact Nat.le_of_eq rfl) (hb hby at_21) (fun _ _ => ⟨rfl, e8, (by decide : 0 + 0 ≤ _), (by decide : 0 + 0 ≤ _)⟩)
  dsimp only [Pt.U, Pt.locs, Pt.cells, Pt.slots] at X9 l9 y9 z9 st9 hQ9
  subst l9 y9 z9
  obtain ⟨rfl, N9q, e9⟩ := hQ9
  have N9 := Fr.app N8 N9q
  replace pre : Pth p e below S0 T9 (mkF m 24 #[.val (.int p0), .val (.int p1), .val (.int aa), .val (.int bb), .val (.ref (own_md aa sh up ex)), .unset, .unset, .unset, .unset] [(.ref (own_md bb sh up ex))]) := fun t k => pre t (st9 _ k)
  have Ea := own_mdE aa E_SHARED E_UPDATE E_EXCLUSIVE
  have Eb := own_mdE bb E_SHARED E_UPDATE E_EXCLUSIVE
  replace pre : Pth p e below S0 T9 (mkF m 30 #[.val (.int p0), .val (.int p1), .val (.int aa), .val (.int bb), .val (.ref (own_md aa sh up ex)), .val (.ref (own_md bb sh up ex)), .unset, .unset, .unset] [(.int (1 : Int32)), (.int (aa + bb))]) := fun t k => pre t (by
    show Steps p.tables e below (T9.setTop (mkF m 24 #[.val (.int p0), .val (.int p1), .val (.int aa), .val (.int bb), .val (.ref (own_md aa sh up ex)), .unset, .unset, .unset, .unset] [(.ref (own_md bb sh up ex))])) t
    refine XS.astore X9.here hx rfl (hb hby at_24) rfl rfl (l' := #[.val (.int p0), .val (.int p1), .val (.int aa), .val (.int bb), .val (.ref (own_md aa sh up ex)), .val (.ref (own_md bb sh up ex)), .unset, .unset, .unset]) rfl ?_
    show Steps p.tables e below (T9.setTop (mkF m 26 #[.val (.int p0), .val (.int p1), .val (.int aa), .val (.int bb), .val (.ref (own_md aa sh up ex)), .val (.ref (own_md bb sh up ex)), .unset, .unset, .unset] [])) t
    refine XS.iloadN X9.here hx rfl (hb hby at_26) rfl ?_
    show Steps p.tables e below (T9.setTop (mkF m 27 #[.val (.int p0), .val (.int p1), .val (.int aa), .val (.int bb), .val (.ref (own_md aa sh up ex)), .val (.ref (own_md bb sh up ex)), .unset, .unset, .unset] [(.int aa)])) t
    refine XS.iloadN X9.here hx rfl (hb hby at_27) rfl ?_
    show Steps p.tables e below (T9.setTop (mkF m 28 #[.val (.int p0), .val (.int p1), .val (.int aa), .val (.int bb), .val (.ref (own_md aa sh up ex)), .val (.ref (own_md bb sh up ex)), .unset, .unset, .unset] [(.int bb), (.int aa)])) t
    refine XS.iadd X9.here hx rfl (hb hby at_28) rfl ?_
    show Steps p.tables e below (T9.setTop (mkF m 29 #[.val (.int p0), .val (.int p1), .val (.int aa), .val (.int bb), .val (.ref (own_md aa sh up ex)), .val (.ref (own_md bb sh up ex)), .unset, .unset, .unset] [(.int (aa + bb))])) t
    refine XS.iconst X9.here hx rfl (hb hby at_29) ?_
    show Steps p.tables e below (T9.setTop (mkF m 30 #[.val (.int p0), .val (.int p1), .val (.int aa), .val (.int bb), .val (.ref (own_md aa sh up ex)), .val (.ref (own_md bb sh up ex)), .unset, .unset, .unset] [(.int (1 : Int32)), (.int (aa + bb))])) t
    exact k)
  by_cases k1 : (1 : Int32) < (aa + bb)
  · replace pre : Pth p e below S0 T9 (mkF m 44 #[.val (.int p0), .val (.int p1), .val (.int aa), .val (.int bb), .val (.ref (own_md aa sh up ex)), .val (.ref (own_md bb sh up ex)), .val (.int (0 : Int32)), .unset, .unset] [(.ref (own_md bb sh up ex)), (.ref (own_md aa sh up ex))]) := fun t k => pre t (by
      show Steps p.tables e below (T9.setTop (mkF m 30 #[.val (.int p0), .val (.int p1), .val (.int aa), .val (.int bb), .val (.ref (own_md aa sh up ex)), .val (.ref (own_md bb sh up ex)), .unset, .unset, .unset] [(.int (1 : Int32)), (.int (aa + bb))])) t
      refine XS.icmpYes X9.here hx rfl (pc0 := 30) (pc' := 37) rfl (hb hby at_30) rfl (XT.ii_gt_t k1) (by decide) (by decide) ?_
      show Steps p.tables e below (T9.setTop (mkF m 37 #[.val (.int p0), .val (.int p1), .val (.int aa), .val (.int bb), .val (.ref (own_md aa sh up ex)), .val (.ref (own_md bb sh up ex)), .unset, .unset, .unset] [])) t
      refine XS.iconst X9.here hx rfl (hb hby at_37) ?_
      show Steps p.tables e below (T9.setTop (mkF m 38 #[.val (.int p0), .val (.int p1), .val (.int aa), .val (.int bb), .val (.ref (own_md aa sh up ex)), .val (.ref (own_md bb sh up ex)), .unset, .unset, .unset] [(.int (0 : Int32))])) t
      refine XS.istore X9.here hx rfl (hb hby at_38) rfl (l' := #[.val (.int p0), .val (.int p1), .val (.int aa), .val (.int bb), .val (.ref (own_md aa sh up ex)), .val (.ref (own_md bb sh up ex)), .val (.int (0 : Int32)), .unset, .unset]) rfl ?_
      show Steps p.tables e below (T9.setTop (mkF m 40 #[.val (.int p0), .val (.int p1), .val (.int aa), .val (.int bb), .val (.ref (own_md aa sh up ex)), .val (.ref (own_md bb sh up ex)), .val (.int (0 : Int32)), .unset, .unset] [])) t
      refine XS.aload X9.here hx rfl (hb hby at_40) rfl rfl ?_
      show Steps p.tables e below (T9.setTop (mkF m 42 #[.val (.int p0), .val (.int p1), .val (.int aa), .val (.int bb), .val (.ref (own_md aa sh up ex)), .val (.ref (own_md bb sh up ex)), .val (.int (0 : Int32)), .unset, .unset] [(.ref (own_md aa sh up ex))])) t
      refine XS.aload X9.here hx rfl (hb hby at_42) rfl rfl ?_
      show Steps p.tables e below (T9.setTop (mkF m 44 #[.val (.int p0), .val (.int p1), .val (.int aa), .val (.int bb), .val (.ref (own_md aa sh up ex)), .val (.ref (own_md bb sh up ex)), .val (.int (0 : Int32)), .unset, .unset] [(.ref (own_md bb sh up ex)), (.ref (own_md aa sh up ex))])) t
      exact k)
    obtain ⟨cq10, kq10, q10a, q10b, q10c⟩ := isOf hZ e9 Ea
    obtain ⟨_, _, ⟨T10, L10, k10, n10⟩, -, X10, ⟨Lc10, hQ10, l10, y10, z10⟩, st10⟩ := X9.virtualBack hx (y := (⟨"com/example/signalbox/signalbox/engine/LockMode", "compatibleWith", "(Lcom/example/signalbox/signalbox/engine/LockMode;)Z"⟩ : MethodName)) (z := (⟨"com/example/signalbox/signalbox/engine/LockMode", "compatibleWith", "(Lcom/example/signalbox/signalbox/engine/LockMode;)Z"⟩ : MethodName)) hown (mvT hZ (hw _ (List.mem_of_getElem? (i := 8) rfl))) (mvT hZ (hw _ (List.mem_of_getElem? (i := 9) rfl))) (notFace_of_selects (args := #[]) (mvT hZ (hw _ (List.mem_of_getElem? (i := 11) rfl)))) (mvT hZ (hw _ (List.mem_of_getElem? (i := 11) rfl))) (mvT hZ (hw _ (List.mem_of_getElem? (i := 10) rfl))) (by decide) (backOf (W := 0) (rm_cw l Z a0 hw [] (own_md aa sh up ex) (own_md bb sh up ex) sh ex h0 n0 Z0 S_SHARED S_EXCLUSIVE) hZ (hw _ (List.mem_of_getElem? (i := 12) rfl)) (hw _ (List.mem_of_getElem? (i := 6) rfl)) (by decide) (by decide)) q10a q10c (g := (mkF m 44 #[.val (.int p0), .val (.int p1), .val (.int aa), .val (.int bb), .val (.ref (own_md aa sh up ex)), .val (.ref (own_md bb sh up ex)), .val (.int (0 : Int32)), .unset, .unset] [(.ref (own_md bb sh up ex)), (.ref (own_md aa sh up ex))])) rfl (by rw [hml]; rfl) (Steps.refl _) (argsL := [(.ref (own_md bb sh up ex))]) (rest := []) (lenOf pd__Lcom_example_signalbox_signalbox_engine_LockMode__Z rfl) rfl (by show 2 * 0 + _ ≤ _; exact Nat.le_of_eq rfl) (hb hby at_44) (fun _ _ => ⟨rfl, e9, (by decide : 0 + 0 ≤ _), (by decide : 0 + 0 ≤ _)⟩)
    dsimp only [Pt.U, Pt.locs, Pt.cells, Pt.slots] at X10 l10 y10 z10 st10 hQ10
    subst l10 y10 z10
    obtain ⟨rfl, N10q, e10⟩ := hQ10
    have N10 := Fr.app N9 N10q
    replace pre : Pth p e below S0 T10 (mkF m 47 #[.val (.int p0), .val (.int p1), .val (.int aa), .val (.int bb), .val (.ref (own_md aa sh up ex)), .val (.ref (own_md bb sh up ex)), .val (.int (0 : Int32)), .unset, .unset] [(.int (own_cw (own_md aa sh up ex) (own_md bb sh up ex) sh ex))]) := fun t k => pre t (st10.trans k)
    replace pre : Pth p e below S0 T10 (mkF m 53 #[.val (.int p0), .val (.int p1), .val (.int aa), .val (.int bb), .val (.ref (own_md aa sh up ex)), .val (.ref (own_md bb sh up ex)), .val (.int (0 : Int32)), .val (.int (own_cw (own_md aa sh up ex) (own_md bb sh up ex) sh ex)), .unset] [(.ref (own_md aa sh up ex)), (.ref (own_md bb sh up ex))]) := fun t k => pre t (by
      show Steps p.tables e below (T10.setTop (mkF m 47 #[.val (.int p0), .val (.int p1), .val (.int aa), .val (.int bb), .val (.ref (own_md aa sh up ex)), .val (.ref (own_md bb sh up ex)), .val (.int (0 : Int32)), .unset, .unset] [(.int (own_cw (own_md aa sh up ex) (own_md bb sh up ex) sh ex))])) t
      refine XS.istore X10.here hx rfl (hb hby at_47) rfl (l' := #[.val (.int p0), .val (.int p1), .val (.int aa), .val (.int bb), .val (.ref (own_md aa sh up ex)), .val (.ref (own_md bb sh up ex)), .val (.int (0 : Int32)), .val (.int (own_cw (own_md aa sh up ex) (own_md bb sh up ex) sh ex)), .unset]) rfl ?_
      show Steps p.tables e below (T10.setTop (mkF m 49 #[.val (.int p0), .val (.int p1), .val (.int aa), .val (.int bb), .val (.ref (own_md aa sh up ex)), .val (.ref (own_md bb sh up ex)), .val (.int (0 : Int32)), .val (.int (own_cw (own_md aa sh up ex) (own_md bb sh up ex) sh ex)), .unset] [])) t
      refine XS.aload X10.here hx rfl (hb hby at_49) rfl rfl ?_
      show Steps p.tables e below (T10.setTop (mkF m 51 #[.val (.int p0), .val (.int p1), .val (.int aa), .val (.int bb), .val (.ref (own_md aa sh up ex)), .val (.ref (own_md bb sh up ex)), .val (.int (0 : Int32)), .val (.int (own_cw (own_md aa sh up ex) (own_md bb sh up ex) sh ex)), .unset] [(.ref (own_md bb sh up ex))])) t
      refine XS.aload X10.here hx rfl (hb hby at_51) rfl rfl ?_
      show Steps p.tables e below (T10.setTop (mkF m 53 #[.val (.int p0), .val (.int p1), .val (.int aa), .val (.int bb), .val (.ref (own_md aa sh up ex)), .val (.ref (own_md bb sh up ex)), .val (.int (0 : Int32)), .val (.int (own_cw (own_md aa sh up ex) (own_md bb sh up ex) sh ex)), .unset] [(.ref (own_md aa sh up ex)), (.ref (own_md bb sh up ex))])) t
      exact k)
    obtain ⟨cq11, kq11, q11a, q11b, q11c⟩ := isOf hZ e10 Eb
    obtain ⟨_, _, ⟨T11, L11, k11, n11⟩, -, X11, ⟨Lc11, hQ11, l11, y11, z11⟩, st11⟩ := X10.virtualBack hx (y := (⟨"com/example/signalbox/signalbox/engine/LockMode", "compatibleWith", "(Lcom/example/signalbox/signalbox/engine/LockMode;)Z"⟩ : MethodName)) (z := (⟨"com/example/signalbox/signalbox/engine/LockMode", "compatibleWith", "(Lcom/example/signalbox/signalbox/engine/LockMode;)Z"⟩ : MethodName)) hown (mvT hZ (hw _ (List.mem_of_getElem? (i := 8) rfl))) (mvT hZ (hw _ (List.mem_of_getElem? (i := 9) rfl))) (notFace_of_selects (args := #[]) (mvT hZ (hw _ (List.mem_of_getElem? (i := 11) rfl)))) (mvT hZ (hw _ (List.mem_of_getElem? (i := 11) rfl))) (mvT hZ (hw _ (List.mem_of_getElem? (i := 10) rfl))) (by decide) (backOf (W := 0) (rm_cw l Z a0 hw [] (own_md bb sh up ex) (own_md aa sh up ex) sh ex h0 n0 Z0 S_SHARED S_EXCLUSIVE) hZ (hw _ (List.mem_of_getElem? (i := 12) rfl)) (hw _ (List.mem_of_getElem? (i := 6) rfl)) (by decide) (by decide)) q11a q11c (g := (mkF m 53 #[.val (.int p0), .val (.int p1), .val (.int aa), .val (.int bb), .val (.ref (own_md aa sh up ex)), .val (.ref (own_md bb sh up ex)), .val (.int (0 : Int32)), .val (.int (own_cw (own_md aa sh up ex) (own_md bb sh up ex) sh ex)), .unset] [(.ref (own_md aa sh up ex)), (.ref (own_md bb sh up ex))])) rfl (by rw [hml]; rfl) (Steps.refl _) (argsL := [(.ref (own_md aa sh up ex))]) (rest := []) (lenOf pd__Lcom_example_signalbox_signalbox_engine_LockMode__Z rfl) rfl (by show 2 * 0 + _ ≤ _; exact Nat.le_of_eq rfl) (hb hby at_53) (fun _ _ => ⟨rfl, e10, (by decide : 0 + 0 ≤ _), (by decide : 0 + 0 ≤ _)⟩)
    dsimp only [Pt.U, Pt.locs, Pt.cells, Pt.slots] at X11 l11 y11 z11 st11 hQ11
    subst l11 y11 z11
    obtain ⟨rfl, N11q, e11⟩ := hQ11
    have N11 := Fr.app N10 N11q
    replace pre : Pth p e below S0 T11 (mkF m 56 #[.val (.int p0), .val (.int p1), .val (.int aa), .val (.int bb), .val (.ref (own_md aa sh up ex)), .val (.ref (own_md bb sh up ex)), .val (.int (0 : Int32)), .val (.int (own_cw (own_md aa sh up ex) (own_md bb sh up ex) sh ex)), .unset] [(.int (own_cw (own_md bb sh up ex) (own_md aa sh up ex) sh ex))]) := fun t k => pre t (st11.trans k)
    replace pre : Pth p e below S0 T11 (mkF m 77 #[.val (.int p0), .val (.int p1), .val (.int aa), .val (.int bb), .val (.ref (own_md aa sh up ex)), .val (.ref (own_md bb sh up ex)), .val (.int (0 : Int32)), .val (.int (own_cw (own_md aa sh up ex) (own_md bb sh up ex) sh ex)), .val (.int (own_cw (own_md bb sh up ex) (own_md aa sh up ex) sh ex))] [(.int (1 : Int32))]) := fun t k => pre t (by
      show Steps p.tables e below (T11.setTop (mkF m 56 #[.val (.int p0), .val (.int p1), .val (.int aa), .val (.int bb), .val (.ref (own_md aa sh up ex)), .val (.ref (own_md bb sh up ex)), .val (.int (0 : Int32)), .val (.int (own_cw (own_md aa sh up ex) (own_md bb sh up ex) sh ex)), .unset] [(.int (own_cw (own_md bb sh up ex) (own_md aa sh up ex) sh ex))])) t
      refine XS.istore X11.here hx rfl (hb hby at_56) rfl (l' := #[.val (.int p0), .val (.int p1), .val (.int aa), .val (.int bb), .val (.ref (own_md aa sh up ex)), .val (.ref (own_md bb sh up ex)), .val (.int (0 : Int32)), .val (.int (own_cw (own_md aa sh up ex) (own_md bb sh up ex) sh ex)), .val (.int (own_cw (own_md bb sh up ex) (own_md aa sh up ex) sh ex))]) rfl ?_
      show Steps p.tables e below (T11.setTop (mkF m 58 #[.val (.int p0), .val (.int p1), .val (.int aa), .val (.int bb), .val (.ref (own_md aa sh up ex)), .val (.ref (own_md bb sh up ex)), .val (.int (0 : Int32)), .val (.int (own_cw (own_md aa sh up ex) (own_md bb sh up ex) sh ex)), .val (.int (own_cw (own_md bb sh up ex) (own_md aa sh up ex) sh ex))] [])) t
      refine XS.iload X11.here hx rfl (hb hby at_58) rfl ?_
      show Steps p.tables e below (T11.setTop (mkF m 60 #[.val (.int p0), .val (.int p1), .val (.int aa), .val (.int bb), .val (.ref (own_md aa sh up ex)), .val (.ref (own_md bb sh up ex)), .val (.int (0 : Int32)), .val (.int (own_cw (own_md aa sh up ex) (own_md bb sh up ex) sh ex)), .val (.int (own_cw (own_md bb sh up ex) (own_md aa sh up ex) sh ex))] [(.int (own_cw (own_md aa sh up ex) (own_md bb sh up ex) sh ex))])) t
      refine XS.iload X11.here hx rfl (hb hby at_60) rfl ?_
      show Steps p.tables e below (T11.setTop (mkF m 62 #[.val (.int p0), .val (.int p1), .val (.int aa), .val (.int bb), .val (.ref (own_md aa sh up ex)), .val (.ref (own_md bb sh up ex)), .val (.int (0 : Int32)), .val (.int (own_cw (own_md aa sh up ex) (own_md bb sh up ex) sh ex)), .val (.int (own_cw (own_md bb sh up ex) (own_md aa sh up ex) sh ex))] [(.int (0 : Int32)), (.int (own_cw (own_md aa sh up ex) (own_md bb sh up ex) sh ex))])) t
      refine XS.icmpNo X11.here hx rfl (hb hby at_62) rfl (XT.ii_ne_f (own_no ra rb n1 n2 n3 k1)) ?_
      show Steps p.tables e below (T11.setTop (mkF m 65 #[.val (.int p0), .val (.int p1), .val (.int aa), .val (.int bb), .val (.ref (own_md aa sh up ex)), .val (.ref (own_md bb sh up ex)), .val (.int (0 : Int32)), .val (.int (own_cw (own_md aa sh up ex) (own_md bb sh up ex) sh ex)), .val (.int (own_cw (own_md bb sh up ex) (own_md aa sh up ex) sh ex))] [])) t
      refine XS.iload X11.here hx rfl (hb hby at_65) rfl ?_
      show Steps p.tables e below (T11.setTop (mkF m 67 #[.val (.int p0), .val (.int p1), .val (.int aa), .val (.int bb), .val (.ref (own_md aa sh up ex)), .val (.ref (own_md bb sh up ex)), .val (.int (0 : Int32)), .val (.int (own_cw (own_md aa sh up ex) (own_md bb sh up ex) sh ex)), .val (.int (own_cw (own_md bb sh up ex) (own_md aa sh up ex) sh ex))] [(.int (own_cw (own_md bb sh up ex) (own_md aa sh up ex) sh ex))])) t
      refine XS.iload X11.here hx rfl (hb hby at_67) rfl ?_
      show Steps p.tables e below (T11.setTop (mkF m 69 #[.val (.int p0), .val (.int p1), .val (.int aa), .val (.int bb), .val (.ref (own_md aa sh up ex)), .val (.ref (own_md bb sh up ex)), .val (.int (0 : Int32)), .val (.int (own_cw (own_md aa sh up ex) (own_md bb sh up ex) sh ex)), .val (.int (own_cw (own_md bb sh up ex) (own_md aa sh up ex) sh ex))] [(.int (0 : Int32)), (.int (own_cw (own_md bb sh up ex) (own_md aa sh up ex) sh ex))])) t
      refine XS.icmpNo X11.here hx rfl (hb hby at_69) rfl (XT.ii_ne_f (own_no rb ra n1 n2 n3 (by rw [Int32.add_comm]; exact k1))) ?_
      show Steps p.tables e below (T11.setTop (mkF m 72 #[.val (.int p0), .val (.int p1), .val (.int aa), .val (.int bb), .val (.ref (own_md aa sh up ex)), .val (.ref (own_md bb sh up ex)), .val (.int (0 : Int32)), .val (.int (own_cw (own_md aa sh up ex) (own_md bb sh up ex) sh ex)), .val (.int (own_cw (own_md bb sh up ex) (own_md aa sh up ex) sh ex))] [])) t
      refine XS.iconst X11.here hx rfl (hb hby at_72) ?_
      show Steps p.tables e below (T11.setTop (mkF m 73 #[.val (.int p0), .val (.int p1), .val (.int aa), .val (.int bb), .val (.ref (own_md aa sh up ex)), .val (.ref (own_md bb sh up ex)), .val (.int (0 : Int32)), .val (.int (own_cw (own_md aa sh up ex) (own_md bb sh up ex) sh ex)), .val (.int (own_cw (own_md bb sh up ex) (own_md aa sh up ex) sh ex))] [(.int (1 : Int32))])) t
      refine XS.goto X11.here hx rfl (pc0 := 73) (pc' := 77) rfl (hb hby at_73) (by decide) (by decide) ?_
      show Steps p.tables e below (T11.setTop (mkF m 77 #[.val (.int p0), .val (.int p1), .val (.int aa), .val (.int bb), .val (.ref (own_md aa sh up ex)), .val (.ref (own_md bb sh up ex)), .val (.int (0 : Int32)), .val (.int (own_cw (own_md aa sh up ex) (own_md bb sh up ex) sh ex)), .val (.int (own_cw (own_md bb sh up ex) (own_md aa sh up ex) sh ex))] [(.int (1 : Int32))])) t
      exact k)
    obtain ⟨fs, hr, hrun, hended, hW, hsame⟩ := X11.leave (v := some (.int (1 : Int32))) (fun h => by rw [Bd.returns] at h; cases h)
    subst hS0
    refine ⟨_, _, pre _ ?_, hrun, hended, _, _, rfl, ?_, ⟨_, rfl⟩, hW, hsame.mono (by decide) (by decide)⟩
    · exact retN X11 hx (t := .boolean) Bd.returns (by simp) (hb hby at_77) hr
    · show Q_law Z p0 p1 sh up ex h0 n0 _ T11.heap _
      rw [e11]
      exact ⟨rfl, N11⟩
  · replace pre : Pth p e below S0 T9 (mkF m 44 #[.val (.int p0), .val (.int p1), .val (.int aa), .val (.int bb), .val (.ref (own_md aa sh up ex)), .val (.ref (own_md bb sh up ex)), .val (.int (1 : Int32)), .unset, .unset] [(.ref (own_md bb sh up ex)), (.ref (own_md aa sh up ex))]) := fun t k => pre t (by
      show Steps p.tables e below (T9.setTop (mkF m 30 #[.val (.int p0), .val (.int p1), .val (.int aa), .val (.int bb), .val (.ref (own_md aa sh up ex)), .val (.ref (own_md bb sh up ex)), .unset, .unset, .unset] [(.int (1 : Int32)), (.int (aa + bb))])) t
      refine XS.icmpNo X9.here hx rfl (hb hby at_30) rfl (XT.ii_gt_f k1) ?_
      show Steps p.tables e below (T9.setTop (mkF m 33 #[.val (.int p0), .val (.int p1), .val (.int aa), .val (.int bb), .val (.ref (own_md aa sh up ex)), .val (.ref (own_md bb sh up ex)), .unset, .unset, .unset] [])) t
      refine XS.iconst X9.here hx rfl (hb hby at_33) ?_
      show Steps p.tables e below (T9.setTop (mkF m 34 #[.val (.int p0), .val (.int p1), .val (.int aa), .val (.int bb), .val (.ref (own_md aa sh up ex)), .val (.ref (own_md bb sh up ex)), .unset, .unset, .unset] [(.int (1 : Int32))])) t
      refine XS.goto X9.here hx rfl (pc0 := 34) (pc' := 38) rfl (hb hby at_34) (by decide) (by decide) ?_
      show Steps p.tables e below (T9.setTop (mkF m 38 #[.val (.int p0), .val (.int p1), .val (.int aa), .val (.int bb), .val (.ref (own_md aa sh up ex)), .val (.ref (own_md bb sh up ex)), .unset, .unset, .unset] [(.int (1 : Int32))])) t
      refine XS.istore X9.here hx rfl (hb hby at_38) rfl (l' := #[.val (.int p0), .val (.int p1), .val (.int aa), .val (.int bb), .val (.ref (own_md aa sh up ex)), .val (.ref (own_md bb sh up ex)), .val (.int (1 : Int32)), .unset, .unset]) rfl ?_
      show Steps p.tables e below (T9.setTop (mkF m 40 #[.val (.int p0), .val (.int p1), .val (.int aa), .val (.int bb), .val (.ref (own_md aa sh up ex)), .val (.ref (own_md bb sh up ex)), .val (.int (1 : Int32)), .unset, .unset] [])) t
      refine XS.aload X9.here hx rfl (hb hby at_40) rfl rfl ?_
      show Steps p.tables e below (T9.setTop (mkF m 42 #[.val (.int p0), .val (.int p1), .val (.int aa), .val (.int bb), .val (.ref (own_md aa sh up ex)), .val (.ref (own_md bb sh up ex)), .val (.int (1 : Int32)), .unset, .unset] [(.ref (own_md aa sh up ex))])) t
      refine XS.aload X9.here hx rfl (hb hby at_42) rfl rfl ?_
      show Steps p.tables e below (T9.setTop (mkF m 44 #[.val (.int p0), .val (.int p1), .val (.int aa), .val (.int bb), .val (.ref (own_md aa sh up ex)), .val (.ref (own_md bb sh up ex)), .val (.int (1 : Int32)), .unset, .unset] [(.ref (own_md bb sh up ex)), (.ref (own_md aa sh up ex))])) t
      exact k)
    obtain ⟨cq12, kq12, q12a, q12b, q12c⟩ := isOf hZ e9 Ea
    obtain ⟨_, _, ⟨T12, L12, k12, n12⟩, -, X12, ⟨Lc12, hQ12, l12, y12, z12⟩, st12⟩ := X9.virtualBack hx (y := (⟨"com/example/signalbox/signalbox/engine/LockMode", "compatibleWith", "(Lcom/example/signalbox/signalbox/engine/LockMode;)Z"⟩ : MethodName)) (z := (⟨"com/example/signalbox/signalbox/engine/LockMode", "compatibleWith", "(Lcom/example/signalbox/signalbox/engine/LockMode;)Z"⟩ : MethodName)) hown (mvT hZ (hw _ (List.mem_of_getElem? (i := 8) rfl))) (mvT hZ (hw _ (List.mem_of_getElem? (i := 9) rfl))) (notFace_of_selects (args := #[]) (mvT hZ (hw _ (List.mem_of_getElem? (i := 11) rfl)))) (mvT hZ (hw _ (List.mem_of_getElem? (i := 11) rfl))) (mvT hZ (hw _ (List.mem_of_getElem? (i := 10) rfl))) (by decide) (backOf (W := 0) (rm_cw l Z a0 hw [] (own_md aa sh up ex) (own_md bb sh up ex) sh ex h0 n0 Z0 S_SHARED S_EXCLUSIVE) hZ (hw _ (List.mem_of_getElem? (i := 12) rfl)) (hw _ (List.mem_of_getElem? (i := 6) rfl)) (by decide) (by decide)) q12a q12c (g := (mkF m 44 #[.val (.int p0), .val (.int p1), .val (.int aa), .val (.int bb), .val (.ref (own_md aa sh up ex)), .val (.ref (own_md bb sh up ex)), .val (.int (1 : Int32)), .unset, .unset] [(.ref (own_md bb sh up ex)), (.ref (own_md aa sh up ex))])) rfl (by rw [hml]; rfl) (Steps.refl _) (argsL := [(.ref (own_md bb sh up ex))]) (rest := []) (lenOf pd__Lcom_example_signalbox_signalbox_engine_LockMode__Z rfl) rfl (by show 2 * 0 + _ ≤ _; exact Nat.le_of_eq rfl) (hb hby at_44) (fun _ _ => ⟨rfl, e9, (by decide : 0 + 0 ≤ _), (by decide : 0 + 0 ≤ _)⟩)
    dsimp only [Pt.U, Pt.locs, Pt.cells, Pt.slots] at X12 l12 y12 z12 st12 hQ12
    subst l12 y12 z12
    obtain ⟨rfl, N12q, e12⟩ := hQ12
    have N12 := Fr.app N9 N12q
    replace pre : Pth p e below S0 T12 (mkF m 47 #[.val (.int p0), .val (.int p1), .val (.int aa), .val (.int bb), .val (.ref (own_md aa sh up ex)), .val (.ref (own_md bb sh up ex)), .val (.int (1 : Int32)), .unset, .unset] [(.int (own_cw (own_md aa sh up ex) (own_md bb sh up ex) sh ex))]) := fun t k => pre t (st12.trans k)
    replace pre : Pth p e below S0 T12 (mkF m 53 #[.val (.int p0), .val (.int p1), .val (.int aa), .val (.int bb), .val (.ref (own_md aa sh up ex)), .val (.ref (own_md bb sh up ex)), .val (.int (1 : Int32)), .val (.int (own_cw (own_md aa sh up ex) (own_md bb sh up ex) sh ex)), .unset] [(.ref (own_md aa sh up ex)), (.ref (own_md bb sh up ex))]) := fun t k => pre t (by
      show Steps p.tables e below (T12.setTop (mkF m 47 #[.val (.int p0), .val (.int p1), .val (.int aa), .val (.int bb), .val (.ref (own_md aa sh up ex)), .val (.ref (own_md bb sh up ex)), .val (.int (1 : Int32)), .unset, .unset] [(.int (own_cw (own_md aa sh up ex) (own_md bb sh up ex) sh ex))])) t
      refine XS.istore X12.here hx rfl (hb hby at_47) rfl (l' := #[.val (.int p0), .val (.int p1), .val (.int aa), .val (.int bb), .val (.ref (own_md aa sh up ex)), .val (.ref (own_md bb sh up ex)), .val (.int (1 : Int32)), .val (.int (own_cw (own_md aa sh up ex) (own_md bb sh up ex) sh ex)), .unset]) rfl ?_
      show Steps p.tables e below (T12.setTop (mkF m 49 #[.val (.int p0), .val (.int p1), .val (.int aa), .val (.int bb), .val (.ref (own_md aa sh up ex)), .val (.ref (own_md bb sh up ex)), .val (.int (1 : Int32)), .val (.int (own_cw (own_md aa sh up ex) (own_md bb sh up ex) sh ex)), .unset] [])) t
      refine XS.aload X12.here hx rfl (hb hby at_49) rfl rfl ?_
      show Steps p.tables e below (T12.setTop (mkF m 51 #[.val (.int p0), .val (.int p1), .val (.int aa), .val (.int bb), .val (.ref (own_md aa sh up ex)), .val (.ref (own_md bb sh up ex)), .val (.int (1 : Int32)), .val (.int (own_cw (own_md aa sh up ex) (own_md bb sh up ex) sh ex)), .unset] [(.ref (own_md bb sh up ex))])) t
      refine XS.aload X12.here hx rfl (hb hby at_51) rfl rfl ?_
      show Steps p.tables e below (T12.setTop (mkF m 53 #[.val (.int p0), .val (.int p1), .val (.int aa), .val (.int bb), .val (.ref (own_md aa sh up ex)), .val (.ref (own_md bb sh up ex)), .val (.int (1 : Int32)), .val (.int (own_cw (own_md aa sh up ex) (own_md bb sh up ex) sh ex)), .unset] [(.ref (own_md aa sh up ex)), (.ref (own_md bb sh up ex))])) t
      exact k)
    obtain ⟨cq13, kq13, q13a, q13b, q13c⟩ := isOf hZ e12 Eb
    obtain ⟨_, _, ⟨T13, L13, k13, n13⟩, -, X13, ⟨Lc13, hQ13, l13, y13, z13⟩, st13⟩ := X12.virtualBack hx (y := (⟨"com/example/signalbox/signalbox/engine/LockMode", "compatibleWith", "(Lcom/example/signalbox/signalbox/engine/LockMode;)Z"⟩ : MethodName)) (z := (⟨"com/example/signalbox/signalbox/engine/LockMode", "compatibleWith", "(Lcom/example/signalbox/signalbox/engine/LockMode;)Z"⟩ : MethodName)) hown (mvT hZ (hw _ (List.mem_of_getElem? (i := 8) rfl))) (mvT hZ (hw _ (List.mem_of_getElem? (i := 9) rfl))) (notFace_of_selects (args := #[]) (mvT hZ (hw _ (List.mem_of_getElem? (i := 11) rfl)))) (mvT hZ (hw _ (List.mem_of_getElem? (i := 11) rfl))) (mvT hZ (hw _ (List.mem_of_getElem? (i := 10) rfl))) (by decide) (backOf (W := 0) (rm_cw l Z a0 hw [] (own_md bb sh up ex) (own_md aa sh up ex) sh ex h0 n0 Z0 S_SHARED S_EXCLUSIVE) hZ (hw _ (List.mem_of_getElem? (i := 12) rfl)) (hw _ (List.mem_of_getElem? (i := 6) rfl)) (by decide) (by decide)) q13a q13c (g := (mkF m 53 #[.val (.int p0), .val (.int p1), .val (.int aa), .val (.int bb), .val (.ref (own_md aa sh up ex)), .val (.ref (own_md bb sh up ex)), .val (.int (1 : Int32)), .val (.int (own_cw (own_md aa sh up ex) (own_md bb sh up ex) sh ex)), .unset] [(.ref (own_md aa sh up ex)), (.ref (own_md bb sh up ex))])) rfl (by rw [hml]; rfl) (Steps.refl _) (argsL := [(.ref (own_md aa sh up ex))]) (rest := []) (lenOf pd__Lcom_example_signalbox_signalbox_engine_LockMode__Z rfl) rfl (by show 2 * 0 + _ ≤ _; exact Nat.le_of_eq rfl) (hb hby at_53) (fun _ _ => ⟨rfl, e12, (by decide : 0 + 0 ≤ _), (by decide : 0 + 0 ≤ _)⟩)
    dsimp only [Pt.U, Pt.locs, Pt.cells, Pt.slots] at X13 l13 y13 z13 st13 hQ13
    subst l13 y13 z13
    obtain ⟨rfl, N13q, e13⟩ := hQ13
    have N13 := Fr.app N12 N13q
    replace pre : Pth p e below S0 T13 (mkF m 56 #[.val (.int p0), .val (.int p1), .val (.int aa), .val (.int bb), .val (.ref (own_md aa sh up ex)), .val (.ref (own_md bb sh up ex)), .val (.int (1 : Int32)), .val (.int (own_cw (own_md aa sh up ex) (own_md bb sh up ex) sh ex)), .unset] [(.int (own_cw (own_md bb sh up ex) (own_md aa sh up ex) sh ex))]) := fun t k => pre t (st13.trans k)
    replace pre : Pth p e below S0 T13 (mkF m 77 #[.val (.int p0), .val (.int p1), .val (.int aa), .val (.int bb), .val (.ref (own_md aa sh up ex)), .val (.ref (own_md bb sh up ex)), .val (.int (1 : Int32)), .val (.int (own_cw (own_md aa sh up ex) (own_md bb sh up ex) sh ex)), .val (.int (own_cw (own_md bb sh up ex) (own_md aa sh up ex) sh ex))] [(.int (1 : Int32))]) := fun t k => pre t (by
      show Steps p.tables e below (T13.setTop (mkF m 56 #[.val (.int p0), .val (.int p1), .val (.int aa), .val (.int bb), .val (.ref (own_md aa sh up ex)), .val (.ref (own_md bb sh up ex)), .val (.int (1 : Int32)), .val (.int (own_cw (own_md aa sh up ex) (own_md bb sh up ex) sh ex)), .unset] [(.int (own_cw (own_md bb sh up ex) (own_md aa sh up ex) sh ex))])) t
      refine XS.istore X13.here hx rfl (hb hby at_56) rfl (l' := #[.val (.int p0), .val (.int p1), .val (.int aa), .val (.int bb), .val (.ref (own_md aa sh up ex)), .val (.ref (own_md bb sh up ex)), .val (.int (1 : Int32)), .val (.int (own_cw (own_md aa sh up ex) (own_md bb sh up ex) sh ex)), .val (.int (own_cw (own_md bb sh up ex) (own_md aa sh up ex) sh ex))]) rfl ?_
      show Steps p.tables e below (T13.setTop (mkF m 58 #[.val (.int p0), .val (.int p1), .val (.int aa), .val (.int bb), .val (.ref (own_md aa sh up ex)), .val (.ref (own_md bb sh up ex)), .val (.int (1 : Int32)), .val (.int (own_cw (own_md aa sh up ex) (own_md bb sh up ex) sh ex)), .val (.int (own_cw (own_md bb sh up ex) (own_md aa sh up ex) sh ex))] [])) t
      refine XS.iload X13.here hx rfl (hb hby at_58) rfl ?_
      show Steps p.tables e below (T13.setTop (mkF m 60 #[.val (.int p0), .val (.int p1), .val (.int aa), .val (.int bb), .val (.ref (own_md aa sh up ex)), .val (.ref (own_md bb sh up ex)), .val (.int (1 : Int32)), .val (.int (own_cw (own_md aa sh up ex) (own_md bb sh up ex) sh ex)), .val (.int (own_cw (own_md bb sh up ex) (own_md aa sh up ex) sh ex))] [(.int (own_cw (own_md aa sh up ex) (own_md bb sh up ex) sh ex))])) t
      refine XS.iload X13.here hx rfl (hb hby at_60) rfl ?_
      show Steps p.tables e below (T13.setTop (mkF m 62 #[.val (.int p0), .val (.int p1), .val (.int aa), .val (.int bb), .val (.ref (own_md aa sh up ex)), .val (.ref (own_md bb sh up ex)), .val (.int (1 : Int32)), .val (.int (own_cw (own_md aa sh up ex) (own_md bb sh up ex) sh ex)), .val (.int (own_cw (own_md bb sh up ex) (own_md aa sh up ex) sh ex))] [(.int (1 : Int32)), (.int (own_cw (own_md aa sh up ex) (own_md bb sh up ex) sh ex))])) t
      refine XS.icmpNo X13.here hx rfl (hb hby at_62) rfl (XT.ii_ne_f (own_yes ra rb n1 n2 n3 k1)) ?_
      show Steps p.tables e below (T13.setTop (mkF m 65 #[.val (.int p0), .val (.int p1), .val (.int aa), .val (.int bb), .val (.ref (own_md aa sh up ex)), .val (.ref (own_md bb sh up ex)), .val (.int (1 : Int32)), .val (.int (own_cw (own_md aa sh up ex) (own_md bb sh up ex) sh ex)), .val (.int (own_cw (own_md bb sh up ex) (own_md aa sh up ex) sh ex))] [])) t
      refine XS.iload X13.here hx rfl (hb hby at_65) rfl ?_
      show Steps p.tables e below (T13.setTop (mkF m 67 #[.val (.int p0), .val (.int p1), .val (.int aa), .val (.int bb), .val (.ref (own_md aa sh up ex)), .val (.ref (own_md bb sh up ex)), .val (.int (1 : Int32)), .val (.int (own_cw (own_md aa sh up ex) (own_md bb sh up ex) sh ex)), .val (.int (own_cw (own_md bb sh up ex) (own_md aa sh up ex) sh ex))] [(.int (own_cw (own_md bb sh up ex) (own_md aa sh up ex) sh ex))])) t
      refine XS.iload X13.here hx rfl (hb hby at_67) rfl ?_
      show Steps p.tables e below (T13.setTop (mkF m 69 #[.val (.int p0), .val (.int p1), .val (.int aa), .val (.int bb), .val (.ref (own_md aa sh up ex)), .val (.ref (own_md bb sh up ex)), .val (.int (1 : Int32)), .val (.int (own_cw (own_md aa sh up ex) (own_md bb sh up ex) sh ex)), .val (.int (own_cw (own_md bb sh up ex) (own_md aa sh up ex) sh ex))] [(.int (1 : Int32)), (.int (own_cw (own_md bb sh up ex) (own_md aa sh up ex) sh ex))])) t
      refine XS.icmpNo X13.here hx rfl (hb hby at_69) rfl (XT.ii_ne_f (own_yes rb ra n1 n2 n3 (by rw [Int32.add_comm]; exact k1))) ?_
      show Steps p.tables e below (T13.setTop (mkF m 72 #[.val (.int p0), .val (.int p1), .val (.int aa), .val (.int bb), .val (.ref (own_md aa sh up ex)), .val (.ref (own_md bb sh up ex)), .val (.int (1 : Int32)), .val (.int (own_cw (own_md aa sh up ex) (own_md bb sh up ex) sh ex)), .val (.int (own_cw (own_md bb sh up ex) (own_md aa sh up ex) sh ex))] [])) t
      refine XS.iconst X13.here hx rfl (hb hby at_72) ?_
      show Steps p.tables e below (T13.setTop (mkF m 73 #[.val (.int p0), .val (.int p1), .val (.int aa), .val (.int bb), .val (.ref (own_md aa sh up ex)), .val (.ref (own_md bb sh up ex)), .val (.int (1 : Int32)), .val (.int (own_cw (own_md aa sh up ex) (own_md bb sh up ex) sh ex)), .val (.int (own_cw (own_md bb sh up ex) (own_md aa sh up ex) sh ex))] [(.int (1 : Int32))])) t
      refine XS.goto X13.here hx rfl (pc0 := 73) (pc' := 77) rfl (hb hby at_73) (by decide) (by decide) ?_
      show Steps p.tables e below (T13.setTop (mkF m 77 #[.val (.int p0), .val (.int p1), .val (.int aa), .val (.int bb), .val (.ref (own_md aa sh up ex)), .val (.ref (own_md bb sh up ex)), .val (.int (1 : Int32)), .val (.int (own_cw (own_md aa sh up ex) (own_md bb sh up ex) sh ex)), .val (.int (own_cw (own_md bb sh up ex) (own_md aa sh up ex) sh ex))] [(.int (1 : Int32))])) t
      exact k)
    obtain ⟨fs, hr, hrun, hended, hW, hsame⟩ := X13.leave (v := some (.int (1 : Int32))) (fun h => by rw [Bd.returns] at h; cases h)
    subst hS0
    refine ⟨_, _, pre _ ?_, hrun, hended, _, _, rfl, ?_, ⟨_, rfl⟩, hW, hsame.mono (by decide) (by decide)⟩
    · exact retN X13 hx (t := .boolean) Bd.returns (by simp) (hb hby at_77) hr
    · show Q_law Z p0 p1 sh up ex h0 n0 _ T13.heap _
      rw [e13]
      exact ⟨rfl, N13⟩
set_option maxRecDepth 65536 in
set_option maxHeartbeats 40000000 in
theorem comes_1 {Post : Tables → Env → Array Value → State → Outcome → State → Prop} (hpost : ∀ tb e args s v u, (limb_1_1.after args s (.returned v) u = true ∧ limb_1_2.after args s (.returned v) u = true ∧ True) → FrameEnd s (.returned v) u (Jvm.fieldLocs frame_1_writes args s ++ Jvm.arrayLocs frame_1_arrays args s ++ Jvm.staticLocs frame_1_statics s) 0 0 → Post tb e args s (.returned v) u) :
    ArmFor flags0 classFile x code maxLocals ret World_1 tables_1 room_1 Calls_1 rest_1 Pre_1 Post := by
  intro l hfl _ _ p e ha hc hk s m args below hf hA hF happ hP
  obtain ⟨hcalls, hrest, hpre⟩ := hP
  obtain ⟨-, -, -, hnamed, -, -, -, hat⟩ := (Spec.applies_iff hf).mp happ
  obtain ⟨hg, hn⟩ := and_e (Cond.before_iff.mp (show (Jvm.Cond.and given_1 narrow_1).before args s = true from hpre))
  obtain ⟨gv1a, gv1b⟩ := and_e hg
  obtain ⟨gv2a, gv2b⟩ := and_e gv1b
  obtain ⟨w0, w1, rfl⟩ : ∃ w0 w1 : Value, args = #[w0, w1] := by
    have hs : args.size = 2 := by simpa [Cond.value, given_1] using gv1a
    obtain ⟨L⟩ := args
    match L, hs with
    | [w0, w1], _ => exact ⟨w0, w1, rfl⟩
  have hw := fun d (hd : d ∈ tables_1) => atoms_spec (ws := Jvm.Cond.code x code maxLocals ret :: tables_1) hat d (List.mem_cons_of_mem _ hd)
  have hfit : Fit s := fun {y c} hc i hi => by
    obtain ⟨ha, rfl⟩ := Array.getElem?_eq_some_iff.mp hc
    have q := List.all_eq_true.mp ((Array.all_eq_true_iff_forall_mem.mp hF) _ (Array.getElem_mem ha)) i (List.mem_range.mpr hi)
    simpa [Array.getElem?_eq_getElem hi] using q
  obtain ⟨i0, ei0⟩ := is_v gv2a
  obtain rfl : w0 = (.int i0) := Option.some.inj ei0
  obtain ⟨i1, ei1⟩ := is_v gv2b
  obtain rfl : w1 = (.int i1) := Option.some.inj ei1
  obtain ⟨d0_hx_SHARED, e0_hx_SHARED⟩ := and_e hn
  have hx_SHARED := d0_hx_SHARED
  obtain ⟨d2_hx_EXCLUSIVE, e2_hx_EXCLUSIVE⟩ := and_e e0_hx_SHARED
  have hx_EXCLUSIVE := d2_hx_EXCLUSIVE
  obtain ⟨d4_ho_SHARED, e4_ho_SHARED⟩ := and_e e2_hx_EXCLUSIVE
  have ho_SHARED := d4_ho_SHARED
  obtain ⟨d6_ho_EXCLUSIVE, e6_ho_EXCLUSIVE⟩ := and_e e4_ho_SHARED
  have ho_EXCLUSIVE := d6_ho_EXCLUSIVE
  obtain ⟨d8_hx_UPDATE, e8_hx_UPDATE⟩ := and_e e6_ho_EXCLUSIVE
  have hx_UPDATE := d8_hx_UPDATE
  have ho_UPDATE := e8_hx_UPDATE
  obtain ⟨a_SHARED, ev_SHARED⟩ := exa_v hx_SHARED
  have E_SHARED := Exa.start ev_SHARED hx_SHARED
  have S_SHARED := Sta.start ev_SHARED (Or.inr ⟨(hw _ (List.mem_of_getElem? (i := 6) rfl)), (hw _ (List.mem_of_getElem? (i := 7) rfl))⟩)
  have O_SHARED := own_fldeq ev_SHARED ho_SHARED
  obtain ⟨a_UPDATE, ev_UPDATE⟩ := exa_v hx_UPDATE
  have E_UPDATE := Exa.start ev_UPDATE hx_UPDATE
  have S_UPDATE := Sta.start ev_UPDATE (Or.inr ⟨(hw _ (List.mem_of_getElem? (i := 6) rfl)), (hw _ (List.mem_of_getElem? (i := 18) rfl))⟩)
  have O_UPDATE := own_fldeq ev_UPDATE ho_UPDATE
  obtain ⟨a_EXCLUSIVE, ev_EXCLUSIVE⟩ := exa_v hx_EXCLUSIVE
  have E_EXCLUSIVE := Exa.start ev_EXCLUSIVE hx_EXCLUSIVE
  have S_EXCLUSIVE := Sta.start ev_EXCLUSIVE (Or.inr ⟨(hw _ (List.mem_of_getElem? (i := 6) rfl)), (hw _ (List.mem_of_getElem? (i := 14) rfl))⟩)
  have O_EXCLUSIVE := own_fldeq ev_EXCLUSIVE ho_EXCLUSIVE
  obtain ⟨n, o, h1, h2, h3, _, L, rfl, ⟨rfl, N⟩, hq⟩ := rm_law l s _ hw tables_1 i0 i1 a_SHARED a_UPDATE a_EXCLUSIVE s.heap s.heap.size (Nat.le_refl _) S_SHARED S_UPDATE S_EXCLUSIVE E_SHARED E_UPDATE E_EXCLUSIVE (Fld.ne O_SHARED O_UPDATE (by decide)) (Fld.ne O_SHARED O_EXCLUSIVE (by decide)) (Fld.ne O_UPDATE O_EXCLUSIVE (by decide)) p e ha hc hk s m _ below hf ((Spec.applies_iff_loose hf).mp happ).1 ⟨rfl, State.Warmed39.refl s, rfl⟩ trivial
  refine ⟨n, _, h1, h2, h3, hpost _ _ _ _ _ _ ⟨Cond.after_iff.mpr rfl, Cond.after_iff.mpr (eq_i res_at (Term.int_eval (1)) rfl), trivial⟩ ⟨hq.1, hq.2.1, (hq.2.2.sift fun y hy => Or.inr (N y hy)).mono (by decide) (by decide)⟩⟩
theorem main_1_1 : Claimed_1_1 := comes_1 fun _ _ _ _ _ _ h hF => ⟨h.1, hF⟩
theorem main_1_2 : Claimed_1_2 := comes_1 fun _ _ _ _ _ _ h hF => ⟨h.2.1, hF⟩
end Jvm.Pilot.@@N@@
namespace Jvm.Pilot.@@N@@
open Jvm Jvm.ClassFile Sem Op Lib Jvm.Free Jvm.Stand Jvm.Pilot.@@N@@.Jvm.D
/-! MADE BY PROGRAM (witnessworld.py) out of the Statement's table words and the real class files: 12 classes; the members and pool entries that the words name. The judged class is class 1, her method 2. -/
namespace start1
open Jvm.ClassFile
def u (s : String) : CpInfo := .utf8 (stringToUtf16 s)
/-- a pool by its gaps: so many unusable entries, then the entry; so many at the end -/
def gap : Nat → List CpInfo → List CpInfo
  | 0, r => r
  | n + 1, r => .unusable :: gap n r
def poolList (es : List (Nat × CpInfo)) (last : Nat) : List CpInfo := es.foldr (fun e r => gap e.1 (e.2 :: r)) (gap last [])
def pool (es : List (Nat × CpInfo)) (last : Nat) : Array CpInfo := ⟨poolList es last⟩
def fileOf (pool : Array CpInfo) (this : Nat) (attrs : Array Attribute := #[]) (ms : Array MethodInfo := #[]) (fl : Nat := 33) (sup : Nat := 0) (ifs : Array Nat := #[]) (fds : Array FieldInfo := #[]) : ClassFile where
  minorVersion := 0
  majorVersion := 65
  constantPool := pool
  accessFlags := fl
  thisClass := this
  superClass := sup
  interfaces := ifs
  fields := fds
  methods := ms
  attributes := attrs
def plain (name : String) (sup : Option ClassId) : Class where
  name := name
  kind := .ordinary
  loader := none
  accessFlags := 33
  super := sup
  interfaces := #[]
  cf := none
  fields := #[]
  methods := #[]
  instanceTypes := #[]
  staticTypes := #[]
  resolved := #[]
  callSites := []
  init := .initialized
  statics := none
  mirror := none

def pool0 : Array CpInfo := pool [(5, u "<init>"), (0, u "()V"), (1, .class_ 10), (1, u "java/lang/Object")] 113

def k0m0 : Method := { name := "<init>", desc := "()V", sig := { parameters := [], returnType := none }, accessFlags := 1, code := none }
/-- java/lang/Object -/
def k0 : Class := { plain "java/lang/Object" none with
  accessFlags := 33
  interfaces := #[]
  cf := some (fileOf pool0 8 #[] #[{ accessFlags := 1, nameIndex := 5, descriptorIndex := 6, attributes := #[] }] 33 0 #[] #[])
  fields := #[]
  methods := #[k0m0]
  instanceTypes := #[]
  staticTypes := #[]
  resolved := Array.replicate 124 none
  statics := none }

def pool1 : Array CpInfo := pool [(2, .class_ 4), (1, u "java/lang/Object"), (0, u "<init>"), (0, u "()V"), (0, .fieldref 8 9), (0, .class_ 10), (0, .nameAndType 11 12), (0, u "com/example/signalbox/signalbox/engine/LockMode"), (0, u "SHARED"), (0, u "Lcom/example/signalbox/signalbox/engine/LockMode;"), (0, .fieldref 8 14), (0, .nameAndType 15 12), (0, u "UPDATE"), (0, .fieldref 8 17), (0, .nameAndType 18 12), (0, u "EXCLUSIVE"), (0, .integer 2147483647), (0, .methodref 21 22), (0, .class_ 23), (0, .nameAndType 24 25), (0, u "com/example/signalbox/signalbox/engine/LockModeCompatibleWithPinLaw"), (0, u "mode"), (0, u "(I)Lcom/example/signalbox/signalbox/engine/LockMode;"), (0, .methodref 8 27), (0, .nameAndType 28 29), (0, u "compatibleWith"), (0, u "(Lcom/example/signalbox/signalbox/engine/LockMode;)Z"), (3, u "law"), (0, u "(II)Z")] 2

def k1m0 : Method := { name := "<init>", desc := "()V", sig := { parameters := [], returnType := none }, accessFlags := 1, code := none }
def k1c1 : Code := { maxStack := 2, maxLocals := 1, code := method_2_code, exceptionTable := #[], attributes := #[] }
def k1m1 : Method := { name := "mode", desc := "(I)Lcom/example/signalbox/signalbox/engine/LockMode;", sig := { parameters := [.int], returnType := some (.object "com/example/signalbox/signalbox/engine/LockMode") }, accessFlags := 10, code := some k1c1 }
def k1c2 : Code := { maxStack := 2, maxLocals := 9, code := code, exceptionTable := #[], attributes := #[] }
def k1m2 : Method := { name := "law", desc := "(II)Z", sig := { parameters := [.int, .int], returnType := some .boolean }, accessFlags := 9, code := some k1c2 }
/-- com/example/signalbox/signalbox/engine/LockModeCompatibleWithPinLaw -/
def k1 : Class := { plain "com/example/signalbox/signalbox/engine/LockModeCompatibleWithPinLaw" (some 0) with
  accessFlags := 49
  interfaces := #[]
  cf := some (fileOf pool1 21 #[] #[{ accessFlags := 1, nameIndex := 5, descriptorIndex := 6, attributes := #[] }, { accessFlags := 10, nameIndex := 24, descriptorIndex := 25, attributes := #[] }, { accessFlags := 9, nameIndex := 33, descriptorIndex := 34, attributes := #[] }] 49 2 #[] #[])
  fields := #[]
  methods := #[k1m0, k1m1, k1m2]
  instanceTypes := #[]
  staticTypes := #[]
  resolved := Array.replicate 37 none
  statics := none }

def pool2 : Array CpInfo := pool [(1, .class_ 2), (0, u "java/lang/constant/Constable"), (0, .class_ 4), (0, u "java/lang/Object")] 6

/-- java/lang/constant/Constable -/
def k2 : Class := { plain "java/lang/constant/Constable" (some 0) with
  accessFlags := 1537
  interfaces := #[]
  cf := some (fileOf pool2 1 #[] #[] 1537 3 #[] #[])
  fields := #[]
  methods := #[]
  instanceTypes := #[]
  staticTypes := #[]
  resolved := Array.replicate 11 none
  statics := none }

def pool3 : Array CpInfo := pool [(1, .class_ 2), (0, u "java/lang/Comparable"), (0, .class_ 4), (0, u "java/lang/Object")] 7

/-- java/lang/Comparable -/
def k3 : Class := { plain "java/lang/Comparable" (some 0) with
  accessFlags := 1537
  interfaces := #[]
  cf := some (fileOf pool3 1 #[] #[] 1537 3 #[] #[])
  fields := #[]
  methods := #[]
  instanceTypes := #[]
  staticTypes := #[]
  resolved := Array.replicate 12 none
  statics := none }

def pool4 : Array CpInfo := pool [(1, .class_ 2), (0, u "java/io/Serializable"), (0, .class_ 4), (0, u "java/lang/Object")] 2

/-- java/io/Serializable -/
def k4 : Class := { plain "java/io/Serializable" (some 0) with
  accessFlags := 1537
  interfaces := #[]
  cf := some (fileOf pool4 1 #[] #[] 1537 3 #[] #[])
  fields := #[]
  methods := #[]
  instanceTypes := #[]
  staticTypes := #[]
  resolved := Array.replicate 7 none
  statics := none }

def pool5 : Array CpInfo := pool [(2, .class_ 4), (1, u "java/lang/Enum"), (0, u "name"), (0, u "Ljava/lang/String;"), (2, u "ordinal"), (0, u "I"), (1, .class_ 14), (1, u "java/lang/Object"), (4, u "hash"), (86, .class_ 108), (1, u "java/lang/Enum$EnumDesc"), (2, .class_ 112), (0, u "java/lang/constant/Constable"), (0, .class_ 114), (0, u "java/lang/Comparable"), (0, .class_ 116), (0, u "java/io/Serializable")] 87

/-- java/lang/Enum -/
def k5 : Class := { plain "java/lang/Enum" (some 0) with
  accessFlags := 1057
  interfaces := #[2, 3, 4]
  cf := some (fileOf pool5 2 #[.nestMembers #[106]] #[] 1057 12 #[111, 113, 115] #[{ accessFlags := 18, nameIndex := 5, descriptorIndex := 6, attributes := #[] }, { accessFlags := 18, nameIndex := 9, descriptorIndex := 10, attributes := #[] }, { accessFlags := 2, nameIndex := 19, descriptorIndex := 10, attributes := #[] }])
  fields := #[{ name := "name", type := (.object "java/lang/String"), accessFlags := 18, slot := 0, constantValue := 0 }, { name := "ordinal", type := .int, accessFlags := 18, slot := 1, constantValue := 0 }, { name := "hash", type := .int, accessFlags := 2, slot := 2, constantValue := 0 }]
  methods := #[]
  instanceTypes := #[(.object "java/lang/String"), .int, .int]
  staticTypes := #[]
  resolved := Array.replicate 204 none
  statics := none }

def pool6 : Array CpInfo := pool [(1, .class_ 2), (0, u "com/example/signalbox/signalbox/engine/LockMode"), (0, .fieldref 1 4), (0, .nameAndType 5 6), (0, u "SHARED"), (0, u "Lcom/example/signalbox/signalbox/engine/LockMode;"), (2, u "UPDATE"), (0, .fieldref 1 11), (0, .nameAndType 12 6), (0, u "EXCLUSIVE"), (2, u "$VALUES"), (0, u "[Lcom/example/signalbox/signalbox/engine/LockMode;"), (6, .class_ 25), (1, u "java/lang/Enum"), (27, u "compatibleWith"), (0, u "(Lcom/example/signalbox/signalbox/engine/LockMode;)Z")] 24

def k6c0 : Code := { maxStack := 2, maxLocals := 2, code := prog_44_method_5_code, exceptionTable := #[], attributes := #[] }
def k6m0 : Method := { name := "compatibleWith", desc := "(Lcom/example/signalbox/signalbox/engine/LockMode;)Z", sig := { parameters := [(.object "com/example/signalbox/signalbox/engine/LockMode")], returnType := some .boolean }, accessFlags := 0, code := some k6c0 }
/-- com/example/signalbox/signalbox/engine/LockMode -/
def k6 : Class := { plain "com/example/signalbox/signalbox/engine/LockMode" (some 5) with
  accessFlags := 16432
  interfaces := #[]
  cf := some (fileOf pool6 1 #[] #[{ accessFlags := 0, nameIndex := 53, descriptorIndex := 54, attributes := #[] }] 16432 23 #[] #[{ accessFlags := 16409, nameIndex := 5, descriptorIndex := 6, attributes := #[] }, { accessFlags := 16409, nameIndex := 9, descriptorIndex := 6, attributes := #[] }, { accessFlags := 16409, nameIndex := 12, descriptorIndex := 6, attributes := #[] }, { accessFlags := 4122, nameIndex := 15, descriptorIndex := 16, attributes := #[] }])
  fields := #[{ name := "SHARED", type := (.object "com/example/signalbox/signalbox/engine/LockMode"), accessFlags := 16409, slot := 0, constantValue := 0 }, { name := "UPDATE", type := (.object "com/example/signalbox/signalbox/engine/LockMode"), accessFlags := 16409, slot := 1, constantValue := 0 }, { name := "EXCLUSIVE", type := (.object "com/example/signalbox/signalbox/engine/LockMode"), accessFlags := 16409, slot := 2, constantValue := 0 }, { name := "$VALUES", type := (.array (.object "com/example/signalbox/signalbox/engine/LockMode")), accessFlags := 4122, slot := 3, constantValue := 0 }]
  methods := #[k6m0]
  instanceTypes := #[(.object "java/lang/String"), .int, .int]
  staticTypes := #[(.object "com/example/signalbox/signalbox/engine/LockMode"), (.object "com/example/signalbox/signalbox/engine/LockMode"), (.object "com/example/signalbox/signalbox/engine/LockMode"), (.array (.object "com/example/signalbox/signalbox/engine/LockMode"))]
  resolved := Array.replicate 79 none
  statics := some 0 }

def pool7 : Array CpInfo := pool [(1, u "java/lang/Cloneable"), (0, .class_ 1), (0, u "java/lang/Object"), (0, .class_ 3)] 3

/-- java/lang/Cloneable -/
def k7 : Class := { plain "java/lang/Cloneable" (some 0) with
  accessFlags := 1537
  interfaces := #[]
  cf := some (fileOf pool7 2 #[] #[] 1537 4 #[] #[])
  fields := #[]
  methods := #[]
  instanceTypes := #[]
  staticTypes := #[]
  resolved := Array.replicate 8 none
  statics := none }

/-- the primitive byte -/
def k8 : Class := { plain "byte" none with kind := .primitive 'B', accessFlags := 0x411 }
/-- [B -/
def k9 : Class := { plain "[B" (some 0) with kind := .array 8 .byte, interfaces := #[7, 4], accessFlags := 1041 }

/-- the primitive int -/
def k10 : Class := { plain "int" none with kind := .primitive 'I', accessFlags := 0x411 }
/-- [I -/
def k11 : Class := { plain "[I" (some 0) with kind := .array 10 .int, interfaces := #[7, 4], accessFlags := 1041 }

def heap : Heap := #[{ cls := 6, slots := #[.ref 1, .ref 2, .ref 3, .null], vm := .statics 6 },
  { cls := 6, slots := #[.null, .int 0, .int 0], vm := .none },
  { cls := 6, slots := #[.null, .int 1, .int 0], vm := .none },
  { cls := 6, slots := #[.null, .int 2, .int 0], vm := .none }]
def classes : Array Class := #[k0, k1, k2, k3, k4, k5, k6, k7, k8, k9, k10, k11]
def interned : List (Array UInt16 × Addr) := []
def slotsUsed : Nat := 13
def theMethod : MethodId := ⟨1, 2⟩
def args0 : Array Value := #[.int 5, .int 7]
def aboutOver (below : List Frame) : State where
  vm := { classes := classes, interned := interned.toArray }
  heap := heap
  slotsUsed := slotsUsed
  threads := #[{ frames := .invoking theMethod args0 :: below }]
def below0 : List Frame := [.native { method := ⟨0, 0⟩, args := #[] }]
def about1 : State := aboutOver below0
def p0 : Program := .bare "" "" ""
def e0 : Env := launch0.env 0 0 0
theorem w_frames : about1.frames = Frame.invoking theMethod args0 :: below0 := rfl
set_option maxRecDepth 65536 in
theorem w_args : argsFit about1.vm theMethod args0 = true := by decide +kernel
set_option maxRecDepth 65536 in
theorem w_heap : heapFits about1 = true := by decide +kernel
set_option maxRecDepth 65536 in
theorem w_runnable : about1.curStatus? = some .runnable := by decide +kernel
set_option maxRecDepth 65536 in
theorem w_alone : about1.alone = true := by decide +kernel
set_option maxRecDepth 65536 in
theorem w_named : about1.methodNamed? x = some theMethod := by decide +kernel
set_option maxRecDepth 65536 in
theorem w_hears : about1.hears theMethod below0 = true := by decide +kernel
set_option maxRecDepth 65536 in
theorem w_ripe : about1.ripe theMethod args0 below0 = true := by decide +kernel
theorem w_running : about1.status = .running := rfl
set_option maxRecDepth 65536 in
theorem w_room : about1.hasRoom e0.platform room_1 = true :=
  launch0.hasRoom_least _ room_1 (by decide +kernel) (by decide +kernel) (by decide +kernel) (by decide +kernel) (by decide +kernel) (by decide +kernel)
theorem allAtoms_all (ts : List Jvm.Cond) (a : Array Jvm.Value) (st : Jvm.State) : (allAtoms ts).before a st = ts.all (fun c => c.before a st) := by
  induction ts with
  | nil => rfl
  | cons c t ih =>
    show (Jvm.Cond.and c (allAtoms t)).before a st = _
    rw [Jvm.Cond.before_and, ih, List.all_cons]
def words1 : List Jvm.Cond := Jvm.Cond.code x code maxLocals ret :: tables_1
/-- a 'code' word, met by the world's own term for the bytes: nothing is compared byte by byte -/
theorem code_word {y : MethodName} {bytes : ByteArray} {mx : Nat} {rt : Option FieldType} {a : Array Value} {s : State} {m : MethodId} {meth : Method} {c : Code} (h1 : s.methodNamed? y = some m) (h2 : s.vm.method? m = some meth) (h3 : meth.code = some c) (h4 : c.code = bytes)
    (h5 : (c.maxLocals == mx && c.exceptionTable.isEmpty && decide (c.maxStack ≤ mostOperands) && decide (meth.sig.returnType = rt) && !meth.locks && decide (parseMethodDescriptor y.desc = some meth.sig)) = true) : (Jvm.Cond.code y bytes mx rt).before a s = true := by
  simp only [Bool.and_eq_true, beq_iff_eq, Bool.not_eq_true', decide_eq_true_eq] at h5
  obtain ⟨⟨⟨⟨⟨g1, g2⟩, g3⟩, g4⟩, g5⟩, g6⟩ := h5
  simp [Cond.before, Cond.holds, Cond.value, h1, h2, h3, h4, g1, g2, g3, g4, g5, g6]
def isCode : Jvm.Cond → Bool
  | .code _ _ _ _ => true
  | _ => false
theorem all_split {L : List Jvm.Cond} {P : Jvm.Cond → Bool} (h1 : L.all (fun c => isCode c || P c) = true) (h2 : ∀ c ∈ L.filter isCode, P c = true) : L.all P = true := by
  refine List.all_eq_true.mpr fun c hc => ?_
  have h := List.all_eq_true.mp h1 c hc
  rcases Bool.eq_false_or_eq_true (isCode c) with hi | hi
  · exact h2 c (List.mem_filter.mpr ⟨hc, hi⟩)
  · simpa [hi] using h
set_option maxRecDepth 65536 in
theorem w_c0 : (Jvm.Cond.code x code maxLocals ret).before args0 about1 = true := code_word (m := ⟨1, 2⟩) (meth := k1m2) (c := k1c2) (by decide +kernel) rfl rfl rfl (by decide +kernel)
set_option maxRecDepth 65536 in
theorem w_c1 : (Jvm.Cond.code ({ cls := "com/example/signalbox/signalbox/engine/LockModeCompatibleWithPinLaw", name := "mode", desc := "(I)Lcom/example/signalbox/signalbox/engine/LockMode;" } : Jvm.MethodName) method_2_code (1 : Nat) (Option.some (Jvm.ClassFile.FieldType.object "com/example/signalbox/signalbox/engine/LockMode"))).before args0 about1 = true := code_word (m := ⟨1, 1⟩) (meth := k1m1) (c := k1c1) (by decide +kernel) rfl rfl rfl (by decide +kernel)
set_option maxRecDepth 65536 in
theorem w_c2 : (Jvm.Cond.code ({ cls := "com/example/signalbox/signalbox/engine/LockMode", name := "compatibleWith", desc := "(Lcom/example/signalbox/signalbox/engine/LockMode;)Z" } : Jvm.MethodName) prog_44_method_5_code (2 : Nat) (Option.some Jvm.ClassFile.FieldType.boolean)).before args0 about1 = true := code_word (m := ⟨6, 0⟩) (meth := k6m0) (c := k6c0) (by decide +kernel) rfl rfl rfl (by decide +kernel)
def codes1 : List Jvm.Cond := [Jvm.Cond.code x code maxLocals ret, Jvm.Cond.code ({ cls := "com/example/signalbox/signalbox/engine/LockModeCompatibleWithPinLaw", name := "mode", desc := "(I)Lcom/example/signalbox/signalbox/engine/LockMode;" } : Jvm.MethodName) method_2_code (1 : Nat) (Option.some (Jvm.ClassFile.FieldType.object "com/example/signalbox/signalbox/engine/LockMode")), Jvm.Cond.code ({ cls := "com/example/signalbox/signalbox/engine/LockMode", name := "compatibleWith", desc := "(Lcom/example/signalbox/signalbox/engine/LockMode;)Z" } : Jvm.MethodName) prog_44_method_5_code (2 : Nat) (Option.some Jvm.ClassFile.FieldType.boolean)]
set_option maxRecDepth 65536 in
theorem codes_eq : words1.filter isCode = codes1 := rfl
theorem w_codes : ∀ c ∈ words1.filter isCode, c.before args0 about1 = true := by
  rw [codes_eq]
  intro c hc
  simp only [codes1, List.mem_cons, List.not_mem_nil, or_false] at hc
  rcases hc with rfl | rfl | rfl
  · exact w_c0
  · exact w_c1
  · exact w_c2
set_option maxRecDepth 65536 in
theorem w_t1 : words1.all (fun c => isCode c || c.before args0 about1) = true := by decide +kernel
theorem w_tables : (allAtoms (Jvm.Cond.code x code maxLocals ret :: tables_1)).before args0 about1 = true := by
  rw [allAtoms_all]
  show words1.all (fun c => c.before args0 about1) = true
  refine all_split ?_ w_codes
  rw [w_t1]
set_option maxRecDepth 65536 in
theorem w_case : (Jvm.Cond.and given_1 narrow_1).before args0 about1 = true := by decide +kernel
theorem w_applies : (headSpec (Jvm.Cond.code x code maxLocals ret :: tables_1) room_1).applies x e0.platform about1 = true :=
  (Spec.applies_iff w_frames).mpr ⟨w_running, w_runnable, w_alone, w_named, w_hears, w_ripe, w_room, w_tables⟩
theorem atStart : AtStart classFile x code maxLocals ret World_1 tables_1 room_1 Calls_1 rest_1 Pre_1 launch0 p0 e0 about1 theMethod args0 below0 :=
  ⟨lists_1, trivial, launch0.admits_env _ _ _, launch0.least_env, fairChoices_fair.cas, fairChoices_fair.clock, w_frames, w_args, w_heap, w_applies, trivial, trivial, w_case⟩
end start1
theorem witness_1 : WitnessClaimed_1 := ⟨start1.p0, start1.e0, start1.about1, start1.theMethod, start1.args0, start1.below0, start1.atStart⟩
end Jvm.Pilot.@@N@@
