import JvmDerived
import JvmDerived.Pilot.@@N@@Statement
import JvmDerived.Pilot.@@N@@Code
set_option linter.unusedVariables false
set_option linter.unusedSimpArgs false

namespace Jvm.RoadKit
open Sem ClassFile Op Lib Jvm.Stand Jvm.Free Jvm.LawKit
section New
variable {p : Program} {l : Launch} {e : Env} {R : Room} {s : State} {m : MethodId} {args : Array Value} {below : List Frame} {meth : Method} {c : Code} {T : State} {locs : List Loc} {cells slots : Nat}
theorem retI (X : Stand p l e R s m args below meth c T locs cells slots) (hx : p.tables.exec = Jvm.exec) {pc : Nat} {Ls : Array Slot} {z : Int32} {rest : List Value} (hret : meth.sig.returnType = some .int) (hd : decode c.code pc = .ok (.ireturn, 1)) {fs : List Frame}
    (hl : ∀ (f : JFrame) (acts : List Action), f.method = m → f.locked = none → f.entered = [] → (doReturn e (T.setTop f) acts (some (.int z))).1 = T.setFrames fs) : Steps p.tables e below (T.setTop (mkF m pc Ls (.int z :: rest))) (T.setFrames fs) := by
  have hm' : T.vm.method? m = some meth := X.method'
  have hn : narrow .int (.int z) = .int z := rfl
  show Steps p.tables e below (T.setTop { method := m, pc := pc, locals := Ls, stack := _ :: rest, locked := none }) _
  jvm_step X.here [X.here.top, hx, hd, hm', hret, hn]
  first | (intro acts; rw [hl _ acts rfl rfl rfl]) | rw [hl _ _ rfl rfl rfl]
  exact Steps.refl _
end New
end Jvm.RoadKit
namespace Jvm.Pilot.@@N@@
open Jvm Jvm.ClassFile Sem Op Lib Jvm.Free Jvm.Stand Jvm.LawKit Jvm.RoadKit Bundle Jvm.Pilot.@@N@@.Jvm.D
/-- from S0 the run comes to T with the frame g on top -/
abbrev Pth (p : Program) (e : Env) (below : List Frame) (S0 T : State) (g : JFrame) : Prop := ∀ t, Steps p.tables e below (T.setTop g) t → Steps p.tables e below S0 t
theorem ef_sp (m : MethodId) (x0 : Int32)  : entryFrame m #[(.int x0)] 1 = mkF m 0 #[.val (.int x0)] [] := by first | (simp [entryFrame, mkF, argsToLocals, Value.category]; done) | rfl
theorem pn_siglum_document_TeiDocument : plainName "siglum/document/TeiDocument" = true := by first | (simp [plainName, overriddenIn]; done) | decide +kernel
theorem d_sp_0 : decode prog_37_method_8_code 0 = .ok (.iload_n 0, 1) := by decide +kernel
theorem d_sp_1 : decode prog_37_method_8_code 1 = .ok (.bipush 32, 2) := by decide +kernel
theorem d_sp_3 : decode prog_37_method_8_code 3 = .ok (.if_icmp .eq 21, 3) := by decide +kernel
theorem d_sp_24 : decode prog_37_method_8_code 24 = .ok (.iconst 1, 1) := by decide +kernel
theorem d_sp_25 : decode prog_37_method_8_code 25 = .ok (.goto 4, 3) := by decide +kernel
theorem d_sp_29 : decode prog_37_method_8_code 29 = .ok (.ireturn, 1) := by decide +kernel
theorem d_sp_6 : decode prog_37_method_8_code 6 = .ok (.iload_n 0, 1) := by decide +kernel
theorem d_sp_7 : decode prog_37_method_8_code 7 = .ok (.bipush 9, 2) := by decide +kernel
theorem d_sp_9 : decode prog_37_method_8_code 9 = .ok (.if_icmp .eq 15, 3) := by decide +kernel
theorem d_sp_12 : decode prog_37_method_8_code 12 = .ok (.iload_n 0, 1) := by decide +kernel
theorem d_sp_13 : decode prog_37_method_8_code 13 = .ok (.bipush 13, 2) := by decide +kernel
theorem d_sp_15 : decode prog_37_method_8_code 15 = .ok (.if_icmp .eq 9, 3) := by decide +kernel
theorem d_sp_18 : decode prog_37_method_8_code 18 = .ok (.iload_n 0, 1) := by decide +kernel
theorem d_sp_19 : decode prog_37_method_8_code 19 = .ok (.bipush 10, 2) := by decide +kernel
theorem d_sp_21 : decode prog_37_method_8_code 21 = .ok (.if_icmp .ne 7, 3) := by decide +kernel
theorem d_sp_28 : decode prog_37_method_8_code 28 = .ok (.iconst 0, 1) := by decide +kernel
theorem ef_law (m : MethodId) (x0 : Int32)  : entryFrame m #[(.int x0)] maxLocals = mkF m 0 #[.val (.int x0), .unset, .unset, .unset] [] := by first | (simp [entryFrame, mkF, argsToLocals, Value.category, maxLocals]; done) | rfl
theorem pn_siglum_document_TeiDocumentIsSpacePinLaw : plainName "siglum/document/TeiDocumentIsSpacePinLaw" = true := by first | (simp [plainName, overriddenIn]; done) | decide +kernel
theorem pd__C_Z : parseMethodDescriptor "(C)Z" = some ⟨[.char], some .boolean⟩ := by decide +kernel
def own_sp (p : Int32) : Int32 := if p = 32 then 1 else if p = 9 then 1 else if p = 13 then 1 else if p = 10 then 1 else 0
theorem own_nn {x m : Int32} (h : m = (x &&& (65535 : Int32)).toUInt32.toUInt16.toUInt32.toInt32) : 0 ≤ m.toInt := by
  have hb : m.toBitVec.toNat < 65536 := by
    rw [h]
    show (x &&& (65535 : Int32)).toUInt32.toUInt16.toUInt32.toNat < 65536
    rw [UInt16.toNat_toUInt32]
    exact UInt16.toNat_lt _
  show 0 ≤ m.toBitVec.toInt
  rw [BitVec.toInt_eq_toNat_of_lt (by omega)]
  omega
theorem own_k {m : Int32} (h0 : 0 ≤ m.toInt) (h : m < 64) : ∃ k : Fin 64, m = Int32.ofNat k.val := by
  rw [Int32.lt_iff_toInt_lt] at h
  have h64 : (64 : Int32).toInt = 64 := rfl
  rw [h64] at h
  refine ⟨⟨m.toInt.toNat, by omega⟩, ?_⟩
  apply Int32.toInt_inj.mp
  rw [Int32.toInt_ofNat_of_lt (by show m.toInt.toNat < _; omega)]
  show m.toInt = (m.toInt.toNat : Int)
  omega
theorem own_all : ∀ k : Fin 64, own_sp (Int32.ofNat k.val) = if (((4294977024 : Int64).toUInt64 >>> ((Int32.ofNat k.val) &&& 0x3f).toInt64.toUInt64).toInt64 &&& (1 : Int64)) = (0 : Int64) then 0 else 1 := by decide +kernel
theorem own_a {x m : Int32} (hm : m = (x &&& (65535 : Int32)).toUInt32.toUInt16.toUInt32.toInt32) (h : m < (64 : Int32)) (h2 : (((4294977024 : Int64).toUInt64 >>> (m &&& 0x3f).toInt64.toUInt64).toInt64 &&& (1 : Int64)) = (0 : Int64)) : own_sp m = (0 : Int32) := by
  obtain ⟨k, rfl⟩ := own_k (own_nn hm) h
  rw [own_all k, if_pos h2]
theorem own_b {x m : Int32} (hm : m = (x &&& (65535 : Int32)).toUInt32.toUInt16.toUInt32.toInt32) (h : m < (64 : Int32)) (h2 : ¬ (((4294977024 : Int64).toUInt64 >>> (m &&& 0x3f).toInt64.toUInt64).toInt64 &&& (1 : Int64)) = (0 : Int64)) : own_sp m = (1 : Int32) := by
  obtain ⟨k, rfl⟩ := own_k (own_nn hm) h
  rw [own_all k, if_neg h2]
theorem own_c {x m : Int32} (hm : m = (x &&& (65535 : Int32)).toUInt32.toUInt16.toUInt32.toInt32) (h : ¬ m < (64 : Int32)) : own_sp m = (0 : Int32) := by
  have n1 : ¬ m = 32 := fun e => h (by rw [e]; decide)
  have n2 : ¬ m = 9 := fun e => h (by rw [e]; decide)
  have n3 : ¬ m = 13 := fun e => h (by rw [e]; decide)
  have n4 : ¬ m = 10 := fun e => h (by rw [e]; decide)
  simp [own_sp, n1, n2, n3, n4]
def Q_sp (Z : State) (p1 : Int32) (h0 : Heap) (n0 : Nat) (v : Option Value) (h : Heap) (L : List Loc) : Prop := v = some (.int (own_sp p1)) ∧ Fr n0 L ∧ h = h0
set_option maxRecDepth 65536 in
set_option maxHeartbeats 40000000 in
theorem rm_sp (l : Launch) (Z : State) (a0 : Array Value) (hw : ∀ d ∈ tables_1, d.before a0 Z = true) (ws : List Jvm.Cond) (p1 : Int32) (h0 : Heap) (n0 : Nat) (Z0 : n0 ≤ h0.size)  :
    MetFree l (⟨"siglum/document/TeiDocument", "isSpace", "(C)Z"⟩ : MethodName) (head1 (Jvm.Cond.code (⟨"siglum/document/TeiDocument", "isSpace", "(C)Z"⟩ : MethodName) prog_37_method_8_code 1 (some .boolean) :: ws) ({ frames := 0, cells := 0, slots := 0, locals := 0 } : Room)) (fun a U => a = #[(.int p1)] ∧ Z.Warmed39 U.vm ∧ U.heap = h0) (fun _ _ _ _ _ => True) (fun _ U o U' => ∃ v L, o = .returned v ∧ Q_sp Z p1 h0 n0 v U'.heap L ∧ FrameEnd U o U' L ({ frames := 0, cells := 0, slots := 0, locals := 0 } : Room).cells ({ frames := 0, cells := 0, slots := 0, locals := 0 } : Room).slots) := by
  refine MetFree.of_bodySF (plainFor_of_name pn_siglum_document_TeiDocument) hisR ?_
  intro p e s m args below meth c s₁ Bd hml0 hP hK
  obtain ⟨rfl, hZ, hh⟩ := hP
  have hx := Bd.exec
  have hby := Bd.bytes
  have hml : c.maxLocals = 1 := hml0
  have hown : s.vm.findClass "siglum/document/TeiDocument" = some m.cls := findClass_of_methodNamed Bd.named
  have hnm := (name_of_methodNamed Bd.named Bd.method).1
  have X0 : Stand p l e ({ frames := 0, cells := 0, slots := 0, locals := 0 } : Room) s m #[(.int p1)] below meth c s₁ [] 0 0 := Stand.of_body Bd
  have e0 : s₁.heap = h0 := by rw [← hh, Bd.state]; rfl
  have N0 := Fr.nil n0
  obtain ⟨S0, hS0⟩ : ∃ S0, S0 = s₁.setTop (entryFrame m #[(.int p1)] 1) := ⟨_, rfl⟩
  have pre : Pth p e below S0 s₁ (mkF m 0 #[.val (.int p1)] []) := fun t k => by rw [hS0]; exact castTop (ef_sp m p1) k
  replace pre : Pth p e below S0 s₁ (mkF m 3 #[.val (.int p1)] [(.int (32 : Int32)), (.int p1)]) := fun t k => pre t (by
    show Steps p.tables e below (s₁.setTop (mkF m 0 #[.val (.int p1)] [])) t
    refine XS.iloadN X0.here hx rfl (hb hby d_sp_0) rfl ?_
    show Steps p.tables e below (s₁.setTop (mkF m 1 #[.val (.int p1)] [(.int p1)])) t
    refine XS.bipush X0.here hx rfl (hb hby d_sp_1) ?_
    show Steps p.tables e below (s₁.setTop (mkF m 3 #[.val (.int p1)] [(.int (32 : Int32)), (.int p1)])) t
    exact k)
  by_cases h1 : p1 = (32 : Int32)
  · replace pre : Pth p e below S0 s₁ (mkF m 29 #[.val (.int p1)] [(.int (1 : Int32))]) := fun t k => pre t (by
      show Steps p.tables e below (s₁.setTop (mkF m 3 #[.val (.int p1)] [(.int (32 : Int32)), (.int p1)])) t
      refine XS.icmpYes X0.here hx rfl (pc0 := 3) (pc' := 24) rfl (hb hby d_sp_3) rfl (XT.ii_eq_t h1) (by decide) (by decide) ?_
      show Steps p.tables e below (s₁.setTop (mkF m 24 #[.val (.int p1)] [])) t
      refine XS.iconst X0.here hx rfl (hb hby d_sp_24) ?_
      show Steps p.tables e below (s₁.setTop (mkF m 25 #[.val (.int p1)] [(.int (1 : Int32))])) t
      refine XS.goto X0.here hx rfl (pc0 := 25) (pc' := 29) rfl (hb hby d_sp_25) (by decide) (by decide) ?_
      show Steps p.tables e below (s₁.setTop (mkF m 29 #[.val (.int p1)] [(.int (1 : Int32))])) t
      exact k)
    obtain ⟨fs, hr, hrun, hended, hW, hsame⟩ := X0.leave (v := some (.int (1 : Int32))) (fun h => by rw [Bd.returns] at h; cases h)
    subst hS0
    refine ⟨_, _, pre _ ?_, hrun, hended, _, _, rfl, ?_, ⟨_, rfl⟩, hW, hsame.mono (by decide) (by decide)⟩
    · exact retN X0 hx (t := .boolean) Bd.returns (by simp) (hb hby d_sp_29) hr
    · show Q_sp Z p1 h0 n0 _ s₁.heap _
      rw [e0]
      exact ⟨by simp [own_sp, h1], N0, rfl⟩
  · replace pre : Pth p e below S0 s₁ (mkF m 9 #[.val (.int p1)] [(.int (9 : Int32)), (.int p1)]) := fun t k => pre t (by
      show Steps p.tables e below (s₁.setTop (mkF m 3 #[.val (.int p1)] [(.int (32 : Int32)), (.int p1)])) t
      refine XS.icmpNo X0.here hx rfl (hb hby d_sp_3) rfl (XT.ii_eq_f h1) ?_
      show Steps p.tables e below (s₁.setTop (mkF m 6 #[.val (.int p1)] [])) t
      refine XS.iloadN X0.here hx rfl (hb hby d_sp_6) rfl ?_
      show Steps p.tables e below (s₁.setTop (mkF m 7 #[.val (.int p1)] [(.int p1)])) t
      refine XS.bipush X0.here hx rfl (hb hby d_sp_7) ?_
      show Steps p.tables e below (s₁.setTop (mkF m 9 #[.val (.int p1)] [(.int (9 : Int32)), (.int p1)])) t
      exact k)
    by_cases h2 : p1 = (9 : Int32)
    · replace pre : Pth p e below S0 s₁ (mkF m 29 #[.val (.int p1)] [(.int (1 : Int32))]) := fun t k => pre t (by
        show Steps p.tables e below (s₁.setTop (mkF m 9 #[.val (.int p1)] [(.int (9 : Int32)), (.int p1)])) t
        refine XS.icmpYes X0.here hx rfl (pc0 := 9) (pc' := 24) rfl (hb hby d_sp_9) rfl (XT.ii_eq_t h2) (by decide) (by decide) ?_
        show Steps p.tables e below (s₁.setTop (mkF m 24 #[.val (.int p1)] [])) t
        refine XS.iconst X0.here hx rfl (hb hby d_sp_24) ?_
        show Steps p.tables e below (s₁.setTop (mkF m 25 #[.val (.int p1)] [(.int (1 : Int32))])) t
        refine XS.goto X0.here hx rfl (pc0 := 25) (pc' := 29) rfl (hb hby d_sp_25) (by decide) (by decide) ?_
        show Steps p.tables e below (s₁.setTop (mkF m 29 #[.val (.int p1)] [(.int (1 : Int32))])) t
        exact k)
      obtain ⟨fs, hr, hrun, hended, hW, hsame⟩ := X0.leave (v := some (.int (1 : Int32))) (fun h => by rw [Bd.returns] at h; cases h)
      subst hS0
      refine ⟨_, _, pre _ ?_, hrun, hended, _, _, rfl, ?_, ⟨_, rfl⟩, hW, hsame.mono (by decide) (by decide)⟩
      · exact retN X0 hx (t := .boolean) Bd.returns (by simp) (hb hby d_sp_29) hr
      · show Q_sp Z p1 h0 n0 _ s₁.heap _
        rw [e0]
        exact ⟨by simp [own_sp, h1, h2], N0, rfl⟩
    · replace pre : Pth p e below S0 s₁ (mkF m 15 #[.val (.int p1)] [(.int (13 : Int32)), (.int p1)]) := fun t k => pre t (by
        show Steps p.tables e below (s₁.setTop (mkF m 9 #[.val (.int p1)] [(.int (9 : Int32)), (.int p1)])) t
        refine XS.icmpNo X0.here hx rfl (hb hby d_sp_9) rfl (XT.ii_eq_f h2) ?_
        show Steps p.tables e below (s₁.setTop (mkF m 12 #[.val (.int p1)] [])) t
        refine XS.iloadN X0.here hx rfl (hb hby d_sp_12) rfl ?_
        show Steps p.tables e below (s₁.setTop (mkF m 13 #[.val (.int p1)] [(.int p1)])) t
        refine XS.bipush X0.here hx rfl (hb hby d_sp_13) ?_
        show Steps p.tables e below (s₁.setTop (mkF m 15 #[.val (.int p1)] [(.int (13 : Int32)), (.int p1)])) t
        exact k)
      by_cases h3 : p1 = (13 : Int32)
      · replace pre : Pth p e below S0 s₁ (mkF m 29 #[.val (.int p1)] [(.int (1 : Int32))]) := fun t k => pre t (by
          show Steps p.tables e below (s₁.setTop (mkF m 15 #[.val (.int p1)] [(.int (13 : Int32)), (.int p1)])) t
          refine XS.icmpYes X0.here hx rfl (pc0 := 15) (pc' := 24) rfl (hb hby d_sp_15) rfl (XT.ii_eq_t h3) (by decide) (by decide) ?_
          show Steps p.tables e below (s₁.setTop (mkF m 24 #[.val (.int p1)] [])) t
          refine XS.iconst X0.here hx rfl (hb hby d_sp_24) ?_
          show Steps p.tables e below (s₁.setTop (mkF m 25 #[.val (.int p1)] [(.int (1 : Int32))])) t
          refine XS.goto X0.here hx rfl (pc0 := 25) (pc' := 29) rfl (hb hby d_sp_25) (by decide) (by decide) ?_
          show Steps p.tables e below (s₁.setTop (mkF m 29 #[.val (.int p1)] [(.int (1 : Int32))])) t
          exact k)
        obtain ⟨fs, hr, hrun, hended, hW, hsame⟩ := X0.leave (v := some (.int (1 : Int32))) (fun h => by rw [Bd.returns] at h; cases h)
        subst hS0
        refine ⟨_, _, pre _ ?_, hrun, hended, _, _, rfl, ?_, ⟨_, rfl⟩, hW, hsame.mono (by decide) (by decide)⟩
        · exact retN X0 hx (t := .boolean) Bd.returns (by simp) (hb hby d_sp_29) hr
        · show Q_sp Z p1 h0 n0 _ s₁.heap _
          rw [e0]
          exact ⟨by simp [own_sp, h1, h2, h3], N0, rfl⟩
      · replace pre : Pth p e below S0 s₁ (mkF m 21 #[.val (.int p1)] [(.int (10 : Int32)), (.int p1)]) := fun t k => pre t (by
          show Steps p.tables e below (s₁.setTop (mkF m 15 #[.val (.int p1)] [(.int (13 : Int32)), (.int p1)])) t
          refine XS.icmpNo X0.here hx rfl (hb hby d_sp_15) rfl (XT.ii_eq_f h3) ?_
          show Steps p.tables e below (s₁.setTop (mkF m 18 #[.val (.int p1)] [])) t
          refine XS.iloadN X0.here hx rfl (hb hby d_sp_18) rfl ?_
          show Steps p.tables e below (s₁.setTop (mkF m 19 #[.val (.int p1)] [(.int p1)])) t
          refine XS.bipush X0.here hx rfl (hb hby d_sp_19) ?_
          show Steps p.tables e below (s₁.setTop (mkF m 21 #[.val (.int p1)] [(.int (10 : Int32)), (.int p1)])) t
          exact k)
        by_cases h4 : p1 = (10 : Int32)
        · replace pre : Pth p e below S0 s₁ (mkF m 29 #[.val (.int p1)] [(.int (1 : Int32))]) := fun t k => pre t (by
            show Steps p.tables e below (s₁.setTop (mkF m 21 #[.val (.int p1)] [(.int (10 : Int32)), (.int p1)])) t
            refine XS.icmpNo X0.here hx rfl (hb hby d_sp_21) rfl (XT.ii_ne_f h4) ?_
            show Steps p.tables e below (s₁.setTop (mkF m 24 #[.val (.int p1)] [])) t
            refine XS.iconst X0.here hx rfl (hb hby d_sp_24) ?_
            show Steps p.tables e below (s₁.setTop (mkF m 25 #[.val (.int p1)] [(.int (1 : Int32))])) t
            refine XS.goto X0.here hx rfl (pc0 := 25) (pc' := 29) rfl (hb hby d_sp_25) (by decide) (by decide) ?_
            show Steps p.tables e below (s₁.setTop (mkF m 29 #[.val (.int p1)] [(.int (1 : Int32))])) t
            exact k)
          obtain ⟨fs, hr, hrun, hended, hW, hsame⟩ := X0.leave (v := some (.int (1 : Int32))) (fun h => by rw [Bd.returns] at h; cases h)
          subst hS0
          refine ⟨_, _, pre _ ?_, hrun, hended, _, _, rfl, ?_, ⟨_, rfl⟩, hW, hsame.mono (by decide) (by decide)⟩
          · exact retN X0 hx (t := .boolean) Bd.returns (by simp) (hb hby d_sp_29) hr
          · show Q_sp Z p1 h0 n0 _ s₁.heap _
            rw [e0]
            exact ⟨by simp [own_sp, h1, h2, h3, h4], N0, rfl⟩
        · replace pre : Pth p e below S0 s₁ (mkF m 29 #[.val (.int p1)] [(.int (0 : Int32))]) := fun t k => pre t (by
            show Steps p.tables e below (s₁.setTop (mkF m 21 #[.val (.int p1)] [(.int (10 : Int32)), (.int p1)])) t
            refine XS.icmpYes X0.here hx rfl (pc0 := 21) (pc' := 28) rfl (hb hby d_sp_21) rfl (XT.ii_ne_t h4) (by decide) (by decide) ?_
            show Steps p.tables e below (s₁.setTop (mkF m 28 #[.val (.int p1)] [])) t
            refine XS.iconst X0.here hx rfl (hb hby d_sp_28) ?_
            show Steps p.tables e below (s₁.setTop (mkF m 29 #[.val (.int p1)] [(.int (0 : Int32))])) t
            exact k)
          obtain ⟨fs, hr, hrun, hended, hW, hsame⟩ := X0.leave (v := some (.int (0 : Int32))) (fun h => by rw [Bd.returns] at h; cases h)
          subst hS0
          refine ⟨_, _, pre _ ?_, hrun, hended, _, _, rfl, ?_, ⟨_, rfl⟩, hW, hsame.mono (by decide) (by decide)⟩
          · exact retN X0 hx (t := .boolean) Bd.returns (by simp) (hb hby d_sp_29) hr
          · show Q_sp Z p1 h0 n0 _ s₁.heap _
            rw [e0]
            exact ⟨by simp [own_sp, h1, h2, h3, h4], N0, rfl⟩
def Q_law (Z : State) (p0 : Int32) (h0 : Heap) (n0 : Nat) (v : Option Value) (h : Heap) (L : List Loc) : Prop := v = some (.int 1) ∧ Fr n0 L
set_option maxRecDepth 65536 in
set_option maxHeartbeats 40000000 in
theorem rm_law (l : Launch) (Z : State) (a0 : Array Value) (hw : ∀ d ∈ tables_1, d.before a0 Z = true) (ws : List Jvm.Cond) (p0 : Int32) (h0 : Heap) (n0 : Nat) (Z0 : n0 ≤ h0.size)  :
    MetFree l x (head1 (Jvm.Cond.code x code maxLocals ret :: ws) room_1) (fun a U => a = #[(.int p0)] ∧ Z.Warmed39 U.vm ∧ U.heap = h0) (fun _ _ _ _ _ => True) (fun _ U o U' => ∃ v L, o = .returned v ∧ Q_law Z p0 h0 n0 v U'.heap L ∧ FrameEnd U o U' L room_1.cells room_1.slots) := by
  refine MetFree.of_bodySF (plainFor_of_name pn_siglum_document_TeiDocumentIsSpacePinLaw) hisR ?_
  intro p e s m args below meth c s₁ Bd hml0 hP hK
  obtain ⟨rfl, hZ, hh⟩ := hP
  have hx := Bd.exec
  have hby := Bd.bytes
  have hml : c.maxLocals = 4 := hml0
  have hown : s.vm.findClass "siglum/document/TeiDocumentIsSpacePinLaw" = some m.cls := findClass_of_methodNamed Bd.named
  have hnm := (name_of_methodNamed Bd.named Bd.method).1
  have X0 : Stand p l e room_1 s m #[(.int p0)] below meth c s₁ [] 0 0 := Stand.of_body Bd
  have e0 : s₁.heap = h0 := by rw [← hh, Bd.state]; rfl
  have N0 := Fr.nil n0
  obtain ⟨S0, hS0⟩ : ∃ S0, S0 = s₁.setTop (entryFrame m #[(.int p0)] maxLocals) := ⟨_, rfl⟩
  have pre : Pth p e below S0 s₁ (mkF m 0 #[.val (.int p0), .unset, .unset, .unset] []) := fun t k => by rw [hS0]; exact castTop (ef_law m p0) k
  replace pre : Pth p e below S0 s₁ (mkF m 5 #[.val (.int p0), .unset, .unset, .unset] [(.int ((p0 &&& (65535 : Int32)).toUInt32.toUInt16.toUInt32.toInt32))]) := fun t k => pre t (by
    show Steps p.tables e below (s₁.setTop (mkF m 0 #[.val (.int p0), .unset, .unset, .unset] [])) t
    refine XS.iloadN X0.here hx rfl (hb hby at_0) rfl ?_
    show Steps p.tables e below (s₁.setTop (mkF m 1 #[.val (.int p0), .unset, .unset, .unset] [(.int p0)])) t
    refine X0.ldcInt hx hown (mvT hZ (hw _ (List.mem_of_getElem? (i := 0) rfl))) (g := (mkF m 1 #[.val (.int p0), .unset, .unset, .unset] [(.int p0)])) rfl (hb hby at_1) _ ?_
    show Steps p.tables e below (s₁.setTop (mkF m 3 #[.val (.int p0), .unset, .unset, .unset] [(.int (65535 : Int32)), (.int p0)])) t
    refine XS.iand X0.here hx rfl (hb hby at_3) rfl ?_
    show Steps p.tables e below (s₁.setTop (mkF m 4 #[.val (.int p0), .unset, .unset, .unset] [(.int (p0 &&& (65535 : Int32)))])) t
    refine XS.i2c X0.here hx rfl (hb hby at_4) rfl ?_
    show Steps p.tables e below (s₁.setTop (mkF m 5 #[.val (.int p0), .unset, .unset, .unset] [(.int ((p0 &&& (65535 : Int32)).toUInt32.toUInt16.toUInt32.toInt32))])) t
    exact k)
  obtain ⟨cc, hm⟩ : ∃ z : Int32, z = ((p0 &&& (65535 : Int32)).toUInt32.toUInt16.toUInt32.toInt32) := ⟨_, rfl⟩
  rw [← hm] at pre
  replace pre : Pth p e below S0 s₁ (mkF m 11 #[.val (.int p0), .val (.int cc), .val (.int cc), .unset] [(.int (64 : Int32)), (.int cc)]) := fun t k => pre t (by
    show Steps p.tables e below (s₁.setTop (mkF m 5 #[.val (.int p0), .unset, .unset, .unset] [(.int cc)])) t
    refine XS.istoreN X0.here hx rfl (hb hby at_5) rfl (l' := #[.val (.int p0), .val (.int cc), .unset, .unset]) rfl ?_
    show Steps p.tables e below (s₁.setTop (mkF m 6 #[.val (.int p0), .val (.int cc), .unset, .unset] [])) t
    refine XS.iloadN X0.here hx rfl (hb hby at_6) rfl ?_
    show Steps p.tables e below (s₁.setTop (mkF m 7 #[.val (.int p0), .val (.int cc), .unset, .unset] [(.int cc)])) t
    refine XS.istoreN X0.here hx rfl (hb hby at_7) rfl (l' := #[.val (.int p0), .val (.int cc), .val (.int cc), .unset]) rfl ?_
    show Steps p.tables e below (s₁.setTop (mkF m 8 #[.val (.int p0), .val (.int cc), .val (.int cc), .unset] [])) t
    refine XS.iloadN X0.here hx rfl (hb hby at_8) rfl ?_
    show Steps p.tables e below (s₁.setTop (mkF m 9 #[.val (.int p0), .val (.int cc), .val (.int cc), .unset] [(.int cc)])) t
    refine XS.bipush X0.here hx rfl (hb hby at_9) ?_
    show Steps p.tables e below (s₁.setTop (mkF m 11 #[.val (.int p0), .val (.int cc), .val (.int cc), .unset] [(.int (64 : Int32)), (.int cc)])) t
    exact k)
  by_cases k1 : cc < (64 : Int32)
  · replace pre : Pth p e below S0 s₁ (mkF m 23 #[.val (.int p0), .val (.int cc), .val (.int cc), .unset] [(.int (XT.cmpL ((((4294977024 : Int64).toUInt64 >>> (cc &&& 0x3f).toInt64.toUInt64).toInt64) &&& (1 : Int64)) (0 : Int64)))]) := fun t k => pre t (by
      show Steps p.tables e below (s₁.setTop (mkF m 11 #[.val (.int p0), .val (.int cc), .val (.int cc), .unset] [(.int (64 : Int32)), (.int cc)])) t
      refine XS.icmpNo X0.here hx rfl (hb hby at_11) rfl (XT.ii_ge_f k1) ?_
      show Steps p.tables e below (s₁.setTop (mkF m 14 #[.val (.int p0), .val (.int cc), .val (.int cc), .unset] [])) t
      refine X0.ldc2Long hx hown (mvT hZ (hw _ (List.mem_of_getElem? (i := 1) rfl))) (g := (mkF m 14 #[.val (.int p0), .val (.int cc), .val (.int cc), .unset] [])) rfl (hb hby at_14) _ ?_
      show Steps p.tables e below (s₁.setTop (mkF m 17 #[.val (.int p0), .val (.int cc), .val (.int cc), .unset] [(.long (4294977024 : Int64))])) t
      refine XS.iloadN X0.here hx rfl (hb hby at_17) rfl ?_
      show Steps p.tables e below (s₁.setTop (mkF m 18 #[.val (.int p0), .val (.int cc), .val (.int cc), .unset] [(.int cc), (.long (4294977024 : Int64))])) t
      refine XS.lushr X0.here hx rfl (hb hby at_18) rfl ?_
      show Steps p.tables e below (s₁.setTop (mkF m 19 #[.val (.int p0), .val (.int cc), .val (.int cc), .unset] [(.long (((4294977024 : Int64).toUInt64 >>> (cc &&& 0x3f).toInt64.toUInt64).toInt64))])) t
      refine XS.lconst X0.here hx rfl (hb hby at_19) ?_
      show Steps p.tables e below (s₁.setTop (mkF m 20 #[.val (.int p0), .val (.int cc), .val (.int cc), .unset] [(.long (1 : Int64)), (.long (((4294977024 : Int64).toUInt64 >>> (cc &&& 0x3f).toInt64.toUInt64).toInt64))])) t
      refine XS.land X0.here hx rfl (hb hby at_20) rfl ?_
      show Steps p.tables e below (s₁.setTop (mkF m 21 #[.val (.int p0), .val (.int cc), .val (.int cc), .unset] [(.long ((((4294977024 : Int64).toUInt64 >>> (cc &&& 0x3f).toInt64.toUInt64).toInt64) &&& (1 : Int64)))])) t
      refine XS.lconst X0.here hx rfl (hb hby at_21) ?_
      show Steps p.tables e below (s₁.setTop (mkF m 22 #[.val (.int p0), .val (.int cc), .val (.int cc), .unset] [(.long (0 : Int64)), (.long ((((4294977024 : Int64).toUInt64 >>> (cc &&& 0x3f).toInt64.toUInt64).toInt64) &&& (1 : Int64)))])) t
      refine XT.lcmp X0.here hx rfl (hb hby at_22) rfl ?_
      show Steps p.tables e below (s₁.setTop (mkF m 23 #[.val (.int p0), .val (.int cc), .val (.int cc), .unset] [(.int (XT.cmpL ((((4294977024 : Int64).toUInt64 >>> (cc &&& 0x3f).toInt64.toUInt64).toInt64) &&& (1 : Int64)) (0 : Int64)))])) t
      exact k)
    by_cases k2 : ((((4294977024 : Int64).toUInt64 >>> (cc &&& 0x3f).toInt64.toUInt64).toInt64) &&& (1 : Int64)) = (0 : Int64)
    · replace pre : Pth p e below S0 s₁ (mkF m 33 #[.val (.int p0), .val (.int cc), .val (.int cc), .val (.int (0 : Int32))] [(.int cc)]) := fun t k => pre t (by
        show Steps p.tables e below (s₁.setTop (mkF m 23 #[.val (.int p0), .val (.int cc), .val (.int cc), .unset] [(.int (XT.cmpL ((((4294977024 : Int64).toUInt64 >>> (cc &&& 0x3f).toInt64.toUInt64).toInt64) &&& (1 : Int64)) (0 : Int64)))])) t
        refine XS.ifYes X0.here hx rfl (pc0 := 23) (pc' := 30) rfl (hb hby at_23) rfl (XT.ll_eq_t k2) (by decide) (by decide) ?_
        show Steps p.tables e below (s₁.setTop (mkF m 30 #[.val (.int p0), .val (.int cc), .val (.int cc), .unset] [])) t
        refine XS.iconst X0.here hx rfl (hb hby at_30) ?_
        show Steps p.tables e below (s₁.setTop (mkF m 31 #[.val (.int p0), .val (.int cc), .val (.int cc), .unset] [(.int (0 : Int32))])) t
        refine XS.istoreN X0.here hx rfl (hb hby at_31) rfl (l' := #[.val (.int p0), .val (.int cc), .val (.int cc), .val (.int (0 : Int32))]) rfl ?_
        show Steps p.tables e below (s₁.setTop (mkF m 32 #[.val (.int p0), .val (.int cc), .val (.int cc), .val (.int (0 : Int32))] [])) t
        refine XS.iloadN X0.here hx rfl (hb hby at_32) rfl ?_
        show Steps p.tables e below (s₁.setTop (mkF m 33 #[.val (.int p0), .val (.int cc), .val (.int cc), .val (.int (0 : Int32))] [(.int cc)])) t
        exact k)
      obtain ⟨_, _, ⟨T1, L1, k1, n1⟩, -, X1, ⟨Lc1, hQ1, l1, y1, z1⟩, st1⟩ := Jvm.LawKit.callS X0 hx (y := (⟨"siglum/document/TeiDocument", "isSpace", "(C)Z"⟩ : MethodName)) hown (mvT hZ (hw _ (List.mem_of_getElem? (i := 2) rfl))) (mvT hZ (hw _ (List.mem_of_getElem? (i := 3) rfl))) (mvT hZ (hw _ (List.mem_of_getElem? (i := 4) rfl))) (mvT hZ (hw _ (List.mem_of_getElem? (i := 5) rfl))) (by decide) (backOf (W := 0) (rm_sp l Z a0 hw [] cc h0 n0 Z0) hZ (hw _ (List.mem_of_getElem? (i := 5) rfl)) (hw _ (List.mem_of_getElem? (i := 4) rfl)) (by decide) (by decide)) (g := (mkF m 33 #[.val (.int p0), .val (.int cc), .val (.int cc), .val (.int (0 : Int32))] [(.int cc)])) rfl (by rw [hml]; rfl) (argsL := [(.int cc)]) (rest := []) (lenOf pd__C_Z rfl) rfl (by show 2 * 0 + _ ≤ _; exact Nat.le_of_eq rfl) (hb hby at_33) (fun _ _ => ⟨rfl, e0, (by decide : 0 + 0 ≤ _), (by decide : 0 + 0 ≤ _)⟩)
      dsimp only [Pt.U, Pt.locs, Pt.cells, Pt.slots] at X1 l1 y1 z1 st1 hQ1
      subst l1 y1 z1
      obtain ⟨rfl, N1q, e1⟩ := hQ1
      have N1 := Fr.app N0 N1q
      replace pre : Pth p e below S0 T1 (mkF m 36 #[.val (.int p0), .val (.int cc), .val (.int cc), .val (.int (0 : Int32))] [(.int (own_sp cc))]) := fun t k => pre t (st1 _ k)
      replace pre : Pth p e below S0 T1 (mkF m 45 #[.val (.int p0), .val (.int cc), .val (.int cc), .val (.int (0 : Int32))] [(.int (1 : Int32))]) := fun t k => pre t (by
        show Steps p.tables e below (T1.setTop (mkF m 36 #[.val (.int p0), .val (.int cc), .val (.int cc), .val (.int (0 : Int32))] [(.int (own_sp cc))])) t
        refine XS.iloadN X1.here hx rfl (hb hby at_36) rfl ?_
        show Steps p.tables e below (T1.setTop (mkF m 37 #[.val (.int p0), .val (.int cc), .val (.int cc), .val (.int (0 : Int32))] [(.int (0 : Int32)), (.int (own_sp cc))])) t
        refine XS.icmpNo X1.here hx rfl (hb hby at_37) rfl (XT.ii_ne_f (own_a hm k1 k2)) ?_
        show Steps p.tables e below (T1.setTop (mkF m 40 #[.val (.int p0), .val (.int cc), .val (.int cc), .val (.int (0 : Int32))] [])) t
        refine XS.iconst X1.here hx rfl (hb hby at_40) ?_
        show Steps p.tables e below (T1.setTop (mkF m 41 #[.val (.int p0), .val (.int cc), .val (.int cc), .val (.int (0 : Int32))] [(.int (1 : Int32))])) t
        refine XS.goto X1.here hx rfl (pc0 := 41) (pc' := 45) rfl (hb hby at_41) (by decide) (by decide) ?_
        show Steps p.tables e below (T1.setTop (mkF m 45 #[.val (.int p0), .val (.int cc), .val (.int cc), .val (.int (0 : Int32))] [(.int (1 : Int32))])) t
        exact k)
      obtain ⟨fs, hr, hrun, hended, hW, hsame⟩ := X1.leave (v := some (.int (1 : Int32))) (fun h => by rw [Bd.returns] at h; cases h)
      subst hS0
      refine ⟨_, _, pre _ ?_, hrun, hended, _, _, rfl, ?_, ⟨_, rfl⟩, hW, hsame.mono (by decide) (by decide)⟩
      · exact retN X1 hx (t := .boolean) Bd.returns (by simp) (hb hby at_45) hr
      · show Q_law Z p0 h0 n0 _ T1.heap _
        rw [e1]
        exact ⟨rfl, N1⟩
    · replace pre : Pth p e below S0 s₁ (mkF m 33 #[.val (.int p0), .val (.int cc), .val (.int cc), .val (.int (1 : Int32))] [(.int cc)]) := fun t k => pre t (by
        show Steps p.tables e below (s₁.setTop (mkF m 23 #[.val (.int p0), .val (.int cc), .val (.int cc), .unset] [(.int (XT.cmpL ((((4294977024 : Int64).toUInt64 >>> (cc &&& 0x3f).toInt64.toUInt64).toInt64) &&& (1 : Int64)) (0 : Int64)))])) t
        refine XS.ifNo X0.here hx rfl (hb hby at_23) rfl (XT.ll_eq_f k2) ?_
        show Steps p.tables e below (s₁.setTop (mkF m 26 #[.val (.int p0), .val (.int cc), .val (.int cc), .unset] [])) t
        refine XS.iconst X0.here hx rfl (hb hby at_26) ?_
        show Steps p.tables e below (s₁.setTop (mkF m 27 #[.val (.int p0), .val (.int cc), .val (.int cc), .unset] [(.int (1 : Int32))])) t
        refine XS.goto X0.here hx rfl (pc0 := 27) (pc' := 31) rfl (hb hby at_27) (by decide) (by decide) ?_
        show Steps p.tables e below (s₁.setTop (mkF m 31 #[.val (.int p0), .val (.int cc), .val (.int cc), .unset] [(.int (1 : Int32))])) t
        refine XS.istoreN X0.here hx rfl (hb hby at_31) rfl (l' := #[.val (.int p0), .val (.int cc), .val (.int cc), .val (.int (1 : Int32))]) rfl ?_
        show Steps p.tables e below (s₁.setTop (mkF m 32 #[.val (.int p0), .val (.int cc), .val (.int cc), .val (.int (1 : Int32))] [])) t
        refine XS.iloadN X0.here hx rfl (hb hby at_32) rfl ?_
        show Steps p.tables e below (s₁.setTop (mkF m 33 #[.val (.int p0), .val (.int cc), .val (.int cc), .val (.int (1 : Int32))] [(.int cc)])) t
        exact k)
      obtain ⟨_, _, ⟨T2, L2, k2, n2⟩, -, X2, ⟨Lc2, hQ2, l2, y2, z2⟩, st2⟩ := Jvm.LawKit.callS X0 hx (y := (⟨"siglum/document/TeiDocument", "isSpace", "(C)Z"⟩ : MethodName)) hown (mvT hZ (hw _ (List.mem_of_getElem? (i := 2) rfl))) (mvT hZ (hw _ (List.mem_of_getElem? (i := 3) rfl))) (mvT hZ (hw _ (List.mem_of_getElem? (i := 4) rfl))) (mvT hZ (hw _ (List.mem_of_getElem? (i := 5) rfl))) (by decide) (backOf (W := 0) (rm_sp l Z a0 hw [] cc h0 n0 Z0) hZ (hw _ (List.mem_of_getElem? (i := 5) rfl)) (hw _ (List.mem_of_getElem? (i := 4) rfl)) (by decide) (by decide)) (g := (mkF m 33 #[.val (.int p0), .val (.int cc), .val (.int cc), .val (.int (1 : Int32))] [(.int cc)])) rfl (by rw [hml]; rfl) (argsL := [(.int cc)]) (rest := []) (lenOf pd__C_Z rfl) rfl (by show 2 * 0 + _ ≤ _; exact Nat.le_of_eq rfl) (hb hby at_33) (fun _ _ => ⟨rfl, e0, (by decide : 0 + 0 ≤ _), (by decide : 0 + 0 ≤ _)⟩)
      dsimp only [Pt.U, Pt.locs, Pt.cells, Pt.slots] at X2 l2 y2 z2 st2 hQ2
      subst l2 y2 z2
      obtain ⟨rfl, N2q, e2⟩ := hQ2
      have N2 := Fr.app N0 N2q
      replace pre : Pth p e below S0 T2 (mkF m 36 #[.val (.int p0), .val (.int cc), .val (.int cc), .val (.int (1 : Int32))] [(.int (own_sp cc))]) := fun t k => pre t (st2 _ k)
      replace pre : Pth p e below S0 T2 (mkF m 45 #[.val (.int p0), .val (.int cc), .val (.int cc), .val (.int (1 : Int32))] [(.int (1 : Int32))]) := fun t k => pre t (by
        show Steps p.tables e below (T2.setTop (mkF m 36 #[.val (.int p0), .val (.int cc), .val (.int cc), .val (.int (1 : Int32))] [(.int (own_sp cc))])) t
        refine XS.iloadN X2.here hx rfl (hb hby at_36) rfl ?_
        show Steps p.tables e below (T2.setTop (mkF m 37 #[.val (.int p0), .val (.int cc), .val (.int cc), .val (.int (1 : Int32))] [(.int (1 : Int32)), (.int (own_sp cc))])) t
        refine XS.icmpNo X2.here hx rfl (hb hby at_37) rfl (XT.ii_ne_f (own_b hm k1 k2)) ?_
        show Steps p.tables e below (T2.setTop (mkF m 40 #[.val (.int p0), .val (.int cc), .val (.int cc), .val (.int (1 : Int32))] [])) t
        refine XS.iconst X2.here hx rfl (hb hby at_40) ?_
        show Steps p.tables e below (T2.setTop (mkF m 41 #[.val (.int p0), .val (.int cc), .val (.int cc), .val (.int (1 : Int32))] [(.int (1 : Int32))])) t
        refine XS.goto X2.here hx rfl (pc0 := 41) (pc' := 45) rfl (hb hby at_41) (by decide) (by decide) ?_
        show Steps p.tables e below (T2.setTop (mkF m 45 #[.val (.int p0), .val (.int cc), .val (.int cc), .val (.int (1 : Int32))] [(.int (1 : Int32))])) t
        exact k)
      obtain ⟨fs, hr, hrun, hended, hW, hsame⟩ := X2.leave (v := some (.int (1 : Int32))) (fun h => by rw [Bd.returns] at h; cases h)
      subst hS0
      refine ⟨_, _, pre _ ?_, hrun, hended, _, _, rfl, ?_, ⟨_, rfl⟩, hW, hsame.mono (by decide) (by decide)⟩
      · exact retN X2 hx (t := .boolean) Bd.returns (by simp) (hb hby at_45) hr
      · show Q_law Z p0 h0 n0 _ T2.heap _
        rw [e2]
        exact ⟨rfl, N2⟩
  · replace pre : Pth p e below S0 s₁ (mkF m 33 #[.val (.int p0), .val (.int cc), .val (.int cc), .val (.int (0 : Int32))] [(.int cc)]) := fun t k => pre t (by
      show Steps p.tables e below (s₁.setTop (mkF m 11 #[.val (.int p0), .val (.int cc), .val (.int cc), .unset] [(.int (64 : Int32)), (.int cc)])) t
      refine XS.icmpYes X0.here hx rfl (pc0 := 11) (pc' := 30) rfl (hb hby at_11) rfl (XT.ii_ge_t k1) (by decide) (by decide) ?_
      show Steps p.tables e below (s₁.setTop (mkF m 30 #[.val (.int p0), .val (.int cc), .val (.int cc), .unset] [])) t
      refine XS.iconst X0.here hx rfl (hb hby at_30) ?_
      show Steps p.tables e below (s₁.setTop (mkF m 31 #[.val (.int p0), .val (.int cc), .val (.int cc), .unset] [(.int (0 : Int32))])) t
      refine XS.istoreN X0.here hx rfl (hb hby at_31) rfl (l' := #[.val (.int p0), .val (.int cc), .val (.int cc), .val (.int (0 : Int32))]) rfl ?_
      show Steps p.tables e below (s₁.setTop (mkF m 32 #[.val (.int p0), .val (.int cc), .val (.int cc), .val (.int (0 : Int32))] [])) t
      refine XS.iloadN X0.here hx rfl (hb hby at_32) rfl ?_
      show Steps p.tables e below (s₁.setTop (mkF m 33 #[.val (.int p0), .val (.int cc), .val (.int cc), .val (.int (0 : Int32))] [(.int cc)])) t
      exact k)
    obtain ⟨_, _, ⟨T3, L3, k3, n3⟩, -, X3, ⟨Lc3, hQ3, l3, y3, z3⟩, st3⟩ := Jvm.LawKit.callS X0 hx (y := (⟨"siglum/document/TeiDocument", "isSpace", "(C)Z"⟩ : MethodName)) hown (mvT hZ (hw _ (List.mem_of_getElem? (i := 2) rfl))) (mvT hZ (hw _ (List.mem_of_getElem? (i := 3) rfl))) (mvT hZ (hw _ (List.mem_of_getElem? (i := 4) rfl))) (mvT hZ (hw _ (List.mem_of_getElem? (i := 5) rfl))) (by decide) (backOf (W := 0) (rm_sp l Z a0 hw [] cc h0 n0 Z0) hZ (hw _ (List.mem_of_getElem? (i := 5) rfl)) (hw _ (List.mem_of_getElem? (i := 4) rfl)) (by decide) (by decide)) (g := (mkF m 33 #[.val (.int p0), .val (.int cc), .val (.int cc), .val (.int (0 : Int32))] [(.int cc)])) rfl (by rw [hml]; rfl) (argsL := [(.int cc)]) (rest := []) (lenOf pd__C_Z rfl) rfl (by show 2 * 0 + _ ≤ _; exact Nat.le_of_eq rfl) (hb hby at_33) (fun _ _ => ⟨rfl, e0, (by decide : 0 + 0 ≤ _), (by decide : 0 + 0 ≤ _)⟩)
    dsimp only [Pt.U, Pt.locs, Pt.cells, Pt.slots] at X3 l3 y3 z3 st3 hQ3
    subst l3 y3 z3
    obtain ⟨rfl, N3q, e3⟩ := hQ3
    have N3 := Fr.app N0 N3q
    replace pre : Pth p e below S0 T3 (mkF m 36 #[.val (.int p0), .val (.int cc), .val (.int cc), .val (.int (0 : Int32))] [(.int (own_sp cc))]) := fun t k => pre t (st3 _ k)
    replace pre : Pth p e below S0 T3 (mkF m 45 #[.val (.int p0), .val (.int cc), .val (.int cc), .val (.int (0 : Int32))] [(.int (1 : Int32))]) := fun t k => pre t (by
      show Steps p.tables e below (T3.setTop (mkF m 36 #[.val (.int p0), .val (.int cc), .val (.int cc), .val (.int (0 : Int32))] [(.int (own_sp cc))])) t
      refine XS.iloadN X3.here hx rfl (hb hby at_36) rfl ?_
      show Steps p.tables e below (T3.setTop (mkF m 37 #[.val (.int p0), .val (.int cc), .val (.int cc), .val (.int (0 : Int32))] [(.int (0 : Int32)), (.int (own_sp cc))])) t
      refine XS.icmpNo X3.here hx rfl (hb hby at_37) rfl (XT.ii_ne_f (own_c hm k1)) ?_
      show Steps p.tables e below (T3.setTop (mkF m 40 #[.val (.int p0), .val (.int cc), .val (.int cc), .val (.int (0 : Int32))] [])) t
      refine XS.iconst X3.here hx rfl (hb hby at_40) ?_
      show Steps p.tables e below (T3.setTop (mkF m 41 #[.val (.int p0), .val (.int cc), .val (.int cc), .val (.int (0 : Int32))] [(.int (1 : Int32))])) t
      refine XS.goto X3.here hx rfl (pc0 := 41) (pc' := 45) rfl (hb hby at_41) (by decide) (by decide) ?_
      show Steps p.tables e below (T3.setTop (mkF m 45 #[.val (.int p0), .val (.int cc), .val (.int cc), .val (.int (0 : Int32))] [(.int (1 : Int32))])) t
      exact k)
    obtain ⟨fs, hr, hrun, hended, hW, hsame⟩ := X3.leave (v := some (.int (1 : Int32))) (fun h => by rw [Bd.returns] at h; cases h)
    subst hS0
    refine ⟨_, _, pre _ ?_, hrun, hended, _, _, rfl, ?_, ⟨_, rfl⟩, hW, hsame.mono (by decide) (by decide)⟩
    · exact retN X3 hx (t := .boolean) Bd.returns (by simp) (hb hby at_45) hr
    · show Q_law Z p0 h0 n0 _ T3.heap _
      rw [e3]
      exact ⟨rfl, N3⟩
set_option maxRecDepth 65536 in
set_option maxHeartbeats 40000000 in
theorem comes_1 {Post : Tables → Env → Array Value → State → Outcome → State → Prop} (hpost : ∀ tb e args s v u, (limb_1_1.after args s (.returned v) u = true ∧ limb_1_2.after args s (.returned v) u = true ∧ True) → FrameEnd s (.returned v) u (Jvm.fieldLocs frame_1_writes args s ++ Jvm.arrayLocs frame_1_arrays args s ++ Jvm.staticLocs frame_1_statics s) 0 0 → Post tb e args s (.returned v) u) :
    ArmFor flags0 classFile x code maxLocals ret World_1 tables_1 room_1 Calls_1 rest_1 Pre_1 Post := by
  intro l hfl _ _ p e ha hc hk s m args below hf hA hF happ hP
  obtain ⟨hcalls, hrest, hpre⟩ := hP
  obtain ⟨-, -, -, hnamed, -, -, -, hat⟩ := (Spec.applies_iff hf).mp happ
  obtain ⟨hg, hn⟩ := and_e (Cond.before_iff.mp (show (Jvm.Cond.and given_1 narrow_1).before args s = true from hpre))
  obtain ⟨gv1a, gv1b⟩ := and_e hg
  obtain ⟨w0, rfl⟩ : ∃ w0 : Value, args = #[w0] := by
    have hs : args.size = 1 := by simpa [Cond.value, given_1] using gv1a
    obtain ⟨L⟩ := args
    match L, hs with
    | [w0], _ => exact ⟨w0, rfl⟩
  have hw := fun d (hd : d ∈ tables_1) => atoms_spec (ws := Jvm.Cond.code x code maxLocals ret :: tables_1) hat d (List.mem_cons_of_mem _ hd)
  have hfit : Fit s := fun {y c} hc i hi => by
    obtain ⟨ha, rfl⟩ := Array.getElem?_eq_some_iff.mp hc
    have q := List.all_eq_true.mp ((Array.all_eq_true_iff_forall_mem.mp hF) _ (Array.getElem_mem ha)) i (List.mem_range.mpr hi)
    simpa [Array.getElem?_eq_getElem hi] using q
  obtain ⟨i0, ei0⟩ := is_v gv1b
  obtain rfl : w0 = (.int i0) := Option.some.inj ei0
  obtain ⟨n, o, h1, h2, h3, _, L, rfl, ⟨rfl, N⟩, hq⟩ := rm_law l s _ hw tables_1 i0 s.heap s.heap.size (Nat.le_refl _)  p e ha hc hk s m _ below hf ((Spec.applies_iff_loose hf).mp happ).1 ⟨rfl, State.Warmed39.refl s, rfl⟩ trivial
  refine ⟨n, _, h1, h2, h3, hpost _ _ _ _ _ _ ⟨Cond.after_iff.mpr rfl, Cond.after_iff.mpr (eq_i res_at (Term.int_eval (1)) rfl), trivial⟩ ⟨hq.1, hq.2.1, (hq.2.2.sift fun y hy => Or.inr (N y hy)).mono (by decide) (by decide)⟩⟩
theorem main_1_1 : Claimed_1_1 := comes_1 fun _ _ _ _ _ _ h hF => ⟨h.1, hF⟩
theorem main_1_2 : Claimed_1_2 := comes_1 fun _ _ _ _ _ _ h hF => ⟨h.2.1, hF⟩
end Jvm.Pilot.@@N@@
namespace Jvm.Pilot.@@N@@
open Jvm Jvm.ClassFile Sem Op Lib Jvm.Free Jvm.Stand Jvm.Pilot.@@N@@.Jvm.D
/-! MADE BY PROGRAM (witnessworld.py) out of the Statement's table words and the real class files: 7 classes; the members and pool entries that the words name. The judged class is class 1, her method 1. -/
namespace start1
open Jvm.ClassFile
def u (s : String) : CpInfo := .utf8 (stringToUtf16 s)
/-- a pool by its gaps: so many unusable entries, then the entry; so many at the end -/
def gap : Nat → List CpInfo → List CpInfo
  | 0, r => r
  | n + 1, r => .unusable :: gap n r
def poolList (es : List (Nat × CpInfo)) (last : Nat) : List CpInfo := es.foldr (fun e r => gap e.1 (e.2 :: r)) (gap last [])
def pool (es : List (Nat × CpInfo)) (last : Nat) : Array CpInfo := ⟨poolList es last⟩
def fileOf (pool : Array CpInfo) (this : Nat) (attrs : Array Attribute := #[]) (ms : Array MethodInfo := #[]) (fl : Nat := 33) (sup : Nat := 0) (ifs : Array Nat := #[]) (fds : Array FieldInfo := #[]) : ClassFile where
  minorVersion := 0
  majorVersion := 65
  constantPool := pool
  accessFlags := fl
  thisClass := this
  superClass := sup
  interfaces := ifs
  fields := fds
  methods := ms
  attributes := attrs
def plain (name : String) (sup : Option ClassId) : Class where
  name := name
  kind := .ordinary
  loader := none
  accessFlags := 33
  super := sup
  interfaces := #[]
  cf := none
  fields := #[]
  methods := #[]
  instanceTypes := #[]
  staticTypes := #[]
  resolved := #[]
  callSites := []
  init := .initialized
  statics := none
  mirror := none

def pool0 : Array CpInfo := pool [(5, u "<init>"), (0, u "()V"), (1, .class_ 10), (1, u "java/lang/Object")] 113

def k0m0 : Method := { name := "<init>", desc := "()V", sig := { parameters := [], returnType := none }, accessFlags := 1, code := none }
/-- java/lang/Object -/
def k0 : Class := { plain "java/lang/Object" none with
  accessFlags := 33
  interfaces := #[]
  cf := some (fileOf pool0 8 #[] #[{ accessFlags := 1, nameIndex := 5, descriptorIndex := 6, attributes := #[] }] 33 0 #[] #[])
  fields := #[]
  methods := #[k0m0]
  instanceTypes := #[]
  staticTypes := #[]
  resolved := Array.replicate 124 none
  statics := none }

def pool1 : Array CpInfo := pool [(2, .class_ 4), (1, u "java/lang/Object"), (0, u "<init>"), (0, u "()V"), (0, .integer 65535), (0, .long 4294977024), (1, .methodref 11 12), (0, .class_ 13), (0, .nameAndType 14 15), (0, u "siglum/document/TeiDocument"), (0, u "isSpace"), (0, u "(C)Z"), (0, .class_ 17), (0, u "siglum/document/TeiDocumentIsSpacePinLaw"), (2, u "law"), (0, u "(I)Z")] 3

def k1m0 : Method := { name := "<init>", desc := "()V", sig := { parameters := [], returnType := none }, accessFlags := 2, code := none }
def k1c1 : Code := { maxStack := 4, maxLocals := 4, code := code, exceptionTable := #[], attributes := #[] }
def k1m1 : Method := { name := "law", desc := "(I)Z", sig := { parameters := [.int], returnType := some .boolean }, accessFlags := 9, code := some k1c1 }
/-- siglum/document/TeiDocumentIsSpacePinLaw -/
def k1 : Class := { plain "siglum/document/TeiDocumentIsSpacePinLaw" (some 0) with
  accessFlags := 49
  interfaces := #[]
  cf := some (fileOf pool1 16 #[] #[{ accessFlags := 2, nameIndex := 5, descriptorIndex := 6, attributes := #[] }, { accessFlags := 9, nameIndex := 20, descriptorIndex := 21, attributes := #[] }] 49 2 #[] #[])
  fields := #[]
  methods := #[k1m0, k1m1]
  instanceTypes := #[]
  staticTypes := #[]
  resolved := Array.replicate 25 none
  statics := none }

def pool2 : Array CpInfo := pool [(2, .class_ 4), (1, u "java/lang/Object"), (0, u "<init>"), (0, u "()V"), (1, .class_ 10), (1, u "siglum/document/TeiDocument"), (21, .class_ 33), (0, u "siglum/document/TeiDocument$Guarded"), (14, .class_ 50), (1, u "siglum/document/TeiDocument$Walk"), (272, u "isSpace"), (0, u "(C)Z"), (0, u "NAMESPACE"), (0, u "Ljava/lang/String;"), (1, u "MESSAGE_MARK")] 61

def k2m0 : Method := { name := "<init>", desc := "()V", sig := { parameters := [], returnType := none }, accessFlags := 2, code := none }
def k2c1 : Code := { maxStack := 2, maxLocals := 1, code := prog_37_method_8_code, exceptionTable := #[], attributes := #[] }
def k2m1 : Method := { name := "isSpace", desc := "(C)Z", sig := { parameters := [.char], returnType := some .boolean }, accessFlags := 9, code := some k2c1 }
/-- siglum/document/TeiDocument -/
def k2 : Class := { plain "siglum/document/TeiDocument" (some 0) with
  accessFlags := 49
  interfaces := #[]
  cf := some (fileOf pool2 8 #[.nestMembers #[32, 48]] #[{ accessFlags := 2, nameIndex := 5, descriptorIndex := 6, attributes := #[] }, { accessFlags := 9, nameIndex := 323, descriptorIndex := 324, attributes := #[] }] 49 2 #[] #[{ accessFlags := 25, nameIndex := 325, descriptorIndex := 326, attributes := #[] }, { accessFlags := 26, nameIndex := 328, descriptorIndex := 326, attributes := #[] }])
  fields := #[{ name := "NAMESPACE", type := (.object "java/lang/String"), accessFlags := 25, slot := 0, constantValue := 0 }, { name := "MESSAGE_MARK", type := (.object "java/lang/String"), accessFlags := 26, slot := 1, constantValue := 0 }]
  methods := #[k2m0, k2m1]
  instanceTypes := #[]
  staticTypes := #[(.object "java/lang/String"), (.object "java/lang/String")]
  resolved := Array.replicate 390 none
  statics := none }

def pool3 : Array CpInfo := pool [(1, u "java/lang/Cloneable"), (0, .class_ 1), (0, u "java/lang/Object"), (0, .class_ 3)] 3

/-- java/lang/Cloneable -/
def k3 : Class := { plain "java/lang/Cloneable" (some 0) with
  accessFlags := 1537
  interfaces := #[]
  cf := some (fileOf pool3 2 #[] #[] 1537 4 #[] #[])
  fields := #[]
  methods := #[]
  instanceTypes := #[]
  staticTypes := #[]
  resolved := Array.replicate 8 none
  statics := none }

def pool4 : Array CpInfo := pool [(1, u "java/io/Serializable"), (0, .class_ 1), (0, u "java/lang/Object"), (0, .class_ 3)] 3

/-- java/io/Serializable -/
def k4 : Class := { plain "java/io/Serializable" (some 0) with
  accessFlags := 1537
  interfaces := #[]
  cf := some (fileOf pool4 2 #[] #[] 1537 4 #[] #[])
  fields := #[]
  methods := #[]
  instanceTypes := #[]
  staticTypes := #[]
  resolved := Array.replicate 8 none
  statics := none }

/-- the primitive byte -/
def k5 : Class := { plain "byte" none with kind := .primitive 'B', accessFlags := 0x411 }
/-- [B -/
def k6 : Class := { plain "[B" (some 0) with kind := .array 5 .byte, interfaces := #[3, 4], accessFlags := 1041 }

def heap : Heap := #[]
def classes : Array Class := #[k0, k1, k2, k3, k4, k5, k6]
def interned : List (Array UInt16 × Addr) := []
def slotsUsed : Nat := 0
def theMethod : MethodId := ⟨1, 1⟩
def args0 : Array Value := #[.int 5]
def aboutOver (below : List Frame) : State where
  vm := { classes := classes, interned := interned.toArray }
  heap := heap
  slotsUsed := slotsUsed
  threads := #[{ frames := .invoking theMethod args0 :: below }]
def below0 : List Frame := [.native { method := ⟨0, 0⟩, args := #[] }]
def about1 : State := aboutOver below0
def p0 : Program := .bare "" "" ""
def e0 : Env := launch0.env 0 0 0
theorem w_frames : about1.frames = Frame.invoking theMethod args0 :: below0 := rfl
set_option maxRecDepth 65536 in
theorem w_args : argsFit about1.vm theMethod args0 = true := by decide +kernel
set_option maxRecDepth 65536 in
theorem w_heap : heapFits about1 = true := by decide +kernel
set_option maxRecDepth 65536 in
theorem w_runnable : about1.curStatus? = some .runnable := by decide +kernel
set_option maxRecDepth 65536 in
theorem w_alone : about1.alone = true := by decide +kernel
set_option maxRecDepth 65536 in
theorem w_named : about1.methodNamed? x = some theMethod := by decide +kernel
set_option maxRecDepth 65536 in
theorem w_hears : about1.hears theMethod below0 = true := by decide +kernel
set_option maxRecDepth 65536 in
theorem w_ripe : about1.ripe theMethod args0 below0 = true := by decide +kernel
theorem w_running : about1.status = .running := rfl
set_option maxRecDepth 65536 in
theorem w_room : about1.hasRoom e0.platform room_1 = true :=
  launch0.hasRoom_least _ room_1 (by decide +kernel) (by decide +kernel) (by decide +kernel) (by decide +kernel) (by decide +kernel) (by decide +kernel)
theorem allAtoms_all (ts : List Jvm.Cond) (a : Array Jvm.Value) (st : Jvm.State) : (allAtoms ts).before a st = ts.all (fun c => c.before a st) := by
  induction ts with
  | nil => rfl
  | cons c t ih =>
    show (Jvm.Cond.and c (allAtoms t)).before a st = _
    rw [Jvm.Cond.before_and, ih, List.all_cons]
def words1 : List Jvm.Cond := Jvm.Cond.code x code maxLocals ret :: tables_1
/-- a 'code' word, met by the world's own term for the bytes: nothing is compared byte by byte -/
theorem code_word {y : MethodName} {bytes : ByteArray} {mx : Nat} {rt : Option FieldType} {a : Array Value} {s : State} {m : MethodId} {meth : Method} {c : Code} (h1 : s.methodNamed? y = some m) (h2 : s.vm.method? m = some meth) (h3 : meth.code = some c) (h4 : c.code = bytes)
    (h5 : (c.maxLocals == mx && c.exceptionTable.isEmpty && decide (c.maxStack ≤ mostOperands) && decide (meth.sig.returnType = rt) && !meth.locks && decide (parseMethodDescriptor y.desc = some meth.sig)) = true) : (Jvm.Cond.code y bytes mx rt).before a s = true := by
  simp only [Bool.and_eq_true, beq_iff_eq, Bool.not_eq_true', decide_eq_true_eq] at h5
  obtain ⟨⟨⟨⟨⟨g1, g2⟩, g3⟩, g4⟩, g5⟩, g6⟩ := h5
  simp [Cond.before, Cond.holds, Cond.value, h1, h2, h3, h4, g1, g2, g3, g4, g5, g6]
def isCode : Jvm.Cond → Bool
  | .code _ _ _ _ => true
  | _ => false
theorem all_split {L : List Jvm.Cond} {P : Jvm.Cond → Bool} (h1 : L.all (fun c => isCode c || P c) = true) (h2 : ∀ c ∈ L.filter isCode, P c = true) : L.all P = true := by
  refine List.all_eq_true.mpr fun c hc => ?_
  have h := List.all_eq_true.mp h1 c hc
  rcases Bool.eq_false_or_eq_true (isCode c) with hi | hi
  · exact h2 c (List.mem_filter.mpr ⟨hc, hi⟩)
  · simpa [hi] using h
set_option maxRecDepth 65536 in
theorem w_c0 : (Jvm.Cond.code x code maxLocals ret).before args0 about1 = true := code_word (m := ⟨1, 1⟩) (meth := k1m1) (c := k1c1) (by decide +kernel) rfl rfl rfl (by decide +kernel)
set_option maxRecDepth 65536 in
theorem w_c1 : (Jvm.Cond.code ({ cls := "siglum/document/TeiDocument", name := "isSpace", desc := "(C)Z" } : Jvm.MethodName) prog_37_method_8_code (1 : Nat) (Option.some Jvm.ClassFile.FieldType.boolean)).before args0 about1 = true := code_word (m := ⟨2, 1⟩) (meth := k2m1) (c := k2c1) (by decide +kernel) rfl rfl rfl (by decide +kernel)
def codes1 : List Jvm.Cond := [Jvm.Cond.code x code maxLocals ret, Jvm.Cond.code ({ cls := "siglum/document/TeiDocument", name := "isSpace", desc := "(C)Z" } : Jvm.MethodName) prog_37_method_8_code (1 : Nat) (Option.some Jvm.ClassFile.FieldType.boolean)]
set_option maxRecDepth 65536 in
theorem codes_eq : words1.filter isCode = codes1 := rfl
theorem w_codes : ∀ c ∈ words1.filter isCode, c.before args0 about1 = true := by
  rw [codes_eq]
  intro c hc
  simp only [codes1, List.mem_cons, List.not_mem_nil, or_false] at hc
  rcases hc with rfl | rfl
  · exact w_c0
  · exact w_c1
set_option maxRecDepth 65536 in
theorem w_t1 : words1.all (fun c => isCode c || c.before args0 about1) = true := by decide +kernel
theorem w_tables : (allAtoms (Jvm.Cond.code x code maxLocals ret :: tables_1)).before args0 about1 = true := by
  rw [allAtoms_all]
  show words1.all (fun c => c.before args0 about1) = true
  refine all_split ?_ w_codes
  rw [w_t1]
set_option maxRecDepth 65536 in
theorem w_case : (Jvm.Cond.and given_1 narrow_1).before args0 about1 = true := by decide +kernel
theorem w_applies : (headSpec (Jvm.Cond.code x code maxLocals ret :: tables_1) room_1).applies x e0.platform about1 = true :=
  (Spec.applies_iff w_frames).mpr ⟨w_running, w_runnable, w_alone, w_named, w_hears, w_ripe, w_room, w_tables⟩
theorem atStart : AtStart classFile x code maxLocals ret World_1 tables_1 room_1 Calls_1 rest_1 Pre_1 launch0 p0 e0 about1 theMethod args0 below0 :=
  ⟨lists_1, trivial, launch0.admits_env _ _ _, launch0.least_env, fairChoices_fair.cas, fairChoices_fair.clock, w_frames, w_args, w_heap, w_applies, trivial, trivial, w_case⟩
end start1
theorem witness_1 : WitnessClaimed_1 := ⟨start1.p0, start1.e0, start1.about1, start1.theMethod, start1.args0, start1.below0, start1.atStart⟩
end Jvm.Pilot.@@N@@
