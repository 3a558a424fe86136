import JvmDerived
import JvmDerived.Pilot.@@N@@Statement
import JvmDerived.Pilot.@@N@@Code
set_option linter.unusedVariables false
set_option linter.unusedSimpArgs false
@@BLOCK:NumsL.lean.txt@@
namespace Jvm.RoadKit
open Sem ClassFile Op Lib Jvm.Stand Jvm.Free Jvm.LawKit
section New
variable {p : Program} {l : Launch} {e : Env} {R : Room} {s : State} {m : MethodId} {args : Array Value} {below : List Frame} {meth : Method} {c : Code} {T : State} {locs : List Loc} {cells slots : Nat}
theorem retI (X : Stand p l e R s m args below meth c T locs cells slots) (hx : p.tables.exec = Jvm.exec) {pc : Nat} {Ls : Array Slot} {z : Int32} {rest : List Value} (hret : meth.sig.returnType = some .int) (hd : decode c.code pc = .ok (.ireturn, 1)) {fs : List Frame}
    (hl : ∀ (f : JFrame) (acts : List Action), f.method = m → f.locked = none → f.entered = [] → (doReturn e (T.setTop f) acts (some (.int z))).1 = T.setFrames fs) : Steps p.tables e below (T.setTop (mkF m pc Ls (.int z :: rest))) (T.setFrames fs) := by
  have hm' : T.vm.method? m = some meth := X.method'
  have hn : narrow .int (.int z) = .int z := rfl
  show Steps p.tables e below (T.setTop { method := m, pc := pc, locals := Ls, stack := _ :: rest, locked := none }) _
  jvm_step X.here [X.here.top, hx, hd, hm', hret, hn]
  first | (intro acts; rw [hl _ acts rfl rfl rfl]) | rw [hl _ _ rfl rfl rfl]
  exact Steps.refl _
end New
end Jvm.RoadKit
namespace Jvm.Pilot.@@N@@
open Jvm Jvm.ClassFile Sem Op Lib Jvm.Free Jvm.Stand Jvm.LawKit Jvm.RoadKit Bundle Jvm.Pilot.@@N@@.Jvm.D
/-- from S0 the run comes to T with the frame g on top -/
abbrev Pth (p : Program) (e : Env) (below : List Frame) (S0 T : State) (g : JFrame) : Prop := ∀ t, Steps p.tables e below (T.setTop g) t → Steps p.tables e below S0 t
theorem ef_inf (m : MethodId) (x0 : UInt64)  : entryFrame m #[(.double x0)] 2 = mkF m 0 #[.val (.double x0), .second] [] := by first | (simp [entryFrame, mkF, argsToLocals, Value.category]; done) | rfl
theorem pn_java_lang_Double : plainName "java/lang/Double" = true := by first | (simp [plainName, overriddenIn]; done) | decide +kernel
theorem d_inf_0 : decode jdk_117_method_7_code 0 = .ok (.dload_n 0, 1) := by decide +kernel
theorem d_inf_1 : decode jdk_117_method_7_code 1 = .ok (.invokestatic 38, 3) := by decide +kernel
theorem pd__D_D : parseMethodDescriptor "(D)D" = some ⟨[.double], some .double⟩ := by decide +kernel
theorem d_inf_4 : decode jdk_117_method_7_code 4 = .ok (.ldc2_w 111, 3) := by decide +kernel
theorem d_inf_7 : decode jdk_117_method_7_code 7 = .ok (.dcmp .l, 1) := by decide +kernel
theorem d_inf_8 : decode jdk_117_method_7_code 8 = .ok (.ifCond .le 7, 3) := by decide +kernel
theorem d_inf_15 : decode jdk_117_method_7_code 15 = .ok (.iconst 0, 1) := by decide +kernel
theorem d_inf_16 : decode jdk_117_method_7_code 16 = .ok (.ireturn, 1) := by decide +kernel
theorem ef_ini (m : MethodId) (x0 : Addr) (x1 : Int32) (x2 : UInt64) (x3 : UInt64)  : entryFrame m #[(.ref x0), (.int x1), (.double x2), (.double x3)] 6 = mkF m 0 #[.val (.ref x0), .val (.int x1), .val (.double x2), .second, .val (.double x3), .second] [] := by first | (simp [entryFrame, mkF, argsToLocals, Value.category]; done) | rfl
theorem pn_com_example_group_leader_election_groupleaderelection_ElectionTiming : plainName "com/example/group_leader_election/groupleaderelection/ElectionTiming" = true := by first | (simp [plainName, overriddenIn]; done) | decide +kernel
theorem d_ini_0 : decode prog_1_method_1_code 0 = .ok (.aload_n 0, 1) := by decide +kernel
theorem d_ini_1 : decode prog_1_method_1_code 1 = .ok (.invokespecial 1, 3) := by decide +kernel
theorem d_ini_4 : decode prog_1_method_1_code 4 = .ok (.iload_n 1, 1) := by decide +kernel
theorem d_ini_5 : decode prog_1_method_1_code 5 = .ok (.iconst 1, 1) := by decide +kernel
theorem d_ini_6 : decode prog_1_method_1_code 6 = .ok (.if_icmp .ge 17, 3) := by decide +kernel
theorem d_ini_23 : decode prog_1_method_1_code 23 = .ok (.dload_n 2, 1) := by decide +kernel
theorem d_ini_24 : decode prog_1_method_1_code 24 = .ok (.dconst 0, 1) := by decide +kernel
theorem d_ini_25 : decode prog_1_method_1_code 25 = .ok (.dcmp .l, 1) := by decide +kernel
theorem d_ini_26 : decode prog_1_method_1_code 26 = .ok (.ifCond .le 10, 3) := by decide +kernel
theorem d_ini_29 : decode prog_1_method_1_code 29 = .ok (.dload_n 2, 1) := by decide +kernel
theorem d_ini_30 : decode prog_1_method_1_code 30 = .ok (.invokestatic 16, 3) := by decide +kernel
theorem pd__D_Z : parseMethodDescriptor "(D)Z" = some ⟨[.double], some .boolean⟩ := by decide +kernel
theorem d_ini_33 : decode prog_1_method_1_code 33 = .ok (.ifCond .eq 17, 3) := by decide +kernel
theorem d_ini_50 : decode prog_1_method_1_code 50 = .ok (.dload 4, 2) := by decide +kernel
theorem d_ini_52 : decode prog_1_method_1_code 52 = .ok (.dconst 0, 1) := by decide +kernel
theorem d_ini_53 : decode prog_1_method_1_code 53 = .ok (.dcmp .l, 1) := by decide +kernel
theorem d_ini_54 : decode prog_1_method_1_code 54 = .ok (.ifCond .lt 11, 3) := by decide +kernel
theorem d_ini_57 : decode prog_1_method_1_code 57 = .ok (.dload 4, 2) := by decide +kernel
theorem d_ini_59 : decode prog_1_method_1_code 59 = .ok (.invokestatic 16, 3) := by decide +kernel
theorem d_ini_62 : decode prog_1_method_1_code 62 = .ok (.ifCond .eq 18, 3) := by decide +kernel
theorem d_ini_80 : decode prog_1_method_1_code 80 = .ok (.aload_n 0, 1) := by decide +kernel
theorem d_ini_81 : decode prog_1_method_1_code 81 = .ok (.iload_n 1, 1) := by decide +kernel
theorem d_ini_82 : decode prog_1_method_1_code 82 = .ok (.putfield 26, 3) := by decide +kernel
theorem d_ini_85 : decode prog_1_method_1_code 85 = .ok (.aload_n 0, 1) := by decide +kernel
theorem d_ini_86 : decode prog_1_method_1_code 86 = .ok (.dload_n 2, 1) := by decide +kernel
theorem d_ini_87 : decode prog_1_method_1_code 87 = .ok (.putfield 32, 3) := by decide +kernel
theorem d_ini_90 : decode prog_1_method_1_code 90 = .ok (.aload_n 0, 1) := by decide +kernel
theorem d_ini_91 : decode prog_1_method_1_code 91 = .ok (.dload 4, 2) := by decide +kernel
theorem d_ini_93 : decode prog_1_method_1_code 93 = .ok (.putfield 36, 3) := by decide +kernel
theorem d_ini_96 : decode prog_1_method_1_code 96 = .ok (.return_, 1) := by decide +kernel
theorem ef_req (m : MethodId) (x0 : Int32) (x1 : Int32)  : entryFrame m #[(.int x0), (.int x1)] 2 = mkF m 0 #[.val (.int x0), .val (.int x1)] [] := by first | (simp [entryFrame, mkF, argsToLocals, Value.category]; done) | rfl
theorem d_req_0 : decode prog_1_method_4_code 0 = .ok (.iload_n 0, 1) := by decide +kernel
theorem d_req_1 : decode prog_1_method_4_code 1 = .ok (.iconst 1, 1) := by decide +kernel
theorem d_req_2 : decode prog_1_method_4_code 2 = .ok (.if_icmp .lt 8, 3) := by decide +kernel
theorem d_req_5 : decode prog_1_method_4_code 5 = .ok (.iload_n 0, 1) := by decide +kernel
theorem d_req_6 : decode prog_1_method_4_code 6 = .ok (.iload_n 1, 1) := by decide +kernel
theorem d_req_7 : decode prog_1_method_4_code 7 = .ok (.if_icmp .le 19, 3) := by decide +kernel
theorem d_req_26 : decode prog_1_method_4_code 26 = .ok (.return_, 1) := by decide +kernel
theorem ef_tie (m : MethodId) (x0 : Addr) (x1 : Int32)  : entryFrame m #[(.ref x0), (.int x1)] 2 = mkF m 0 #[.val (.ref x0), .val (.int x1)] [] := by first | (simp [entryFrame, mkF, argsToLocals, Value.category]; done) | rfl
theorem d_tie_0 : decode prog_1_method_3_code 0 = .ok (.iload_n 1, 1) := by decide +kernel
theorem d_tie_1 : decode prog_1_method_3_code 1 = .ok (.aload_n 0, 1) := by decide +kernel
theorem d_tie_2 : decode prog_1_method_3_code 2 = .ok (.getfield 26, 3) := by decide +kernel
theorem d_tie_5 : decode prog_1_method_3_code 5 = .ok (.invokestatic 39, 3) := by decide +kernel
theorem pd__II_V : parseMethodDescriptor "(II)V" = some ⟨[.int, .int], none⟩ := by decide +kernel
theorem d_tie_8 : decode prog_1_method_3_code 8 = .ok (.aload_n 0, 1) := by decide +kernel
theorem d_tie_9 : decode prog_1_method_3_code 9 = .ok (.getfield 36, 3) := by decide +kernel
theorem d_tie_12 : decode prog_1_method_3_code 12 = .ok (.iload_n 1, 1) := by decide +kernel
theorem d_tie_13 : decode prog_1_method_3_code 13 = .ok (.i2d, 1) := by decide +kernel
theorem d_tie_14 : decode prog_1_method_3_code 14 = .ok (.ddiv, 1) := by decide +kernel
theorem d_tie_15 : decode prog_1_method_3_code 15 = .ok (.aload_n 0, 1) := by decide +kernel
theorem d_tie_16 : decode prog_1_method_3_code 16 = .ok (.getfield 26, 3) := by decide +kernel
theorem d_tie_19 : decode prog_1_method_3_code 19 = .ok (.iload_n 1, 1) := by decide +kernel
theorem d_tie_20 : decode prog_1_method_3_code 20 = .ok (.iconst 1, 1) := by decide +kernel
theorem d_tie_21 : decode prog_1_method_3_code 21 = .ok (.isub, 1) := by decide +kernel
theorem d_tie_22 : decode prog_1_method_3_code 22 = .ok (.isub, 1) := by decide +kernel
theorem d_tie_23 : decode prog_1_method_3_code 23 = .ok (.i2d, 1) := by decide +kernel
theorem d_tie_24 : decode prog_1_method_3_code 24 = .ok (.aload_n 0, 1) := by decide +kernel
theorem d_tie_25 : decode prog_1_method_3_code 25 = .ok (.getfield 32, 3) := by decide +kernel
theorem d_tie_28 : decode prog_1_method_3_code 28 = .ok (.dmul, 1) := by decide +kernel
theorem d_tie_29 : decode prog_1_method_3_code 29 = .ok (.dadd, 1) := by decide +kernel
theorem d_tie_30 : decode prog_1_method_3_code 30 = .ok (.dreturn, 1) := by decide +kernel
theorem ef_law (m : MethodId) (x0 : Int32) (x1 : Int32) (x2 : Int32) (x3 : Int32)  : entryFrame m #[(.int x0), (.int x1), (.int x2), (.int x3)] maxLocals = mkF m 0 #[.val (.int x0), .val (.int x1), .val (.int x2), .val (.int x3), .unset, .unset, .unset, .unset, .unset, .unset, .unset, .unset, .unset, .unset, .unset, .unset, .unset, .unset, .unset] [] := by first | (simp [entryFrame, mkF, argsToLocals, Value.category, maxLocals]; done) | rfl
theorem pn_com_example_group_leader_election_groupleaderelection_ElectionTimingTiebreakerPinLaw : plainName "com/example/group_leader_election/groupleaderelection/ElectionTimingTiebreakerPinLaw" = true := by first | (simp [plainName, overriddenIn]; done) | decide +kernel
theorem pd__IDD_V : parseMethodDescriptor "(IDD)V" = some ⟨[.int, .double, .double], none⟩ := by decide +kernel
theorem pd__I_D : parseMethodDescriptor "(I)D" = some ⟨[.int], some .double⟩ := by decide +kernel
def OET (Z : State) (h : Heap) (a : Addr) (mb : Int32) (t k : Int64) : Prop := Exa Z h a "com/example/group_leader_election/groupleaderelection/ElectionTiming" ∧ Fld Z h a "com/example/group_leader_election/groupleaderelection/ElectionTiming" "members" "I" (.int mb) ∧ Fld Z h a "com/example/group_leader_election/groupleaderelection/ElectionTiming" "transmitTime" "D" (.double (FP.l2d t)) ∧ Fld Z h a "com/example/group_leader_election/groupleaderelection/ElectionTiming" "alpha" "D" (.double (FP.l2d k))
theorem own_ge1 {m : Int32} (h : 1 ≤ m.toInt) : ¬ m < (1 : Int32) := by
  rw [Int32.lt_iff_toInt_lt]
  have z : (1 : Int32).toInt = 1 := rfl
  omega
theorem own_le {x y : Int32} (h : x.toInt ≤ y.toInt) : ¬ y < x := by
  rw [Int32.lt_iff_toInt_lt]; omega
theorem own_nn {x : Int64} (h : 0 ≤ x.toInt) : ¬ x < 0 := by
  rw [Int64.lt_iff_toInt_lt]
  have z : (0 : Int64).toInt = 0 := rfl
  omega
theorem own_b53 {x : Int64} (h : 0 ≤ x.toInt ∧ x.toInt < 9007199254740992) : B53 x := ⟨by omega, by omega⟩
theorem own_z : 0 ≤ (0 : Int64).toInt ∧ (0 : Int64).toInt < 9007199254740992 := by decide
theorem own_cpos {t : Int64} (h : 0 < t.toInt ∧ t.toInt < 9007199254740992) : cmpValue (FP.dcmp (FP.l2d t) (FP.l2d 0)) .l = (1 : Int32) := by
  rw [dcmpV_w (own_b53 ⟨by omega, h.2⟩) (own_b53 own_z)]
  have z : (0 : Int64).toInt = 0 := rfl
  have q : t > 0 := by show (0 : Int64) < t; rw [Int64.lt_iff_toInt_lt]; omega
  exact if_pos q
theorem own_cnn {k : Int64} (h : 0 ≤ k.toInt) : ¬ (lcmpW k 0) < (0 : Int32) := by
  rw [lcW, lc_lt]
  exact own_nn h
theorem own_lmax {x : Int64} (h : ¬ x < 0) : ¬ (0 : Int32) < cmpValue (FP.dcmp (FP.l2d x) (9218868437227405311 : UInt64)) .l := by
  have hf := Jvm.Free.Fl.l2d_fin x
  have q := Jvm.Free.Fl.gt_max_iff hf.noNaN
  rw [abs_w h] at q
  have q2 : ¬ Jvm.Free.Fl.relGt (FP.dcmp (FP.l2d x) (9218868437227405311 : UInt64)) = true := fun r => q.mp r hf
  revert q2
  generalize FP.dcmp (FP.l2d x) (9218868437227405311 : UInt64) = r
  rcases r with _ | (_ | _ | _) <;> decide
/-- the bounds of the case: 1 ≤ id ≤ mb ≤ 2^30, 1 ≤ t ≤ 65536, 0 ≤ q ≤ 65535, k = q * id -/
def own_bnd (mb id : Int32) (t k q : Int64) : Prop := 1 ≤ id.toInt ∧ id.toInt ≤ mb.toInt ∧ mb.toInt ≤ 1073741824 ∧ 1 ≤ t.toInt ∧ t.toInt ≤ 65536 ∧ 0 ≤ q.toInt ∧ q.toInt ≤ 65535 ∧ k.toInt = q.toInt * id.toInt ∧ 0 ≤ k.toInt ∧ k.toInt < 9007199254740992
theorem own_div {a b k : Int64} (ha : B53 a) (hb : B53 b) (hbp : 0 < b.toInt) (hk : 0 ≤ k.toInt) (h : a.toInt = k.toInt * b.toInt) : FP.ddiv (FP.l2d a) (FP.l2d b) = FP.l2d k := by
  have wa := Jvm.FP.Core.l2d_whole (sm ha)
  have wb := Jvm.FP.Core.l2d_whole (sm hb)
  obtain ⟨c, q, ea⟩ := Jvm.FP.Core.l2d_shape a
  obtain ⟨d, r, eb⟩ := Jvm.FP.Core.l2d_shape b
  rw [ea] at wa
  rw [eb] at wb
  have na := Jvm.FP.Core.whole_natAbs wa
  have nb := Jvm.FP.Core.whole_natAbs wb
  have ha0 : 0 ≤ a.toInt := by rw [h]; exact Int.mul_nonneg hk (Int.le_of_lt hbp)
  have sa : decide (a.toInt < 0) = false := decide_eq_false (by omega)
  have sb : decide (b.toInt < 0) = false := decide_eq_false (by omega)
  have sk : decide (k.toInt < 0) = false := decide_eq_false (by omega)
  have hd : d ≠ 0 := fun z => by have := (Jvm.FP.Core.whole_zero wb).mp z; omega
  have hA : a.toInt.natAbs = k.toInt.natAbs * b.toInt.natAbs := by rw [h, Int.natAbs_mul]
  have e1 : Jvm.FP.Core.val64 (Jvm.FP.Core.ddiv (Jvm.FP.Core.l2d a) (Jvm.FP.Core.l2d b)) = Jvm.FP.Core.val64 (Jvm.FP.Core.l2d k) := by
    rw [Jvm.FP.Core.val64_ddiv, ea, eb, Jvm.FP.Core.val64_l2d]
    show (if d = 0 then _ else Jvm.FP.Core.roundRatio Jvm.FP.Core.b64 (decide (a.toInt < 0) != decide (b.toInt < 0)) c d (q - r)) = Jvm.FP.Core.roundRatio Jvm.FP.Core.b64 (decide (k.toInt < 0)) k.toInt.natAbs 1 0
    rw [if_neg hd, sa, sb, sk]
    refine Jvm.FP.Core.roundRatio_congr (Nat.pos_of_ne_zero hd) (by decide) ?_
    have hpow : 2 ^ (q - r - 0).toNat * 2 ^ (-q).toNat * 2 ^ r.toNat = 2 ^ (0 - (q - r)).toNat * 2 ^ q.toNat * 2 ^ (-r).toNat := by
      rw [← Nat.pow_add, ← Nat.pow_add, ← Nat.pow_add, ← Nat.pow_add]
      congr 1
      omega
    rw [Nat.mul_one]
    apply Nat.eq_of_mul_eq_mul_right (Nat.mul_pos (Nat.two_pow_pos (-q).toNat) (Nat.two_pow_pos r.toNat))
    generalize 2 ^ (q - r - 0).toNat = X at *
    generalize 2 ^ (0 - (q - r)).toNat = Y at *
    generalize 2 ^ (-q).toNat = P' at *
    generalize 2 ^ q.toNat = P at *
    generalize 2 ^ (-r).toNat = R' at *
    generalize 2 ^ r.toNat = R at *
    calc c * X * (P' * R) = c * (X * P' * R) := by ac_rfl
      _ = c * (Y * P * R') := by rw [hpow]
      _ = (c * P) * (Y * R') := by ac_rfl
      _ = (k.toInt.natAbs * b.toInt.natAbs * P') * (Y * R') := by rw [na, hA]
      _ = k.toInt.natAbs * (b.toInt.natAbs * R') * Y * P' := by ac_rfl
      _ = k.toInt.natAbs * (d * R) * Y * P' := by rw [nb]
      _ = k.toInt.natAbs * d * Y * (P' * R) := by ac_rfl
  refine Jvm.FP.Core.val64_inj ?_ e1
  obtain ⟨c', q', ek⟩ := Jvm.FP.Core.l2d_shape k
  rw [e1, ek]
  exact fun z => nomatch z
theorem own_quot {mb id : Int32} {t k q : Int64} (B : own_bnd mb id t k q) : FP.ddiv (FP.l2d k) (FP.l2d id.toInt64) = FP.l2d q := by
  obtain ⟨h1, h2, h3, h4, h5, h6, h7, h8, h9, h10⟩ := B
  have e : id.toInt64.toInt = id.toInt := Int32.toInt_toInt64 id
  exact own_div (own_b53 ⟨h9, h10⟩) (own_b53 (by rw [e]; omega)) (by rw [e]; omega) h6 (by rw [e]; exact h8)
theorem own_fac {mb id : Int32} {t k q : Int64} (B : own_bnd mb id t k q) : (mb - (id - (1 : Int32))).toInt64.toInt = mb.toInt - id.toInt + 1 ∧ ((mb - (id - (1 : Int32))).toInt64 * t).toInt = (mb.toInt - id.toInt + 1) * t.toInt ∧ 0 ≤ (mb.toInt - id.toInt + 1) * t.toInt ∧ (mb.toInt - id.toInt + 1) * t.toInt ≤ 1073741824 * 65536 := by
  obtain ⟨h1, h2, h3, h4, h5, h6, h7, h8, h9, h10⟩ := B
  have z : (1 : Int32).toInt = 1 := rfl
  have e1 : (id - (1 : Int32)).toInt = id.toInt - 1 := by rw [XT.sub32 (by rw [z]; constructor <;> omega), z]
  have e2 : (mb - (id - (1 : Int32))).toInt = mb.toInt - id.toInt + 1 := by rw [XT.sub32 (by rw [e1]; constructor <;> omega), e1]; omega
  have e3 : (mb - (id - (1 : Int32))).toInt64.toInt = mb.toInt - id.toInt + 1 := by rw [Int32.toInt_toInt64, e2]
  have b1 : 0 ≤ (mb.toInt - id.toInt + 1) * t.toInt := Int.mul_nonneg (by omega) (by omega)
  have b2 : (mb.toInt - id.toInt + 1) * t.toInt ≤ 1073741824 * 65536 := Int.mul_le_mul (by omega) (by omega) (by omega) (by omega)
  exact ⟨e3, by rw [XT.mul64 (by rw [e3]; constructor <;> omega), e3], b1, b2⟩
theorem own_prod {mb id : Int32} {t k q : Int64} (B : own_bnd mb id t k q) : FP.dmul (FP.l2d (mb - (id - (1 : Int32))).toInt64) (FP.l2d t) = FP.l2d ((mb - (id - (1 : Int32))).toInt64 * t) := by
  obtain ⟨f1, f2, f3, f4⟩ := own_fac B
  obtain ⟨h1, h2, h3, h4, h5, h6, h7, h8, h9, h10⟩ := B
  have z : (0 : Int64).toInt = 0 := rfl
  exact dmul_w (own_b53 (by rw [f1]; omega)) (own_b53 (by omega)) (fun q => by rw [q] at f1; omega) (fun q => by rw [q] at h4; omega) (by rw [f1]; omega) (by rw [f1]; omega)
theorem own_sum {mb id : Int32} {t k q : Int64} (B : own_bnd mb id t k q) : FP.dadd (FP.l2d q) (FP.l2d ((mb - (id - (1 : Int32))).toInt64 * t)) = FP.l2d (q + ((mb - (id - (1 : Int32))).toInt64 * t)) := by
  obtain ⟨f1, f2, f3, f4⟩ := own_fac B
  obtain ⟨h1, h2, h3, h4, h5, h6, h7, h8, h9, h10⟩ := B
  exact dadd_w (own_b53 (by omega)) (own_b53 (by rw [f2]; omega))
theorem own_same {mb id : Int32} {t k q : Int64} (B : own_bnd mb id t k q) : FP.l2d (q + ((mb - (id - (1 : Int32))).toInt64 * t)) = FP.l2d (q + ((((mb.toInt64) - (id.toInt64)) + (1 : Int64)) * t)) := by
  obtain ⟨f1, f2, f3, f4⟩ := own_fac B
  obtain ⟨h1, h2, h3, h4, h5, h6, h7, h8, h9, h10⟩ := B
  have z : (1 : Int64).toInt = 1 := rfl
  have e1 : mb.toInt64.toInt = mb.toInt := Int32.toInt_toInt64 mb
  have e2 : id.toInt64.toInt = id.toInt := Int32.toInt_toInt64 id
  have e3 : ((mb.toInt64) - (id.toInt64)).toInt = mb.toInt - id.toInt := by rw [XT.sub64 (by rw [e1, e2]; constructor <;> omega), e1, e2]
  have e4 : (((mb.toInt64) - (id.toInt64)) + (1 : Int64)).toInt = mb.toInt - id.toInt + 1 := by rw [XT.add64 (by rw [e3, z]; constructor <;> omega), e3, z]
  have e5 : (mb - (id - (1 : Int32))).toInt64 = (((mb.toInt64) - (id.toInt64)) + (1 : Int64)) := Int64.toInt_inj.mp (by rw [f1, e4])
  rw [e5]
theorem own_mb {p m : Int32} (h : m = ((1 : Int32) + (p &&& (1073741823 : Int32)))) : 1 ≤ m.toInt ∧ m.toInt ≤ 1073741824 := by
  have z : (1 : Int32).toInt = 1 := rfl
  have e : (p &&& (1073741823 : Int32)).toInt = p.toInt % 2 ^ 30 := Jvm.Kit.i32_mask p 1073741823 (k := 30) (by decide) (by decide)
  have b1 : 0 ≤ p.toInt % 2 ^ 30 := by omega
  have b2 : p.toInt % 2 ^ 30 < 2 ^ 30 := by omega
  rw [h, XT.add32 (by rw [z, e]; constructor <;> omega), z, e]; omega
theorem own_id {p m d : Int32} (bm : 1 ≤ m.toInt ∧ m.toInt ≤ 1073741824) (h : d = ((1 : Int32) + ((p &&& (2147483647 : Int32)) % m))) : 1 ≤ d.toInt ∧ d.toInt ≤ m.toInt := by
  have z : (1 : Int32).toInt = 1 := rfl
  have h0 : 0 ≤ (p &&& (2147483647 : Int32)).toInt := by rw [Jvm.Kit.i32_mask p 2147483647 (k := 31) (by decide) (by decide)]; omega
  have e : ((p &&& (2147483647 : Int32)) % m).toInt = (p &&& (2147483647 : Int32)).toInt % m.toInt := Jvm.Kit.i32_rem_nonneg h0
  have b1 := Int.emod_nonneg (p &&& (2147483647 : Int32)).toInt (b := m.toInt) (by omega)
  have b2 := Int.emod_lt_of_pos (p &&& (2147483647 : Int32)).toInt (b := m.toInt) (by omega)
  rw [h, XT.add32 (by rw [z, e]; constructor <;> omega), z, e]; omega
theorem own_m16 (p : Int32) : 0 ≤ ((p &&& (65535 : Int32)).toInt64).toInt ∧ ((p &&& (65535 : Int32)).toInt64).toInt ≤ 65535 := by
  rw [Int32.toInt_toInt64, Jvm.Kit.i32_mask p 65535 (k := 16) (by decide) (by decide)]; omega
theorem own_kk {p : Int32} {k : Int64} (h : k = ((p &&& (65535 : Int32)).toInt64)) : 0 ≤ k.toInt ∧ k.toInt ≤ 65535 := by rw [h]; exact own_m16 p
theorem own_tt {p : Int32} {t : Int64} (h : t = ((1 : Int64) + ((p &&& (65535 : Int32)).toInt64))) : 1 ≤ t.toInt ∧ t.toInt ≤ 65536 := by
  have z : (1 : Int64).toInt = 1 := rfl
  have b := own_m16 p
  rw [h, XT.add64 (by rw [z]; constructor <;> omega), z]; omega
theorem own_al {m d : Int32} {k a : Int64} (bm : 1 ≤ m.toInt ∧ m.toInt ≤ 1073741824) (bi : 1 ≤ d.toInt ∧ d.toInt ≤ m.toInt) (bk : 0 ≤ k.toInt ∧ k.toInt ≤ 65535) (h : a = (k * (d.toInt64))) : a.toInt = k.toInt * d.toInt ∧ 0 ≤ a.toInt ∧ a.toInt < 9007199254740992 := by
  have e : d.toInt64.toInt = d.toInt := Int32.toInt_toInt64 d
  have b1 : 0 ≤ k.toInt * d.toInt := Int.mul_nonneg (by omega) (by omega)
  have b2 : k.toInt * d.toInt ≤ 65535 * 1073741824 := Int.mul_le_mul (by omega) (by omega) (by omega) (by omega)
  have e2 : a.toInt = k.toInt * d.toInt := by rw [h, XT.mul64 (by rw [e]; constructor <;> omega), e]
  omega

def Q_inf (Z : State) (x1 : Int64) (h0 : Heap) (n0 : Nat) (v : Option Value) (h : Heap) (L : List Loc) : Prop := v = some (.int 0) ∧ Fr n0 L ∧ h = h0
set_option maxRecDepth 65536 in
set_option maxHeartbeats 40000000 in
theorem rm_inf (l : Launch) (Z : State) (a0 : Array Value) (hw : ∀ d ∈ tables_1, d.before a0 Z = true) (ws : List Jvm.Cond) (x1 : Int64) (h0 : Heap) (n0 : Nat) (hx1 : ¬ x1 < 0) :
    MetFree l (⟨"java/lang/Double", "isInfinite", "(D)Z"⟩ : MethodName) (head1 (Jvm.Cond.code (⟨"java/lang/Double", "isInfinite", "(D)Z"⟩ : MethodName) jdk_117_method_7_code 2 (some .boolean) :: ws) ({ frames := 1, cells := 0, slots := 0, locals := 13 } : Room)) (fun a U => a = #[(.double (FP.l2d x1))] ∧ Z.Warmed39 U.vm ∧ U.heap = h0) (fun _ _ _ _ _ => True) (fun _ U o U' => ∃ v L, o = .returned v ∧ Q_inf Z x1 h0 n0 v U'.heap L ∧ FrameEnd U o U' L ({ frames := 1, cells := 0, slots := 0, locals := 13 } : Room).cells ({ frames := 1, cells := 0, slots := 0, locals := 13 } : Room).slots) := by
  refine MetFree.of_bodySF (plainFor_of_name pn_java_lang_Double) hisR ?_
  intro p e s m args below meth c s₁ Bd hml0 hP hK
  obtain ⟨rfl, hZ, hh⟩ := hP
  have hx := Bd.exec
  have hby := Bd.bytes
  have hml : c.maxLocals = 2 := hml0
  have hown : s.vm.findClass "java/lang/Double" = some m.cls := findClass_of_methodNamed Bd.named
  have hnm := (name_of_methodNamed Bd.named Bd.method).1
  have X0 : Stand p l e ({ frames := 1, cells := 0, slots := 0, locals := 13 } : Room) s m #[(.double (FP.l2d x1))] below meth c s₁ [] 0 0 := Stand.of_body Bd
  have e0 : s₁.heap = h0 := by rw [← hh, Bd.state]; rfl
  have N0 := Fr.nil n0
  obtain ⟨S0, hS0⟩ : ∃ S0, S0 = s₁.setTop (entryFrame m #[(.double (FP.l2d x1))] 2) := ⟨_, rfl⟩
  have pre : Pth p e below S0 s₁ (mkF m 0 #[.val (.double (FP.l2d x1)), .second] []) := fun t k => by rw [hS0]; exact castTop (ef_inf m (FP.l2d x1)) k
  replace pre : Pth p e below S0 s₁ (mkF m 1 #[.val (.double (FP.l2d x1)), .second] [(.double (FP.l2d x1))]) := fun t k => pre t (by
    show Steps p.tables e below (s₁.setTop (mkF m 0 #[.val (.double (FP.l2d x1)), .second] [])) t
    refine XS.dloadN X0.here hx rfl (hb hby d_inf_0) rfl ?_
    show Steps p.tables e below (s₁.setTop (mkF m 1 #[.val (.double (FP.l2d x1)), .second] [(.double (FP.l2d x1))])) t
    exact k)
  obtain ⟨T1, X1, e1, st1⟩ := natS X0 hx hZ (y := (⟨"java/lang/Math", "abs", "(D)D"⟩ : MethodName)) hown (hw _ (List.mem_of_getElem? (i := 16) rfl)) (hw _ (List.mem_of_getElem? (i := 17) rfl)) (hw _ (List.mem_of_getElem? (i := 18) rfl)) (hw _ (List.mem_of_getElem? (i := 19) rfl)) (by decide) e0 (W := 0) (fun hc => Jvm.Free.Fl.Abs.absD_pays (FP.l2d x1) hc (by decide) (by decide)) (g := (mkF m 1 #[.val (.double (FP.l2d x1)), .second] [(.double (FP.l2d x1))])) rfl (by rw [hml]; rfl) (argsL := [(.double (FP.l2d x1))]) (rest := []) (lenOf pd__D_D rfl) rfl (by show 2 * 0 + _ ≤ _; exact Nat.le_of_eq rfl) (hb hby d_inf_1) (by decide) (by decide) ⟨rfl, nn_w rfl⟩ (val' := (.double (FP.l2d x1))) (by rw [abs_w hx1])
  replace pre : Pth p e below S0 T1 (mkF m 4 #[.val (.double (FP.l2d x1)), .second] [(.double (FP.l2d x1))]) := fun t k => pre t (st1 _ k)
  replace pre : Pth p e below S0 T1 (mkF m 16 #[.val (.double (FP.l2d x1)), .second] [(.int (0 : Int32))]) := fun t k => pre t (by
    show Steps p.tables e below (T1.setTop (mkF m 4 #[.val (.double (FP.l2d x1)), .second] [(.double (FP.l2d x1))])) t
    refine X1.ldc2DoubleC hx hown (mvT hZ (hw _ (List.mem_of_getElem? (i := 20) rfl))) (g := (mkF m 4 #[.val (.double (FP.l2d x1)), .second] [(.double (FP.l2d x1))])) rfl (hb hby d_inf_4) _ ?_
    show Steps p.tables e below (T1.setTop (mkF m 7 #[.val (.double (FP.l2d x1)), .second] [(.double (9218868437227405311 : UInt64)), (.double (FP.l2d x1))])) t
    refine XS.dcmpS X1.here hx rfl (hb hby d_inf_7) rfl (v := (cmpValue (FP.dcmp (FP.l2d x1) (9218868437227405311 : UInt64)) .l)) rfl ?_
    show Steps p.tables e below (T1.setTop (mkF m 8 #[.val (.double (FP.l2d x1)), .second] [(.int (cmpValue (FP.dcmp (FP.l2d x1) (9218868437227405311 : UInt64)) .l))])) t
    refine XS.ifYes X1.here hx rfl (pc0 := 8) (pc' := 15) rfl (hb hby d_inf_8) rfl (XT.i0_le_t (own_lmax hx1)) (by decide) (by decide) ?_
    show Steps p.tables e below (T1.setTop (mkF m 15 #[.val (.double (FP.l2d x1)), .second] [])) t
    refine XS.iconst X1.here hx rfl (hb hby d_inf_15) ?_
    show Steps p.tables e below (T1.setTop (mkF m 16 #[.val (.double (FP.l2d x1)), .second] [(.int (0 : Int32))])) t
    exact k)
  obtain ⟨fs, hr, hrun, hended, hW, hsame⟩ := X1.leave (v := some (.int (0 : Int32))) (fun h => by rw [Bd.returns] at h; cases h)
  subst hS0
  refine ⟨_, _, pre _ ?_, hrun, hended, _, _, rfl, ?_, ⟨_, rfl⟩, hW, hsame.mono (by decide) (by decide)⟩
  · exact retN X1 hx (t := .boolean) Bd.returns (by simp) (hb hby d_inf_16) hr
  · show Q_inf Z x1 h0 n0 _ T1.heap _
    rw [e1]
    exact ⟨rfl, N0, rfl⟩
def Q_ini (Z : State) (a1 : Addr) (mb : Int32) (t1 : Int64) (k1 : Int64) (h0 : Heap) (n0 : Nat) (v : Option Value) (h : Heap) (L : List Loc) : Prop := v = none ∧ Fr n0 L ∧ h0.size ≤ h.size ∧ OET Z h a1 mb t1 k1
set_option maxRecDepth 65536 in
set_option maxHeartbeats 40000000 in
theorem rm_ini (l : Launch) (Z : State) (a0 : Array Value) (hw : ∀ d ∈ tables_1, d.before a0 Z = true) (ws : List Jvm.Cond) (a1 : Addr) (mb : Int32) (t1 : Int64) (k1 : Int64) (h0 : Heap) (n0 : Nat) (ga : n0 ≤ a1) (hm : 1 ≤ mb.toInt) (ht : 0 < t1.toInt ∧ t1.toInt < 9007199254740992) (hk : 0 ≤ k1.toInt ∧ k1.toInt < 9007199254740992) (Ea : Exa Z h0 a1 "com/example/group_leader_election/groupleaderelection/ElectionTiming") (F1 : Fld Z h0 a1 "com/example/group_leader_election/groupleaderelection/ElectionTiming" "members" "I" (.int 0)) (F2 : Fld Z h0 a1 "com/example/group_leader_election/groupleaderelection/ElectionTiming" "transmitTime" "D" (.double 0)) (F3 : Fld Z h0 a1 "com/example/group_leader_election/groupleaderelection/ElectionTiming" "alpha" "D" (.double 0)) :
    MetFree l (⟨"com/example/group_leader_election/groupleaderelection/ElectionTiming", "<init>", "(IDD)V"⟩ : MethodName) (head1 (Jvm.Cond.code (⟨"com/example/group_leader_election/groupleaderelection/ElectionTiming", "<init>", "(IDD)V"⟩ : MethodName) prog_1_method_1_code 6 none :: ws) ({ frames := 2, cells := 0, slots := 0, locals := 28 } : Room)) (fun a U => a = #[(.ref a1), (.int mb), (.double (FP.l2d t1)), (.double (FP.l2d k1))] ∧ Z.Warmed39 U.vm ∧ U.heap = h0) (fun _ _ _ _ _ => True) (fun _ U o U' => ∃ v L, o = .returned v ∧ Q_ini Z a1 mb t1 k1 h0 n0 v U'.heap L ∧ FrameEnd U o U' L ({ frames := 2, cells := 0, slots := 0, locals := 28 } : Room).cells ({ frames := 2, cells := 0, slots := 0, locals := 28 } : Room).slots) := by
  refine MetFree.of_bodySF (plainFor_of_name pn_com_example_group_leader_election_groupleaderelection_ElectionTiming) hisR ?_
  intro p e s m args below meth c s₁ Bd hml0 hP hK
  obtain ⟨rfl, hZ, hh⟩ := hP
  have hx := Bd.exec
  have hby := Bd.bytes
  have hml : c.maxLocals = 6 := hml0
  have hown : s.vm.findClass "com/example/group_leader_election/groupleaderelection/ElectionTiming" = some m.cls := findClass_of_methodNamed Bd.named
  have hnm := (name_of_methodNamed Bd.named Bd.method).1
  have X0 : Stand p l e ({ frames := 2, cells := 0, slots := 0, locals := 28 } : Room) s m #[(.ref a1), (.int mb), (.double (FP.l2d t1)), (.double (FP.l2d k1))] below meth c s₁ [] 0 0 := Stand.of_body Bd
  have e0 : s₁.heap = h0 := by rw [← hh, Bd.state]; rfl
  have N0 := Fr.nil n0
  obtain ⟨S0, hS0⟩ : ∃ S0, S0 = s₁.setTop (entryFrame m #[(.ref a1), (.int mb), (.double (FP.l2d t1)), (.double (FP.l2d k1))] 6) := ⟨_, rfl⟩
  have pre : Pth p e below S0 s₁ (mkF m 0 #[.val (.ref a1), .val (.int mb), .val (.double (FP.l2d t1)), .second, .val (.double (FP.l2d k1)), .second] []) := fun t k => by rw [hS0]; exact castTop (ef_ini m a1 mb (FP.l2d t1) (FP.l2d k1)) k
  replace pre : Pth p e below S0 s₁ (mkF m 1 #[.val (.ref a1), .val (.int mb), .val (.double (FP.l2d t1)), .second, .val (.double (FP.l2d k1)), .second] [(.ref a1)]) := fun t k => pre t (by
    show Steps p.tables e below (s₁.setTop (mkF m 0 #[.val (.ref a1), .val (.int mb), .val (.double (FP.l2d t1)), .second, .val (.double (FP.l2d k1)), .second] [])) t
    refine XS.aloadN X0.here hx rfl (hb hby d_ini_0) rfl rfl ?_
    show Steps p.tables e below (s₁.setTop (mkF m 1 #[.val (.ref a1), .val (.int mb), .val (.double (FP.l2d t1)), .second, .val (.double (FP.l2d k1)), .second] [(.ref a1)])) t
    exact k)
  obtain ⟨T1, X1, e1, st1⟩ := initO X0 hx hZ hown (hw _ (List.mem_of_getElem? (i := 9) rfl)) (hw _ (List.mem_of_getElem? (i := 10) rfl)) (hw _ (List.mem_of_getElem? (i := 11) rfl)) e0 (g := (mkF m 1 #[.val (.ref a1), .val (.int mb), .val (.double (FP.l2d t1)), .second, .val (.double (FP.l2d k1)), .second] [(.ref a1)])) rfl (by rw [hml]; rfl) rfl (hb hby d_ini_1) (by decide) (W := 0) (by show 2 * 0 + _ ≤ _; exact Nat.le_of_eq rfl) (by decide)
  replace pre : Pth p e below S0 T1 (mkF m 4 #[.val (.ref a1), .val (.int mb), .val (.double (FP.l2d t1)), .second, .val (.double (FP.l2d k1)), .second] []) := fun t k => pre t (st1 _ k)
  replace pre : Pth p e below S0 T1 (mkF m 30 #[.val (.ref a1), .val (.int mb), .val (.double (FP.l2d t1)), .second, .val (.double (FP.l2d k1)), .second] [(.double (FP.l2d t1))]) := fun t k => pre t (by
    show Steps p.tables e below (T1.setTop (mkF m 4 #[.val (.ref a1), .val (.int mb), .val (.double (FP.l2d t1)), .second, .val (.double (FP.l2d k1)), .second] [])) t
    refine XS.iloadN X1.here hx rfl (hb hby d_ini_4) rfl ?_
    show Steps p.tables e below (T1.setTop (mkF m 5 #[.val (.ref a1), .val (.int mb), .val (.double (FP.l2d t1)), .second, .val (.double (FP.l2d k1)), .second] [(.int mb)])) t
    refine XS.iconst X1.here hx rfl (hb hby d_ini_5) ?_
    show Steps p.tables e below (T1.setTop (mkF m 6 #[.val (.ref a1), .val (.int mb), .val (.double (FP.l2d t1)), .second, .val (.double (FP.l2d k1)), .second] [(.int (1 : Int32)), (.int mb)])) t
    refine XS.icmpYes X1.here hx rfl (pc0 := 6) (pc' := 23) rfl (hb hby d_ini_6) rfl (XT.ii_ge_t (own_ge1 hm)) (by decide) (by decide) ?_
    show Steps p.tables e below (T1.setTop (mkF m 23 #[.val (.ref a1), .val (.int mb), .val (.double (FP.l2d t1)), .second, .val (.double (FP.l2d k1)), .second] [])) t
    refine XS.dloadN X1.here hx rfl (hb hby d_ini_23) rfl ?_
    show Steps p.tables e below (T1.setTop (mkF m 24 #[.val (.ref a1), .val (.int mb), .val (.double (FP.l2d t1)), .second, .val (.double (FP.l2d k1)), .second] [(.double (FP.l2d t1))])) t
    refine XS.dconst0 X1.here hx rfl (hb hby d_ini_24) (v := FP.l2d 0) (by decide +kernel) ?_
    show Steps p.tables e below (T1.setTop (mkF m 25 #[.val (.ref a1), .val (.int mb), .val (.double (FP.l2d t1)), .second, .val (.double (FP.l2d k1)), .second] [(.double (FP.l2d 0)), (.double (FP.l2d t1))])) t
    refine XS.dcmpS X1.here hx rfl (hb hby d_ini_25) rfl (v := (1 : Int32)) (own_cpos ht) ?_
    show Steps p.tables e below (T1.setTop (mkF m 26 #[.val (.ref a1), .val (.int mb), .val (.double (FP.l2d t1)), .second, .val (.double (FP.l2d k1)), .second] [(.int (1 : Int32))])) t
    refine XS.ifNo X1.here hx rfl (hb hby d_ini_26) rfl (XT.i0_le_f (by decide)) ?_
    show Steps p.tables e below (T1.setTop (mkF m 29 #[.val (.ref a1), .val (.int mb), .val (.double (FP.l2d t1)), .second, .val (.double (FP.l2d k1)), .second] [])) t
    refine XS.dloadN X1.here hx rfl (hb hby d_ini_29) rfl ?_
    show Steps p.tables e below (T1.setTop (mkF m 30 #[.val (.ref a1), .val (.int mb), .val (.double (FP.l2d t1)), .second, .val (.double (FP.l2d k1)), .second] [(.double (FP.l2d t1))])) t
    exact k)
  obtain ⟨_, _, ⟨T2, L2, k2, n2⟩, -, X2, ⟨Lc2, hQ2, l2, y2, z2⟩, st2⟩ := Jvm.LawKit.callS X1 hx (y := (⟨"java/lang/Double", "isInfinite", "(D)Z"⟩ : MethodName)) hown (mvT hZ (hw _ (List.mem_of_getElem? (i := 12) rfl))) (mvT hZ (hw _ (List.mem_of_getElem? (i := 13) rfl))) (mvT hZ (hw _ (List.mem_of_getElem? (i := 14) rfl))) (mvT hZ (hw _ (List.mem_of_getElem? (i := 15) rfl))) (by decide) (backOf (W := 0) (rm_inf l Z a0 hw [] t1 h0 n0 (own_nn (by omega : 0 ≤ t1.toInt))) hZ (hw _ (List.mem_of_getElem? (i := 15) rfl)) (hw _ (List.mem_of_getElem? (i := 14) rfl)) (by decide) (by decide)) (g := (mkF m 30 #[.val (.ref a1), .val (.int mb), .val (.double (FP.l2d t1)), .second, .val (.double (FP.l2d k1)), .second] [(.double (FP.l2d t1))])) rfl (by rw [hml]; rfl) (argsL := [(.double (FP.l2d t1))]) (rest := []) (lenOf pd__D_Z rfl) rfl (by show 2 * 0 + _ ≤ _; exact Nat.le_of_eq rfl) (hb hby d_ini_30) (fun _ _ => ⟨rfl, e1, (by decide : 0 + 0 ≤ _), (by decide : 0 + 0 ≤ _)⟩)
  dsimp only [Pt.U, Pt.locs, Pt.cells, Pt.slots] at X2 l2 y2 z2 st2 hQ2
  subst l2 y2 z2
  obtain ⟨rfl, N2q, e2⟩ := hQ2
  have N2 := Fr.app N0 N2q
  replace pre : Pth p e below S0 T2 (mkF m 33 #[.val (.ref a1), .val (.int mb), .val (.double (FP.l2d t1)), .second, .val (.double (FP.l2d k1)), .second] [(.int (0 : Int32))]) := fun t k => pre t (st2 _ k)
  replace pre : Pth p e below S0 T2 (mkF m 59 #[.val (.ref a1), .val (.int mb), .val (.double (FP.l2d t1)), .second, .val (.double (FP.l2d k1)), .second] [(.double (FP.l2d k1))]) := fun t k => pre t (by
    show Steps p.tables e below (T2.setTop (mkF m 33 #[.val (.ref a1), .val (.int mb), .val (.double (FP.l2d t1)), .second, .val (.double (FP.l2d k1)), .second] [(.int (0 : Int32))])) t
    refine XS.ifYes X2.here hx rfl (pc0 := 33) (pc' := 50) rfl (hb hby d_ini_33) rfl (XT.i0_eq_t rfl) (by decide) (by decide) ?_
    show Steps p.tables e below (T2.setTop (mkF m 50 #[.val (.ref a1), .val (.int mb), .val (.double (FP.l2d t1)), .second, .val (.double (FP.l2d k1)), .second] [])) t
    refine XS.dload X2.here hx rfl (hb hby d_ini_50) rfl ?_
    show Steps p.tables e below (T2.setTop (mkF m 52 #[.val (.ref a1), .val (.int mb), .val (.double (FP.l2d t1)), .second, .val (.double (FP.l2d k1)), .second] [(.double (FP.l2d k1))])) t
    refine XS.dconst0 X2.here hx rfl (hb hby d_ini_52) (v := FP.l2d 0) (by decide +kernel) ?_
    show Steps p.tables e below (T2.setTop (mkF m 53 #[.val (.ref a1), .val (.int mb), .val (.double (FP.l2d t1)), .second, .val (.double (FP.l2d k1)), .second] [(.double (FP.l2d 0)), (.double (FP.l2d k1))])) t
    refine XS.dcmpS X2.here hx rfl (hb hby d_ini_53) rfl (v := (lcmpW k1 0)) (dcmpV_w (own_b53 hk) (own_b53 own_z) _) ?_
    show Steps p.tables e below (T2.setTop (mkF m 54 #[.val (.ref a1), .val (.int mb), .val (.double (FP.l2d t1)), .second, .val (.double (FP.l2d k1)), .second] [(.int (lcmpW k1 0))])) t
    refine XS.ifNo X2.here hx rfl (hb hby d_ini_54) rfl (XT.i0_lt_f (own_cnn hk.1)) ?_
    show Steps p.tables e below (T2.setTop (mkF m 57 #[.val (.ref a1), .val (.int mb), .val (.double (FP.l2d t1)), .second, .val (.double (FP.l2d k1)), .second] [])) t
    refine XS.dload X2.here hx rfl (hb hby d_ini_57) rfl ?_
    show Steps p.tables e below (T2.setTop (mkF m 59 #[.val (.ref a1), .val (.int mb), .val (.double (FP.l2d t1)), .second, .val (.double (FP.l2d k1)), .second] [(.double (FP.l2d k1))])) t
    exact k)
  obtain ⟨_, _, ⟨T3, L3, k3, n3⟩, -, X3, ⟨Lc3, hQ3, l3, y3, z3⟩, st3⟩ := Jvm.LawKit.callS X2 hx (y := (⟨"java/lang/Double", "isInfinite", "(D)Z"⟩ : MethodName)) hown (mvT hZ (hw _ (List.mem_of_getElem? (i := 12) rfl))) (mvT hZ (hw _ (List.mem_of_getElem? (i := 13) rfl))) (mvT hZ (hw _ (List.mem_of_getElem? (i := 14) rfl))) (mvT hZ (hw _ (List.mem_of_getElem? (i := 15) rfl))) (by decide) (backOf (W := 0) (rm_inf l Z a0 hw [] k1 h0 n0 (own_nn hk.1)) hZ (hw _ (List.mem_of_getElem? (i := 15) rfl)) (hw _ (List.mem_of_getElem? (i := 14) rfl)) (by decide) (by decide)) (g := (mkF m 59 #[.val (.ref a1), .val (.int mb), .val (.double (FP.l2d t1)), .second, .val (.double (FP.l2d k1)), .second] [(.double (FP.l2d k1))])) rfl (by rw [hml]; rfl) (argsL := [(.double (FP.l2d k1))]) (rest := []) (lenOf pd__D_Z rfl) rfl (by show 2 * 0 + _ ≤ _; exact Nat.le_of_eq rfl) (hb hby d_ini_59) (fun _ _ => ⟨rfl, e2, (by decide : 0 + 0 ≤ _), (by decide : 0 + 0 ≤ _)⟩)
  dsimp only [Pt.U, Pt.locs, Pt.cells, Pt.slots] at X3 l3 y3 z3 st3 hQ3
  subst l3 y3 z3
  obtain ⟨rfl, N3q, e3⟩ := hQ3
  have N3 := Fr.app N2 N3q
  replace pre : Pth p e below S0 T3 (mkF m 62 #[.val (.ref a1), .val (.int mb), .val (.double (FP.l2d t1)), .second, .val (.double (FP.l2d k1)), .second] [(.int (0 : Int32))]) := fun t k => pre t (st3 _ k)
  replace pre : Pth p e below S0 T3 (mkF m 82 #[.val (.ref a1), .val (.int mb), .val (.double (FP.l2d t1)), .second, .val (.double (FP.l2d k1)), .second] [(.int mb), (.ref a1)]) := fun t k => pre t (by
    show Steps p.tables e below (T3.setTop (mkF m 62 #[.val (.ref a1), .val (.int mb), .val (.double (FP.l2d t1)), .second, .val (.double (FP.l2d k1)), .second] [(.int (0 : Int32))])) t
    refine XS.ifYes X3.here hx rfl (pc0 := 62) (pc' := 80) rfl (hb hby d_ini_62) rfl (XT.i0_eq_t rfl) (by decide) (by decide) ?_
    show Steps p.tables e below (T3.setTop (mkF m 80 #[.val (.ref a1), .val (.int mb), .val (.double (FP.l2d t1)), .second, .val (.double (FP.l2d k1)), .second] [])) t
    refine XS.aloadN X3.here hx rfl (hb hby d_ini_80) rfl rfl ?_
    show Steps p.tables e below (T3.setTop (mkF m 81 #[.val (.ref a1), .val (.int mb), .val (.double (FP.l2d t1)), .second, .val (.double (FP.l2d k1)), .second] [(.ref a1)])) t
    refine XS.iloadN X3.here hx rfl (hb hby d_ini_81) rfl ?_
    show Steps p.tables e below (T3.setTop (mkF m 82 #[.val (.ref a1), .val (.int mb), .val (.double (FP.l2d t1)), .second, .val (.double (FP.l2d k1)), .second] [(.int mb), (.ref a1)])) t
    exact k)
  obtain ⟨T4, h4, X4, e4, W4, st4⟩ := putF X3 hx hZ hown (host := "") (Or.inl (hw _ (List.mem_of_getElem? (i := 21) rfl))) Via.refl e3 F1 Ea (Or.inr ⟨(hw _ (List.mem_of_getElem? (i := 22) rfl)), rfl, hnm⟩) (hw _ (List.mem_of_getElem? (i := 4) rfl)) (ty := .int) (by decide) rfl rfl (g := (mkF m 82 #[.val (.ref a1), .val (.int mb), .val (.double (FP.l2d t1)), .second, .val (.double (FP.l2d k1)), .second] [(.int mb), (.ref a1)])) rfl rfl (hb hby d_ini_82)
  have N4 := Fr.snoc X4 N3 ga
  replace pre : Pth p e below S0 T4 (mkF m 85 #[.val (.ref a1), .val (.int mb), .val (.double (FP.l2d t1)), .second, .val (.double (FP.l2d k1)), .second] []) := fun t k => pre t (st4 _ k)
  have F1a := F1.same W4
  have F2a := F2.other W4 (Or.inr (slot_ne (Or.inr (hw _ (List.mem_of_getElem? (i := 24) rfl))) (Or.inr (hw _ (List.mem_of_getElem? (i := 22) rfl))) (by decide) (t := .double) (t' := .int) (by decide) (by decide)))
  have F3a := F3.other W4 (Or.inr (slot_ne (Or.inr (hw _ (List.mem_of_getElem? (i := 26) rfl))) (Or.inr (hw _ (List.mem_of_getElem? (i := 22) rfl))) (by decide) (t := .double) (t' := .int) (by decide) (by decide)))
  have Eb := Ea.wr W4
  replace pre : Pth p e below S0 T4 (mkF m 87 #[.val (.ref a1), .val (.int mb), .val (.double (FP.l2d t1)), .second, .val (.double (FP.l2d k1)), .second] [(.double (FP.l2d t1)), (.ref a1)]) := fun t k => pre t (by
    show Steps p.tables e below (T4.setTop (mkF m 85 #[.val (.ref a1), .val (.int mb), .val (.double (FP.l2d t1)), .second, .val (.double (FP.l2d k1)), .second] [])) t
    refine XS.aloadN X4.here hx rfl (hb hby d_ini_85) rfl rfl ?_
    show Steps p.tables e below (T4.setTop (mkF m 86 #[.val (.ref a1), .val (.int mb), .val (.double (FP.l2d t1)), .second, .val (.double (FP.l2d k1)), .second] [(.ref a1)])) t
    refine XS.dloadN X4.here hx rfl (hb hby d_ini_86) rfl ?_
    show Steps p.tables e below (T4.setTop (mkF m 87 #[.val (.ref a1), .val (.int mb), .val (.double (FP.l2d t1)), .second, .val (.double (FP.l2d k1)), .second] [(.double (FP.l2d t1)), (.ref a1)])) t
    exact k)
  obtain ⟨T5, h5, X5, e5, W5, st5⟩ := putF X4 hx hZ hown (host := "") (Or.inl (hw _ (List.mem_of_getElem? (i := 23) rfl))) Via.refl e4 F2a Eb (Or.inr ⟨(hw _ (List.mem_of_getElem? (i := 24) rfl)), rfl, hnm⟩) (hw _ (List.mem_of_getElem? (i := 4) rfl)) (ty := .double) (by decide) rfl rfl (g := (mkF m 87 #[.val (.ref a1), .val (.int mb), .val (.double (FP.l2d t1)), .second, .val (.double (FP.l2d k1)), .second] [(.double (FP.l2d t1)), (.ref a1)])) rfl rfl (hb hby d_ini_87)
  have N5 := Fr.snoc X5 N4 ga
  replace pre : Pth p e below S0 T5 (mkF m 90 #[.val (.ref a1), .val (.int mb), .val (.double (FP.l2d t1)), .second, .val (.double (FP.l2d k1)), .second] []) := fun t k => pre t (st5 _ k)
  have F1b := F1a.other W5 (Or.inr (slot_ne (Or.inr (hw _ (List.mem_of_getElem? (i := 22) rfl))) (Or.inr (hw _ (List.mem_of_getElem? (i := 24) rfl))) (by decide) (t := .int) (t' := .double) (by decide) (by decide)))
  have F2b := F2a.same W5
  have F3b := F3a.other W5 (Or.inr (slot_ne (Or.inr (hw _ (List.mem_of_getElem? (i := 26) rfl))) (Or.inr (hw _ (List.mem_of_getElem? (i := 24) rfl))) (by decide) (t := .double) (t' := .double) (by decide) (by decide)))
  have Ec := Eb.wr W5
  replace pre : Pth p e below S0 T5 (mkF m 93 #[.val (.ref a1), .val (.int mb), .val (.double (FP.l2d t1)), .second, .val (.double (FP.l2d k1)), .second] [(.double (FP.l2d k1)), (.ref a1)]) := fun t k => pre t (by
    show Steps p.tables e below (T5.setTop (mkF m 90 #[.val (.ref a1), .val (.int mb), .val (.double (FP.l2d t1)), .second, .val (.double (FP.l2d k1)), .second] [])) t
    refine XS.aloadN X5.here hx rfl (hb hby d_ini_90) rfl rfl ?_
    show Steps p.tables e below (T5.setTop (mkF m 91 #[.val (.ref a1), .val (.int mb), .val (.double (FP.l2d t1)), .second, .val (.double (FP.l2d k1)), .second] [(.ref a1)])) t
    refine XS.dload X5.here hx rfl (hb hby d_ini_91) rfl ?_
    show Steps p.tables e below (T5.setTop (mkF m 93 #[.val (.ref a1), .val (.int mb), .val (.double (FP.l2d t1)), .second, .val (.double (FP.l2d k1)), .second] [(.double (FP.l2d k1)), (.ref a1)])) t
    exact k)
  obtain ⟨T6, h6, X6, e6, W6, st6⟩ := putF X5 hx hZ hown (host := "") (Or.inl (hw _ (List.mem_of_getElem? (i := 25) rfl))) Via.refl e5 F3b Ec (Or.inr ⟨(hw _ (List.mem_of_getElem? (i := 26) rfl)), rfl, hnm⟩) (hw _ (List.mem_of_getElem? (i := 4) rfl)) (ty := .double) (by decide) rfl rfl (g := (mkF m 93 #[.val (.ref a1), .val (.int mb), .val (.double (FP.l2d t1)), .second, .val (.double (FP.l2d k1)), .second] [(.double (FP.l2d k1)), (.ref a1)])) rfl rfl (hb hby d_ini_93)
  have N6 := Fr.snoc X6 N5 ga
  replace pre : Pth p e below S0 T6 (mkF m 96 #[.val (.ref a1), .val (.int mb), .val (.double (FP.l2d t1)), .second, .val (.double (FP.l2d k1)), .second] []) := fun t k => pre t (st6 _ k)
  obtain ⟨fs, hr, hrun, hended, hW, hsame⟩ := X6.leave (v := none) (fun _ => rfl)
  subst hS0
  refine ⟨_, _, pre _ ?_, hrun, hended, _, _, rfl, ?_, ⟨_, rfl⟩, hW, hsame.mono (by decide) (by decide)⟩
  · exact X6.returnOut hx Bd.returns (hb hby d_ini_96) hr
  · show Q_ini Z a1 mb t1 k1 h0 n0 _ T6.heap _
    rw [e6]
    exact ⟨rfl, N6, by rw [W6.size, W5.size, W4.size]; exact Nat.le_refl _, Ec.wr W6, F1b.other W6 (Or.inr (slot_ne (Or.inr (hw _ (List.mem_of_getElem? (i := 22) rfl))) (Or.inr (hw _ (List.mem_of_getElem? (i := 26) rfl))) (by decide) (t := .int) (t' := .double) (by decide) (by decide))), F2b.other W6 (Or.inr (slot_ne (Or.inr (hw _ (List.mem_of_getElem? (i := 24) rfl))) (Or.inr (hw _ (List.mem_of_getElem? (i := 26) rfl))) (by decide) (t := .double) (t' := .double) (by decide) (by decide))), F3b.same W6⟩
def Q_req (Z : State) (id1 : Int32) (mb : Int32) (h0 : Heap) (n0 : Nat) (v : Option Value) (h : Heap) (L : List Loc) : Prop := v = none ∧ Fr n0 L ∧ h = h0
set_option maxRecDepth 65536 in
set_option maxHeartbeats 40000000 in
theorem rm_req (l : Launch) (Z : State) (a0 : Array Value) (hw : ∀ d ∈ tables_1, d.before a0 Z = true) (ws : List Jvm.Cond) (id1 : Int32) (mb : Int32) (h0 : Heap) (n0 : Nat) (h1 : 1 ≤ id1.toInt) (h2 : id1.toInt ≤ mb.toInt) :
    MetFree l (⟨"com/example/group_leader_election/groupleaderelection/ElectionTiming", "requireMember", "(II)V"⟩ : MethodName) (head1 (Jvm.Cond.code (⟨"com/example/group_leader_election/groupleaderelection/ElectionTiming", "requireMember", "(II)V"⟩ : MethodName) prog_1_method_4_code 2 none :: ws) ({ frames := 0, cells := 0, slots := 0, locals := 0 } : Room)) (fun a U => a = #[(.int id1), (.int mb)] ∧ Z.Warmed39 U.vm ∧ U.heap = h0) (fun _ _ _ _ _ => True) (fun _ U o U' => ∃ v L, o = .returned v ∧ Q_req Z id1 mb h0 n0 v U'.heap L ∧ FrameEnd U o U' L ({ frames := 0, cells := 0, slots := 0, locals := 0 } : Room).cells ({ frames := 0, cells := 0, slots := 0, locals := 0 } : Room).slots) := by
  refine MetFree.of_bodySF (plainFor_of_name pn_com_example_group_leader_election_groupleaderelection_ElectionTiming) hisR ?_
  intro p e s m args below meth c s₁ Bd hml0 hP hK
  obtain ⟨rfl, hZ, hh⟩ := hP
  have hx := Bd.exec
  have hby := Bd.bytes
  have hml : c.maxLocals = 2 := hml0
  have hown : s.vm.findClass "com/example/group_leader_election/groupleaderelection/ElectionTiming" = some m.cls := findClass_of_methodNamed Bd.named
  have hnm := (name_of_methodNamed Bd.named Bd.method).1
  have X0 : Stand p l e ({ frames := 0, cells := 0, slots := 0, locals := 0 } : Room) s m #[(.int id1), (.int mb)] below meth c s₁ [] 0 0 := Stand.of_body Bd
  have e0 : s₁.heap = h0 := by rw [← hh, Bd.state]; rfl
  have N0 := Fr.nil n0
  obtain ⟨S0, hS0⟩ : ∃ S0, S0 = s₁.setTop (entryFrame m #[(.int id1), (.int mb)] 2) := ⟨_, rfl⟩
  have pre : Pth p e below S0 s₁ (mkF m 0 #[.val (.int id1), .val (.int mb)] []) := fun t k => by rw [hS0]; exact castTop (ef_req m id1 mb) k
  replace pre : Pth p e below S0 s₁ (mkF m 26 #[.val (.int id1), .val (.int mb)] []) := fun t k => pre t (by
    show Steps p.tables e below (s₁.setTop (mkF m 0 #[.val (.int id1), .val (.int mb)] [])) t
    refine XS.iloadN X0.here hx rfl (hb hby d_req_0) rfl ?_
    show Steps p.tables e below (s₁.setTop (mkF m 1 #[.val (.int id1), .val (.int mb)] [(.int id1)])) t
    refine XS.iconst X0.here hx rfl (hb hby d_req_1) ?_
    show Steps p.tables e below (s₁.setTop (mkF m 2 #[.val (.int id1), .val (.int mb)] [(.int (1 : Int32)), (.int id1)])) t
    refine XS.icmpNo X0.here hx rfl (hb hby d_req_2) rfl (XT.ii_lt_f (own_ge1 h1)) ?_
    show Steps p.tables e below (s₁.setTop (mkF m 5 #[.val (.int id1), .val (.int mb)] [])) t
    refine XS.iloadN X0.here hx rfl (hb hby d_req_5) rfl ?_
    show Steps p.tables e below (s₁.setTop (mkF m 6 #[.val (.int id1), .val (.int mb)] [(.int id1)])) t
    refine XS.iloadN X0.here hx rfl (hb hby d_req_6) rfl ?_
    show Steps p.tables e below (s₁.setTop (mkF m 7 #[.val (.int id1), .val (.int mb)] [(.int mb), (.int id1)])) t
    refine XS.icmpYes X0.here hx rfl (pc0 := 7) (pc' := 26) rfl (hb hby d_req_7) rfl (XT.ii_le_t (own_le h2)) (by decide) (by decide) ?_
    show Steps p.tables e below (s₁.setTop (mkF m 26 #[.val (.int id1), .val (.int mb)] [])) t
    exact k)
  obtain ⟨fs, hr, hrun, hended, hW, hsame⟩ := X0.leave (v := none) (fun _ => rfl)
  subst hS0
  refine ⟨_, _, pre _ ?_, hrun, hended, _, _, rfl, ?_, ⟨_, rfl⟩, hW, hsame.mono (by decide) (by decide)⟩
  · exact X0.returnOut hx Bd.returns (hb hby d_req_26) hr
  · show Q_req Z id1 mb h0 n0 _ s₁.heap _
    rw [e0]
    exact ⟨rfl, N0, rfl⟩
def Q_tie (Z : State) (a1 : Addr) (id1 : Int32) (mb : Int32) (t1 k1 q1 : Int64) (h0 : Heap) (n0 : Nat) (v : Option Value) (h : Heap) (L : List Loc) : Prop := v = some (.double (FP.l2d (q1 + ((mb - (id1 - (1 : Int32))).toInt64 * t1)))) ∧ Fr n0 L ∧ h = h0
set_option maxRecDepth 65536 in
set_option maxHeartbeats 40000000 in
theorem rm_tie (l : Launch) (Z : State) (a0 : Array Value) (hw : ∀ d ∈ tables_1, d.before a0 Z = true) (ws : List Jvm.Cond) (a1 : Addr) (id1 : Int32) (mb : Int32) (t1 k1 q1 : Int64) (h0 : Heap) (n0 : Nat) (hO : OET Z h0 a1 mb t1 k1) (B : own_bnd mb id1 t1 k1 q1) :
    MetFree l (⟨"com/example/group_leader_election/groupleaderelection/ElectionTiming", "tiebreaker", "(I)D"⟩ : MethodName) (head1 (Jvm.Cond.code (⟨"com/example/group_leader_election/groupleaderelection/ElectionTiming", "tiebreaker", "(I)D"⟩ : MethodName) prog_1_method_3_code 2 (some .double) :: ws) ({ frames := 1, cells := 0, slots := 0, locals := 14 } : Room)) (fun a U => a = #[(.ref a1), (.int id1)] ∧ Z.Warmed39 U.vm ∧ U.heap = h0) (fun _ _ _ _ _ => True) (fun _ U o U' => ∃ v L, o = .returned v ∧ Q_tie Z a1 id1 mb t1 k1 q1 h0 n0 v U'.heap L ∧ FrameEnd U o U' L ({ frames := 1, cells := 0, slots := 0, locals := 14 } : Room).cells ({ frames := 1, cells := 0, slots := 0, locals := 14 } : Room).slots) := by
  refine MetFree.of_bodySF (plainFor_of_name pn_com_example_group_leader_election_groupleaderelection_ElectionTiming) hisR ?_
  intro p e s m args below meth c s₁ Bd hml0 hP hK
  obtain ⟨rfl, hZ, hh⟩ := hP
  have hx := Bd.exec
  have hby := Bd.bytes
  have hml : c.maxLocals = 2 := hml0
  have hown : s.vm.findClass "com/example/group_leader_election/groupleaderelection/ElectionTiming" = some m.cls := findClass_of_methodNamed Bd.named
  have hnm := (name_of_methodNamed Bd.named Bd.method).1
  have X0 : Stand p l e ({ frames := 1, cells := 0, slots := 0, locals := 14 } : Room) s m #[(.ref a1), (.int id1)] below meth c s₁ [] 0 0 := Stand.of_body Bd
  have e0 : s₁.heap = h0 := by rw [← hh, Bd.state]; rfl
  have N0 := Fr.nil n0
  obtain ⟨S0, hS0⟩ : ∃ S0, S0 = s₁.setTop (entryFrame m #[(.ref a1), (.int id1)] 2) := ⟨_, rfl⟩
  have pre : Pth p e below S0 s₁ (mkF m 0 #[.val (.ref a1), .val (.int id1)] []) := fun t k => by rw [hS0]; exact castTop (ef_tie m a1 id1) k
  obtain ⟨Ea, F1, F2, F3⟩ := hO
  replace pre : Pth p e below S0 s₁ (mkF m 2 #[.val (.ref a1), .val (.int id1)] [(.ref a1), (.int id1)]) := fun t k => pre t (by
    show Steps p.tables e below (s₁.setTop (mkF m 0 #[.val (.ref a1), .val (.int id1)] [])) t
    refine XS.iloadN X0.here hx rfl (hb hby d_tie_0) rfl ?_
    show Steps p.tables e below (s₁.setTop (mkF m 1 #[.val (.ref a1), .val (.int id1)] [(.int id1)])) t
    refine XS.aloadN X0.here hx rfl (hb hby d_tie_1) rfl rfl ?_
    show Steps p.tables e below (s₁.setTop (mkF m 2 #[.val (.ref a1), .val (.int id1)] [(.ref a1), (.int id1)])) t
    exact k)
  obtain ⟨T7, X7, e7, st7⟩ := getF X0 hx hZ hown (host := "") (Or.inl (hw _ (List.mem_of_getElem? (i := 21) rfl))) Via.refl e0 F1 (g := (mkF m 2 #[.val (.ref a1), .val (.int id1)] [(.ref a1), (.int id1)])) rfl rfl (hb hby d_tie_2)
  replace pre : Pth p e below S0 T7 (mkF m 5 #[.val (.ref a1), .val (.int id1)] [(.int mb), (.int id1)]) := fun t k => pre t (st7 _ k)
  obtain ⟨_, _, ⟨T8, L8, k8, n8⟩, -, X8, ⟨Lc8, hQ8, l8, y8, z8⟩, st8⟩ := Jvm.LawKit.callS X7 hx (y := (⟨"com/example/group_leader_election/groupleaderelection/ElectionTiming", "requireMember", "(II)V"⟩ : MethodName)) hown (mvT hZ (hw _ (List.mem_of_getElem? (i := 32) rfl))) (mvT hZ (hw _ (List.mem_of_getElem? (i := 33) rfl))) (mvT hZ (hw _ (List.mem_of_getElem? (i := 5) rfl))) (mvT hZ (hw _ (List.mem_of_getElem? (i := 34) rfl))) (by decide) (backOf (W := 0) (rm_req l Z a0 hw [] id1 mb h0 n0 B.1 B.2.1) hZ (hw _ (List.mem_of_getElem? (i := 34) rfl)) (hw _ (List.mem_of_getElem? (i := 5) rfl)) (by decide) (by decide)) (g := (mkF m 5 #[.val (.ref a1), .val (.int id1)] [(.int mb), (.int id1)])) rfl (by rw [hml]; rfl) (argsL := [(.int id1), (.int mb)]) (rest := []) (lenOf pd__II_V rfl) rfl (by show 2 * 0 + _ ≤ _; exact Nat.le_of_eq rfl) (hb hby d_tie_5) (fun _ _ => ⟨rfl, e7, (by decide : 0 + 0 ≤ _), (by decide : 0 + 0 ≤ _)⟩)
  dsimp only [Pt.U, Pt.locs, Pt.cells, Pt.slots] at X8 l8 y8 z8 st8 hQ8
  subst l8 y8 z8
  obtain ⟨rfl, N8q, e8⟩ := hQ8
  have N8 := Fr.app N0 N8q
  replace pre : Pth p e below S0 T8 (mkF m 8 #[.val (.ref a1), .val (.int id1)] []) := fun t k => pre t (st8 _ k)
  replace pre : Pth p e below S0 T8 (mkF m 9 #[.val (.ref a1), .val (.int id1)] [(.ref a1)]) := fun t k => pre t (by
    show Steps p.tables e below (T8.setTop (mkF m 8 #[.val (.ref a1), .val (.int id1)] [])) t
    refine XS.aloadN X8.here hx rfl (hb hby d_tie_8) rfl rfl ?_
    show Steps p.tables e below (T8.setTop (mkF m 9 #[.val (.ref a1), .val (.int id1)] [(.ref a1)])) t
    exact k)
  obtain ⟨T9, X9, e9, st9⟩ := getF X8 hx hZ hown (host := "") (Or.inl (hw _ (List.mem_of_getElem? (i := 25) rfl))) Via.refl e8 F3 (g := (mkF m 9 #[.val (.ref a1), .val (.int id1)] [(.ref a1)])) rfl rfl (hb hby d_tie_9)
  replace pre : Pth p e below S0 T9 (mkF m 12 #[.val (.ref a1), .val (.int id1)] [(.double (FP.l2d k1))]) := fun t k => pre t (st9 _ k)
  replace pre : Pth p e below S0 T9 (mkF m 16 #[.val (.ref a1), .val (.int id1)] [(.ref a1), (.double (FP.l2d q1))]) := fun t k => pre t (by
    show Steps p.tables e below (T9.setTop (mkF m 12 #[.val (.ref a1), .val (.int id1)] [(.double (FP.l2d k1))])) t
    refine XS.iloadN X9.here hx rfl (hb hby d_tie_12) rfl ?_
    show Steps p.tables e below (T9.setTop (mkF m 13 #[.val (.ref a1), .val (.int id1)] [(.int id1), (.double (FP.l2d k1))])) t
    refine XS.i2dS X9.here hx rfl (hb hby d_tie_13) rfl (i2d_w _) ?_
    show Steps p.tables e below (T9.setTop (mkF m 14 #[.val (.ref a1), .val (.int id1)] [(.double (FP.l2d id1.toInt64)), (.double (FP.l2d k1))])) t
    refine XS.ddivS X9.here hx rfl (hb hby d_tie_14) rfl (nn_w (own_quot B)) (v := (FP.l2d q1)) (own_quot B) ?_
    show Steps p.tables e below (T9.setTop (mkF m 15 #[.val (.ref a1), .val (.int id1)] [(.double (FP.l2d q1))])) t
    refine XS.aloadN X9.here hx rfl (hb hby d_tie_15) rfl rfl ?_
    show Steps p.tables e below (T9.setTop (mkF m 16 #[.val (.ref a1), .val (.int id1)] [(.ref a1), (.double (FP.l2d q1))])) t
    exact k)
  obtain ⟨T10, X10, e10, st10⟩ := getF X9 hx hZ hown (host := "") (Or.inl (hw _ (List.mem_of_getElem? (i := 21) rfl))) Via.refl e9 F1 (g := (mkF m 16 #[.val (.ref a1), .val (.int id1)] [(.ref a1), (.double (FP.l2d q1))])) rfl rfl (hb hby d_tie_16)
  replace pre : Pth p e below S0 T10 (mkF m 19 #[.val (.ref a1), .val (.int id1)] [(.int mb), (.double (FP.l2d q1))]) := fun t k => pre t (st10 _ k)
  replace pre : Pth p e below S0 T10 (mkF m 25 #[.val (.ref a1), .val (.int id1)] [(.ref a1), (.double (FP.l2d (mb - (id1 - (1 : Int32))).toInt64)), (.double (FP.l2d q1))]) := fun t k => pre t (by
    show Steps p.tables e below (T10.setTop (mkF m 19 #[.val (.ref a1), .val (.int id1)] [(.int mb), (.double (FP.l2d q1))])) t
    refine XS.iloadN X10.here hx rfl (hb hby d_tie_19) rfl ?_
    show Steps p.tables e below (T10.setTop (mkF m 20 #[.val (.ref a1), .val (.int id1)] [(.int id1), (.int mb), (.double (FP.l2d q1))])) t
    refine XS.iconst X10.here hx rfl (hb hby d_tie_20) ?_
    show Steps p.tables e below (T10.setTop (mkF m 21 #[.val (.ref a1), .val (.int id1)] [(.int (1 : Int32)), (.int id1), (.int mb), (.double (FP.l2d q1))])) t
    refine XS.isub X10.here hx rfl (hb hby d_tie_21) rfl ?_
    show Steps p.tables e below (T10.setTop (mkF m 22 #[.val (.ref a1), .val (.int id1)] [(.int (id1 - (1 : Int32))), (.int mb), (.double (FP.l2d q1))])) t
    refine XS.isub X10.here hx rfl (hb hby d_tie_22) rfl ?_
    show Steps p.tables e below (T10.setTop (mkF m 23 #[.val (.ref a1), .val (.int id1)] [(.int (mb - (id1 - (1 : Int32)))), (.double (FP.l2d q1))])) t
    refine XS.i2dS X10.here hx rfl (hb hby d_tie_23) rfl (i2d_w _) ?_
    show Steps p.tables e below (T10.setTop (mkF m 24 #[.val (.ref a1), .val (.int id1)] [(.double (FP.l2d (mb - (id1 - (1 : Int32))).toInt64)), (.double (FP.l2d q1))])) t
    refine XS.aloadN X10.here hx rfl (hb hby d_tie_24) rfl rfl ?_
    show Steps p.tables e below (T10.setTop (mkF m 25 #[.val (.ref a1), .val (.int id1)] [(.ref a1), (.double (FP.l2d (mb - (id1 - (1 : Int32))).toInt64)), (.double (FP.l2d q1))])) t
    exact k)
  obtain ⟨T11, X11, e11, st11⟩ := getF X10 hx hZ hown (host := "") (Or.inl (hw _ (List.mem_of_getElem? (i := 23) rfl))) Via.refl e10 F2 (g := (mkF m 25 #[.val (.ref a1), .val (.int id1)] [(.ref a1), (.double (FP.l2d (mb - (id1 - (1 : Int32))).toInt64)), (.double (FP.l2d q1))])) rfl rfl (hb hby d_tie_25)
  replace pre : Pth p e below S0 T11 (mkF m 28 #[.val (.ref a1), .val (.int id1)] [(.double (FP.l2d t1)), (.double (FP.l2d (mb - (id1 - (1 : Int32))).toInt64)), (.double (FP.l2d q1))]) := fun t k => pre t (st11 _ k)
  replace pre : Pth p e below S0 T11 (mkF m 30 #[.val (.ref a1), .val (.int id1)] [(.double (FP.l2d (q1 + ((mb - (id1 - (1 : Int32))).toInt64 * t1))))]) := fun t k => pre t (by
    show Steps p.tables e below (T11.setTop (mkF m 28 #[.val (.ref a1), .val (.int id1)] [(.double (FP.l2d t1)), (.double (FP.l2d (mb - (id1 - (1 : Int32))).toInt64)), (.double (FP.l2d q1))])) t
    refine XS.dmulS X11.here hx rfl (hb hby d_tie_28) rfl (nn_w (own_prod B)) (v := (FP.l2d ((mb - (id1 - (1 : Int32))).toInt64 * t1))) (own_prod B) ?_
    show Steps p.tables e below (T11.setTop (mkF m 29 #[.val (.ref a1), .val (.int id1)] [(.double (FP.l2d ((mb - (id1 - (1 : Int32))).toInt64 * t1))), (.double (FP.l2d q1))])) t
    refine XS.daddS X11.here hx rfl (hb hby d_tie_29) rfl (nn_w (own_sum B)) (v := (FP.l2d (q1 + ((mb - (id1 - (1 : Int32))).toInt64 * t1)))) (own_sum B) ?_
    show Steps p.tables e below (T11.setTop (mkF m 30 #[.val (.ref a1), .val (.int id1)] [(.double (FP.l2d (q1 + ((mb - (id1 - (1 : Int32))).toInt64 * t1))))])) t
    exact k)
  obtain ⟨fs, hr, hrun, hended, hW, hsame⟩ := X11.leave (v := some (.double (FP.l2d (q1 + ((mb - (id1 - (1 : Int32))).toInt64 * t1))))) (fun h => by rw [Bd.returns] at h; cases h)
  subst hS0
  refine ⟨_, _, pre _ ?_, hrun, hended, _, _, rfl, ?_, ⟨_, rfl⟩, hW, hsame.mono (by decide) (by decide)⟩
  · exact retOut X11 hx (t := .double) Bd.returns rfl (by simp [Value.isRef, FieldType.isReference]) (hb hby d_tie_30) hr
  · show Q_tie Z a1 id1 mb t1 k1 q1 h0 n0 _ T11.heap _
    rw [e11]
    exact ⟨rfl, N8, rfl⟩
def Q_law (Z : State) (p0 : Int32) (p1 : Int32) (p2 : Int32) (p3 : Int32) (h0 : Heap) (n0 : Nat) (v : Option Value) (h : Heap) (L : List Loc) : Prop := v = some (.int 1) ∧ Fr n0 L
set_option maxRecDepth 65536 in
set_option maxHeartbeats 40000000 in
theorem rm_law (l : Launch) (Z : State) (a0 : Array Value) (hw : ∀ d ∈ tables_1, d.before a0 Z = true) (ws : List Jvm.Cond) (p0 : Int32) (p1 : Int32) (p2 : Int32) (p3 : Int32) (h0 : Heap) (n0 : Nat) (Z0 : n0 ≤ h0.size)  :
    MetFree l x (head1 (Jvm.Cond.code x code maxLocals ret :: ws) room_1) (fun a U => a = #[(.int p0), (.int p1), (.int p2), (.int p3)] ∧ Z.Warmed39 U.vm ∧ U.heap = h0) (fun _ _ _ _ _ => True) (fun _ U o U' => ∃ v L, o = .returned v ∧ Q_law Z p0 p1 p2 p3 h0 n0 v U'.heap L ∧ FrameEnd U o U' L room_1.cells room_1.slots) := by
  refine MetFree.of_bodySF (plainFor_of_name pn_com_example_group_leader_election_groupleaderelection_ElectionTimingTiebreakerPinLaw) hisR ?_
  intro p e s m args below meth c s₁ Bd hml0 hP hK
  obtain ⟨rfl, hZ, hh⟩ := hP
  have hx := Bd.exec
  have hby := Bd.bytes
  have hml : c.maxLocals = 19 := hml0
  have hown : s.vm.findClass "com/example/group_leader_election/groupleaderelection/ElectionTimingTiebreakerPinLaw" = some m.cls := findClass_of_methodNamed Bd.named
  have hnm := (name_of_methodNamed Bd.named Bd.method).1
  have X0 : Stand p l e room_1 s m #[(.int p0), (.int p1), (.int p2), (.int p3)] below meth c s₁ [] 0 0 := Stand.of_body Bd
  have e0 : s₁.heap = h0 := by rw [← hh, Bd.state]; rfl
  have N0 := Fr.nil n0
  obtain ⟨S0, hS0⟩ : ∃ S0, S0 = s₁.setTop (entryFrame m #[(.int p0), (.int p1), (.int p2), (.int p3)] maxLocals) := ⟨_, rfl⟩
  have pre : Pth p e below S0 s₁ (mkF m 0 #[.val (.int p0), .val (.int p1), .val (.int p2), .val (.int p3), .unset, .unset, .unset, .unset, .unset, .unset, .unset, .unset, .unset, .unset, .unset, .unset, .unset, .unset, .unset] []) := fun t k => by rw [hS0]; exact castTop (ef_law m p0 p1 p2 p3) k
  replace pre : Pth p e below S0 s₁ (mkF m 8 #[.val (.int p0), .val (.int p1), .val (.int p2), .val (.int p3), .val (.int ((1 : Int32) + (p0 &&& (1073741823 : Int32)))), .unset, .unset, .unset, .unset, .unset, .unset, .unset, .unset, .unset, .unset, .unset, .unset, .unset, .unset] []) := fun t k => pre t (by
    show Steps p.tables e below (s₁.setTop (mkF m 0 #[.val (.int p0), .val (.int p1), .val (.int p2), .val (.int p3), .unset, .unset, .unset, .unset, .unset, .unset, .unset, .unset, .unset, .unset, .unset, .unset, .unset, .unset, .unset] [])) t
    refine XS.iconst X0.here hx rfl (hb hby at_0) ?_
    show Steps p.tables e below (s₁.setTop (mkF m 1 #[.val (.int p0), .val (.int p1), .val (.int p2), .val (.int p3), .unset, .unset, .unset, .unset, .unset, .unset, .unset, .unset, .unset, .unset, .unset, .unset, .unset, .unset, .unset] [(.int (1 : Int32))])) t
    refine XS.iloadN X0.here hx rfl (hb hby at_1) rfl ?_
    show Steps p.tables e below (s₁.setTop (mkF m 2 #[.val (.int p0), .val (.int p1), .val (.int p2), .val (.int p3), .unset, .unset, .unset, .unset, .unset, .unset, .unset, .unset, .unset, .unset, .unset, .unset, .unset, .unset, .unset] [(.int p0), (.int (1 : Int32))])) t
    refine X0.ldcInt hx hown (mvT hZ (hw _ (List.mem_of_getElem? (i := 0) rfl))) (g := (mkF m 2 #[.val (.int p0), .val (.int p1), .val (.int p2), .val (.int p3), .unset, .unset, .unset, .unset, .unset, .unset, .unset, .unset, .unset, .unset, .unset, .unset, .unset, .unset, .unset] [(.int p0), (.int (1 : Int32))])) rfl (hb hby at_2) _ ?_
    show Steps p.tables e below (s₁.setTop (mkF m 4 #[.val (.int p0), .val (.int p1), .val (.int p2), .val (.int p3), .unset, .unset, .unset, .unset, .unset, .unset, .unset, .unset, .unset, .unset, .unset, .unset, .unset, .unset, .unset] [(.int (1073741823 : Int32)), (.int p0), (.int (1 : Int32))])) t
    refine XS.iand X0.here hx rfl (hb hby at_4) rfl ?_
    show Steps p.tables e below (s₁.setTop (mkF m 5 #[.val (.int p0), .val (.int p1), .val (.int p2), .val (.int p3), .unset, .unset, .unset, .unset, .unset, .unset, .unset, .unset, .unset, .unset, .unset, .unset, .unset, .unset, .unset] [(.int (p0 &&& (1073741823 : Int32))), (.int (1 : Int32))])) t
    refine XS.iadd X0.here hx rfl (hb hby at_5) rfl ?_
    show Steps p.tables e below (s₁.setTop (mkF m 6 #[.val (.int p0), .val (.int p1), .val (.int p2), .val (.int p3), .unset, .unset, .unset, .unset, .unset, .unset, .unset, .unset, .unset, .unset, .unset, .unset, .unset, .unset, .unset] [(.int ((1 : Int32) + (p0 &&& (1073741823 : Int32))))])) t
    refine XS.istore X0.here hx rfl (hb hby at_6) rfl (l' := #[.val (.int p0), .val (.int p1), .val (.int p2), .val (.int p3), .val (.int ((1 : Int32) + (p0 &&& (1073741823 : Int32)))), .unset, .unset, .unset, .unset, .unset, .unset, .unset, .unset, .unset, .unset, .unset, .unset, .unset, .unset]) rfl ?_
    show Steps p.tables e below (s₁.setTop (mkF m 8 #[.val (.int p0), .val (.int p1), .val (.int p2), .val (.int p3), .val (.int ((1 : Int32) + (p0 &&& (1073741823 : Int32)))), .unset, .unset, .unset, .unset, .unset, .unset, .unset, .unset, .unset, .unset, .unset, .unset, .unset, .unset] [])) t
    exact k)
  obtain ⟨mb, hmb⟩ : ∃ z : Int32, z = ((1 : Int32) + (p0 &&& (1073741823 : Int32))) := ⟨_, rfl⟩
  rw [← hmb] at pre
  have bm := own_mb hmb
  have mz : mb ≠ 0 := fun q => by rw [q] at bm; exact absurd bm.1 (by decide)
  replace pre : Pth p e below S0 s₁ (mkF m 19 #[.val (.int p0), .val (.int p1), .val (.int p2), .val (.int p3), .val (.int mb), .val (.int ((1 : Int32) + ((p1 &&& (2147483647 : Int32)) % mb))), .unset, .unset, .unset, .unset, .unset, .unset, .unset, .unset, .unset, .unset, .unset, .unset, .unset] []) := fun t k => pre t (by
    show Steps p.tables e below (s₁.setTop (mkF m 8 #[.val (.int p0), .val (.int p1), .val (.int p2), .val (.int p3), .val (.int mb), .unset, .unset, .unset, .unset, .unset, .unset, .unset, .unset, .unset, .unset, .unset, .unset, .unset, .unset] [])) t
    refine XS.iconst X0.here hx rfl (hb hby at_8) ?_
    show Steps p.tables e below (s₁.setTop (mkF m 9 #[.val (.int p0), .val (.int p1), .val (.int p2), .val (.int p3), .val (.int mb), .unset, .unset, .unset, .unset, .unset, .unset, .unset, .unset, .unset, .unset, .unset, .unset, .unset, .unset] [(.int (1 : Int32))])) t
    refine XS.iloadN X0.here hx rfl (hb hby at_9) rfl ?_
    show Steps p.tables e below (s₁.setTop (mkF m 10 #[.val (.int p0), .val (.int p1), .val (.int p2), .val (.int p3), .val (.int mb), .unset, .unset, .unset, .unset, .unset, .unset, .unset, .unset, .unset, .unset, .unset, .unset, .unset, .unset] [(.int p1), (.int (1 : Int32))])) t
    refine X0.ldcInt hx hown (mvT hZ (hw _ (List.mem_of_getElem? (i := 1) rfl))) (g := (mkF m 10 #[.val (.int p0), .val (.int p1), .val (.int p2), .val (.int p3), .val (.int mb), .unset, .unset, .unset, .unset, .unset, .unset, .unset, .unset, .unset, .unset, .unset, .unset, .unset, .unset] [(.int p1), (.int (1 : Int32))])) rfl (hb hby at_10) _ ?_
    show Steps p.tables e below (s₁.setTop (mkF m 12 #[.val (.int p0), .val (.int p1), .val (.int p2), .val (.int p3), .val (.int mb), .unset, .unset, .unset, .unset, .unset, .unset, .unset, .unset, .unset, .unset, .unset, .unset, .unset, .unset] [(.int (2147483647 : Int32)), (.int p1), (.int (1 : Int32))])) t
    refine XS.iand X0.here hx rfl (hb hby at_12) rfl ?_
    show Steps p.tables e below (s₁.setTop (mkF m 13 #[.val (.int p0), .val (.int p1), .val (.int p2), .val (.int p3), .val (.int mb), .unset, .unset, .unset, .unset, .unset, .unset, .unset, .unset, .unset, .unset, .unset, .unset, .unset, .unset] [(.int (p1 &&& (2147483647 : Int32))), (.int (1 : Int32))])) t
    refine XS.iload X0.here hx rfl (hb hby at_13) rfl ?_
    show Steps p.tables e below (s₁.setTop (mkF m 15 #[.val (.int p0), .val (.int p1), .val (.int p2), .val (.int p3), .val (.int mb), .unset, .unset, .unset, .unset, .unset, .unset, .unset, .unset, .unset, .unset, .unset, .unset, .unset, .unset] [(.int mb), (.int (p1 &&& (2147483647 : Int32))), (.int (1 : Int32))])) t
    refine iremM (g := (mkF m 15 #[.val (.int p0), .val (.int p1), .val (.int p2), .val (.int p3), .val (.int mb), .unset, .unset, .unset, .unset, .unset, .unset, .unset, .unset, .unset, .unset, .unset, .unset, .unset, .unset] [(.int mb), (.int (p1 &&& (2147483647 : Int32))), (.int (1 : Int32))])) X0 hx rfl (hb hby at_15) rfl mz ?_
    show Steps p.tables e below (s₁.setTop (mkF m 16 #[.val (.int p0), .val (.int p1), .val (.int p2), .val (.int p3), .val (.int mb), .unset, .unset, .unset, .unset, .unset, .unset, .unset, .unset, .unset, .unset, .unset, .unset, .unset, .unset] [(.int ((p1 &&& (2147483647 : Int32)) % mb)), (.int (1 : Int32))])) t
    refine XS.iadd X0.here hx rfl (hb hby at_16) rfl ?_
    show Steps p.tables e below (s₁.setTop (mkF m 17 #[.val (.int p0), .val (.int p1), .val (.int p2), .val (.int p3), .val (.int mb), .unset, .unset, .unset, .unset, .unset, .unset, .unset, .unset, .unset, .unset, .unset, .unset, .unset, .unset] [(.int ((1 : Int32) + ((p1 &&& (2147483647 : Int32)) % mb)))])) t
    refine XS.istore X0.here hx rfl (hb hby at_17) rfl (l' := #[.val (.int p0), .val (.int p1), .val (.int p2), .val (.int p3), .val (.int mb), .val (.int ((1 : Int32) + ((p1 &&& (2147483647 : Int32)) % mb))), .unset, .unset, .unset, .unset, .unset, .unset, .unset, .unset, .unset, .unset, .unset, .unset, .unset]) rfl ?_
    show Steps p.tables e below (s₁.setTop (mkF m 19 #[.val (.int p0), .val (.int p1), .val (.int p2), .val (.int p3), .val (.int mb), .val (.int ((1 : Int32) + ((p1 &&& (2147483647 : Int32)) % mb))), .unset, .unset, .unset, .unset, .unset, .unset, .unset, .unset, .unset, .unset, .unset, .unset, .unset] [])) t
    exact k)
  obtain ⟨id, hid⟩ : ∃ z : Int32, z = ((1 : Int32) + ((p1 &&& (2147483647 : Int32)) % mb)) := ⟨_, rfl⟩
  rw [← hid] at pre
  have bi := own_id bm hid
  replace pre : Pth p e below S0 s₁ (mkF m 26 #[.val (.int p0), .val (.int p1), .val (.int p2), .val (.int p3), .val (.int mb), .val (.int id), .val (.long ((p2 &&& (65535 : Int32)).toInt64)), .second, .unset, .unset, .unset, .unset, .unset, .unset, .unset, .unset, .unset, .unset, .unset] []) := fun t k => pre t (by
    show Steps p.tables e below (s₁.setTop (mkF m 19 #[.val (.int p0), .val (.int p1), .val (.int p2), .val (.int p3), .val (.int mb), .val (.int id), .unset, .unset, .unset, .unset, .unset, .unset, .unset, .unset, .unset, .unset, .unset, .unset, .unset] [])) t
    refine XS.iloadN X0.here hx rfl (hb hby at_19) rfl ?_
    show Steps p.tables e below (s₁.setTop (mkF m 20 #[.val (.int p0), .val (.int p1), .val (.int p2), .val (.int p3), .val (.int mb), .val (.int id), .unset, .unset, .unset, .unset, .unset, .unset, .unset, .unset, .unset, .unset, .unset, .unset, .unset] [(.int p2)])) t
    refine X0.ldcInt hx hown (mvT hZ (hw _ (List.mem_of_getElem? (i := 2) rfl))) (g := (mkF m 20 #[.val (.int p0), .val (.int p1), .val (.int p2), .val (.int p3), .val (.int mb), .val (.int id), .unset, .unset, .unset, .unset, .unset, .unset, .unset, .unset, .unset, .unset, .unset, .unset, .unset] [(.int p2)])) rfl (hb hby at_20) _ ?_
    show Steps p.tables e below (s₁.setTop (mkF m 22 #[.val (.int p0), .val (.int p1), .val (.int p2), .val (.int p3), .val (.int mb), .val (.int id), .unset, .unset, .unset, .unset, .unset, .unset, .unset, .unset, .unset, .unset, .unset, .unset, .unset] [(.int (65535 : Int32)), (.int p2)])) t
    refine XS.iand X0.here hx rfl (hb hby at_22) rfl ?_
    show Steps p.tables e below (s₁.setTop (mkF m 23 #[.val (.int p0), .val (.int p1), .val (.int p2), .val (.int p3), .val (.int mb), .val (.int id), .unset, .unset, .unset, .unset, .unset, .unset, .unset, .unset, .unset, .unset, .unset, .unset, .unset] [(.int (p2 &&& (65535 : Int32)))])) t
    refine XS.i2l X0.here hx rfl (hb hby at_23) rfl ?_
    show Steps p.tables e below (s₁.setTop (mkF m 24 #[.val (.int p0), .val (.int p1), .val (.int p2), .val (.int p3), .val (.int mb), .val (.int id), .unset, .unset, .unset, .unset, .unset, .unset, .unset, .unset, .unset, .unset, .unset, .unset, .unset] [(.long ((p2 &&& (65535 : Int32)).toInt64))])) t
    refine XS.lstore X0.here hx rfl (hb hby at_24) rfl (l' := #[.val (.int p0), .val (.int p1), .val (.int p2), .val (.int p3), .val (.int mb), .val (.int id), .val (.long ((p2 &&& (65535 : Int32)).toInt64)), .second, .unset, .unset, .unset, .unset, .unset, .unset, .unset, .unset, .unset, .unset, .unset]) rfl ?_
    show Steps p.tables e below (s₁.setTop (mkF m 26 #[.val (.int p0), .val (.int p1), .val (.int p2), .val (.int p3), .val (.int mb), .val (.int id), .val (.long ((p2 &&& (65535 : Int32)).toInt64)), .second, .unset, .unset, .unset, .unset, .unset, .unset, .unset, .unset, .unset, .unset, .unset] [])) t
    exact k)
  obtain ⟨kk, hkk⟩ : ∃ z : Int64, z = ((p2 &&& (65535 : Int32)).toInt64) := ⟨_, rfl⟩
  rw [← hkk] at pre
  have bk := own_kk hkk
  replace pre : Pth p e below S0 s₁ (mkF m 35 #[.val (.int p0), .val (.int p1), .val (.int p2), .val (.int p3), .val (.int mb), .val (.int id), .val (.long kk), .second, .val (.long ((1 : Int64) + ((p3 &&& (65535 : Int32)).toInt64))), .second, .unset, .unset, .unset, .unset, .unset, .unset, .unset, .unset, .unset] []) := fun t k => pre t (by
    show Steps p.tables e below (s₁.setTop (mkF m 26 #[.val (.int p0), .val (.int p1), .val (.int p2), .val (.int p3), .val (.int mb), .val (.int id), .val (.long kk), .second, .unset, .unset, .unset, .unset, .unset, .unset, .unset, .unset, .unset, .unset, .unset] [])) t
    refine XS.lconst X0.here hx rfl (hb hby at_26) ?_
    show Steps p.tables e below (s₁.setTop (mkF m 27 #[.val (.int p0), .val (.int p1), .val (.int p2), .val (.int p3), .val (.int mb), .val (.int id), .val (.long kk), .second, .unset, .unset, .unset, .unset, .unset, .unset, .unset, .unset, .unset, .unset, .unset] [(.long (1 : Int64))])) t
    refine XS.iloadN X0.here hx rfl (hb hby at_27) rfl ?_
    show Steps p.tables e below (s₁.setTop (mkF m 28 #[.val (.int p0), .val (.int p1), .val (.int p2), .val (.int p3), .val (.int mb), .val (.int id), .val (.long kk), .second, .unset, .unset, .unset, .unset, .unset, .unset, .unset, .unset, .unset, .unset, .unset] [(.int p3), (.long (1 : Int64))])) t
    refine X0.ldcInt hx hown (mvT hZ (hw _ (List.mem_of_getElem? (i := 2) rfl))) (g := (mkF m 28 #[.val (.int p0), .val (.int p1), .val (.int p2), .val (.int p3), .val (.int mb), .val (.int id), .val (.long kk), .second, .unset, .unset, .unset, .unset, .unset, .unset, .unset, .unset, .unset, .unset, .unset] [(.int p3), (.long (1 : Int64))])) rfl (hb hby at_28) _ ?_
    show Steps p.tables e below (s₁.setTop (mkF m 30 #[.val (.int p0), .val (.int p1), .val (.int p2), .val (.int p3), .val (.int mb), .val (.int id), .val (.long kk), .second, .unset, .unset, .unset, .unset, .unset, .unset, .unset, .unset, .unset, .unset, .unset] [(.int (65535 : Int32)), (.int p3), (.long (1 : Int64))])) t
    refine XS.iand X0.here hx rfl (hb hby at_30) rfl ?_
    show Steps p.tables e below (s₁.setTop (mkF m 31 #[.val (.int p0), .val (.int p1), .val (.int p2), .val (.int p3), .val (.int mb), .val (.int id), .val (.long kk), .second, .unset, .unset, .unset, .unset, .unset, .unset, .unset, .unset, .unset, .unset, .unset] [(.int (p3 &&& (65535 : Int32))), (.long (1 : Int64))])) t
    refine XS.i2l X0.here hx rfl (hb hby at_31) rfl ?_
    show Steps p.tables e below (s₁.setTop (mkF m 32 #[.val (.int p0), .val (.int p1), .val (.int p2), .val (.int p3), .val (.int mb), .val (.int id), .val (.long kk), .second, .unset, .unset, .unset, .unset, .unset, .unset, .unset, .unset, .unset, .unset, .unset] [(.long ((p3 &&& (65535 : Int32)).toInt64)), (.long (1 : Int64))])) t
    refine XS.ladd X0.here hx rfl (hb hby at_32) rfl ?_
    show Steps p.tables e below (s₁.setTop (mkF m 33 #[.val (.int p0), .val (.int p1), .val (.int p2), .val (.int p3), .val (.int mb), .val (.int id), .val (.long kk), .second, .unset, .unset, .unset, .unset, .unset, .unset, .unset, .unset, .unset, .unset, .unset] [(.long ((1 : Int64) + ((p3 &&& (65535 : Int32)).toInt64)))])) t
    refine XS.lstore X0.here hx rfl (hb hby at_33) rfl (l' := #[.val (.int p0), .val (.int p1), .val (.int p2), .val (.int p3), .val (.int mb), .val (.int id), .val (.long kk), .second, .val (.long ((1 : Int64) + ((p3 &&& (65535 : Int32)).toInt64))), .second, .unset, .unset, .unset, .unset, .unset, .unset, .unset, .unset, .unset]) rfl ?_
    show Steps p.tables e below (s₁.setTop (mkF m 35 #[.val (.int p0), .val (.int p1), .val (.int p2), .val (.int p3), .val (.int mb), .val (.int id), .val (.long kk), .second, .val (.long ((1 : Int64) + ((p3 &&& (65535 : Int32)).toInt64))), .second, .unset, .unset, .unset, .unset, .unset, .unset, .unset, .unset, .unset] [])) t
    exact k)
  obtain ⟨tt, htt⟩ : ∃ z : Int64, z = ((1 : Int64) + ((p3 &&& (65535 : Int32)).toInt64)) := ⟨_, rfl⟩
  rw [← htt] at pre
  have bt := own_tt htt
  replace pre : Pth p e below S0 s₁ (mkF m 41 #[.val (.int p0), .val (.int p1), .val (.int p2), .val (.int p3), .val (.int mb), .val (.int id), .val (.long kk), .second, .val (.long tt), .second, .unset, .unset, .unset, .unset, .unset, .unset, .unset, .unset, .unset] [(.long (kk * (id.toInt64)))]) := fun t k => pre t (by
    show Steps p.tables e below (s₁.setTop (mkF m 35 #[.val (.int p0), .val (.int p1), .val (.int p2), .val (.int p3), .val (.int mb), .val (.int id), .val (.long kk), .second, .val (.long tt), .second, .unset, .unset, .unset, .unset, .unset, .unset, .unset, .unset, .unset] [])) t
    refine XS.lload X0.here hx rfl (hb hby at_35) rfl ?_
    show Steps p.tables e below (s₁.setTop (mkF m 37 #[.val (.int p0), .val (.int p1), .val (.int p2), .val (.int p3), .val (.int mb), .val (.int id), .val (.long kk), .second, .val (.long tt), .second, .unset, .unset, .unset, .unset, .unset, .unset, .unset, .unset, .unset] [(.long kk)])) t
    refine XS.iload X0.here hx rfl (hb hby at_37) rfl ?_
    show Steps p.tables e below (s₁.setTop (mkF m 39 #[.val (.int p0), .val (.int p1), .val (.int p2), .val (.int p3), .val (.int mb), .val (.int id), .val (.long kk), .second, .val (.long tt), .second, .unset, .unset, .unset, .unset, .unset, .unset, .unset, .unset, .unset] [(.int id), (.long kk)])) t
    refine XS.i2l X0.here hx rfl (hb hby at_39) rfl ?_
    show Steps p.tables e below (s₁.setTop (mkF m 40 #[.val (.int p0), .val (.int p1), .val (.int p2), .val (.int p3), .val (.int mb), .val (.int id), .val (.long kk), .second, .val (.long tt), .second, .unset, .unset, .unset, .unset, .unset, .unset, .unset, .unset, .unset] [(.long (id.toInt64)), (.long kk)])) t
    refine XS.lmul X0.here hx rfl (hb hby at_40) rfl ?_
    show Steps p.tables e below (s₁.setTop (mkF m 41 #[.val (.int p0), .val (.int p1), .val (.int p2), .val (.int p3), .val (.int mb), .val (.int id), .val (.long kk), .second, .val (.long tt), .second, .unset, .unset, .unset, .unset, .unset, .unset, .unset, .unset, .unset] [(.long (kk * (id.toInt64)))])) t
    exact k)
  obtain ⟨al, hal⟩ : ∃ z : Int64, z = (kk * (id.toInt64)) := ⟨_, rfl⟩
  rw [← hal] at pre
  have bal := own_al bm bi bk hal
  replace pre : Pth p e below S0 s₁ (mkF m 49 #[.val (.int p0), .val (.int p1), .val (.int p2), .val (.int p3), .val (.int mb), .val (.int id), .val (.long kk), .second, .val (.long tt), .second, .val (.double (FP.l2d al)), .second, .val (.double (FP.l2d tt)), .second, .unset, .unset, .unset, .unset, .unset] []) := fun t k => pre t (by
    show Steps p.tables e below (s₁.setTop (mkF m 41 #[.val (.int p0), .val (.int p1), .val (.int p2), .val (.int p3), .val (.int mb), .val (.int id), .val (.long kk), .second, .val (.long tt), .second, .unset, .unset, .unset, .unset, .unset, .unset, .unset, .unset, .unset] [(.long al)])) t
    refine XS.l2dS X0.here hx rfl (hb hby at_41) rfl rfl ?_
    show Steps p.tables e below (s₁.setTop (mkF m 42 #[.val (.int p0), .val (.int p1), .val (.int p2), .val (.int p3), .val (.int mb), .val (.int id), .val (.long kk), .second, .val (.long tt), .second, .unset, .unset, .unset, .unset, .unset, .unset, .unset, .unset, .unset] [(.double (FP.l2d al))])) t
    refine XS.dstore X0.here hx rfl (hb hby at_42) rfl (l' := #[.val (.int p0), .val (.int p1), .val (.int p2), .val (.int p3), .val (.int mb), .val (.int id), .val (.long kk), .second, .val (.long tt), .second, .val (.double (FP.l2d al)), .second, .unset, .unset, .unset, .unset, .unset, .unset, .unset]) rfl ?_
    show Steps p.tables e below (s₁.setTop (mkF m 44 #[.val (.int p0), .val (.int p1), .val (.int p2), .val (.int p3), .val (.int mb), .val (.int id), .val (.long kk), .second, .val (.long tt), .second, .val (.double (FP.l2d al)), .second, .unset, .unset, .unset, .unset, .unset, .unset, .unset] [])) t
    refine XS.lload X0.here hx rfl (hb hby at_44) rfl ?_
    show Steps p.tables e below (s₁.setTop (mkF m 46 #[.val (.int p0), .val (.int p1), .val (.int p2), .val (.int p3), .val (.int mb), .val (.int id), .val (.long kk), .second, .val (.long tt), .second, .val (.double (FP.l2d al)), .second, .unset, .unset, .unset, .unset, .unset, .unset, .unset] [(.long tt)])) t
    refine XS.l2dS X0.here hx rfl (hb hby at_46) rfl rfl ?_
    show Steps p.tables e below (s₁.setTop (mkF m 47 #[.val (.int p0), .val (.int p1), .val (.int p2), .val (.int p3), .val (.int mb), .val (.int id), .val (.long kk), .second, .val (.long tt), .second, .val (.double (FP.l2d al)), .second, .unset, .unset, .unset, .unset, .unset, .unset, .unset] [(.double (FP.l2d tt))])) t
    refine XS.dstore X0.here hx rfl (hb hby at_47) rfl (l' := #[.val (.int p0), .val (.int p1), .val (.int p2), .val (.int p3), .val (.int mb), .val (.int id), .val (.long kk), .second, .val (.long tt), .second, .val (.double (FP.l2d al)), .second, .val (.double (FP.l2d tt)), .second, .unset, .unset, .unset, .unset, .unset]) rfl ?_
    show Steps p.tables e below (s₁.setTop (mkF m 49 #[.val (.int p0), .val (.int p1), .val (.int p2), .val (.int p3), .val (.int mb), .val (.int id), .val (.long kk), .second, .val (.long tt), .second, .val (.double (FP.l2d al)), .second, .val (.double (FP.l2d tt)), .second, .unset, .unset, .unset, .unset, .unset] [])) t
    exact k)
  obtain ⟨T12, h12, X12, e12, E12, A12, D12, -, st12⟩ := newO X0 hx hZ hown (hw _ (List.mem_of_getElem? (i := 3) rfl)) (hw _ (List.mem_of_getElem? (i := 4) rfl)) (hw _ (List.mem_of_getElem? (i := 5) rfl)) e0 (g := (mkF m 49 #[.val (.int p0), .val (.int p1), .val (.int p2), .val (.int p3), .val (.int mb), .val (.int id), .val (.long kk), .second, .val (.long tt), .second, .val (.double (FP.l2d al)), .second, .val (.double (FP.l2d tt)), .second, .unset, .unset, .unset, .unset, .unset] [])) rfl (hb hby at_49) (by decide) (by decide)
  obtain ⟨b12, g12⟩ : ∃ z, z = h0.size := ⟨_, rfl⟩
  rw [← g12] at A12 D12 st12
  replace pre : Pth p e below S0 T12 (mkF m 52 #[.val (.int p0), .val (.int p1), .val (.int p2), .val (.int p3), .val (.int mb), .val (.int id), .val (.long kk), .second, .val (.long tt), .second, .val (.double (FP.l2d al)), .second, .val (.double (FP.l2d tt)), .second, .unset, .unset, .unset, .unset, .unset] [(.ref b12)]) := fun t k => pre t (st12 _ k)
  have G_members : Fld Z h12 b12 "com/example/group_leader_election/groupleaderelection/ElectionTiming" "members" "I" (.int (0 : Int32)) := D12 (Or.inr (hw _ (List.mem_of_getElem? (i := 22) rfl))) (ty := .int) (by decide)
  have G_transmitTime : Fld Z h12 b12 "com/example/group_leader_election/groupleaderelection/ElectionTiming" "transmitTime" "D" (.double 0) := D12 (Or.inr (hw _ (List.mem_of_getElem? (i := 24) rfl))) (ty := .double) (by decide)
  have G_alpha : Fld Z h12 b12 "com/example/group_leader_election/groupleaderelection/ElectionTiming" "alpha" "D" (.double 0) := D12 (Or.inr (hw _ (List.mem_of_getElem? (i := 26) rfl))) (ty := .double) (by decide)
  have gb : n0 ≤ b12 := by rw [g12]; exact Z0
  replace pre : Pth p e below S0 T12 (mkF m 59 #[.val (.int p0), .val (.int p1), .val (.int p2), .val (.int p3), .val (.int mb), .val (.int id), .val (.long kk), .second, .val (.long tt), .second, .val (.double (FP.l2d al)), .second, .val (.double (FP.l2d tt)), .second, .unset, .unset, .unset, .unset, .unset] [(.double (FP.l2d al)), (.double (FP.l2d tt)), (.int mb), (.ref b12), (.ref b12)]) := fun t k => pre t (by
    show Steps p.tables e below (T12.setTop (mkF m 52 #[.val (.int p0), .val (.int p1), .val (.int p2), .val (.int p3), .val (.int mb), .val (.int id), .val (.long kk), .second, .val (.long tt), .second, .val (.double (FP.l2d al)), .second, .val (.double (FP.l2d tt)), .second, .unset, .unset, .unset, .unset, .unset] [(.ref b12)])) t
    refine XS.dup X12.here hx rfl (hb hby at_52) rfl rfl ?_
    show Steps p.tables e below (T12.setTop (mkF m 53 #[.val (.int p0), .val (.int p1), .val (.int p2), .val (.int p3), .val (.int mb), .val (.int id), .val (.long kk), .second, .val (.long tt), .second, .val (.double (FP.l2d al)), .second, .val (.double (FP.l2d tt)), .second, .unset, .unset, .unset, .unset, .unset] [(.ref b12), (.ref b12)])) t
    refine XS.iload X12.here hx rfl (hb hby at_53) rfl ?_
    show Steps p.tables e below (T12.setTop (mkF m 55 #[.val (.int p0), .val (.int p1), .val (.int p2), .val (.int p3), .val (.int mb), .val (.int id), .val (.long kk), .second, .val (.long tt), .second, .val (.double (FP.l2d al)), .second, .val (.double (FP.l2d tt)), .second, .unset, .unset, .unset, .unset, .unset] [(.int mb), (.ref b12), (.ref b12)])) t
    refine XS.dload X12.here hx rfl (hb hby at_55) rfl ?_
    show Steps p.tables e below (T12.setTop (mkF m 57 #[.val (.int p0), .val (.int p1), .val (.int p2), .val (.int p3), .val (.int mb), .val (.int id), .val (.long kk), .second, .val (.long tt), .second, .val (.double (FP.l2d al)), .second, .val (.double (FP.l2d tt)), .second, .unset, .unset, .unset, .unset, .unset] [(.double (FP.l2d tt)), (.int mb), (.ref b12), (.ref b12)])) t
    refine XS.dload X12.here hx rfl (hb hby at_57) rfl ?_
    show Steps p.tables e below (T12.setTop (mkF m 59 #[.val (.int p0), .val (.int p1), .val (.int p2), .val (.int p3), .val (.int mb), .val (.int id), .val (.long kk), .second, .val (.long tt), .second, .val (.double (FP.l2d al)), .second, .val (.double (FP.l2d tt)), .second, .unset, .unset, .unset, .unset, .unset] [(.double (FP.l2d al)), (.double (FP.l2d tt)), (.int mb), (.ref b12), (.ref b12)])) t
    exact k)
  obtain ⟨_, _, ⟨T13, L13, k13, n13⟩, -, X13, ⟨Lc13, hQ13, l13, y13, z13⟩, st13⟩ := X12.specialBack hx (y := (⟨"com/example/group_leader_election/groupleaderelection/ElectionTiming", "<init>", "(IDD)V"⟩ : MethodName)) rfl hown (mvT hZ (hw _ (List.mem_of_getElem? (i := 6) rfl))) (mvT hZ (hw _ (List.mem_of_getElem? (i := 7) rfl))) (mvT hZ (hw _ (List.mem_of_getElem? (i := 8) rfl))) (by decide) (backOf (W := 1) (rm_ini l Z a0 hw [] b12 mb tt al h12 n0 gb bm.1 ⟨by omega, by omega⟩ ⟨by omega, by omega⟩ A12 G_members G_transmitTime G_alpha) hZ (hw _ (List.mem_of_getElem? (i := 8) rfl)) (hw _ (List.mem_of_getElem? (i := 5) rfl)) (by decide) (by decide)) (g := (mkF m 59 #[.val (.int p0), .val (.int p1), .val (.int p2), .val (.int p3), .val (.int mb), .val (.int id), .val (.long kk), .second, .val (.long tt), .second, .val (.double (FP.l2d al)), .second, .val (.double (FP.l2d tt)), .second, .unset, .unset, .unset, .unset, .unset] [(.double (FP.l2d al)), (.double (FP.l2d tt)), (.int mb), (.ref b12), (.ref b12)])) rfl (by rw [hml]; rfl) (Steps.refl _) (a := b12) (argsL := [(.int mb), (.double (FP.l2d tt)), (.double (FP.l2d al))]) (rest := [(.ref b12)]) (lenOf pd__IDD_V rfl) rfl (by show 2 * 0 + _ ≤ _; exact Nat.le_of_eq rfl) (hb hby at_59) (fun _ _ => ⟨rfl, e12, (by decide : 1 + 0 ≤ _), (by decide : 3 + 0 ≤ _)⟩)
  dsimp only [Pt.U, Pt.locs, Pt.cells, Pt.slots] at X13 l13 y13 z13 st13 hQ13
  subst l13 y13 z13
  obtain ⟨rfl, N13q, hs13, hO13⟩ := hQ13
  have N13 := Fr.app N0 N13q
  replace pre : Pth p e below S0 T13 (mkF m 62 #[.val (.int p0), .val (.int p1), .val (.int p2), .val (.int p3), .val (.int mb), .val (.int id), .val (.long kk), .second, .val (.long tt), .second, .val (.double (FP.l2d al)), .second, .val (.double (FP.l2d tt)), .second, .unset, .unset, .unset, .unset, .unset] [(.ref b12)]) := fun t k => pre t (st13.trans k)
  have B : own_bnd mb id tt al kk := ⟨bi.1, bi.2, bm.2, bt.1, bt.2, bk.1, bk.2, bal⟩
  replace pre : Pth p e below S0 T13 (mkF m 68 #[.val (.int p0), .val (.int p1), .val (.int p2), .val (.int p3), .val (.int mb), .val (.int id), .val (.long kk), .second, .val (.long tt), .second, .val (.double (FP.l2d al)), .second, .val (.double (FP.l2d tt)), .second, .val (.ref b12), .unset, .unset, .unset, .unset] [(.int id), (.ref b12)]) := fun t k => pre t (by
    show Steps p.tables e below (T13.setTop (mkF m 62 #[.val (.int p0), .val (.int p1), .val (.int p2), .val (.int p3), .val (.int mb), .val (.int id), .val (.long kk), .second, .val (.long tt), .second, .val (.double (FP.l2d al)), .second, .val (.double (FP.l2d tt)), .second, .unset, .unset, .unset, .unset, .unset] [(.ref b12)])) t
    refine XS.astore X13.here hx rfl (hb hby at_62) rfl rfl (l' := #[.val (.int p0), .val (.int p1), .val (.int p2), .val (.int p3), .val (.int mb), .val (.int id), .val (.long kk), .second, .val (.long tt), .second, .val (.double (FP.l2d al)), .second, .val (.double (FP.l2d tt)), .second, .val (.ref b12), .unset, .unset, .unset, .unset]) rfl ?_
    show Steps p.tables e below (T13.setTop (mkF m 64 #[.val (.int p0), .val (.int p1), .val (.int p2), .val (.int p3), .val (.int mb), .val (.int id), .val (.long kk), .second, .val (.long tt), .second, .val (.double (FP.l2d al)), .second, .val (.double (FP.l2d tt)), .second, .val (.ref b12), .unset, .unset, .unset, .unset] [])) t
    refine XS.aload X13.here hx rfl (hb hby at_64) rfl rfl ?_
    show Steps p.tables e below (T13.setTop (mkF m 66 #[.val (.int p0), .val (.int p1), .val (.int p2), .val (.int p3), .val (.int mb), .val (.int id), .val (.long kk), .second, .val (.long tt), .second, .val (.double (FP.l2d al)), .second, .val (.double (FP.l2d tt)), .second, .val (.ref b12), .unset, .unset, .unset, .unset] [(.ref b12)])) t
    refine XS.iload X13.here hx rfl (hb hby at_66) rfl ?_
    show Steps p.tables e below (T13.setTop (mkF m 68 #[.val (.int p0), .val (.int p1), .val (.int p2), .val (.int p3), .val (.int mb), .val (.int id), .val (.long kk), .second, .val (.long tt), .second, .val (.double (FP.l2d al)), .second, .val (.double (FP.l2d tt)), .second, .val (.ref b12), .unset, .unset, .unset, .unset] [(.int id), (.ref b12)])) t
    exact k)
  obtain ⟨cq14, kq14, q14a, q14b, q14c⟩ := isOf hZ rfl hO13.1
  obtain ⟨_, _, ⟨T14, L14, k14, n14⟩, -, X14, ⟨Lc14, hQ14, l14, y14, z14⟩, st14⟩ := X13.virtualBack hx (y := (⟨"com/example/group_leader_election/groupleaderelection/ElectionTiming", "tiebreaker", "(I)D"⟩ : MethodName)) (z := (⟨"com/example/group_leader_election/groupleaderelection/ElectionTiming", "tiebreaker", "(I)D"⟩ : MethodName)) hown (mvT hZ (hw _ (List.mem_of_getElem? (i := 27) rfl))) (mvT hZ (hw _ (List.mem_of_getElem? (i := 28) rfl))) (notFace_of_selects (args := #[]) (mvT hZ (hw _ (List.mem_of_getElem? (i := 30) rfl)))) (mvT hZ (hw _ (List.mem_of_getElem? (i := 30) rfl))) (mvT hZ (hw _ (List.mem_of_getElem? (i := 29) rfl))) (by decide) (backOf (W := 0) (rm_tie l Z a0 hw [] b12 id mb tt al kk _ n0 hO13 B) hZ (hw _ (List.mem_of_getElem? (i := 31) rfl)) (hw _ (List.mem_of_getElem? (i := 5) rfl)) (by decide) (by decide)) q14a q14c (g := (mkF m 68 #[.val (.int p0), .val (.int p1), .val (.int p2), .val (.int p3), .val (.int mb), .val (.int id), .val (.long kk), .second, .val (.long tt), .second, .val (.double (FP.l2d al)), .second, .val (.double (FP.l2d tt)), .second, .val (.ref b12), .unset, .unset, .unset, .unset] [(.int id), (.ref b12)])) rfl (by rw [hml]; rfl) (Steps.refl _) (argsL := [(.int id)]) (rest := []) (lenOf pd__I_D rfl) rfl (by show 2 * 0 + _ ≤ _; exact Nat.le_of_eq rfl) (hb hby at_68) (fun _ _ => ⟨rfl, rfl, (by decide : 1 + 0 ≤ _), (by decide : 3 + 0 ≤ _)⟩)
  dsimp only [Pt.U, Pt.locs, Pt.cells, Pt.slots] at X14 l14 y14 z14 st14 hQ14
  subst l14 y14 z14
  obtain ⟨rfl, N14q, e14⟩ := hQ14
  have N14 := Fr.app N13 N14q
  replace pre : Pth p e below S0 T14 (mkF m 71 #[.val (.int p0), .val (.int p1), .val (.int p2), .val (.int p3), .val (.int mb), .val (.int id), .val (.long kk), .second, .val (.long tt), .second, .val (.double (FP.l2d al)), .second, .val (.double (FP.l2d tt)), .second, .val (.ref b12), .unset, .unset, .unset, .unset] [(.double (FP.l2d (kk + ((mb - (id - (1 : Int32))).toInt64 * tt))))]) := fun t k => pre t (st14.trans k)
  replace pre : Pth p e below S0 T14 (mkF m 95 #[.val (.int p0), .val (.int p1), .val (.int p2), .val (.int p3), .val (.int mb), .val (.int id), .val (.long kk), .second, .val (.long tt), .second, .val (.double (FP.l2d al)), .second, .val (.double (FP.l2d tt)), .second, .val (.ref b12), .val (.double (FP.l2d (kk + ((mb - (id - (1 : Int32))).toInt64 * tt)))), .second, .val (.long (kk + ((((mb.toInt64) - (id.toInt64)) + (1 : Int64)) * tt))), .second] [(.double (FP.l2d (kk + ((((mb.toInt64) - (id.toInt64)) + (1 : Int64)) * tt)))), (.double (FP.l2d (kk + ((mb - (id - (1 : Int32))).toInt64 * tt))))]) := fun t k => pre t (by
    show Steps p.tables e below (T14.setTop (mkF m 71 #[.val (.int p0), .val (.int p1), .val (.int p2), .val (.int p3), .val (.int mb), .val (.int id), .val (.long kk), .second, .val (.long tt), .second, .val (.double (FP.l2d al)), .second, .val (.double (FP.l2d tt)), .second, .val (.ref b12), .unset, .unset, .unset, .unset] [(.double (FP.l2d (kk + ((mb - (id - (1 : Int32))).toInt64 * tt))))])) t
    refine XS.dstore X14.here hx rfl (hb hby at_71) rfl (l' := #[.val (.int p0), .val (.int p1), .val (.int p2), .val (.int p3), .val (.int mb), .val (.int id), .val (.long kk), .second, .val (.long tt), .second, .val (.double (FP.l2d al)), .second, .val (.double (FP.l2d tt)), .second, .val (.ref b12), .val (.double (FP.l2d (kk + ((mb - (id - (1 : Int32))).toInt64 * tt)))), .second, .unset, .unset]) rfl ?_
    show Steps p.tables e below (T14.setTop (mkF m 73 #[.val (.int p0), .val (.int p1), .val (.int p2), .val (.int p3), .val (.int mb), .val (.int id), .val (.long kk), .second, .val (.long tt), .second, .val (.double (FP.l2d al)), .second, .val (.double (FP.l2d tt)), .second, .val (.ref b12), .val (.double (FP.l2d (kk + ((mb - (id - (1 : Int32))).toInt64 * tt)))), .second, .unset, .unset] [])) t
    refine XS.lload X14.here hx rfl (hb hby at_73) rfl ?_
    show Steps p.tables e below (T14.setTop (mkF m 75 #[.val (.int p0), .val (.int p1), .val (.int p2), .val (.int p3), .val (.int mb), .val (.int id), .val (.long kk), .second, .val (.long tt), .second, .val (.double (FP.l2d al)), .second, .val (.double (FP.l2d tt)), .second, .val (.ref b12), .val (.double (FP.l2d (kk + ((mb - (id - (1 : Int32))).toInt64 * tt)))), .second, .unset, .unset] [(.long kk)])) t
    refine XS.iload X14.here hx rfl (hb hby at_75) rfl ?_
    show Steps p.tables e below (T14.setTop (mkF m 77 #[.val (.int p0), .val (.int p1), .val (.int p2), .val (.int p3), .val (.int mb), .val (.int id), .val (.long kk), .second, .val (.long tt), .second, .val (.double (FP.l2d al)), .second, .val (.double (FP.l2d tt)), .second, .val (.ref b12), .val (.double (FP.l2d (kk + ((mb - (id - (1 : Int32))).toInt64 * tt)))), .second, .unset, .unset] [(.int mb), (.long kk)])) t
    refine XS.i2l X14.here hx rfl (hb hby at_77) rfl ?_
    show Steps p.tables e below (T14.setTop (mkF m 78 #[.val (.int p0), .val (.int p1), .val (.int p2), .val (.int p3), .val (.int mb), .val (.int id), .val (.long kk), .second, .val (.long tt), .second, .val (.double (FP.l2d al)), .second, .val (.double (FP.l2d tt)), .second, .val (.ref b12), .val (.double (FP.l2d (kk + ((mb - (id - (1 : Int32))).toInt64 * tt)))), .second, .unset, .unset] [(.long (mb.toInt64)), (.long kk)])) t
    refine XS.iload X14.here hx rfl (hb hby at_78) rfl ?_
    show Steps p.tables e below (T14.setTop (mkF m 80 #[.val (.int p0), .val (.int p1), .val (.int p2), .val (.int p3), .val (.int mb), .val (.int id), .val (.long kk), .second, .val (.long tt), .second, .val (.double (FP.l2d al)), .second, .val (.double (FP.l2d tt)), .second, .val (.ref b12), .val (.double (FP.l2d (kk + ((mb - (id - (1 : Int32))).toInt64 * tt)))), .second, .unset, .unset] [(.int id), (.long (mb.toInt64)), (.long kk)])) t
    refine XS.i2l X14.here hx rfl (hb hby at_80) rfl ?_
    show Steps p.tables e below (T14.setTop (mkF m 81 #[.val (.int p0), .val (.int p1), .val (.int p2), .val (.int p3), .val (.int mb), .val (.int id), .val (.long kk), .second, .val (.long tt), .second, .val (.double (FP.l2d al)), .second, .val (.double (FP.l2d tt)), .second, .val (.ref b12), .val (.double (FP.l2d (kk + ((mb - (id - (1 : Int32))).toInt64 * tt)))), .second, .unset, .unset] [(.long (id.toInt64)), (.long (mb.toInt64)), (.long kk)])) t
    refine XS.lsub X14.here hx rfl (hb hby at_81) rfl ?_
    show Steps p.tables e below (T14.setTop (mkF m 82 #[.val (.int p0), .val (.int p1), .val (.int p2), .val (.int p3), .val (.int mb), .val (.int id), .val (.long kk), .second, .val (.long tt), .second, .val (.double (FP.l2d al)), .second, .val (.double (FP.l2d tt)), .second, .val (.ref b12), .val (.double (FP.l2d (kk + ((mb - (id - (1 : Int32))).toInt64 * tt)))), .second, .unset, .unset] [(.long ((mb.toInt64) - (id.toInt64))), (.long kk)])) t
    refine XS.lconst X14.here hx rfl (hb hby at_82) ?_
    show Steps p.tables e below (T14.setTop (mkF m 83 #[.val (.int p0), .val (.int p1), .val (.int p2), .val (.int p3), .val (.int mb), .val (.int id), .val (.long kk), .second, .val (.long tt), .second, .val (.double (FP.l2d al)), .second, .val (.double (FP.l2d tt)), .second, .val (.ref b12), .val (.double (FP.l2d (kk + ((mb - (id - (1 : Int32))).toInt64 * tt)))), .second, .unset, .unset] [(.long (1 : Int64)), (.long ((mb.toInt64) - (id.toInt64))), (.long kk)])) t
    refine XS.ladd X14.here hx rfl (hb hby at_83) rfl ?_
    show Steps p.tables e below (T14.setTop (mkF m 84 #[.val (.int p0), .val (.int p1), .val (.int p2), .val (.int p3), .val (.int mb), .val (.int id), .val (.long kk), .second, .val (.long tt), .second, .val (.double (FP.l2d al)), .second, .val (.double (FP.l2d tt)), .second, .val (.ref b12), .val (.double (FP.l2d (kk + ((mb - (id - (1 : Int32))).toInt64 * tt)))), .second, .unset, .unset] [(.long (((mb.toInt64) - (id.toInt64)) + (1 : Int64))), (.long kk)])) t
    refine XS.lload X14.here hx rfl (hb hby at_84) rfl ?_
    show Steps p.tables e below (T14.setTop (mkF m 86 #[.val (.int p0), .val (.int p1), .val (.int p2), .val (.int p3), .val (.int mb), .val (.int id), .val (.long kk), .second, .val (.long tt), .second, .val (.double (FP.l2d al)), .second, .val (.double (FP.l2d tt)), .second, .val (.ref b12), .val (.double (FP.l2d (kk + ((mb - (id - (1 : Int32))).toInt64 * tt)))), .second, .unset, .unset] [(.long tt), (.long (((mb.toInt64) - (id.toInt64)) + (1 : Int64))), (.long kk)])) t
    refine XS.lmul X14.here hx rfl (hb hby at_86) rfl ?_
    show Steps p.tables e below (T14.setTop (mkF m 87 #[.val (.int p0), .val (.int p1), .val (.int p2), .val (.int p3), .val (.int mb), .val (.int id), .val (.long kk), .second, .val (.long tt), .second, .val (.double (FP.l2d al)), .second, .val (.double (FP.l2d tt)), .second, .val (.ref b12), .val (.double (FP.l2d (kk + ((mb - (id - (1 : Int32))).toInt64 * tt)))), .second, .unset, .unset] [(.long ((((mb.toInt64) - (id.toInt64)) + (1 : Int64)) * tt)), (.long kk)])) t
    refine XS.ladd X14.here hx rfl (hb hby at_87) rfl ?_
    show Steps p.tables e below (T14.setTop (mkF m 88 #[.val (.int p0), .val (.int p1), .val (.int p2), .val (.int p3), .val (.int mb), .val (.int id), .val (.long kk), .second, .val (.long tt), .second, .val (.double (FP.l2d al)), .second, .val (.double (FP.l2d tt)), .second, .val (.ref b12), .val (.double (FP.l2d (kk + ((mb - (id - (1 : Int32))).toInt64 * tt)))), .second, .unset, .unset] [(.long (kk + ((((mb.toInt64) - (id.toInt64)) + (1 : Int64)) * tt)))])) t
    refine XS.lstore X14.here hx rfl (hb hby at_88) rfl (l' := #[.val (.int p0), .val (.int p1), .val (.int p2), .val (.int p3), .val (.int mb), .val (.int id), .val (.long kk), .second, .val (.long tt), .second, .val (.double (FP.l2d al)), .second, .val (.double (FP.l2d tt)), .second, .val (.ref b12), .val (.double (FP.l2d (kk + ((mb - (id - (1 : Int32))).toInt64 * tt)))), .second, .val (.long (kk + ((((mb.toInt64) - (id.toInt64)) + (1 : Int64)) * tt))), .second]) rfl ?_
    show Steps p.tables e below (T14.setTop (mkF m 90 #[.val (.int p0), .val (.int p1), .val (.int p2), .val (.int p3), .val (.int mb), .val (.int id), .val (.long kk), .second, .val (.long tt), .second, .val (.double (FP.l2d al)), .second, .val (.double (FP.l2d tt)), .second, .val (.ref b12), .val (.double (FP.l2d (kk + ((mb - (id - (1 : Int32))).toInt64 * tt)))), .second, .val (.long (kk + ((((mb.toInt64) - (id.toInt64)) + (1 : Int64)) * tt))), .second] [])) t
    refine XS.dload X14.here hx rfl (hb hby at_90) rfl ?_
    show Steps p.tables e below (T14.setTop (mkF m 92 #[.val (.int p0), .val (.int p1), .val (.int p2), .val (.int p3), .val (.int mb), .val (.int id), .val (.long kk), .second, .val (.long tt), .second, .val (.double (FP.l2d al)), .second, .val (.double (FP.l2d tt)), .second, .val (.ref b12), .val (.double (FP.l2d (kk + ((mb - (id - (1 : Int32))).toInt64 * tt)))), .second, .val (.long (kk + ((((mb.toInt64) - (id.toInt64)) + (1 : Int64)) * tt))), .second] [(.double (FP.l2d (kk + ((mb - (id - (1 : Int32))).toInt64 * tt))))])) t
    refine XS.lload X14.here hx rfl (hb hby at_92) rfl ?_
    show Steps p.tables e below (T14.setTop (mkF m 94 #[.val (.int p0), .val (.int p1), .val (.int p2), .val (.int p3), .val (.int mb), .val (.int id), .val (.long kk), .second, .val (.long tt), .second, .val (.double (FP.l2d al)), .second, .val (.double (FP.l2d tt)), .second, .val (.ref b12), .val (.double (FP.l2d (kk + ((mb - (id - (1 : Int32))).toInt64 * tt)))), .second, .val (.long (kk + ((((mb.toInt64) - (id.toInt64)) + (1 : Int64)) * tt))), .second] [(.long (kk + ((((mb.toInt64) - (id.toInt64)) + (1 : Int64)) * tt))), (.double (FP.l2d (kk + ((mb - (id - (1 : Int32))).toInt64 * tt))))])) t
    refine XS.l2dS X14.here hx rfl (hb hby at_94) rfl rfl ?_
    show Steps p.tables e below (T14.setTop (mkF m 95 #[.val (.int p0), .val (.int p1), .val (.int p2), .val (.int p3), .val (.int mb), .val (.int id), .val (.long kk), .second, .val (.long tt), .second, .val (.double (FP.l2d al)), .second, .val (.double (FP.l2d tt)), .second, .val (.ref b12), .val (.double (FP.l2d (kk + ((mb - (id - (1 : Int32))).toInt64 * tt)))), .second, .val (.long (kk + ((((mb.toInt64) - (id.toInt64)) + (1 : Int64)) * tt))), .second] [(.double (FP.l2d (kk + ((((mb.toInt64) - (id.toInt64)) + (1 : Int64)) * tt)))), (.double (FP.l2d (kk + ((mb - (id - (1 : Int32))).toInt64 * tt))))])) t
    exact k)
  replace pre : Pth p e below S0 T14 (mkF m 104 #[.val (.int p0), .val (.int p1), .val (.int p2), .val (.int p3), .val (.int mb), .val (.int id), .val (.long kk), .second, .val (.long tt), .second, .val (.double (FP.l2d al)), .second, .val (.double (FP.l2d tt)), .second, .val (.ref b12), .val (.double (FP.l2d (kk + ((mb - (id - (1 : Int32))).toInt64 * tt)))), .second, .val (.long (kk + ((((mb.toInt64) - (id.toInt64)) + (1 : Int64)) * tt))), .second] [(.int (1 : Int32))]) := fun t k => pre t (by
    show Steps p.tables e below (T14.setTop (mkF m 95 #[.val (.int p0), .val (.int p1), .val (.int p2), .val (.int p3), .val (.int mb), .val (.int id), .val (.long kk), .second, .val (.long tt), .second, .val (.double (FP.l2d al)), .second, .val (.double (FP.l2d tt)), .second, .val (.ref b12), .val (.double (FP.l2d (kk + ((mb - (id - (1 : Int32))).toInt64 * tt)))), .second, .val (.long (kk + ((((mb.toInt64) - (id.toInt64)) + (1 : Int64)) * tt))), .second] [(.double (FP.l2d (kk + ((((mb.toInt64) - (id.toInt64)) + (1 : Int64)) * tt)))), (.double (FP.l2d (kk + ((mb - (id - (1 : Int32))).toInt64 * tt))))])) t
    refine XS.dcmpS X14.here hx rfl (hb hby at_95) rfl (v := (0 : Int32)) (dcmpV_eq (own_same B) (nn_w rfl) _) ?_
    show Steps p.tables e below (T14.setTop (mkF m 96 #[.val (.int p0), .val (.int p1), .val (.int p2), .val (.int p3), .val (.int mb), .val (.int id), .val (.long kk), .second, .val (.long tt), .second, .val (.double (FP.l2d al)), .second, .val (.double (FP.l2d tt)), .second, .val (.ref b12), .val (.double (FP.l2d (kk + ((mb - (id - (1 : Int32))).toInt64 * tt)))), .second, .val (.long (kk + ((((mb.toInt64) - (id.toInt64)) + (1 : Int64)) * tt))), .second] [(.int (0 : Int32))])) t
    refine XS.ifNo X14.here hx rfl (hb hby at_96) rfl (XT.i0_ne_f rfl) ?_
    show Steps p.tables e below (T14.setTop (mkF m 99 #[.val (.int p0), .val (.int p1), .val (.int p2), .val (.int p3), .val (.int mb), .val (.int id), .val (.long kk), .second, .val (.long tt), .second, .val (.double (FP.l2d al)), .second, .val (.double (FP.l2d tt)), .second, .val (.ref b12), .val (.double (FP.l2d (kk + ((mb - (id - (1 : Int32))).toInt64 * tt)))), .second, .val (.long (kk + ((((mb.toInt64) - (id.toInt64)) + (1 : Int64)) * tt))), .second] [])) t
    refine XS.iconst X14.here hx rfl (hb hby at_99) ?_
    show Steps p.tables e below (T14.setTop (mkF m 100 #[.val (.int p0), .val (.int p1), .val (.int p2), .val (.int p3), .val (.int mb), .val (.int id), .val (.long kk), .second, .val (.long tt), .second, .val (.double (FP.l2d al)), .second, .val (.double (FP.l2d tt)), .second, .val (.ref b12), .val (.double (FP.l2d (kk + ((mb - (id - (1 : Int32))).toInt64 * tt)))), .second, .val (.long (kk + ((((mb.toInt64) - (id.toInt64)) + (1 : Int64)) * tt))), .second] [(.int (1 : Int32))])) t
    refine XS.goto X14.here hx rfl (pc0 := 100) (pc' := 104) rfl (hb hby at_100) (by decide) (by decide) ?_
    show Steps p.tables e below (T14.setTop (mkF m 104 #[.val (.int p0), .val (.int p1), .val (.int p2), .val (.int p3), .val (.int mb), .val (.int id), .val (.long kk), .second, .val (.long tt), .second, .val (.double (FP.l2d al)), .second, .val (.double (FP.l2d tt)), .second, .val (.ref b12), .val (.double (FP.l2d (kk + ((mb - (id - (1 : Int32))).toInt64 * tt)))), .second, .val (.long (kk + ((((mb.toInt64) - (id.toInt64)) + (1 : Int64)) * tt))), .second] [(.int (1 : Int32))])) t
    exact k)
  obtain ⟨fs, hr, hrun, hended, hW, hsame⟩ := X14.leave (v := some (.int (1 : Int32))) (fun h => by rw [Bd.returns] at h; cases h)
  subst hS0
  refine ⟨_, _, pre _ ?_, hrun, hended, _, _, rfl, ?_, ⟨_, rfl⟩, hW, hsame.mono (by decide) (by decide)⟩
  · exact retN X14 hx (t := .boolean) Bd.returns (by simp) (hb hby at_104) hr
  · show Q_law Z p0 p1 p2 p3 h0 n0 _ T14.heap _
    rw [e14]
    exact ⟨rfl, N14⟩
set_option maxRecDepth 65536 in
set_option maxHeartbeats 40000000 in
theorem comes_1 {Post : Tables → Env → Array Value → State → Outcome → State → Prop} (hpost : ∀ tb e args s v u, (limb_1_1.after args s (.returned v) u = true ∧ limb_1_2.after args s (.returned v) u = true ∧ True) → FrameEnd s (.returned v) u (Jvm.fieldLocs frame_1_writes args s ++ Jvm.arrayLocs frame_1_arrays args s ++ Jvm.staticLocs frame_1_statics s) 16 128 → Post tb e args s (.returned v) u) :
    ArmFor flags0 classFile x code maxLocals ret World_1 tables_1 room_1 Calls_1 rest_1 Pre_1 Post := by
  intro l hfl _ _ p e ha hc hk s m args below hf hA hF happ hP
  obtain ⟨hcalls, hrest, hpre⟩ := hP
  obtain ⟨-, -, -, hnamed, -, -, -, hat⟩ := (Spec.applies_iff hf).mp happ
  obtain ⟨hg, hn⟩ := and_e (Cond.before_iff.mp (show (Jvm.Cond.and given_1 narrow_1).before args s = true from hpre))
  obtain ⟨gv1a, gv1b⟩ := and_e hg
  obtain ⟨gv2a, gv2b⟩ := and_e gv1b
  obtain ⟨gv3a, gv3b⟩ := and_e gv2b
  obtain ⟨gv4a, gv4b⟩ := and_e gv3b
  obtain ⟨w0, w1, w2, w3, rfl⟩ : ∃ w0 w1 w2 w3 : Value, args = #[w0, w1, w2, w3] := by
    have hs : args.size = 4 := by simpa [Cond.value, given_1] using gv1a
    obtain ⟨L⟩ := args
    match L, hs with
    | [w0, w1, w2, w3], _ => exact ⟨w0, w1, w2, w3, rfl⟩
  have hw := fun d (hd : d ∈ tables_1) => atoms_spec (ws := Jvm.Cond.code x code maxLocals ret :: tables_1) hat d (List.mem_cons_of_mem _ hd)
  have hfit : Fit s := fun {y c} hc i hi => by
    obtain ⟨ha, rfl⟩ := Array.getElem?_eq_some_iff.mp hc
    have q := List.all_eq_true.mp ((Array.all_eq_true_iff_forall_mem.mp hF) _ (Array.getElem_mem ha)) i (List.mem_range.mpr hi)
    simpa [Array.getElem?_eq_getElem hi] using q
  obtain ⟨i0, ei0⟩ := is_v gv2a
  obtain rfl : w0 = (.int i0) := Option.some.inj ei0
  obtain ⟨i1, ei1⟩ := is_v gv3a
  obtain rfl : w1 = (.int i1) := Option.some.inj ei1
  obtain ⟨i2, ei2⟩ := is_v gv4a
  obtain rfl : w2 = (.int i2) := Option.some.inj ei2
  obtain ⟨i3, ei3⟩ := is_v gv4b
  obtain rfl : w3 = (.int i3) := Option.some.inj ei3
  obtain ⟨n, o, h1, h2, h3, _, L, rfl, ⟨rfl, N⟩, hq⟩ := rm_law l s _ hw tables_1 i0 i1 i2 i3 s.heap s.heap.size (Nat.le_refl _)  p e ha hc hk s m _ below hf ((Spec.applies_iff_loose hf).mp happ).1 ⟨rfl, State.Warmed39.refl s, rfl⟩ trivial
  refine ⟨n, _, h1, h2, h3, hpost _ _ _ _ _ _ ⟨Cond.after_iff.mpr rfl, Cond.after_iff.mpr (eq_i res_at (Term.int_eval (1)) rfl), trivial⟩ ⟨hq.1, hq.2.1, (hq.2.2.sift fun y hy => Or.inr (N y hy)).mono (by decide) (by decide)⟩⟩
theorem main_1_1 : Claimed_1_1 := comes_1 fun _ _ _ _ _ _ h hF => ⟨h.1, hF⟩
theorem main_1_2 : Claimed_1_2 := comes_1 fun _ _ _ _ _ _ h hF => ⟨h.2.1, hF⟩
end Jvm.Pilot.@@N@@
namespace Jvm.Pilot.@@N@@
open Jvm Jvm.ClassFile Sem Op Lib Jvm.Free Jvm.Stand Jvm.Pilot.@@N@@.Jvm.D
/-! MADE BY PROGRAM (witnessworld.py) out of the Statement's table words and the real class files: 15 classes; the members and pool entries that the words name. The judged class is class 1, her method 1. -/
namespace start1
open Jvm.ClassFile
def u (s : String) : CpInfo := .utf8 (stringToUtf16 s)
/-- a pool by its gaps: so many unusable entries, then the entry; so many at the end -/
def gap : Nat → List CpInfo → List CpInfo
  | 0, r => r
  | n + 1, r => .unusable :: gap n r
def poolList (es : List (Nat × CpInfo)) (last : Nat) : List CpInfo := es.foldr (fun e r => gap e.1 (e.2 :: r)) (gap last [])
def pool (es : List (Nat × CpInfo)) (last : Nat) : Array CpInfo := ⟨poolList es last⟩
def fileOf (pool : Array CpInfo) (this : Nat) (attrs : Array Attribute := #[]) (ms : Array MethodInfo := #[]) (fl : Nat := 33) (sup : Nat := 0) (ifs : Array Nat := #[]) (fds : Array FieldInfo := #[]) : ClassFile where
  minorVersion := 0
  majorVersion := 65
  constantPool := pool
  accessFlags := fl
  thisClass := this
  superClass := sup
  interfaces := ifs
  fields := fds
  methods := ms
  attributes := attrs
def plain (name : String) (sup : Option ClassId) : Class where
  name := name
  kind := .ordinary
  loader := none
  accessFlags := 33
  super := sup
  interfaces := #[]
  cf := none
  fields := #[]
  methods := #[]
  instanceTypes := #[]
  staticTypes := #[]
  resolved := #[]
  callSites := []
  init := .initialized
  statics := none
  mirror := none

def pool0 : Array CpInfo := pool [(5, u "<init>"), (0, u "()V"), (1, .class_ 10), (1, u "java/lang/Object")] 113

def k0c0 : Code := { maxStack := 0, maxLocals := 1, code := object_method_1_code, exceptionTable := #[], attributes := #[] }
def k0m0 : Method := { name := "<init>", desc := "()V", sig := { parameters := [], returnType := none }, accessFlags := 1, code := some k0c0 }
/-- java/lang/Object -/
def k0 : Class := { plain "java/lang/Object" none with
  accessFlags := 33
  interfaces := #[]
  cf := some (fileOf pool0 8 #[] #[{ accessFlags := 1, nameIndex := 5, descriptorIndex := 6, attributes := #[] }] 33 0 #[] #[])
  fields := #[]
  methods := #[k0m0]
  instanceTypes := #[]
  staticTypes := #[]
  resolved := Array.replicate 124 none
  statics := none }

def pool1 : Array CpInfo := pool [(2, .class_ 4), (1, u "java/lang/Object"), (0, u "<init>"), (0, u "()V"), (0, .integer 1073741823), (0, .integer 2147483647), (0, .integer 65535), (0, .class_ 11), (0, u "com/example/group_leader_election/groupleaderelection/ElectionTiming"), (0, .methodref 10 13), (0, .nameAndType 5 14), (0, u "(IDD)V"), (0, .methodref 10 16), (0, .nameAndType 17 18), (0, u "tiebreaker"), (0, u "(I)D"), (0, .class_ 20), (0, u "com/example/group_leader_election/groupleaderelection/ElectionTimingTiebreakerPinLaw"), (2, u "law"), (0, u "(IIII)Z")] 3

def k1m0 : Method := { name := "<init>", desc := "()V", sig := { parameters := [], returnType := none }, accessFlags := 1, code := none }
def k1c1 : Code := { maxStack := 7, maxLocals := 19, code := code, exceptionTable := #[], attributes := #[] }
def k1m1 : Method := { name := "law", desc := "(IIII)Z", sig := { parameters := [.int, .int, .int, .int], returnType := some .boolean }, accessFlags := 9, code := some k1c1 }
/-- com/example/group_leader_election/groupleaderelection/ElectionTimingTiebreakerPinLaw -/
def k1 : Class := { plain "com/example/group_leader_election/groupleaderelection/ElectionTimingTiebreakerPinLaw" (some 0) with
  accessFlags := 49
  interfaces := #[]
  cf := some (fileOf pool1 19 #[] #[{ accessFlags := 1, nameIndex := 5, descriptorIndex := 6, attributes := #[] }, { accessFlags := 9, nameIndex := 23, descriptorIndex := 24, attributes := #[] }] 49 2 #[] #[])
  fields := #[]
  methods := #[k1m0, k1m1]
  instanceTypes := #[]
  staticTypes := #[]
  resolved := Array.replicate 28 none
  statics := none }

def pool2 : Array CpInfo := pool [(1, .methodref 2 3), (0, .class_ 4), (0, .nameAndType 5 6), (0, u "java/lang/Object"), (0, u "<init>"), (0, u "()V"), (9, .methodref 17 18), (0, .class_ 19), (0, .nameAndType 20 21), (0, u "java/lang/Double"), (0, u "isInfinite"), (0, u "(D)Z"), (4, .fieldref 27 28), (0, .class_ 29), (0, .nameAndType 30 31), (0, u "com/example/group_leader_election/groupleaderelection/ElectionTiming"), (0, u "members"), (0, u "I"), (0, .fieldref 27 33), (0, .nameAndType 34 35), (0, u "transmitTime"), (0, u "D"), (0, .fieldref 27 37), (0, .nameAndType 38 35), (0, u "alpha"), (0, .methodref 27 40), (0, .nameAndType 41 42), (0, u "requireMember"), (0, u "(II)V"), (7, u "tiebreaker"), (0, u "(I)D"), (2, u "(IDD)V")] 29

def k2c0 : Code := { maxStack := 4, maxLocals := 6, code := prog_1_method_1_code, exceptionTable := #[], attributes := #[] }
def k2m0 : Method := { name := "<init>", desc := "(IDD)V", sig := { parameters := [.int, .double, .double], returnType := none }, accessFlags := 1, code := some k2c0 }
def k2c1 : Code := { maxStack := 6, maxLocals := 2, code := prog_1_method_3_code, exceptionTable := #[], attributes := #[] }
def k2m1 : Method := { name := "tiebreaker", desc := "(I)D", sig := { parameters := [.int], returnType := some .double }, accessFlags := 1, code := some k2c1 }
def k2c2 : Code := { maxStack := 5, maxLocals := 2, code := prog_1_method_4_code, exceptionTable := #[], attributes := #[] }
def k2m2 : Method := { name := "requireMember", desc := "(II)V", sig := { parameters := [.int, .int], returnType := none }, accessFlags := 8, code := some k2c2 }
/-- com/example/group_leader_election/groupleaderelection/ElectionTiming -/
def k2 : Class := { plain "com/example/group_leader_election/groupleaderelection/ElectionTiming" (some 0) with
  accessFlags := 49
  interfaces := #[]
  cf := some (fileOf pool2 27 #[] #[{ accessFlags := 1, nameIndex := 5, descriptorIndex := 54, attributes := #[] }, { accessFlags := 1, nameIndex := 50, descriptorIndex := 51, attributes := #[] }, { accessFlags := 8, nameIndex := 41, descriptorIndex := 42, attributes := #[] }] 49 2 #[] #[{ accessFlags := 18, nameIndex := 30, descriptorIndex := 31, attributes := #[] }, { accessFlags := 18, nameIndex := 34, descriptorIndex := 35, attributes := #[] }, { accessFlags := 18, nameIndex := 38, descriptorIndex := 35, attributes := #[] }])
  fields := #[{ name := "members", type := .int, accessFlags := 18, slot := 0, constantValue := 0 }, { name := "transmitTime", type := .double, accessFlags := 18, slot := 1, constantValue := 0 }, { name := "alpha", type := .double, accessFlags := 18, slot := 2, constantValue := 0 }]
  methods := #[k2m0, k2m1, k2m2]
  instanceTypes := #[.int, .double, .double]
  staticTypes := #[]
  resolved := Array.replicate 84 none
  statics := none }

def pool3 : Array CpInfo := pool [(1, .class_ 2), (0, u "java/io/Serializable"), (0, .class_ 4), (0, u "java/lang/Object")] 2

/-- java/io/Serializable -/
def k3 : Class := { plain "java/io/Serializable" (some 0) with
  accessFlags := 1537
  interfaces := #[]
  cf := some (fileOf pool3 1 #[] #[] 1537 3 #[] #[])
  fields := #[]
  methods := #[]
  instanceTypes := #[]
  staticTypes := #[]
  resolved := Array.replicate 7 none
  statics := none }

def pool4 : Array CpInfo := pool [(2, .class_ 4), (1, u "java/lang/Object"), (0, u "<init>"), (0, u "()V"), (1, .class_ 10), (1, u "java/lang/Number"), (2, .class_ 14), (0, u "java/io/Serializable"), (0, u "serialVersionUID"), (0, u "J")] 20

def k4m0 : Method := { name := "<init>", desc := "()V", sig := { parameters := [], returnType := none }, accessFlags := 1, code := none }
/-- java/lang/Number -/
def k4 : Class := { plain "java/lang/Number" (some 0) with
  accessFlags := 1057
  interfaces := #[3]
  cf := some (fileOf pool4 8 #[] #[{ accessFlags := 1, nameIndex := 5, descriptorIndex := 6, attributes := #[] }] 1057 2 #[13] #[{ accessFlags := 26, nameIndex := 15, descriptorIndex := 16, attributes := #[] }])
  fields := #[{ name := "serialVersionUID", type := .long, accessFlags := 26, slot := 0, constantValue := 0 }]
  methods := #[k4m0]
  instanceTypes := #[]
  staticTypes := #[.long]
  resolved := Array.replicate 37 none
  statics := none }

def pool5 : Array CpInfo := pool [(1, .class_ 2), (0, u "java/lang/Comparable"), (0, .class_ 4), (0, u "java/lang/Object")] 7

/-- java/lang/Comparable -/
def k5 : Class := { plain "java/lang/Comparable" (some 0) with
  accessFlags := 1537
  interfaces := #[]
  cf := some (fileOf pool5 1 #[] #[] 1537 3 #[] #[])
  fields := #[]
  methods := #[]
  instanceTypes := #[]
  staticTypes := #[]
  resolved := Array.replicate 12 none
  statics := none }

def pool6 : Array CpInfo := pool [(1, .class_ 2), (0, u "java/lang/constant/Constable"), (0, .class_ 4), (0, u "java/lang/Object")] 6

/-- java/lang/constant/Constable -/
def k6 : Class := { plain "java/lang/constant/Constable" (some 0) with
  accessFlags := 1537
  interfaces := #[]
  cf := some (fileOf pool6 1 #[] #[] 1537 3 #[] #[])
  fields := #[]
  methods := #[]
  instanceTypes := #[]
  staticTypes := #[]
  resolved := Array.replicate 11 none
  statics := none }

def pool7 : Array CpInfo := pool [(1, .class_ 2), (0, u "java/lang/constant/ConstantDesc"), (0, .class_ 4), (0, u "java/lang/Object")] 32

/-- java/lang/constant/ConstantDesc -/
def k7 : Class := { plain "java/lang/constant/ConstantDesc" (some 0) with
  accessFlags := 1537
  interfaces := #[]
  cf := some (fileOf pool7 1 #[] #[] 1537 3 #[] #[])
  fields := #[]
  methods := #[]
  instanceTypes := #[]
  staticTypes := #[]
  resolved := Array.replicate 37 none
  statics := none }

def pool8 : Array CpInfo := pool [(1, .class_ 2), (0, u "java/lang/Double"), (11, u "(D)Z"), (8, .class_ 25), (1, u "java/lang/Math"), (12, .methodref 23 39), (0, .nameAndType 40 41), (0, u "abs"), (0, u "(D)D"), (69, .double 9218868437227405311), (2, .class_ 116), (1, u "java/lang/Number"), (3, u "value"), (0, u "D"), (5, u "isInfinite"), (45, u "TYPE"), (0, u "Ljava/lang/Class;"), (0, .class_ 176), (0, u "java/lang/Comparable"), (0, .class_ 178), (0, u "java/lang/constant/Constable"), (0, .class_ 180), (0, u "java/lang/constant/ConstantDesc"), (0, u "POSITIVE_INFINITY"), (3, u "NEGATIVE_INFINITY"), (2, u "NaN"), (2, u "MAX_VALUE"), (0, u "MIN_NORMAL"), (0, u "MIN_VALUE"), (2, u "SIZE"), (0, u "I"), (1, u "PRECISION"), (1, u "MAX_EXPONENT"), (1, u "MIN_EXPONENT"), (1, u "BYTES"), (3, u "serialVersionUID"), (0, u "J")] 79

def k8c0 : Code := { maxStack := 4, maxLocals := 2, code := jdk_117_method_7_code, exceptionTable := #[], attributes := #[] }
def k8m0 : Method := { name := "isInfinite", desc := "(D)Z", sig := { parameters := [.double], returnType := some .boolean }, accessFlags := 9, code := some k8c0 }
/-- java/lang/Double -/
def k8 : Class := { plain "java/lang/Double" (some 4) with
  accessFlags := 49
  interfaces := #[5, 6, 7]
  cf := some (fileOf pool8 1 #[] #[{ accessFlags := 9, nameIndex := 127, descriptorIndex := 14, attributes := #[] }] 49 114 #[175, 177, 179] #[{ accessFlags := 25, nameIndex := 181, descriptorIndex := 121, attributes := #[] }, { accessFlags := 25, nameIndex := 185, descriptorIndex := 121, attributes := #[] }, { accessFlags := 25, nameIndex := 188, descriptorIndex := 121, attributes := #[] }, { accessFlags := 25, nameIndex := 191, descriptorIndex := 121, attributes := #[] }, { accessFlags := 25, nameIndex := 192, descriptorIndex := 121, attributes := #[] }, { accessFlags := 25, nameIndex := 193, descriptorIndex := 121, attributes := #[] }, { accessFlags := 25, nameIndex := 196, descriptorIndex := 197, attributes := #[] }, { accessFlags := 25, nameIndex := 199, descriptorIndex := 197, attributes := #[] }, { accessFlags := 25, nameIndex := 201, descriptorIndex := 197, attributes := #[] }, { accessFlags := 25, nameIndex := 203, descriptorIndex := 197, attributes := #[] }, { accessFlags := 25, nameIndex := 205, descriptorIndex := 197, attributes := #[] }, { accessFlags := 25, nameIndex := 173, descriptorIndex := 174, attributes := #[] }, { accessFlags := 18, nameIndex := 120, descriptorIndex := 121, attributes := #[] }, { accessFlags := 26, nameIndex := 209, descriptorIndex := 210, attributes := #[] }])
  fields := #[{ name := "POSITIVE_INFINITY", type := .double, accessFlags := 25, slot := 0, constantValue := 0 }, { name := "NEGATIVE_INFINITY", type := .double, accessFlags := 25, slot := 1, constantValue := 0 }, { name := "NaN", type := .double, accessFlags := 25, slot := 2, constantValue := 0 }, { name := "MAX_VALUE", type := .double, accessFlags := 25, slot := 3, constantValue := 0 }, { name := "MIN_NORMAL", type := .double, accessFlags := 25, slot := 4, constantValue := 0 }, { name := "MIN_VALUE", type := .double, accessFlags := 25, slot := 5, constantValue := 0 }, { name := "SIZE", type := .int, accessFlags := 25, slot := 6, constantValue := 0 }, { name := "PRECISION", type := .int, accessFlags := 25, slot := 7, constantValue := 0 }, { name := "MAX_EXPONENT", type := .int, accessFlags := 25, slot := 8, constantValue := 0 }, { name := "MIN_EXPONENT", type := .int, accessFlags := 25, slot := 9, constantValue := 0 }, { name := "BYTES", type := .int, accessFlags := 25, slot := 10, constantValue := 0 }, { name := "TYPE", type := (.object "java/lang/Class"), accessFlags := 25, slot := 11, constantValue := 0 }, { name := "value", type := .double, accessFlags := 18, slot := 0, constantValue := 0 }, { name := "serialVersionUID", type := .long, accessFlags := 26, slot := 12, constantValue := 0 }]
  methods := #[k8m0]
  instanceTypes := #[.double]
  staticTypes := #[.double, .double, .double, .double, .double, .double, .int, .int, .int, .int, .int, (.object "java/lang/Class"), .long]
  resolved := Array.replicate 290 none
  statics := none }

def pool9 : Array CpInfo := pool [(1, .class_ 2), (0, u "java/lang/Math"), (1, .class_ 6), (1, u "java/lang/Object"), (0, u "<init>"), (0, u "()V"), (5, u "(D)D"), (83, .class_ 100), (1, u "java/lang/Math$RandomNumberGeneratorHolder"), (23, u "abs"), (47, u "negativeZeroFloatBits"), (0, u "J"), (2, u "negativeZeroDoubleBits"), (68, u "$assertionsDisabled"), (0, u "Z"), (91, u "twoToTheDoubleScaleDown"), (0, u "D"), (4, u "twoToTheDoubleScaleUp"), (9, u "E"), (3, u "PI"), (2, u "TAU"), (2, u "DEGREES_TO_RADIANS"), (0, u "RADIANS_TO_DEGREES")] 94

def k9m0 : Method := { name := "<init>", desc := "()V", sig := { parameters := [], returnType := none }, accessFlags := 2, code := none }
def k9c1 : Code := { maxStack := 4, maxLocals := 2, code := jdk_29_method_64_code, exceptionTable := #[], attributes := #[] }
def k9m1 : Method := { name := "abs", desc := "(D)D", sig := { parameters := [.double], returnType := some .double }, accessFlags := 9, code := some k9c1 }
/-- java/lang/Math -/
def k9 : Class := { plain "java/lang/Math" (some 0) with
  accessFlags := 49
  interfaces := #[]
  cf := some (fileOf pool9 1 #[.nestMembers #[98]] #[{ accessFlags := 2, nameIndex := 7, descriptorIndex := 8, attributes := #[] }, { accessFlags := 9, nameIndex := 124, descriptorIndex := 14, attributes := #[] }] 49 4 #[] #[{ accessFlags := 25, nameIndex := 354, descriptorIndex := 339, attributes := #[] }, { accessFlags := 25, nameIndex := 358, descriptorIndex := 339, attributes := #[] }, { accessFlags := 25, nameIndex := 361, descriptorIndex := 339, attributes := #[] }, { accessFlags := 26, nameIndex := 364, descriptorIndex := 339, attributes := #[] }, { accessFlags := 26, nameIndex := 365, descriptorIndex := 339, attributes := #[] }, { accessFlags := 26, nameIndex := 172, descriptorIndex := 173, attributes := #[] }, { accessFlags := 26, nameIndex := 176, descriptorIndex := 173, attributes := #[] }, { accessFlags := 8, nameIndex := 344, descriptorIndex := 339, attributes := #[] }, { accessFlags := 8, nameIndex := 338, descriptorIndex := 339, attributes := #[] }, { accessFlags := 4120, nameIndex := 245, descriptorIndex := 246, attributes := #[] }])
  fields := #[{ name := "E", type := .double, accessFlags := 25, slot := 0, constantValue := 0 }, { name := "PI", type := .double, accessFlags := 25, slot := 1, constantValue := 0 }, { name := "TAU", type := .double, accessFlags := 25, slot := 2, constantValue := 0 }, { name := "DEGREES_TO_RADIANS", type := .double, accessFlags := 26, slot := 3, constantValue := 0 }, { name := "RADIANS_TO_DEGREES", type := .double, accessFlags := 26, slot := 4, constantValue := 0 }, { name := "negativeZeroFloatBits", type := .long, accessFlags := 26, slot := 5, constantValue := 0 }, { name := "negativeZeroDoubleBits", type := .long, accessFlags := 26, slot := 6, constantValue := 0 }, { name := "twoToTheDoubleScaleUp", type := .double, accessFlags := 8, slot := 7, constantValue := 0 }, { name := "twoToTheDoubleScaleDown", type := .double, accessFlags := 8, slot := 8, constantValue := 0 }, { name := "$assertionsDisabled", type := .boolean, accessFlags := 4120, slot := 9, constantValue := 0 }]
  methods := #[k9m0, k9m1]
  instanceTypes := #[]
  staticTypes := #[.double, .double, .double, .double, .double, .long, .long, .double, .double, .boolean]
  resolved := Array.replicate 460 none
  statics := none }

def pool10 : Array CpInfo := pool [(1, u "java/lang/Cloneable"), (0, .class_ 1), (0, u "java/lang/Object"), (0, .class_ 3)] 3

/-- java/lang/Cloneable -/
def k10 : Class := { plain "java/lang/Cloneable" (some 0) with
  accessFlags := 1537
  interfaces := #[]
  cf := some (fileOf pool10 2 #[] #[] 1537 4 #[] #[])
  fields := #[]
  methods := #[]
  instanceTypes := #[]
  staticTypes := #[]
  resolved := Array.replicate 8 none
  statics := none }

/-- the primitive byte -/
def k11 : Class := { plain "byte" none with kind := .primitive 'B', accessFlags := 0x411 }
/-- [B -/
def k12 : Class := { plain "[B" (some 0) with kind := .array 11 .byte, interfaces := #[10, 3], accessFlags := 1041 }

/-- the primitive int -/
def k13 : Class := { plain "int" none with kind := .primitive 'I', accessFlags := 0x411 }
/-- [I -/
def k14 : Class := { plain "[I" (some 0) with kind := .array 13 .int, interfaces := #[10, 3], accessFlags := 1041 }

def heap : Heap := #[]
def classes : Array Class := #[k0, k1, k2, k3, k4, k5, k6, k7, k8, k9, k10, k11, k12, k13, k14]
def interned : List (Array UInt16 × Addr) := []
def slotsUsed : Nat := 0
def theMethod : MethodId := ⟨1, 1⟩
def args0 : Array Value := #[.int 5, .int 3, .int 7, .int 9]
def aboutOver (below : List Frame) : State where
  vm := { classes := classes, interned := interned.toArray }
  heap := heap
  slotsUsed := slotsUsed
  threads := #[{ frames := .invoking theMethod args0 :: below }]
def below0 : List Frame := [.native { method := ⟨0, 0⟩, args := #[] }]
def about1 : State := aboutOver below0
def p0 : Program := .bare "" "" ""
def e0 : Env := launch0.env 0 0 0
theorem w_frames : about1.frames = Frame.invoking theMethod args0 :: below0 := rfl
set_option maxRecDepth 65536 in
theorem w_args : argsFit about1.vm theMethod args0 = true := by decide +kernel
set_option maxRecDepth 65536 in
theorem w_heap : heapFits about1 = true := by decide +kernel
set_option maxRecDepth 65536 in
theorem w_runnable : about1.curStatus? = some .runnable := by decide +kernel
set_option maxRecDepth 65536 in
theorem w_alone : about1.alone = true := by decide +kernel
set_option maxRecDepth 65536 in
theorem w_named : about1.methodNamed? x = some theMethod := by decide +kernel
set_option maxRecDepth 65536 in
theorem w_hears : about1.hears theMethod below0 = true := by decide +kernel
set_option maxRecDepth 65536 in
theorem w_ripe : about1.ripe theMethod args0 below0 = true := by decide +kernel
theorem w_running : about1.status = .running := rfl
set_option maxRecDepth 65536 in
theorem w_room : about1.hasRoom e0.platform room_1 = true :=
  launch0.hasRoom_least _ room_1 (by decide +kernel) (by decide +kernel) (by decide +kernel) (by decide +kernel) (by decide +kernel) (by decide +kernel)
theorem allAtoms_all (ts : List Jvm.Cond) (a : Array Jvm.Value) (st : Jvm.State) : (allAtoms ts).before a st = ts.all (fun c => c.before a st) := by
  induction ts with
  | nil => rfl
  | cons c t ih =>
    show (Jvm.Cond.and c (allAtoms t)).before a st = _
    rw [Jvm.Cond.before_and, ih, List.all_cons]
def words1 : List Jvm.Cond := Jvm.Cond.code x code maxLocals ret :: tables_1
/-- a 'code' word, met by the world's own term for the bytes: nothing is compared byte by byte -/
theorem code_word {y : MethodName} {bytes : ByteArray} {mx : Nat} {rt : Option FieldType} {a : Array Value} {s : State} {m : MethodId} {meth : Method} {c : Code} (h1 : s.methodNamed? y = some m) (h2 : s.vm.method? m = some meth) (h3 : meth.code = some c) (h4 : c.code = bytes)
    (h5 : (c.maxLocals == mx && c.exceptionTable.isEmpty && decide (c.maxStack ≤ mostOperands) && decide (meth.sig.returnType = rt) && !meth.locks && decide (parseMethodDescriptor y.desc = some meth.sig)) = true) : (Jvm.Cond.code y bytes mx rt).before a s = true := by
  simp only [Bool.and_eq_true, beq_iff_eq, Bool.not_eq_true', decide_eq_true_eq] at h5
  obtain ⟨⟨⟨⟨⟨g1, g2⟩, g3⟩, g4⟩, g5⟩, g6⟩ := h5
  simp [Cond.before, Cond.holds, Cond.value, h1, h2, h3, h4, g1, g2, g3, g4, g5, g6]
def isCode : Jvm.Cond → Bool
  | .code _ _ _ _ => true
  | _ => false
theorem all_split {L : List Jvm.Cond} {P : Jvm.Cond → Bool} (h1 : L.all (fun c => isCode c || P c) = true) (h2 : ∀ c ∈ L.filter isCode, P c = true) : L.all P = true := by
  refine List.all_eq_true.mpr fun c hc => ?_
  have h := List.all_eq_true.mp h1 c hc
  rcases Bool.eq_false_or_eq_true (isCode c) with hi | hi
  · exact h2 c (List.mem_filter.mpr ⟨hc, hi⟩)
  · simpa [hi] using h
set_option maxRecDepth 65536 in
theorem w_c0 : (Jvm.Cond.code x code maxLocals ret).before args0 about1 = true := code_word (m := ⟨1, 1⟩) (meth := k1m1) (c := k1c1) (by decide +kernel) rfl rfl rfl (by decide +kernel)
set_option maxRecDepth 65536 in
theorem w_c1 : (Jvm.Cond.code ({ cls := "com/example/group_leader_election/groupleaderelection/ElectionTiming", name := "<init>", desc := "(IDD)V" } : Jvm.MethodName) prog_1_method_1_code (6 : Nat) (Option.none : Option Jvm.ClassFile.FieldType)).before args0 about1 = true := code_word (m := ⟨2, 0⟩) (meth := k2m0) (c := k2c0) (by decide +kernel) rfl rfl rfl (by decide +kernel)
set_option maxRecDepth 65536 in
theorem w_c2 : (Jvm.Cond.code ({ cls := "java/lang/Object", name := "<init>", desc := "()V" } : Jvm.MethodName) object_method_1_code (1 : Nat) (Option.none : Option Jvm.ClassFile.FieldType)).before args0 about1 = true := code_word (m := ⟨0, 0⟩) (meth := k0m0) (c := k0c0) (by decide +kernel) rfl rfl rfl (by decide +kernel)
set_option maxRecDepth 65536 in
theorem w_c3 : (Jvm.Cond.code ({ cls := "java/lang/Double", name := "isInfinite", desc := "(D)Z" } : Jvm.MethodName) jdk_117_method_7_code (2 : Nat) (Option.some Jvm.ClassFile.FieldType.boolean)).before args0 about1 = true := code_word (m := ⟨8, 0⟩) (meth := k8m0) (c := k8c0) (by decide +kernel) rfl rfl rfl (by decide +kernel)
set_option maxRecDepth 65536 in
theorem w_c4 : (Jvm.Cond.code ({ cls := "java/lang/Math", name := "abs", desc := "(D)D" } : Jvm.MethodName) jdk_29_method_64_code (2 : Nat) (Option.some Jvm.ClassFile.FieldType.double)).before args0 about1 = true := code_word (m := ⟨9, 1⟩) (meth := k9m1) (c := k9c1) (by decide +kernel) rfl rfl rfl (by decide +kernel)
set_option maxRecDepth 65536 in
theorem w_c5 : (Jvm.Cond.code ({ cls := "com/example/group_leader_election/groupleaderelection/ElectionTiming", name := "tiebreaker", desc := "(I)D" } : Jvm.MethodName) prog_1_method_3_code (2 : Nat) (Option.some Jvm.ClassFile.FieldType.double)).before args0 about1 = true := code_word (m := ⟨2, 1⟩) (meth := k2m1) (c := k2c1) (by decide +kernel) rfl rfl rfl (by decide +kernel)
set_option maxRecDepth 65536 in
theorem w_c6 : (Jvm.Cond.code ({ cls := "com/example/group_leader_election/groupleaderelection/ElectionTiming", name := "requireMember", desc := "(II)V" } : Jvm.MethodName) prog_1_method_4_code (2 : Nat) (Option.none : Option Jvm.ClassFile.FieldType)).before args0 about1 = true := code_word (m := ⟨2, 2⟩) (meth := k2m2) (c := k2c2) (by decide +kernel) rfl rfl rfl (by decide +kernel)
def codes1 : List Jvm.Cond := [Jvm.Cond.code x code maxLocals ret, Jvm.Cond.code ({ cls := "com/example/group_leader_election/groupleaderelection/ElectionTiming", name := "<init>", desc := "(IDD)V" } : Jvm.MethodName) prog_1_method_1_code (6 : Nat) (Option.none : Option Jvm.ClassFile.FieldType), Jvm.Cond.code ({ cls := "java/lang/Object", name := "<init>", desc := "()V" } : Jvm.MethodName) object_method_1_code (1 : Nat) (Option.none : Option Jvm.ClassFile.FieldType), Jvm.Cond.code ({ cls := "java/lang/Double", name := "isInfinite", desc := "(D)Z" } : Jvm.MethodName) jdk_117_method_7_code (2 : Nat) (Option.some Jvm.ClassFile.FieldType.boolean), Jvm.Cond.code ({ cls := "java/lang/Math", name := "abs", desc := "(D)D" } : Jvm.MethodName) jdk_29_method_64_code (2 : Nat) (Option.some Jvm.ClassFile.FieldType.double), Jvm.Cond.code ({ cls := "com/example/group_leader_election/groupleaderelection/ElectionTiming", name := "tiebreaker", desc := "(I)D" } : Jvm.MethodName) prog_1_method_3_code (2 : Nat) (Option.some Jvm.ClassFile.FieldType.double), Jvm.Cond.code ({ cls := "com/example/group_leader_election/groupleaderelection/ElectionTiming", name := "requireMember", desc := "(II)V" } : Jvm.MethodName) prog_1_method_4_code (2 : Nat) (Option.none : Option Jvm.ClassFile.FieldType)]
set_option maxRecDepth 65536 in
theorem codes_eq : words1.filter isCode = codes1 := rfl
theorem w_codes : ∀ c ∈ words1.filter isCode, c.before args0 about1 = true := by
  rw [codes_eq]
  intro c hc
  simp only [codes1, List.mem_cons, List.not_mem_nil, or_false] at hc
  rcases hc with rfl | rfl | rfl | rfl | rfl | rfl | rfl
  · exact w_c0
  · exact w_c1
  · exact w_c2
  · exact w_c3
  · exact w_c4
  · exact w_c5
  · exact w_c6
set_option maxRecDepth 65536 in
theorem w_t1 : (words1.take 24).all (fun c => isCode c || c.before args0 about1) = true := by decide +kernel
set_option maxRecDepth 65536 in
theorem w_t2 : (words1.drop 24).all (fun c => isCode c || c.before args0 about1) = true := by decide +kernel
theorem w_tables : (allAtoms (Jvm.Cond.code x code maxLocals ret :: tables_1)).before args0 about1 = true := by
  rw [allAtoms_all]
  show words1.all (fun c => c.before args0 about1) = true
  refine all_split ?_ w_codes
  rw [← List.take_append_drop 24 words1, List.all_append, w_t1, w_t2]
  rfl
set_option maxRecDepth 65536 in
theorem w_case : (Jvm.Cond.and given_1 narrow_1).before args0 about1 = true := by decide +kernel
theorem w_applies : (headSpec (Jvm.Cond.code x code maxLocals ret :: tables_1) room_1).applies x e0.platform about1 = true :=
  (Spec.applies_iff w_frames).mpr ⟨w_running, w_runnable, w_alone, w_named, w_hears, w_ripe, w_room, w_tables⟩
theorem atStart : AtStart classFile x code maxLocals ret World_1 tables_1 room_1 Calls_1 rest_1 Pre_1 launch0 p0 e0 about1 theMethod args0 below0 :=
  ⟨lists_1, trivial, launch0.admits_env _ _ _, launch0.least_env, fairChoices_fair.cas, fairChoices_fair.clock, w_frames, w_args, w_heap, w_applies, trivial, trivial, w_case⟩
end start1
theorem witness_1 : WitnessClaimed_1 := ⟨start1.p0, start1.e0, start1.about1, start1.theMethod, start1.args0, start1.below0, start1.atStart⟩
end Jvm.Pilot.@@N@@
