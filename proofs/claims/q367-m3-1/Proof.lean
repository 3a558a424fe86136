import JvmDerived
import JvmDerived.Pilot.@@N@@Statement
import JvmDerived.Pilot.@@N@@Code
set_option linter.unusedVariables false
set_option linter.unusedSimpArgs false

namespace Jvm.RoadKit
open Sem ClassFile Op Lib Jvm.Stand Jvm.Free Jvm.LawKit
section New
variable {p : Program} {l : Launch} {e : Env} {R : Room} {s : State} {m : MethodId} {args : Array Value} {below : List Frame} {meth : Method} {c : Code} {T : State} {locs : List Loc} {cells slots : Nat}
theorem retI (X : Stand p l e R s m args below meth c T locs cells slots) (hx : p.tables.exec = Jvm.exec) {pc : Nat} {Ls : Array Slot} {z : Int32} {rest : List Value} (hret : meth.sig.returnType = some .int) (hd : decode c.code pc = .ok (.ireturn, 1)) {fs : List Frame}
    (hl : ∀ (f : JFrame) (acts : List Action), f.method = m → f.locked = none → f.entered = [] → (doReturn e (T.setTop f) acts (some (.int z))).1 = T.setFrames fs) : Steps p.tables e below (T.setTop (mkF m pc Ls (.int z :: rest))) (T.setFrames fs) := by
  have hm' : T.vm.method? m = some meth := X.method'
  have hn : narrow .int (.int z) = .int z := rfl
  show Steps p.tables e below (T.setTop { method := m, pc := pc, locals := Ls, stack := _ :: rest, locked := none }) _
  jvm_step X.here [X.here.top, hx, hd, hm', hret, hn]
  first | (intro acts; rw [hl _ acts rfl rfl rfl]) | rw [hl _ _ rfl rfl rfl]
  exact Steps.refl _
end New
end Jvm.RoadKit
namespace Jvm.Pilot.@@N@@
open Jvm Jvm.ClassFile Sem Op Lib Jvm.Free Jvm.Stand Jvm.LawKit Jvm.RoadKit Bundle Jvm.Pilot.@@N@@.Jvm.D
/-- from S0 the run comes to T with the frame g on top -/
abbrev Pth (p : Program) (e : Env) (below : List Frame) (S0 T : State) (g : JFrame) : Prop := ∀ t, Steps p.tables e below (T.setTop g) t → Steps p.tables e below S0 t
theorem ef_fdj (m : MethodId) (x0 : Int64) (x1 : Int64)  : entryFrame m #[(.long x0), (.long x1)] 6 = mkF m 0 #[.val (.long x0), .second, .val (.long x1), .second, .unset, .unset] [] := by first | (simp [entryFrame, mkF, argsToLocals, Value.category]; done) | rfl
theorem d_fdj_0 : decode jdk_29_method_49_code 0 = .ok (.lload_n 0, 1) := by decide +kernel
theorem d_fdj_1 : decode jdk_29_method_49_code 1 = .ok (.lload_n 2, 1) := by decide +kernel
theorem d_fdj_2 : decode jdk_29_method_49_code 2 = .ok (.ldiv, 1) := by decide +kernel
theorem d_fdj_3 : decode jdk_29_method_49_code 3 = .ok (.lstore 4, 2) := by decide +kernel
theorem d_fdj_5 : decode jdk_29_method_49_code 5 = .ok (.lload_n 0, 1) := by decide +kernel
theorem d_fdj_6 : decode jdk_29_method_49_code 6 = .ok (.lload_n 2, 1) := by decide +kernel
theorem d_fdj_7 : decode jdk_29_method_49_code 7 = .ok (.lxor, 1) := by decide +kernel
theorem d_fdj_8 : decode jdk_29_method_49_code 8 = .ok (.lconst 0, 1) := by decide +kernel
theorem d_fdj_9 : decode jdk_29_method_49_code 9 = .ok (.lcmp, 1) := by decide +kernel
theorem d_fdj_10 : decode jdk_29_method_49_code 10 = .ok (.ifCond .ge 17, 3) := by decide +kernel
theorem d_fdj_13 : decode jdk_29_method_49_code 13 = .ok (.lload 4, 2) := by decide +kernel
theorem d_fdj_15 : decode jdk_29_method_49_code 15 = .ok (.lload_n 2, 1) := by decide +kernel
theorem d_fdj_16 : decode jdk_29_method_49_code 16 = .ok (.lmul, 1) := by decide +kernel
theorem d_fdj_17 : decode jdk_29_method_49_code 17 = .ok (.lload_n 0, 1) := by decide +kernel
theorem d_fdj_18 : decode jdk_29_method_49_code 18 = .ok (.lcmp, 1) := by decide +kernel
theorem d_fdj_19 : decode jdk_29_method_49_code 19 = .ok (.ifCond .eq 8, 3) := by decide +kernel
theorem d_fdj_27 : decode jdk_29_method_49_code 27 = .ok (.lload 4, 2) := by decide +kernel
theorem d_fdj_29 : decode jdk_29_method_49_code 29 = .ok (.lreturn, 1) := by decide +kernel
theorem d_fdj_22 : decode jdk_29_method_49_code 22 = .ok (.lload 4, 2) := by decide +kernel
theorem d_fdj_24 : decode jdk_29_method_49_code 24 = .ok (.lconst 1, 1) := by decide +kernel
theorem d_fdj_25 : decode jdk_29_method_49_code 25 = .ok (.lsub, 1) := by decide +kernel
theorem d_fdj_26 : decode jdk_29_method_49_code 26 = .ok (.lreturn, 1) := by decide +kernel
theorem ef_fdi (m : MethodId) (x0 : Int64) (x1 : Int32)  : entryFrame m #[(.long x0), (.int x1)] 3 = mkF m 0 #[.val (.long x0), .second, .val (.int x1)] [] := by first | (simp [entryFrame, mkF, argsToLocals, Value.category]; done) | rfl
theorem d_fdi_0 : decode jdk_29_method_48_code 0 = .ok (.lload_n 0, 1) := by decide +kernel
theorem d_fdi_1 : decode jdk_29_method_48_code 1 = .ok (.iload_n 2, 1) := by decide +kernel
theorem d_fdi_2 : decode jdk_29_method_48_code 2 = .ok (.i2l, 1) := by decide +kernel
theorem d_fdi_3 : decode jdk_29_method_48_code 3 = .ok (.invokestatic 143, 3) := by decide +kernel
theorem pd__JJ_J : parseMethodDescriptor "(JJ)J" = some ⟨[.long, .long], some .long⟩ := by decide +kernel
theorem d_fdi_6 : decode jdk_29_method_48_code 6 = .ok (.lreturn, 1) := by decide +kernel
theorem ef_ta (m : MethodId) (x0 : Int64) (x1 : Int32) (x2 : Int32)  : entryFrame m #[(.long x0), (.int x1), (.int x2)] 6 = mkF m 0 #[.val (.long x0), .second, .val (.int x1), .val (.int x2), .unset, .unset] [] := by first | (simp [entryFrame, mkF, argsToLocals, Value.category]; done) | rfl
theorem pn_com_example_group_leader_election_groupleaderelection_Elector : plainName "com/example/group_leader_election/groupleaderelection/Elector" = true := by first | (simp [plainName, overriddenIn]; done) | decide +kernel
theorem d_ta_0 : decode prog_2_method_2_code 0 = .ok (.lload_n 0, 1) := by decide +kernel
theorem d_ta_1 : decode prog_2_method_2_code 1 = .ok (.lconst 1, 1) := by decide +kernel
theorem d_ta_2 : decode prog_2_method_2_code 2 = .ok (.lsub, 1) := by decide +kernel
theorem d_ta_3 : decode prog_2_method_2_code 3 = .ok (.iload_n 3, 1) := by decide +kernel
theorem d_ta_4 : decode prog_2_method_2_code 4 = .ok (.invokestatic 76, 3) := by decide +kernel
theorem pd__JI_J : parseMethodDescriptor "(JI)J" = some ⟨[.long, .int], some .long⟩ := by decide +kernel
theorem d_ta_7 : decode prog_2_method_2_code 7 = .ok (.lconst 1, 1) := by decide +kernel
theorem d_ta_8 : decode prog_2_method_2_code 8 = .ok (.ladd, 1) := by decide +kernel
theorem d_ta_9 : decode prog_2_method_2_code 9 = .ok (.lstore 4, 2) := by decide +kernel
theorem d_ta_11 : decode prog_2_method_2_code 11 = .ok (.lload 4, 2) := by decide +kernel
theorem d_ta_13 : decode prog_2_method_2_code 13 = .ok (.iload_n 3, 1) := by decide +kernel
theorem d_ta_14 : decode prog_2_method_2_code 14 = .ok (.i2l, 1) := by decide +kernel
theorem d_ta_15 : decode prog_2_method_2_code 15 = .ok (.lmul, 1) := by decide +kernel
theorem d_ta_16 : decode prog_2_method_2_code 16 = .ok (.iload_n 2, 1) := by decide +kernel
theorem d_ta_17 : decode prog_2_method_2_code 17 = .ok (.i2l, 1) := by decide +kernel
theorem d_ta_18 : decode prog_2_method_2_code 18 = .ok (.ladd, 1) := by decide +kernel
theorem d_ta_19 : decode prog_2_method_2_code 19 = .ok (.lreturn, 1) := by decide +kernel
theorem ef_law (m : MethodId) (x0 : Int64) (x1 : Int32) (x2 : Int32)  : entryFrame m #[(.long x0), (.int x1), (.int x2)] maxLocals = mkF m 0 #[.val (.long x0), .second, .val (.int x1), .val (.int x2), .unset, .unset, .unset, .unset, .unset, .unset, .unset, .unset, .unset, .unset] [] := by first | (simp [entryFrame, mkF, argsToLocals, Value.category, maxLocals]; done) | rfl
theorem pn_com_example_group_leader_election_groupleaderelection_ElectorTermAfterPinLaw : plainName "com/example/group_leader_election/groupleaderelection/ElectorTermAfterPinLaw" = true := by first | (simp [plainName, overriddenIn]; done) | decide +kernel
theorem pd__JII_J : parseMethodDescriptor "(JII)J" = some ⟨[.long, .int, .int], some .long⟩ := by decide +kernel
def own_fd (x y : Int64) : Int64 := if x ^^^ y < 0 then (if x / y * y = x then x / y else x / y - 1) else x / y
def own_ta (k : Int64) (l m : Int32) : Int64 := (own_fd (k - 1) m.toInt64 + 1) * m.toInt64 + l.toInt64
theorem own_nn32 (x : Int32) : 0 ≤ (x &&& (2147483647 : Int32)).toInt := by
  have h : ¬ (x &&& (2147483647 : Int32)) < 0 := fun q => absurd ((XT.and_neg32 _ _).mp q).2 (by decide)
  rw [Int32.lt_iff_toInt_lt] at h
  have z : (0 : Int32).toInt = 0 := rfl
  omega
theorem own_mem {n m : Int32} (h : m = (1 : Int32) + ((n &&& (2147483647 : Int32)) % (2147483647 : Int32))) : 1 ≤ m.toInt ∧ m.toInt ≤ 2147483647 := by
  have h0 := own_nn32 n
  have hM : (2147483647 : Int32).toInt = 2147483647 := rfl
  have h1 : (1 : Int32).toInt = 1 := rfl
  have hr : ((n &&& (2147483647 : Int32)) % (2147483647 : Int32)).toInt = (n &&& (2147483647 : Int32)).toInt % 2147483647 := by
    rw [Int32.toInt_mod, hM, Int.tmod_eq_emod_of_nonneg h0]
  have b1 := Int.emod_nonneg (n &&& (2147483647 : Int32)).toInt (b := 2147483647) (by decide)
  have b2 := Int.emod_lt_of_pos (n &&& (2147483647 : Int32)).toInt (b := 2147483647) (by decide)
  rw [h, XT.add32 (by rw [h1, hr]; constructor <;> omega), h1, hr]
  omega
theorem own_ldr {l m d : Int32} (bm : 1 ≤ m.toInt ∧ m.toInt ≤ 2147483647) (h : d = (1 : Int32) + ((l &&& (2147483647 : Int32)) % m)) : 1 ≤ d.toInt ∧ d.toInt ≤ m.toInt := by
  have h0 := own_nn32 l
  have h1 : (1 : Int32).toInt = 1 := rfl
  have hr : ((l &&& (2147483647 : Int32)) % m).toInt = (l &&& (2147483647 : Int32)).toInt % m.toInt := by
    rw [Int32.toInt_mod, Int.tmod_eq_emod_of_nonneg h0]
  have b1 := Int.emod_nonneg (l &&& (2147483647 : Int32)).toInt (b := m.toInt) (by omega)
  have b2 := Int.emod_lt_of_pos (l &&& (2147483647 : Int32)).toInt (b := m.toInt) (by omega)
  rw [h, XT.add32 (by rw [h1, hr]; constructor <;> omega), h1, hr]
  omega
theorem own_kn {k kn : Int64} (h : kn = k &&& (9223372036854775807 : Int64)) : 0 ≤ kn.toInt := by
  have h : ¬ kn < 0 := fun q => absurd ((XT.and_neg64 _ _).mp (h ▸ q)).2 (by decide)
  rw [Int64.lt_iff_toInt_lt] at h
  have z : (0 : Int64).toInt = 0 := rfl
  omega
theorem own_room {m : Int32} {kn : Int64} (bm : 1 ≤ m.toInt ∧ m.toInt ≤ 2147483647) (h : ¬ ((9223372036854775807 : Int64) - ((2 : Int64) * (m.toInt64))) < kn) : kn.toInt ≤ 9223372036854775807 - 2 * m.toInt := by
  have e1 : m.toInt64.toInt = m.toInt := Int32.toInt_toInt64 m
  have e2 : ((2 : Int64) * m.toInt64).toInt = 2 * m.toInt := by
    have z : (2 : Int64).toInt = 2 := rfl
    rw [XT.mul64 (by rw [z, e1]; constructor <;> omega), z, e1]
  have e3 : ((9223372036854775807 : Int64) - ((2 : Int64) * (m.toInt64))).toInt = 9223372036854775807 - 2 * m.toInt := by
    have z : (9223372036854775807 : Int64).toInt = 9223372036854775807 := rfl
    rw [XT.sub64 (by rw [z, e2]; constructor <;> omega), z, e2]
  rw [Int64.lt_iff_toInt_lt, e3] at h
  omega
theorem own_nz {m : Int32} (bm : 1 ≤ m.toInt ∧ m.toInt ≤ 2147483647) : ¬ m.toInt64 = 0 := fun q => by
  have e1 : m.toInt64.toInt = m.toInt := Int32.toInt_toInt64 m
  rw [q] at e1
  have z : (0 : Int64).toInt = 0 := rfl
  omega
theorem own_fd_int {x y : Int64} (hy : 0 < y.toInt) : (own_fd x y).toInt = x.toInt / y.toInt := by
  have x1 := x.toInt_lt
  have x2 := x.le_toInt
  have hab : x.toInt.tdiv y.toInt = x.toInt / y.toInt + (if 0 ≤ x.toInt ∨ y.toInt ∣ x.toInt then 0 else y.toInt.sign) := Int.tdiv_eq_ediv
  have hs : y.toInt.sign = 1 := Int.sign_eq_one_of_pos hy
  have hm1 := Int.ediv_mul_le x.toInt (b := y.toInt) (by omega)
  have hm2 := Int.lt_ediv_add_one_mul_self x.toInt hy
  have hq1 : - 2 ^ 63 ≤ x.toInt / y.toInt := by
    rcases (by omega : x.toInt < 0 ∨ 0 ≤ x.toInt) with h | h
    · have : x.toInt ≤ x.toInt / y.toInt := Int.le_ediv_of_mul_le hy (by
        have : x.toInt * y.toInt ≤ x.toInt * 1 := Int.mul_le_mul_of_nonpos_left (by omega) (by omega)
        omega)
      omega
    · have := Int.ediv_nonneg h (Int.le_of_lt hy); omega
  have hq2 : x.toInt / y.toInt < 2 ^ 63 := by
    rcases (by omega : x.toInt < 0 ∨ 0 ≤ x.toInt) with h | h
    · have := Int.ediv_neg_of_neg_of_pos h hy; omega
    · have := Int.ediv_le_self y.toInt h; omega
  have hn : (x ^^^ y < 0) ↔ x.toInt < 0 := by
    rw [XT.xor_neg64, XT.negI64, XT.negI64]
    constructor
    · intro h
      by_cases hx : x.toInt < 0
      · exact hx
      · exact absurd ⟨fun q => absurd q hx, fun q => absurd q (by omega)⟩ h
    · intro h hh
      exact absurd (hh.mp h) (by omega)
  have hd : (x / y).toInt = x.toInt.tdiv y.toInt := by
    rw [Int64.toInt_div, XT.bmod64]
    rw [hab, hs]
    by_cases h0 : 0 ≤ x.toInt ∨ y.toInt ∣ x.toInt
    · rw [if_pos h0]; constructor <;> omega
    · rw [if_neg h0]
      have : x.toInt / y.toInt < 0 := Int.ediv_neg_of_neg_of_pos (by omega) hy
      constructor <;> omega
  unfold own_fd
  by_cases hx : x.toInt < 0
  · rw [if_pos (hn.mpr hx)]
    by_cases hv : y.toInt ∣ x.toInt
    · have e1 : (x / y).toInt = x.toInt / y.toInt := by rw [hd, hab, if_pos (Or.inr hv)]; omega
      have e2 : x / y * y = x := by
        apply Int64.toInt_inj.mp
        rw [XT.mul64 (by rw [e1, Int.ediv_mul_cancel hv]; constructor <;> omega), e1, Int.ediv_mul_cancel hv]
      rw [if_pos e2, e1]
    · have e1 : (x / y).toInt = x.toInt / y.toInt + 1 := by rw [hd, hab, if_neg (by omega), hs]
      have e2 : ¬ x / y * y = x := fun q => hv ⟨(x / y).toInt, by
        have q' := congrArg Int64.toInt q
        have e3 : (x.toInt / y.toInt + 1) * y.toInt = x.toInt / y.toInt * y.toInt + y.toInt := by rw [Int.add_mul, Int.one_mul]
        have yl := y.toInt_lt
        rw [XT.mul64 (by rw [e1, e3]; constructor <;> omega)] at q'
        rw [Int.mul_comm]; exact q'.symm⟩
      have z : (1 : Int64).toInt = 1 := rfl
      rw [if_neg e2, XT.sub64 (by rw [e1, z]; constructor <;> omega), e1, z]
      omega
  · rw [if_neg (fun q => hx (hn.mp q)), hd, hab, if_pos (Or.inl (by omega))]
    omega
theorem own_all {m l : Int32} {kn : Int64} (bm : 1 ≤ m.toInt ∧ m.toInt ≤ 2147483647) (bl : 1 ≤ l.toInt ∧ l.toInt ≤ m.toInt) (bk : 0 ≤ kn.toInt) (b3 : kn.toInt ≤ 9223372036854775807 - 2 * m.toInt) :
    ∃ P : Int, (own_ta kn l m).toInt = P + l.toInt ∧ kn.toInt ≤ P ∧ P ≤ kn.toInt + m.toInt - 1 ∧ m.toInt ∣ P := by
  have e1 : m.toInt64.toInt = m.toInt := Int32.toInt_toInt64 m
  have e2 : l.toInt64.toInt = l.toInt := Int32.toInt_toInt64 l
  have z : (1 : Int64).toInt = 1 := rfl
  have e3 : (kn - 1).toInt = kn.toInt - 1 := by rw [XT.sub64 (by rw [z]; constructor <;> omega), z]
  have e4 : (own_fd (kn - 1) m.toInt64).toInt = (kn.toInt - 1) / m.toInt := by rw [own_fd_int (by rw [e1]; omega), e1, e3]
  have hm1 := Int.ediv_mul_le (kn.toInt - 1) (b := m.toInt) (by omega)
  have hm2 := Int.lt_ediv_add_one_mul_self (kn.toInt - 1) (b := m.toInt) (by omega)
  have e5 : ((kn.toInt - 1) / m.toInt + 1) * m.toInt = (kn.toInt - 1) / m.toInt * m.toInt + m.toInt := by rw [Int.add_mul, Int.one_mul]
  have q1 : -1 ≤ (kn.toInt - 1) / m.toInt := Int.le_ediv_of_mul_le (by omega) (by omega)
  have q2 : (kn.toInt - 1) / m.toInt < 2 ^ 63 - 1 := by
    rcases (by omega : kn.toInt - 1 < 0 ∨ 0 ≤ kn.toInt - 1) with h | h
    · have := Int.ediv_neg_of_neg_of_pos h (b := m.toInt) (by omega); omega
    · have := Int.ediv_le_self m.toInt h; omega
  have e6 : (own_fd (kn - 1) m.toInt64 + 1).toInt = (kn.toInt - 1) / m.toInt + 1 := by rw [XT.add64 (by rw [e4, z]; constructor <;> omega), e4, z]
  have e7 : ((own_fd (kn - 1) m.toInt64 + 1) * m.toInt64).toInt = ((kn.toInt - 1) / m.toInt + 1) * m.toInt := by rw [XT.mul64 (by rw [e6, e1, e5]; constructor <;> omega), e6, e1]
  refine ⟨((kn.toInt - 1) / m.toInt + 1) * m.toInt, ?_, by omega, by omega, ⟨_, Int.mul_comm _ _⟩⟩
  unfold own_ta
  rw [XT.add64 (by rw [e7, e2, e5]; constructor <;> omega), e7, e2]
theorem own_loE {m l : Int32} {kn : Int64} (bm : 1 ≤ m.toInt ∧ m.toInt ≤ 2147483647) (bl : 1 ≤ l.toInt ∧ l.toInt ≤ m.toInt) (bk : 0 ≤ kn.toInt) (b3 : kn.toInt ≤ 9223372036854775807 - 2 * m.toInt) : (kn + l.toInt64).toInt = kn.toInt + l.toInt := by
  have e2 : l.toInt64.toInt = l.toInt := Int32.toInt_toInt64 l
  rw [XT.add64 (by rw [e2]; constructor <;> omega), e2]
theorem own_lo {m l : Int32} {kn : Int64} (bm : 1 ≤ m.toInt ∧ m.toInt ≤ 2147483647) (bl : 1 ≤ l.toInt ∧ l.toInt ≤ m.toInt) (bk : 0 ≤ kn.toInt) (b3 : kn.toInt ≤ 9223372036854775807 - 2 * m.toInt) : ¬ own_ta kn l m < (kn + (l.toInt64)) := by
  obtain ⟨P, h1, h2, h3, h4⟩ := own_all bm bl bk b3
  rw [Int64.lt_iff_toInt_lt, own_loE bm bl bk b3, h1]; omega
theorem own_hi {m l : Int32} {kn : Int64} (bm : 1 ≤ m.toInt ∧ m.toInt ≤ 2147483647) (bl : 1 ≤ l.toInt ∧ l.toInt ≤ m.toInt) (bk : 0 ≤ kn.toInt) (b3 : kn.toInt ≤ 9223372036854775807 - 2 * m.toInt) : ¬ (((kn + (l.toInt64)) + (m.toInt64)) - (1 : Int64)) < own_ta kn l m := by
  obtain ⟨P, h1, h2, h3, h4⟩ := own_all bm bl bk b3
  have e1 : m.toInt64.toInt = m.toInt := Int32.toInt_toInt64 m
  have z : (1 : Int64).toInt = 1 := rfl
  have e2 := own_loE bm bl bk b3
  have e3 : ((kn + l.toInt64) + m.toInt64).toInt = kn.toInt + l.toInt + m.toInt := by rw [XT.add64 (by rw [e2, e1]; constructor <;> omega), e2, e1]
  rw [Int64.lt_iff_toInt_lt, XT.sub64 (by rw [e3, z]; constructor <;> omega), e3, z, h1]; omega
theorem own_rem {m l : Int32} {kn : Int64} (bm : 1 ≤ m.toInt ∧ m.toInt ≤ 2147483647) (bl : 1 ≤ l.toInt ∧ l.toInt ≤ m.toInt) (bk : 0 ≤ kn.toInt) (b3 : kn.toInt ≤ 9223372036854775807 - 2 * m.toInt) :
    (((own_ta kn l m) - (l.toInt64)) - (((own_ta kn l m) - (l.toInt64)) / (m.toInt64)) * (m.toInt64)) = (0 : Int64) := by
  obtain ⟨P, h1, h2, h3, c, h4⟩ := own_all bm bl bk b3
  have e1 : m.toInt64.toInt = m.toInt := Int32.toInt_toInt64 m
  have e2 : l.toInt64.toInt = l.toInt := Int32.toInt_toInt64 l
  have eX : (own_ta kn l m - l.toInt64).toInt = P := by rw [XT.sub64 (by rw [h1, e2]; constructor <;> omega), h1, e2]; omega
  have hm : m.toInt ≠ 0 := by omega
  have eD : P.tdiv m.toInt = c := by rw [h4]; exact Int.mul_tdiv_cancel_left c hm
  have c0 : 0 ≤ c := by
    rcases (by omega : c < 0 ∨ 0 ≤ c) with q | q
    · have := Int.mul_neg_of_pos_of_neg (a := m.toInt) (b := c) (by omega) q
      omega
    · exact q
  have c1 : c ≤ P := by
    have : 1 * c ≤ m.toInt * c := Int.mul_le_mul_of_nonneg_right (by omega) c0
    omega
  have eQ : ((own_ta kn l m - l.toInt64) / m.toInt64).toInt = c := by
    rw [Int64.toInt_div, eX, e1, eD, XT.bmod64 (by constructor <;> omega)]
  have eM : ((own_ta kn l m - l.toInt64) / m.toInt64 * m.toInt64).toInt = P := by
    have q : c * m.toInt = P := by rw [h4, Int.mul_comm]
    rw [XT.mul64 (by rw [eQ, e1, q]; constructor <;> omega), eQ, e1, q]
  have z : (0 : Int64).toInt = 0 := rfl
  apply Int64.toInt_inj.mp
  rw [XT.sub64 (by rw [eX, eM]; constructor <;> omega), eX, eM, z]; omega

def Q_fdj (Z : State) (x1 : Int64) (y1 : Int64) (h0 : Heap) (n0 : Nat) (v : Option Value) (h : Heap) (L : List Loc) : Prop := v = some (.long (own_fd x1 y1)) ∧ Fr n0 L ∧ h = h0
set_option maxRecDepth 65536 in
set_option maxHeartbeats 40000000 in
theorem rm_fdj (l : Launch) (Z : State) (a0 : Array Value) (hw : ∀ d ∈ tables_1, d.before a0 Z = true) (ws : List Jvm.Cond) (x1 : Int64) (y1 : Int64) (h0 : Heap) (n0 : Nat) (Z0 : n0 ≤ h0.size) (hy : ¬ y1 = 0) :
    MetFree l (⟨"java/lang/Math", "floorDiv", "(JJ)J"⟩ : MethodName) (head1 (Jvm.Cond.code (⟨"java/lang/Math", "floorDiv", "(JJ)J"⟩ : MethodName) jdk_29_method_49_code 6 (some .long) :: ws) ({ frames := 0, cells := 0, slots := 0, locals := 0 } : Room)) (fun a U => a = #[(.long x1), (.long y1)] ∧ Z.Warmed39 U.vm ∧ U.heap = h0) (fun _ _ _ _ _ => True) (fun _ U o U' => ∃ v L, o = .returned v ∧ Q_fdj Z x1 y1 h0 n0 v U'.heap L ∧ FrameEnd U o U' L ({ frames := 0, cells := 0, slots := 0, locals := 0 } : Room).cells ({ frames := 0, cells := 0, slots := 0, locals := 0 } : Room).slots) := by
  refine MetFree.of_bodySF (Jvm.Free.JP.mathPlain rfl (by decide +kernel)) hisR ?_
  intro p e s m args below meth c s₁ Bd hml0 hP hK
  obtain ⟨rfl, hZ, hh⟩ := hP
  have hx := Bd.exec
  have hby := Bd.bytes
  have hml : c.maxLocals = 6 := hml0
  have hown : s.vm.findClass "java/lang/Math" = some m.cls := findClass_of_methodNamed Bd.named
  have hnm := (name_of_methodNamed Bd.named Bd.method).1
  have X0 : Stand p l e ({ frames := 0, cells := 0, slots := 0, locals := 0 } : Room) s m #[(.long x1), (.long y1)] below meth c s₁ [] 0 0 := Stand.of_body Bd
  have e0 : s₁.heap = h0 := by rw [← hh, Bd.state]; rfl
  have N0 := Fr.nil n0
  obtain ⟨S0, hS0⟩ : ∃ S0, S0 = s₁.setTop (entryFrame m #[(.long x1), (.long y1)] 6) := ⟨_, rfl⟩
  have pre : Pth p e below S0 s₁ (mkF m 0 #[.val (.long x1), .second, .val (.long y1), .second, .unset, .unset] []) := fun t k => by rw [hS0]; exact castTop (ef_fdj m x1 y1) k
  replace pre : Pth p e below S0 s₁ (mkF m 10 #[.val (.long x1), .second, .val (.long y1), .second, .val (.long (x1 / y1)), .second] [(.int (XT.cmpL (x1 ^^^ y1) (0 : Int64)))]) := fun t k => pre t (by
    show Steps p.tables e below (s₁.setTop (mkF m 0 #[.val (.long x1), .second, .val (.long y1), .second, .unset, .unset] [])) t
    refine XS.lloadN X0.here hx rfl (hb hby d_fdj_0) rfl ?_
    show Steps p.tables e below (s₁.setTop (mkF m 1 #[.val (.long x1), .second, .val (.long y1), .second, .unset, .unset] [(.long x1)])) t
    refine XS.lloadN X0.here hx rfl (hb hby d_fdj_1) rfl ?_
    show Steps p.tables e below (s₁.setTop (mkF m 2 #[.val (.long x1), .second, .val (.long y1), .second, .unset, .unset] [(.long y1), (.long x1)])) t
    refine XS.ldiv X0.here hx rfl (hb hby d_fdj_2) rfl hy ?_
    show Steps p.tables e below (s₁.setTop (mkF m 3 #[.val (.long x1), .second, .val (.long y1), .second, .unset, .unset] [(.long (x1 / y1))])) t
    refine XS.lstore X0.here hx rfl (hb hby d_fdj_3) rfl (l' := #[.val (.long x1), .second, .val (.long y1), .second, .val (.long (x1 / y1)), .second]) rfl ?_
    show Steps p.tables e below (s₁.setTop (mkF m 5 #[.val (.long x1), .second, .val (.long y1), .second, .val (.long (x1 / y1)), .second] [])) t
    refine XS.lloadN X0.here hx rfl (hb hby d_fdj_5) rfl ?_
    show Steps p.tables e below (s₁.setTop (mkF m 6 #[.val (.long x1), .second, .val (.long y1), .second, .val (.long (x1 / y1)), .second] [(.long x1)])) t
    refine XS.lloadN X0.here hx rfl (hb hby d_fdj_6) rfl ?_
    show Steps p.tables e below (s₁.setTop (mkF m 7 #[.val (.long x1), .second, .val (.long y1), .second, .val (.long (x1 / y1)), .second] [(.long y1), (.long x1)])) t
    refine XS.lxor X0.here hx rfl (hb hby d_fdj_7) rfl ?_
    show Steps p.tables e below (s₁.setTop (mkF m 8 #[.val (.long x1), .second, .val (.long y1), .second, .val (.long (x1 / y1)), .second] [(.long (x1 ^^^ y1))])) t
    refine XS.lconst X0.here hx rfl (hb hby d_fdj_8) ?_
    show Steps p.tables e below (s₁.setTop (mkF m 9 #[.val (.long x1), .second, .val (.long y1), .second, .val (.long (x1 / y1)), .second] [(.long (0 : Int64)), (.long (x1 ^^^ y1))])) t
    refine XT.lcmp X0.here hx rfl (hb hby d_fdj_9) rfl ?_
    show Steps p.tables e below (s₁.setTop (mkF m 10 #[.val (.long x1), .second, .val (.long y1), .second, .val (.long (x1 / y1)), .second] [(.int (XT.cmpL (x1 ^^^ y1) (0 : Int64)))])) t
    exact k)
  by_cases h1 : (x1 ^^^ y1) < (0 : Int64)
  · replace pre : Pth p e below S0 s₁ (mkF m 19 #[.val (.long x1), .second, .val (.long y1), .second, .val (.long (x1 / y1)), .second] [(.int (XT.cmpL ((x1 / y1) * y1) x1))]) := fun t k => pre t (by
      show Steps p.tables e below (s₁.setTop (mkF m 10 #[.val (.long x1), .second, .val (.long y1), .second, .val (.long (x1 / y1)), .second] [(.int (XT.cmpL (x1 ^^^ y1) (0 : Int64)))])) t
      refine XS.ifNo X0.here hx rfl (hb hby d_fdj_10) rfl (XT.ll_ge_f h1) ?_
      show Steps p.tables e below (s₁.setTop (mkF m 13 #[.val (.long x1), .second, .val (.long y1), .second, .val (.long (x1 / y1)), .second] [])) t
      refine XS.lload X0.here hx rfl (hb hby d_fdj_13) rfl ?_
      show Steps p.tables e below (s₁.setTop (mkF m 15 #[.val (.long x1), .second, .val (.long y1), .second, .val (.long (x1 / y1)), .second] [(.long (x1 / y1))])) t
      refine XS.lloadN X0.here hx rfl (hb hby d_fdj_15) rfl ?_
      show Steps p.tables e below (s₁.setTop (mkF m 16 #[.val (.long x1), .second, .val (.long y1), .second, .val (.long (x1 / y1)), .second] [(.long y1), (.long (x1 / y1))])) t
      refine XS.lmul X0.here hx rfl (hb hby d_fdj_16) rfl ?_
      show Steps p.tables e below (s₁.setTop (mkF m 17 #[.val (.long x1), .second, .val (.long y1), .second, .val (.long (x1 / y1)), .second] [(.long ((x1 / y1) * y1))])) t
      refine XS.lloadN X0.here hx rfl (hb hby d_fdj_17) rfl ?_
      show Steps p.tables e below (s₁.setTop (mkF m 18 #[.val (.long x1), .second, .val (.long y1), .second, .val (.long (x1 / y1)), .second] [(.long x1), (.long ((x1 / y1) * y1))])) t
      refine XT.lcmp X0.here hx rfl (hb hby d_fdj_18) rfl ?_
      show Steps p.tables e below (s₁.setTop (mkF m 19 #[.val (.long x1), .second, .val (.long y1), .second, .val (.long (x1 / y1)), .second] [(.int (XT.cmpL ((x1 / y1) * y1) x1))])) t
      exact k)
    by_cases h2 : ((x1 / y1) * y1) = x1
    · replace pre : Pth p e below S0 s₁ (mkF m 29 #[.val (.long x1), .second, .val (.long y1), .second, .val (.long (x1 / y1)), .second] [(.long (x1 / y1))]) := fun t k => pre t (by
        show Steps p.tables e below (s₁.setTop (mkF m 19 #[.val (.long x1), .second, .val (.long y1), .second, .val (.long (x1 / y1)), .second] [(.int (XT.cmpL ((x1 / y1) * y1) x1))])) t
        refine XS.ifYes X0.here hx rfl (pc0 := 19) (pc' := 27) rfl (hb hby d_fdj_19) rfl (XT.ll_eq_t h2) (by decide) (by decide) ?_
        show Steps p.tables e below (s₁.setTop (mkF m 27 #[.val (.long x1), .second, .val (.long y1), .second, .val (.long (x1 / y1)), .second] [])) t
        refine XS.lload X0.here hx rfl (hb hby d_fdj_27) rfl ?_
        show Steps p.tables e below (s₁.setTop (mkF m 29 #[.val (.long x1), .second, .val (.long y1), .second, .val (.long (x1 / y1)), .second] [(.long (x1 / y1))])) t
        exact k)
      obtain ⟨fs, hr, hrun, hended, hW, hsame⟩ := X0.leave (v := some (.long (x1 / y1))) (fun h => by rw [Bd.returns] at h; cases h)
      subst hS0
      refine ⟨_, _, pre _ ?_, hrun, hended, _, _, rfl, ?_, ⟨_, rfl⟩, hW, hsame.mono (by decide) (by decide)⟩
      · exact retOut X0 hx (t := .long) Bd.returns rfl (by simp [Value.isRef, FieldType.isReference]) (hb hby d_fdj_29) hr
      · show Q_fdj Z x1 y1 h0 n0 _ s₁.heap _
        rw [e0]
        exact ⟨by simp [own_fd, h1, h2], N0, rfl⟩
    · replace pre : Pth p e below S0 s₁ (mkF m 26 #[.val (.long x1), .second, .val (.long y1), .second, .val (.long (x1 / y1)), .second] [(.long ((x1 / y1) - (1 : Int64)))]) := fun t k => pre t (by
        show Steps p.tables e below (s₁.setTop (mkF m 19 #[.val (.long x1), .second, .val (.long y1), .second, .val (.long (x1 / y1)), .second] [(.int (XT.cmpL ((x1 / y1) * y1) x1))])) t
        refine XS.ifNo X0.here hx rfl (hb hby d_fdj_19) rfl (XT.ll_eq_f h2) ?_
        show Steps p.tables e below (s₁.setTop (mkF m 22 #[.val (.long x1), .second, .val (.long y1), .second, .val (.long (x1 / y1)), .second] [])) t
        refine XS.lload X0.here hx rfl (hb hby d_fdj_22) rfl ?_
        show Steps p.tables e below (s₁.setTop (mkF m 24 #[.val (.long x1), .second, .val (.long y1), .second, .val (.long (x1 / y1)), .second] [(.long (x1 / y1))])) t
        refine XS.lconst X0.here hx rfl (hb hby d_fdj_24) ?_
        show Steps p.tables e below (s₁.setTop (mkF m 25 #[.val (.long x1), .second, .val (.long y1), .second, .val (.long (x1 / y1)), .second] [(.long (1 : Int64)), (.long (x1 / y1))])) t
        refine XS.lsub X0.here hx rfl (hb hby d_fdj_25) rfl ?_
        show Steps p.tables e below (s₁.setTop (mkF m 26 #[.val (.long x1), .second, .val (.long y1), .second, .val (.long (x1 / y1)), .second] [(.long ((x1 / y1) - (1 : Int64)))])) t
        exact k)
      obtain ⟨fs, hr, hrun, hended, hW, hsame⟩ := X0.leave (v := some (.long ((x1 / y1) - (1 : Int64)))) (fun h => by rw [Bd.returns] at h; cases h)
      subst hS0
      refine ⟨_, _, pre _ ?_, hrun, hended, _, _, rfl, ?_, ⟨_, rfl⟩, hW, hsame.mono (by decide) (by decide)⟩
      · exact retOut X0 hx (t := .long) Bd.returns rfl (by simp [Value.isRef, FieldType.isReference]) (hb hby d_fdj_26) hr
      · show Q_fdj Z x1 y1 h0 n0 _ s₁.heap _
        rw [e0]
        exact ⟨by simp [own_fd, h1, h2], N0, rfl⟩
  · replace pre : Pth p e below S0 s₁ (mkF m 29 #[.val (.long x1), .second, .val (.long y1), .second, .val (.long (x1 / y1)), .second] [(.long (x1 / y1))]) := fun t k => pre t (by
      show Steps p.tables e below (s₁.setTop (mkF m 10 #[.val (.long x1), .second, .val (.long y1), .second, .val (.long (x1 / y1)), .second] [(.int (XT.cmpL (x1 ^^^ y1) (0 : Int64)))])) t
      refine XS.ifYes X0.here hx rfl (pc0 := 10) (pc' := 27) rfl (hb hby d_fdj_10) rfl (XT.ll_ge_t h1) (by decide) (by decide) ?_
      show Steps p.tables e below (s₁.setTop (mkF m 27 #[.val (.long x1), .second, .val (.long y1), .second, .val (.long (x1 / y1)), .second] [])) t
      refine XS.lload X0.here hx rfl (hb hby d_fdj_27) rfl ?_
      show Steps p.tables e below (s₁.setTop (mkF m 29 #[.val (.long x1), .second, .val (.long y1), .second, .val (.long (x1 / y1)), .second] [(.long (x1 / y1))])) t
      exact k)
    obtain ⟨fs, hr, hrun, hended, hW, hsame⟩ := X0.leave (v := some (.long (x1 / y1))) (fun h => by rw [Bd.returns] at h; cases h)
    subst hS0
    refine ⟨_, _, pre _ ?_, hrun, hended, _, _, rfl, ?_, ⟨_, rfl⟩, hW, hsame.mono (by decide) (by decide)⟩
    · exact retOut X0 hx (t := .long) Bd.returns rfl (by simp [Value.isRef, FieldType.isReference]) (hb hby d_fdj_29) hr
    · show Q_fdj Z x1 y1 h0 n0 _ s₁.heap _
      rw [e0]
      exact ⟨by simp [own_fd, h1], N0, rfl⟩
def Q_fdi (Z : State) (x1 : Int64) (y1 : Int32) (h0 : Heap) (n0 : Nat) (v : Option Value) (h : Heap) (L : List Loc) : Prop := v = some (.long (own_fd x1 y1.toInt64)) ∧ Fr n0 L ∧ h = h0
set_option maxRecDepth 65536 in
set_option maxHeartbeats 40000000 in
theorem rm_fdi (l : Launch) (Z : State) (a0 : Array Value) (hw : ∀ d ∈ tables_1, d.before a0 Z = true) (ws : List Jvm.Cond) (x1 : Int64) (y1 : Int32) (h0 : Heap) (n0 : Nat) (Z0 : n0 ≤ h0.size) (hy : ¬ y1.toInt64 = 0) :
    MetFree l (⟨"java/lang/Math", "floorDiv", "(JI)J"⟩ : MethodName) (head1 (Jvm.Cond.code (⟨"java/lang/Math", "floorDiv", "(JI)J"⟩ : MethodName) jdk_29_method_48_code 3 (some .long) :: ws) ({ frames := 1, cells := 0, slots := 0, locals := 17 } : Room)) (fun a U => a = #[(.long x1), (.int y1)] ∧ Z.Warmed39 U.vm ∧ U.heap = h0) (fun _ _ _ _ _ => True) (fun _ U o U' => ∃ v L, o = .returned v ∧ Q_fdi Z x1 y1 h0 n0 v U'.heap L ∧ FrameEnd U o U' L ({ frames := 1, cells := 0, slots := 0, locals := 17 } : Room).cells ({ frames := 1, cells := 0, slots := 0, locals := 17 } : Room).slots) := by
  refine MetFree.of_bodySF (Jvm.Free.JP.mathPlain rfl (by decide +kernel)) hisR ?_
  intro p e s m args below meth c s₁ Bd hml0 hP hK
  obtain ⟨rfl, hZ, hh⟩ := hP
  have hx := Bd.exec
  have hby := Bd.bytes
  have hml : c.maxLocals = 3 := hml0
  have hown : s.vm.findClass "java/lang/Math" = some m.cls := findClass_of_methodNamed Bd.named
  have hnm := (name_of_methodNamed Bd.named Bd.method).1
  have X0 : Stand p l e ({ frames := 1, cells := 0, slots := 0, locals := 17 } : Room) s m #[(.long x1), (.int y1)] below meth c s₁ [] 0 0 := Stand.of_body Bd
  have e0 : s₁.heap = h0 := by rw [← hh, Bd.state]; rfl
  have N0 := Fr.nil n0
  obtain ⟨S0, hS0⟩ : ∃ S0, S0 = s₁.setTop (entryFrame m #[(.long x1), (.int y1)] 3) := ⟨_, rfl⟩
  have pre : Pth p e below S0 s₁ (mkF m 0 #[.val (.long x1), .second, .val (.int y1)] []) := fun t k => by rw [hS0]; exact castTop (ef_fdi m x1 y1) k
  replace pre : Pth p e below S0 s₁ (mkF m 3 #[.val (.long x1), .second, .val (.int y1)] [(.long (y1.toInt64)), (.long x1)]) := fun t k => pre t (by
    show Steps p.tables e below (s₁.setTop (mkF m 0 #[.val (.long x1), .second, .val (.int y1)] [])) t
    refine XS.lloadN X0.here hx rfl (hb hby d_fdi_0) rfl ?_
    show Steps p.tables e below (s₁.setTop (mkF m 1 #[.val (.long x1), .second, .val (.int y1)] [(.long x1)])) t
    refine XS.iloadN X0.here hx rfl (hb hby d_fdi_1) rfl ?_
    show Steps p.tables e below (s₁.setTop (mkF m 2 #[.val (.long x1), .second, .val (.int y1)] [(.int y1), (.long x1)])) t
    refine XS.i2l X0.here hx rfl (hb hby d_fdi_2) rfl ?_
    show Steps p.tables e below (s₁.setTop (mkF m 3 #[.val (.long x1), .second, .val (.int y1)] [(.long (y1.toInt64)), (.long x1)])) t
    exact k)
  obtain ⟨_, _, ⟨T1, L1, k1, n1⟩, -, X1, ⟨Lc1, hQ1, l1, y1, z1⟩, st1⟩ := Jvm.LawKit.callS X0 hx (y := (⟨"java/lang/Math", "floorDiv", "(JJ)J"⟩ : MethodName)) hown (mvT hZ (hw _ (List.mem_of_getElem? (i := 11) rfl))) (mvT hZ (hw _ (List.mem_of_getElem? (i := 12) rfl))) (mvT hZ (hw _ (List.mem_of_getElem? (i := 9) rfl))) (mvT hZ (hw _ (List.mem_of_getElem? (i := 13) rfl))) (by decide) (backOf (W := 0) (rm_fdj l Z a0 hw [] x1 y1.toInt64 h0 n0 Z0 hy) hZ (hw _ (List.mem_of_getElem? (i := 13) rfl)) (hw _ (List.mem_of_getElem? (i := 9) rfl)) (by decide) (by decide)) (g := (mkF m 3 #[.val (.long x1), .second, .val (.int y1)] [(.long (y1.toInt64)), (.long x1)])) rfl (by rw [hml]; rfl) (argsL := [(.long x1), (.long (y1.toInt64))]) (rest := []) (lenOf pd__JJ_J rfl) rfl (by show 2 * 0 + _ ≤ _; exact Nat.le_of_eq rfl) (hb hby d_fdi_3) (fun _ _ => ⟨rfl, e0, (by decide : 0 + 0 ≤ _), (by decide : 0 + 0 ≤ _)⟩)
  dsimp only [Pt.U, Pt.locs, Pt.cells, Pt.slots] at X1 l1 y1 z1 st1 hQ1
  subst l1 y1 z1
  obtain ⟨rfl, N1q, e1⟩ := hQ1
  have N1 := Fr.app N0 N1q
  replace pre : Pth p e below S0 T1 (mkF m 6 #[.val (.long x1), .second, .val (.int y1)] [(.long (own_fd x1 y1.toInt64))]) := fun t k => pre t (st1 _ k)
  obtain ⟨fs, hr, hrun, hended, hW, hsame⟩ := X1.leave (v := some (.long (own_fd x1 y1.toInt64))) (fun h => by rw [Bd.returns] at h; cases h)
  subst hS0
  refine ⟨_, _, pre _ ?_, hrun, hended, _, _, rfl, ?_, ⟨_, rfl⟩, hW, hsame.mono (by decide) (by decide)⟩
  · exact retOut X1 hx (t := .long) Bd.returns rfl (by simp [Value.isRef, FieldType.isReference]) (hb hby d_fdi_6) hr
  · show Q_fdi Z x1 y1 h0 n0 _ T1.heap _
    rw [e1]
    exact ⟨rfl, N1, rfl⟩
def Q_ta (Z : State) (k1 : Int64) (l1 : Int32) (m1 : Int32) (h0 : Heap) (n0 : Nat) (v : Option Value) (h : Heap) (L : List Loc) : Prop := v = some (.long (own_ta k1 l1 m1)) ∧ Fr n0 L ∧ h = h0
set_option maxRecDepth 65536 in
set_option maxHeartbeats 40000000 in
theorem rm_ta (l : Launch) (Z : State) (a0 : Array Value) (hw : ∀ d ∈ tables_1, d.before a0 Z = true) (ws : List Jvm.Cond) (k1 : Int64) (l1 : Int32) (m1 : Int32) (h0 : Heap) (n0 : Nat) (Z0 : n0 ≤ h0.size) (hy : ¬ m1.toInt64 = 0) :
    MetFree l (⟨"com/example/group_leader_election/groupleaderelection/Elector", "termAfter", "(JII)J"⟩ : MethodName) (head1 (Jvm.Cond.code (⟨"com/example/group_leader_election/groupleaderelection/Elector", "termAfter", "(JII)J"⟩ : MethodName) prog_2_method_2_code 6 (some .long) :: ws) ({ frames := 2, cells := 0, slots := 0, locals := 31 } : Room)) (fun a U => a = #[(.long k1), (.int l1), (.int m1)] ∧ Z.Warmed39 U.vm ∧ U.heap = h0) (fun _ _ _ _ _ => True) (fun _ U o U' => ∃ v L, o = .returned v ∧ Q_ta Z k1 l1 m1 h0 n0 v U'.heap L ∧ FrameEnd U o U' L ({ frames := 2, cells := 0, slots := 0, locals := 31 } : Room).cells ({ frames := 2, cells := 0, slots := 0, locals := 31 } : Room).slots) := by
  refine MetFree.of_bodySF (plainFor_of_name pn_com_example_group_leader_election_groupleaderelection_Elector) hisR ?_
  intro p e s m args below meth c s₁ Bd hml0 hP hK
  obtain ⟨rfl, hZ, hh⟩ := hP
  have hx := Bd.exec
  have hby := Bd.bytes
  have hml : c.maxLocals = 6 := hml0
  have hown : s.vm.findClass "com/example/group_leader_election/groupleaderelection/Elector" = some m.cls := findClass_of_methodNamed Bd.named
  have hnm := (name_of_methodNamed Bd.named Bd.method).1
  have X0 : Stand p l e ({ frames := 2, cells := 0, slots := 0, locals := 31 } : Room) s m #[(.long k1), (.int l1), (.int m1)] below meth c s₁ [] 0 0 := Stand.of_body Bd
  have e0 : s₁.heap = h0 := by rw [← hh, Bd.state]; rfl
  have N0 := Fr.nil n0
  obtain ⟨S0, hS0⟩ : ∃ S0, S0 = s₁.setTop (entryFrame m #[(.long k1), (.int l1), (.int m1)] 6) := ⟨_, rfl⟩
  have pre : Pth p e below S0 s₁ (mkF m 0 #[.val (.long k1), .second, .val (.int l1), .val (.int m1), .unset, .unset] []) := fun t k => by rw [hS0]; exact castTop (ef_ta m k1 l1 m1) k
  replace pre : Pth p e below S0 s₁ (mkF m 4 #[.val (.long k1), .second, .val (.int l1), .val (.int m1), .unset, .unset] [(.int m1), (.long (k1 - (1 : Int64)))]) := fun t k => pre t (by
    show Steps p.tables e below (s₁.setTop (mkF m 0 #[.val (.long k1), .second, .val (.int l1), .val (.int m1), .unset, .unset] [])) t
    refine XS.lloadN X0.here hx rfl (hb hby d_ta_0) rfl ?_
    show Steps p.tables e below (s₁.setTop (mkF m 1 #[.val (.long k1), .second, .val (.int l1), .val (.int m1), .unset, .unset] [(.long k1)])) t
    refine XS.lconst X0.here hx rfl (hb hby d_ta_1) ?_
    show Steps p.tables e below (s₁.setTop (mkF m 2 #[.val (.long k1), .second, .val (.int l1), .val (.int m1), .unset, .unset] [(.long (1 : Int64)), (.long k1)])) t
    refine XS.lsub X0.here hx rfl (hb hby d_ta_2) rfl ?_
    show Steps p.tables e below (s₁.setTop (mkF m 3 #[.val (.long k1), .second, .val (.int l1), .val (.int m1), .unset, .unset] [(.long (k1 - (1 : Int64)))])) t
    refine XS.iloadN X0.here hx rfl (hb hby d_ta_3) rfl ?_
    show Steps p.tables e below (s₁.setTop (mkF m 4 #[.val (.long k1), .second, .val (.int l1), .val (.int m1), .unset, .unset] [(.int m1), (.long (k1 - (1 : Int64)))])) t
    exact k)
  obtain ⟨_, _, ⟨T2, L2, k2, n2⟩, -, X2, ⟨Lc2, hQ2, l2, y2, z2⟩, st2⟩ := Jvm.LawKit.callS X0 hx (y := (⟨"java/lang/Math", "floorDiv", "(JI)J"⟩ : MethodName)) hown (mvT hZ (hw _ (List.mem_of_getElem? (i := 7) rfl))) (mvT hZ (hw _ (List.mem_of_getElem? (i := 8) rfl))) (mvT hZ (hw _ (List.mem_of_getElem? (i := 9) rfl))) (mvT hZ (hw _ (List.mem_of_getElem? (i := 10) rfl))) (by decide) (backOf (W := 0) (rm_fdi l Z a0 hw [] (k1 - (1 : Int64)) m1 h0 n0 Z0 hy) hZ (hw _ (List.mem_of_getElem? (i := 10) rfl)) (hw _ (List.mem_of_getElem? (i := 9) rfl)) (by decide) (by decide)) (g := (mkF m 4 #[.val (.long k1), .second, .val (.int l1), .val (.int m1), .unset, .unset] [(.int m1), (.long (k1 - (1 : Int64)))])) rfl (by rw [hml]; rfl) (argsL := [(.long (k1 - (1 : Int64))), (.int m1)]) (rest := []) (lenOf pd__JI_J rfl) rfl (by show 2 * 0 + _ ≤ _; exact Nat.le_of_eq rfl) (hb hby d_ta_4) (fun _ _ => ⟨rfl, e0, (by decide : 0 + 0 ≤ _), (by decide : 0 + 0 ≤ _)⟩)
  dsimp only [Pt.U, Pt.locs, Pt.cells, Pt.slots] at X2 l2 y2 z2 st2 hQ2
  subst l2 y2 z2
  obtain ⟨rfl, N2q, e2⟩ := hQ2
  have N2 := Fr.app N0 N2q
  replace pre : Pth p e below S0 T2 (mkF m 7 #[.val (.long k1), .second, .val (.int l1), .val (.int m1), .unset, .unset] [(.long (own_fd (k1 - (1 : Int64)) m1.toInt64))]) := fun t k => pre t (st2 _ k)
  replace pre : Pth p e below S0 T2 (mkF m 19 #[.val (.long k1), .second, .val (.int l1), .val (.int m1), .val (.long ((own_fd (k1 - (1 : Int64)) m1.toInt64) + (1 : Int64))), .second] [(.long ((((own_fd (k1 - (1 : Int64)) m1.toInt64) + (1 : Int64)) * (m1.toInt64)) + (l1.toInt64)))]) := fun t k => pre t (by
    show Steps p.tables e below (T2.setTop (mkF m 7 #[.val (.long k1), .second, .val (.int l1), .val (.int m1), .unset, .unset] [(.long (own_fd (k1 - (1 : Int64)) m1.toInt64))])) t
    refine XS.lconst X2.here hx rfl (hb hby d_ta_7) ?_
    show Steps p.tables e below (T2.setTop (mkF m 8 #[.val (.long k1), .second, .val (.int l1), .val (.int m1), .unset, .unset] [(.long (1 : Int64)), (.long (own_fd (k1 - (1 : Int64)) m1.toInt64))])) t
    refine XS.ladd X2.here hx rfl (hb hby d_ta_8) rfl ?_
    show Steps p.tables e below (T2.setTop (mkF m 9 #[.val (.long k1), .second, .val (.int l1), .val (.int m1), .unset, .unset] [(.long ((own_fd (k1 - (1 : Int64)) m1.toInt64) + (1 : Int64)))])) t
    refine XS.lstore X2.here hx rfl (hb hby d_ta_9) rfl (l' := #[.val (.long k1), .second, .val (.int l1), .val (.int m1), .val (.long ((own_fd (k1 - (1 : Int64)) m1.toInt64) + (1 : Int64))), .second]) rfl ?_
    show Steps p.tables e below (T2.setTop (mkF m 11 #[.val (.long k1), .second, .val (.int l1), .val (.int m1), .val (.long ((own_fd (k1 - (1 : Int64)) m1.toInt64) + (1 : Int64))), .second] [])) t
    refine XS.lload X2.here hx rfl (hb hby d_ta_11) rfl ?_
    show Steps p.tables e below (T2.setTop (mkF m 13 #[.val (.long k1), .second, .val (.int l1), .val (.int m1), .val (.long ((own_fd (k1 - (1 : Int64)) m1.toInt64) + (1 : Int64))), .second] [(.long ((own_fd (k1 - (1 : Int64)) m1.toInt64) + (1 : Int64)))])) t
    refine XS.iloadN X2.here hx rfl (hb hby d_ta_13) rfl ?_
    show Steps p.tables e below (T2.setTop (mkF m 14 #[.val (.long k1), .second, .val (.int l1), .val (.int m1), .val (.long ((own_fd (k1 - (1 : Int64)) m1.toInt64) + (1 : Int64))), .second] [(.int m1), (.long ((own_fd (k1 - (1 : Int64)) m1.toInt64) + (1 : Int64)))])) t
    refine XS.i2l X2.here hx rfl (hb hby d_ta_14) rfl ?_
    show Steps p.tables e below (T2.setTop (mkF m 15 #[.val (.long k1), .second, .val (.int l1), .val (.int m1), .val (.long ((own_fd (k1 - (1 : Int64)) m1.toInt64) + (1 : Int64))), .second] [(.long (m1.toInt64)), (.long ((own_fd (k1 - (1 : Int64)) m1.toInt64) + (1 : Int64)))])) t
    refine XS.lmul X2.here hx rfl (hb hby d_ta_15) rfl ?_
    show Steps p.tables e below (T2.setTop (mkF m 16 #[.val (.long k1), .second, .val (.int l1), .val (.int m1), .val (.long ((own_fd (k1 - (1 : Int64)) m1.toInt64) + (1 : Int64))), .second] [(.long (((own_fd (k1 - (1 : Int64)) m1.toInt64) + (1 : Int64)) * (m1.toInt64)))])) t
    refine XS.iloadN X2.here hx rfl (hb hby d_ta_16) rfl ?_
    show Steps p.tables e below (T2.setTop (mkF m 17 #[.val (.long k1), .second, .val (.int l1), .val (.int m1), .val (.long ((own_fd (k1 - (1 : Int64)) m1.toInt64) + (1 : Int64))), .second] [(.int l1), (.long (((own_fd (k1 - (1 : Int64)) m1.toInt64) + (1 : Int64)) * (m1.toInt64)))])) t
    refine XS.i2l X2.here hx rfl (hb hby d_ta_17) rfl ?_
    show Steps p.tables e below (T2.setTop (mkF m 18 #[.val (.long k1), .second, .val (.int l1), .val (.int m1), .val (.long ((own_fd (k1 - (1 : Int64)) m1.toInt64) + (1 : Int64))), .second] [(.long (l1.toInt64)), (.long (((own_fd (k1 - (1 : Int64)) m1.toInt64) + (1 : Int64)) * (m1.toInt64)))])) t
    refine XS.ladd X2.here hx rfl (hb hby d_ta_18) rfl ?_
    show Steps p.tables e below (T2.setTop (mkF m 19 #[.val (.long k1), .second, .val (.int l1), .val (.int m1), .val (.long ((own_fd (k1 - (1 : Int64)) m1.toInt64) + (1 : Int64))), .second] [(.long ((((own_fd (k1 - (1 : Int64)) m1.toInt64) + (1 : Int64)) * (m1.toInt64)) + (l1.toInt64)))])) t
    exact k)
  obtain ⟨fs, hr, hrun, hended, hW, hsame⟩ := X2.leave (v := some (.long ((((own_fd (k1 - (1 : Int64)) m1.toInt64) + (1 : Int64)) * (m1.toInt64)) + (l1.toInt64)))) (fun h => by rw [Bd.returns] at h; cases h)
  subst hS0
  refine ⟨_, _, pre _ ?_, hrun, hended, _, _, rfl, ?_, ⟨_, rfl⟩, hW, hsame.mono (by decide) (by decide)⟩
  · exact retOut X2 hx (t := .long) Bd.returns rfl (by simp [Value.isRef, FieldType.isReference]) (hb hby d_ta_19) hr
  · show Q_ta Z k1 l1 m1 h0 n0 _ T2.heap _
    rw [e2]
    exact ⟨rfl, N2, rfl⟩
def Q_law (Z : State) (k0 : Int64) (l0 : Int32) (n1 : Int32) (h0 : Heap) (n0 : Nat) (v : Option Value) (h : Heap) (L : List Loc) : Prop := v = some (.int 1) ∧ Fr n0 L
set_option maxRecDepth 65536 in
set_option maxHeartbeats 40000000 in
theorem rm_law (l : Launch) (Z : State) (a0 : Array Value) (hw : ∀ d ∈ tables_1, d.before a0 Z = true) (ws : List Jvm.Cond) (k0 : Int64) (l0 : Int32) (n1 : Int32) (h0 : Heap) (n0 : Nat) (Z0 : n0 ≤ h0.size)  :
    MetFree l x (head1 (Jvm.Cond.code x code maxLocals ret :: ws) room_1) (fun a U => a = #[(.long k0), (.int l0), (.int n1)] ∧ Z.Warmed39 U.vm ∧ U.heap = h0) (fun _ _ _ _ _ => True) (fun _ U o U' => ∃ v L, o = .returned v ∧ Q_law Z k0 l0 n1 h0 n0 v U'.heap L ∧ FrameEnd U o U' L room_1.cells room_1.slots) := by
  refine MetFree.of_bodySF (plainFor_of_name pn_com_example_group_leader_election_groupleaderelection_ElectorTermAfterPinLaw) hisR ?_
  intro p e s m args below meth c s₁ Bd hml0 hP hK
  obtain ⟨rfl, hZ, hh⟩ := hP
  have hx := Bd.exec
  have hby := Bd.bytes
  have hml : c.maxLocals = 14 := hml0
  have hown : s.vm.findClass "com/example/group_leader_election/groupleaderelection/ElectorTermAfterPinLaw" = some m.cls := findClass_of_methodNamed Bd.named
  have hnm := (name_of_methodNamed Bd.named Bd.method).1
  have X0 : Stand p l e room_1 s m #[(.long k0), (.int l0), (.int n1)] below meth c s₁ [] 0 0 := Stand.of_body Bd
  have e0 : s₁.heap = h0 := by rw [← hh, Bd.state]; rfl
  have N0 := Fr.nil n0
  obtain ⟨S0, hS0⟩ : ∃ S0, S0 = s₁.setTop (entryFrame m #[(.long k0), (.int l0), (.int n1)] maxLocals) := ⟨_, rfl⟩
  have pre : Pth p e below S0 s₁ (mkF m 0 #[.val (.long k0), .second, .val (.int l0), .val (.int n1), .unset, .unset, .unset, .unset, .unset, .unset, .unset, .unset, .unset, .unset] []) := fun t k => by rw [hS0]; exact castTop (ef_law m k0 l0 n1) k
  replace pre : Pth p e below S0 s₁ (mkF m 11 #[.val (.long k0), .second, .val (.int l0), .val (.int n1), .val (.int ((1 : Int32) + ((n1 &&& (2147483647 : Int32)) % (2147483647 : Int32)))), .unset, .unset, .unset, .unset, .unset, .unset, .unset, .unset, .unset] []) := fun t k => pre t (by
    show Steps p.tables e below (s₁.setTop (mkF m 0 #[.val (.long k0), .second, .val (.int l0), .val (.int n1), .unset, .unset, .unset, .unset, .unset, .unset, .unset, .unset, .unset, .unset] [])) t
    refine XS.iconst X0.here hx rfl (hb hby at_0) ?_
    show Steps p.tables e below (s₁.setTop (mkF m 1 #[.val (.long k0), .second, .val (.int l0), .val (.int n1), .unset, .unset, .unset, .unset, .unset, .unset, .unset, .unset, .unset, .unset] [(.int (1 : Int32))])) t
    refine XS.iloadN X0.here hx rfl (hb hby at_1) rfl ?_
    show Steps p.tables e below (s₁.setTop (mkF m 2 #[.val (.long k0), .second, .val (.int l0), .val (.int n1), .unset, .unset, .unset, .unset, .unset, .unset, .unset, .unset, .unset, .unset] [(.int n1), (.int (1 : Int32))])) t
    refine X0.ldcInt hx hown (mvT hZ (hw _ (List.mem_of_getElem? (i := 0) rfl))) (g := (mkF m 2 #[.val (.long k0), .second, .val (.int l0), .val (.int n1), .unset, .unset, .unset, .unset, .unset, .unset, .unset, .unset, .unset, .unset] [(.int n1), (.int (1 : Int32))])) rfl (hb hby at_2) _ ?_
    show Steps p.tables e below (s₁.setTop (mkF m 4 #[.val (.long k0), .second, .val (.int l0), .val (.int n1), .unset, .unset, .unset, .unset, .unset, .unset, .unset, .unset, .unset, .unset] [(.int (2147483647 : Int32)), (.int n1), (.int (1 : Int32))])) t
    refine XS.iand X0.here hx rfl (hb hby at_4) rfl ?_
    show Steps p.tables e below (s₁.setTop (mkF m 5 #[.val (.long k0), .second, .val (.int l0), .val (.int n1), .unset, .unset, .unset, .unset, .unset, .unset, .unset, .unset, .unset, .unset] [(.int (n1 &&& (2147483647 : Int32))), (.int (1 : Int32))])) t
    refine X0.ldcInt hx hown (mvT hZ (hw _ (List.mem_of_getElem? (i := 0) rfl))) (g := (mkF m 5 #[.val (.long k0), .second, .val (.int l0), .val (.int n1), .unset, .unset, .unset, .unset, .unset, .unset, .unset, .unset, .unset, .unset] [(.int (n1 &&& (2147483647 : Int32))), (.int (1 : Int32))])) rfl (hb hby at_5) _ ?_
    show Steps p.tables e below (s₁.setTop (mkF m 7 #[.val (.long k0), .second, .val (.int l0), .val (.int n1), .unset, .unset, .unset, .unset, .unset, .unset, .unset, .unset, .unset, .unset] [(.int (2147483647 : Int32)), (.int (n1 &&& (2147483647 : Int32))), (.int (1 : Int32))])) t
    refine iremM (g := (mkF m 7 #[.val (.long k0), .second, .val (.int l0), .val (.int n1), .unset, .unset, .unset, .unset, .unset, .unset, .unset, .unset, .unset, .unset] [(.int (2147483647 : Int32)), (.int (n1 &&& (2147483647 : Int32))), (.int (1 : Int32))])) X0 hx rfl (hb hby at_7) rfl (by decide) ?_
    show Steps p.tables e below (s₁.setTop (mkF m 8 #[.val (.long k0), .second, .val (.int l0), .val (.int n1), .unset, .unset, .unset, .unset, .unset, .unset, .unset, .unset, .unset, .unset] [(.int ((n1 &&& (2147483647 : Int32)) % (2147483647 : Int32))), (.int (1 : Int32))])) t
    refine XS.iadd X0.here hx rfl (hb hby at_8) rfl ?_
    show Steps p.tables e below (s₁.setTop (mkF m 9 #[.val (.long k0), .second, .val (.int l0), .val (.int n1), .unset, .unset, .unset, .unset, .unset, .unset, .unset, .unset, .unset, .unset] [(.int ((1 : Int32) + ((n1 &&& (2147483647 : Int32)) % (2147483647 : Int32))))])) t
    refine XS.istore X0.here hx rfl (hb hby at_9) rfl (l' := #[.val (.long k0), .second, .val (.int l0), .val (.int n1), .val (.int ((1 : Int32) + ((n1 &&& (2147483647 : Int32)) % (2147483647 : Int32)))), .unset, .unset, .unset, .unset, .unset, .unset, .unset, .unset, .unset]) rfl ?_
    show Steps p.tables e below (s₁.setTop (mkF m 11 #[.val (.long k0), .second, .val (.int l0), .val (.int n1), .val (.int ((1 : Int32) + ((n1 &&& (2147483647 : Int32)) % (2147483647 : Int32)))), .unset, .unset, .unset, .unset, .unset, .unset, .unset, .unset, .unset] [])) t
    exact k)
  obtain ⟨mm, hm⟩ : ∃ z : Int32, z = ((1 : Int32) + ((n1 &&& (2147483647 : Int32)) % (2147483647 : Int32))) := ⟨_, rfl⟩
  rw [← hm] at pre
  have bm := own_mem hm
  have mz : mm ≠ 0 := fun q => by rw [q] at bm; exact absurd bm.1 (by decide)
  replace pre : Pth p e below S0 s₁ (mkF m 22 #[.val (.long k0), .second, .val (.int l0), .val (.int n1), .val (.int mm), .val (.int ((1 : Int32) + ((l0 &&& (2147483647 : Int32)) % mm))), .unset, .unset, .unset, .unset, .unset, .unset, .unset, .unset] []) := fun t k => pre t (by
    show Steps p.tables e below (s₁.setTop (mkF m 11 #[.val (.long k0), .second, .val (.int l0), .val (.int n1), .val (.int mm), .unset, .unset, .unset, .unset, .unset, .unset, .unset, .unset, .unset] [])) t
    refine XS.iconst X0.here hx rfl (hb hby at_11) ?_
    show Steps p.tables e below (s₁.setTop (mkF m 12 #[.val (.long k0), .second, .val (.int l0), .val (.int n1), .val (.int mm), .unset, .unset, .unset, .unset, .unset, .unset, .unset, .unset, .unset] [(.int (1 : Int32))])) t
    refine XS.iloadN X0.here hx rfl (hb hby at_12) rfl ?_
    show Steps p.tables e below (s₁.setTop (mkF m 13 #[.val (.long k0), .second, .val (.int l0), .val (.int n1), .val (.int mm), .unset, .unset, .unset, .unset, .unset, .unset, .unset, .unset, .unset] [(.int l0), (.int (1 : Int32))])) t
    refine X0.ldcInt hx hown (mvT hZ (hw _ (List.mem_of_getElem? (i := 0) rfl))) (g := (mkF m 13 #[.val (.long k0), .second, .val (.int l0), .val (.int n1), .val (.int mm), .unset, .unset, .unset, .unset, .unset, .unset, .unset, .unset, .unset] [(.int l0), (.int (1 : Int32))])) rfl (hb hby at_13) _ ?_
    show Steps p.tables e below (s₁.setTop (mkF m 15 #[.val (.long k0), .second, .val (.int l0), .val (.int n1), .val (.int mm), .unset, .unset, .unset, .unset, .unset, .unset, .unset, .unset, .unset] [(.int (2147483647 : Int32)), (.int l0), (.int (1 : Int32))])) t
    refine XS.iand X0.here hx rfl (hb hby at_15) rfl ?_
    show Steps p.tables e below (s₁.setTop (mkF m 16 #[.val (.long k0), .second, .val (.int l0), .val (.int n1), .val (.int mm), .unset, .unset, .unset, .unset, .unset, .unset, .unset, .unset, .unset] [(.int (l0 &&& (2147483647 : Int32))), (.int (1 : Int32))])) t
    refine XS.iload X0.here hx rfl (hb hby at_16) rfl ?_
    show Steps p.tables e below (s₁.setTop (mkF m 18 #[.val (.long k0), .second, .val (.int l0), .val (.int n1), .val (.int mm), .unset, .unset, .unset, .unset, .unset, .unset, .unset, .unset, .unset] [(.int mm), (.int (l0 &&& (2147483647 : Int32))), (.int (1 : Int32))])) t
    refine iremM (g := (mkF m 18 #[.val (.long k0), .second, .val (.int l0), .val (.int n1), .val (.int mm), .unset, .unset, .unset, .unset, .unset, .unset, .unset, .unset, .unset] [(.int mm), (.int (l0 &&& (2147483647 : Int32))), (.int (1 : Int32))])) X0 hx rfl (hb hby at_18) rfl mz ?_
    show Steps p.tables e below (s₁.setTop (mkF m 19 #[.val (.long k0), .second, .val (.int l0), .val (.int n1), .val (.int mm), .unset, .unset, .unset, .unset, .unset, .unset, .unset, .unset, .unset] [(.int ((l0 &&& (2147483647 : Int32)) % mm)), (.int (1 : Int32))])) t
    refine XS.iadd X0.here hx rfl (hb hby at_19) rfl ?_
    show Steps p.tables e below (s₁.setTop (mkF m 20 #[.val (.long k0), .second, .val (.int l0), .val (.int n1), .val (.int mm), .unset, .unset, .unset, .unset, .unset, .unset, .unset, .unset, .unset] [(.int ((1 : Int32) + ((l0 &&& (2147483647 : Int32)) % mm)))])) t
    refine XS.istore X0.here hx rfl (hb hby at_20) rfl (l' := #[.val (.long k0), .second, .val (.int l0), .val (.int n1), .val (.int mm), .val (.int ((1 : Int32) + ((l0 &&& (2147483647 : Int32)) % mm))), .unset, .unset, .unset, .unset, .unset, .unset, .unset, .unset]) rfl ?_
    show Steps p.tables e below (s₁.setTop (mkF m 22 #[.val (.long k0), .second, .val (.int l0), .val (.int n1), .val (.int mm), .val (.int ((1 : Int32) + ((l0 &&& (2147483647 : Int32)) % mm))), .unset, .unset, .unset, .unset, .unset, .unset, .unset, .unset] [])) t
    exact k)
  obtain ⟨ld, hl⟩ : ∃ z : Int32, z = ((1 : Int32) + ((l0 &&& (2147483647 : Int32)) % mm)) := ⟨_, rfl⟩
  rw [← hl] at pre
  have bl := own_ldr bm hl
  replace pre : Pth p e below S0 s₁ (mkF m 29 #[.val (.long k0), .second, .val (.int l0), .val (.int n1), .val (.int mm), .val (.int ld), .val (.long (k0 &&& (9223372036854775807 : Int64))), .second, .unset, .unset, .unset, .unset, .unset, .unset] []) := fun t k => pre t (by
    show Steps p.tables e below (s₁.setTop (mkF m 22 #[.val (.long k0), .second, .val (.int l0), .val (.int n1), .val (.int mm), .val (.int ld), .unset, .unset, .unset, .unset, .unset, .unset, .unset, .unset] [])) t
    refine XS.lloadN X0.here hx rfl (hb hby at_22) rfl ?_
    show Steps p.tables e below (s₁.setTop (mkF m 23 #[.val (.long k0), .second, .val (.int l0), .val (.int n1), .val (.int mm), .val (.int ld), .unset, .unset, .unset, .unset, .unset, .unset, .unset, .unset] [(.long k0)])) t
    refine X0.ldc2Long hx hown (mvT hZ (hw _ (List.mem_of_getElem? (i := 1) rfl))) (g := (mkF m 23 #[.val (.long k0), .second, .val (.int l0), .val (.int n1), .val (.int mm), .val (.int ld), .unset, .unset, .unset, .unset, .unset, .unset, .unset, .unset] [(.long k0)])) rfl (hb hby at_23) _ ?_
    show Steps p.tables e below (s₁.setTop (mkF m 26 #[.val (.long k0), .second, .val (.int l0), .val (.int n1), .val (.int mm), .val (.int ld), .unset, .unset, .unset, .unset, .unset, .unset, .unset, .unset] [(.long (9223372036854775807 : Int64)), (.long k0)])) t
    refine XS.land X0.here hx rfl (hb hby at_26) rfl ?_
    show Steps p.tables e below (s₁.setTop (mkF m 27 #[.val (.long k0), .second, .val (.int l0), .val (.int n1), .val (.int mm), .val (.int ld), .unset, .unset, .unset, .unset, .unset, .unset, .unset, .unset] [(.long (k0 &&& (9223372036854775807 : Int64)))])) t
    refine XS.lstore X0.here hx rfl (hb hby at_27) rfl (l' := #[.val (.long k0), .second, .val (.int l0), .val (.int n1), .val (.int mm), .val (.int ld), .val (.long (k0 &&& (9223372036854775807 : Int64))), .second, .unset, .unset, .unset, .unset, .unset, .unset]) rfl ?_
    show Steps p.tables e below (s₁.setTop (mkF m 29 #[.val (.long k0), .second, .val (.int l0), .val (.int n1), .val (.int mm), .val (.int ld), .val (.long (k0 &&& (9223372036854775807 : Int64))), .second, .unset, .unset, .unset, .unset, .unset, .unset] [])) t
    exact k)
  obtain ⟨kn, hk⟩ : ∃ z : Int64, z = (k0 &&& (9223372036854775807 : Int64)) := ⟨_, rfl⟩
  rw [← hk] at pre
  have bk := own_kn hk
  replace pre : Pth p e below S0 s₁ (mkF m 43 #[.val (.long k0), .second, .val (.int l0), .val (.int n1), .val (.int mm), .val (.int ld), .val (.long kn), .second, .unset, .unset, .unset, .unset, .unset, .unset] [(.int (XT.cmpL kn ((9223372036854775807 : Int64) - ((2 : Int64) * (mm.toInt64)))))]) := fun t k => pre t (by
    show Steps p.tables e below (s₁.setTop (mkF m 29 #[.val (.long k0), .second, .val (.int l0), .val (.int n1), .val (.int mm), .val (.int ld), .val (.long kn), .second, .unset, .unset, .unset, .unset, .unset, .unset] [])) t
    refine XS.lload X0.here hx rfl (hb hby at_29) rfl ?_
    show Steps p.tables e below (s₁.setTop (mkF m 31 #[.val (.long k0), .second, .val (.int l0), .val (.int n1), .val (.int mm), .val (.int ld), .val (.long kn), .second, .unset, .unset, .unset, .unset, .unset, .unset] [(.long kn)])) t
    refine X0.ldc2Long hx hown (mvT hZ (hw _ (List.mem_of_getElem? (i := 1) rfl))) (g := (mkF m 31 #[.val (.long k0), .second, .val (.int l0), .val (.int n1), .val (.int mm), .val (.int ld), .val (.long kn), .second, .unset, .unset, .unset, .unset, .unset, .unset] [(.long kn)])) rfl (hb hby at_31) _ ?_
    show Steps p.tables e below (s₁.setTop (mkF m 34 #[.val (.long k0), .second, .val (.int l0), .val (.int n1), .val (.int mm), .val (.int ld), .val (.long kn), .second, .unset, .unset, .unset, .unset, .unset, .unset] [(.long (9223372036854775807 : Int64)), (.long kn)])) t
    refine X0.ldc2Long hx hown (mvT hZ (hw _ (List.mem_of_getElem? (i := 2) rfl))) (g := (mkF m 34 #[.val (.long k0), .second, .val (.int l0), .val (.int n1), .val (.int mm), .val (.int ld), .val (.long kn), .second, .unset, .unset, .unset, .unset, .unset, .unset] [(.long (9223372036854775807 : Int64)), (.long kn)])) rfl (hb hby at_34) _ ?_
    show Steps p.tables e below (s₁.setTop (mkF m 37 #[.val (.long k0), .second, .val (.int l0), .val (.int n1), .val (.int mm), .val (.int ld), .val (.long kn), .second, .unset, .unset, .unset, .unset, .unset, .unset] [(.long (2 : Int64)), (.long (9223372036854775807 : Int64)), (.long kn)])) t
    refine XS.iload X0.here hx rfl (hb hby at_37) rfl ?_
    show Steps p.tables e below (s₁.setTop (mkF m 39 #[.val (.long k0), .second, .val (.int l0), .val (.int n1), .val (.int mm), .val (.int ld), .val (.long kn), .second, .unset, .unset, .unset, .unset, .unset, .unset] [(.int mm), (.long (2 : Int64)), (.long (9223372036854775807 : Int64)), (.long kn)])) t
    refine XS.i2l X0.here hx rfl (hb hby at_39) rfl ?_
    show Steps p.tables e below (s₁.setTop (mkF m 40 #[.val (.long k0), .second, .val (.int l0), .val (.int n1), .val (.int mm), .val (.int ld), .val (.long kn), .second, .unset, .unset, .unset, .unset, .unset, .unset] [(.long (mm.toInt64)), (.long (2 : Int64)), (.long (9223372036854775807 : Int64)), (.long kn)])) t
    refine XS.lmul X0.here hx rfl (hb hby at_40) rfl ?_
    show Steps p.tables e below (s₁.setTop (mkF m 41 #[.val (.long k0), .second, .val (.int l0), .val (.int n1), .val (.int mm), .val (.int ld), .val (.long kn), .second, .unset, .unset, .unset, .unset, .unset, .unset] [(.long ((2 : Int64) * (mm.toInt64))), (.long (9223372036854775807 : Int64)), (.long kn)])) t
    refine XS.lsub X0.here hx rfl (hb hby at_41) rfl ?_
    show Steps p.tables e below (s₁.setTop (mkF m 42 #[.val (.long k0), .second, .val (.int l0), .val (.int n1), .val (.int mm), .val (.int ld), .val (.long kn), .second, .unset, .unset, .unset, .unset, .unset, .unset] [(.long ((9223372036854775807 : Int64) - ((2 : Int64) * (mm.toInt64)))), (.long kn)])) t
    refine XT.lcmp X0.here hx rfl (hb hby at_42) rfl ?_
    show Steps p.tables e below (s₁.setTop (mkF m 43 #[.val (.long k0), .second, .val (.int l0), .val (.int n1), .val (.int mm), .val (.int ld), .val (.long kn), .second, .unset, .unset, .unset, .unset, .unset, .unset] [(.int (XT.cmpL kn ((9223372036854775807 : Int64) - ((2 : Int64) * (mm.toInt64)))))])) t
    exact k)
  by_cases k1 : ((9223372036854775807 : Int64) - ((2 : Int64) * (mm.toInt64))) < kn
  · replace pre : Pth p e below S0 s₁ (mkF m 47 #[.val (.long k0), .second, .val (.int l0), .val (.int n1), .val (.int mm), .val (.int ld), .val (.long kn), .second, .unset, .unset, .unset, .unset, .unset, .unset] [(.int (1 : Int32))]) := fun t k => pre t (by
      show Steps p.tables e below (s₁.setTop (mkF m 43 #[.val (.long k0), .second, .val (.int l0), .val (.int n1), .val (.int mm), .val (.int ld), .val (.long kn), .second, .unset, .unset, .unset, .unset, .unset, .unset] [(.int (XT.cmpL kn ((9223372036854775807 : Int64) - ((2 : Int64) * (mm.toInt64)))))])) t
      refine XS.ifNo X0.here hx rfl (hb hby at_43) rfl (XT.ll_le_f k1) ?_
      show Steps p.tables e below (s₁.setTop (mkF m 46 #[.val (.long k0), .second, .val (.int l0), .val (.int n1), .val (.int mm), .val (.int ld), .val (.long kn), .second, .unset, .unset, .unset, .unset, .unset, .unset] [])) t
      refine XS.iconst X0.here hx rfl (hb hby at_46) ?_
      show Steps p.tables e below (s₁.setTop (mkF m 47 #[.val (.long k0), .second, .val (.int l0), .val (.int n1), .val (.int mm), .val (.int ld), .val (.long kn), .second, .unset, .unset, .unset, .unset, .unset, .unset] [(.int (1 : Int32))])) t
      exact k)
    obtain ⟨fs, hr, hrun, hended, hW, hsame⟩ := X0.leave (v := some (.int (1 : Int32))) (fun h => by rw [Bd.returns] at h; cases h)
    subst hS0
    refine ⟨_, _, pre _ ?_, hrun, hended, _, _, rfl, ?_, ⟨_, rfl⟩, hW, hsame.mono (by decide) (by decide)⟩
    · exact retN X0 hx (t := .boolean) Bd.returns (by simp) (hb hby at_47) hr
    · show Q_law Z k0 l0 n1 h0 n0 _ s₁.heap _
      rw [e0]
      exact ⟨rfl, N0⟩
  · replace pre : Pth p e below S0 s₁ (mkF m 48 #[.val (.long k0), .second, .val (.int l0), .val (.int n1), .val (.int mm), .val (.int ld), .val (.long kn), .second, .unset, .unset, .unset, .unset, .unset, .unset] []) := fun t k => pre t (by
      show Steps p.tables e below (s₁.setTop (mkF m 43 #[.val (.long k0), .second, .val (.int l0), .val (.int n1), .val (.int mm), .val (.int ld), .val (.long kn), .second, .unset, .unset, .unset, .unset, .unset, .unset] [(.int (XT.cmpL kn ((9223372036854775807 : Int64) - ((2 : Int64) * (mm.toInt64)))))])) t
      refine XS.ifYes X0.here hx rfl (pc0 := 43) (pc' := 48) rfl (hb hby at_43) rfl (XT.ll_le_t k1) (by decide) (by decide) ?_
      show Steps p.tables e below (s₁.setTop (mkF m 48 #[.val (.long k0), .second, .val (.int l0), .val (.int n1), .val (.int mm), .val (.int ld), .val (.long kn), .second, .unset, .unset, .unset, .unset, .unset, .unset] [])) t
      exact k)
    have b3 := own_room bm k1
    have mz' : ¬ mm.toInt64 = 0 := own_nz bm
    replace pre : Pth p e below S0 s₁ (mkF m 54 #[.val (.long k0), .second, .val (.int l0), .val (.int n1), .val (.int mm), .val (.int ld), .val (.long kn), .second, .unset, .unset, .unset, .unset, .unset, .unset] [(.int mm), (.int ld), (.long kn)]) := fun t k => pre t (by
      show Steps p.tables e below (s₁.setTop (mkF m 48 #[.val (.long k0), .second, .val (.int l0), .val (.int n1), .val (.int mm), .val (.int ld), .val (.long kn), .second, .unset, .unset, .unset, .unset, .unset, .unset] [])) t
      refine XS.lload X0.here hx rfl (hb hby at_48) rfl ?_
      show Steps p.tables e below (s₁.setTop (mkF m 50 #[.val (.long k0), .second, .val (.int l0), .val (.int n1), .val (.int mm), .val (.int ld), .val (.long kn), .second, .unset, .unset, .unset, .unset, .unset, .unset] [(.long kn)])) t
      refine XS.iload X0.here hx rfl (hb hby at_50) rfl ?_
      show Steps p.tables e below (s₁.setTop (mkF m 52 #[.val (.long k0), .second, .val (.int l0), .val (.int n1), .val (.int mm), .val (.int ld), .val (.long kn), .second, .unset, .unset, .unset, .unset, .unset, .unset] [(.int ld), (.long kn)])) t
      refine XS.iload X0.here hx rfl (hb hby at_52) rfl ?_
      show Steps p.tables e below (s₁.setTop (mkF m 54 #[.val (.long k0), .second, .val (.int l0), .val (.int n1), .val (.int mm), .val (.int ld), .val (.long kn), .second, .unset, .unset, .unset, .unset, .unset, .unset] [(.int mm), (.int ld), (.long kn)])) t
      exact k)
    obtain ⟨_, _, ⟨T3, L3, k3, n3⟩, -, X3, ⟨Lc3, hQ3, l3, y3, z3⟩, st3⟩ := Jvm.LawKit.callS X0 hx (y := (⟨"com/example/group_leader_election/groupleaderelection/Elector", "termAfter", "(JII)J"⟩ : MethodName)) hown (mvT hZ (hw _ (List.mem_of_getElem? (i := 3) rfl))) (mvT hZ (hw _ (List.mem_of_getElem? (i := 4) rfl))) (mvT hZ (hw _ (List.mem_of_getElem? (i := 5) rfl))) (mvT hZ (hw _ (List.mem_of_getElem? (i := 6) rfl))) (by decide) (backOf (W := 0) (rm_ta l Z a0 hw [] kn ld mm h0 n0 Z0 mz') hZ (hw _ (List.mem_of_getElem? (i := 6) rfl)) (hw _ (List.mem_of_getElem? (i := 5) rfl)) (by decide) (by decide)) (g := (mkF m 54 #[.val (.long k0), .second, .val (.int l0), .val (.int n1), .val (.int mm), .val (.int ld), .val (.long kn), .second, .unset, .unset, .unset, .unset, .unset, .unset] [(.int mm), (.int ld), (.long kn)])) rfl (by rw [hml]; rfl) (argsL := [(.long kn), (.int ld), (.int mm)]) (rest := []) (lenOf pd__JII_J rfl) rfl (by show 2 * 0 + _ ≤ _; exact Nat.le_of_eq rfl) (hb hby at_54) (fun _ _ => ⟨rfl, e0, (by decide : 0 + 0 ≤ _), (by decide : 0 + 0 ≤ _)⟩)
    dsimp only [Pt.U, Pt.locs, Pt.cells, Pt.slots] at X3 l3 y3 z3 st3 hQ3
    subst l3 y3 z3
    obtain ⟨rfl, N3q, e3⟩ := hQ3
    have N3 := Fr.app N0 N3q
    replace pre : Pth p e below S0 T3 (mkF m 57 #[.val (.long k0), .second, .val (.int l0), .val (.int n1), .val (.int mm), .val (.int ld), .val (.long kn), .second, .unset, .unset, .unset, .unset, .unset, .unset] [(.long (own_ta kn ld mm))]) := fun t k => pre t (st3 _ k)
    replace pre : Pth p e below S0 T3 (mkF m 113 #[.val (.long k0), .second, .val (.int l0), .val (.int n1), .val (.int mm), .val (.int ld), .val (.long kn), .second, .val (.long (own_ta kn ld mm)), .second, .val (.long (kn + (ld.toInt64))), .second, .val (.long (((kn + (ld.toInt64)) + (mm.toInt64)) - (1 : Int64))), .second] [(.int (1 : Int32))]) := fun t k => pre t (by
      show Steps p.tables e below (T3.setTop (mkF m 57 #[.val (.long k0), .second, .val (.int l0), .val (.int n1), .val (.int mm), .val (.int ld), .val (.long kn), .second, .unset, .unset, .unset, .unset, .unset, .unset] [(.long (own_ta kn ld mm))])) t
      refine XS.lstore X3.here hx rfl (hb hby at_57) rfl (l' := #[.val (.long k0), .second, .val (.int l0), .val (.int n1), .val (.int mm), .val (.int ld), .val (.long kn), .second, .val (.long (own_ta kn ld mm)), .second, .unset, .unset, .unset, .unset]) rfl ?_
      show Steps p.tables e below (T3.setTop (mkF m 59 #[.val (.long k0), .second, .val (.int l0), .val (.int n1), .val (.int mm), .val (.int ld), .val (.long kn), .second, .val (.long (own_ta kn ld mm)), .second, .unset, .unset, .unset, .unset] [])) t
      refine XS.lload X3.here hx rfl (hb hby at_59) rfl ?_
      show Steps p.tables e below (T3.setTop (mkF m 61 #[.val (.long k0), .second, .val (.int l0), .val (.int n1), .val (.int mm), .val (.int ld), .val (.long kn), .second, .val (.long (own_ta kn ld mm)), .second, .unset, .unset, .unset, .unset] [(.long kn)])) t
      refine XS.iload X3.here hx rfl (hb hby at_61) rfl ?_
      show Steps p.tables e below (T3.setTop (mkF m 63 #[.val (.long k0), .second, .val (.int l0), .val (.int n1), .val (.int mm), .val (.int ld), .val (.long kn), .second, .val (.long (own_ta kn ld mm)), .second, .unset, .unset, .unset, .unset] [(.int ld), (.long kn)])) t
      refine XS.i2l X3.here hx rfl (hb hby at_63) rfl ?_
      show Steps p.tables e below (T3.setTop (mkF m 64 #[.val (.long k0), .second, .val (.int l0), .val (.int n1), .val (.int mm), .val (.int ld), .val (.long kn), .second, .val (.long (own_ta kn ld mm)), .second, .unset, .unset, .unset, .unset] [(.long (ld.toInt64)), (.long kn)])) t
      refine XS.ladd X3.here hx rfl (hb hby at_64) rfl ?_
      show Steps p.tables e below (T3.setTop (mkF m 65 #[.val (.long k0), .second, .val (.int l0), .val (.int n1), .val (.int mm), .val (.int ld), .val (.long kn), .second, .val (.long (own_ta kn ld mm)), .second, .unset, .unset, .unset, .unset] [(.long (kn + (ld.toInt64)))])) t
      refine XS.lstore X3.here hx rfl (hb hby at_65) rfl (l' := #[.val (.long k0), .second, .val (.int l0), .val (.int n1), .val (.int mm), .val (.int ld), .val (.long kn), .second, .val (.long (own_ta kn ld mm)), .second, .val (.long (kn + (ld.toInt64))), .second, .unset, .unset]) rfl ?_
      show Steps p.tables e below (T3.setTop (mkF m 67 #[.val (.long k0), .second, .val (.int l0), .val (.int n1), .val (.int mm), .val (.int ld), .val (.long kn), .second, .val (.long (own_ta kn ld mm)), .second, .val (.long (kn + (ld.toInt64))), .second, .unset, .unset] [])) t
      refine XS.lload X3.here hx rfl (hb hby at_67) rfl ?_
      show Steps p.tables e below (T3.setTop (mkF m 69 #[.val (.long k0), .second, .val (.int l0), .val (.int n1), .val (.int mm), .val (.int ld), .val (.long kn), .second, .val (.long (own_ta kn ld mm)), .second, .val (.long (kn + (ld.toInt64))), .second, .unset, .unset] [(.long (kn + (ld.toInt64)))])) t
      refine XS.iload X3.here hx rfl (hb hby at_69) rfl ?_
      show Steps p.tables e below (T3.setTop (mkF m 71 #[.val (.long k0), .second, .val (.int l0), .val (.int n1), .val (.int mm), .val (.int ld), .val (.long kn), .second, .val (.long (own_ta kn ld mm)), .second, .val (.long (kn + (ld.toInt64))), .second, .unset, .unset] [(.int mm), (.long (kn + (ld.toInt64)))])) t
      refine XS.i2l X3.here hx rfl (hb hby at_71) rfl ?_
      show Steps p.tables e below (T3.setTop (mkF m 72 #[.val (.long k0), .second, .val (.int l0), .val (.int n1), .val (.int mm), .val (.int ld), .val (.long kn), .second, .val (.long (own_ta kn ld mm)), .second, .val (.long (kn + (ld.toInt64))), .second, .unset, .unset] [(.long (mm.toInt64)), (.long (kn + (ld.toInt64)))])) t
      refine XS.ladd X3.here hx rfl (hb hby at_72) rfl ?_
      show Steps p.tables e below (T3.setTop (mkF m 73 #[.val (.long k0), .second, .val (.int l0), .val (.int n1), .val (.int mm), .val (.int ld), .val (.long kn), .second, .val (.long (own_ta kn ld mm)), .second, .val (.long (kn + (ld.toInt64))), .second, .unset, .unset] [(.long ((kn + (ld.toInt64)) + (mm.toInt64)))])) t
      refine XS.lconst X3.here hx rfl (hb hby at_73) ?_
      show Steps p.tables e below (T3.setTop (mkF m 74 #[.val (.long k0), .second, .val (.int l0), .val (.int n1), .val (.int mm), .val (.int ld), .val (.long kn), .second, .val (.long (own_ta kn ld mm)), .second, .val (.long (kn + (ld.toInt64))), .second, .unset, .unset] [(.long (1 : Int64)), (.long ((kn + (ld.toInt64)) + (mm.toInt64)))])) t
      refine XS.lsub X3.here hx rfl (hb hby at_74) rfl ?_
      show Steps p.tables e below (T3.setTop (mkF m 75 #[.val (.long k0), .second, .val (.int l0), .val (.int n1), .val (.int mm), .val (.int ld), .val (.long kn), .second, .val (.long (own_ta kn ld mm)), .second, .val (.long (kn + (ld.toInt64))), .second, .unset, .unset] [(.long (((kn + (ld.toInt64)) + (mm.toInt64)) - (1 : Int64)))])) t
      refine XS.lstore X3.here hx rfl (hb hby at_75) rfl (l' := #[.val (.long k0), .second, .val (.int l0), .val (.int n1), .val (.int mm), .val (.int ld), .val (.long kn), .second, .val (.long (own_ta kn ld mm)), .second, .val (.long (kn + (ld.toInt64))), .second, .val (.long (((kn + (ld.toInt64)) + (mm.toInt64)) - (1 : Int64))), .second]) rfl ?_
      show Steps p.tables e below (T3.setTop (mkF m 77 #[.val (.long k0), .second, .val (.int l0), .val (.int n1), .val (.int mm), .val (.int ld), .val (.long kn), .second, .val (.long (own_ta kn ld mm)), .second, .val (.long (kn + (ld.toInt64))), .second, .val (.long (((kn + (ld.toInt64)) + (mm.toInt64)) - (1 : Int64))), .second] [])) t
      refine XS.lload X3.here hx rfl (hb hby at_77) rfl ?_
      show Steps p.tables e below (T3.setTop (mkF m 79 #[.val (.long k0), .second, .val (.int l0), .val (.int n1), .val (.int mm), .val (.int ld), .val (.long kn), .second, .val (.long (own_ta kn ld mm)), .second, .val (.long (kn + (ld.toInt64))), .second, .val (.long (((kn + (ld.toInt64)) + (mm.toInt64)) - (1 : Int64))), .second] [(.long (kn + (ld.toInt64)))])) t
      refine XS.lload X3.here hx rfl (hb hby at_79) rfl ?_
      show Steps p.tables e below (T3.setTop (mkF m 81 #[.val (.long k0), .second, .val (.int l0), .val (.int n1), .val (.int mm), .val (.int ld), .val (.long kn), .second, .val (.long (own_ta kn ld mm)), .second, .val (.long (kn + (ld.toInt64))), .second, .val (.long (((kn + (ld.toInt64)) + (mm.toInt64)) - (1 : Int64))), .second] [(.long (own_ta kn ld mm)), (.long (kn + (ld.toInt64)))])) t
      refine XT.lcmp X3.here hx rfl (hb hby at_81) rfl ?_
      show Steps p.tables e below (T3.setTop (mkF m 82 #[.val (.long k0), .second, .val (.int l0), .val (.int n1), .val (.int mm), .val (.int ld), .val (.long kn), .second, .val (.long (own_ta kn ld mm)), .second, .val (.long (kn + (ld.toInt64))), .second, .val (.long (((kn + (ld.toInt64)) + (mm.toInt64)) - (1 : Int64))), .second] [(.int (XT.cmpL (kn + (ld.toInt64)) (own_ta kn ld mm)))])) t
      refine XS.ifNo X3.here hx rfl (hb hby at_82) rfl (XT.ll_gt_f (own_lo bm bl bk b3)) ?_
      show Steps p.tables e below (T3.setTop (mkF m 85 #[.val (.long k0), .second, .val (.int l0), .val (.int n1), .val (.int mm), .val (.int ld), .val (.long kn), .second, .val (.long (own_ta kn ld mm)), .second, .val (.long (kn + (ld.toInt64))), .second, .val (.long (((kn + (ld.toInt64)) + (mm.toInt64)) - (1 : Int64))), .second] [])) t
      refine XS.lload X3.here hx rfl (hb hby at_85) rfl ?_
      show Steps p.tables e below (T3.setTop (mkF m 87 #[.val (.long k0), .second, .val (.int l0), .val (.int n1), .val (.int mm), .val (.int ld), .val (.long kn), .second, .val (.long (own_ta kn ld mm)), .second, .val (.long (kn + (ld.toInt64))), .second, .val (.long (((kn + (ld.toInt64)) + (mm.toInt64)) - (1 : Int64))), .second] [(.long (own_ta kn ld mm))])) t
      refine XS.lload X3.here hx rfl (hb hby at_87) rfl ?_
      show Steps p.tables e below (T3.setTop (mkF m 89 #[.val (.long k0), .second, .val (.int l0), .val (.int n1), .val (.int mm), .val (.int ld), .val (.long kn), .second, .val (.long (own_ta kn ld mm)), .second, .val (.long (kn + (ld.toInt64))), .second, .val (.long (((kn + (ld.toInt64)) + (mm.toInt64)) - (1 : Int64))), .second] [(.long (((kn + (ld.toInt64)) + (mm.toInt64)) - (1 : Int64))), (.long (own_ta kn ld mm))])) t
      refine XT.lcmp X3.here hx rfl (hb hby at_89) rfl ?_
      show Steps p.tables e below (T3.setTop (mkF m 90 #[.val (.long k0), .second, .val (.int l0), .val (.int n1), .val (.int mm), .val (.int ld), .val (.long kn), .second, .val (.long (own_ta kn ld mm)), .second, .val (.long (kn + (ld.toInt64))), .second, .val (.long (((kn + (ld.toInt64)) + (mm.toInt64)) - (1 : Int64))), .second] [(.int (XT.cmpL (own_ta kn ld mm) (((kn + (ld.toInt64)) + (mm.toInt64)) - (1 : Int64))))])) t
      refine XS.ifNo X3.here hx rfl (hb hby at_90) rfl (XT.ll_gt_f (own_hi bm bl bk b3)) ?_
      show Steps p.tables e below (T3.setTop (mkF m 93 #[.val (.long k0), .second, .val (.int l0), .val (.int n1), .val (.int mm), .val (.int ld), .val (.long kn), .second, .val (.long (own_ta kn ld mm)), .second, .val (.long (kn + (ld.toInt64))), .second, .val (.long (((kn + (ld.toInt64)) + (mm.toInt64)) - (1 : Int64))), .second] [])) t
      refine XS.lload X3.here hx rfl (hb hby at_93) rfl ?_
      show Steps p.tables e below (T3.setTop (mkF m 95 #[.val (.long k0), .second, .val (.int l0), .val (.int n1), .val (.int mm), .val (.int ld), .val (.long kn), .second, .val (.long (own_ta kn ld mm)), .second, .val (.long (kn + (ld.toInt64))), .second, .val (.long (((kn + (ld.toInt64)) + (mm.toInt64)) - (1 : Int64))), .second] [(.long (own_ta kn ld mm))])) t
      refine XS.iload X3.here hx rfl (hb hby at_95) rfl ?_
      show Steps p.tables e below (T3.setTop (mkF m 97 #[.val (.long k0), .second, .val (.int l0), .val (.int n1), .val (.int mm), .val (.int ld), .val (.long kn), .second, .val (.long (own_ta kn ld mm)), .second, .val (.long (kn + (ld.toInt64))), .second, .val (.long (((kn + (ld.toInt64)) + (mm.toInt64)) - (1 : Int64))), .second] [(.int ld), (.long (own_ta kn ld mm))])) t
      refine XS.i2l X3.here hx rfl (hb hby at_97) rfl ?_
      show Steps p.tables e below (T3.setTop (mkF m 98 #[.val (.long k0), .second, .val (.int l0), .val (.int n1), .val (.int mm), .val (.int ld), .val (.long kn), .second, .val (.long (own_ta kn ld mm)), .second, .val (.long (kn + (ld.toInt64))), .second, .val (.long (((kn + (ld.toInt64)) + (mm.toInt64)) - (1 : Int64))), .second] [(.long (ld.toInt64)), (.long (own_ta kn ld mm))])) t
      refine XS.lsub X3.here hx rfl (hb hby at_98) rfl ?_
      show Steps p.tables e below (T3.setTop (mkF m 99 #[.val (.long k0), .second, .val (.int l0), .val (.int n1), .val (.int mm), .val (.int ld), .val (.long kn), .second, .val (.long (own_ta kn ld mm)), .second, .val (.long (kn + (ld.toInt64))), .second, .val (.long (((kn + (ld.toInt64)) + (mm.toInt64)) - (1 : Int64))), .second] [(.long ((own_ta kn ld mm) - (ld.toInt64)))])) t
      refine XS.iload X3.here hx rfl (hb hby at_99) rfl ?_
      show Steps p.tables e below (T3.setTop (mkF m 101 #[.val (.long k0), .second, .val (.int l0), .val (.int n1), .val (.int mm), .val (.int ld), .val (.long kn), .second, .val (.long (own_ta kn ld mm)), .second, .val (.long (kn + (ld.toInt64))), .second, .val (.long (((kn + (ld.toInt64)) + (mm.toInt64)) - (1 : Int64))), .second] [(.int mm), (.long ((own_ta kn ld mm) - (ld.toInt64)))])) t
      refine XS.i2l X3.here hx rfl (hb hby at_101) rfl ?_
      show Steps p.tables e below (T3.setTop (mkF m 102 #[.val (.long k0), .second, .val (.int l0), .val (.int n1), .val (.int mm), .val (.int ld), .val (.long kn), .second, .val (.long (own_ta kn ld mm)), .second, .val (.long (kn + (ld.toInt64))), .second, .val (.long (((kn + (ld.toInt64)) + (mm.toInt64)) - (1 : Int64))), .second] [(.long (mm.toInt64)), (.long ((own_ta kn ld mm) - (ld.toInt64)))])) t
      refine XS.lrem X3.here hx rfl (hb hby at_102) rfl mz' ?_
      show Steps p.tables e below (T3.setTop (mkF m 103 #[.val (.long k0), .second, .val (.int l0), .val (.int n1), .val (.int mm), .val (.int ld), .val (.long kn), .second, .val (.long (own_ta kn ld mm)), .second, .val (.long (kn + (ld.toInt64))), .second, .val (.long (((kn + (ld.toInt64)) + (mm.toInt64)) - (1 : Int64))), .second] [(.long (((own_ta kn ld mm) - (ld.toInt64)) - (((own_ta kn ld mm) - (ld.toInt64)) / (mm.toInt64)) * (mm.toInt64)))])) t
      refine XS.lconst X3.here hx rfl (hb hby at_103) ?_
      show Steps p.tables e below (T3.setTop (mkF m 104 #[.val (.long k0), .second, .val (.int l0), .val (.int n1), .val (.int mm), .val (.int ld), .val (.long kn), .second, .val (.long (own_ta kn ld mm)), .second, .val (.long (kn + (ld.toInt64))), .second, .val (.long (((kn + (ld.toInt64)) + (mm.toInt64)) - (1 : Int64))), .second] [(.long (0 : Int64)), (.long (((own_ta kn ld mm) - (ld.toInt64)) - (((own_ta kn ld mm) - (ld.toInt64)) / (mm.toInt64)) * (mm.toInt64)))])) t
      refine XT.lcmp X3.here hx rfl (hb hby at_104) rfl ?_
      show Steps p.tables e below (T3.setTop (mkF m 105 #[.val (.long k0), .second, .val (.int l0), .val (.int n1), .val (.int mm), .val (.int ld), .val (.long kn), .second, .val (.long (own_ta kn ld mm)), .second, .val (.long (kn + (ld.toInt64))), .second, .val (.long (((kn + (ld.toInt64)) + (mm.toInt64)) - (1 : Int64))), .second] [(.int (XT.cmpL (((own_ta kn ld mm) - (ld.toInt64)) - (((own_ta kn ld mm) - (ld.toInt64)) / (mm.toInt64)) * (mm.toInt64)) (0 : Int64)))])) t
      refine XS.ifNo X3.here hx rfl (hb hby at_105) rfl (XT.ll_ne_f (own_rem bm bl bk b3)) ?_
      show Steps p.tables e below (T3.setTop (mkF m 108 #[.val (.long k0), .second, .val (.int l0), .val (.int n1), .val (.int mm), .val (.int ld), .val (.long kn), .second, .val (.long (own_ta kn ld mm)), .second, .val (.long (kn + (ld.toInt64))), .second, .val (.long (((kn + (ld.toInt64)) + (mm.toInt64)) - (1 : Int64))), .second] [])) t
      refine XS.iconst X3.here hx rfl (hb hby at_108) ?_
      show Steps p.tables e below (T3.setTop (mkF m 109 #[.val (.long k0), .second, .val (.int l0), .val (.int n1), .val (.int mm), .val (.int ld), .val (.long kn), .second, .val (.long (own_ta kn ld mm)), .second, .val (.long (kn + (ld.toInt64))), .second, .val (.long (((kn + (ld.toInt64)) + (mm.toInt64)) - (1 : Int64))), .second] [(.int (1 : Int32))])) t
      refine XS.goto X3.here hx rfl (pc0 := 109) (pc' := 113) rfl (hb hby at_109) (by decide) (by decide) ?_
      show Steps p.tables e below (T3.setTop (mkF m 113 #[.val (.long k0), .second, .val (.int l0), .val (.int n1), .val (.int mm), .val (.int ld), .val (.long kn), .second, .val (.long (own_ta kn ld mm)), .second, .val (.long (kn + (ld.toInt64))), .second, .val (.long (((kn + (ld.toInt64)) + (mm.toInt64)) - (1 : Int64))), .second] [(.int (1 : Int32))])) t
      exact k)
    obtain ⟨fs, hr, hrun, hended, hW, hsame⟩ := X3.leave (v := some (.int (1 : Int32))) (fun h => by rw [Bd.returns] at h; cases h)
    subst hS0
    refine ⟨_, _, pre _ ?_, hrun, hended, _, _, rfl, ?_, ⟨_, rfl⟩, hW, hsame.mono (by decide) (by decide)⟩
    · exact retN X3 hx (t := .boolean) Bd.returns (by simp) (hb hby at_113) hr
    · show Q_law Z k0 l0 n1 h0 n0 _ T3.heap _
      rw [e3]
      exact ⟨rfl, N3⟩
set_option maxRecDepth 65536 in
set_option maxHeartbeats 40000000 in
theorem comes_1 {Post : Tables → Env → Array Value → State → Outcome → State → Prop} (hpost : ∀ tb e args s v u, (limb_1_1.after args s (.returned v) u = true ∧ limb_1_2.after args s (.returned v) u = true ∧ True) → FrameEnd s (.returned v) u (Jvm.fieldLocs frame_1_writes args s ++ Jvm.arrayLocs frame_1_arrays args s ++ Jvm.staticLocs frame_1_statics s) 0 0 → Post tb e args s (.returned v) u) :
    ArmFor flags0 classFile x code maxLocals ret World_1 tables_1 room_1 Calls_1 rest_1 Pre_1 Post := by
  intro l hfl _ _ p e ha hc hk s m args below hf hA hF happ hP
  obtain ⟨hcalls, hrest, hpre⟩ := hP
  obtain ⟨-, -, -, hnamed, -, -, -, hat⟩ := (Spec.applies_iff hf).mp happ
  obtain ⟨hg, hn⟩ := and_e (Cond.before_iff.mp (show (Jvm.Cond.and given_1 narrow_1).before args s = true from hpre))
  obtain ⟨gv1a, gv1b⟩ := and_e hg
  obtain ⟨gv2a, gv2b⟩ := and_e gv1b
  obtain ⟨gv3a, gv3b⟩ := and_e gv2b
  obtain ⟨w0, w1, w2, rfl⟩ : ∃ w0 w1 w2 : Value, args = #[w0, w1, w2] := by
    have hs : args.size = 3 := by simpa [Cond.value, given_1] using gv1a
    obtain ⟨L⟩ := args
    match L, hs with
    | [w0, w1, w2], _ => exact ⟨w0, w1, w2, rfl⟩
  have hw := fun d (hd : d ∈ tables_1) => atoms_spec (ws := Jvm.Cond.code x code maxLocals ret :: tables_1) hat d (List.mem_cons_of_mem _ hd)
  have hfit : Fit s := fun {y c} hc i hi => by
    obtain ⟨ha, rfl⟩ := Array.getElem?_eq_some_iff.mp hc
    have q := List.all_eq_true.mp ((Array.all_eq_true_iff_forall_mem.mp hF) _ (Array.getElem_mem ha)) i (List.mem_range.mpr hi)
    simpa [Array.getElem?_eq_getElem hi] using q
  obtain ⟨i0, ei0⟩ := isL_v gv2a
  obtain rfl : w0 = (.long i0) := Option.some.inj ei0
  obtain ⟨i1, ei1⟩ := is_v gv3a
  obtain rfl : w1 = (.int i1) := Option.some.inj ei1
  obtain ⟨i2, ei2⟩ := is_v gv3b
  obtain rfl : w2 = (.int i2) := Option.some.inj ei2
  obtain ⟨n, o, h1, h2, h3, _, L, rfl, ⟨rfl, N⟩, hq⟩ := rm_law l s _ hw tables_1 i0 i1 i2 s.heap s.heap.size (Nat.le_refl _)  p e ha hc hk s m _ below hf ((Spec.applies_iff_loose hf).mp happ).1 ⟨rfl, State.Warmed39.refl s, rfl⟩ trivial
  refine ⟨n, _, h1, h2, h3, hpost _ _ _ _ _ _ ⟨Cond.after_iff.mpr rfl, Cond.after_iff.mpr (eq_i res_at (Term.int_eval (1)) rfl), trivial⟩ ⟨hq.1, hq.2.1, (hq.2.2.sift fun y hy => Or.inr (N y hy)).mono (by decide) (by decide)⟩⟩
theorem main_1_1 : Claimed_1_1 := comes_1 fun _ _ _ _ _ _ h hF => ⟨h.1, hF⟩
theorem main_1_2 : Claimed_1_2 := comes_1 fun _ _ _ _ _ _ h hF => ⟨h.2.1, hF⟩
end Jvm.Pilot.@@N@@
namespace Jvm.Pilot.@@N@@
open Jvm Jvm.ClassFile Sem Op Lib Jvm.Free Jvm.Stand Jvm.Pilot.@@N@@.Jvm.D
/-! MADE BY PROGRAM (witnessworld.py) out of the Statement's table words and the real class files: 10 classes; the members and pool entries that the words name. The judged class is class 1, her method 1. -/
namespace start1
open Jvm.ClassFile
def u (s : String) : CpInfo := .utf8 (stringToUtf16 s)
/-- a pool by its gaps: so many unusable entries, then the entry; so many at the end -/
def gap : Nat → List CpInfo → List CpInfo
  | 0, r => r
  | n + 1, r => .unusable :: gap n r
def poolList (es : List (Nat × CpInfo)) (last : Nat) : List CpInfo := es.foldr (fun e r => gap e.1 (e.2 :: r)) (gap last [])
def pool (es : List (Nat × CpInfo)) (last : Nat) : Array CpInfo := ⟨poolList es last⟩
def fileOf (pool : Array CpInfo) (this : Nat) (attrs : Array Attribute := #[]) (ms : Array MethodInfo := #[]) (fl : Nat := 33) (sup : Nat := 0) (ifs : Array Nat := #[]) (fds : Array FieldInfo := #[]) : ClassFile where
  minorVersion := 0
  majorVersion := 65
  constantPool := pool
  accessFlags := fl
  thisClass := this
  superClass := sup
  interfaces := ifs
  fields := fds
  methods := ms
  attributes := attrs
def plain (name : String) (sup : Option ClassId) : Class where
  name := name
  kind := .ordinary
  loader := none
  accessFlags := 33
  super := sup
  interfaces := #[]
  cf := none
  fields := #[]
  methods := #[]
  instanceTypes := #[]
  staticTypes := #[]
  resolved := #[]
  callSites := []
  init := .initialized
  statics := none
  mirror := none

def pool0 : Array CpInfo := pool [(5, u "<init>"), (0, u "()V"), (1, .class_ 10), (1, u "java/lang/Object")] 113

def k0m0 : Method := { name := "<init>", desc := "()V", sig := { parameters := [], returnType := none }, accessFlags := 1, code := none }
/-- java/lang/Object -/
def k0 : Class := { plain "java/lang/Object" none with
  accessFlags := 33
  interfaces := #[]
  cf := some (fileOf pool0 8 #[] #[{ accessFlags := 1, nameIndex := 5, descriptorIndex := 6, attributes := #[] }] 33 0 #[] #[])
  fields := #[]
  methods := #[k0m0]
  instanceTypes := #[]
  staticTypes := #[]
  resolved := Array.replicate 124 none
  statics := none }

def pool1 : Array CpInfo := pool [(2, .class_ 4), (1, u "java/lang/Object"), (0, u "<init>"), (0, u "()V"), (0, .integer 2147483647), (2, .long 9223372036854775807), (1, .long 2), (1, .methodref 15 16), (0, .class_ 17), (0, .nameAndType 18 19), (0, u "com/example/group_leader_election/groupleaderelection/Elector"), (0, u "termAfter"), (0, u "(JII)J"), (0, .class_ 21), (0, u "com/example/group_leader_election/groupleaderelection/ElectorTermAfterPinLaw"), (2, u "law"), (0, u "(JII)Z")] 3

def k1m0 : Method := { name := "<init>", desc := "()V", sig := { parameters := [], returnType := none }, accessFlags := 1, code := none }
def k1c1 : Code := { maxStack := 8, maxLocals := 14, code := code, exceptionTable := #[], attributes := #[] }
def k1m1 : Method := { name := "law", desc := "(JII)Z", sig := { parameters := [.long, .int, .int], returnType := some .boolean }, accessFlags := 9, code := some k1c1 }
/-- com/example/group_leader_election/groupleaderelection/ElectorTermAfterPinLaw -/
def k1 : Class := { plain "com/example/group_leader_election/groupleaderelection/ElectorTermAfterPinLaw" (some 0) with
  accessFlags := 49
  interfaces := #[]
  cf := some (fileOf pool1 20 #[] #[{ accessFlags := 1, nameIndex := 5, descriptorIndex := 6, attributes := #[] }, { accessFlags := 9, nameIndex := 24, descriptorIndex := 25, attributes := #[] }] 49 2 #[] #[])
  fields := #[]
  methods := #[k1m0, k1m1]
  instanceTypes := #[]
  staticTypes := #[]
  resolved := Array.replicate 29 none
  statics := none }

def pool2 : Array CpInfo := pool [(2, .class_ 4), (1, u "java/lang/Object"), (7, .class_ 14), (1, u "com/example/group_leader_election/groupleaderelection/Elector"), (0, u "leaderSince"), (0, u "D"), (4, u "lastOkAt"), (2, u "id"), (0, u "I"), (2, u "leader"), (2, u "term"), (0, u "J"), (2, u "timing"), (0, u "Lcom/example/group_leader_election/groupleaderelection/ElectionTiming;"), (2, u "host"), (0, u "Lcom/example/group_leader_election/groupleaderelection/Elector$Host;"), (8, u "firstCandidate"), (24, u "candidates"), (0, u "Ljava/util/List;"), (0, .methodref 77 78), (0, .class_ 79), (0, .nameAndType 80 81), (0, u "java/lang/Math"), (0, u "floorDiv"), (0, u "(JI)J"), (2, u "announcer"), (2, u "reviving"), (0, u "Z"), (2, u "highestOk"), (2, u "askedOrdinary"), (17, u "heardLeader"), (2, u "answerNamedLeader"), (14, .class_ 132), (1, u "com/example/group_leader_election/groupleaderelection/Elector$1"), (46, .class_ 181), (1, u "com/example/group_leader_election/groupleaderelection/Elector$Host"), (34, u "highestElectioneer"), (28, u "termAfter"), (0, u "(JII)J"), (6, u "waitGeneration")] 71

def k2c0 : Code := { maxStack := 4, maxLocals := 6, code := prog_2_method_2_code, exceptionTable := #[], attributes := #[] }
def k2m0 : Method := { name := "termAfter", desc := "(JII)J", sig := { parameters := [.long, .int, .int], returnType := some .long }, accessFlags := 8, code := some k2c0 }
/-- com/example/group_leader_election/groupleaderelection/Elector -/
def k2 : Class := { plain "com/example/group_leader_election/groupleaderelection/Elector" (some 0) with
  accessFlags := 48
  interfaces := #[]
  cf := some (fileOf pool2 12 #[.nestMembers #[130, 179]] #[{ accessFlags := 8, nameIndex := 245, descriptorIndex := 246, attributes := #[] }] 48 2 #[] #[{ accessFlags := 18, nameIndex := 24, descriptorIndex := 25, attributes := #[] }, { accessFlags := 18, nameIndex := 35, descriptorIndex := 36, attributes := #[] }, { accessFlags := 18, nameIndex := 39, descriptorIndex := 40, attributes := #[] }, { accessFlags := 18, nameIndex := 49, descriptorIndex := 25, attributes := #[] }, { accessFlags := 18, nameIndex := 74, descriptorIndex := 75, attributes := #[] }, { accessFlags := 2, nameIndex := 28, descriptorIndex := 25, attributes := #[] }, { accessFlags := 2, nameIndex := 31, descriptorIndex := 32, attributes := #[] }, { accessFlags := 2, nameIndex := 84, descriptorIndex := 25, attributes := #[] }, { accessFlags := 2, nameIndex := 15, descriptorIndex := 16, attributes := #[] }, { accessFlags := 2, nameIndex := 253, descriptorIndex := 32, attributes := #[] }, { accessFlags := 2, nameIndex := 94, descriptorIndex := 88, attributes := #[] }, { accessFlags := 2, nameIndex := 91, descriptorIndex := 25, attributes := #[] }, { accessFlags := 2, nameIndex := 216, descriptorIndex := 25, attributes := #[] }, { accessFlags := 2, nameIndex := 21, descriptorIndex := 16, attributes := #[] }, { accessFlags := 2, nameIndex := 87, descriptorIndex := 88, attributes := #[] }, { accessFlags := 2, nameIndex := 112, descriptorIndex := 25, attributes := #[] }, { accessFlags := 2, nameIndex := 115, descriptorIndex := 88, attributes := #[] }])
  fields := #[{ name := "id", type := .int, accessFlags := 18, slot := 0, constantValue := 0 }, { name := "timing", type := (.object "com/example/group_leader_election/groupleaderelection/ElectionTiming"), accessFlags := 18, slot := 1, constantValue := 0 }, { name := "host", type := (.object "com/example/group_leader_election/groupleaderelection/Elector$Host"), accessFlags := 18, slot := 2, constantValue := 0 }, { name := "firstCandidate", type := .int, accessFlags := 18, slot := 3, constantValue := 0 }, { name := "candidates", type := (.object "java/util/List"), accessFlags := 18, slot := 4, constantValue := 0 }, { name := "leader", type := .int, accessFlags := 2, slot := 5, constantValue := 0 }, { name := "term", type := .long, accessFlags := 2, slot := 6, constantValue := 0 }, { name := "announcer", type := .int, accessFlags := 2, slot := 7, constantValue := 0 }, { name := "leaderSince", type := .double, accessFlags := 2, slot := 8, constantValue := 0 }, { name := "waitGeneration", type := .long, accessFlags := 2, slot := 9, constantValue := 0 }, { name := "askedOrdinary", type := .boolean, accessFlags := 2, slot := 10, constantValue := 0 }, { name := "highestOk", type := .int, accessFlags := 2, slot := 11, constantValue := 0 }, { name := "highestElectioneer", type := .int, accessFlags := 2, slot := 12, constantValue := 0 }, { name := "lastOkAt", type := .double, accessFlags := 2, slot := 13, constantValue := 0 }, { name := "reviving", type := .boolean, accessFlags := 2, slot := 14, constantValue := 0 }, { name := "heardLeader", type := .int, accessFlags := 2, slot := 15, constantValue := 0 }, { name := "answerNamedLeader", type := .boolean, accessFlags := 2, slot := 16, constantValue := 0 }]
  methods := #[k2m0]
  instanceTypes := #[.int, (.object "com/example/group_leader_election/groupleaderelection/ElectionTiming"), (.object "com/example/group_leader_election/groupleaderelection/Elector$Host"), .int, (.object "java/util/List"), .int, .long, .int, .double, .long, .boolean, .int, .int, .double, .boolean, .int, .boolean]
  staticTypes := #[]
  resolved := Array.replicate 325 none
  statics := none }

def pool3 : Array CpInfo := pool [(1, .class_ 2), (0, u "java/lang/Math"), (1, .class_ 6), (1, u "java/lang/Object"), (0, u "<init>"), (0, u "()V"), (89, .class_ 100), (1, u "java/lang/Math$RandomNumberGeneratorHolder"), (20, u "(JJ)J"), (21, .methodref 1 144), (0, .nameAndType 145 121), (0, u "floorDiv"), (26, u "negativeZeroFloatBits"), (0, u "J"), (2, u "negativeZeroDoubleBits"), (68, u "$assertionsDisabled"), (0, u "Z"), (91, u "twoToTheDoubleScaleDown"), (0, u "D"), (4, u "twoToTheDoubleScaleUp"), (9, u "E"), (3, u "PI"), (2, u "TAU"), (2, u "DEGREES_TO_RADIANS"), (0, u "RADIANS_TO_DEGREES"), (29, u "(JI)J")] 64

def k3m0 : Method := { name := "<init>", desc := "()V", sig := { parameters := [], returnType := none }, accessFlags := 2, code := none }
def k3c1 : Code := { maxStack := 4, maxLocals := 3, code := jdk_29_method_48_code, exceptionTable := #[], attributes := #[] }
def k3m1 : Method := { name := "floorDiv", desc := "(JI)J", sig := { parameters := [.long, .int], returnType := some .long }, accessFlags := 9, code := some k3c1 }
def k3c2 : Code := { maxStack := 4, maxLocals := 6, code := jdk_29_method_49_code, exceptionTable := #[], attributes := #[] }
def k3m2 : Method := { name := "floorDiv", desc := "(JJ)J", sig := { parameters := [.long, .long], returnType := some .long }, accessFlags := 9, code := some k3c2 }
/-- java/lang/Math -/
def k3 : Class := { plain "java/lang/Math" (some 0) with
  accessFlags := 49
  interfaces := #[]
  cf := some (fileOf pool3 1 #[.nestMembers #[98]] #[{ accessFlags := 2, nameIndex := 7, descriptorIndex := 8, attributes := #[] }, { accessFlags := 9, nameIndex := 145, descriptorIndex := 395, attributes := #[] }, { accessFlags := 9, nameIndex := 145, descriptorIndex := 121, attributes := #[] }] 49 4 #[] #[{ accessFlags := 25, nameIndex := 354, descriptorIndex := 339, attributes := #[] }, { accessFlags := 25, nameIndex := 358, descriptorIndex := 339, attributes := #[] }, { accessFlags := 25, nameIndex := 361, descriptorIndex := 339, attributes := #[] }, { accessFlags := 26, nameIndex := 364, descriptorIndex := 339, attributes := #[] }, { accessFlags := 26, nameIndex := 365, descriptorIndex := 339, attributes := #[] }, { accessFlags := 26, nameIndex := 172, descriptorIndex := 173, attributes := #[] }, { accessFlags := 26, nameIndex := 176, descriptorIndex := 173, attributes := #[] }, { accessFlags := 8, nameIndex := 344, descriptorIndex := 339, attributes := #[] }, { accessFlags := 8, nameIndex := 338, descriptorIndex := 339, attributes := #[] }, { accessFlags := 4120, nameIndex := 245, descriptorIndex := 246, attributes := #[] }])
  fields := #[{ name := "E", type := .double, accessFlags := 25, slot := 0, constantValue := 0 }, { name := "PI", type := .double, accessFlags := 25, slot := 1, constantValue := 0 }, { name := "TAU", type := .double, accessFlags := 25, slot := 2, constantValue := 0 }, { name := "DEGREES_TO_RADIANS", type := .double, accessFlags := 26, slot := 3, constantValue := 0 }, { name := "RADIANS_TO_DEGREES", type := .double, accessFlags := 26, slot := 4, constantValue := 0 }, { name := "negativeZeroFloatBits", type := .long, accessFlags := 26, slot := 5, constantValue := 0 }, { name := "negativeZeroDoubleBits", type := .long, accessFlags := 26, slot := 6, constantValue := 0 }, { name := "twoToTheDoubleScaleUp", type := .double, accessFlags := 8, slot := 7, constantValue := 0 }, { name := "twoToTheDoubleScaleDown", type := .double, accessFlags := 8, slot := 8, constantValue := 0 }, { name := "$assertionsDisabled", type := .boolean, accessFlags := 4120, slot := 9, constantValue := 0 }]
  methods := #[k3m0, k3m1, k3m2]
  instanceTypes := #[]
  staticTypes := #[.double, .double, .double, .double, .double, .long, .long, .double, .double, .boolean]
  resolved := Array.replicate 460 none
  statics := none }

def pool4 : Array CpInfo := pool [(1, u "java/lang/Cloneable"), (0, .class_ 1), (0, u "java/lang/Object"), (0, .class_ 3)] 3

/-- java/lang/Cloneable -/
def k4 : Class := { plain "java/lang/Cloneable" (some 0) with
  accessFlags := 1537
  interfaces := #[]
  cf := some (fileOf pool4 2 #[] #[] 1537 4 #[] #[])
  fields := #[]
  methods := #[]
  instanceTypes := #[]
  staticTypes := #[]
  resolved := Array.replicate 8 none
  statics := none }

def pool5 : Array CpInfo := pool [(1, u "java/io/Serializable"), (0, .class_ 1), (0, u "java/lang/Object"), (0, .class_ 3)] 3

/-- java/io/Serializable -/
def k5 : Class := { plain "java/io/Serializable" (some 0) with
  accessFlags := 1537
  interfaces := #[]
  cf := some (fileOf pool5 2 #[] #[] 1537 4 #[] #[])
  fields := #[]
  methods := #[]
  instanceTypes := #[]
  staticTypes := #[]
  resolved := Array.replicate 8 none
  statics := none }

/-- the primitive byte -/
def k6 : Class := { plain "byte" none with kind := .primitive 'B', accessFlags := 0x411 }
/-- [B -/
def k7 : Class := { plain "[B" (some 0) with kind := .array 6 .byte, interfaces := #[4, 5], accessFlags := 1041 }

/-- the primitive int -/
def k8 : Class := { plain "int" none with kind := .primitive 'I', accessFlags := 0x411 }
/-- [I -/
def k9 : Class := { plain "[I" (some 0) with kind := .array 8 .int, interfaces := #[4, 5], accessFlags := 1041 }

def heap : Heap := #[]
def classes : Array Class := #[k0, k1, k2, k3, k4, k5, k6, k7, k8, k9]
def interned : List (Array UInt16 × Addr) := []
def slotsUsed : Nat := 0
def theMethod : MethodId := ⟨1, 1⟩
def args0 : Array Value := #[.long 5, .int 3, .int 7]
def aboutOver (below : List Frame) : State where
  vm := { classes := classes, interned := interned.toArray }
  heap := heap
  slotsUsed := slotsUsed
  threads := #[{ frames := .invoking theMethod args0 :: below }]
def below0 : List Frame := [.native { method := ⟨0, 0⟩, args := #[] }]
def about1 : State := aboutOver below0
def p0 : Program := .bare "" "" ""
def e0 : Env := launch0.env 0 0 0
theorem w_frames : about1.frames = Frame.invoking theMethod args0 :: below0 := rfl
set_option maxRecDepth 65536 in
theorem w_args : argsFit about1.vm theMethod args0 = true := by decide +kernel
set_option maxRecDepth 65536 in
theorem w_heap : heapFits about1 = true := by decide +kernel
set_option maxRecDepth 65536 in
theorem w_runnable : about1.curStatus? = some .runnable := by decide +kernel
set_option maxRecDepth 65536 in
theorem w_alone : about1.alone = true := by decide +kernel
set_option maxRecDepth 65536 in
theorem w_named : about1.methodNamed? x = some theMethod := by decide +kernel
set_option maxRecDepth 65536 in
theorem w_hears : about1.hears theMethod below0 = true := by decide +kernel
set_option maxRecDepth 65536 in
theorem w_ripe : about1.ripe theMethod args0 below0 = true := by decide +kernel
theorem w_running : about1.status = .running := rfl
set_option maxRecDepth 65536 in
theorem w_room : about1.hasRoom e0.platform room_1 = true :=
  launch0.hasRoom_least _ room_1 (by decide +kernel) (by decide +kernel) (by decide +kernel) (by decide +kernel) (by decide +kernel) (by decide +kernel)
theorem allAtoms_all (ts : List Jvm.Cond) (a : Array Jvm.Value) (st : Jvm.State) : (allAtoms ts).before a st = ts.all (fun c => c.before a st) := by
  induction ts with
  | nil => rfl
  | cons c t ih =>
    show (Jvm.Cond.and c (allAtoms t)).before a st = _
    rw [Jvm.Cond.before_and, ih, List.all_cons]
def words1 : List Jvm.Cond := Jvm.Cond.code x code maxLocals ret :: tables_1
/-- a 'code' word, met by the world's own term for the bytes: nothing is compared byte by byte -/
theorem code_word {y : MethodName} {bytes : ByteArray} {mx : Nat} {rt : Option FieldType} {a : Array Value} {s : State} {m : MethodId} {meth : Method} {c : Code} (h1 : s.methodNamed? y = some m) (h2 : s.vm.method? m = some meth) (h3 : meth.code = some c) (h4 : c.code = bytes)
    (h5 : (c.maxLocals == mx && c.exceptionTable.isEmpty && decide (c.maxStack ≤ mostOperands) && decide (meth.sig.returnType = rt) && !meth.locks && decide (parseMethodDescriptor y.desc = some meth.sig)) = true) : (Jvm.Cond.code y bytes mx rt).before a s = true := by
  simp only [Bool.and_eq_true, beq_iff_eq, Bool.not_eq_true', decide_eq_true_eq] at h5
  obtain ⟨⟨⟨⟨⟨g1, g2⟩, g3⟩, g4⟩, g5⟩, g6⟩ := h5
  simp [Cond.before, Cond.holds, Cond.value, h1, h2, h3, h4, g1, g2, g3, g4, g5, g6]
def isCode : Jvm.Cond → Bool
  | .code _ _ _ _ => true
  | _ => false
theorem all_split {L : List Jvm.Cond} {P : Jvm.Cond → Bool} (h1 : L.all (fun c => isCode c || P c) = true) (h2 : ∀ c ∈ L.filter isCode, P c = true) : L.all P = true := by
  refine List.all_eq_true.mpr fun c hc => ?_
  have h := List.all_eq_true.mp h1 c hc
  rcases Bool.eq_false_or_eq_true (isCode c) with hi | hi
  · exact h2 c (List.mem_filter.mpr ⟨hc, hi⟩)
  · simpa [hi] using h
set_option maxRecDepth 65536 in
theorem w_c0 : (Jvm.Cond.code x code maxLocals ret).before args0 about1 = true := code_word (m := ⟨1, 1⟩) (meth := k1m1) (c := k1c1) (by decide +kernel) rfl rfl rfl (by decide +kernel)
set_option maxRecDepth 65536 in
theorem w_c1 : (Jvm.Cond.code ({ cls := "com/example/group_leader_election/groupleaderelection/Elector", name := "termAfter", desc := "(JII)J" } : Jvm.MethodName) prog_2_method_2_code (6 : Nat) (Option.some Jvm.ClassFile.FieldType.long)).before args0 about1 = true := code_word (m := ⟨2, 0⟩) (meth := k2m0) (c := k2c0) (by decide +kernel) rfl rfl rfl (by decide +kernel)
set_option maxRecDepth 65536 in
theorem w_c2 : (Jvm.Cond.code ({ cls := "java/lang/Math", name := "floorDiv", desc := "(JI)J" } : Jvm.MethodName) jdk_29_method_48_code (3 : Nat) (Option.some Jvm.ClassFile.FieldType.long)).before args0 about1 = true := code_word (m := ⟨3, 1⟩) (meth := k3m1) (c := k3c1) (by decide +kernel) rfl rfl rfl (by decide +kernel)
set_option maxRecDepth 65536 in
theorem w_c3 : (Jvm.Cond.code ({ cls := "java/lang/Math", name := "floorDiv", desc := "(JJ)J" } : Jvm.MethodName) jdk_29_method_49_code (6 : Nat) (Option.some Jvm.ClassFile.FieldType.long)).before args0 about1 = true := code_word (m := ⟨3, 2⟩) (meth := k3m2) (c := k3c2) (by decide +kernel) rfl rfl rfl (by decide +kernel)
def codes1 : List Jvm.Cond := [Jvm.Cond.code x code maxLocals ret, Jvm.Cond.code ({ cls := "com/example/group_leader_election/groupleaderelection/Elector", name := "termAfter", desc := "(JII)J" } : Jvm.MethodName) prog_2_method_2_code (6 : Nat) (Option.some Jvm.ClassFile.FieldType.long), Jvm.Cond.code ({ cls := "java/lang/Math", name := "floorDiv", desc := "(JI)J" } : Jvm.MethodName) jdk_29_method_48_code (3 : Nat) (Option.some Jvm.ClassFile.FieldType.long), Jvm.Cond.code ({ cls := "java/lang/Math", name := "floorDiv", desc := "(JJ)J" } : Jvm.MethodName) jdk_29_method_49_code (6 : Nat) (Option.some Jvm.ClassFile.FieldType.long)]
set_option maxRecDepth 65536 in
theorem codes_eq : words1.filter isCode = codes1 := rfl
theorem w_codes : ∀ c ∈ words1.filter isCode, c.before args0 about1 = true := by
  rw [codes_eq]
  intro c hc
  simp only [codes1, List.mem_cons, List.not_mem_nil, or_false] at hc
  rcases hc with rfl | rfl | rfl | rfl
  · exact w_c0
  · exact w_c1
  · exact w_c2
  · exact w_c3
set_option maxRecDepth 65536 in
theorem w_t1 : words1.all (fun c => isCode c || c.before args0 about1) = true := by decide +kernel
theorem w_tables : (allAtoms (Jvm.Cond.code x code maxLocals ret :: tables_1)).before args0 about1 = true := by
  rw [allAtoms_all]
  show words1.all (fun c => c.before args0 about1) = true
  refine all_split ?_ w_codes
  rw [w_t1]
set_option maxRecDepth 65536 in
theorem w_case : (Jvm.Cond.and given_1 narrow_1).before args0 about1 = true := by decide +kernel
theorem w_applies : (headSpec (Jvm.Cond.code x code maxLocals ret :: tables_1) room_1).applies x e0.platform about1 = true :=
  (Spec.applies_iff w_frames).mpr ⟨w_running, w_runnable, w_alone, w_named, w_hears, w_ripe, w_room, w_tables⟩
theorem atStart : AtStart classFile x code maxLocals ret World_1 tables_1 room_1 Calls_1 rest_1 Pre_1 launch0 p0 e0 about1 theMethod args0 below0 :=
  ⟨lists_1, trivial, launch0.admits_env _ _ _, launch0.least_env, fairChoices_fair.cas, fairChoices_fair.clock, w_frames, w_args, w_heap, w_applies, trivial, trivial, w_case⟩
end start1
theorem witness_1 : WitnessClaimed_1 := ⟨start1.p0, start1.e0, start1.about1, start1.theMethod, start1.args0, start1.below0, start1.atStart⟩
end Jvm.Pilot.@@N@@
