import JvmDerived
import JvmDerived.Pilot.@@N@@Statement
import JvmDerived.Pilot.@@N@@Code
set_option linter.unusedVariables false
set_option linter.unusedSimpArgs false

namespace Jvm.RoadKit
open Sem ClassFile Op Lib Jvm.Stand Jvm.Free Jvm.LawKit
section New
variable {p : Program} {l : Launch} {e : Env} {R : Room} {s : State} {m : MethodId} {args : Array Value} {below : List Frame} {meth : Method} {c : Code} {T : State} {locs : List Loc} {cells slots : Nat}
theorem retI (X : Stand p l e R s m args below meth c T locs cells slots) (hx : p.tables.exec = Jvm.exec) {pc : Nat} {Ls : Array Slot} {z : Int32} {rest : List Value} (hret : meth.sig.returnType = some .int) (hd : decode c.code pc = .ok (.ireturn, 1)) {fs : List Frame}
    (hl : ∀ (f : JFrame) (acts : List Action), f.method = m → f.locked = none → f.entered = [] → (doReturn e (T.setTop f) acts (some (.int z))).1 = T.setFrames fs) : Steps p.tables e below (T.setTop (mkF m pc Ls (.int z :: rest))) (T.setFrames fs) := by
  have hm' : T.vm.method? m = some meth := X.method'
  have hn : narrow .int (.int z) = .int z := rfl
  show Steps p.tables e below (T.setTop { method := m, pc := pc, locals := Ls, stack := _ :: rest, locked := none }) _
  jvm_step X.here [X.here.top, hx, hd, hm', hret, hn]
  first | (intro acts; rw [hl _ acts rfl rfl rfl]) | rw [hl _ _ rfl rfl rfl]
  exact Steps.refl _
end New
end Jvm.RoadKit
namespace Jvm.Pilot.@@N@@
open Jvm Jvm.ClassFile Sem Op Lib Jvm.Free Jvm.Stand Jvm.LawKit Jvm.RoadKit Bundle Jvm.Pilot.@@N@@.Jvm.D
/-- from S0 the run comes to T with the frame g on top -/
abbrev Pth (p : Program) (e : Env) (below : List Frame) (S0 T : State) (g : JFrame) : Prop := ∀ t, Steps p.tables e below (T.setTop g) t → Steps p.tables e below S0 t
theorem ef_gcd (m : MethodId) (x0 : Int64) (x1 : Int64)  : entryFrame m #[(.long x0), (.long x1)] 10 = mkF m 0 #[.val (.long x0), .second, .val (.long x1), .second, .unset, .unset, .unset, .unset, .unset, .unset] [] := by first | (simp [entryFrame, mkF, argsToLocals, Value.category]; done) | rfl
theorem pn_com_example_inexact_limiter_inexactlimiter_algorithm_Exact : plainName "com/example/inexact_limiter/inexactlimiter/algorithm/Exact" = true := by first | (simp [plainName, overriddenIn]; done) | decide +kernel
theorem d_gcd_0 : decode prog_2_method_9_code 0 = .ok (.lload_n 0, 1) := by decide +kernel
theorem d_gcd_1 : decode prog_2_method_9_code 1 = .ok (.lstore 4, 2) := by decide +kernel
theorem d_gcd_3 : decode prog_2_method_9_code 3 = .ok (.lload_n 2, 1) := by decide +kernel
theorem d_gcd_4 : decode prog_2_method_9_code 4 = .ok (.lstore 6, 2) := by decide +kernel
theorem d_gcd_6 : decode prog_2_method_9_code 6 = .ok (.lload 6, 2) := by decide +kernel
theorem d_gcd_8 : decode prog_2_method_9_code 8 = .ok (.lconst 0, 1) := by decide +kernel
theorem d_gcd_9 : decode prog_2_method_9_code 9 = .ok (.lcmp, 1) := by decide +kernel
theorem d_gcd_10 : decode prog_2_method_9_code 10 = .ok (.ifCond .eq 21, 3) := by decide +kernel
theorem d_gcd_13 : decode prog_2_method_9_code 13 = .ok (.lload 4, 2) := by decide +kernel
theorem d_gcd_15 : decode prog_2_method_9_code 15 = .ok (.lload 6, 2) := by decide +kernel
theorem d_gcd_17 : decode prog_2_method_9_code 17 = .ok (.lrem, 1) := by decide +kernel
theorem d_gcd_18 : decode prog_2_method_9_code 18 = .ok (.lstore 8, 2) := by decide +kernel
theorem d_gcd_20 : decode prog_2_method_9_code 20 = .ok (.lload 6, 2) := by decide +kernel
theorem d_gcd_22 : decode prog_2_method_9_code 22 = .ok (.lstore 4, 2) := by decide +kernel
theorem d_gcd_24 : decode prog_2_method_9_code 24 = .ok (.lload 8, 2) := by decide +kernel
theorem d_gcd_26 : decode prog_2_method_9_code 26 = .ok (.lstore 6, 2) := by decide +kernel
theorem d_gcd_28 : decode prog_2_method_9_code 28 = .ok (.goto (-22), 3) := by decide +kernel
theorem d_gcd_31 : decode prog_2_method_9_code 31 = .ok (.lload 4, 2) := by decide +kernel
theorem d_gcd_33 : decode prog_2_method_9_code 33 = .ok (.lreturn, 1) := by decide +kernel
theorem ef_law (m : MethodId) (x0 : Int64) (x1 : Int64) (x2 : Int32) (x3 : Int32) (x4 : Int32)  : entryFrame m #[(.long x0), (.long x1), (.int x2), (.int x3), (.int x4)] maxLocals = mkF m 0 #[.val (.long x0), .second, .val (.long x1), .second, .val (.int x2), .val (.int x3), .val (.int x4), .unset, .unset, .unset, .unset, .unset, .unset, .unset, .unset, .unset, .unset, .unset, .unset, .unset, .unset, .unset, .unset] [] := by first | (simp [entryFrame, mkF, argsToLocals, Value.category, maxLocals]; done) | rfl
theorem pn_com_example_inexact_limiter_inexactlimiter_algorithm_ExactGcdPinLaw : plainName "com/example/inexact_limiter/inexactlimiter/algorithm/ExactGcdPinLaw" = true := by first | (simp [plainName, overriddenIn]; done) | decide +kernel
theorem pd__JJ_J : parseMethodDescriptor "(JJ)J" = some ⟨[.long, .long], some .long⟩ := by decide +kernel
def own_g (a b : Int64) : Int64 := Int64.ofNat (Nat.gcd a.toInt.toNat b.toInt.toNat)
def own_two (s8 s9 : Slot) : Prop := (s8 = .unset ∧ s9 = .unset) ∨ ∃ z : Int64, s8 = .val (.long z) ∧ s9 = .second
theorem own_st8 {a b c d x : Int64} {s8 s9 : Slot} (h : own_two s8 s9) : storeLocals #[.val (.long a), .second, .val (.long b), .second, .val (.long c), .second, .val (.long d), .second, s8, s9] 8 (.long x) = some #[.val (.long a), .second, .val (.long b), .second, .val (.long c), .second, .val (.long d), .second, .val (.long x), .second] := by
  rcases h with ⟨rfl, rfl⟩ | ⟨z, rfl, rfl⟩ <;> rfl
theorem own_ofNat {n : Nat} (h : n < 2 ^ 63) : (Int64.ofNat n).toInt = n := Int64.toInt_ofNat_of_lt h
theorem own_nat {a : Int64} (h : 0 ≤ a.toInt) : Int64.ofNat a.toInt.toNat = a := by
  apply Int64.toInt_inj.mp
  have := a.toInt_lt
  rw [own_ofNat (by omega)]; omega
theorem own_gI {a b : Int64} (ha : 0 ≤ a.toInt) (hb : 0 ≤ b.toInt) : (own_g a b).toInt = Nat.gcd a.toInt.toNat b.toInt.toNat := by
  have := a.toInt_lt; have := b.toInt_lt
  apply own_ofNat
  rcases Nat.eq_zero_or_pos a.toInt.toNat with h | h
  · rw [h, Nat.gcd_zero_left]; omega
  · have := Nat.gcd_le_left b.toInt.toNat h; omega
theorem own_g0 {a b : Int64} (ha : 0 ≤ a.toInt) (h : b = (0 : Int64)) : own_g a b = a := by
  have z : (0 : Int64).toInt.toNat = 0 := rfl
  unfold own_g
  rw [h, z, Nat.gcd_zero_right]; exact own_nat ha
theorem own_quo {a b : Int64} (ha : 0 ≤ a.toInt) (hb : 0 < b.toInt) : (a / b).toInt = a.toInt / b.toInt := by
  have := a.toInt_lt
  have h1 := Int.ediv_nonneg ha (Int.le_of_lt hb)
  have h2 := Int.ediv_le_self b.toInt ha
  rw [Int64.toInt_div, Int.tdiv_eq_ediv_of_nonneg ha, XT.bmod64 (by constructor <;> omega)]
theorem own_rm {a b : Int64} (ha : 0 ≤ a.toInt) (hb : 0 < b.toInt) : (a - (a / b) * b).toInt = a.toInt % b.toInt := by
  have al := a.toInt_lt
  have e1 := own_quo ha hb
  have h1 := Int.ediv_nonneg ha (Int.le_of_lt hb)
  have h3 := Int.ediv_mul_le a.toInt (b := b.toInt) (by omega)
  have h4 : 0 ≤ a.toInt / b.toInt * b.toInt := Int.mul_nonneg h1 (by omega)
  have e2 : (a / b * b).toInt = a.toInt / b.toInt * b.toInt := by rw [XT.mul64 (by rw [e1]; constructor <;> omega), e1]
  rw [XT.sub64 (by rw [e2]; constructor <;> omega), e2]
  have := Int.emod_add_mul_ediv a.toInt b.toInt
  have e3 := Int.mul_comm b.toInt (a.toInt / b.toInt)
  omega
theorem own_bpos {b : Int64} (hb : 0 ≤ b.toInt) (h : ¬ b = (0 : Int64)) : 0 < b.toInt := by
  rcases Int.lt_or_eq_of_le hb with q | q
  · exact q
  · exact absurd (Int64.toInt_inj.mp q.symm) h
theorem own_step {a b : Int64} (ha : 0 ≤ a.toInt) (hb : 0 ≤ b.toInt) (h : ¬ b = (0 : Int64)) : 0 ≤ (a - (a / b) * b).toInt ∧ (a - (a / b) * b).toInt < b.toInt ∧ own_g b (a - (a / b) * b) = own_g a b := by
  have hp := own_bpos hb h
  have e := own_rm ha hp
  have h1 := Int.emod_nonneg a.toInt (b := b.toInt) (by omega)
  have h2 := Int.emod_lt_of_pos a.toInt hp
  refine ⟨by omega, by omega, ?_⟩
  unfold own_g
  rw [e, Int.toNat_emod ha hb, Nat.gcd_comm a.toInt.toNat, Nat.gcd_rec b.toInt.toNat a.toInt.toNat, Nat.gcd_comm b.toInt.toNat (a.toInt.toNat % b.toInt.toNat)]
theorem own_pos {k p : Int64} (h : k = p &&& (9223372036854775807 : Int64)) (hz : ¬ k = (0 : Int64)) : 1 ≤ k.toInt := by
  have h : ¬ k < 0 := fun q => absurd ((XT.and_neg64 _ _).mp (h ▸ q)).2 (by decide)
  rw [Int64.lt_iff_toInt_lt] at h
  have z : (0 : Int64).toInt = 0 := rfl
  have := own_bpos (b := k) (by omega) hz
  omega
theorem own_gfacts {a b g : Int64} (ha : 1 ≤ a.toInt) (hb : 1 ≤ b.toInt) (hg : g = own_g a b) : ¬ g < (1 : Int64) ∧ g ≠ 0 ∧ (a - (a / g) * g) = (0 : Int64) ∧ (b - (b / g) * g) = (0 : Int64) ∧ own_g b a = g ∧ (0 ≤ (a / g).toInt ∧ 0 ≤ (b / g).toInt) ∧ own_g (a / g) (b / g) = (1 : Int64) := by
  have e : g.toInt = Nat.gcd a.toInt.toNat b.toInt.toNat := by rw [hg]; exact own_gI (by omega) (by omega)
  have gp : 0 < Nat.gcd a.toInt.toNat b.toInt.toNat := Nat.gcd_pos_of_pos_left _ (by omega)
  have z : (0 : Int64).toInt = 0 := rfl
  have z1 : (1 : Int64).toInt = 1 := rfl
  have da : g.toInt ∣ a.toInt := by
    rw [e, show a.toInt = ((a.toInt.toNat : Nat) : Int) by omega]; exact Int.natCast_dvd_natCast.mpr (Nat.gcd_dvd_left _ _)
  have db : g.toInt ∣ b.toInt := by
    rw [e, show b.toInt = ((b.toInt.toNat : Nat) : Int) by omega]; exact Int.natCast_dvd_natCast.mpr (Nat.gcd_dvd_right _ _)
  have g0 : 0 < g.toInt := by omega
  have ea := own_quo (a := a) (b := g) (by omega) g0
  have eb := own_quo (a := b) (b := g) (by omega) g0
  refine ⟨by rw [Int64.lt_iff_toInt_lt]; omega, fun q => by rw [q] at g0; omega, ?_, ?_, ?_, ⟨?_, ?_⟩, ?_⟩
  · apply Int64.toInt_inj.mp; rw [own_rm (by omega) g0, z]; exact Int.emod_eq_zero_of_dvd da
  · apply Int64.toInt_inj.mp; rw [own_rm (by omega) g0, z]; exact Int.emod_eq_zero_of_dvd db
  · rw [hg]; unfold own_g; rw [Nat.gcd_comm]
  · rw [ea]; exact Int.ediv_nonneg (by omega) (by omega)
  · rw [eb]; exact Int.ediv_nonneg (by omega) (by omega)
  · unfold own_g
    have na : (a / g).toInt.toNat = a.toInt.toNat / Nat.gcd a.toInt.toNat b.toInt.toNat := by
      rw [ea, e, show a.toInt = ((a.toInt.toNat : Nat) : Int) by omega, ← Int.natCast_ediv, Int.toNat_natCast, Int.toNat_natCast]
    have nb : (b / g).toInt.toNat = b.toInt.toNat / Nat.gcd a.toInt.toNat b.toInt.toNat := by
      rw [eb, e, show b.toInt = ((b.toInt.toNat : Nat) : Int) by omega, ← Int.natCast_ediv, Int.toNat_natCast, Int.toNat_natCast]
    rw [na, nb, Nat.gcd_div (Nat.gcd_dvd_left _ _) (Nat.gcd_dvd_right _ _), Nat.div_self gp]; rfl
theorem own_m32 (s : Int32) : 0 ≤ (s &&& (32767 : Int32)).toInt64.toInt ∧ (s &&& (32767 : Int32)).toInt64.toInt ≤ 32767 := by
  rw [Int32.toInt_toInt64]
  have hb : (s &&& (32767 : Int32)).toBitVec.toNat ≤ 32767 := by
    rw [Int32.toBitVec_and, BitVec.toNat_and]; exact Nat.and_le_right
  have e : (s &&& (32767 : Int32)).toInt = (s &&& (32767 : Int32)).toBitVec.toNat := BitVec.toInt_eq_toNat_of_lt (by omega)
  omega
theorem own_m64 (s : Int64) : 0 ≤ (s &&& (2147483647 : Int64)).toInt ∧ (s &&& (2147483647 : Int64)).toInt ≤ 2147483647 := by
  have hb : (s &&& (2147483647 : Int64)).toBitVec.toNat ≤ 2147483647 := by
    rw [Int64.toBitVec_and, BitVec.toNat_and]; exact Nat.and_le_right
  have e : (s &&& (2147483647 : Int64)).toInt = (s &&& (2147483647 : Int64)).toBitVec.toNat := BitVec.toInt_eq_toNat_of_lt (by omega)
  omega
theorem own_yfacts {p2 p3 p4 : Int32} {g m k x y : Int64} (hg : g = (((p2.toInt64) &&& (2147483647 : Int64)) + (1 : Int64))) (hm : m = (((p3 &&& (32767 : Int32)).toInt64) + (1 : Int64))) (hk : k = ((p4 &&& (32767 : Int32)).toInt64)) (hx : x = g * m) (hy : y = g * ((k * m) + (1 : Int64))) :
    0 ≤ x.toInt ∧ 0 ≤ y.toInt ∧ own_g x y = g ∧ own_g y x = g := by
  have z1 : (1 : Int64).toInt = 1 := rfl
  have bg := own_m64 p2.toInt64
  have bm := own_m32 p3
  have bk := own_m32 p4
  have eg : g.toInt = ((p2.toInt64) &&& (2147483647 : Int64)).toInt + 1 := by rw [hg, XT.add64 (by rw [z1]; constructor <;> omega), z1]
  have em : m.toInt = ((p3 &&& (32767 : Int32)).toInt64).toInt + 1 := by rw [hm, XT.add64 (by rw [z1]; constructor <;> omega), z1]
  rw [← hk] at bk
  obtain ⟨G, hG⟩ : ∃ G : Nat, g.toInt = G := ⟨g.toInt.toNat, by omega⟩
  obtain ⟨M, hM⟩ : ∃ M : Nat, m.toInt = M := ⟨m.toInt.toNat, by omega⟩
  obtain ⟨K, hK⟩ : ∃ K : Nat, k.toInt = K := ⟨k.toInt.toNat, by omega⟩
  have g1 : 1 ≤ G := by omega
  have g2 : G ≤ 2147483648 := by omega
  have m1 : 1 ≤ M := by omega
  have m2 : M ≤ 32768 := by omega
  have k2 : K ≤ 32767 := by omega
  have b1 : K * M ≤ 32767 * 32768 := Nat.mul_le_mul k2 m2
  have b2 : G * (K * M + 1) ≤ 2147483648 * (32767 * 32768 + 1) := Nat.mul_le_mul g2 (by omega)
  have b3 : G * M ≤ 2147483648 * 32768 := Nat.mul_le_mul g2 m2
  have e1 : (k * m).toInt = ((K * M : Nat) : Int) := by rw [XT.mul64 (by rw [hK, hM, ← Int.natCast_mul]; constructor <;> omega), hK, hM, ← Int.natCast_mul]
  have e2 : (k * m + 1).toInt = ((K * M + 1 : Nat) : Int) := by rw [XT.add64 (by rw [e1, z1]; constructor <;> omega), e1, z1]; omega
  have ey : y.toInt = ((G * (K * M + 1) : Nat) : Int) := by rw [hy, XT.mul64 (by rw [hG, e2, ← Int.natCast_mul]; constructor <;> omega), hG, e2, ← Int.natCast_mul]
  have ex : x.toInt = ((G * M : Nat) : Int) := by rw [hx, XT.mul64 (by rw [hG, hM, ← Int.natCast_mul]; constructor <;> omega), hG, hM, ← Int.natCast_mul]
  have hgcd : Nat.gcd (G * M) (G * (K * M + 1)) = G := by
    rw [Nat.gcd_mul_left]
    have : Nat.gcd M (K * M + 1) = 1 := by
      rw [Nat.gcd_rec, Nat.mul_comm K M, Nat.mul_add_mod]
      rcases Nat.lt_or_ge 1 M with q | q
      · rw [Nat.mod_eq_of_lt q]; exact Nat.gcd_one_left M
      · have : M = 1 := by omega
        rw [this]; rfl
    rw [this, Nat.mul_one]
  have eG : Int64.ofNat G = g := by
    apply Int64.toInt_inj.mp
    rw [own_ofNat (by omega), hG]
  refine ⟨by omega, by omega, ?_, ?_⟩
  · unfold own_g; rw [ex, ey, Int.toNat_natCast, Int.toNat_natCast, hgcd, eG]
  · unfold own_g; rw [ex, ey, Int.toNat_natCast, Int.toNat_natCast, Nat.gcd_comm, hgcd, eG]

def Q_gcd (Z : State) (x1 : Int64) (y1 : Int64) (h0 : Heap) (n0 : Nat) (v : Option Value) (h : Heap) (L : List Loc) : Prop := v = some (.long (own_g x1 y1)) ∧ Fr n0 L ∧ h = h0
set_option maxRecDepth 65536 in
set_option maxHeartbeats 40000000 in
theorem rm_gcd (l : Launch) (Z : State) (a0 : Array Value) (hw : ∀ d ∈ tables_1, d.before a0 Z = true) (ws : List Jvm.Cond) (x1 : Int64) (y1 : Int64) (h0 : Heap) (n0 : Nat) (Z0 : n0 ≤ h0.size) (hx1 : 0 ≤ x1.toInt) (hy1 : 0 ≤ y1.toInt) :
    MetFree l (⟨"com/example/inexact_limiter/inexactlimiter/algorithm/Exact", "gcd", "(JJ)J"⟩ : MethodName) (head1 (Jvm.Cond.code (⟨"com/example/inexact_limiter/inexactlimiter/algorithm/Exact", "gcd", "(JJ)J"⟩ : MethodName) prog_2_method_9_code 10 (some .long) :: ws) ({ frames := 0, cells := 0, slots := 0, locals := 0 } : Room)) (fun a U => a = #[(.long x1), (.long y1)] ∧ Z.Warmed39 U.vm ∧ U.heap = h0) (fun _ _ _ _ _ => True) (fun _ U o U' => ∃ v L, o = .returned v ∧ Q_gcd Z x1 y1 h0 n0 v U'.heap L ∧ FrameEnd U o U' L ({ frames := 0, cells := 0, slots := 0, locals := 0 } : Room).cells ({ frames := 0, cells := 0, slots := 0, locals := 0 } : Room).slots) := by
  refine MetFree.of_bodySF (plainFor_of_name pn_com_example_inexact_limiter_inexactlimiter_algorithm_Exact) hisR ?_
  intro p e s m args below meth c s₁ Bd hml0 hP hK
  obtain ⟨rfl, hZ, hh⟩ := hP
  have hx := Bd.exec
  have hby := Bd.bytes
  have hml : c.maxLocals = 10 := hml0
  have hown : s.vm.findClass "com/example/inexact_limiter/inexactlimiter/algorithm/Exact" = some m.cls := findClass_of_methodNamed Bd.named
  have hnm := (name_of_methodNamed Bd.named Bd.method).1
  have X0 : Stand p l e ({ frames := 0, cells := 0, slots := 0, locals := 0 } : Room) s m #[(.long x1), (.long y1)] below meth c s₁ [] 0 0 := Stand.of_body Bd
  have e0 : s₁.heap = h0 := by rw [← hh, Bd.state]; rfl
  have N0 := Fr.nil n0
  obtain ⟨S0, hS0⟩ : ∃ S0, S0 = s₁.setTop (entryFrame m #[(.long x1), (.long y1)] 10) := ⟨_, rfl⟩
  have pre : Pth p e below S0 s₁ (mkF m 0 #[.val (.long x1), .second, .val (.long y1), .second, .unset, .unset, .unset, .unset, .unset, .unset] []) := fun t k => by rw [hS0]; exact castTop (ef_gcd m x1 y1) k
  replace pre : Pth p e below S0 s₁ (mkF m 6 #[.val (.long x1), .second, .val (.long y1), .second, .val (.long x1), .second, .val (.long y1), .second, .unset, .unset] []) := fun t k => pre t (by
    show Steps p.tables e below (s₁.setTop (mkF m 0 #[.val (.long x1), .second, .val (.long y1), .second, .unset, .unset, .unset, .unset, .unset, .unset] [])) t
    refine XS.lloadN X0.here hx rfl (hb hby d_gcd_0) rfl ?_
    show Steps p.tables e below (s₁.setTop (mkF m 1 #[.val (.long x1), .second, .val (.long y1), .second, .unset, .unset, .unset, .unset, .unset, .unset] [(.long x1)])) t
    refine XS.lstore X0.here hx rfl (hb hby d_gcd_1) rfl (l' := #[.val (.long x1), .second, .val (.long y1), .second, .val (.long x1), .second, .unset, .unset, .unset, .unset]) rfl ?_
    show Steps p.tables e below (s₁.setTop (mkF m 3 #[.val (.long x1), .second, .val (.long y1), .second, .val (.long x1), .second, .unset, .unset, .unset, .unset] [])) t
    refine XS.lloadN X0.here hx rfl (hb hby d_gcd_3) rfl ?_
    show Steps p.tables e below (s₁.setTop (mkF m 4 #[.val (.long x1), .second, .val (.long y1), .second, .val (.long x1), .second, .unset, .unset, .unset, .unset] [(.long y1)])) t
    refine XS.lstore X0.here hx rfl (hb hby d_gcd_4) rfl (l' := #[.val (.long x1), .second, .val (.long y1), .second, .val (.long x1), .second, .val (.long y1), .second, .unset, .unset]) rfl ?_
    show Steps p.tables e below (s₁.setTop (mkF m 6 #[.val (.long x1), .second, .val (.long y1), .second, .val (.long x1), .second, .val (.long y1), .second, .unset, .unset] [])) t
    exact k)
  have loop : ∀ (n : Nat) (a b : Int64) (s8 s9 : Slot), b.toInt.toNat = n → 0 ≤ a.toInt → 0 ≤ b.toInt → own_two s8 s9 → Pth p e below S0 s₁ (mkF m 6 #[.val (.long x1), .second, .val (.long y1), .second, .val (.long a), .second, .val (.long b), .second, s8, s9] []) → ∃ (b' : Int64) (s8' s9' : Slot), Pth p e below S0 s₁ (mkF m 31 #[.val (.long x1), .second, .val (.long y1), .second, .val (.long (own_g a b)), .second, .val (.long b'), .second, s8', s9'] []) := by
    intro n
    induction n using Nat.strongRecOn with
    | ind n ih =>
      intro a b s8 s9 hn ha hb' ht pre
      replace pre : Pth p e below S0 s₁ (mkF m 10 #[.val (.long x1), .second, .val (.long y1), .second, .val (.long a), .second, .val (.long b), .second, s8, s9] [(.int (XT.cmpL b (0 : Int64)))]) := fun t k => pre t (by
        show Steps p.tables e below (s₁.setTop (mkF m 6 #[.val (.long x1), .second, .val (.long y1), .second, .val (.long a), .second, .val (.long b), .second, s8, s9] [])) t
        refine XS.lload X0.here hx rfl (hb hby d_gcd_6) rfl ?_
        show Steps p.tables e below (s₁.setTop (mkF m 8 #[.val (.long x1), .second, .val (.long y1), .second, .val (.long a), .second, .val (.long b), .second, s8, s9] [(.long b)])) t
        refine XS.lconst X0.here hx rfl (hb hby d_gcd_8) ?_
        show Steps p.tables e below (s₁.setTop (mkF m 9 #[.val (.long x1), .second, .val (.long y1), .second, .val (.long a), .second, .val (.long b), .second, s8, s9] [(.long (0 : Int64)), (.long b)])) t
        refine XT.lcmp X0.here hx rfl (hb hby d_gcd_9) rfl ?_
        show Steps p.tables e below (s₁.setTop (mkF m 10 #[.val (.long x1), .second, .val (.long y1), .second, .val (.long a), .second, .val (.long b), .second, s8, s9] [(.int (XT.cmpL b (0 : Int64)))])) t
        exact k)
      by_cases z0 : b = (0 : Int64)
      · replace pre : Pth p e below S0 s₁ (mkF m 31 #[.val (.long x1), .second, .val (.long y1), .second, .val (.long a), .second, .val (.long b), .second, s8, s9] []) := fun t k => pre t (by
          show Steps p.tables e below (s₁.setTop (mkF m 10 #[.val (.long x1), .second, .val (.long y1), .second, .val (.long a), .second, .val (.long b), .second, s8, s9] [(.int (XT.cmpL b (0 : Int64)))])) t
          refine XS.ifYes X0.here hx rfl (pc0 := 10) (pc' := 31) rfl (hb hby d_gcd_10) rfl (XT.ll_eq_t z0) (by decide) (by decide) ?_
          show Steps p.tables e below (s₁.setTop (mkF m 31 #[.val (.long x1), .second, .val (.long y1), .second, .val (.long a), .second, .val (.long b), .second, s8, s9] [])) t
          exact k)
        have q : own_g a b = a := own_g0 ha z0
        exact ⟨b, s8, s9, by rw [q]; exact pre⟩
      · replace pre : Pth p e below S0 s₁ (mkF m 6 #[.val (.long x1), .second, .val (.long y1), .second, .val (.long b), .second, .val (.long (a - (a / b) * b)), .second, .val (.long (a - (a / b) * b)), .second] []) := fun t k => pre t (by
          show Steps p.tables e below (s₁.setTop (mkF m 10 #[.val (.long x1), .second, .val (.long y1), .second, .val (.long a), .second, .val (.long b), .second, s8, s9] [(.int (XT.cmpL b (0 : Int64)))])) t
          refine XS.ifNo X0.here hx rfl (hb hby d_gcd_10) rfl (XT.ll_eq_f z0) ?_
          show Steps p.tables e below (s₁.setTop (mkF m 13 #[.val (.long x1), .second, .val (.long y1), .second, .val (.long a), .second, .val (.long b), .second, s8, s9] [])) t
          refine XS.lload X0.here hx rfl (hb hby d_gcd_13) rfl ?_
          show Steps p.tables e below (s₁.setTop (mkF m 15 #[.val (.long x1), .second, .val (.long y1), .second, .val (.long a), .second, .val (.long b), .second, s8, s9] [(.long a)])) t
          refine XS.lload X0.here hx rfl (hb hby d_gcd_15) rfl ?_
          show Steps p.tables e below (s₁.setTop (mkF m 17 #[.val (.long x1), .second, .val (.long y1), .second, .val (.long a), .second, .val (.long b), .second, s8, s9] [(.long b), (.long a)])) t
          refine XS.lrem X0.here hx rfl (hb hby d_gcd_17) rfl z0 ?_
          show Steps p.tables e below (s₁.setTop (mkF m 18 #[.val (.long x1), .second, .val (.long y1), .second, .val (.long a), .second, .val (.long b), .second, s8, s9] [(.long (a - (a / b) * b))])) t
          refine XS.lstore X0.here hx rfl (hb hby d_gcd_18) rfl (l' := #[.val (.long x1), .second, .val (.long y1), .second, .val (.long a), .second, .val (.long b), .second, .val (.long (a - (a / b) * b)), .second]) (own_st8 ht) ?_
          show Steps p.tables e below (s₁.setTop (mkF m 20 #[.val (.long x1), .second, .val (.long y1), .second, .val (.long a), .second, .val (.long b), .second, .val (.long (a - (a / b) * b)), .second] [])) t
          refine XS.lload X0.here hx rfl (hb hby d_gcd_20) rfl ?_
          show Steps p.tables e below (s₁.setTop (mkF m 22 #[.val (.long x1), .second, .val (.long y1), .second, .val (.long a), .second, .val (.long b), .second, .val (.long (a - (a / b) * b)), .second] [(.long b)])) t
          refine XS.lstore X0.here hx rfl (hb hby d_gcd_22) rfl (l' := #[.val (.long x1), .second, .val (.long y1), .second, .val (.long b), .second, .val (.long b), .second, .val (.long (a - (a / b) * b)), .second]) rfl ?_
          show Steps p.tables e below (s₁.setTop (mkF m 24 #[.val (.long x1), .second, .val (.long y1), .second, .val (.long b), .second, .val (.long b), .second, .val (.long (a - (a / b) * b)), .second] [])) t
          refine XS.lload X0.here hx rfl (hb hby d_gcd_24) rfl ?_
          show Steps p.tables e below (s₁.setTop (mkF m 26 #[.val (.long x1), .second, .val (.long y1), .second, .val (.long b), .second, .val (.long b), .second, .val (.long (a - (a / b) * b)), .second] [(.long (a - (a / b) * b))])) t
          refine XS.lstore X0.here hx rfl (hb hby d_gcd_26) rfl (l' := #[.val (.long x1), .second, .val (.long y1), .second, .val (.long b), .second, .val (.long (a - (a / b) * b)), .second, .val (.long (a - (a / b) * b)), .second]) rfl ?_
          show Steps p.tables e below (s₁.setTop (mkF m 28 #[.val (.long x1), .second, .val (.long y1), .second, .val (.long b), .second, .val (.long (a - (a / b) * b)), .second, .val (.long (a - (a / b) * b)), .second] [])) t
          refine XS.goto X0.here hx rfl (pc0 := 28) (pc' := 6) rfl (hb hby d_gcd_28) (by decide) (by decide) ?_
          show Steps p.tables e below (s₁.setTop (mkF m 6 #[.val (.long x1), .second, .val (.long y1), .second, .val (.long b), .second, .val (.long (a - (a / b) * b)), .second, .val (.long (a - (a / b) * b)), .second] [])) t
          exact k)
        obtain ⟨hr0, hr1, hr2⟩ := own_step ha hb' z0
        obtain ⟨b', u, v, q⟩ := ih _ (by omega) b (a - (a / b) * b) _ _ rfl hb' hr0 (Or.inr ⟨_, rfl, rfl⟩) pre
        rw [hr2] at q
        exact ⟨b', u, v, q⟩
  obtain ⟨b', u8, u9, pre⟩ := loop _ _ _ _ _ rfl hx1 hy1 (Or.inl ⟨rfl, rfl⟩) pre
  replace pre : Pth p e below S0 s₁ (mkF m 33 #[.val (.long x1), .second, .val (.long y1), .second, .val (.long (own_g x1 y1)), .second, .val (.long b'), .second, u8, u9] [(.long (own_g x1 y1))]) := fun t k => pre t (by
    show Steps p.tables e below (s₁.setTop (mkF m 31 #[.val (.long x1), .second, .val (.long y1), .second, .val (.long (own_g x1 y1)), .second, .val (.long b'), .second, u8, u9] [])) t
    refine XS.lload X0.here hx rfl (hb hby d_gcd_31) rfl ?_
    show Steps p.tables e below (s₁.setTop (mkF m 33 #[.val (.long x1), .second, .val (.long y1), .second, .val (.long (own_g x1 y1)), .second, .val (.long b'), .second, u8, u9] [(.long (own_g x1 y1))])) t
    exact k)
  obtain ⟨fs, hr, hrun, hended, hW, hsame⟩ := X0.leave (v := some (.long (own_g x1 y1))) (fun h => by rw [Bd.returns] at h; cases h)
  subst hS0
  refine ⟨_, _, pre _ ?_, hrun, hended, _, _, rfl, ?_, ⟨_, rfl⟩, hW, hsame.mono (by decide) (by decide)⟩
  · exact retOut X0 hx (t := .long) Bd.returns rfl (by simp [Value.isRef, FieldType.isReference]) (hb hby d_gcd_33) hr
  · show Q_gcd Z x1 y1 h0 n0 _ s₁.heap _
    rw [e0]
    exact ⟨rfl, N0, rfl⟩
def Q_law (Z : State) (p0 : Int64) (p1 : Int64) (p2 : Int32) (p3 : Int32) (p4 : Int32) (h0 : Heap) (n0 : Nat) (v : Option Value) (h : Heap) (L : List Loc) : Prop := v = some (.int 1) ∧ Fr n0 L
set_option maxRecDepth 65536 in
set_option maxHeartbeats 40000000 in
theorem rm_law (l : Launch) (Z : State) (a0 : Array Value) (hw : ∀ d ∈ tables_1, d.before a0 Z = true) (ws : List Jvm.Cond) (p0 : Int64) (p1 : Int64) (p2 : Int32) (p3 : Int32) (p4 : Int32) (h0 : Heap) (n0 : Nat) (Z0 : n0 ≤ h0.size)  :
    MetFree l x (head1 (Jvm.Cond.code x code maxLocals ret :: ws) room_1) (fun a U => a = #[(.long p0), (.long p1), (.int p2), (.int p3), (.int p4)] ∧ Z.Warmed39 U.vm ∧ U.heap = h0) (fun _ _ _ _ _ => True) (fun _ U o U' => ∃ v L, o = .returned v ∧ Q_law Z p0 p1 p2 p3 p4 h0 n0 v U'.heap L ∧ FrameEnd U o U' L room_1.cells room_1.slots) := by
  refine MetFree.of_bodySF (plainFor_of_name pn_com_example_inexact_limiter_inexactlimiter_algorithm_ExactGcdPinLaw) hisR ?_
  intro p e s m args below meth c s₁ Bd hml0 hP hK
  obtain ⟨rfl, hZ, hh⟩ := hP
  have hx := Bd.exec
  have hby := Bd.bytes
  have hml : c.maxLocals = 23 := hml0
  have hown : s.vm.findClass "com/example/inexact_limiter/inexactlimiter/algorithm/ExactGcdPinLaw" = some m.cls := findClass_of_methodNamed Bd.named
  have hnm := (name_of_methodNamed Bd.named Bd.method).1
  have X0 : Stand p l e room_1 s m #[(.long p0), (.long p1), (.int p2), (.int p3), (.int p4)] below meth c s₁ [] 0 0 := Stand.of_body Bd
  have e0 : s₁.heap = h0 := by rw [← hh, Bd.state]; rfl
  have N0 := Fr.nil n0
  obtain ⟨S0, hS0⟩ : ∃ S0, S0 = s₁.setTop (entryFrame m #[(.long p0), (.long p1), (.int p2), (.int p3), (.int p4)] maxLocals) := ⟨_, rfl⟩
  have pre : Pth p e below S0 s₁ (mkF m 0 #[.val (.long p0), .second, .val (.long p1), .second, .val (.int p2), .val (.int p3), .val (.int p4), .unset, .unset, .unset, .unset, .unset, .unset, .unset, .unset, .unset, .unset, .unset, .unset, .unset, .unset, .unset, .unset] []) := fun t k => by rw [hS0]; exact castTop (ef_law m p0 p1 p2 p3 p4) k
  replace pre : Pth p e below S0 s₁ (mkF m 7 #[.val (.long p0), .second, .val (.long p1), .second, .val (.int p2), .val (.int p3), .val (.int p4), .val (.long (p0 &&& (9223372036854775807 : Int64))), .second, .unset, .unset, .unset, .unset, .unset, .unset, .unset, .unset, .unset, .unset, .unset, .unset, .unset, .unset] []) := fun t k => pre t (by
    show Steps p.tables e below (s₁.setTop (mkF m 0 #[.val (.long p0), .second, .val (.long p1), .second, .val (.int p2), .val (.int p3), .val (.int p4), .unset, .unset, .unset, .unset, .unset, .unset, .unset, .unset, .unset, .unset, .unset, .unset, .unset, .unset, .unset, .unset] [])) t
    refine XS.lloadN X0.here hx rfl (hb hby at_0) rfl ?_
    show Steps p.tables e below (s₁.setTop (mkF m 1 #[.val (.long p0), .second, .val (.long p1), .second, .val (.int p2), .val (.int p3), .val (.int p4), .unset, .unset, .unset, .unset, .unset, .unset, .unset, .unset, .unset, .unset, .unset, .unset, .unset, .unset, .unset, .unset] [(.long p0)])) t
    refine X0.ldc2Long hx hown (mvT hZ (hw _ (List.mem_of_getElem? (i := 0) rfl))) (g := (mkF m 1 #[.val (.long p0), .second, .val (.long p1), .second, .val (.int p2), .val (.int p3), .val (.int p4), .unset, .unset, .unset, .unset, .unset, .unset, .unset, .unset, .unset, .unset, .unset, .unset, .unset, .unset, .unset, .unset] [(.long p0)])) rfl (hb hby at_1) _ ?_
    show Steps p.tables e below (s₁.setTop (mkF m 4 #[.val (.long p0), .second, .val (.long p1), .second, .val (.int p2), .val (.int p3), .val (.int p4), .unset, .unset, .unset, .unset, .unset, .unset, .unset, .unset, .unset, .unset, .unset, .unset, .unset, .unset, .unset, .unset] [(.long (9223372036854775807 : Int64)), (.long p0)])) t
    refine XS.land X0.here hx rfl (hb hby at_4) rfl ?_
    show Steps p.tables e below (s₁.setTop (mkF m 5 #[.val (.long p0), .second, .val (.long p1), .second, .val (.int p2), .val (.int p3), .val (.int p4), .unset, .unset, .unset, .unset, .unset, .unset, .unset, .unset, .unset, .unset, .unset, .unset, .unset, .unset, .unset, .unset] [(.long (p0 &&& (9223372036854775807 : Int64)))])) t
    refine XS.lstore X0.here hx rfl (hb hby at_5) rfl (l' := #[.val (.long p0), .second, .val (.long p1), .second, .val (.int p2), .val (.int p3), .val (.int p4), .val (.long (p0 &&& (9223372036854775807 : Int64))), .second, .unset, .unset, .unset, .unset, .unset, .unset, .unset, .unset, .unset, .unset, .unset, .unset, .unset, .unset]) rfl ?_
    show Steps p.tables e below (s₁.setTop (mkF m 7 #[.val (.long p0), .second, .val (.long p1), .second, .val (.int p2), .val (.int p3), .val (.int p4), .val (.long (p0 &&& (9223372036854775807 : Int64))), .second, .unset, .unset, .unset, .unset, .unset, .unset, .unset, .unset, .unset, .unset, .unset, .unset, .unset, .unset] [])) t
    exact k)
  obtain ⟨k_aa, hk_aa⟩ : ∃ z : Int64, z = (p0 &&& (9223372036854775807 : Int64)) := ⟨_, rfl⟩
  rw [← hk_aa] at pre
  replace pre : Pth p e below S0 s₁ (mkF m 11 #[.val (.long p0), .second, .val (.long p1), .second, .val (.int p2), .val (.int p3), .val (.int p4), .val (.long k_aa), .second, .unset, .unset, .unset, .unset, .unset, .unset, .unset, .unset, .unset, .unset, .unset, .unset, .unset, .unset] [(.int (XT.cmpL k_aa (0 : Int64)))]) := fun t k => pre t (by
    show Steps p.tables e below (s₁.setTop (mkF m 7 #[.val (.long p0), .second, .val (.long p1), .second, .val (.int p2), .val (.int p3), .val (.int p4), .val (.long k_aa), .second, .unset, .unset, .unset, .unset, .unset, .unset, .unset, .unset, .unset, .unset, .unset, .unset, .unset, .unset] [])) t
    refine XS.lload X0.here hx rfl (hb hby at_7) rfl ?_
    show Steps p.tables e below (s₁.setTop (mkF m 9 #[.val (.long p0), .second, .val (.long p1), .second, .val (.int p2), .val (.int p3), .val (.int p4), .val (.long k_aa), .second, .unset, .unset, .unset, .unset, .unset, .unset, .unset, .unset, .unset, .unset, .unset, .unset, .unset, .unset] [(.long k_aa)])) t
    refine XS.lconst X0.here hx rfl (hb hby at_9) ?_
    show Steps p.tables e below (s₁.setTop (mkF m 10 #[.val (.long p0), .second, .val (.long p1), .second, .val (.int p2), .val (.int p3), .val (.int p4), .val (.long k_aa), .second, .unset, .unset, .unset, .unset, .unset, .unset, .unset, .unset, .unset, .unset, .unset, .unset, .unset, .unset] [(.long (0 : Int64)), (.long k_aa)])) t
    refine XT.lcmp X0.here hx rfl (hb hby at_10) rfl ?_
    show Steps p.tables e below (s₁.setTop (mkF m 11 #[.val (.long p0), .second, .val (.long p1), .second, .val (.int p2), .val (.int p3), .val (.int p4), .val (.long k_aa), .second, .unset, .unset, .unset, .unset, .unset, .unset, .unset, .unset, .unset, .unset, .unset, .unset, .unset, .unset] [(.int (XT.cmpL k_aa (0 : Int64)))])) t
    exact k)
  obtain ⟨aa, pa, pre⟩ : ∃ aa : Int64, 1 ≤ aa.toInt ∧ Pth p e below S0 s₁ (mkF m 17 #[.val (.long p0), .second, .val (.long p1), .second, .val (.int p2), .val (.int p3), .val (.int p4), .val (.long aa), .second, .unset, .unset, .unset, .unset, .unset, .unset, .unset, .unset, .unset, .unset, .unset, .unset, .unset, .unset] []) := by
    by_cases z1 : k_aa = (0 : Int64)
    · replace pre : Pth p e below S0 s₁ (mkF m 17 #[.val (.long p0), .second, .val (.long p1), .second, .val (.int p2), .val (.int p3), .val (.int p4), .val (.long (1 : Int64)), .second, .unset, .unset, .unset, .unset, .unset, .unset, .unset, .unset, .unset, .unset, .unset, .unset, .unset, .unset] []) := fun t k => pre t (by
        show Steps p.tables e below (s₁.setTop (mkF m 11 #[.val (.long p0), .second, .val (.long p1), .second, .val (.int p2), .val (.int p3), .val (.int p4), .val (.long k_aa), .second, .unset, .unset, .unset, .unset, .unset, .unset, .unset, .unset, .unset, .unset, .unset, .unset, .unset, .unset] [(.int (XT.cmpL k_aa (0 : Int64)))])) t
        refine XS.ifNo X0.here hx rfl (hb hby at_11) rfl (XT.ll_ne_f z1) ?_
        show Steps p.tables e below (s₁.setTop (mkF m 14 #[.val (.long p0), .second, .val (.long p1), .second, .val (.int p2), .val (.int p3), .val (.int p4), .val (.long k_aa), .second, .unset, .unset, .unset, .unset, .unset, .unset, .unset, .unset, .unset, .unset, .unset, .unset, .unset, .unset] [])) t
        refine XS.lconst X0.here hx rfl (hb hby at_14) ?_
        show Steps p.tables e below (s₁.setTop (mkF m 15 #[.val (.long p0), .second, .val (.long p1), .second, .val (.int p2), .val (.int p3), .val (.int p4), .val (.long k_aa), .second, .unset, .unset, .unset, .unset, .unset, .unset, .unset, .unset, .unset, .unset, .unset, .unset, .unset, .unset] [(.long (1 : Int64))])) t
        refine XS.lstore X0.here hx rfl (hb hby at_15) rfl (l' := #[.val (.long p0), .second, .val (.long p1), .second, .val (.int p2), .val (.int p3), .val (.int p4), .val (.long (1 : Int64)), .second, .unset, .unset, .unset, .unset, .unset, .unset, .unset, .unset, .unset, .unset, .unset, .unset, .unset, .unset]) rfl ?_
        show Steps p.tables e below (s₁.setTop (mkF m 17 #[.val (.long p0), .second, .val (.long p1), .second, .val (.int p2), .val (.int p3), .val (.int p4), .val (.long (1 : Int64)), .second, .unset, .unset, .unset, .unset, .unset, .unset, .unset, .unset, .unset, .unset, .unset, .unset, .unset, .unset] [])) t
        exact k)
      exact ⟨(1 : Int64), by decide, pre⟩
    · replace pre : Pth p e below S0 s₁ (mkF m 17 #[.val (.long p0), .second, .val (.long p1), .second, .val (.int p2), .val (.int p3), .val (.int p4), .val (.long k_aa), .second, .unset, .unset, .unset, .unset, .unset, .unset, .unset, .unset, .unset, .unset, .unset, .unset, .unset, .unset] []) := fun t k => pre t (by
        show Steps p.tables e below (s₁.setTop (mkF m 11 #[.val (.long p0), .second, .val (.long p1), .second, .val (.int p2), .val (.int p3), .val (.int p4), .val (.long k_aa), .second, .unset, .unset, .unset, .unset, .unset, .unset, .unset, .unset, .unset, .unset, .unset, .unset, .unset, .unset] [(.int (XT.cmpL k_aa (0 : Int64)))])) t
        refine XS.ifYes X0.here hx rfl (pc0 := 11) (pc' := 17) rfl (hb hby at_11) rfl (XT.ll_ne_t z1) (by decide) (by decide) ?_
        show Steps p.tables e below (s₁.setTop (mkF m 17 #[.val (.long p0), .second, .val (.long p1), .second, .val (.int p2), .val (.int p3), .val (.int p4), .val (.long k_aa), .second, .unset, .unset, .unset, .unset, .unset, .unset, .unset, .unset, .unset, .unset, .unset, .unset, .unset, .unset] [])) t
        exact k)
      exact ⟨_, own_pos hk_aa z1, pre⟩
  replace pre : Pth p e below S0 s₁ (mkF m 24 #[.val (.long p0), .second, .val (.long p1), .second, .val (.int p2), .val (.int p3), .val (.int p4), .val (.long aa), .second, .val (.long (p1 &&& (9223372036854775807 : Int64))), .second, .unset, .unset, .unset, .unset, .unset, .unset, .unset, .unset, .unset, .unset, .unset, .unset] []) := fun t k => pre t (by
    show Steps p.tables e below (s₁.setTop (mkF m 17 #[.val (.long p0), .second, .val (.long p1), .second, .val (.int p2), .val (.int p3), .val (.int p4), .val (.long aa), .second, .unset, .unset, .unset, .unset, .unset, .unset, .unset, .unset, .unset, .unset, .unset, .unset, .unset, .unset] [])) t
    refine XS.lloadN X0.here hx rfl (hb hby at_17) rfl ?_
    show Steps p.tables e below (s₁.setTop (mkF m 18 #[.val (.long p0), .second, .val (.long p1), .second, .val (.int p2), .val (.int p3), .val (.int p4), .val (.long aa), .second, .unset, .unset, .unset, .unset, .unset, .unset, .unset, .unset, .unset, .unset, .unset, .unset, .unset, .unset] [(.long p1)])) t
    refine X0.ldc2Long hx hown (mvT hZ (hw _ (List.mem_of_getElem? (i := 0) rfl))) (g := (mkF m 18 #[.val (.long p0), .second, .val (.long p1), .second, .val (.int p2), .val (.int p3), .val (.int p4), .val (.long aa), .second, .unset, .unset, .unset, .unset, .unset, .unset, .unset, .unset, .unset, .unset, .unset, .unset, .unset, .unset] [(.long p1)])) rfl (hb hby at_18) _ ?_
    show Steps p.tables e below (s₁.setTop (mkF m 21 #[.val (.long p0), .second, .val (.long p1), .second, .val (.int p2), .val (.int p3), .val (.int p4), .val (.long aa), .second, .unset, .unset, .unset, .unset, .unset, .unset, .unset, .unset, .unset, .unset, .unset, .unset, .unset, .unset] [(.long (9223372036854775807 : Int64)), (.long p1)])) t
    refine XS.land X0.here hx rfl (hb hby at_21) rfl ?_
    show Steps p.tables e below (s₁.setTop (mkF m 22 #[.val (.long p0), .second, .val (.long p1), .second, .val (.int p2), .val (.int p3), .val (.int p4), .val (.long aa), .second, .unset, .unset, .unset, .unset, .unset, .unset, .unset, .unset, .unset, .unset, .unset, .unset, .unset, .unset] [(.long (p1 &&& (9223372036854775807 : Int64)))])) t
    refine XS.lstore X0.here hx rfl (hb hby at_22) rfl (l' := #[.val (.long p0), .second, .val (.long p1), .second, .val (.int p2), .val (.int p3), .val (.int p4), .val (.long aa), .second, .val (.long (p1 &&& (9223372036854775807 : Int64))), .second, .unset, .unset, .unset, .unset, .unset, .unset, .unset, .unset, .unset, .unset, .unset, .unset]) rfl ?_
    show Steps p.tables e below (s₁.setTop (mkF m 24 #[.val (.long p0), .second, .val (.long p1), .second, .val (.int p2), .val (.int p3), .val (.int p4), .val (.long aa), .second, .val (.long (p1 &&& (9223372036854775807 : Int64))), .second, .unset, .unset, .unset, .unset, .unset, .unset, .unset, .unset, .unset, .unset, .unset, .unset] [])) t
    exact k)
  obtain ⟨k_bb, hk_bb⟩ : ∃ z : Int64, z = (p1 &&& (9223372036854775807 : Int64)) := ⟨_, rfl⟩
  rw [← hk_bb] at pre
  replace pre : Pth p e below S0 s₁ (mkF m 28 #[.val (.long p0), .second, .val (.long p1), .second, .val (.int p2), .val (.int p3), .val (.int p4), .val (.long aa), .second, .val (.long k_bb), .second, .unset, .unset, .unset, .unset, .unset, .unset, .unset, .unset, .unset, .unset, .unset, .unset] [(.int (XT.cmpL k_bb (0 : Int64)))]) := fun t k => pre t (by
    show Steps p.tables e below (s₁.setTop (mkF m 24 #[.val (.long p0), .second, .val (.long p1), .second, .val (.int p2), .val (.int p3), .val (.int p4), .val (.long aa), .second, .val (.long k_bb), .second, .unset, .unset, .unset, .unset, .unset, .unset, .unset, .unset, .unset, .unset, .unset, .unset] [])) t
    refine XS.lload X0.here hx rfl (hb hby at_24) rfl ?_
    show Steps p.tables e below (s₁.setTop (mkF m 26 #[.val (.long p0), .second, .val (.long p1), .second, .val (.int p2), .val (.int p3), .val (.int p4), .val (.long aa), .second, .val (.long k_bb), .second, .unset, .unset, .unset, .unset, .unset, .unset, .unset, .unset, .unset, .unset, .unset, .unset] [(.long k_bb)])) t
    refine XS.lconst X0.here hx rfl (hb hby at_26) ?_
    show Steps p.tables e below (s₁.setTop (mkF m 27 #[.val (.long p0), .second, .val (.long p1), .second, .val (.int p2), .val (.int p3), .val (.int p4), .val (.long aa), .second, .val (.long k_bb), .second, .unset, .unset, .unset, .unset, .unset, .unset, .unset, .unset, .unset, .unset, .unset, .unset] [(.long (0 : Int64)), (.long k_bb)])) t
    refine XT.lcmp X0.here hx rfl (hb hby at_27) rfl ?_
    show Steps p.tables e below (s₁.setTop (mkF m 28 #[.val (.long p0), .second, .val (.long p1), .second, .val (.int p2), .val (.int p3), .val (.int p4), .val (.long aa), .second, .val (.long k_bb), .second, .unset, .unset, .unset, .unset, .unset, .unset, .unset, .unset, .unset, .unset, .unset, .unset] [(.int (XT.cmpL k_bb (0 : Int64)))])) t
    exact k)
  obtain ⟨bb, pb, pre⟩ : ∃ bb : Int64, 1 ≤ bb.toInt ∧ Pth p e below S0 s₁ (mkF m 34 #[.val (.long p0), .second, .val (.long p1), .second, .val (.int p2), .val (.int p3), .val (.int p4), .val (.long aa), .second, .val (.long bb), .second, .unset, .unset, .unset, .unset, .unset, .unset, .unset, .unset, .unset, .unset, .unset, .unset] []) := by
    by_cases z1 : k_bb = (0 : Int64)
    · replace pre : Pth p e below S0 s₁ (mkF m 34 #[.val (.long p0), .second, .val (.long p1), .second, .val (.int p2), .val (.int p3), .val (.int p4), .val (.long aa), .second, .val (.long (1 : Int64)), .second, .unset, .unset, .unset, .unset, .unset, .unset, .unset, .unset, .unset, .unset, .unset, .unset] []) := fun t k => pre t (by
        show Steps p.tables e below (s₁.setTop (mkF m 28 #[.val (.long p0), .second, .val (.long p1), .second, .val (.int p2), .val (.int p3), .val (.int p4), .val (.long aa), .second, .val (.long k_bb), .second, .unset, .unset, .unset, .unset, .unset, .unset, .unset, .unset, .unset, .unset, .unset, .unset] [(.int (XT.cmpL k_bb (0 : Int64)))])) t
        refine XS.ifNo X0.here hx rfl (hb hby at_28) rfl (XT.ll_ne_f z1) ?_
        show Steps p.tables e below (s₁.setTop (mkF m 31 #[.val (.long p0), .second, .val (.long p1), .second, .val (.int p2), .val (.int p3), .val (.int p4), .val (.long aa), .second, .val (.long k_bb), .second, .unset, .unset, .unset, .unset, .unset, .unset, .unset, .unset, .unset, .unset, .unset, .unset] [])) t
        refine XS.lconst X0.here hx rfl (hb hby at_31) ?_
        show Steps p.tables e below (s₁.setTop (mkF m 32 #[.val (.long p0), .second, .val (.long p1), .second, .val (.int p2), .val (.int p3), .val (.int p4), .val (.long aa), .second, .val (.long k_bb), .second, .unset, .unset, .unset, .unset, .unset, .unset, .unset, .unset, .unset, .unset, .unset, .unset] [(.long (1 : Int64))])) t
        refine XS.lstore X0.here hx rfl (hb hby at_32) rfl (l' := #[.val (.long p0), .second, .val (.long p1), .second, .val (.int p2), .val (.int p3), .val (.int p4), .val (.long aa), .second, .val (.long (1 : Int64)), .second, .unset, .unset, .unset, .unset, .unset, .unset, .unset, .unset, .unset, .unset, .unset, .unset]) rfl ?_
        show Steps p.tables e below (s₁.setTop (mkF m 34 #[.val (.long p0), .second, .val (.long p1), .second, .val (.int p2), .val (.int p3), .val (.int p4), .val (.long aa), .second, .val (.long (1 : Int64)), .second, .unset, .unset, .unset, .unset, .unset, .unset, .unset, .unset, .unset, .unset, .unset, .unset] [])) t
        exact k)
      exact ⟨(1 : Int64), by decide, pre⟩
    · replace pre : Pth p e below S0 s₁ (mkF m 34 #[.val (.long p0), .second, .val (.long p1), .second, .val (.int p2), .val (.int p3), .val (.int p4), .val (.long aa), .second, .val (.long k_bb), .second, .unset, .unset, .unset, .unset, .unset, .unset, .unset, .unset, .unset, .unset, .unset, .unset] []) := fun t k => pre t (by
        show Steps p.tables e below (s₁.setTop (mkF m 28 #[.val (.long p0), .second, .val (.long p1), .second, .val (.int p2), .val (.int p3), .val (.int p4), .val (.long aa), .second, .val (.long k_bb), .second, .unset, .unset, .unset, .unset, .unset, .unset, .unset, .unset, .unset, .unset, .unset, .unset] [(.int (XT.cmpL k_bb (0 : Int64)))])) t
        refine XS.ifYes X0.here hx rfl (pc0 := 28) (pc' := 34) rfl (hb hby at_28) rfl (XT.ll_ne_t z1) (by decide) (by decide) ?_
        show Steps p.tables e below (s₁.setTop (mkF m 34 #[.val (.long p0), .second, .val (.long p1), .second, .val (.int p2), .val (.int p3), .val (.int p4), .val (.long aa), .second, .val (.long k_bb), .second, .unset, .unset, .unset, .unset, .unset, .unset, .unset, .unset, .unset, .unset, .unset, .unset] [])) t
        exact k)
      exact ⟨_, own_pos hk_bb z1, pre⟩
  replace pre : Pth p e below S0 s₁ (mkF m 38 #[.val (.long p0), .second, .val (.long p1), .second, .val (.int p2), .val (.int p3), .val (.int p4), .val (.long aa), .second, .val (.long bb), .second, .unset, .unset, .unset, .unset, .unset, .unset, .unset, .unset, .unset, .unset, .unset, .unset] [(.long bb), (.long aa)]) := fun t k => pre t (by
    show Steps p.tables e below (s₁.setTop (mkF m 34 #[.val (.long p0), .second, .val (.long p1), .second, .val (.int p2), .val (.int p3), .val (.int p4), .val (.long aa), .second, .val (.long bb), .second, .unset, .unset, .unset, .unset, .unset, .unset, .unset, .unset, .unset, .unset, .unset, .unset] [])) t
    refine XS.lload X0.here hx rfl (hb hby at_34) rfl ?_
    show Steps p.tables e below (s₁.setTop (mkF m 36 #[.val (.long p0), .second, .val (.long p1), .second, .val (.int p2), .val (.int p3), .val (.int p4), .val (.long aa), .second, .val (.long bb), .second, .unset, .unset, .unset, .unset, .unset, .unset, .unset, .unset, .unset, .unset, .unset, .unset] [(.long aa)])) t
    refine XS.lload X0.here hx rfl (hb hby at_36) rfl ?_
    show Steps p.tables e below (s₁.setTop (mkF m 38 #[.val (.long p0), .second, .val (.long p1), .second, .val (.int p2), .val (.int p3), .val (.int p4), .val (.long aa), .second, .val (.long bb), .second, .unset, .unset, .unset, .unset, .unset, .unset, .unset, .unset, .unset, .unset, .unset, .unset] [(.long bb), (.long aa)])) t
    exact k)
  obtain ⟨_, _, ⟨T1, L1, k1, n1⟩, -, X1, ⟨Lc1, hQ1, l1, y1, z1⟩, st1⟩ := Jvm.LawKit.callS X0 hx (y := (⟨"com/example/inexact_limiter/inexactlimiter/algorithm/Exact", "gcd", "(JJ)J"⟩ : MethodName)) hown (mvT hZ (hw _ (List.mem_of_getElem? (i := 1) rfl))) (mvT hZ (hw _ (List.mem_of_getElem? (i := 2) rfl))) (mvT hZ (hw _ (List.mem_of_getElem? (i := 3) rfl))) (mvT hZ (hw _ (List.mem_of_getElem? (i := 4) rfl))) (by decide) (backOf (W := 0) (rm_gcd l Z a0 hw [] aa bb h0 n0 Z0 (by omega) (by omega)) hZ (hw _ (List.mem_of_getElem? (i := 4) rfl)) (hw _ (List.mem_of_getElem? (i := 3) rfl)) (by decide) (by decide)) (g := (mkF m 38 #[.val (.long p0), .second, .val (.long p1), .second, .val (.int p2), .val (.int p3), .val (.int p4), .val (.long aa), .second, .val (.long bb), .second, .unset, .unset, .unset, .unset, .unset, .unset, .unset, .unset, .unset, .unset, .unset, .unset] [(.long bb), (.long aa)])) rfl (by rw [hml]; rfl) (argsL := [(.long aa), (.long bb)]) (rest := []) (lenOf pd__JJ_J rfl) rfl (by show 2 * 0 + _ ≤ _; exact Nat.le_of_eq rfl) (hb hby at_38) (fun _ _ => ⟨rfl, e0, (by decide : 0 + 0 ≤ _), (by decide : 0 + 0 ≤ _)⟩)
  dsimp only [Pt.U, Pt.locs, Pt.cells, Pt.slots] at X1 l1 y1 z1 st1 hQ1
  subst l1 y1 z1
  obtain ⟨rfl, N1q, e1⟩ := hQ1
  have N1 := Fr.app N0 N1q
  replace pre : Pth p e below S0 T1 (mkF m 41 #[.val (.long p0), .second, .val (.long p1), .second, .val (.int p2), .val (.int p3), .val (.int p4), .val (.long aa), .second, .val (.long bb), .second, .unset, .unset, .unset, .unset, .unset, .unset, .unset, .unset, .unset, .unset, .unset, .unset] [(.long (own_g aa bb))]) := fun t k => pre t (st1 _ k)
  replace pre : Pth p e below S0 T1 (mkF m 43 #[.val (.long p0), .second, .val (.long p1), .second, .val (.int p2), .val (.int p3), .val (.int p4), .val (.long aa), .second, .val (.long bb), .second, .val (.long (own_g aa bb)), .second, .unset, .unset, .unset, .unset, .unset, .unset, .unset, .unset, .unset, .unset] []) := fun t k => pre t (by
    show Steps p.tables e below (T1.setTop (mkF m 41 #[.val (.long p0), .second, .val (.long p1), .second, .val (.int p2), .val (.int p3), .val (.int p4), .val (.long aa), .second, .val (.long bb), .second, .unset, .unset, .unset, .unset, .unset, .unset, .unset, .unset, .unset, .unset, .unset, .unset] [(.long (own_g aa bb))])) t
    refine XS.lstore X1.here hx rfl (hb hby at_41) rfl (l' := #[.val (.long p0), .second, .val (.long p1), .second, .val (.int p2), .val (.int p3), .val (.int p4), .val (.long aa), .second, .val (.long bb), .second, .val (.long (own_g aa bb)), .second, .unset, .unset, .unset, .unset, .unset, .unset, .unset, .unset, .unset, .unset]) rfl ?_
    show Steps p.tables e below (T1.setTop (mkF m 43 #[.val (.long p0), .second, .val (.long p1), .second, .val (.int p2), .val (.int p3), .val (.int p4), .val (.long aa), .second, .val (.long bb), .second, .val (.long (own_g aa bb)), .second, .unset, .unset, .unset, .unset, .unset, .unset, .unset, .unset, .unset, .unset] [])) t
    exact k)
  obtain ⟨gg, hg⟩ : ∃ z : Int64, z = (own_g aa bb) := ⟨_, rfl⟩
  rw [← hg] at pre
  obtain ⟨G1, G2, G3, G4, G5, G6, G7⟩ := own_gfacts pa pb hg
  replace pre : Pth p e below S0 T1 (mkF m 78 #[.val (.long p0), .second, .val (.long p1), .second, .val (.int p2), .val (.int p3), .val (.int p4), .val (.long aa), .second, .val (.long bb), .second, .val (.long gg), .second, .unset, .unset, .unset, .unset, .unset, .unset, .unset, .unset, .unset, .unset] [(.long aa), (.long bb)]) := fun t k => pre t (by
    show Steps p.tables e below (T1.setTop (mkF m 43 #[.val (.long p0), .second, .val (.long p1), .second, .val (.int p2), .val (.int p3), .val (.int p4), .val (.long aa), .second, .val (.long bb), .second, .val (.long gg), .second, .unset, .unset, .unset, .unset, .unset, .unset, .unset, .unset, .unset, .unset] [])) t
    refine XS.lload X1.here hx rfl (hb hby at_43) rfl ?_
    show Steps p.tables e below (T1.setTop (mkF m 45 #[.val (.long p0), .second, .val (.long p1), .second, .val (.int p2), .val (.int p3), .val (.int p4), .val (.long aa), .second, .val (.long bb), .second, .val (.long gg), .second, .unset, .unset, .unset, .unset, .unset, .unset, .unset, .unset, .unset, .unset] [(.long gg)])) t
    refine XS.lconst X1.here hx rfl (hb hby at_45) ?_
    show Steps p.tables e below (T1.setTop (mkF m 46 #[.val (.long p0), .second, .val (.long p1), .second, .val (.int p2), .val (.int p3), .val (.int p4), .val (.long aa), .second, .val (.long bb), .second, .val (.long gg), .second, .unset, .unset, .unset, .unset, .unset, .unset, .unset, .unset, .unset, .unset] [(.long (1 : Int64)), (.long gg)])) t
    refine XT.lcmp X1.here hx rfl (hb hby at_46) rfl ?_
    show Steps p.tables e below (T1.setTop (mkF m 47 #[.val (.long p0), .second, .val (.long p1), .second, .val (.int p2), .val (.int p3), .val (.int p4), .val (.long aa), .second, .val (.long bb), .second, .val (.long gg), .second, .unset, .unset, .unset, .unset, .unset, .unset, .unset, .unset, .unset, .unset] [(.int (XT.cmpL gg (1 : Int64)))])) t
    refine XS.ifYes X1.here hx rfl (pc0 := 47) (pc' := 52) rfl (hb hby at_47) rfl (XT.ll_ge_t G1) (by decide) (by decide) ?_
    show Steps p.tables e below (T1.setTop (mkF m 52 #[.val (.long p0), .second, .val (.long p1), .second, .val (.int p2), .val (.int p3), .val (.int p4), .val (.long aa), .second, .val (.long bb), .second, .val (.long gg), .second, .unset, .unset, .unset, .unset, .unset, .unset, .unset, .unset, .unset, .unset] [])) t
    refine XS.lload X1.here hx rfl (hb hby at_52) rfl ?_
    show Steps p.tables e below (T1.setTop (mkF m 54 #[.val (.long p0), .second, .val (.long p1), .second, .val (.int p2), .val (.int p3), .val (.int p4), .val (.long aa), .second, .val (.long bb), .second, .val (.long gg), .second, .unset, .unset, .unset, .unset, .unset, .unset, .unset, .unset, .unset, .unset] [(.long aa)])) t
    refine XS.lload X1.here hx rfl (hb hby at_54) rfl ?_
    show Steps p.tables e below (T1.setTop (mkF m 56 #[.val (.long p0), .second, .val (.long p1), .second, .val (.int p2), .val (.int p3), .val (.int p4), .val (.long aa), .second, .val (.long bb), .second, .val (.long gg), .second, .unset, .unset, .unset, .unset, .unset, .unset, .unset, .unset, .unset, .unset] [(.long gg), (.long aa)])) t
    refine XS.lrem X1.here hx rfl (hb hby at_56) rfl G2 ?_
    show Steps p.tables e below (T1.setTop (mkF m 57 #[.val (.long p0), .second, .val (.long p1), .second, .val (.int p2), .val (.int p3), .val (.int p4), .val (.long aa), .second, .val (.long bb), .second, .val (.long gg), .second, .unset, .unset, .unset, .unset, .unset, .unset, .unset, .unset, .unset, .unset] [(.long (aa - (aa / gg) * gg))])) t
    refine XS.lconst X1.here hx rfl (hb hby at_57) ?_
    show Steps p.tables e below (T1.setTop (mkF m 58 #[.val (.long p0), .second, .val (.long p1), .second, .val (.int p2), .val (.int p3), .val (.int p4), .val (.long aa), .second, .val (.long bb), .second, .val (.long gg), .second, .unset, .unset, .unset, .unset, .unset, .unset, .unset, .unset, .unset, .unset] [(.long (0 : Int64)), (.long (aa - (aa / gg) * gg))])) t
    refine XT.lcmp X1.here hx rfl (hb hby at_58) rfl ?_
    show Steps p.tables e below (T1.setTop (mkF m 59 #[.val (.long p0), .second, .val (.long p1), .second, .val (.int p2), .val (.int p3), .val (.int p4), .val (.long aa), .second, .val (.long bb), .second, .val (.long gg), .second, .unset, .unset, .unset, .unset, .unset, .unset, .unset, .unset, .unset, .unset] [(.int (XT.cmpL (aa - (aa / gg) * gg) (0 : Int64)))])) t
    refine XS.ifNo X1.here hx rfl (hb hby at_59) rfl (XT.ll_ne_f G3) ?_
    show Steps p.tables e below (T1.setTop (mkF m 62 #[.val (.long p0), .second, .val (.long p1), .second, .val (.int p2), .val (.int p3), .val (.int p4), .val (.long aa), .second, .val (.long bb), .second, .val (.long gg), .second, .unset, .unset, .unset, .unset, .unset, .unset, .unset, .unset, .unset, .unset] [])) t
    refine XS.lload X1.here hx rfl (hb hby at_62) rfl ?_
    show Steps p.tables e below (T1.setTop (mkF m 64 #[.val (.long p0), .second, .val (.long p1), .second, .val (.int p2), .val (.int p3), .val (.int p4), .val (.long aa), .second, .val (.long bb), .second, .val (.long gg), .second, .unset, .unset, .unset, .unset, .unset, .unset, .unset, .unset, .unset, .unset] [(.long bb)])) t
    refine XS.lload X1.here hx rfl (hb hby at_64) rfl ?_
    show Steps p.tables e below (T1.setTop (mkF m 66 #[.val (.long p0), .second, .val (.long p1), .second, .val (.int p2), .val (.int p3), .val (.int p4), .val (.long aa), .second, .val (.long bb), .second, .val (.long gg), .second, .unset, .unset, .unset, .unset, .unset, .unset, .unset, .unset, .unset, .unset] [(.long gg), (.long bb)])) t
    refine XS.lrem X1.here hx rfl (hb hby at_66) rfl G2 ?_
    show Steps p.tables e below (T1.setTop (mkF m 67 #[.val (.long p0), .second, .val (.long p1), .second, .val (.int p2), .val (.int p3), .val (.int p4), .val (.long aa), .second, .val (.long bb), .second, .val (.long gg), .second, .unset, .unset, .unset, .unset, .unset, .unset, .unset, .unset, .unset, .unset] [(.long (bb - (bb / gg) * gg))])) t
    refine XS.lconst X1.here hx rfl (hb hby at_67) ?_
    show Steps p.tables e below (T1.setTop (mkF m 68 #[.val (.long p0), .second, .val (.long p1), .second, .val (.int p2), .val (.int p3), .val (.int p4), .val (.long aa), .second, .val (.long bb), .second, .val (.long gg), .second, .unset, .unset, .unset, .unset, .unset, .unset, .unset, .unset, .unset, .unset] [(.long (0 : Int64)), (.long (bb - (bb / gg) * gg))])) t
    refine XT.lcmp X1.here hx rfl (hb hby at_68) rfl ?_
    show Steps p.tables e below (T1.setTop (mkF m 69 #[.val (.long p0), .second, .val (.long p1), .second, .val (.int p2), .val (.int p3), .val (.int p4), .val (.long aa), .second, .val (.long bb), .second, .val (.long gg), .second, .unset, .unset, .unset, .unset, .unset, .unset, .unset, .unset, .unset, .unset] [(.int (XT.cmpL (bb - (bb / gg) * gg) (0 : Int64)))])) t
    refine XS.ifYes X1.here hx rfl (pc0 := 69) (pc' := 74) rfl (hb hby at_69) rfl (XT.ll_eq_t G4) (by decide) (by decide) ?_
    show Steps p.tables e below (T1.setTop (mkF m 74 #[.val (.long p0), .second, .val (.long p1), .second, .val (.int p2), .val (.int p3), .val (.int p4), .val (.long aa), .second, .val (.long bb), .second, .val (.long gg), .second, .unset, .unset, .unset, .unset, .unset, .unset, .unset, .unset, .unset, .unset] [])) t
    refine XS.lload X1.here hx rfl (hb hby at_74) rfl ?_
    show Steps p.tables e below (T1.setTop (mkF m 76 #[.val (.long p0), .second, .val (.long p1), .second, .val (.int p2), .val (.int p3), .val (.int p4), .val (.long aa), .second, .val (.long bb), .second, .val (.long gg), .second, .unset, .unset, .unset, .unset, .unset, .unset, .unset, .unset, .unset, .unset] [(.long bb)])) t
    refine XS.lload X1.here hx rfl (hb hby at_76) rfl ?_
    show Steps p.tables e below (T1.setTop (mkF m 78 #[.val (.long p0), .second, .val (.long p1), .second, .val (.int p2), .val (.int p3), .val (.int p4), .val (.long aa), .second, .val (.long bb), .second, .val (.long gg), .second, .unset, .unset, .unset, .unset, .unset, .unset, .unset, .unset, .unset, .unset] [(.long aa), (.long bb)])) t
    exact k)
  obtain ⟨_, _, ⟨T2, L2, k2, n2⟩, -, X2, ⟨Lc2, hQ2, l2, y2, z2⟩, st2⟩ := Jvm.LawKit.callS X1 hx (y := (⟨"com/example/inexact_limiter/inexactlimiter/algorithm/Exact", "gcd", "(JJ)J"⟩ : MethodName)) hown (mvT hZ (hw _ (List.mem_of_getElem? (i := 1) rfl))) (mvT hZ (hw _ (List.mem_of_getElem? (i := 2) rfl))) (mvT hZ (hw _ (List.mem_of_getElem? (i := 3) rfl))) (mvT hZ (hw _ (List.mem_of_getElem? (i := 4) rfl))) (by decide) (backOf (W := 0) (rm_gcd l Z a0 hw [] bb aa h0 n0 Z0 (by omega) (by omega)) hZ (hw _ (List.mem_of_getElem? (i := 4) rfl)) (hw _ (List.mem_of_getElem? (i := 3) rfl)) (by decide) (by decide)) (g := (mkF m 78 #[.val (.long p0), .second, .val (.long p1), .second, .val (.int p2), .val (.int p3), .val (.int p4), .val (.long aa), .second, .val (.long bb), .second, .val (.long gg), .second, .unset, .unset, .unset, .unset, .unset, .unset, .unset, .unset, .unset, .unset] [(.long aa), (.long bb)])) rfl (by rw [hml]; rfl) (argsL := [(.long bb), (.long aa)]) (rest := []) (lenOf pd__JJ_J rfl) rfl (by show 2 * 0 + _ ≤ _; exact Nat.le_of_eq rfl) (hb hby at_78) (fun _ _ => ⟨rfl, e1, (by decide : 0 + 0 ≤ _), (by decide : 0 + 0 ≤ _)⟩)
  dsimp only [Pt.U, Pt.locs, Pt.cells, Pt.slots] at X2 l2 y2 z2 st2 hQ2
  subst l2 y2 z2
  obtain ⟨rfl, N2q, e2⟩ := hQ2
  have N2 := Fr.app N1 N2q
  replace pre : Pth p e below S0 T2 (mkF m 81 #[.val (.long p0), .second, .val (.long p1), .second, .val (.int p2), .val (.int p3), .val (.int p4), .val (.long aa), .second, .val (.long bb), .second, .val (.long gg), .second, .unset, .unset, .unset, .unset, .unset, .unset, .unset, .unset, .unset, .unset] [(.long (own_g bb aa))]) := fun t k => pre t (st2 _ k)
  replace pre : Pth p e below S0 T2 (mkF m 99 #[.val (.long p0), .second, .val (.long p1), .second, .val (.int p2), .val (.int p3), .val (.int p4), .val (.long aa), .second, .val (.long bb), .second, .val (.long gg), .second, .unset, .unset, .unset, .unset, .unset, .unset, .unset, .unset, .unset, .unset] [(.long (bb / gg)), (.long (aa / gg))]) := fun t k => pre t (by
    show Steps p.tables e below (T2.setTop (mkF m 81 #[.val (.long p0), .second, .val (.long p1), .second, .val (.int p2), .val (.int p3), .val (.int p4), .val (.long aa), .second, .val (.long bb), .second, .val (.long gg), .second, .unset, .unset, .unset, .unset, .unset, .unset, .unset, .unset, .unset, .unset] [(.long (own_g bb aa))])) t
    refine XS.lload X2.here hx rfl (hb hby at_81) rfl ?_
    show Steps p.tables e below (T2.setTop (mkF m 83 #[.val (.long p0), .second, .val (.long p1), .second, .val (.int p2), .val (.int p3), .val (.int p4), .val (.long aa), .second, .val (.long bb), .second, .val (.long gg), .second, .unset, .unset, .unset, .unset, .unset, .unset, .unset, .unset, .unset, .unset] [(.long gg), (.long (own_g bb aa))])) t
    refine XT.lcmp X2.here hx rfl (hb hby at_83) rfl ?_
    show Steps p.tables e below (T2.setTop (mkF m 84 #[.val (.long p0), .second, .val (.long p1), .second, .val (.int p2), .val (.int p3), .val (.int p4), .val (.long aa), .second, .val (.long bb), .second, .val (.long gg), .second, .unset, .unset, .unset, .unset, .unset, .unset, .unset, .unset, .unset, .unset] [(.int (XT.cmpL (own_g bb aa) gg))])) t
    refine XS.ifYes X2.here hx rfl (pc0 := 84) (pc' := 89) rfl (hb hby at_84) rfl (XT.ll_eq_t G5) (by decide) (by decide) ?_
    show Steps p.tables e below (T2.setTop (mkF m 89 #[.val (.long p0), .second, .val (.long p1), .second, .val (.int p2), .val (.int p3), .val (.int p4), .val (.long aa), .second, .val (.long bb), .second, .val (.long gg), .second, .unset, .unset, .unset, .unset, .unset, .unset, .unset, .unset, .unset, .unset] [])) t
    refine XS.lload X2.here hx rfl (hb hby at_89) rfl ?_
    show Steps p.tables e below (T2.setTop (mkF m 91 #[.val (.long p0), .second, .val (.long p1), .second, .val (.int p2), .val (.int p3), .val (.int p4), .val (.long aa), .second, .val (.long bb), .second, .val (.long gg), .second, .unset, .unset, .unset, .unset, .unset, .unset, .unset, .unset, .unset, .unset] [(.long aa)])) t
    refine XS.lload X2.here hx rfl (hb hby at_91) rfl ?_
    show Steps p.tables e below (T2.setTop (mkF m 93 #[.val (.long p0), .second, .val (.long p1), .second, .val (.int p2), .val (.int p3), .val (.int p4), .val (.long aa), .second, .val (.long bb), .second, .val (.long gg), .second, .unset, .unset, .unset, .unset, .unset, .unset, .unset, .unset, .unset, .unset] [(.long gg), (.long aa)])) t
    refine XS.ldiv X2.here hx rfl (hb hby at_93) rfl G2 ?_
    show Steps p.tables e below (T2.setTop (mkF m 94 #[.val (.long p0), .second, .val (.long p1), .second, .val (.int p2), .val (.int p3), .val (.int p4), .val (.long aa), .second, .val (.long bb), .second, .val (.long gg), .second, .unset, .unset, .unset, .unset, .unset, .unset, .unset, .unset, .unset, .unset] [(.long (aa / gg))])) t
    refine XS.lload X2.here hx rfl (hb hby at_94) rfl ?_
    show Steps p.tables e below (T2.setTop (mkF m 96 #[.val (.long p0), .second, .val (.long p1), .second, .val (.int p2), .val (.int p3), .val (.int p4), .val (.long aa), .second, .val (.long bb), .second, .val (.long gg), .second, .unset, .unset, .unset, .unset, .unset, .unset, .unset, .unset, .unset, .unset] [(.long bb), (.long (aa / gg))])) t
    refine XS.lload X2.here hx rfl (hb hby at_96) rfl ?_
    show Steps p.tables e below (T2.setTop (mkF m 98 #[.val (.long p0), .second, .val (.long p1), .second, .val (.int p2), .val (.int p3), .val (.int p4), .val (.long aa), .second, .val (.long bb), .second, .val (.long gg), .second, .unset, .unset, .unset, .unset, .unset, .unset, .unset, .unset, .unset, .unset] [(.long gg), (.long bb), (.long (aa / gg))])) t
    refine XS.ldiv X2.here hx rfl (hb hby at_98) rfl G2 ?_
    show Steps p.tables e below (T2.setTop (mkF m 99 #[.val (.long p0), .second, .val (.long p1), .second, .val (.int p2), .val (.int p3), .val (.int p4), .val (.long aa), .second, .val (.long bb), .second, .val (.long gg), .second, .unset, .unset, .unset, .unset, .unset, .unset, .unset, .unset, .unset, .unset] [(.long (bb / gg)), (.long (aa / gg))])) t
    exact k)
  obtain ⟨_, _, ⟨T3, L3, k3, n3⟩, -, X3, ⟨Lc3, hQ3, l3, y3, z3⟩, st3⟩ := Jvm.LawKit.callS X2 hx (y := (⟨"com/example/inexact_limiter/inexactlimiter/algorithm/Exact", "gcd", "(JJ)J"⟩ : MethodName)) hown (mvT hZ (hw _ (List.mem_of_getElem? (i := 1) rfl))) (mvT hZ (hw _ (List.mem_of_getElem? (i := 2) rfl))) (mvT hZ (hw _ (List.mem_of_getElem? (i := 3) rfl))) (mvT hZ (hw _ (List.mem_of_getElem? (i := 4) rfl))) (by decide) (backOf (W := 0) (rm_gcd l Z a0 hw [] (aa / gg) (bb / gg) h0 n0 Z0 G6.1 G6.2) hZ (hw _ (List.mem_of_getElem? (i := 4) rfl)) (hw _ (List.mem_of_getElem? (i := 3) rfl)) (by decide) (by decide)) (g := (mkF m 99 #[.val (.long p0), .second, .val (.long p1), .second, .val (.int p2), .val (.int p3), .val (.int p4), .val (.long aa), .second, .val (.long bb), .second, .val (.long gg), .second, .unset, .unset, .unset, .unset, .unset, .unset, .unset, .unset, .unset, .unset] [(.long (bb / gg)), (.long (aa / gg))])) rfl (by rw [hml]; rfl) (argsL := [(.long (aa / gg)), (.long (bb / gg))]) (rest := []) (lenOf pd__JJ_J rfl) rfl (by show 2 * 0 + _ ≤ _; exact Nat.le_of_eq rfl) (hb hby at_99) (fun _ _ => ⟨rfl, e2, (by decide : 0 + 0 ≤ _), (by decide : 0 + 0 ≤ _)⟩)
  dsimp only [Pt.U, Pt.locs, Pt.cells, Pt.slots] at X3 l3 y3 z3 st3 hQ3
  subst l3 y3 z3
  obtain ⟨rfl, N3q, e3⟩ := hQ3
  have N3 := Fr.app N2 N3q
  replace pre : Pth p e below S0 T3 (mkF m 102 #[.val (.long p0), .second, .val (.long p1), .second, .val (.int p2), .val (.int p3), .val (.int p4), .val (.long aa), .second, .val (.long bb), .second, .val (.long gg), .second, .unset, .unset, .unset, .unset, .unset, .unset, .unset, .unset, .unset, .unset] [(.long (own_g (aa / gg) (bb / gg)))]) := fun t k => pre t (st3 _ k)
  replace pre : Pth p e below S0 T3 (mkF m 120 #[.val (.long p0), .second, .val (.long p1), .second, .val (.int p2), .val (.int p3), .val (.int p4), .val (.long aa), .second, .val (.long bb), .second, .val (.long gg), .second, .val (.long (((p2.toInt64) &&& (2147483647 : Int64)) + (1 : Int64))), .second, .unset, .unset, .unset, .unset, .unset, .unset, .unset, .unset] []) := fun t k => pre t (by
    show Steps p.tables e below (T3.setTop (mkF m 102 #[.val (.long p0), .second, .val (.long p1), .second, .val (.int p2), .val (.int p3), .val (.int p4), .val (.long aa), .second, .val (.long bb), .second, .val (.long gg), .second, .unset, .unset, .unset, .unset, .unset, .unset, .unset, .unset, .unset, .unset] [(.long (own_g (aa / gg) (bb / gg)))])) t
    refine XS.lconst X3.here hx rfl (hb hby at_102) ?_
    show Steps p.tables e below (T3.setTop (mkF m 103 #[.val (.long p0), .second, .val (.long p1), .second, .val (.int p2), .val (.int p3), .val (.int p4), .val (.long aa), .second, .val (.long bb), .second, .val (.long gg), .second, .unset, .unset, .unset, .unset, .unset, .unset, .unset, .unset, .unset, .unset] [(.long (1 : Int64)), (.long (own_g (aa / gg) (bb / gg)))])) t
    refine XT.lcmp X3.here hx rfl (hb hby at_103) rfl ?_
    show Steps p.tables e below (T3.setTop (mkF m 104 #[.val (.long p0), .second, .val (.long p1), .second, .val (.int p2), .val (.int p3), .val (.int p4), .val (.long aa), .second, .val (.long bb), .second, .val (.long gg), .second, .unset, .unset, .unset, .unset, .unset, .unset, .unset, .unset, .unset, .unset] [(.int (XT.cmpL (own_g (aa / gg) (bb / gg)) (1 : Int64)))])) t
    refine XS.ifYes X3.here hx rfl (pc0 := 104) (pc' := 109) rfl (hb hby at_104) rfl (XT.ll_eq_t G7) (by decide) (by decide) ?_
    show Steps p.tables e below (T3.setTop (mkF m 109 #[.val (.long p0), .second, .val (.long p1), .second, .val (.int p2), .val (.int p3), .val (.int p4), .val (.long aa), .second, .val (.long bb), .second, .val (.long gg), .second, .unset, .unset, .unset, .unset, .unset, .unset, .unset, .unset, .unset, .unset] [])) t
    refine XS.iload X3.here hx rfl (hb hby at_109) rfl ?_
    show Steps p.tables e below (T3.setTop (mkF m 111 #[.val (.long p0), .second, .val (.long p1), .second, .val (.int p2), .val (.int p3), .val (.int p4), .val (.long aa), .second, .val (.long bb), .second, .val (.long gg), .second, .unset, .unset, .unset, .unset, .unset, .unset, .unset, .unset, .unset, .unset] [(.int p2)])) t
    refine XS.i2l X3.here hx rfl (hb hby at_111) rfl ?_
    show Steps p.tables e below (T3.setTop (mkF m 112 #[.val (.long p0), .second, .val (.long p1), .second, .val (.int p2), .val (.int p3), .val (.int p4), .val (.long aa), .second, .val (.long bb), .second, .val (.long gg), .second, .unset, .unset, .unset, .unset, .unset, .unset, .unset, .unset, .unset, .unset] [(.long (p2.toInt64))])) t
    refine X3.ldc2Long hx hown (mvT hZ (hw _ (List.mem_of_getElem? (i := 5) rfl))) (g := (mkF m 112 #[.val (.long p0), .second, .val (.long p1), .second, .val (.int p2), .val (.int p3), .val (.int p4), .val (.long aa), .second, .val (.long bb), .second, .val (.long gg), .second, .unset, .unset, .unset, .unset, .unset, .unset, .unset, .unset, .unset, .unset] [(.long (p2.toInt64))])) rfl (hb hby at_112) _ ?_
    show Steps p.tables e below (T3.setTop (mkF m 115 #[.val (.long p0), .second, .val (.long p1), .second, .val (.int p2), .val (.int p3), .val (.int p4), .val (.long aa), .second, .val (.long bb), .second, .val (.long gg), .second, .unset, .unset, .unset, .unset, .unset, .unset, .unset, .unset, .unset, .unset] [(.long (2147483647 : Int64)), (.long (p2.toInt64))])) t
    refine XS.land X3.here hx rfl (hb hby at_115) rfl ?_
    show Steps p.tables e below (T3.setTop (mkF m 116 #[.val (.long p0), .second, .val (.long p1), .second, .val (.int p2), .val (.int p3), .val (.int p4), .val (.long aa), .second, .val (.long bb), .second, .val (.long gg), .second, .unset, .unset, .unset, .unset, .unset, .unset, .unset, .unset, .unset, .unset] [(.long ((p2.toInt64) &&& (2147483647 : Int64)))])) t
    refine XS.lconst X3.here hx rfl (hb hby at_116) ?_
    show Steps p.tables e below (T3.setTop (mkF m 117 #[.val (.long p0), .second, .val (.long p1), .second, .val (.int p2), .val (.int p3), .val (.int p4), .val (.long aa), .second, .val (.long bb), .second, .val (.long gg), .second, .unset, .unset, .unset, .unset, .unset, .unset, .unset, .unset, .unset, .unset] [(.long (1 : Int64)), (.long ((p2.toInt64) &&& (2147483647 : Int64)))])) t
    refine XS.ladd X3.here hx rfl (hb hby at_117) rfl ?_
    show Steps p.tables e below (T3.setTop (mkF m 118 #[.val (.long p0), .second, .val (.long p1), .second, .val (.int p2), .val (.int p3), .val (.int p4), .val (.long aa), .second, .val (.long bb), .second, .val (.long gg), .second, .unset, .unset, .unset, .unset, .unset, .unset, .unset, .unset, .unset, .unset] [(.long (((p2.toInt64) &&& (2147483647 : Int64)) + (1 : Int64)))])) t
    refine XS.lstore X3.here hx rfl (hb hby at_118) rfl (l' := #[.val (.long p0), .second, .val (.long p1), .second, .val (.int p2), .val (.int p3), .val (.int p4), .val (.long aa), .second, .val (.long bb), .second, .val (.long gg), .second, .val (.long (((p2.toInt64) &&& (2147483647 : Int64)) + (1 : Int64))), .second, .unset, .unset, .unset, .unset, .unset, .unset, .unset, .unset]) rfl ?_
    show Steps p.tables e below (T3.setTop (mkF m 120 #[.val (.long p0), .second, .val (.long p1), .second, .val (.int p2), .val (.int p3), .val (.int p4), .val (.long aa), .second, .val (.long bb), .second, .val (.long gg), .second, .val (.long (((p2.toInt64) &&& (2147483647 : Int64)) + (1 : Int64))), .second, .unset, .unset, .unset, .unset, .unset, .unset, .unset, .unset] [])) t
    exact k)
  obtain ⟨g0, hg0⟩ : ∃ z : Int64, z = (((p2.toInt64) &&& (2147483647 : Int64)) + (1 : Int64)) := ⟨_, rfl⟩
  rw [← hg0] at pre
  replace pre : Pth p e below S0 T3 (mkF m 131 #[.val (.long p0), .second, .val (.long p1), .second, .val (.int p2), .val (.int p3), .val (.int p4), .val (.long aa), .second, .val (.long bb), .second, .val (.long gg), .second, .val (.long g0), .second, .val (.long (((p3 &&& (32767 : Int32)).toInt64) + (1 : Int64))), .second, .unset, .unset, .unset, .unset, .unset, .unset] []) := fun t k => pre t (by
    show Steps p.tables e below (T3.setTop (mkF m 120 #[.val (.long p0), .second, .val (.long p1), .second, .val (.int p2), .val (.int p3), .val (.int p4), .val (.long aa), .second, .val (.long bb), .second, .val (.long gg), .second, .val (.long g0), .second, .unset, .unset, .unset, .unset, .unset, .unset, .unset, .unset] [])) t
    refine XS.iload X3.here hx rfl (hb hby at_120) rfl ?_
    show Steps p.tables e below (T3.setTop (mkF m 122 #[.val (.long p0), .second, .val (.long p1), .second, .val (.int p2), .val (.int p3), .val (.int p4), .val (.long aa), .second, .val (.long bb), .second, .val (.long gg), .second, .val (.long g0), .second, .unset, .unset, .unset, .unset, .unset, .unset, .unset, .unset] [(.int p3)])) t
    refine XS.sipush X3.here hx rfl (hb hby at_122) ?_
    show Steps p.tables e below (T3.setTop (mkF m 125 #[.val (.long p0), .second, .val (.long p1), .second, .val (.int p2), .val (.int p3), .val (.int p4), .val (.long aa), .second, .val (.long bb), .second, .val (.long gg), .second, .val (.long g0), .second, .unset, .unset, .unset, .unset, .unset, .unset, .unset, .unset] [(.int (32767 : Int32)), (.int p3)])) t
    refine XS.iand X3.here hx rfl (hb hby at_125) rfl ?_
    show Steps p.tables e below (T3.setTop (mkF m 126 #[.val (.long p0), .second, .val (.long p1), .second, .val (.int p2), .val (.int p3), .val (.int p4), .val (.long aa), .second, .val (.long bb), .second, .val (.long gg), .second, .val (.long g0), .second, .unset, .unset, .unset, .unset, .unset, .unset, .unset, .unset] [(.int (p3 &&& (32767 : Int32)))])) t
    refine XS.i2l X3.here hx rfl (hb hby at_126) rfl ?_
    show Steps p.tables e below (T3.setTop (mkF m 127 #[.val (.long p0), .second, .val (.long p1), .second, .val (.int p2), .val (.int p3), .val (.int p4), .val (.long aa), .second, .val (.long bb), .second, .val (.long gg), .second, .val (.long g0), .second, .unset, .unset, .unset, .unset, .unset, .unset, .unset, .unset] [(.long ((p3 &&& (32767 : Int32)).toInt64))])) t
    refine XS.lconst X3.here hx rfl (hb hby at_127) ?_
    show Steps p.tables e below (T3.setTop (mkF m 128 #[.val (.long p0), .second, .val (.long p1), .second, .val (.int p2), .val (.int p3), .val (.int p4), .val (.long aa), .second, .val (.long bb), .second, .val (.long gg), .second, .val (.long g0), .second, .unset, .unset, .unset, .unset, .unset, .unset, .unset, .unset] [(.long (1 : Int64)), (.long ((p3 &&& (32767 : Int32)).toInt64))])) t
    refine XS.ladd X3.here hx rfl (hb hby at_128) rfl ?_
    show Steps p.tables e below (T3.setTop (mkF m 129 #[.val (.long p0), .second, .val (.long p1), .second, .val (.int p2), .val (.int p3), .val (.int p4), .val (.long aa), .second, .val (.long bb), .second, .val (.long gg), .second, .val (.long g0), .second, .unset, .unset, .unset, .unset, .unset, .unset, .unset, .unset] [(.long (((p3 &&& (32767 : Int32)).toInt64) + (1 : Int64)))])) t
    refine XS.lstore X3.here hx rfl (hb hby at_129) rfl (l' := #[.val (.long p0), .second, .val (.long p1), .second, .val (.int p2), .val (.int p3), .val (.int p4), .val (.long aa), .second, .val (.long bb), .second, .val (.long gg), .second, .val (.long g0), .second, .val (.long (((p3 &&& (32767 : Int32)).toInt64) + (1 : Int64))), .second, .unset, .unset, .unset, .unset, .unset, .unset]) rfl ?_
    show Steps p.tables e below (T3.setTop (mkF m 131 #[.val (.long p0), .second, .val (.long p1), .second, .val (.int p2), .val (.int p3), .val (.int p4), .val (.long aa), .second, .val (.long bb), .second, .val (.long gg), .second, .val (.long g0), .second, .val (.long (((p3 &&& (32767 : Int32)).toInt64) + (1 : Int64))), .second, .unset, .unset, .unset, .unset, .unset, .unset] [])) t
    exact k)
  obtain ⟨mm, hmm⟩ : ∃ z : Int64, z = (((p3 &&& (32767 : Int32)).toInt64) + (1 : Int64)) := ⟨_, rfl⟩
  rw [← hmm] at pre
  replace pre : Pth p e below S0 T3 (mkF m 140 #[.val (.long p0), .second, .val (.long p1), .second, .val (.int p2), .val (.int p3), .val (.int p4), .val (.long aa), .second, .val (.long bb), .second, .val (.long gg), .second, .val (.long g0), .second, .val (.long mm), .second, .val (.long ((p4 &&& (32767 : Int32)).toInt64)), .second, .unset, .unset, .unset, .unset] []) := fun t k => pre t (by
    show Steps p.tables e below (T3.setTop (mkF m 131 #[.val (.long p0), .second, .val (.long p1), .second, .val (.int p2), .val (.int p3), .val (.int p4), .val (.long aa), .second, .val (.long bb), .second, .val (.long gg), .second, .val (.long g0), .second, .val (.long mm), .second, .unset, .unset, .unset, .unset, .unset, .unset] [])) t
    refine XS.iload X3.here hx rfl (hb hby at_131) rfl ?_
    show Steps p.tables e below (T3.setTop (mkF m 133 #[.val (.long p0), .second, .val (.long p1), .second, .val (.int p2), .val (.int p3), .val (.int p4), .val (.long aa), .second, .val (.long bb), .second, .val (.long gg), .second, .val (.long g0), .second, .val (.long mm), .second, .unset, .unset, .unset, .unset, .unset, .unset] [(.int p4)])) t
    refine XS.sipush X3.here hx rfl (hb hby at_133) ?_
    show Steps p.tables e below (T3.setTop (mkF m 136 #[.val (.long p0), .second, .val (.long p1), .second, .val (.int p2), .val (.int p3), .val (.int p4), .val (.long aa), .second, .val (.long bb), .second, .val (.long gg), .second, .val (.long g0), .second, .val (.long mm), .second, .unset, .unset, .unset, .unset, .unset, .unset] [(.int (32767 : Int32)), (.int p4)])) t
    refine XS.iand X3.here hx rfl (hb hby at_136) rfl ?_
    show Steps p.tables e below (T3.setTop (mkF m 137 #[.val (.long p0), .second, .val (.long p1), .second, .val (.int p2), .val (.int p3), .val (.int p4), .val (.long aa), .second, .val (.long bb), .second, .val (.long gg), .second, .val (.long g0), .second, .val (.long mm), .second, .unset, .unset, .unset, .unset, .unset, .unset] [(.int (p4 &&& (32767 : Int32)))])) t
    refine XS.i2l X3.here hx rfl (hb hby at_137) rfl ?_
    show Steps p.tables e below (T3.setTop (mkF m 138 #[.val (.long p0), .second, .val (.long p1), .second, .val (.int p2), .val (.int p3), .val (.int p4), .val (.long aa), .second, .val (.long bb), .second, .val (.long gg), .second, .val (.long g0), .second, .val (.long mm), .second, .unset, .unset, .unset, .unset, .unset, .unset] [(.long ((p4 &&& (32767 : Int32)).toInt64))])) t
    refine XS.lstore X3.here hx rfl (hb hby at_138) rfl (l' := #[.val (.long p0), .second, .val (.long p1), .second, .val (.int p2), .val (.int p3), .val (.int p4), .val (.long aa), .second, .val (.long bb), .second, .val (.long gg), .second, .val (.long g0), .second, .val (.long mm), .second, .val (.long ((p4 &&& (32767 : Int32)).toInt64)), .second, .unset, .unset, .unset, .unset]) rfl ?_
    show Steps p.tables e below (T3.setTop (mkF m 140 #[.val (.long p0), .second, .val (.long p1), .second, .val (.int p2), .val (.int p3), .val (.int p4), .val (.long aa), .second, .val (.long bb), .second, .val (.long gg), .second, .val (.long g0), .second, .val (.long mm), .second, .val (.long ((p4 &&& (32767 : Int32)).toInt64)), .second, .unset, .unset, .unset, .unset] [])) t
    exact k)
  obtain ⟨kk, hkk⟩ : ∃ z : Int64, z = ((p4 &&& (32767 : Int32)).toInt64) := ⟨_, rfl⟩
  rw [← hkk] at pre
  replace pre : Pth p e below S0 T3 (mkF m 159 #[.val (.long p0), .second, .val (.long p1), .second, .val (.int p2), .val (.int p3), .val (.int p4), .val (.long aa), .second, .val (.long bb), .second, .val (.long gg), .second, .val (.long g0), .second, .val (.long mm), .second, .val (.long kk), .second, .val (.long (g0 * mm)), .second, .val (.long (g0 * ((kk * mm) + (1 : Int64)))), .second] []) := fun t k => pre t (by
    show Steps p.tables e below (T3.setTop (mkF m 140 #[.val (.long p0), .second, .val (.long p1), .second, .val (.int p2), .val (.int p3), .val (.int p4), .val (.long aa), .second, .val (.long bb), .second, .val (.long gg), .second, .val (.long g0), .second, .val (.long mm), .second, .val (.long kk), .second, .unset, .unset, .unset, .unset] [])) t
    refine XS.lload X3.here hx rfl (hb hby at_140) rfl ?_
    show Steps p.tables e below (T3.setTop (mkF m 142 #[.val (.long p0), .second, .val (.long p1), .second, .val (.int p2), .val (.int p3), .val (.int p4), .val (.long aa), .second, .val (.long bb), .second, .val (.long gg), .second, .val (.long g0), .second, .val (.long mm), .second, .val (.long kk), .second, .unset, .unset, .unset, .unset] [(.long g0)])) t
    refine XS.lload X3.here hx rfl (hb hby at_142) rfl ?_
    show Steps p.tables e below (T3.setTop (mkF m 144 #[.val (.long p0), .second, .val (.long p1), .second, .val (.int p2), .val (.int p3), .val (.int p4), .val (.long aa), .second, .val (.long bb), .second, .val (.long gg), .second, .val (.long g0), .second, .val (.long mm), .second, .val (.long kk), .second, .unset, .unset, .unset, .unset] [(.long mm), (.long g0)])) t
    refine XS.lmul X3.here hx rfl (hb hby at_144) rfl ?_
    show Steps p.tables e below (T3.setTop (mkF m 145 #[.val (.long p0), .second, .val (.long p1), .second, .val (.int p2), .val (.int p3), .val (.int p4), .val (.long aa), .second, .val (.long bb), .second, .val (.long gg), .second, .val (.long g0), .second, .val (.long mm), .second, .val (.long kk), .second, .unset, .unset, .unset, .unset] [(.long (g0 * mm))])) t
    refine XS.lstore X3.here hx rfl (hb hby at_145) rfl (l' := #[.val (.long p0), .second, .val (.long p1), .second, .val (.int p2), .val (.int p3), .val (.int p4), .val (.long aa), .second, .val (.long bb), .second, .val (.long gg), .second, .val (.long g0), .second, .val (.long mm), .second, .val (.long kk), .second, .val (.long (g0 * mm)), .second, .unset, .unset]) rfl ?_
    show Steps p.tables e below (T3.setTop (mkF m 147 #[.val (.long p0), .second, .val (.long p1), .second, .val (.int p2), .val (.int p3), .val (.int p4), .val (.long aa), .second, .val (.long bb), .second, .val (.long gg), .second, .val (.long g0), .second, .val (.long mm), .second, .val (.long kk), .second, .val (.long (g0 * mm)), .second, .unset, .unset] [])) t
    refine XS.lload X3.here hx rfl (hb hby at_147) rfl ?_
    show Steps p.tables e below (T3.setTop (mkF m 149 #[.val (.long p0), .second, .val (.long p1), .second, .val (.int p2), .val (.int p3), .val (.int p4), .val (.long aa), .second, .val (.long bb), .second, .val (.long gg), .second, .val (.long g0), .second, .val (.long mm), .second, .val (.long kk), .second, .val (.long (g0 * mm)), .second, .unset, .unset] [(.long g0)])) t
    refine XS.lload X3.here hx rfl (hb hby at_149) rfl ?_
    show Steps p.tables e below (T3.setTop (mkF m 151 #[.val (.long p0), .second, .val (.long p1), .second, .val (.int p2), .val (.int p3), .val (.int p4), .val (.long aa), .second, .val (.long bb), .second, .val (.long gg), .second, .val (.long g0), .second, .val (.long mm), .second, .val (.long kk), .second, .val (.long (g0 * mm)), .second, .unset, .unset] [(.long kk), (.long g0)])) t
    refine XS.lload X3.here hx rfl (hb hby at_151) rfl ?_
    show Steps p.tables e below (T3.setTop (mkF m 153 #[.val (.long p0), .second, .val (.long p1), .second, .val (.int p2), .val (.int p3), .val (.int p4), .val (.long aa), .second, .val (.long bb), .second, .val (.long gg), .second, .val (.long g0), .second, .val (.long mm), .second, .val (.long kk), .second, .val (.long (g0 * mm)), .second, .unset, .unset] [(.long mm), (.long kk), (.long g0)])) t
    refine XS.lmul X3.here hx rfl (hb hby at_153) rfl ?_
    show Steps p.tables e below (T3.setTop (mkF m 154 #[.val (.long p0), .second, .val (.long p1), .second, .val (.int p2), .val (.int p3), .val (.int p4), .val (.long aa), .second, .val (.long bb), .second, .val (.long gg), .second, .val (.long g0), .second, .val (.long mm), .second, .val (.long kk), .second, .val (.long (g0 * mm)), .second, .unset, .unset] [(.long (kk * mm)), (.long g0)])) t
    refine XS.lconst X3.here hx rfl (hb hby at_154) ?_
    show Steps p.tables e below (T3.setTop (mkF m 155 #[.val (.long p0), .second, .val (.long p1), .second, .val (.int p2), .val (.int p3), .val (.int p4), .val (.long aa), .second, .val (.long bb), .second, .val (.long gg), .second, .val (.long g0), .second, .val (.long mm), .second, .val (.long kk), .second, .val (.long (g0 * mm)), .second, .unset, .unset] [(.long (1 : Int64)), (.long (kk * mm)), (.long g0)])) t
    refine XS.ladd X3.here hx rfl (hb hby at_155) rfl ?_
    show Steps p.tables e below (T3.setTop (mkF m 156 #[.val (.long p0), .second, .val (.long p1), .second, .val (.int p2), .val (.int p3), .val (.int p4), .val (.long aa), .second, .val (.long bb), .second, .val (.long gg), .second, .val (.long g0), .second, .val (.long mm), .second, .val (.long kk), .second, .val (.long (g0 * mm)), .second, .unset, .unset] [(.long ((kk * mm) + (1 : Int64))), (.long g0)])) t
    refine XS.lmul X3.here hx rfl (hb hby at_156) rfl ?_
    show Steps p.tables e below (T3.setTop (mkF m 157 #[.val (.long p0), .second, .val (.long p1), .second, .val (.int p2), .val (.int p3), .val (.int p4), .val (.long aa), .second, .val (.long bb), .second, .val (.long gg), .second, .val (.long g0), .second, .val (.long mm), .second, .val (.long kk), .second, .val (.long (g0 * mm)), .second, .unset, .unset] [(.long (g0 * ((kk * mm) + (1 : Int64))))])) t
    refine XS.lstore X3.here hx rfl (hb hby at_157) rfl (l' := #[.val (.long p0), .second, .val (.long p1), .second, .val (.int p2), .val (.int p3), .val (.int p4), .val (.long aa), .second, .val (.long bb), .second, .val (.long gg), .second, .val (.long g0), .second, .val (.long mm), .second, .val (.long kk), .second, .val (.long (g0 * mm)), .second, .val (.long (g0 * ((kk * mm) + (1 : Int64)))), .second]) rfl ?_
    show Steps p.tables e below (T3.setTop (mkF m 159 #[.val (.long p0), .second, .val (.long p1), .second, .val (.int p2), .val (.int p3), .val (.int p4), .val (.long aa), .second, .val (.long bb), .second, .val (.long gg), .second, .val (.long g0), .second, .val (.long mm), .second, .val (.long kk), .second, .val (.long (g0 * mm)), .second, .val (.long (g0 * ((kk * mm) + (1 : Int64)))), .second] [])) t
    exact k)
  obtain ⟨xx, hxx⟩ : ∃ z : Int64, z = (g0 * mm) := ⟨_, rfl⟩
  rw [← hxx] at pre
  obtain ⟨yy, hyy⟩ : ∃ z : Int64, z = (g0 * ((kk * mm) + (1 : Int64))) := ⟨_, rfl⟩
  rw [← hyy] at pre
  obtain ⟨Y1, Y2, Y3, Y4⟩ := own_yfacts hg0 hmm hkk hxx hyy
  replace pre : Pth p e below S0 T3 (mkF m 163 #[.val (.long p0), .second, .val (.long p1), .second, .val (.int p2), .val (.int p3), .val (.int p4), .val (.long aa), .second, .val (.long bb), .second, .val (.long gg), .second, .val (.long g0), .second, .val (.long mm), .second, .val (.long kk), .second, .val (.long xx), .second, .val (.long yy), .second] [(.long yy), (.long xx)]) := fun t k => pre t (by
    show Steps p.tables e below (T3.setTop (mkF m 159 #[.val (.long p0), .second, .val (.long p1), .second, .val (.int p2), .val (.int p3), .val (.int p4), .val (.long aa), .second, .val (.long bb), .second, .val (.long gg), .second, .val (.long g0), .second, .val (.long mm), .second, .val (.long kk), .second, .val (.long xx), .second, .val (.long yy), .second] [])) t
    refine XS.lload X3.here hx rfl (hb hby at_159) rfl ?_
    show Steps p.tables e below (T3.setTop (mkF m 161 #[.val (.long p0), .second, .val (.long p1), .second, .val (.int p2), .val (.int p3), .val (.int p4), .val (.long aa), .second, .val (.long bb), .second, .val (.long gg), .second, .val (.long g0), .second, .val (.long mm), .second, .val (.long kk), .second, .val (.long xx), .second, .val (.long yy), .second] [(.long xx)])) t
    refine XS.lload X3.here hx rfl (hb hby at_161) rfl ?_
    show Steps p.tables e below (T3.setTop (mkF m 163 #[.val (.long p0), .second, .val (.long p1), .second, .val (.int p2), .val (.int p3), .val (.int p4), .val (.long aa), .second, .val (.long bb), .second, .val (.long gg), .second, .val (.long g0), .second, .val (.long mm), .second, .val (.long kk), .second, .val (.long xx), .second, .val (.long yy), .second] [(.long yy), (.long xx)])) t
    exact k)
  obtain ⟨_, _, ⟨T4, L4, k4, n4⟩, -, X4, ⟨Lc4, hQ4, l4, y4, z4⟩, st4⟩ := Jvm.LawKit.callS X3 hx (y := (⟨"com/example/inexact_limiter/inexactlimiter/algorithm/Exact", "gcd", "(JJ)J"⟩ : MethodName)) hown (mvT hZ (hw _ (List.mem_of_getElem? (i := 1) rfl))) (mvT hZ (hw _ (List.mem_of_getElem? (i := 2) rfl))) (mvT hZ (hw _ (List.mem_of_getElem? (i := 3) rfl))) (mvT hZ (hw _ (List.mem_of_getElem? (i := 4) rfl))) (by decide) (backOf (W := 0) (rm_gcd l Z a0 hw [] xx yy h0 n0 Z0 Y1 Y2) hZ (hw _ (List.mem_of_getElem? (i := 4) rfl)) (hw _ (List.mem_of_getElem? (i := 3) rfl)) (by decide) (by decide)) (g := (mkF m 163 #[.val (.long p0), .second, .val (.long p1), .second, .val (.int p2), .val (.int p3), .val (.int p4), .val (.long aa), .second, .val (.long bb), .second, .val (.long gg), .second, .val (.long g0), .second, .val (.long mm), .second, .val (.long kk), .second, .val (.long xx), .second, .val (.long yy), .second] [(.long yy), (.long xx)])) rfl (by rw [hml]; rfl) (argsL := [(.long xx), (.long yy)]) (rest := []) (lenOf pd__JJ_J rfl) rfl (by show 2 * 0 + _ ≤ _; exact Nat.le_of_eq rfl) (hb hby at_163) (fun _ _ => ⟨rfl, e3, (by decide : 0 + 0 ≤ _), (by decide : 0 + 0 ≤ _)⟩)
  dsimp only [Pt.U, Pt.locs, Pt.cells, Pt.slots] at X4 l4 y4 z4 st4 hQ4
  subst l4 y4 z4
  obtain ⟨rfl, N4q, e4⟩ := hQ4
  have N4 := Fr.app N3 N4q
  replace pre : Pth p e below S0 T4 (mkF m 166 #[.val (.long p0), .second, .val (.long p1), .second, .val (.int p2), .val (.int p3), .val (.int p4), .val (.long aa), .second, .val (.long bb), .second, .val (.long gg), .second, .val (.long g0), .second, .val (.long mm), .second, .val (.long kk), .second, .val (.long xx), .second, .val (.long yy), .second] [(.long (own_g xx yy))]) := fun t k => pre t (st4 _ k)
  replace pre : Pth p e below S0 T4 (mkF m 178 #[.val (.long p0), .second, .val (.long p1), .second, .val (.int p2), .val (.int p3), .val (.int p4), .val (.long aa), .second, .val (.long bb), .second, .val (.long gg), .second, .val (.long g0), .second, .val (.long mm), .second, .val (.long kk), .second, .val (.long xx), .second, .val (.long yy), .second] [(.long xx), (.long yy)]) := fun t k => pre t (by
    show Steps p.tables e below (T4.setTop (mkF m 166 #[.val (.long p0), .second, .val (.long p1), .second, .val (.int p2), .val (.int p3), .val (.int p4), .val (.long aa), .second, .val (.long bb), .second, .val (.long gg), .second, .val (.long g0), .second, .val (.long mm), .second, .val (.long kk), .second, .val (.long xx), .second, .val (.long yy), .second] [(.long (own_g xx yy))])) t
    refine XS.lload X4.here hx rfl (hb hby at_166) rfl ?_
    show Steps p.tables e below (T4.setTop (mkF m 168 #[.val (.long p0), .second, .val (.long p1), .second, .val (.int p2), .val (.int p3), .val (.int p4), .val (.long aa), .second, .val (.long bb), .second, .val (.long gg), .second, .val (.long g0), .second, .val (.long mm), .second, .val (.long kk), .second, .val (.long xx), .second, .val (.long yy), .second] [(.long g0), (.long (own_g xx yy))])) t
    refine XT.lcmp X4.here hx rfl (hb hby at_168) rfl ?_
    show Steps p.tables e below (T4.setTop (mkF m 169 #[.val (.long p0), .second, .val (.long p1), .second, .val (.int p2), .val (.int p3), .val (.int p4), .val (.long aa), .second, .val (.long bb), .second, .val (.long gg), .second, .val (.long g0), .second, .val (.long mm), .second, .val (.long kk), .second, .val (.long xx), .second, .val (.long yy), .second] [(.int (XT.cmpL (own_g xx yy) g0))])) t
    refine XS.ifYes X4.here hx rfl (pc0 := 169) (pc' := 174) rfl (hb hby at_169) rfl (XT.ll_eq_t Y3) (by decide) (by decide) ?_
    show Steps p.tables e below (T4.setTop (mkF m 174 #[.val (.long p0), .second, .val (.long p1), .second, .val (.int p2), .val (.int p3), .val (.int p4), .val (.long aa), .second, .val (.long bb), .second, .val (.long gg), .second, .val (.long g0), .second, .val (.long mm), .second, .val (.long kk), .second, .val (.long xx), .second, .val (.long yy), .second] [])) t
    refine XS.lload X4.here hx rfl (hb hby at_174) rfl ?_
    show Steps p.tables e below (T4.setTop (mkF m 176 #[.val (.long p0), .second, .val (.long p1), .second, .val (.int p2), .val (.int p3), .val (.int p4), .val (.long aa), .second, .val (.long bb), .second, .val (.long gg), .second, .val (.long g0), .second, .val (.long mm), .second, .val (.long kk), .second, .val (.long xx), .second, .val (.long yy), .second] [(.long yy)])) t
    refine XS.lload X4.here hx rfl (hb hby at_176) rfl ?_
    show Steps p.tables e below (T4.setTop (mkF m 178 #[.val (.long p0), .second, .val (.long p1), .second, .val (.int p2), .val (.int p3), .val (.int p4), .val (.long aa), .second, .val (.long bb), .second, .val (.long gg), .second, .val (.long g0), .second, .val (.long mm), .second, .val (.long kk), .second, .val (.long xx), .second, .val (.long yy), .second] [(.long xx), (.long yy)])) t
    exact k)
  obtain ⟨_, _, ⟨T5, L5, k5, n5⟩, -, X5, ⟨Lc5, hQ5, l5, y5, z5⟩, st5⟩ := Jvm.LawKit.callS X4 hx (y := (⟨"com/example/inexact_limiter/inexactlimiter/algorithm/Exact", "gcd", "(JJ)J"⟩ : MethodName)) hown (mvT hZ (hw _ (List.mem_of_getElem? (i := 1) rfl))) (mvT hZ (hw _ (List.mem_of_getElem? (i := 2) rfl))) (mvT hZ (hw _ (List.mem_of_getElem? (i := 3) rfl))) (mvT hZ (hw _ (List.mem_of_getElem? (i := 4) rfl))) (by decide) (backOf (W := 0) (rm_gcd l Z a0 hw [] yy xx h0 n0 Z0 Y2 Y1) hZ (hw _ (List.mem_of_getElem? (i := 4) rfl)) (hw _ (List.mem_of_getElem? (i := 3) rfl)) (by decide) (by decide)) (g := (mkF m 178 #[.val (.long p0), .second, .val (.long p1), .second, .val (.int p2), .val (.int p3), .val (.int p4), .val (.long aa), .second, .val (.long bb), .second, .val (.long gg), .second, .val (.long g0), .second, .val (.long mm), .second, .val (.long kk), .second, .val (.long xx), .second, .val (.long yy), .second] [(.long xx), (.long yy)])) rfl (by rw [hml]; rfl) (argsL := [(.long yy), (.long xx)]) (rest := []) (lenOf pd__JJ_J rfl) rfl (by show 2 * 0 + _ ≤ _; exact Nat.le_of_eq rfl) (hb hby at_178) (fun _ _ => ⟨rfl, e4, (by decide : 0 + 0 ≤ _), (by decide : 0 + 0 ≤ _)⟩)
  dsimp only [Pt.U, Pt.locs, Pt.cells, Pt.slots] at X5 l5 y5 z5 st5 hQ5
  subst l5 y5 z5
  obtain ⟨rfl, N5q, e5⟩ := hQ5
  have N5 := Fr.app N4 N5q
  replace pre : Pth p e below S0 T5 (mkF m 181 #[.val (.long p0), .second, .val (.long p1), .second, .val (.int p2), .val (.int p3), .val (.int p4), .val (.long aa), .second, .val (.long bb), .second, .val (.long gg), .second, .val (.long g0), .second, .val (.long mm), .second, .val (.long kk), .second, .val (.long xx), .second, .val (.long yy), .second] [(.long (own_g yy xx))]) := fun t k => pre t (st5 _ k)
  replace pre : Pth p e below S0 T5 (mkF m 192 #[.val (.long p0), .second, .val (.long p1), .second, .val (.int p2), .val (.int p3), .val (.int p4), .val (.long aa), .second, .val (.long bb), .second, .val (.long gg), .second, .val (.long g0), .second, .val (.long mm), .second, .val (.long kk), .second, .val (.long xx), .second, .val (.long yy), .second] [(.int (1 : Int32))]) := fun t k => pre t (by
    show Steps p.tables e below (T5.setTop (mkF m 181 #[.val (.long p0), .second, .val (.long p1), .second, .val (.int p2), .val (.int p3), .val (.int p4), .val (.long aa), .second, .val (.long bb), .second, .val (.long gg), .second, .val (.long g0), .second, .val (.long mm), .second, .val (.long kk), .second, .val (.long xx), .second, .val (.long yy), .second] [(.long (own_g yy xx))])) t
    refine XS.lload X5.here hx rfl (hb hby at_181) rfl ?_
    show Steps p.tables e below (T5.setTop (mkF m 183 #[.val (.long p0), .second, .val (.long p1), .second, .val (.int p2), .val (.int p3), .val (.int p4), .val (.long aa), .second, .val (.long bb), .second, .val (.long gg), .second, .val (.long g0), .second, .val (.long mm), .second, .val (.long kk), .second, .val (.long xx), .second, .val (.long yy), .second] [(.long g0), (.long (own_g yy xx))])) t
    refine XT.lcmp X5.here hx rfl (hb hby at_183) rfl ?_
    show Steps p.tables e below (T5.setTop (mkF m 184 #[.val (.long p0), .second, .val (.long p1), .second, .val (.int p2), .val (.int p3), .val (.int p4), .val (.long aa), .second, .val (.long bb), .second, .val (.long gg), .second, .val (.long g0), .second, .val (.long mm), .second, .val (.long kk), .second, .val (.long xx), .second, .val (.long yy), .second] [(.int (XT.cmpL (own_g yy xx) g0))])) t
    refine XS.ifNo X5.here hx rfl (hb hby at_184) rfl (XT.ll_ne_f Y4) ?_
    show Steps p.tables e below (T5.setTop (mkF m 187 #[.val (.long p0), .second, .val (.long p1), .second, .val (.int p2), .val (.int p3), .val (.int p4), .val (.long aa), .second, .val (.long bb), .second, .val (.long gg), .second, .val (.long g0), .second, .val (.long mm), .second, .val (.long kk), .second, .val (.long xx), .second, .val (.long yy), .second] [])) t
    refine XS.iconst X5.here hx rfl (hb hby at_187) ?_
    show Steps p.tables e below (T5.setTop (mkF m 188 #[.val (.long p0), .second, .val (.long p1), .second, .val (.int p2), .val (.int p3), .val (.int p4), .val (.long aa), .second, .val (.long bb), .second, .val (.long gg), .second, .val (.long g0), .second, .val (.long mm), .second, .val (.long kk), .second, .val (.long xx), .second, .val (.long yy), .second] [(.int (1 : Int32))])) t
    refine XS.goto X5.here hx rfl (pc0 := 188) (pc' := 192) rfl (hb hby at_188) (by decide) (by decide) ?_
    show Steps p.tables e below (T5.setTop (mkF m 192 #[.val (.long p0), .second, .val (.long p1), .second, .val (.int p2), .val (.int p3), .val (.int p4), .val (.long aa), .second, .val (.long bb), .second, .val (.long gg), .second, .val (.long g0), .second, .val (.long mm), .second, .val (.long kk), .second, .val (.long xx), .second, .val (.long yy), .second] [(.int (1 : Int32))])) t
    exact k)
  obtain ⟨fs, hr, hrun, hended, hW, hsame⟩ := X5.leave (v := some (.int (1 : Int32))) (fun h => by rw [Bd.returns] at h; cases h)
  subst hS0
  refine ⟨_, _, pre _ ?_, hrun, hended, _, _, rfl, ?_, ⟨_, rfl⟩, hW, hsame.mono (by decide) (by decide)⟩
  · exact retN X5 hx (t := .boolean) Bd.returns (by simp) (hb hby at_192) hr
  · show Q_law Z p0 p1 p2 p3 p4 h0 n0 _ T5.heap _
    rw [e5]
    exact ⟨rfl, N5⟩
set_option maxRecDepth 65536 in
set_option maxHeartbeats 40000000 in
theorem comes_1 {Post : Tables → Env → Array Value → State → Outcome → State → Prop} (hpost : ∀ tb e args s v u, (limb_1_1.after args s (.returned v) u = true ∧ limb_1_2.after args s (.returned v) u = true ∧ True) → FrameEnd s (.returned v) u (Jvm.fieldLocs frame_1_writes args s ++ Jvm.arrayLocs frame_1_arrays args s ++ Jvm.staticLocs frame_1_statics s) 0 0 → Post tb e args s (.returned v) u) :
    ArmFor flags0 classFile x code maxLocals ret World_1 tables_1 room_1 Calls_1 rest_1 Pre_1 Post := by
  intro l hfl _ _ p e ha hc hk s m args below hf hA hF happ hP
  obtain ⟨hcalls, hrest, hpre⟩ := hP
  obtain ⟨-, -, -, hnamed, -, -, -, hat⟩ := (Spec.applies_iff hf).mp happ
  obtain ⟨hg, hn⟩ := and_e (Cond.before_iff.mp (show (Jvm.Cond.and given_1 narrow_1).before args s = true from hpre))
  obtain ⟨gv1a, gv1b⟩ := and_e hg
  obtain ⟨gv2a, gv2b⟩ := and_e gv1b
  obtain ⟨gv3a, gv3b⟩ := and_e gv2b
  obtain ⟨gv4a, gv4b⟩ := and_e gv3b
  obtain ⟨gv5a, gv5b⟩ := and_e gv4b
  obtain ⟨w0, w1, w2, w3, w4, rfl⟩ : ∃ w0 w1 w2 w3 w4 : Value, args = #[w0, w1, w2, w3, w4] := by
    have hs : args.size = 5 := by simpa [Cond.value, given_1] using gv1a
    obtain ⟨L⟩ := args
    match L, hs with
    | [w0, w1, w2, w3, w4], _ => exact ⟨w0, w1, w2, w3, w4, rfl⟩
  have hw := fun d (hd : d ∈ tables_1) => atoms_spec (ws := Jvm.Cond.code x code maxLocals ret :: tables_1) hat d (List.mem_cons_of_mem _ hd)
  have hfit : Fit s := fun {y c} hc i hi => by
    obtain ⟨ha, rfl⟩ := Array.getElem?_eq_some_iff.mp hc
    have q := List.all_eq_true.mp ((Array.all_eq_true_iff_forall_mem.mp hF) _ (Array.getElem_mem ha)) i (List.mem_range.mpr hi)
    simpa [Array.getElem?_eq_getElem hi] using q
  obtain ⟨i0, ei0⟩ := isL_v gv2a
  obtain rfl : w0 = (.long i0) := Option.some.inj ei0
  obtain ⟨i1, ei1⟩ := isL_v gv3a
  obtain rfl : w1 = (.long i1) := Option.some.inj ei1
  obtain ⟨i2, ei2⟩ := is_v gv4a
  obtain rfl : w2 = (.int i2) := Option.some.inj ei2
  obtain ⟨i3, ei3⟩ := is_v gv5a
  obtain rfl : w3 = (.int i3) := Option.some.inj ei3
  obtain ⟨i4, ei4⟩ := is_v gv5b
  obtain rfl : w4 = (.int i4) := Option.some.inj ei4
  obtain ⟨n, o, h1, h2, h3, _, L, rfl, ⟨rfl, N⟩, hq⟩ := rm_law l s _ hw tables_1 i0 i1 i2 i3 i4 s.heap s.heap.size (Nat.le_refl _)  p e ha hc hk s m _ below hf ((Spec.applies_iff_loose hf).mp happ).1 ⟨rfl, State.Warmed39.refl s, rfl⟩ trivial
  refine ⟨n, _, h1, h2, h3, hpost _ _ _ _ _ _ ⟨Cond.after_iff.mpr rfl, Cond.after_iff.mpr (eq_i res_at (Term.int_eval (1)) rfl), trivial⟩ ⟨hq.1, hq.2.1, (hq.2.2.sift fun y hy => Or.inr (N y hy)).mono (by decide) (by decide)⟩⟩
theorem main_1_1 : Claimed_1_1 := comes_1 fun _ _ _ _ _ _ h hF => ⟨h.1, hF⟩
theorem main_1_2 : Claimed_1_2 := comes_1 fun _ _ _ _ _ _ h hF => ⟨h.2.1, hF⟩
end Jvm.Pilot.@@N@@
namespace Jvm.Pilot.@@N@@
open Jvm Jvm.ClassFile Sem Op Lib Jvm.Free Jvm.Stand Jvm.Pilot.@@N@@.Jvm.D
/-! MADE BY PROGRAM (witnessworld.py) out of the Statement's table words and the real class files: 9 classes; the members and pool entries that the words name. The judged class is class 1, her method 1. -/
namespace start1
open Jvm.ClassFile
def u (s : String) : CpInfo := .utf8 (stringToUtf16 s)
/-- a pool by its gaps: so many unusable entries, then the entry; so many at the end -/
def gap : Nat → List CpInfo → List CpInfo
  | 0, r => r
  | n + 1, r => .unusable :: gap n r
def poolList (es : List (Nat × CpInfo)) (last : Nat) : List CpInfo := es.foldr (fun e r => gap e.1 (e.2 :: r)) (gap last [])
def pool (es : List (Nat × CpInfo)) (last : Nat) : Array CpInfo := ⟨poolList es last⟩
def fileOf (pool : Array CpInfo) (this : Nat) (attrs : Array Attribute := #[]) (ms : Array MethodInfo := #[]) (fl : Nat := 33) (sup : Nat := 0) (ifs : Array Nat := #[]) (fds : Array FieldInfo := #[]) : ClassFile where
  minorVersion := 0
  majorVersion := 65
  constantPool := pool
  accessFlags := fl
  thisClass := this
  superClass := sup
  interfaces := ifs
  fields := fds
  methods := ms
  attributes := attrs
def plain (name : String) (sup : Option ClassId) : Class where
  name := name
  kind := .ordinary
  loader := none
  accessFlags := 33
  super := sup
  interfaces := #[]
  cf := none
  fields := #[]
  methods := #[]
  instanceTypes := #[]
  staticTypes := #[]
  resolved := #[]
  callSites := []
  init := .initialized
  statics := none
  mirror := none

def pool0 : Array CpInfo := pool [(5, u "<init>"), (0, u "()V"), (1, .class_ 10), (1, u "java/lang/Object")] 113

def k0m0 : Method := { name := "<init>", desc := "()V", sig := { parameters := [], returnType := none }, accessFlags := 1, code := none }
/-- java/lang/Object -/
def k0 : Class := { plain "java/lang/Object" none with
  accessFlags := 33
  interfaces := #[]
  cf := some (fileOf pool0 8 #[] #[{ accessFlags := 1, nameIndex := 5, descriptorIndex := 6, attributes := #[] }] 33 0 #[] #[])
  fields := #[]
  methods := #[k0m0]
  instanceTypes := #[]
  staticTypes := #[]
  resolved := Array.replicate 124 none
  statics := none }

def pool1 : Array CpInfo := pool [(2, .class_ 4), (1, u "java/lang/Object"), (0, u "<init>"), (0, u "()V"), (2, .long 9223372036854775807), (1, .methodref 12 13), (0, .class_ 14), (0, .nameAndType 15 16), (0, u "com/example/inexact_limiter/inexactlimiter/algorithm/Exact"), (0, u "gcd"), (0, u "(JJ)J"), (0, .long 2147483647), (1, .class_ 20), (0, u "com/example/inexact_limiter/inexactlimiter/algorithm/ExactGcdPinLaw"), (2, u "law"), (0, u "(JJIII)Z")] 3

def k1m0 : Method := { name := "<init>", desc := "()V", sig := { parameters := [], returnType := none }, accessFlags := 2, code := none }
def k1c1 : Code := { maxStack := 6, maxLocals := 23, code := code, exceptionTable := #[], attributes := #[] }
def k1m1 : Method := { name := "law", desc := "(JJIII)Z", sig := { parameters := [.long, .long, .int, .int, .int], returnType := some .boolean }, accessFlags := 9, code := some k1c1 }
/-- com/example/inexact_limiter/inexactlimiter/algorithm/ExactGcdPinLaw -/
def k1 : Class := { plain "com/example/inexact_limiter/inexactlimiter/algorithm/ExactGcdPinLaw" (some 0) with
  accessFlags := 49
  interfaces := #[]
  cf := some (fileOf pool1 19 #[] #[{ accessFlags := 2, nameIndex := 5, descriptorIndex := 6, attributes := #[] }, { accessFlags := 9, nameIndex := 23, descriptorIndex := 24, attributes := #[] }] 49 2 #[] #[])
  fields := #[]
  methods := #[k1m0, k1m1]
  instanceTypes := #[]
  staticTypes := #[]
  resolved := Array.replicate 28 none
  statics := none }

def pool2 : Array CpInfo := pool [(2, .class_ 4), (1, u "java/lang/Object"), (0, u "<init>"), (0, u "()V"), (12, .class_ 21), (1, u "com/example/inexact_limiter/inexactlimiter/algorithm/Exact"), (9, u "(JJ)J"), (48, u "MICROS_PER_SECOND"), (0, u "J"), (13, u "gcd")] 19

def k2m0 : Method := { name := "<init>", desc := "()V", sig := { parameters := [], returnType := none }, accessFlags := 2, code := none }
def k2c1 : Code := { maxStack := 4, maxLocals := 10, code := prog_2_method_9_code, exceptionTable := #[], attributes := #[] }
def k2m1 : Method := { name := "gcd", desc := "(JJ)J", sig := { parameters := [.long, .long], returnType := some .long }, accessFlags := 8, code := some k2c1 }
/-- com/example/inexact_limiter/inexactlimiter/algorithm/Exact -/
def k2 : Class := { plain "com/example/inexact_limiter/inexactlimiter/algorithm/Exact" (some 0) with
  accessFlags := 48
  interfaces := #[]
  cf := some (fileOf pool2 19 #[] #[{ accessFlags := 2, nameIndex := 5, descriptorIndex := 6, attributes := #[] }, { accessFlags := 8, nameIndex := 95, descriptorIndex := 31, attributes := #[] }] 48 2 #[] #[{ accessFlags := 24, nameIndex := 80, descriptorIndex := 81, attributes := #[] }])
  fields := #[{ name := "MICROS_PER_SECOND", type := .long, accessFlags := 24, slot := 0, constantValue := 0 }]
  methods := #[k2m0, k2m1]
  instanceTypes := #[]
  staticTypes := #[.long]
  resolved := Array.replicate 115 none
  statics := none }

def pool3 : Array CpInfo := pool [(1, u "java/lang/Cloneable"), (0, .class_ 1), (0, u "java/lang/Object"), (0, .class_ 3)] 3

/-- java/lang/Cloneable -/
def k3 : Class := { plain "java/lang/Cloneable" (some 0) with
  accessFlags := 1537
  interfaces := #[]
  cf := some (fileOf pool3 2 #[] #[] 1537 4 #[] #[])
  fields := #[]
  methods := #[]
  instanceTypes := #[]
  staticTypes := #[]
  resolved := Array.replicate 8 none
  statics := none }

def pool4 : Array CpInfo := pool [(1, u "java/io/Serializable"), (0, .class_ 1), (0, u "java/lang/Object"), (0, .class_ 3)] 3

/-- java/io/Serializable -/
def k4 : Class := { plain "java/io/Serializable" (some 0) with
  accessFlags := 1537
  interfaces := #[]
  cf := some (fileOf pool4 2 #[] #[] 1537 4 #[] #[])
  fields := #[]
  methods := #[]
  instanceTypes := #[]
  staticTypes := #[]
  resolved := Array.replicate 8 none
  statics := none }

/-- the primitive byte -/
def k5 : Class := { plain "byte" none with kind := .primitive 'B', accessFlags := 0x411 }
/-- [B -/
def k6 : Class := { plain "[B" (some 0) with kind := .array 5 .byte, interfaces := #[3, 4], accessFlags := 1041 }

/-- the primitive int -/
def k7 : Class := { plain "int" none with kind := .primitive 'I', accessFlags := 0x411 }
/-- [I -/
def k8 : Class := { plain "[I" (some 0) with kind := .array 7 .int, interfaces := #[3, 4], accessFlags := 1041 }

def heap : Heap := #[]
def classes : Array Class := #[k0, k1, k2, k3, k4, k5, k6, k7, k8]
def interned : List (Array UInt16 × Addr) := []
def slotsUsed : Nat := 0
def theMethod : MethodId := ⟨1, 1⟩
def args0 : Array Value := #[.long 12, .long 18, .int 3, .int 7, .int 2]
def aboutOver (below : List Frame) : State where
  vm := { classes := classes, interned := interned.toArray }
  heap := heap
  slotsUsed := slotsUsed
  threads := #[{ frames := .invoking theMethod args0 :: below }]
def below0 : List Frame := [.native { method := ⟨0, 0⟩, args := #[] }]
def about1 : State := aboutOver below0
def p0 : Program := .bare "" "" ""
def e0 : Env := launch0.env 0 0 0
theorem w_frames : about1.frames = Frame.invoking theMethod args0 :: below0 := rfl
set_option maxRecDepth 65536 in
theorem w_args : argsFit about1.vm theMethod args0 = true := by decide +kernel
set_option maxRecDepth 65536 in
theorem w_heap : heapFits about1 = true := by decide +kernel
set_option maxRecDepth 65536 in
theorem w_runnable : about1.curStatus? = some .runnable := by decide +kernel
set_option maxRecDepth 65536 in
theorem w_alone : about1.alone = true := by decide +kernel
set_option maxRecDepth 65536 in
theorem w_named : about1.methodNamed? x = some theMethod := by decide +kernel
set_option maxRecDepth 65536 in
theorem w_hears : about1.hears theMethod below0 = true := by decide +kernel
set_option maxRecDepth 65536 in
theorem w_ripe : about1.ripe theMethod args0 below0 = true := by decide +kernel
theorem w_running : about1.status = .running := rfl
set_option maxRecDepth 65536 in
theorem w_room : about1.hasRoom e0.platform room_1 = true :=
  launch0.hasRoom_least _ room_1 (by decide +kernel) (by decide +kernel) (by decide +kernel) (by decide +kernel) (by decide +kernel) (by decide +kernel)
theorem allAtoms_all (ts : List Jvm.Cond) (a : Array Jvm.Value) (st : Jvm.State) : (allAtoms ts).before a st = ts.all (fun c => c.before a st) := by
  induction ts with
  | nil => rfl
  | cons c t ih =>
    show (Jvm.Cond.and c (allAtoms t)).before a st = _
    rw [Jvm.Cond.before_and, ih, List.all_cons]
def words1 : List Jvm.Cond := Jvm.Cond.code x code maxLocals ret :: tables_1
/-- a 'code' word, met by the world's own term for the bytes: nothing is compared byte by byte -/
theorem code_word {y : MethodName} {bytes : ByteArray} {mx : Nat} {rt : Option FieldType} {a : Array Value} {s : State} {m : MethodId} {meth : Method} {c : Code} (h1 : s.methodNamed? y = some m) (h2 : s.vm.method? m = some meth) (h3 : meth.code = some c) (h4 : c.code = bytes)
    (h5 : (c.maxLocals == mx && c.exceptionTable.isEmpty && decide (c.maxStack ≤ mostOperands) && decide (meth.sig.returnType = rt) && !meth.locks && decide (parseMethodDescriptor y.desc = some meth.sig)) = true) : (Jvm.Cond.code y bytes mx rt).before a s = true := by
  simp only [Bool.and_eq_true, beq_iff_eq, Bool.not_eq_true', decide_eq_true_eq] at h5
  obtain ⟨⟨⟨⟨⟨g1, g2⟩, g3⟩, g4⟩, g5⟩, g6⟩ := h5
  simp [Cond.before, Cond.holds, Cond.value, h1, h2, h3, h4, g1, g2, g3, g4, g5, g6]
def isCode : Jvm.Cond → Bool
  | .code _ _ _ _ => true
  | _ => false
theorem all_split {L : List Jvm.Cond} {P : Jvm.Cond → Bool} (h1 : L.all (fun c => isCode c || P c) = true) (h2 : ∀ c ∈ L.filter isCode, P c = true) : L.all P = true := by
  refine List.all_eq_true.mpr fun c hc => ?_
  have h := List.all_eq_true.mp h1 c hc
  rcases Bool.eq_false_or_eq_true (isCode c) with hi | hi
  · exact h2 c (List.mem_filter.mpr ⟨hc, hi⟩)
  · simpa [hi] using h
set_option maxRecDepth 65536 in
theorem w_c0 : (Jvm.Cond.code x code maxLocals ret).before args0 about1 = true := code_word (m := ⟨1, 1⟩) (meth := k1m1) (c := k1c1) (by decide +kernel) rfl rfl rfl (by decide +kernel)
set_option maxRecDepth 65536 in
theorem w_c1 : (Jvm.Cond.code ({ cls := "com/example/inexact_limiter/inexactlimiter/algorithm/Exact", name := "gcd", desc := "(JJ)J" } : Jvm.MethodName) prog_2_method_9_code (10 : Nat) (Option.some Jvm.ClassFile.FieldType.long)).before args0 about1 = true := code_word (m := ⟨2, 1⟩) (meth := k2m1) (c := k2c1) (by decide +kernel) rfl rfl rfl (by decide +kernel)
def codes1 : List Jvm.Cond := [Jvm.Cond.code x code maxLocals ret, Jvm.Cond.code ({ cls := "com/example/inexact_limiter/inexactlimiter/algorithm/Exact", name := "gcd", desc := "(JJ)J" } : Jvm.MethodName) prog_2_method_9_code (10 : Nat) (Option.some Jvm.ClassFile.FieldType.long)]
set_option maxRecDepth 65536 in
theorem codes_eq : words1.filter isCode = codes1 := rfl
theorem w_codes : ∀ c ∈ words1.filter isCode, c.before args0 about1 = true := by
  rw [codes_eq]
  intro c hc
  simp only [codes1, List.mem_cons, List.not_mem_nil, or_false] at hc
  rcases hc with rfl | rfl
  · exact w_c0
  · exact w_c1
set_option maxRecDepth 65536 in
theorem w_t1 : words1.all (fun c => isCode c || c.before args0 about1) = true := by decide +kernel
theorem w_tables : (allAtoms (Jvm.Cond.code x code maxLocals ret :: tables_1)).before args0 about1 = true := by
  rw [allAtoms_all]
  show words1.all (fun c => c.before args0 about1) = true
  refine all_split ?_ w_codes
  rw [w_t1]
set_option maxRecDepth 65536 in
theorem w_case : (Jvm.Cond.and given_1 narrow_1).before args0 about1 = true := by decide +kernel
theorem w_applies : (headSpec (Jvm.Cond.code x code maxLocals ret :: tables_1) room_1).applies x e0.platform about1 = true :=
  (Spec.applies_iff w_frames).mpr ⟨w_running, w_runnable, w_alone, w_named, w_hears, w_ripe, w_room, w_tables⟩
theorem atStart : AtStart classFile x code maxLocals ret World_1 tables_1 room_1 Calls_1 rest_1 Pre_1 launch0 p0 e0 about1 theMethod args0 below0 :=
  ⟨lists_1, trivial, launch0.admits_env _ _ _, launch0.least_env, fairChoices_fair.cas, fairChoices_fair.clock, w_frames, w_args, w_heap, w_applies, trivial, trivial, w_case⟩
end start1
theorem witness_1 : WitnessClaimed_1 := ⟨start1.p0, start1.e0, start1.about1, start1.theMethod, start1.args0, start1.below0, start1.atStart⟩
end Jvm.Pilot.@@N@@
