import JvmDerived
import JvmDerived.Pilot.@@N@@Statement
import JvmDerived.Pilot.@@N@@Code
set_option linter.unusedVariables false
set_option linter.unusedSimpArgs false
@@BLOCK:NumsL.lean.txt@@
namespace Jvm.RoadKit
open Sem ClassFile Op Lib Jvm.Stand Jvm.Free Jvm.LawKit
section New
variable {p : Program} {l : Launch} {e : Env} {R : Room} {s : State} {m : MethodId} {args : Array Value} {below : List Frame} {meth : Method} {c : Code} {T : State} {locs : List Loc} {cells slots : Nat}
theorem retI (X : Stand p l e R s m args below meth c T locs cells slots) (hx : p.tables.exec = Jvm.exec) {pc : Nat} {Ls : Array Slot} {z : Int32} {rest : List Value} (hret : meth.sig.returnType = some .int) (hd : decode c.code pc = .ok (.ireturn, 1)) {fs : List Frame}
    (hl : ∀ (f : JFrame) (acts : List Action), f.method = m → f.locked = none → f.entered = [] → (doReturn e (T.setTop f) acts (some (.int z))).1 = T.setFrames fs) : Steps p.tables e below (T.setTop (mkF m pc Ls (.int z :: rest))) (T.setFrames fs) := by
  have hm' : T.vm.method? m = some meth := X.method'
  have hn : narrow .int (.int z) = .int z := rfl
  show Steps p.tables e below (T.setTop { method := m, pc := pc, locals := Ls, stack := _ :: rest, locked := none }) _
  jvm_step X.here [X.here.top, hx, hd, hm', hret, hn]
  first | (intro acts; rw [hl _ acts rfl rfl rfl]) | rw [hl _ _ rfl rfl rfl]
  exact Steps.refl _
end New
end Jvm.RoadKit
namespace Jvm.Pilot.@@N@@
open Jvm Jvm.ClassFile Sem Op Lib Jvm.Free Jvm.Stand Jvm.LawKit Jvm.RoadKit Bundle Jvm.Pilot.@@N@@.Jvm.D
/-- from S0 the run comes to T with the frame g on top -/
abbrev Pth (p : Program) (e : Env) (below : List Frame) (S0 T : State) (g : JFrame) : Prop := ∀ t, Steps p.tables e below (T.setTop g) t → Steps p.tables e below S0 t
theorem ef_aa (m : MethodId) (x0 : Int32) (x1 : Int32)  : entryFrame m #[(.int x0), (.int x1)] 5 = mkF m 0 #[.val (.int x0), .val (.int x1), .unset, .unset, .unset] [] := by first | (simp [entryFrame, mkF, argsToLocals, Value.category]; done) | rfl
theorem pn_com_example_parfactor_parfactor_model_PotentialTable : plainName "com/example/parfactor/parfactor/model/PotentialTable" = true := by first | (simp [plainName, overriddenIn]; done) | decide +kernel
theorem d_aa_0 : decode prog_61_method_8_code 0 = .ok (.iload_n 0, 1) := by decide +kernel
theorem d_aa_1 : decode prog_61_method_8_code 1 = .ok (.newarray .boolean, 2) := by decide +kernel
theorem d_aa_3 : decode prog_61_method_8_code 3 = .ok (.astore_n 2, 1) := by decide +kernel
theorem d_aa_4 : decode prog_61_method_8_code 4 = .ok (.iconst 0, 1) := by decide +kernel
theorem d_aa_5 : decode prog_61_method_8_code 5 = .ok (.istore_n 3, 1) := by decide +kernel
theorem d_aa_6 : decode prog_61_method_8_code 6 = .ok (.iload_n 3, 1) := by decide +kernel
theorem d_aa_7 : decode prog_61_method_8_code 7 = .ok (.iload_n 0, 1) := by decide +kernel
theorem d_aa_8 : decode prog_61_method_8_code 8 = .ok (.if_icmp .ge 33, 3) := by decide +kernel
theorem d_aa_11 : decode prog_61_method_8_code 11 = .ok (.iload_n 0, 1) := by decide +kernel
theorem d_aa_12 : decode prog_61_method_8_code 12 = .ok (.iconst 1, 1) := by decide +kernel
theorem d_aa_13 : decode prog_61_method_8_code 13 = .ok (.isub, 1) := by decide +kernel
theorem d_aa_14 : decode prog_61_method_8_code 14 = .ok (.iload_n 3, 1) := by decide +kernel
theorem d_aa_15 : decode prog_61_method_8_code 15 = .ok (.isub, 1) := by decide +kernel
theorem d_aa_16 : decode prog_61_method_8_code 16 = .ok (.istore 4, 2) := by decide +kernel
theorem d_aa_18 : decode prog_61_method_8_code 18 = .ok (.aload_n 2, 1) := by decide +kernel
theorem d_aa_19 : decode prog_61_method_8_code 19 = .ok (.iload_n 3, 1) := by decide +kernel
theorem d_aa_20 : decode prog_61_method_8_code 20 = .ok (.iload_n 1, 1) := by decide +kernel
theorem d_aa_21 : decode prog_61_method_8_code 21 = .ok (.iload 4, 2) := by decide +kernel
theorem d_aa_23 : decode prog_61_method_8_code 23 = .ok (.ishr, 1) := by decide +kernel
theorem d_aa_24 : decode prog_61_method_8_code 24 = .ok (.iconst 1, 1) := by decide +kernel
theorem d_aa_25 : decode prog_61_method_8_code 25 = .ok (.iand, 1) := by decide +kernel
theorem d_aa_26 : decode prog_61_method_8_code 26 = .ok (.ifCond .ne 7, 3) := by decide +kernel
theorem d_aa_29 : decode prog_61_method_8_code 29 = .ok (.iconst 1, 1) := by decide +kernel
theorem d_aa_30 : decode prog_61_method_8_code 30 = .ok (.goto 4, 3) := by decide +kernel
theorem d_aa_33 : decode prog_61_method_8_code 33 = .ok (.iconst 0, 1) := by decide +kernel
theorem d_aa_34 : decode prog_61_method_8_code 34 = .ok (.bastore, 1) := by decide +kernel
theorem d_aa_35 : decode prog_61_method_8_code 35 = .ok (.iinc 3 1, 3) := by decide +kernel
theorem d_aa_38 : decode prog_61_method_8_code 38 = .ok (.goto (-32), 3) := by decide +kernel
theorem d_aa_41 : decode prog_61_method_8_code 41 = .ok (.aload_n 2, 1) := by decide +kernel
theorem d_aa_42 : decode prog_61_method_8_code 42 = .ok (.areturn, 1) := by decide +kernel
theorem ef_ex (m : MethodId) (x0 : Int32) (x1 : Int32) (x2 : Int32)  : entryFrame m #[(.int x0), (.int x1), (.int x2)] 4 = mkF m 0 #[.val (.int x0), .val (.int x1), .val (.int x2), .unset] [] := by first | (simp [entryFrame, mkF, argsToLocals, Value.category]; done) | rfl
theorem pn_com_example_parfactor_parfactor_model_PotentialTableAssignmentAtPinLaw : plainName "com/example/parfactor/parfactor/model/PotentialTableAssignmentAtPinLaw" = true := by first | (simp [plainName, overriddenIn]; done) | decide +kernel
theorem d_ex_0 : decode method_2_code 0 = .ok (.iconst 1, 1) := by decide +kernel
theorem d_ex_1 : decode method_2_code 1 = .ok (.iload_n 0, 1) := by decide +kernel
theorem d_ex_2 : decode method_2_code 2 = .ok (.iconst 1, 1) := by decide +kernel
theorem d_ex_3 : decode method_2_code 3 = .ok (.isub, 1) := by decide +kernel
theorem d_ex_4 : decode method_2_code 4 = .ok (.iload_n 2, 1) := by decide +kernel
theorem d_ex_5 : decode method_2_code 5 = .ok (.isub, 1) := by decide +kernel
theorem d_ex_6 : decode method_2_code 6 = .ok (.ishl, 1) := by decide +kernel
theorem d_ex_7 : decode method_2_code 7 = .ok (.istore_n 3, 1) := by decide +kernel
theorem d_ex_8 : decode method_2_code 8 = .ok (.iload_n 1, 1) := by decide +kernel
theorem d_ex_9 : decode method_2_code 9 = .ok (.iload_n 3, 1) := by decide +kernel
theorem d_ex_10 : decode method_2_code 10 = .ok (.idiv, 1) := by decide +kernel
theorem d_ex_11 : decode method_2_code 11 = .ok (.iconst 2, 1) := by decide +kernel
theorem d_ex_12 : decode method_2_code 12 = .ok (.irem, 1) := by decide +kernel
theorem d_ex_13 : decode method_2_code 13 = .ok (.ifCond .ne 7, 3) := by decide +kernel
theorem d_ex_16 : decode method_2_code 16 = .ok (.iconst 1, 1) := by decide +kernel
theorem d_ex_17 : decode method_2_code 17 = .ok (.goto 4, 3) := by decide +kernel
theorem d_ex_21 : decode method_2_code 21 = .ok (.ireturn, 1) := by decide +kernel
theorem d_ex_20 : decode method_2_code 20 = .ok (.iconst 0, 1) := by decide +kernel
theorem ef_law (m : MethodId) (x0 : Int32) (x1 : Int32) (x2 : Int32)  : entryFrame m #[(.int x0), (.int x1), (.int x2)] maxLocals = mkF m 0 #[.val (.int x0), .val (.int x1), .val (.int x2), .unset, .unset, .unset, .unset] [] := by first | (simp [entryFrame, mkF, argsToLocals, Value.category, maxLocals]; done) | rfl
theorem pd__II__Z : parseMethodDescriptor "(II)[Z" = some ⟨[.int, .int], some (.array .boolean)⟩ := by decide +kernel
theorem pd__III_Z : parseMethodDescriptor "(III)Z" = some ⟨[.int, .int, .int], some .boolean⟩ := by decide +kernel
/-- the array at a has n places, of kind ty, and holds f -/
def OFun (Z : State) (h : Heap) (a : Addr) (ty : FieldType) (n : Nat) (f : Nat → Value) : Prop := ∃ c : Cell, Arr Z h a c ty ∧ c.slots.size = n ∧ ∀ j, j < n → c.slots[j]? = some (f j)
theorem OFun.lt {Z : State} {h : Heap} {a : Addr} {ty : FieldType} {n : Nat} {f : Nat → Value} (F : OFun Z h a ty n f) : a < h.size := by obtain ⟨c, A, -⟩ := F; exact A.lt
theorem OFun.ext {Z : State} {h h' : Heap} {a : Addr} {ty : FieldType} {n : Nat} {f : Nat → Value} (F : OFun Z h a ty n f) (E : Ext h h') : OFun Z h' a ty n f := by obtain ⟨c, A, r⟩ := F; exact ⟨c, A.ext E, r⟩
theorem OFun.other {Z : State} {h h' : Heap} {a b : Addr} {ty : FieldType} {n sl : Nat} {v : Value} {f : Nat → Value} (F : OFun Z h a ty n f) (W : Wr h h' b sl v) (q : a ≠ b) : OFun Z h' a ty n f := by obtain ⟨c, A, r⟩ := F; exact ⟨c, A.other W q, r⟩
theorem OFun.keep {Z : State} {h h' : Heap} {a : Addr} {ty : FieldType} {n : Nat} {ws : List Addr} {f : Nat → Value} (F : OFun Z h a ty n f) (K : Keep h h' ws) (q : a ∉ ws) : OFun Z h' a ty n f := by obtain ⟨c, A, r⟩ := F; exact ⟨c, ⟨K.2.1 a c A.1 q, A.2⟩, r⟩
theorem OFun.congr {Z : State} {h : Heap} {a : Addr} {ty : FieldType} {n : Nat} {f g : Nat → Value} (F : OFun Z h a ty n f) (q : ∀ j, j < n → f j = g j) : OFun Z h a ty n g := by obtain ⟨c, A, r1, r2⟩ := F; exact ⟨c, A, r1, fun j hj => by rw [r2 j hj, q j hj]⟩
theorem OFun.new {Z : State} {h : Heap} {a : Addr} {ty : FieldType} {k : ClassId} {z : Int32} (A : Arr Z h a (newA k ty z) ty) : OFun Z h a ty z.toNatClampNeg (fun _ => defaultValue ty) := ⟨_, A, sz_new _ _ _, fun j hj => by simp [newA, hj]⟩
theorem OFun.set {Z : State} {h h' : Heap} {a : Addr} {ty : FieldType} {n i : Nat} {v : Value} {f : Nat → Value} (F : OFun Z h a ty n f) (W : Wr h h' a i v) : OFun Z h' a ty n (fun j => if j = i then v else f j) := by
  obtain ⟨c, A, r1, r2⟩ := F
  refine ⟨_, A.same W, by rw [sz_set]; exact r1, fun j hj => ?_⟩
  by_cases q : j = i
  · subst q
    simp [Cell.setSlot, r1, hj]
  · simp only [q, if_false]
    rw [← r2 j hj]
    simp [Cell.setSlot, Array.getElem?_setIfInBounds, Ne.symm q]
theorem own_ext_wr {h0 h h' : Heap} {a : Addr} {sl : Nat} {v : Value} (E : Ext h0 h) (W : Wr h h' a sl v) (q : h0.size ≤ a) : Ext h0 h' := by
  refine ⟨by rw [W.size]; exact E.1, fun x c hx => ?_⟩
  have hlt := (Array.getElem?_eq_some_iff.mp hx).1
  obtain ⟨c', e1, -, -, -, e5, -⟩ := wr_at W (E.2 x c hx)
  rw [e1, e5 (Nat.ne_of_lt (Nat.lt_of_lt_of_le hlt q))]
theorem own_ext_trans {h0 h h' : Heap} (E : Ext h0 h) (E' : Ext h h') : Ext h0 h' := ⟨Nat.le_trans E.1 E'.1, fun x c hx => E'.2 x c (E.2 x c hx)⟩
theorem own_ext_refl (h : Heap) : Ext h h := ⟨Nat.le_refl _, fun _ _ q => q⟩
theorem own_ext_keep {h0 h h' : Heap} {ws : List Addr} (E : Ext h0 h) (K : Keep h h' ws) (q : ∀ x ∈ ws, h0.size ≤ x) : Ext h0 h' := ⟨Nat.le_trans E.1 K.1, fun x c hx => K.2.1 x c (E.2 x c hx) fun z => by
  have hlt := (Array.getElem?_eq_some_iff.mp hx).1
  exact absurd hlt (Nat.not_lt.mpr (q x z))⟩
theorem own_keep_ext {h h' : Heap} (E : Ext h h') (ws : List Addr) : Keep h h' ws := (Keep.refl h ws).ext E
theorem own_in {j : Int32} {i n : Nat} (h0 : j.toInt = i) (h1 : i < n) : ¬ (j < 0 ∨ n ≤ j.toNatClampNeg) := by
  have e : j.toNatClampNeg = i := by
    show j.toInt.toNat = i
    omega
  rintro (q | q)
  · rw [Int32.lt_iff_toInt_lt] at q
    have z : (0 : Int32).toInt = 0 := rfl
    omega
  · omega
theorem own_cl {j : Int32} {i : Nat} (h0 : j.toInt = i) : j.toNatClampNeg = i := by
  show j.toInt.toNat = i
  omega
theorem own_ofN {n : Nat} (h : n < 2 ^ 31) : (Int32.ofNat n).toInt = n := Int32.toInt_ofNat_of_lt h
def own_one (s : Slot) : Prop := s = .unset ∨ ∃ z : Int32, s = .val (.int z)
theorem own_st4 {a b i x : Int32} {r : Addr} {s : Slot} (h : own_one s) : storeLocals #[.val (.int a), .val (.int b), .val (.ref r), .val (.int i), s] 4 (.int x) = some #[.val (.int a), .val (.int b), .val (.ref r), .val (.int i), .val (.int x)] := by
  rcases h with rfl | ⟨z, rfl⟩ <;> rfl
def own_bit (ar ix : Int32) (j : Nat) : Int32 := if ((ix >>> (((ar - (1 : Int32)) - (Int32.ofNat j)) &&& 31)) &&& (1 : Int32)) = (0 : Int32) then 1 else 0
def own_wt (ar ps : Int32) : Int32 := ((1 : Int32) <<< (((ar - (1 : Int32)) - ps) &&& 31))
def own_ex (ar ix ps : Int32) : Int32 := if ((ix / own_wt ar ps) % (2 : Int32)) = (0 : Int32) then 1 else 0
theorem own_nneg {z : Int32} (h : 0 ≤ z.toInt) : ¬ z < 0 := by
  rw [Int32.lt_iff_toInt_lt]
  have : (0 : Int32).toInt = 0 := rfl
  omega
theorem own_le {z : Int32} (h : 0 ≤ z.toInt ∧ z.toInt ≤ 30) : z.toNatClampNeg ≤ 30 := by
  show z.toInt.toNat ≤ 30
  omega
theorem own_lt {z : Int32} {i : Nat} (h : 0 ≤ z.toInt ∧ z.toInt ≤ 30) (hi : i < z.toNatClampNeg) : (Int32.ofNat i) < z := by
  have hi' : i < z.toInt.toNat := hi
  rw [Int32.lt_iff_toInt_lt, own_ofN (by omega)]; omega
theorem own_ge {z : Int32} {i : Nat} (h : 0 ≤ z.toInt ∧ z.toInt ≤ 30) (hi : i = z.toNatClampNeg) : ¬ (Int32.ofNat i) < z := by
  have hi' : i = z.toInt.toNat := hi
  rw [Int32.lt_iff_toInt_lt, own_ofN (by omega)]; omega
theorem own_i {z : Int32} {i : Nat} (h : 0 ≤ z.toInt ∧ z.toInt ≤ 30) (hi : i < z.toNatClampNeg) : (Int32.ofNat i).toInt = i := by
  have hi' : i < z.toInt.toNat := hi
  exact own_ofN (by omega)
theorem own_narb (ar ix : Int32) (j : Nat) : nar .boolean (own_bit ar ix j) = own_bit ar ix j := by
  unfold own_bit; split <;> rfl
theorem own_nn32 (x : Int32) : 0 ≤ (x &&& (2147483647 : Int32)).toInt := by
  rw [Jvm.Kit.i32_mask x 2147483647 (k := 31) (by decide) (by decide)]; omega
theorem own_arity {x m : Int32} (h : m = (x &&& (2147483647 : Int32)) % (31 : Int32)) : 0 ≤ m.toInt ∧ m.toInt ≤ 30 := by
  have h0 := own_nn32 x
  have h3 : (31 : Int32).toInt = 31 := rfl
  rw [h, Jvm.Kit.i32_rem_nonneg h0, h3]; omega
theorem own_sm {n : Int32} (h : 0 ≤ n.toInt ∧ n.toInt ≤ 30) : (n &&& 31) = n ∧ (n.toBitVec.smod 32).toNat = n.toInt.toNat := by
  obtain ⟨k, hk⟩ : ∃ k : Fin 31, n = Int32.ofNat k.val := ⟨⟨n.toInt.toNat, by omega⟩, Int32.toInt_inj.mp (by rw [own_ofN (by show n.toInt.toNat < _; omega)]; show n.toInt = (n.toInt.toNat : Int); omega)⟩
  subst hk
  revert k; decide +kernel
theorem own_pw {n : Int32} (h : 0 ≤ n.toInt ∧ n.toInt ≤ 30) : ((1 : Int32) <<< (n &&& 31)).toInt = 2 ^ n.toInt.toNat := by
  obtain ⟨e1, e2⟩ := own_sm h
  have z : (1 : Int32).toInt = 1 := rfl
  have hb : (2 : Int) ^ n.toInt.toNat ≤ 2 ^ 30 := by
    have : (2 : Nat) ^ n.toInt.toNat ≤ 2 ^ 30 := Nat.pow_le_pow_right (by decide) (by omega)
    exact_mod_cast this
  have hp : (0 : Int) < 2 ^ n.toInt.toNat := by
    have : (0 : Nat) < 2 ^ n.toInt.toNat := Nat.pow_pos (by decide)
    exact_mod_cast this
  rw [e1, Jvm.Kit.i32_shl 1 n e2 (by rw [z]; omega) (by rw [z]; omega), z]; omega
theorem own_index {x ar m : Int32} (hA : 0 ≤ ar.toInt ∧ ar.toInt ≤ 30) (h : m = x &&& (((1 : Int32) <<< (ar &&& 31)) - (1 : Int32))) : 0 ≤ m.toInt := by
  have e := own_pw hA
  have z : (1 : Int32).toInt = 1 := rfl
  have hp : (0 : Int) < 2 ^ ar.toInt.toNat := by
    have : (0 : Nat) < 2 ^ ar.toInt.toNat := Nat.pow_pos (by decide)
    exact_mod_cast this
  have hb := ((1 : Int32) <<< (ar &&& 31)).toInt_lt
  have e2 : (((1 : Int32) <<< (ar &&& 31)) - (1 : Int32)).toInt = 2 ^ ar.toInt.toNat - 1 := by
    rw [XT.sub32 (by rw [z]; constructor <;> omega), z, e]
  have h : ¬ m < 0 := fun q => by
    have q2 := ((XT.and_neg32 _ _).mp (h ▸ q)).2
    rw [Int32.lt_iff_toInt_lt, e2] at q2
    have z0 : (0 : Int32).toInt = 0 := rfl
    omega
  rw [Int32.lt_iff_toInt_lt] at h
  have z0 : (0 : Int32).toInt = 0 := rfl
  omega
theorem own_len {z : Int32} (h : 0 ≤ z.toInt ∧ z.toInt ≤ 30) : z.toNatClampNeg.toInt32 = z := (back32 (own_nneg h.1)).1
def own_ok (ar ps : Int32) : Prop := 0 ≤ ps.toInt ∧ ps.toInt < ar.toInt
theorem own_arpos {ar : Int32} (hA : 0 ≤ ar.toInt ∧ ar.toInt ≤ 30) (z0 : ¬ ar = (0 : Int32)) : 1 ≤ ar.toInt := by
  rcases Int.lt_or_eq_of_le hA.1 with q | q
  · omega
  · exact absurd (Int32.toInt_inj.mp q.symm) z0
theorem own_position {ar x ps : Int32} (hA : 0 ≤ ar.toInt ∧ ar.toInt ≤ 30) (z0 : ¬ ar = (0 : Int32)) (h : ps = (x &&& (2147483647 : Int32)) % ar) : own_ok ar ps := by
  have h0 := own_nn32 x
  have h1 := own_arpos hA z0
  have e : ps.toInt = (x &&& (2147483647 : Int32)).toInt % ar.toInt := by rw [h, Jvm.Kit.i32_rem_nonneg h0]
  have b1 := Int.emod_nonneg (x &&& (2147483647 : Int32)).toInt (b := ar.toInt) (by omega)
  have b2 := Int.emod_lt_of_pos (x &&& (2147483647 : Int32)).toInt (b := ar.toInt) (by omega)
  exact ⟨by omega, by omega⟩
theorem own_pos0 {ar : Int32} (hA : 0 ≤ ar.toInt ∧ ar.toInt ≤ 30) (z0 : ¬ ar = (0 : Int32)) : own_ok ar (0 : Int32) := by
  have h1 := own_arpos hA z0
  have z : (0 : Int32).toInt = 0 := rfl
  exact ⟨by omega, by omega⟩
theorem own_pos1 {ar : Int32} (hA : 0 ≤ ar.toInt ∧ ar.toInt ≤ 30) (z0 : ¬ ar = (0 : Int32)) : own_ok ar (ar - (1 : Int32)) := by
  have h1 := own_arpos hA z0
  have z : (1 : Int32).toInt = 1 := rfl
  have e : (ar - (1 : Int32)).toInt = ar.toInt - 1 := by rw [XT.sub32 (by rw [z]; constructor <;> omega), z]
  exact ⟨by omega, by omega⟩
theorem own_ix {ar ps : Int32} (h : own_ok ar ps) : ¬ (ps < 0 ∨ ar.toNatClampNeg ≤ ps.toNatClampNeg) := by
  refine own_in (i := ps.toInt.toNat) (by have := h.1; omega) ?_
  show ps.toInt.toNat < ar.toInt.toNat
  have := h.1; have := h.2
  omega
theorem own_shft {ar ps : Int32} (hA : 0 ≤ ar.toInt ∧ ar.toInt ≤ 30) (h : own_ok ar ps) : 0 ≤ ((ar - (1 : Int32)) - ps).toInt ∧ ((ar - (1 : Int32)) - ps).toInt ≤ 30 := by
  have z : (1 : Int32).toInt = 1 := rfl
  have h1 := h.1; have h2 := h.2
  have e : (ar - (1 : Int32)).toInt = ar.toInt - 1 := by rw [XT.sub32 (by rw [z]; constructor <;> omega), z]
  have e2 : ((ar - (1 : Int32)) - ps).toInt = ar.toInt - 1 - ps.toInt := by rw [XT.sub32 (by rw [e]; constructor <;> omega), e]
  omega
theorem own_wI {ar ps : Int32} (hA : 0 ≤ ar.toInt ∧ ar.toInt ≤ 30) (h : own_ok ar ps) : (own_wt ar ps).toInt = 2 ^ ((ar - (1 : Int32)) - ps).toInt.toNat := own_pw (own_shft hA h)
theorem own_wnz {ar ps : Int32} (hA : 0 ≤ ar.toInt ∧ ar.toInt ≤ 30) (h : own_ok ar ps) : own_wt ar ps ≠ 0 := fun q => by
  have e := own_wI hA h
  rw [q] at e
  have hp : (0 : Int) < 2 ^ ((ar - (1 : Int32)) - ps).toInt.toNat := by
    have : (0 : Nat) < 2 ^ ((ar - (1 : Int32)) - ps).toInt.toNat := Nat.pow_pos (by decide)
    exact_mod_cast this
  have z : (0 : Int32).toInt = 0 := rfl
  omega
theorem own_same {ar ix ps : Int32} (hA : 0 ≤ ar.toInt ∧ ar.toInt ≤ 30) (hI : 0 ≤ ix.toInt) (h : own_ok ar ps) : own_bit ar ix ps.toNatClampNeg = own_ex ar ix ps := by
  have hs := own_shft hA h
  obtain ⟨e1, e2⟩ := own_sm hs
  have hw := own_wI hA h
  have ep : Int32.ofNat ps.toNatClampNeg = ps := (back32 (own_nneg h.1)).1
  have hp : (0 : Int) < 2 ^ ((ar - (1 : Int32)) - ps).toInt.toNat := by
    have : (0 : Nat) < 2 ^ ((ar - (1 : Int32)) - ps).toInt.toNat := Nat.pow_pos (by decide)
    exact_mod_cast this
  have eL : ((ix >>> (((ar - (1 : Int32)) - ps) &&& 31)) &&& (1 : Int32)).toInt = ix.toInt / 2 ^ ((ar - (1 : Int32)) - ps).toInt.toNat % 2 := by
    rw [Jvm.Kit.i32_mask _ 1 (k := 1) (by decide) (by decide), e1, Jvm.Kit.i32_shr ix _ e2]; rfl
  have eR : ((ix / own_wt ar ps) % (2 : Int32)).toInt = ix.toInt / 2 ^ ((ar - (1 : Int32)) - ps).toInt.toNat % 2 := by
    have hd : (ix / own_wt ar ps).toInt = ix.toInt / 2 ^ ((ar - (1 : Int32)) - ps).toInt.toNat := by
      rw [Jvm.Kit.i32_div (by omega), hw, Int.tdiv_eq_ediv_of_nonneg hI]
    have z : (2 : Int32).toInt = 2 := rfl
    rw [Jvm.Kit.i32_rem_nonneg (by rw [hd]; exact Int.ediv_nonneg hI (by omega)), hd, z]
  unfold own_bit own_ex
  rw [ep]
  have iff : (((ix >>> (((ar - (1 : Int32)) - ps) &&& 31)) &&& (1 : Int32)) = (0 : Int32)) = (((ix / own_wt ar ps) % (2 : Int32)) = (0 : Int32)) := by
    rw [← Int32.toInt_inj, ← Int32.toInt_inj, eL, eR]
  simp only [iff]

def Q_aa (Z : State) (ar : Int32) (ix : Int32) (h0 : Heap) (n0 : Nat) (v : Option Value) (h : Heap) (L : List Loc) : Prop := v = some (.ref h0.size) ∧ Fr n0 L ∧ Ext h0 h ∧ OFun Z h h0.size .boolean ar.toNatClampNeg (fun j => .int (own_bit ar ix j))
set_option maxRecDepth 65536 in
set_option maxHeartbeats 40000000 in
theorem rm_aa (l : Launch) (Z : State) (a0 : Array Value) (hw : ∀ d ∈ tables_1, d.before a0 Z = true) (ws : List Jvm.Cond) (ar : Int32) (ix : Int32) (h0 : Heap) (n0 : Nat) (Z0 : n0 ≤ h0.size) (hA : 0 ≤ ar.toInt ∧ ar.toInt ≤ 30) :
    MetFree l (⟨"com/example/parfactor/parfactor/model/PotentialTable", "assignmentAt", "(II)[Z"⟩ : MethodName) (head1 (Jvm.Cond.code (⟨"com/example/parfactor/parfactor/model/PotentialTable", "assignmentAt", "(II)[Z"⟩ : MethodName) prog_61_method_8_code 5 (some (.array .boolean)) :: ws) ({ frames := 0, cells := 1, slots := 30, locals := 0 } : Room)) (fun a U => a = #[(.int ar), (.int ix)] ∧ Z.Warmed39 U.vm ∧ U.heap = h0) (fun _ _ _ _ _ => True) (fun _ U o U' => ∃ v L, o = .returned v ∧ Q_aa Z ar ix h0 n0 v U'.heap L ∧ FrameEnd U o U' L ({ frames := 0, cells := 1, slots := 30, locals := 0 } : Room).cells ({ frames := 0, cells := 1, slots := 30, locals := 0 } : Room).slots) := by
  refine MetFree.of_bodySF (plainFor_of_name pn_com_example_parfactor_parfactor_model_PotentialTable) hisR ?_
  intro p e s m args below meth c s₁ Bd hml0 hP hK
  obtain ⟨rfl, hZ, hh⟩ := hP
  have hx := Bd.exec
  have hby := Bd.bytes
  have hml : c.maxLocals = 5 := hml0
  have hown : s.vm.findClass "com/example/parfactor/parfactor/model/PotentialTable" = some m.cls := findClass_of_methodNamed Bd.named
  have hnm := (name_of_methodNamed Bd.named Bd.method).1
  have X0 : Stand p l e ({ frames := 0, cells := 1, slots := 30, locals := 0 } : Room) s m #[(.int ar), (.int ix)] below meth c s₁ [] 0 0 := Stand.of_body Bd
  have e0 : s₁.heap = h0 := by rw [← hh, Bd.state]; rfl
  have N0 := Fr.nil n0
  obtain ⟨S0, hS0⟩ : ∃ S0, S0 = s₁.setTop (entryFrame m #[(.int ar), (.int ix)] 5) := ⟨_, rfl⟩
  have pre : Pth p e below S0 s₁ (mkF m 0 #[.val (.int ar), .val (.int ix), .unset, .unset, .unset] []) := fun t k => by rw [hS0]; exact castTop (ef_aa m ar ix) k
  replace pre : Pth p e below S0 s₁ (mkF m 1 #[.val (.int ar), .val (.int ix), .unset, .unset, .unset] [(.int ar)]) := fun t k => pre t (by
    show Steps p.tables e below (s₁.setTop (mkF m 0 #[.val (.int ar), .val (.int ix), .unset, .unset, .unset] [])) t
    refine XS.iloadN X0.here hx rfl (hb hby d_aa_0) rfl ?_
    show Steps p.tables e below (s₁.setTop (mkF m 1 #[.val (.int ar), .val (.int ix), .unset, .unset, .unset] [(.int ar)])) t
    exact k)
  obtain ⟨T1, h1, k1, X1, e1, E1, A1, st1⟩ := newP X0 hx hZ (hw _ (List.mem_of_getElem? (i := 5) rfl)) e0 (g := (mkF m 1 #[.val (.int ar), .val (.int ix), .unset, .unset, .unset] [(.int ar)])) rfl (hb hby d_aa_1) rfl (own_nneg hA.1) (cap := 30) (own_le hA) (by decide) (by decide) (by decide)
  obtain ⟨b1, g1⟩ : ∃ z, z = h0.size := ⟨_, rfl⟩
  rw [← g1] at A1 st1
  have F1 := OFun.new A1
  replace pre : Pth p e below S0 T1 (mkF m 3 #[.val (.int ar), .val (.int ix), .unset, .unset, .unset] [(.ref b1)]) := fun t k => pre t (st1 _ k)
  replace pre : Pth p e below S0 T1 (mkF m 6 #[.val (.int ar), .val (.int ix), .val (.ref b1), .val (.int (0 : Int32)), .unset] []) := fun t k => pre t (by
    show Steps p.tables e below (T1.setTop (mkF m 3 #[.val (.int ar), .val (.int ix), .unset, .unset, .unset] [(.ref b1)])) t
    refine XS.astoreN X1.here hx rfl (hb hby d_aa_3) rfl rfl (l' := #[.val (.int ar), .val (.int ix), .val (.ref b1), .unset, .unset]) rfl ?_
    show Steps p.tables e below (T1.setTop (mkF m 4 #[.val (.int ar), .val (.int ix), .val (.ref b1), .unset, .unset] [])) t
    refine XS.iconst X1.here hx rfl (hb hby d_aa_4) ?_
    show Steps p.tables e below (T1.setTop (mkF m 5 #[.val (.int ar), .val (.int ix), .val (.ref b1), .unset, .unset] [(.int (0 : Int32))])) t
    refine XS.istoreN X1.here hx rfl (hb hby d_aa_5) rfl (l' := #[.val (.int ar), .val (.int ix), .val (.ref b1), .val (.int (0 : Int32)), .unset]) rfl ?_
    show Steps p.tables e below (T1.setTop (mkF m 6 #[.val (.int ar), .val (.int ix), .val (.ref b1), .val (.int (0 : Int32)), .unset] [])) t
    exact k)
  have loop : ∀ (k i : Nat) (T : State) (locs : List Loc) (h : Heap) (s4 : Slot), i + k = ar.toNatClampNeg → Stand p l e ({ frames := 0, cells := 1, slots := 30, locals := 0 } : Room) s m #[(.int ar), (.int ix)] below meth c T locs 1 30 → T.heap = h → Fr n0 locs → Ext h0 h → OFun Z h b1 .boolean ar.toNatClampNeg (fun j => if j < i then .int (own_bit ar ix j) else .int 0) → own_one s4 → Pth p e below S0 T (mkF m 6 #[.val (.int ar), .val (.int ix), .val (.ref b1), .val (.int (Int32.ofNat i)), s4] []) → ∃ (T' : State) (locs' : List Loc) (h' : Heap) (i' : Nat) (s4' : Slot), Stand p l e ({ frames := 0, cells := 1, slots := 30, locals := 0 } : Room) s m #[(.int ar), (.int ix)] below meth c T' locs' 1 30 ∧ T'.heap = h' ∧ Fr n0 locs' ∧ Ext h0 h' ∧ OFun Z h' b1 .boolean ar.toNatClampNeg (fun j => .int (own_bit ar ix j)) ∧ Pth p e below S0 T' (mkF m 41 #[.val (.int ar), .val (.int ix), .val (.ref b1), .val (.int (Int32.ofNat i')), s4'] []) := by
    intro k
    induction k with
    | zero =>
      intro i T locs h s4 hk X eT N E F hs pre
      replace pre : Pth p e below S0 T (mkF m 41 #[.val (.int ar), .val (.int ix), .val (.ref b1), .val (.int (Int32.ofNat i)), s4] []) := fun t k => pre t (by
        show Steps p.tables e below (T.setTop (mkF m 6 #[.val (.int ar), .val (.int ix), .val (.ref b1), .val (.int (Int32.ofNat i)), s4] [])) t
        refine XS.iloadN X.here hx rfl (hb hby d_aa_6) rfl ?_
        show Steps p.tables e below (T.setTop (mkF m 7 #[.val (.int ar), .val (.int ix), .val (.ref b1), .val (.int (Int32.ofNat i)), s4] [(.int (Int32.ofNat i))])) t
        refine XS.iloadN X.here hx rfl (hb hby d_aa_7) rfl ?_
        show Steps p.tables e below (T.setTop (mkF m 8 #[.val (.int ar), .val (.int ix), .val (.ref b1), .val (.int (Int32.ofNat i)), s4] [(.int ar), (.int (Int32.ofNat i))])) t
        refine XS.icmpYes X.here hx rfl (pc0 := 8) (pc' := 41) rfl (hb hby d_aa_8) rfl (XT.ii_ge_t (own_ge hA (by omega))) (by decide) (by decide) ?_
        show Steps p.tables e below (T.setTop (mkF m 41 #[.val (.int ar), .val (.int ix), .val (.ref b1), .val (.int (Int32.ofNat i)), s4] [])) t
        exact k)
      exact ⟨T, locs, h, i, s4, X, eT, N, E, F.congr fun j hj => if_pos (by omega), pre⟩
    | succ k ih =>
      intro i T locs h s4 hk X eT N E F hs pre
      have hi : i < ar.toNatClampNeg := by omega
      replace pre : Pth p e below S0 T (mkF m 26 #[.val (.int ar), .val (.int ix), .val (.ref b1), .val (.int (Int32.ofNat i)), .val (.int ((ar - (1 : Int32)) - (Int32.ofNat i)))] [(.int ((ix >>> (((ar - (1 : Int32)) - (Int32.ofNat i)) &&& 31)) &&& (1 : Int32))), (.int (Int32.ofNat i)), (.ref b1)]) := fun t k => pre t (by
        show Steps p.tables e below (T.setTop (mkF m 6 #[.val (.int ar), .val (.int ix), .val (.ref b1), .val (.int (Int32.ofNat i)), s4] [])) t
        refine XS.iloadN X.here hx rfl (hb hby d_aa_6) rfl ?_
        show Steps p.tables e below (T.setTop (mkF m 7 #[.val (.int ar), .val (.int ix), .val (.ref b1), .val (.int (Int32.ofNat i)), s4] [(.int (Int32.ofNat i))])) t
        refine XS.iloadN X.here hx rfl (hb hby d_aa_7) rfl ?_
        show Steps p.tables e below (T.setTop (mkF m 8 #[.val (.int ar), .val (.int ix), .val (.ref b1), .val (.int (Int32.ofNat i)), s4] [(.int ar), (.int (Int32.ofNat i))])) t
        refine XS.icmpNo X.here hx rfl (hb hby d_aa_8) rfl (XT.ii_ge_f (own_lt hA hi)) ?_
        show Steps p.tables e below (T.setTop (mkF m 11 #[.val (.int ar), .val (.int ix), .val (.ref b1), .val (.int (Int32.ofNat i)), s4] [])) t
        refine XS.iloadN X.here hx rfl (hb hby d_aa_11) rfl ?_
        show Steps p.tables e below (T.setTop (mkF m 12 #[.val (.int ar), .val (.int ix), .val (.ref b1), .val (.int (Int32.ofNat i)), s4] [(.int ar)])) t
        refine XS.iconst X.here hx rfl (hb hby d_aa_12) ?_
        show Steps p.tables e below (T.setTop (mkF m 13 #[.val (.int ar), .val (.int ix), .val (.ref b1), .val (.int (Int32.ofNat i)), s4] [(.int (1 : Int32)), (.int ar)])) t
        refine XS.isub X.here hx rfl (hb hby d_aa_13) rfl ?_
        show Steps p.tables e below (T.setTop (mkF m 14 #[.val (.int ar), .val (.int ix), .val (.ref b1), .val (.int (Int32.ofNat i)), s4] [(.int (ar - (1 : Int32)))])) t
        refine XS.iloadN X.here hx rfl (hb hby d_aa_14) rfl ?_
        show Steps p.tables e below (T.setTop (mkF m 15 #[.val (.int ar), .val (.int ix), .val (.ref b1), .val (.int (Int32.ofNat i)), s4] [(.int (Int32.ofNat i)), (.int (ar - (1 : Int32)))])) t
        refine XS.isub X.here hx rfl (hb hby d_aa_15) rfl ?_
        show Steps p.tables e below (T.setTop (mkF m 16 #[.val (.int ar), .val (.int ix), .val (.ref b1), .val (.int (Int32.ofNat i)), s4] [(.int ((ar - (1 : Int32)) - (Int32.ofNat i)))])) t
        refine XS.istore X.here hx rfl (hb hby d_aa_16) rfl (l' := #[.val (.int ar), .val (.int ix), .val (.ref b1), .val (.int (Int32.ofNat i)), .val (.int ((ar - (1 : Int32)) - (Int32.ofNat i)))]) (own_st4 hs) ?_
        show Steps p.tables e below (T.setTop (mkF m 18 #[.val (.int ar), .val (.int ix), .val (.ref b1), .val (.int (Int32.ofNat i)), .val (.int ((ar - (1 : Int32)) - (Int32.ofNat i)))] [])) t
        refine XS.aloadN X.here hx rfl (hb hby d_aa_18) rfl rfl ?_
        show Steps p.tables e below (T.setTop (mkF m 19 #[.val (.int ar), .val (.int ix), .val (.ref b1), .val (.int (Int32.ofNat i)), .val (.int ((ar - (1 : Int32)) - (Int32.ofNat i)))] [(.ref b1)])) t
        refine XS.iloadN X.here hx rfl (hb hby d_aa_19) rfl ?_
        show Steps p.tables e below (T.setTop (mkF m 20 #[.val (.int ar), .val (.int ix), .val (.ref b1), .val (.int (Int32.ofNat i)), .val (.int ((ar - (1 : Int32)) - (Int32.ofNat i)))] [(.int (Int32.ofNat i)), (.ref b1)])) t
        refine XS.iloadN X.here hx rfl (hb hby d_aa_20) rfl ?_
        show Steps p.tables e below (T.setTop (mkF m 21 #[.val (.int ar), .val (.int ix), .val (.ref b1), .val (.int (Int32.ofNat i)), .val (.int ((ar - (1 : Int32)) - (Int32.ofNat i)))] [(.int ix), (.int (Int32.ofNat i)), (.ref b1)])) t
        refine XS.iload X.here hx rfl (hb hby d_aa_21) rfl ?_
        show Steps p.tables e below (T.setTop (mkF m 23 #[.val (.int ar), .val (.int ix), .val (.ref b1), .val (.int (Int32.ofNat i)), .val (.int ((ar - (1 : Int32)) - (Int32.ofNat i)))] [(.int ((ar - (1 : Int32)) - (Int32.ofNat i))), (.int ix), (.int (Int32.ofNat i)), (.ref b1)])) t
        refine XS.ishr X.here hx rfl (hb hby d_aa_23) rfl ?_
        show Steps p.tables e below (T.setTop (mkF m 24 #[.val (.int ar), .val (.int ix), .val (.ref b1), .val (.int (Int32.ofNat i)), .val (.int ((ar - (1 : Int32)) - (Int32.ofNat i)))] [(.int (ix >>> (((ar - (1 : Int32)) - (Int32.ofNat i)) &&& 31))), (.int (Int32.ofNat i)), (.ref b1)])) t
        refine XS.iconst X.here hx rfl (hb hby d_aa_24) ?_
        show Steps p.tables e below (T.setTop (mkF m 25 #[.val (.int ar), .val (.int ix), .val (.ref b1), .val (.int (Int32.ofNat i)), .val (.int ((ar - (1 : Int32)) - (Int32.ofNat i)))] [(.int (1 : Int32)), (.int (ix >>> (((ar - (1 : Int32)) - (Int32.ofNat i)) &&& 31))), (.int (Int32.ofNat i)), (.ref b1)])) t
        refine XS.iand X.here hx rfl (hb hby d_aa_25) rfl ?_
        show Steps p.tables e below (T.setTop (mkF m 26 #[.val (.int ar), .val (.int ix), .val (.ref b1), .val (.int (Int32.ofNat i)), .val (.int ((ar - (1 : Int32)) - (Int32.ofNat i)))] [(.int ((ix >>> (((ar - (1 : Int32)) - (Int32.ofNat i)) &&& 31)) &&& (1 : Int32))), (.int (Int32.ofNat i)), (.ref b1)])) t
        exact k)
      obtain ⟨x, hx', pre⟩ : ∃ x : Int32, x = own_bit ar ix i ∧ Pth p e below S0 T (mkF m 34 #[.val (.int ar), .val (.int ix), .val (.ref b1), .val (.int (Int32.ofNat i)), .val (.int ((ar - (1 : Int32)) - (Int32.ofNat i)))] [(.int x), (.int (Int32.ofNat i)), (.ref b1)]) := by
        by_cases z1 : ((ix >>> (((ar - (1 : Int32)) - (Int32.ofNat i)) &&& 31)) &&& (1 : Int32)) = (0 : Int32)
        · replace pre : Pth p e below S0 T (mkF m 34 #[.val (.int ar), .val (.int ix), .val (.ref b1), .val (.int (Int32.ofNat i)), .val (.int ((ar - (1 : Int32)) - (Int32.ofNat i)))] [(.int (1 : Int32)), (.int (Int32.ofNat i)), (.ref b1)]) := fun t k => pre t (by
            show Steps p.tables e below (T.setTop (mkF m 26 #[.val (.int ar), .val (.int ix), .val (.ref b1), .val (.int (Int32.ofNat i)), .val (.int ((ar - (1 : Int32)) - (Int32.ofNat i)))] [(.int ((ix >>> (((ar - (1 : Int32)) - (Int32.ofNat i)) &&& 31)) &&& (1 : Int32))), (.int (Int32.ofNat i)), (.ref b1)])) t
            refine XS.ifNo X.here hx rfl (hb hby d_aa_26) rfl (XT.i0_ne_f z1) ?_
            show Steps p.tables e below (T.setTop (mkF m 29 #[.val (.int ar), .val (.int ix), .val (.ref b1), .val (.int (Int32.ofNat i)), .val (.int ((ar - (1 : Int32)) - (Int32.ofNat i)))] [(.int (Int32.ofNat i)), (.ref b1)])) t
            refine XS.iconst X.here hx rfl (hb hby d_aa_29) ?_
            show Steps p.tables e below (T.setTop (mkF m 30 #[.val (.int ar), .val (.int ix), .val (.ref b1), .val (.int (Int32.ofNat i)), .val (.int ((ar - (1 : Int32)) - (Int32.ofNat i)))] [(.int (1 : Int32)), (.int (Int32.ofNat i)), (.ref b1)])) t
            refine XS.goto X.here hx rfl (pc0 := 30) (pc' := 34) rfl (hb hby d_aa_30) (by decide) (by decide) ?_
            show Steps p.tables e below (T.setTop (mkF m 34 #[.val (.int ar), .val (.int ix), .val (.ref b1), .val (.int (Int32.ofNat i)), .val (.int ((ar - (1 : Int32)) - (Int32.ofNat i)))] [(.int (1 : Int32)), (.int (Int32.ofNat i)), (.ref b1)])) t
            exact k)
          exact ⟨_, (if_pos z1).symm, pre⟩
        · replace pre : Pth p e below S0 T (mkF m 34 #[.val (.int ar), .val (.int ix), .val (.ref b1), .val (.int (Int32.ofNat i)), .val (.int ((ar - (1 : Int32)) - (Int32.ofNat i)))] [(.int (0 : Int32)), (.int (Int32.ofNat i)), (.ref b1)]) := fun t k => pre t (by
            show Steps p.tables e below (T.setTop (mkF m 26 #[.val (.int ar), .val (.int ix), .val (.ref b1), .val (.int (Int32.ofNat i)), .val (.int ((ar - (1 : Int32)) - (Int32.ofNat i)))] [(.int ((ix >>> (((ar - (1 : Int32)) - (Int32.ofNat i)) &&& 31)) &&& (1 : Int32))), (.int (Int32.ofNat i)), (.ref b1)])) t
            refine XS.ifYes X.here hx rfl (pc0 := 26) (pc' := 33) rfl (hb hby d_aa_26) rfl (XT.i0_ne_t z1) (by decide) (by decide) ?_
            show Steps p.tables e below (T.setTop (mkF m 33 #[.val (.int ar), .val (.int ix), .val (.ref b1), .val (.int (Int32.ofNat i)), .val (.int ((ar - (1 : Int32)) - (Int32.ofNat i)))] [(.int (Int32.ofNat i)), (.ref b1)])) t
            refine XS.iconst X.here hx rfl (hb hby d_aa_33) ?_
            show Steps p.tables e below (T.setTop (mkF m 34 #[.val (.int ar), .val (.int ix), .val (.ref b1), .val (.int (Int32.ofNat i)), .val (.int ((ar - (1 : Int32)) - (Int32.ofNat i)))] [(.int (0 : Int32)), (.int (Int32.ofNat i)), (.ref b1)])) t
            exact k)
          exact ⟨_, (if_neg z1).symm, pre⟩
      obtain ⟨cl2, Ar2, Sz2, -⟩ := id F
      obtain ⟨T2, h2, X2, e2, W2, st2⟩ := stZ X hx hZ eT Ar2 (j := (Int32.ofNat i)) (by rw [Sz2]; exact (own_in (own_i hA hi) hi)) (g := (mkF m 34 #[.val (.int ar), .val (.int ix), .val (.ref b1), .val (.int (Int32.ofNat i)), .val (.int ((ar - (1 : Int32)) - (Int32.ofNat i)))] [(.int x), (.int (Int32.ofNat i)), (.ref b1)])) rfl rfl (hb hby d_aa_34)
      have F2 := OFun.set F W2
      have N2 := Fr.snoc X2 N (by rw [g1]; exact Z0)
      replace pre : Pth p e below S0 T2 (mkF m 35 #[.val (.int ar), .val (.int ix), .val (.ref b1), .val (.int (Int32.ofNat i)), .val (.int ((ar - (1 : Int32)) - (Int32.ofNat i)))] []) := fun t k => pre t (st2 _ k)
      replace pre : Pth p e below S0 T2 (mkF m 6 #[.val (.int ar), .val (.int ix), .val (.ref b1), .val (.int ((Int32.ofNat i) + (1 : Int32))), .val (.int ((ar - (1 : Int32)) - (Int32.ofNat i)))] []) := fun t k => pre t (by
        show Steps p.tables e below (T2.setTop (mkF m 35 #[.val (.int ar), .val (.int ix), .val (.ref b1), .val (.int (Int32.ofNat i)), .val (.int ((ar - (1 : Int32)) - (Int32.ofNat i)))] [])) t
        refine XS.iinc X2.here hx rfl (hb hby d_aa_35) rfl (l' := #[.val (.int ar), .val (.int ix), .val (.ref b1), .val (.int ((Int32.ofNat i) + (1 : Int32))), .val (.int ((ar - (1 : Int32)) - (Int32.ofNat i)))]) rfl ?_
        show Steps p.tables e below (T2.setTop (mkF m 38 #[.val (.int ar), .val (.int ix), .val (.ref b1), .val (.int ((Int32.ofNat i) + (1 : Int32))), .val (.int ((ar - (1 : Int32)) - (Int32.ofNat i)))] [])) t
        refine XS.goto X2.here hx rfl (pc0 := 38) (pc' := 6) rfl (hb hby d_aa_38) (by decide) (by decide) ?_
        show Steps p.tables e below (T2.setTop (mkF m 6 #[.val (.int ar), .val (.int ix), .val (.ref b1), .val (.int ((Int32.ofNat i) + (1 : Int32))), .val (.int ((ar - (1 : Int32)) - (Int32.ofNat i)))] [])) t
        exact k)
      rw [← inc_ofNat] at pre
      refine ih (i + 1) _ _ _ _ (by omega) X2 e2 N2 (own_ext_wr E W2 (Nat.le_of_eq g1.symm)) (F2.congr fun j hj => ?_) (Or.inr ⟨_, rfl⟩) pre
      rw [own_cl (own_i hA hi), hx', own_narb]
      by_cases q : j = i
      · subst q; simp
      · have q1 : (j < i + 1) = (j < i) := propext ⟨fun r => by omega, fun r => by omega⟩
        simp only [q, if_false, q1]
  obtain ⟨T, locs, h, i', s4', X, eT, N, E, F, pre⟩ := loop ar.toNatClampNeg 0 _ _ _ _ (Nat.zero_add _) X1 e1 N0 E1 (F1.congr fun j _ => (if_neg (Nat.not_lt_zero j)).symm) (Or.inl rfl) pre
  replace pre : Pth p e below S0 T (mkF m 42 #[.val (.int ar), .val (.int ix), .val (.ref b1), .val (.int (Int32.ofNat i')), s4'] [(.ref b1)]) := fun t k => pre t (by
    show Steps p.tables e below (T.setTop (mkF m 41 #[.val (.int ar), .val (.int ix), .val (.ref b1), .val (.int (Int32.ofNat i')), s4'] [])) t
    refine XS.aloadN X.here hx rfl (hb hby d_aa_41) rfl rfl ?_
    show Steps p.tables e below (T.setTop (mkF m 42 #[.val (.int ar), .val (.int ix), .val (.ref b1), .val (.int (Int32.ofNat i')), s4'] [(.ref b1)])) t
    exact k)
  subst g1
  obtain ⟨fs, hr, hrun, hended, hW, hsame⟩ := X.leave (v := some (.ref h0.size)) (fun h => by rw [Bd.returns] at h; cases h)
  subst hS0
  refine ⟨_, _, pre _ ?_, hrun, hended, _, _, rfl, ?_, ⟨_, rfl⟩, hW, hsame.mono (by decide) (by decide)⟩
  · exact retOut X hx (t := (.array .boolean)) Bd.returns rfl (by simp [Value.isRef, FieldType.isReference]) (hb hby d_aa_42) hr
  · show Q_aa Z ar ix h0 n0 _ T.heap _
    rw [eT]
    exact ⟨rfl, N, E, F⟩
def Q_ex (Z : State) (ar : Int32) (ix : Int32) (ps : Int32) (h0 : Heap) (n0 : Nat) (v : Option Value) (h : Heap) (L : List Loc) : Prop := v = some (.int (own_ex ar ix ps)) ∧ Fr n0 L ∧ h = h0
set_option maxRecDepth 65536 in
set_option maxHeartbeats 40000000 in
theorem rm_ex (l : Launch) (Z : State) (a0 : Array Value) (hw : ∀ d ∈ tables_1, d.before a0 Z = true) (ws : List Jvm.Cond) (ar : Int32) (ix : Int32) (ps : Int32) (h0 : Heap) (n0 : Nat) (Z0 : n0 ≤ h0.size) (hz : own_wt ar ps ≠ 0) :
    MetFree l (⟨"com/example/parfactor/parfactor/model/PotentialTableAssignmentAtPinLaw", "expected", "(III)Z"⟩ : MethodName) (head1 (Jvm.Cond.code (⟨"com/example/parfactor/parfactor/model/PotentialTableAssignmentAtPinLaw", "expected", "(III)Z"⟩ : MethodName) method_2_code 4 (some .boolean) :: ws) ({ frames := 0, cells := 0, slots := 0, locals := 0 } : Room)) (fun a U => a = #[(.int ar), (.int ix), (.int ps)] ∧ Z.Warmed39 U.vm ∧ U.heap = h0) (fun _ _ _ _ _ => True) (fun _ U o U' => ∃ v L, o = .returned v ∧ Q_ex Z ar ix ps h0 n0 v U'.heap L ∧ FrameEnd U o U' L ({ frames := 0, cells := 0, slots := 0, locals := 0 } : Room).cells ({ frames := 0, cells := 0, slots := 0, locals := 0 } : Room).slots) := by
  refine MetFree.of_bodySF (plainFor_of_name pn_com_example_parfactor_parfactor_model_PotentialTableAssignmentAtPinLaw) hisR ?_
  intro p e s m args below meth c s₁ Bd hml0 hP hK
  obtain ⟨rfl, hZ, hh⟩ := hP
  have hx := Bd.exec
  have hby := Bd.bytes
  have hml : c.maxLocals = 4 := hml0
  have hown : s.vm.findClass "com/example/parfactor/parfactor/model/PotentialTableAssignmentAtPinLaw" = some m.cls := findClass_of_methodNamed Bd.named
  have hnm := (name_of_methodNamed Bd.named Bd.method).1
  have X0 : Stand p l e ({ frames := 0, cells := 0, slots := 0, locals := 0 } : Room) s m #[(.int ar), (.int ix), (.int ps)] below meth c s₁ [] 0 0 := Stand.of_body Bd
  have e0 : s₁.heap = h0 := by rw [← hh, Bd.state]; rfl
  have N0 := Fr.nil n0
  obtain ⟨S0, hS0⟩ : ∃ S0, S0 = s₁.setTop (entryFrame m #[(.int ar), (.int ix), (.int ps)] 4) := ⟨_, rfl⟩
  have pre : Pth p e below S0 s₁ (mkF m 0 #[.val (.int ar), .val (.int ix), .val (.int ps), .unset] []) := fun t k => by rw [hS0]; exact castTop (ef_ex m ar ix ps) k
  replace pre : Pth p e below S0 s₁ (mkF m 13 #[.val (.int ar), .val (.int ix), .val (.int ps), .val (.int ((1 : Int32) <<< (((ar - (1 : Int32)) - ps) &&& 31)))] [(.int ((ix / ((1 : Int32) <<< (((ar - (1 : Int32)) - ps) &&& 31))) % (2 : Int32)))]) := fun t k => pre t (by
    show Steps p.tables e below (s₁.setTop (mkF m 0 #[.val (.int ar), .val (.int ix), .val (.int ps), .unset] [])) t
    refine XS.iconst X0.here hx rfl (hb hby d_ex_0) ?_
    show Steps p.tables e below (s₁.setTop (mkF m 1 #[.val (.int ar), .val (.int ix), .val (.int ps), .unset] [(.int (1 : Int32))])) t
    refine XS.iloadN X0.here hx rfl (hb hby d_ex_1) rfl ?_
    show Steps p.tables e below (s₁.setTop (mkF m 2 #[.val (.int ar), .val (.int ix), .val (.int ps), .unset] [(.int ar), (.int (1 : Int32))])) t
    refine XS.iconst X0.here hx rfl (hb hby d_ex_2) ?_
    show Steps p.tables e below (s₁.setTop (mkF m 3 #[.val (.int ar), .val (.int ix), .val (.int ps), .unset] [(.int (1 : Int32)), (.int ar), (.int (1 : Int32))])) t
    refine XS.isub X0.here hx rfl (hb hby d_ex_3) rfl ?_
    show Steps p.tables e below (s₁.setTop (mkF m 4 #[.val (.int ar), .val (.int ix), .val (.int ps), .unset] [(.int (ar - (1 : Int32))), (.int (1 : Int32))])) t
    refine XS.iloadN X0.here hx rfl (hb hby d_ex_4) rfl ?_
    show Steps p.tables e below (s₁.setTop (mkF m 5 #[.val (.int ar), .val (.int ix), .val (.int ps), .unset] [(.int ps), (.int (ar - (1 : Int32))), (.int (1 : Int32))])) t
    refine XS.isub X0.here hx rfl (hb hby d_ex_5) rfl ?_
    show Steps p.tables e below (s₁.setTop (mkF m 6 #[.val (.int ar), .val (.int ix), .val (.int ps), .unset] [(.int ((ar - (1 : Int32)) - ps)), (.int (1 : Int32))])) t
    refine XS.ishl X0.here hx rfl (hb hby d_ex_6) rfl ?_
    show Steps p.tables e below (s₁.setTop (mkF m 7 #[.val (.int ar), .val (.int ix), .val (.int ps), .unset] [(.int ((1 : Int32) <<< (((ar - (1 : Int32)) - ps) &&& 31)))])) t
    refine XS.istoreN X0.here hx rfl (hb hby d_ex_7) rfl (l' := #[.val (.int ar), .val (.int ix), .val (.int ps), .val (.int ((1 : Int32) <<< (((ar - (1 : Int32)) - ps) &&& 31)))]) rfl ?_
    show Steps p.tables e below (s₁.setTop (mkF m 8 #[.val (.int ar), .val (.int ix), .val (.int ps), .val (.int ((1 : Int32) <<< (((ar - (1 : Int32)) - ps) &&& 31)))] [])) t
    refine XS.iloadN X0.here hx rfl (hb hby d_ex_8) rfl ?_
    show Steps p.tables e below (s₁.setTop (mkF m 9 #[.val (.int ar), .val (.int ix), .val (.int ps), .val (.int ((1 : Int32) <<< (((ar - (1 : Int32)) - ps) &&& 31)))] [(.int ix)])) t
    refine XS.iloadN X0.here hx rfl (hb hby d_ex_9) rfl ?_
    show Steps p.tables e below (s₁.setTop (mkF m 10 #[.val (.int ar), .val (.int ix), .val (.int ps), .val (.int ((1 : Int32) <<< (((ar - (1 : Int32)) - ps) &&& 31)))] [(.int ((1 : Int32) <<< (((ar - (1 : Int32)) - ps) &&& 31))), (.int ix)])) t
    refine XS.idiv X0.here hx rfl (hb hby d_ex_10) rfl hz ?_
    show Steps p.tables e below (s₁.setTop (mkF m 11 #[.val (.int ar), .val (.int ix), .val (.int ps), .val (.int ((1 : Int32) <<< (((ar - (1 : Int32)) - ps) &&& 31)))] [(.int (ix / ((1 : Int32) <<< (((ar - (1 : Int32)) - ps) &&& 31))))])) t
    refine XS.iconst X0.here hx rfl (hb hby d_ex_11) ?_
    show Steps p.tables e below (s₁.setTop (mkF m 12 #[.val (.int ar), .val (.int ix), .val (.int ps), .val (.int ((1 : Int32) <<< (((ar - (1 : Int32)) - ps) &&& 31)))] [(.int (2 : Int32)), (.int (ix / ((1 : Int32) <<< (((ar - (1 : Int32)) - ps) &&& 31))))])) t
    refine iremM (g := (mkF m 12 #[.val (.int ar), .val (.int ix), .val (.int ps), .val (.int ((1 : Int32) <<< (((ar - (1 : Int32)) - ps) &&& 31)))] [(.int (2 : Int32)), (.int (ix / ((1 : Int32) <<< (((ar - (1 : Int32)) - ps) &&& 31))))])) X0 hx rfl (hb hby d_ex_12) rfl (by decide) ?_
    show Steps p.tables e below (s₁.setTop (mkF m 13 #[.val (.int ar), .val (.int ix), .val (.int ps), .val (.int ((1 : Int32) <<< (((ar - (1 : Int32)) - ps) &&& 31)))] [(.int ((ix / ((1 : Int32) <<< (((ar - (1 : Int32)) - ps) &&& 31))) % (2 : Int32)))])) t
    exact k)
  by_cases z1 : ((ix / ((1 : Int32) <<< (((ar - (1 : Int32)) - ps) &&& 31))) % (2 : Int32)) = (0 : Int32)
  · replace pre : Pth p e below S0 s₁ (mkF m 21 #[.val (.int ar), .val (.int ix), .val (.int ps), .val (.int ((1 : Int32) <<< (((ar - (1 : Int32)) - ps) &&& 31)))] [(.int (1 : Int32))]) := fun t k => pre t (by
      show Steps p.tables e below (s₁.setTop (mkF m 13 #[.val (.int ar), .val (.int ix), .val (.int ps), .val (.int ((1 : Int32) <<< (((ar - (1 : Int32)) - ps) &&& 31)))] [(.int ((ix / ((1 : Int32) <<< (((ar - (1 : Int32)) - ps) &&& 31))) % (2 : Int32)))])) t
      refine XS.ifNo X0.here hx rfl (hb hby d_ex_13) rfl (XT.i0_ne_f z1) ?_
      show Steps p.tables e below (s₁.setTop (mkF m 16 #[.val (.int ar), .val (.int ix), .val (.int ps), .val (.int ((1 : Int32) <<< (((ar - (1 : Int32)) - ps) &&& 31)))] [])) t
      refine XS.iconst X0.here hx rfl (hb hby d_ex_16) ?_
      show Steps p.tables e below (s₁.setTop (mkF m 17 #[.val (.int ar), .val (.int ix), .val (.int ps), .val (.int ((1 : Int32) <<< (((ar - (1 : Int32)) - ps) &&& 31)))] [(.int (1 : Int32))])) t
      refine XS.goto X0.here hx rfl (pc0 := 17) (pc' := 21) rfl (hb hby d_ex_17) (by decide) (by decide) ?_
      show Steps p.tables e below (s₁.setTop (mkF m 21 #[.val (.int ar), .val (.int ix), .val (.int ps), .val (.int ((1 : Int32) <<< (((ar - (1 : Int32)) - ps) &&& 31)))] [(.int (1 : Int32))])) t
      exact k)
    obtain ⟨fs, hr, hrun, hended, hW, hsame⟩ := X0.leave (v := some (.int (1 : Int32))) (fun h => by rw [Bd.returns] at h; cases h)
    subst hS0
    refine ⟨_, _, pre _ ?_, hrun, hended, _, _, rfl, ?_, ⟨_, rfl⟩, hW, hsame.mono (by decide) (by decide)⟩
    · exact retN X0 hx (t := .boolean) Bd.returns (by simp) (hb hby d_ex_21) hr
    · show Q_ex Z ar ix ps h0 n0 _ s₁.heap _
      rw [e0]
      exact ⟨congrArg (fun q => some (Value.int q)) (if_pos z1).symm, N0, rfl⟩
  · replace pre : Pth p e below S0 s₁ (mkF m 21 #[.val (.int ar), .val (.int ix), .val (.int ps), .val (.int ((1 : Int32) <<< (((ar - (1 : Int32)) - ps) &&& 31)))] [(.int (0 : Int32))]) := fun t k => pre t (by
      show Steps p.tables e below (s₁.setTop (mkF m 13 #[.val (.int ar), .val (.int ix), .val (.int ps), .val (.int ((1 : Int32) <<< (((ar - (1 : Int32)) - ps) &&& 31)))] [(.int ((ix / ((1 : Int32) <<< (((ar - (1 : Int32)) - ps) &&& 31))) % (2 : Int32)))])) t
      refine XS.ifYes X0.here hx rfl (pc0 := 13) (pc' := 20) rfl (hb hby d_ex_13) rfl (XT.i0_ne_t z1) (by decide) (by decide) ?_
      show Steps p.tables e below (s₁.setTop (mkF m 20 #[.val (.int ar), .val (.int ix), .val (.int ps), .val (.int ((1 : Int32) <<< (((ar - (1 : Int32)) - ps) &&& 31)))] [])) t
      refine XS.iconst X0.here hx rfl (hb hby d_ex_20) ?_
      show Steps p.tables e below (s₁.setTop (mkF m 21 #[.val (.int ar), .val (.int ix), .val (.int ps), .val (.int ((1 : Int32) <<< (((ar - (1 : Int32)) - ps) &&& 31)))] [(.int (0 : Int32))])) t
      exact k)
    obtain ⟨fs, hr, hrun, hended, hW, hsame⟩ := X0.leave (v := some (.int (0 : Int32))) (fun h => by rw [Bd.returns] at h; cases h)
    subst hS0
    refine ⟨_, _, pre _ ?_, hrun, hended, _, _, rfl, ?_, ⟨_, rfl⟩, hW, hsame.mono (by decide) (by decide)⟩
    · exact retN X0 hx (t := .boolean) Bd.returns (by simp) (hb hby d_ex_21) hr
    · show Q_ex Z ar ix ps h0 n0 _ s₁.heap _
      rw [e0]
      exact ⟨congrArg (fun q => some (Value.int q)) (if_neg z1).symm, N0, rfl⟩
def Q_law (Z : State) (p0 : Int32) (p1 : Int32) (p2 : Int32) (h0 : Heap) (n0 : Nat) (v : Option Value) (h : Heap) (L : List Loc) : Prop := v = some (.int 1) ∧ Fr n0 L
set_option maxRecDepth 65536 in
set_option maxHeartbeats 40000000 in
theorem rm_law (l : Launch) (Z : State) (a0 : Array Value) (hw : ∀ d ∈ tables_1, d.before a0 Z = true) (ws : List Jvm.Cond) (p0 : Int32) (p1 : Int32) (p2 : Int32) (h0 : Heap) (n0 : Nat) (Z0 : n0 ≤ h0.size)  :
    MetFree l x (head1 (Jvm.Cond.code x code maxLocals ret :: ws) room_1) (fun a U => a = #[(.int p0), (.int p1), (.int p2)] ∧ Z.Warmed39 U.vm ∧ U.heap = h0) (fun _ _ _ _ _ => True) (fun _ U o U' => ∃ v L, o = .returned v ∧ Q_law Z p0 p1 p2 h0 n0 v U'.heap L ∧ FrameEnd U o U' L room_1.cells room_1.slots) := by
  refine MetFree.of_bodySF (plainFor_of_name pn_com_example_parfactor_parfactor_model_PotentialTableAssignmentAtPinLaw) hisR ?_
  intro p e s m args below meth c s₁ Bd hml0 hP hK
  obtain ⟨rfl, hZ, hh⟩ := hP
  have hx := Bd.exec
  have hby := Bd.bytes
  have hml : c.maxLocals = 7 := hml0
  have hown : s.vm.findClass "com/example/parfactor/parfactor/model/PotentialTableAssignmentAtPinLaw" = some m.cls := findClass_of_methodNamed Bd.named
  have hnm := (name_of_methodNamed Bd.named Bd.method).1
  have X0 : Stand p l e room_1 s m #[(.int p0), (.int p1), (.int p2)] below meth c s₁ [] 0 0 := Stand.of_body Bd
  have e0 : s₁.heap = h0 := by rw [← hh, Bd.state]; rfl
  have N0 := Fr.nil n0
  obtain ⟨S0, hS0⟩ : ∃ S0, S0 = s₁.setTop (entryFrame m #[(.int p0), (.int p1), (.int p2)] maxLocals) := ⟨_, rfl⟩
  have pre : Pth p e below S0 s₁ (mkF m 0 #[.val (.int p0), .val (.int p1), .val (.int p2), .unset, .unset, .unset, .unset] []) := fun t k => by rw [hS0]; exact castTop (ef_law m p0 p1 p2) k
  replace pre : Pth p e below S0 s₁ (mkF m 8 #[.val (.int p0), .val (.int p1), .val (.int p2), .val (.int ((p0 &&& (2147483647 : Int32)) % (31 : Int32))), .unset, .unset, .unset] []) := fun t k => pre t (by
    show Steps p.tables e below (s₁.setTop (mkF m 0 #[.val (.int p0), .val (.int p1), .val (.int p2), .unset, .unset, .unset, .unset] [])) t
    refine XS.iloadN X0.here hx rfl (hb hby at_0) rfl ?_
    show Steps p.tables e below (s₁.setTop (mkF m 1 #[.val (.int p0), .val (.int p1), .val (.int p2), .unset, .unset, .unset, .unset] [(.int p0)])) t
    refine X0.ldcInt hx hown (mvT hZ (hw _ (List.mem_of_getElem? (i := 0) rfl))) (g := (mkF m 1 #[.val (.int p0), .val (.int p1), .val (.int p2), .unset, .unset, .unset, .unset] [(.int p0)])) rfl (hb hby at_1) _ ?_
    show Steps p.tables e below (s₁.setTop (mkF m 3 #[.val (.int p0), .val (.int p1), .val (.int p2), .unset, .unset, .unset, .unset] [(.int (2147483647 : Int32)), (.int p0)])) t
    refine XS.iand X0.here hx rfl (hb hby at_3) rfl ?_
    show Steps p.tables e below (s₁.setTop (mkF m 4 #[.val (.int p0), .val (.int p1), .val (.int p2), .unset, .unset, .unset, .unset] [(.int (p0 &&& (2147483647 : Int32)))])) t
    refine XS.bipush X0.here hx rfl (hb hby at_4) ?_
    show Steps p.tables e below (s₁.setTop (mkF m 6 #[.val (.int p0), .val (.int p1), .val (.int p2), .unset, .unset, .unset, .unset] [(.int (31 : Int32)), (.int (p0 &&& (2147483647 : Int32)))])) t
    refine iremM (g := (mkF m 6 #[.val (.int p0), .val (.int p1), .val (.int p2), .unset, .unset, .unset, .unset] [(.int (31 : Int32)), (.int (p0 &&& (2147483647 : Int32)))])) X0 hx rfl (hb hby at_6) rfl (by decide) ?_
    show Steps p.tables e below (s₁.setTop (mkF m 7 #[.val (.int p0), .val (.int p1), .val (.int p2), .unset, .unset, .unset, .unset] [(.int ((p0 &&& (2147483647 : Int32)) % (31 : Int32)))])) t
    refine XS.istoreN X0.here hx rfl (hb hby at_7) rfl (l' := #[.val (.int p0), .val (.int p1), .val (.int p2), .val (.int ((p0 &&& (2147483647 : Int32)) % (31 : Int32))), .unset, .unset, .unset]) rfl ?_
    show Steps p.tables e below (s₁.setTop (mkF m 8 #[.val (.int p0), .val (.int p1), .val (.int p2), .val (.int ((p0 &&& (2147483647 : Int32)) % (31 : Int32))), .unset, .unset, .unset] [])) t
    exact k)
  obtain ⟨ar, har⟩ : ∃ z : Int32, z = ((p0 &&& (2147483647 : Int32)) % (31 : Int32)) := ⟨_, rfl⟩
  rw [← har] at pre
  have hA := own_arity har
  replace pre : Pth p e below S0 s₁ (mkF m 17 #[.val (.int p0), .val (.int p1), .val (.int p2), .val (.int ar), .val (.int (p1 &&& (((1 : Int32) <<< (ar &&& 31)) - (1 : Int32)))), .unset, .unset] []) := fun t k => pre t (by
    show Steps p.tables e below (s₁.setTop (mkF m 8 #[.val (.int p0), .val (.int p1), .val (.int p2), .val (.int ar), .unset, .unset, .unset] [])) t
    refine XS.iloadN X0.here hx rfl (hb hby at_8) rfl ?_
    show Steps p.tables e below (s₁.setTop (mkF m 9 #[.val (.int p0), .val (.int p1), .val (.int p2), .val (.int ar), .unset, .unset, .unset] [(.int p1)])) t
    refine XS.iconst X0.here hx rfl (hb hby at_9) ?_
    show Steps p.tables e below (s₁.setTop (mkF m 10 #[.val (.int p0), .val (.int p1), .val (.int p2), .val (.int ar), .unset, .unset, .unset] [(.int (1 : Int32)), (.int p1)])) t
    refine XS.iloadN X0.here hx rfl (hb hby at_10) rfl ?_
    show Steps p.tables e below (s₁.setTop (mkF m 11 #[.val (.int p0), .val (.int p1), .val (.int p2), .val (.int ar), .unset, .unset, .unset] [(.int ar), (.int (1 : Int32)), (.int p1)])) t
    refine XS.ishl X0.here hx rfl (hb hby at_11) rfl ?_
    show Steps p.tables e below (s₁.setTop (mkF m 12 #[.val (.int p0), .val (.int p1), .val (.int p2), .val (.int ar), .unset, .unset, .unset] [(.int ((1 : Int32) <<< (ar &&& 31))), (.int p1)])) t
    refine XS.iconst X0.here hx rfl (hb hby at_12) ?_
    show Steps p.tables e below (s₁.setTop (mkF m 13 #[.val (.int p0), .val (.int p1), .val (.int p2), .val (.int ar), .unset, .unset, .unset] [(.int (1 : Int32)), (.int ((1 : Int32) <<< (ar &&& 31))), (.int p1)])) t
    refine XS.isub X0.here hx rfl (hb hby at_13) rfl ?_
    show Steps p.tables e below (s₁.setTop (mkF m 14 #[.val (.int p0), .val (.int p1), .val (.int p2), .val (.int ar), .unset, .unset, .unset] [(.int (((1 : Int32) <<< (ar &&& 31)) - (1 : Int32))), (.int p1)])) t
    refine XS.iand X0.here hx rfl (hb hby at_14) rfl ?_
    show Steps p.tables e below (s₁.setTop (mkF m 15 #[.val (.int p0), .val (.int p1), .val (.int p2), .val (.int ar), .unset, .unset, .unset] [(.int (p1 &&& (((1 : Int32) <<< (ar &&& 31)) - (1 : Int32))))])) t
    refine XS.istore X0.here hx rfl (hb hby at_15) rfl (l' := #[.val (.int p0), .val (.int p1), .val (.int p2), .val (.int ar), .val (.int (p1 &&& (((1 : Int32) <<< (ar &&& 31)) - (1 : Int32)))), .unset, .unset]) rfl ?_
    show Steps p.tables e below (s₁.setTop (mkF m 17 #[.val (.int p0), .val (.int p1), .val (.int p2), .val (.int ar), .val (.int (p1 &&& (((1 : Int32) <<< (ar &&& 31)) - (1 : Int32)))), .unset, .unset] [])) t
    exact k)
  obtain ⟨ix, hix⟩ : ∃ z : Int32, z = (p1 &&& (((1 : Int32) <<< (ar &&& 31)) - (1 : Int32))) := ⟨_, rfl⟩
  rw [← hix] at pre
  have hI := own_index hA hix
  replace pre : Pth p e below S0 s₁ (mkF m 20 #[.val (.int p0), .val (.int p1), .val (.int p2), .val (.int ar), .val (.int ix), .unset, .unset] [(.int ix), (.int ar)]) := fun t k => pre t (by
    show Steps p.tables e below (s₁.setTop (mkF m 17 #[.val (.int p0), .val (.int p1), .val (.int p2), .val (.int ar), .val (.int ix), .unset, .unset] [])) t
    refine XS.iloadN X0.here hx rfl (hb hby at_17) rfl ?_
    show Steps p.tables e below (s₁.setTop (mkF m 18 #[.val (.int p0), .val (.int p1), .val (.int p2), .val (.int ar), .val (.int ix), .unset, .unset] [(.int ar)])) t
    refine XS.iload X0.here hx rfl (hb hby at_18) rfl ?_
    show Steps p.tables e below (s₁.setTop (mkF m 20 #[.val (.int p0), .val (.int p1), .val (.int p2), .val (.int ar), .val (.int ix), .unset, .unset] [(.int ix), (.int ar)])) t
    exact k)
  obtain ⟨_, _, ⟨T3, L3, k3, n3⟩, -, X3, ⟨Lc3, hQ3, l3, y3, z3⟩, st3⟩ := Jvm.LawKit.callS X0 hx (y := (⟨"com/example/parfactor/parfactor/model/PotentialTable", "assignmentAt", "(II)[Z"⟩ : MethodName)) hown (mvT hZ (hw _ (List.mem_of_getElem? (i := 1) rfl))) (mvT hZ (hw _ (List.mem_of_getElem? (i := 2) rfl))) (mvT hZ (hw _ (List.mem_of_getElem? (i := 3) rfl))) (mvT hZ (hw _ (List.mem_of_getElem? (i := 4) rfl))) (by decide) (backOf (W := 0) (rm_aa l Z a0 hw [] ar ix h0 n0 Z0 hA) hZ (hw _ (List.mem_of_getElem? (i := 4) rfl)) (hw _ (List.mem_of_getElem? (i := 3) rfl)) (by decide) (by decide)) (g := (mkF m 20 #[.val (.int p0), .val (.int p1), .val (.int p2), .val (.int ar), .val (.int ix), .unset, .unset] [(.int ix), (.int ar)])) rfl (by rw [hml]; rfl) (argsL := [(.int ar), (.int ix)]) (rest := []) (lenOf pd__II__Z rfl) rfl (by show 2 * 0 + _ ≤ _; exact Nat.le_of_eq rfl) (hb hby at_20) (fun _ _ => ⟨rfl, e0, (by decide : 0 + 1 ≤ _), (by decide : 0 + 30 ≤ _)⟩)
  dsimp only [Pt.U, Pt.locs, Pt.cells, Pt.slots] at X3 l3 y3 z3 st3 hQ3
  subst l3 y3 z3
  obtain ⟨rfl, N3q, E3, F3⟩ := hQ3
  have N3 := Fr.app N0 N3q
  replace pre : Pth p e below S0 T3 (mkF m 23 #[.val (.int p0), .val (.int p1), .val (.int p2), .val (.int ar), .val (.int ix), .unset, .unset] [(.ref h0.size)]) := fun t k => pre t (st3 _ k)
  replace pre : Pth p e below S0 T3 (mkF m 32 #[.val (.int p0), .val (.int p1), .val (.int p2), .val (.int ar), .val (.int ix), .val (.ref h0.size), .unset] [(.ref h0.size)]) := fun t k => pre t (by
    show Steps p.tables e below (T3.setTop (mkF m 23 #[.val (.int p0), .val (.int p1), .val (.int p2), .val (.int ar), .val (.int ix), .unset, .unset] [(.ref h0.size)])) t
    refine XS.astore X3.here hx rfl (hb hby at_23) rfl rfl (l' := #[.val (.int p0), .val (.int p1), .val (.int p2), .val (.int ar), .val (.int ix), .val (.ref h0.size), .unset]) rfl ?_
    show Steps p.tables e below (T3.setTop (mkF m 25 #[.val (.int p0), .val (.int p1), .val (.int p2), .val (.int ar), .val (.int ix), .val (.ref h0.size), .unset] [])) t
    refine XS.aload X3.here hx rfl (hb hby at_25) rfl rfl ?_
    show Steps p.tables e below (T3.setTop (mkF m 27 #[.val (.int p0), .val (.int p1), .val (.int p2), .val (.int ar), .val (.int ix), .val (.ref h0.size), .unset] [(.ref h0.size)])) t
    refine XS.ifnullNo X3.here hx rfl (hb hby at_27) rfl ?_
    show Steps p.tables e below (T3.setTop (mkF m 30 #[.val (.int p0), .val (.int p1), .val (.int p2), .val (.int ar), .val (.int ix), .val (.ref h0.size), .unset] [])) t
    refine XS.aload X3.here hx rfl (hb hby at_30) rfl rfl ?_
    show Steps p.tables e below (T3.setTop (mkF m 32 #[.val (.int p0), .val (.int p1), .val (.int p2), .val (.int ar), .val (.int ix), .val (.ref h0.size), .unset] [(.ref h0.size)])) t
    exact k)
  obtain ⟨cl4, Ar4, Sz4, -⟩ := id F3
  have hln4 : cl4.slots.size.toInt32 = ar := by rw [Sz4]; exact (own_len hA)
  replace pre : Pth p e below S0 T3 (mkF m 40 #[.val (.int p0), .val (.int p1), .val (.int p2), .val (.int ar), .val (.int ix), .val (.ref h0.size), .unset] [(.int ar)]) := fun t k => pre t (by
    show Steps p.tables e below (T3.setTop (mkF m 32 #[.val (.int p0), .val (.int p1), .val (.int p2), .val (.int ar), .val (.int ix), .val (.ref h0.size), .unset] [(.ref h0.size)])) t
    refine X3.arraylength hx Ar4.1 (State.isArrayOf_alike hZ.alike Ar4.2.1) (g := (mkF m 32 #[.val (.int p0), .val (.int p1), .val (.int p2), .val (.int ar), .val (.int ix), .val (.ref h0.size), .unset] [(.ref h0.size)])) rfl rfl (hb hby at_32) _ ?_
    rw [hln4]
    show Steps p.tables e below (T3.setTop (mkF m 33 #[.val (.int p0), .val (.int p1), .val (.int p2), .val (.int ar), .val (.int ix), .val (.ref h0.size), .unset] [(.int ar)])) t
    refine XS.iloadN X3.here hx rfl (hb hby at_33) rfl ?_
    show Steps p.tables e below (T3.setTop (mkF m 34 #[.val (.int p0), .val (.int p1), .val (.int p2), .val (.int ar), .val (.int ix), .val (.ref h0.size), .unset] [(.int ar), (.int ar)])) t
    refine XS.icmpYes X3.here hx rfl (pc0 := 34) (pc' := 39) rfl (hb hby at_34) rfl (XT.ii_eq_t rfl) (by decide) (by decide) ?_
    show Steps p.tables e below (T3.setTop (mkF m 39 #[.val (.int p0), .val (.int p1), .val (.int p2), .val (.int ar), .val (.int ix), .val (.ref h0.size), .unset] [])) t
    refine XS.iloadN X3.here hx rfl (hb hby at_39) rfl ?_
    show Steps p.tables e below (T3.setTop (mkF m 40 #[.val (.int p0), .val (.int p1), .val (.int p2), .val (.int ar), .val (.int ix), .val (.ref h0.size), .unset] [(.int ar)])) t
    exact k)
  by_cases z0 : ar = (0 : Int32)
  · replace pre : Pth p e below S0 T3 (mkF m 44 #[.val (.int p0), .val (.int p1), .val (.int p2), .val (.int ar), .val (.int ix), .val (.ref h0.size), .unset] [(.int (1 : Int32))]) := fun t k => pre t (by
      show Steps p.tables e below (T3.setTop (mkF m 40 #[.val (.int p0), .val (.int p1), .val (.int p2), .val (.int ar), .val (.int ix), .val (.ref h0.size), .unset] [(.int ar)])) t
      refine XS.ifNo X3.here hx rfl (hb hby at_40) rfl (XT.i0_ne_f z0) ?_
      show Steps p.tables e below (T3.setTop (mkF m 43 #[.val (.int p0), .val (.int p1), .val (.int p2), .val (.int ar), .val (.int ix), .val (.ref h0.size), .unset] [])) t
      refine XS.iconst X3.here hx rfl (hb hby at_43) ?_
      show Steps p.tables e below (T3.setTop (mkF m 44 #[.val (.int p0), .val (.int p1), .val (.int p2), .val (.int ar), .val (.int ix), .val (.ref h0.size), .unset] [(.int (1 : Int32))])) t
      exact k)
    obtain ⟨fs, hr, hrun, hended, hW, hsame⟩ := X3.leave (v := some (.int (1 : Int32))) (fun h => by rw [Bd.returns] at h; cases h)
    subst hS0
    refine ⟨_, _, pre _ ?_, hrun, hended, _, _, rfl, ?_, ⟨_, rfl⟩, hW, hsame.mono (by decide) (by decide)⟩
    · exact retN X3 hx (t := .boolean) Bd.returns (by simp) (hb hby at_44) hr
    · show Q_law Z p0 p1 p2 h0 n0 _ T3.heap _
      exact ⟨rfl, N3⟩
  · replace pre : Pth p e below S0 T3 (mkF m 45 #[.val (.int p0), .val (.int p1), .val (.int p2), .val (.int ar), .val (.int ix), .val (.ref h0.size), .unset] []) := fun t k => pre t (by
      show Steps p.tables e below (T3.setTop (mkF m 40 #[.val (.int p0), .val (.int p1), .val (.int p2), .val (.int ar), .val (.int ix), .val (.ref h0.size), .unset] [(.int ar)])) t
      refine XS.ifYes X3.here hx rfl (pc0 := 40) (pc' := 45) rfl (hb hby at_40) rfl (XT.i0_ne_t z0) (by decide) (by decide) ?_
      show Steps p.tables e below (T3.setTop (mkF m 45 #[.val (.int p0), .val (.int p1), .val (.int p2), .val (.int ar), .val (.int ix), .val (.ref h0.size), .unset] [])) t
      exact k)
    have hz0 : ar ≠ 0 := z0
    have Z1 : n0 ≤ T3.heap.size := Nat.le_trans Z0 E3.1
    replace pre : Pth p e below S0 T3 (mkF m 53 #[.val (.int p0), .val (.int p1), .val (.int p2), .val (.int ar), .val (.int ix), .val (.ref h0.size), .val (.int ((p2 &&& (2147483647 : Int32)) % ar))] []) := fun t k => pre t (by
      show Steps p.tables e below (T3.setTop (mkF m 45 #[.val (.int p0), .val (.int p1), .val (.int p2), .val (.int ar), .val (.int ix), .val (.ref h0.size), .unset] [])) t
      refine XS.iloadN X3.here hx rfl (hb hby at_45) rfl ?_
      show Steps p.tables e below (T3.setTop (mkF m 46 #[.val (.int p0), .val (.int p1), .val (.int p2), .val (.int ar), .val (.int ix), .val (.ref h0.size), .unset] [(.int p2)])) t
      refine X3.ldcInt hx hown (mvT hZ (hw _ (List.mem_of_getElem? (i := 0) rfl))) (g := (mkF m 46 #[.val (.int p0), .val (.int p1), .val (.int p2), .val (.int ar), .val (.int ix), .val (.ref h0.size), .unset] [(.int p2)])) rfl (hb hby at_46) _ ?_
      show Steps p.tables e below (T3.setTop (mkF m 48 #[.val (.int p0), .val (.int p1), .val (.int p2), .val (.int ar), .val (.int ix), .val (.ref h0.size), .unset] [(.int (2147483647 : Int32)), (.int p2)])) t
      refine XS.iand X3.here hx rfl (hb hby at_48) rfl ?_
      show Steps p.tables e below (T3.setTop (mkF m 49 #[.val (.int p0), .val (.int p1), .val (.int p2), .val (.int ar), .val (.int ix), .val (.ref h0.size), .unset] [(.int (p2 &&& (2147483647 : Int32)))])) t
      refine XS.iloadN X3.here hx rfl (hb hby at_49) rfl ?_
      show Steps p.tables e below (T3.setTop (mkF m 50 #[.val (.int p0), .val (.int p1), .val (.int p2), .val (.int ar), .val (.int ix), .val (.ref h0.size), .unset] [(.int ar), (.int (p2 &&& (2147483647 : Int32)))])) t
      refine iremM (g := (mkF m 50 #[.val (.int p0), .val (.int p1), .val (.int p2), .val (.int ar), .val (.int ix), .val (.ref h0.size), .unset] [(.int ar), (.int (p2 &&& (2147483647 : Int32)))])) X3 hx rfl (hb hby at_50) rfl hz0 ?_
      show Steps p.tables e below (T3.setTop (mkF m 51 #[.val (.int p0), .val (.int p1), .val (.int p2), .val (.int ar), .val (.int ix), .val (.ref h0.size), .unset] [(.int ((p2 &&& (2147483647 : Int32)) % ar))])) t
      refine XS.istore X3.here hx rfl (hb hby at_51) rfl (l' := #[.val (.int p0), .val (.int p1), .val (.int p2), .val (.int ar), .val (.int ix), .val (.ref h0.size), .val (.int ((p2 &&& (2147483647 : Int32)) % ar))]) rfl ?_
      show Steps p.tables e below (T3.setTop (mkF m 53 #[.val (.int p0), .val (.int p1), .val (.int p2), .val (.int ar), .val (.int ix), .val (.ref h0.size), .val (.int ((p2 &&& (2147483647 : Int32)) % ar))] [])) t
      exact k)
    obtain ⟨ps, hps⟩ : ∃ z : Int32, z = ((p2 &&& (2147483647 : Int32)) % ar) := ⟨_, rfl⟩
    rw [← hps] at pre
    have hP := own_position hA z0 hps
    have hP0 := own_pos0 hA z0
    have hP1 := own_pos1 hA z0
    replace pre : Pth p e below S0 T3 (mkF m 57 #[.val (.int p0), .val (.int p1), .val (.int p2), .val (.int ar), .val (.int ix), .val (.ref h0.size), .val (.int ps)] [(.int ps), (.ref h0.size)]) := fun t k => pre t (by
      show Steps p.tables e below (T3.setTop (mkF m 53 #[.val (.int p0), .val (.int p1), .val (.int p2), .val (.int ar), .val (.int ix), .val (.ref h0.size), .val (.int ps)] [])) t
      refine XS.aload X3.here hx rfl (hb hby at_53) rfl rfl ?_
      show Steps p.tables e below (T3.setTop (mkF m 55 #[.val (.int p0), .val (.int p1), .val (.int p2), .val (.int ar), .val (.int ix), .val (.ref h0.size), .val (.int ps)] [(.ref h0.size)])) t
      refine XS.iload X3.here hx rfl (hb hby at_55) rfl ?_
      show Steps p.tables e below (T3.setTop (mkF m 57 #[.val (.int p0), .val (.int p1), .val (.int p2), .val (.int ar), .val (.int ix), .val (.ref h0.size), .val (.int ps)] [(.int ps), (.ref h0.size)])) t
      exact k)
    obtain ⟨cl5, Ar5, Sz5, Gt5⟩ := id F3
    have hin5 : ¬ (ps < 0 ∨ cl5.slots.size ≤ (ps).toNatClampNeg) := by rw [Sz5]; exact (own_ix hP)
    have hat5 : cl5.slots[(ps).toNatClampNeg]? = some (.int (own_bit ar ix (ps).toNatClampNeg)) := (Gt5 _ (by rw [← Sz5]; exact Nat.lt_of_not_le fun q => hin5 (Or.inr q))).trans (congrArg some (rfl))
    replace pre : Pth p e below S0 T3 (mkF m 63 #[.val (.int p0), .val (.int p1), .val (.int p2), .val (.int ar), .val (.int ix), .val (.ref h0.size), .val (.int ps)] [(.int ps), (.int ix), (.int ar), (.int (own_bit ar ix (ps).toNatClampNeg))]) := fun t k => pre t (by
      show Steps p.tables e below (T3.setTop (mkF m 57 #[.val (.int p0), .val (.int p1), .val (.int p2), .val (.int ar), .val (.int ix), .val (.ref h0.size), .val (.int ps)] [(.int ps), (.ref h0.size)])) t
      refine X3.baloadBooleans hx (j := ps) (v := (.int (own_bit ar ix (ps).toNatClampNeg))) Ar5.1 (State.isArrayOf_alike hZ.alike Ar5.2.1) Ar5.2.2 hin5 hat5 (g := (mkF m 57 #[.val (.int p0), .val (.int p1), .val (.int p2), .val (.int ar), .val (.int ix), .val (.ref h0.size), .val (.int ps)] [(.int ps), (.ref h0.size)])) rfl rfl (hb hby at_57) _ ?_
      show Steps p.tables e below (T3.setTop (mkF m 58 #[.val (.int p0), .val (.int p1), .val (.int p2), .val (.int ar), .val (.int ix), .val (.ref h0.size), .val (.int ps)] [(.int (own_bit ar ix (ps).toNatClampNeg))])) t
      refine XS.iloadN X3.here hx rfl (hb hby at_58) rfl ?_
      show Steps p.tables e below (T3.setTop (mkF m 59 #[.val (.int p0), .val (.int p1), .val (.int p2), .val (.int ar), .val (.int ix), .val (.ref h0.size), .val (.int ps)] [(.int ar), (.int (own_bit ar ix (ps).toNatClampNeg))])) t
      refine XS.iload X3.here hx rfl (hb hby at_59) rfl ?_
      show Steps p.tables e below (T3.setTop (mkF m 61 #[.val (.int p0), .val (.int p1), .val (.int p2), .val (.int ar), .val (.int ix), .val (.ref h0.size), .val (.int ps)] [(.int ix), (.int ar), (.int (own_bit ar ix (ps).toNatClampNeg))])) t
      refine XS.iload X3.here hx rfl (hb hby at_61) rfl ?_
      show Steps p.tables e below (T3.setTop (mkF m 63 #[.val (.int p0), .val (.int p1), .val (.int p2), .val (.int ar), .val (.int ix), .val (.ref h0.size), .val (.int ps)] [(.int ps), (.int ix), (.int ar), (.int (own_bit ar ix (ps).toNatClampNeg))])) t
      exact k)
    obtain ⟨_, _, ⟨T6, L6, k6, n6⟩, -, X6, ⟨Lc6, hQ6, l6, y6, z6⟩, st6⟩ := Jvm.LawKit.callS X3 hx (y := (⟨"com/example/parfactor/parfactor/model/PotentialTableAssignmentAtPinLaw", "expected", "(III)Z"⟩ : MethodName)) hown (mvT hZ (hw _ (List.mem_of_getElem? (i := 6) rfl))) (mvT hZ (hw _ (List.mem_of_getElem? (i := 7) rfl))) (mvT hZ (hw _ (List.mem_of_getElem? (i := 8) rfl))) (mvT hZ (hw _ (List.mem_of_getElem? (i := 9) rfl))) (by decide) (backOf (W := 1) (rm_ex l Z a0 hw [] ar ix ps _ n0 Z1 (own_wnz hA hP)) hZ (hw _ (List.mem_of_getElem? (i := 9) rfl)) (hw _ (List.mem_of_getElem? (i := 8) rfl)) (by decide) (by decide)) (g := (mkF m 63 #[.val (.int p0), .val (.int p1), .val (.int p2), .val (.int ar), .val (.int ix), .val (.ref h0.size), .val (.int ps)] [(.int ps), (.int ix), (.int ar), (.int (own_bit ar ix (ps).toNatClampNeg))])) rfl (by rw [hml]; rfl) (argsL := [(.int ar), (.int ix), (.int ps)]) (rest := [(.int (own_bit ar ix (ps).toNatClampNeg))]) (lenOf pd__III_Z rfl) rfl (by show 2 * 0 + _ ≤ _; exact Nat.le_of_eq rfl) (hb hby at_63) (fun _ _ => ⟨rfl, rfl, (by decide : 1 + 0 ≤ _), (by decide : 30 + 0 ≤ _)⟩)
    dsimp only [Pt.U, Pt.locs, Pt.cells, Pt.slots] at X6 l6 y6 z6 st6 hQ6
    subst l6 y6 z6
    obtain ⟨rfl, N6q, e6⟩ := hQ6
    have N6 := Fr.app N3 N6q
    replace pre : Pth p e below S0 T6 (mkF m 66 #[.val (.int p0), .val (.int p1), .val (.int p2), .val (.int ar), .val (.int ix), .val (.ref h0.size), .val (.int ps)] [(.int (own_ex ar ix ps)), (.int (own_bit ar ix (ps).toNatClampNeg))]) := fun t k => pre t (st6 _ k)
    replace pre : Pth p e below S0 T6 (mkF m 72 #[.val (.int p0), .val (.int p1), .val (.int p2), .val (.int ar), .val (.int ix), .val (.ref h0.size), .val (.int ps)] [(.int (0 : Int32)), (.ref h0.size)]) := fun t k => pre t (by
      show Steps p.tables e below (T6.setTop (mkF m 66 #[.val (.int p0), .val (.int p1), .val (.int p2), .val (.int ar), .val (.int ix), .val (.ref h0.size), .val (.int ps)] [(.int (own_ex ar ix ps)), (.int (own_bit ar ix (ps).toNatClampNeg))])) t
      refine XS.icmpNo X6.here hx rfl (hb hby at_66) rfl (XT.ii_ne_f (own_same hA hI hP)) ?_
      show Steps p.tables e below (T6.setTop (mkF m 69 #[.val (.int p0), .val (.int p1), .val (.int p2), .val (.int ar), .val (.int ix), .val (.ref h0.size), .val (.int ps)] [])) t
      refine XS.aload X6.here hx rfl (hb hby at_69) rfl rfl ?_
      show Steps p.tables e below (T6.setTop (mkF m 71 #[.val (.int p0), .val (.int p1), .val (.int p2), .val (.int ar), .val (.int ix), .val (.ref h0.size), .val (.int ps)] [(.ref h0.size)])) t
      refine XS.iconst X6.here hx rfl (hb hby at_71) ?_
      show Steps p.tables e below (T6.setTop (mkF m 72 #[.val (.int p0), .val (.int p1), .val (.int p2), .val (.int ar), .val (.int ix), .val (.ref h0.size), .val (.int ps)] [(.int (0 : Int32)), (.ref h0.size)])) t
      exact k)
    obtain ⟨cl7, Ar7, Sz7, Gt7⟩ := id F3
    have hin7 : ¬ ((0 : Int32) < 0 ∨ cl7.slots.size ≤ ((0 : Int32)).toNatClampNeg) := by rw [Sz7]; exact (own_ix hP0)
    have hat7 : cl7.slots[((0 : Int32)).toNatClampNeg]? = some (.int (own_bit ar ix ((0 : Int32)).toNatClampNeg)) := (Gt7 _ (by rw [← Sz7]; exact Nat.lt_of_not_le fun q => hin7 (Or.inr q))).trans (congrArg some (rfl))
    replace pre : Pth p e below S0 T6 (mkF m 77 #[.val (.int p0), .val (.int p1), .val (.int p2), .val (.int ar), .val (.int ix), .val (.ref h0.size), .val (.int ps)] [(.int (0 : Int32)), (.int ix), (.int ar), (.int (own_bit ar ix ((0 : Int32)).toNatClampNeg))]) := fun t k => pre t (by
      show Steps p.tables e below (T6.setTop (mkF m 72 #[.val (.int p0), .val (.int p1), .val (.int p2), .val (.int ar), .val (.int ix), .val (.ref h0.size), .val (.int ps)] [(.int (0 : Int32)), (.ref h0.size)])) t
      refine X6.baloadBooleans hx (j := (0 : Int32)) (v := (.int (own_bit ar ix ((0 : Int32)).toNatClampNeg))) (by rw [e6]; exact Ar7.1) (State.isArrayOf_alike hZ.alike Ar7.2.1) Ar7.2.2 hin7 hat7 (g := (mkF m 72 #[.val (.int p0), .val (.int p1), .val (.int p2), .val (.int ar), .val (.int ix), .val (.ref h0.size), .val (.int ps)] [(.int (0 : Int32)), (.ref h0.size)])) rfl rfl (hb hby at_72) _ ?_
      show Steps p.tables e below (T6.setTop (mkF m 73 #[.val (.int p0), .val (.int p1), .val (.int p2), .val (.int ar), .val (.int ix), .val (.ref h0.size), .val (.int ps)] [(.int (own_bit ar ix ((0 : Int32)).toNatClampNeg))])) t
      refine XS.iloadN X6.here hx rfl (hb hby at_73) rfl ?_
      show Steps p.tables e below (T6.setTop (mkF m 74 #[.val (.int p0), .val (.int p1), .val (.int p2), .val (.int ar), .val (.int ix), .val (.ref h0.size), .val (.int ps)] [(.int ar), (.int (own_bit ar ix ((0 : Int32)).toNatClampNeg))])) t
      refine XS.iload X6.here hx rfl (hb hby at_74) rfl ?_
      show Steps p.tables e below (T6.setTop (mkF m 76 #[.val (.int p0), .val (.int p1), .val (.int p2), .val (.int ar), .val (.int ix), .val (.ref h0.size), .val (.int ps)] [(.int ix), (.int ar), (.int (own_bit ar ix ((0 : Int32)).toNatClampNeg))])) t
      refine XS.iconst X6.here hx rfl (hb hby at_76) ?_
      show Steps p.tables e below (T6.setTop (mkF m 77 #[.val (.int p0), .val (.int p1), .val (.int p2), .val (.int ar), .val (.int ix), .val (.ref h0.size), .val (.int ps)] [(.int (0 : Int32)), (.int ix), (.int ar), (.int (own_bit ar ix ((0 : Int32)).toNatClampNeg))])) t
      exact k)
    obtain ⟨_, _, ⟨T8, L8, k8, n8⟩, -, X8, ⟨Lc8, hQ8, l8, y8, z8⟩, st8⟩ := Jvm.LawKit.callS X6 hx (y := (⟨"com/example/parfactor/parfactor/model/PotentialTableAssignmentAtPinLaw", "expected", "(III)Z"⟩ : MethodName)) hown (mvT hZ (hw _ (List.mem_of_getElem? (i := 6) rfl))) (mvT hZ (hw _ (List.mem_of_getElem? (i := 7) rfl))) (mvT hZ (hw _ (List.mem_of_getElem? (i := 8) rfl))) (mvT hZ (hw _ (List.mem_of_getElem? (i := 9) rfl))) (by decide) (backOf (W := 1) (rm_ex l Z a0 hw [] ar ix (0 : Int32) _ n0 Z1 (own_wnz hA hP0)) hZ (hw _ (List.mem_of_getElem? (i := 9) rfl)) (hw _ (List.mem_of_getElem? (i := 8) rfl)) (by decide) (by decide)) (g := (mkF m 77 #[.val (.int p0), .val (.int p1), .val (.int p2), .val (.int ar), .val (.int ix), .val (.ref h0.size), .val (.int ps)] [(.int (0 : Int32)), (.int ix), (.int ar), (.int (own_bit ar ix ((0 : Int32)).toNatClampNeg))])) rfl (by rw [hml]; rfl) (argsL := [(.int ar), (.int ix), (.int (0 : Int32))]) (rest := [(.int (own_bit ar ix ((0 : Int32)).toNatClampNeg))]) (lenOf pd__III_Z rfl) rfl (by show 2 * 0 + _ ≤ _; exact Nat.le_of_eq rfl) (hb hby at_77) (fun _ _ => ⟨rfl, e6, (by decide : 1 + 0 ≤ _), (by decide : 30 + 0 ≤ _)⟩)
    dsimp only [Pt.U, Pt.locs, Pt.cells, Pt.slots] at X8 l8 y8 z8 st8 hQ8
    subst l8 y8 z8
    obtain ⟨rfl, N8q, e8⟩ := hQ8
    have N8 := Fr.app N6 N8q
    replace pre : Pth p e below S0 T8 (mkF m 80 #[.val (.int p0), .val (.int p1), .val (.int p2), .val (.int ar), .val (.int ix), .val (.ref h0.size), .val (.int ps)] [(.int (own_ex ar ix (0 : Int32))), (.int (own_bit ar ix ((0 : Int32)).toNatClampNeg))]) := fun t k => pre t (st8 _ k)
    replace pre : Pth p e below S0 T8 (mkF m 88 #[.val (.int p0), .val (.int p1), .val (.int p2), .val (.int ar), .val (.int ix), .val (.ref h0.size), .val (.int ps)] [(.int (ar - (1 : Int32))), (.ref h0.size)]) := fun t k => pre t (by
      show Steps p.tables e below (T8.setTop (mkF m 80 #[.val (.int p0), .val (.int p1), .val (.int p2), .val (.int ar), .val (.int ix), .val (.ref h0.size), .val (.int ps)] [(.int (own_ex ar ix (0 : Int32))), (.int (own_bit ar ix ((0 : Int32)).toNatClampNeg))])) t
      refine XS.icmpNo X8.here hx rfl (hb hby at_80) rfl (XT.ii_ne_f (own_same hA hI hP0)) ?_
      show Steps p.tables e below (T8.setTop (mkF m 83 #[.val (.int p0), .val (.int p1), .val (.int p2), .val (.int ar), .val (.int ix), .val (.ref h0.size), .val (.int ps)] [])) t
      refine XS.aload X8.here hx rfl (hb hby at_83) rfl rfl ?_
      show Steps p.tables e below (T8.setTop (mkF m 85 #[.val (.int p0), .val (.int p1), .val (.int p2), .val (.int ar), .val (.int ix), .val (.ref h0.size), .val (.int ps)] [(.ref h0.size)])) t
      refine XS.iloadN X8.here hx rfl (hb hby at_85) rfl ?_
      show Steps p.tables e below (T8.setTop (mkF m 86 #[.val (.int p0), .val (.int p1), .val (.int p2), .val (.int ar), .val (.int ix), .val (.ref h0.size), .val (.int ps)] [(.int ar), (.ref h0.size)])) t
      refine XS.iconst X8.here hx rfl (hb hby at_86) ?_
      show Steps p.tables e below (T8.setTop (mkF m 87 #[.val (.int p0), .val (.int p1), .val (.int p2), .val (.int ar), .val (.int ix), .val (.ref h0.size), .val (.int ps)] [(.int (1 : Int32)), (.int ar), (.ref h0.size)])) t
      refine XS.isub X8.here hx rfl (hb hby at_87) rfl ?_
      show Steps p.tables e below (T8.setTop (mkF m 88 #[.val (.int p0), .val (.int p1), .val (.int p2), .val (.int ar), .val (.int ix), .val (.ref h0.size), .val (.int ps)] [(.int (ar - (1 : Int32))), (.ref h0.size)])) t
      exact k)
    obtain ⟨cl9, Ar9, Sz9, Gt9⟩ := id F3
    have hin9 : ¬ ((ar - (1 : Int32)) < 0 ∨ cl9.slots.size ≤ ((ar - (1 : Int32))).toNatClampNeg) := by rw [Sz9]; exact (own_ix hP1)
    have hat9 : cl9.slots[((ar - (1 : Int32))).toNatClampNeg]? = some (.int (own_bit ar ix ((ar - (1 : Int32))).toNatClampNeg)) := (Gt9 _ (by rw [← Sz9]; exact Nat.lt_of_not_le fun q => hin9 (Or.inr q))).trans (congrArg some (rfl))
    replace pre : Pth p e below S0 T8 (mkF m 95 #[.val (.int p0), .val (.int p1), .val (.int p2), .val (.int ar), .val (.int ix), .val (.ref h0.size), .val (.int ps)] [(.int (ar - (1 : Int32))), (.int ix), (.int ar), (.int (own_bit ar ix ((ar - (1 : Int32))).toNatClampNeg))]) := fun t k => pre t (by
      show Steps p.tables e below (T8.setTop (mkF m 88 #[.val (.int p0), .val (.int p1), .val (.int p2), .val (.int ar), .val (.int ix), .val (.ref h0.size), .val (.int ps)] [(.int (ar - (1 : Int32))), (.ref h0.size)])) t
      refine X8.baloadBooleans hx (j := (ar - (1 : Int32))) (v := (.int (own_bit ar ix ((ar - (1 : Int32))).toNatClampNeg))) (by rw [e8]; exact Ar9.1) (State.isArrayOf_alike hZ.alike Ar9.2.1) Ar9.2.2 hin9 hat9 (g := (mkF m 88 #[.val (.int p0), .val (.int p1), .val (.int p2), .val (.int ar), .val (.int ix), .val (.ref h0.size), .val (.int ps)] [(.int (ar - (1 : Int32))), (.ref h0.size)])) rfl rfl (hb hby at_88) _ ?_
      show Steps p.tables e below (T8.setTop (mkF m 89 #[.val (.int p0), .val (.int p1), .val (.int p2), .val (.int ar), .val (.int ix), .val (.ref h0.size), .val (.int ps)] [(.int (own_bit ar ix ((ar - (1 : Int32))).toNatClampNeg))])) t
      refine XS.iloadN X8.here hx rfl (hb hby at_89) rfl ?_
      show Steps p.tables e below (T8.setTop (mkF m 90 #[.val (.int p0), .val (.int p1), .val (.int p2), .val (.int ar), .val (.int ix), .val (.ref h0.size), .val (.int ps)] [(.int ar), (.int (own_bit ar ix ((ar - (1 : Int32))).toNatClampNeg))])) t
      refine XS.iload X8.here hx rfl (hb hby at_90) rfl ?_
      show Steps p.tables e below (T8.setTop (mkF m 92 #[.val (.int p0), .val (.int p1), .val (.int p2), .val (.int ar), .val (.int ix), .val (.ref h0.size), .val (.int ps)] [(.int ix), (.int ar), (.int (own_bit ar ix ((ar - (1 : Int32))).toNatClampNeg))])) t
      refine XS.iloadN X8.here hx rfl (hb hby at_92) rfl ?_
      show Steps p.tables e below (T8.setTop (mkF m 93 #[.val (.int p0), .val (.int p1), .val (.int p2), .val (.int ar), .val (.int ix), .val (.ref h0.size), .val (.int ps)] [(.int ar), (.int ix), (.int ar), (.int (own_bit ar ix ((ar - (1 : Int32))).toNatClampNeg))])) t
      refine XS.iconst X8.here hx rfl (hb hby at_93) ?_
      show Steps p.tables e below (T8.setTop (mkF m 94 #[.val (.int p0), .val (.int p1), .val (.int p2), .val (.int ar), .val (.int ix), .val (.ref h0.size), .val (.int ps)] [(.int (1 : Int32)), (.int ar), (.int ix), (.int ar), (.int (own_bit ar ix ((ar - (1 : Int32))).toNatClampNeg))])) t
      refine XS.isub X8.here hx rfl (hb hby at_94) rfl ?_
      show Steps p.tables e below (T8.setTop (mkF m 95 #[.val (.int p0), .val (.int p1), .val (.int p2), .val (.int ar), .val (.int ix), .val (.ref h0.size), .val (.int ps)] [(.int (ar - (1 : Int32))), (.int ix), (.int ar), (.int (own_bit ar ix ((ar - (1 : Int32))).toNatClampNeg))])) t
      exact k)
    obtain ⟨_, _, ⟨T10, L10, k10, n10⟩, -, X10, ⟨Lc10, hQ10, l10, y10, z10⟩, st10⟩ := Jvm.LawKit.callS X8 hx (y := (⟨"com/example/parfactor/parfactor/model/PotentialTableAssignmentAtPinLaw", "expected", "(III)Z"⟩ : MethodName)) hown (mvT hZ (hw _ (List.mem_of_getElem? (i := 6) rfl))) (mvT hZ (hw _ (List.mem_of_getElem? (i := 7) rfl))) (mvT hZ (hw _ (List.mem_of_getElem? (i := 8) rfl))) (mvT hZ (hw _ (List.mem_of_getElem? (i := 9) rfl))) (by decide) (backOf (W := 1) (rm_ex l Z a0 hw [] ar ix (ar - (1 : Int32)) _ n0 Z1 (own_wnz hA hP1)) hZ (hw _ (List.mem_of_getElem? (i := 9) rfl)) (hw _ (List.mem_of_getElem? (i := 8) rfl)) (by decide) (by decide)) (g := (mkF m 95 #[.val (.int p0), .val (.int p1), .val (.int p2), .val (.int ar), .val (.int ix), .val (.ref h0.size), .val (.int ps)] [(.int (ar - (1 : Int32))), (.int ix), (.int ar), (.int (own_bit ar ix ((ar - (1 : Int32))).toNatClampNeg))])) rfl (by rw [hml]; rfl) (argsL := [(.int ar), (.int ix), (.int (ar - (1 : Int32)))]) (rest := [(.int (own_bit ar ix ((ar - (1 : Int32))).toNatClampNeg))]) (lenOf pd__III_Z rfl) rfl (by show 2 * 0 + _ ≤ _; exact Nat.le_of_eq rfl) (hb hby at_95) (fun _ _ => ⟨rfl, e8, (by decide : 1 + 0 ≤ _), (by decide : 30 + 0 ≤ _)⟩)
    dsimp only [Pt.U, Pt.locs, Pt.cells, Pt.slots] at X10 l10 y10 z10 st10 hQ10
    subst l10 y10 z10
    obtain ⟨rfl, N10q, e10⟩ := hQ10
    have N10 := Fr.app N8 N10q
    replace pre : Pth p e below S0 T10 (mkF m 98 #[.val (.int p0), .val (.int p1), .val (.int p2), .val (.int ar), .val (.int ix), .val (.ref h0.size), .val (.int ps)] [(.int (own_ex ar ix (ar - (1 : Int32)))), (.int (own_bit ar ix ((ar - (1 : Int32))).toNatClampNeg))]) := fun t k => pre t (st10 _ k)
    replace pre : Pth p e below S0 T10 (mkF m 106 #[.val (.int p0), .val (.int p1), .val (.int p2), .val (.int ar), .val (.int ix), .val (.ref h0.size), .val (.int ps)] [(.int (1 : Int32))]) := fun t k => pre t (by
      show Steps p.tables e below (T10.setTop (mkF m 98 #[.val (.int p0), .val (.int p1), .val (.int p2), .val (.int ar), .val (.int ix), .val (.ref h0.size), .val (.int ps)] [(.int (own_ex ar ix (ar - (1 : Int32)))), (.int (own_bit ar ix ((ar - (1 : Int32))).toNatClampNeg))])) t
      refine XS.icmpNo X10.here hx rfl (hb hby at_98) rfl (XT.ii_ne_f (own_same hA hI hP1)) ?_
      show Steps p.tables e below (T10.setTop (mkF m 101 #[.val (.int p0), .val (.int p1), .val (.int p2), .val (.int ar), .val (.int ix), .val (.ref h0.size), .val (.int ps)] [])) t
      refine XS.iconst X10.here hx rfl (hb hby at_101) ?_
      show Steps p.tables e below (T10.setTop (mkF m 102 #[.val (.int p0), .val (.int p1), .val (.int p2), .val (.int ar), .val (.int ix), .val (.ref h0.size), .val (.int ps)] [(.int (1 : Int32))])) t
      refine XS.goto X10.here hx rfl (pc0 := 102) (pc' := 106) rfl (hb hby at_102) (by decide) (by decide) ?_
      show Steps p.tables e below (T10.setTop (mkF m 106 #[.val (.int p0), .val (.int p1), .val (.int p2), .val (.int ar), .val (.int ix), .val (.ref h0.size), .val (.int ps)] [(.int (1 : Int32))])) t
      exact k)
    obtain ⟨fs, hr, hrun, hended, hW, hsame⟩ := X10.leave (v := some (.int (1 : Int32))) (fun h => by rw [Bd.returns] at h; cases h)
    subst hS0
    refine ⟨_, _, pre _ ?_, hrun, hended, _, _, rfl, ?_, ⟨_, rfl⟩, hW, hsame.mono (by decide) (by decide)⟩
    · exact retN X10 hx (t := .boolean) Bd.returns (by simp) (hb hby at_106) hr
    · show Q_law Z p0 p1 p2 h0 n0 _ T10.heap _
      rw [e10]
      exact ⟨rfl, N10⟩
set_option maxRecDepth 65536 in
set_option maxHeartbeats 40000000 in
theorem comes_1 {Post : Tables → Env → Array Value → State → Outcome → State → Prop} (hpost : ∀ tb e args s v u, (limb_1_1.after args s (.returned v) u = true ∧ limb_1_2.after args s (.returned v) u = true ∧ True) → FrameEnd s (.returned v) u (Jvm.fieldLocs frame_1_writes args s ++ Jvm.arrayLocs frame_1_arrays args s ++ Jvm.staticLocs frame_1_statics s) 16 128 → Post tb e args s (.returned v) u) :
    ArmFor flags0 classFile x code maxLocals ret World_1 tables_1 room_1 Calls_1 rest_1 Pre_1 Post := by
  intro l hfl _ _ p e ha hc hk s m args below hf hA hF happ hP
  obtain ⟨hcalls, hrest, hpre⟩ := hP
  obtain ⟨-, -, -, hnamed, -, -, -, hat⟩ := (Spec.applies_iff hf).mp happ
  obtain ⟨hg, hn⟩ := and_e (Cond.before_iff.mp (show (Jvm.Cond.and given_1 narrow_1).before args s = true from hpre))
  obtain ⟨gv1a, gv1b⟩ := and_e hg
  obtain ⟨gv2a, gv2b⟩ := and_e gv1b
  obtain ⟨gv3a, gv3b⟩ := and_e gv2b
  obtain ⟨w0, w1, w2, rfl⟩ : ∃ w0 w1 w2 : Value, args = #[w0, w1, w2] := by
    have hs : args.size = 3 := by simpa [Cond.value, given_1] using gv1a
    obtain ⟨L⟩ := args
    match L, hs with
    | [w0, w1, w2], _ => exact ⟨w0, w1, w2, rfl⟩
  have hw := fun d (hd : d ∈ tables_1) => atoms_spec (ws := Jvm.Cond.code x code maxLocals ret :: tables_1) hat d (List.mem_cons_of_mem _ hd)
  have hfit : Fit s := fun {y c} hc i hi => by
    obtain ⟨ha, rfl⟩ := Array.getElem?_eq_some_iff.mp hc
    have q := List.all_eq_true.mp ((Array.all_eq_true_iff_forall_mem.mp hF) _ (Array.getElem_mem ha)) i (List.mem_range.mpr hi)
    simpa [Array.getElem?_eq_getElem hi] using q
  obtain ⟨i0, ei0⟩ := is_v gv2a
  obtain rfl : w0 = (.int i0) := Option.some.inj ei0
  obtain ⟨i1, ei1⟩ := is_v gv3a
  obtain rfl : w1 = (.int i1) := Option.some.inj ei1
  obtain ⟨i2, ei2⟩ := is_v gv3b
  obtain rfl : w2 = (.int i2) := Option.some.inj ei2
  obtain ⟨n, o, h1, h2, h3, _, L, rfl, ⟨rfl, N⟩, hq⟩ := rm_law l s _ hw tables_1 i0 i1 i2 s.heap s.heap.size (Nat.le_refl _)  p e ha hc hk s m _ below hf ((Spec.applies_iff_loose hf).mp happ).1 ⟨rfl, State.Warmed39.refl s, rfl⟩ trivial
  refine ⟨n, _, h1, h2, h3, hpost _ _ _ _ _ _ ⟨Cond.after_iff.mpr rfl, Cond.after_iff.mpr (eq_i res_at (Term.int_eval (1)) rfl), trivial⟩ ⟨hq.1, hq.2.1, (hq.2.2.sift fun y hy => Or.inr (N y hy)).mono (by decide) (by decide)⟩⟩
theorem main_1_1 : Claimed_1_1 := comes_1 fun _ _ _ _ _ _ h hF => ⟨h.1, hF⟩
theorem main_1_2 : Claimed_1_2 := comes_1 fun _ _ _ _ _ _ h hF => ⟨h.2.1, hF⟩
end Jvm.Pilot.@@N@@
namespace Jvm.Pilot.@@N@@
open Jvm Jvm.ClassFile Sem Op Lib Jvm.Free Jvm.Stand Jvm.Pilot.@@N@@.Jvm.D
/-! MADE BY PROGRAM (witnessworld.py) out of the Statement's table words and the real class files: 11 classes; the members and pool entries that the words name. The judged class is class 1, her method 2. -/
namespace start1
open Jvm.ClassFile
def u (s : String) : CpInfo := .utf8 (stringToUtf16 s)
/-- a pool by its gaps: so many unusable entries, then the entry; so many at the end -/
def gap : Nat → List CpInfo → List CpInfo
  | 0, r => r
  | n + 1, r => .unusable :: gap n r
def poolList (es : List (Nat × CpInfo)) (last : Nat) : List CpInfo := es.foldr (fun e r => gap e.1 (e.2 :: r)) (gap last [])
def pool (es : List (Nat × CpInfo)) (last : Nat) : Array CpInfo := ⟨poolList es last⟩
def fileOf (pool : Array CpInfo) (this : Nat) (attrs : Array Attribute := #[]) (ms : Array MethodInfo := #[]) (fl : Nat := 33) (sup : Nat := 0) (ifs : Array Nat := #[]) (fds : Array FieldInfo := #[]) : ClassFile where
  minorVersion := 0
  majorVersion := 65
  constantPool := pool
  accessFlags := fl
  thisClass := this
  superClass := sup
  interfaces := ifs
  fields := fds
  methods := ms
  attributes := attrs
def plain (name : String) (sup : Option ClassId) : Class where
  name := name
  kind := .ordinary
  loader := none
  accessFlags := 33
  super := sup
  interfaces := #[]
  cf := none
  fields := #[]
  methods := #[]
  instanceTypes := #[]
  staticTypes := #[]
  resolved := #[]
  callSites := []
  init := .initialized
  statics := none
  mirror := none

def pool0 : Array CpInfo := pool [(5, u "<init>"), (0, u "()V"), (1, .class_ 10), (1, u "java/lang/Object")] 113

def k0m0 : Method := { name := "<init>", desc := "()V", sig := { parameters := [], returnType := none }, accessFlags := 1, code := none }
/-- java/lang/Object -/
def k0 : Class := { plain "java/lang/Object" none with
  accessFlags := 33
  interfaces := #[]
  cf := some (fileOf pool0 8 #[] #[{ accessFlags := 1, nameIndex := 5, descriptorIndex := 6, attributes := #[] }] 33 0 #[] #[])
  fields := #[]
  methods := #[k0m0]
  instanceTypes := #[]
  staticTypes := #[]
  resolved := Array.replicate 124 none
  statics := none }

def pool1 : Array CpInfo := pool [(2, .class_ 4), (1, u "java/lang/Object"), (0, u "<init>"), (0, u "()V"), (0, .integer 2147483647), (0, .methodref 9 10), (0, .class_ 11), (0, .nameAndType 12 13), (0, u "com/example/parfactor/parfactor/model/PotentialTable"), (0, u "assignmentAt"), (0, u "(II)[Z"), (0, .methodref 15 16), (0, .class_ 17), (0, .nameAndType 18 19), (0, u "com/example/parfactor/parfactor/model/PotentialTableAssignmentAtPinLaw"), (0, u "expected"), (0, u "(III)Z"), (3, u "law")] 4

def k1m0 : Method := { name := "<init>", desc := "()V", sig := { parameters := [], returnType := none }, accessFlags := 2, code := none }
def k1c1 : Code := { maxStack := 3, maxLocals := 4, code := method_2_code, exceptionTable := #[], attributes := #[] }
def k1m1 : Method := { name := "expected", desc := "(III)Z", sig := { parameters := [.int, .int, .int], returnType := some .boolean }, accessFlags := 10, code := some k1c1 }
def k1c2 : Code := { maxStack := 5, maxLocals := 7, code := code, exceptionTable := #[], attributes := #[] }
def k1m2 : Method := { name := "law", desc := "(III)Z", sig := { parameters := [.int, .int, .int], returnType := some .boolean }, accessFlags := 9, code := some k1c2 }
/-- com/example/parfactor/parfactor/model/PotentialTableAssignmentAtPinLaw -/
def k1 : Class := { plain "com/example/parfactor/parfactor/model/PotentialTableAssignmentAtPinLaw" (some 0) with
  accessFlags := 49
  interfaces := #[]
  cf := some (fileOf pool1 15 #[] #[{ accessFlags := 2, nameIndex := 5, descriptorIndex := 6, attributes := #[] }, { accessFlags := 10, nameIndex := 18, descriptorIndex := 19, attributes := #[] }, { accessFlags := 9, nameIndex := 23, descriptorIndex := 19, attributes := #[] }] 49 2 #[] #[])
  fields := #[]
  methods := #[k1m0, k1m1, k1m2]
  instanceTypes := #[]
  staticTypes := #[]
  resolved := Array.replicate 28 none
  statics := none }

def pool2 : Array CpInfo := pool [(2, .class_ 4), (1, u "java/lang/Object"), (2, .class_ 8), (0, u "com/example/parfactor/parfactor/model/PotentialTable"), (12, u "[D"), (14, u "arity"), (0, u "I"), (2, u "potentials"), (15, u "assignmentAt"), (0, u "(II)[Z"), (0, u "MAX_ARITY")] 38

def k2c0 : Code := { maxStack := 4, maxLocals := 5, code := prog_61_method_8_code, exceptionTable := #[], attributes := #[] }
def k2m0 : Method := { name := "assignmentAt", desc := "(II)[Z", sig := { parameters := [.int, .int], returnType := some (.array .boolean) }, accessFlags := 8, code := some k2c0 }
/-- com/example/parfactor/parfactor/model/PotentialTable -/
def k2 : Class := { plain "com/example/parfactor/parfactor/model/PotentialTable" (some 0) with
  accessFlags := 49
  interfaces := #[]
  cf := some (fileOf pool2 7 #[] #[{ accessFlags := 8, nameIndex := 56, descriptorIndex := 57, attributes := #[] }] 49 2 #[] #[{ accessFlags := 25, nameIndex := 58, descriptorIndex := 37, attributes := #[] }, { accessFlags := 18, nameIndex := 36, descriptorIndex := 37, attributes := #[] }, { accessFlags := 18, nameIndex := 40, descriptorIndex := 21, attributes := #[] }])
  fields := #[{ name := "MAX_ARITY", type := .int, accessFlags := 25, slot := 0, constantValue := 0 }, { name := "arity", type := .int, accessFlags := 18, slot := 0, constantValue := 0 }, { name := "potentials", type := (.array .double), accessFlags := 18, slot := 1, constantValue := 0 }]
  methods := #[k2m0]
  instanceTypes := #[.int, (.array .double)]
  staticTypes := #[.int]
  resolved := Array.replicate 97 none
  statics := none }

def pool3 : Array CpInfo := pool [(1, u "java/lang/Cloneable"), (0, .class_ 1), (0, u "java/lang/Object"), (0, .class_ 3)] 3

/-- java/lang/Cloneable -/
def k3 : Class := { plain "java/lang/Cloneable" (some 0) with
  accessFlags := 1537
  interfaces := #[]
  cf := some (fileOf pool3 2 #[] #[] 1537 4 #[] #[])
  fields := #[]
  methods := #[]
  instanceTypes := #[]
  staticTypes := #[]
  resolved := Array.replicate 8 none
  statics := none }

def pool4 : Array CpInfo := pool [(1, u "java/io/Serializable"), (0, .class_ 1), (0, u "java/lang/Object"), (0, .class_ 3)] 3

/-- java/io/Serializable -/
def k4 : Class := { plain "java/io/Serializable" (some 0) with
  accessFlags := 1537
  interfaces := #[]
  cf := some (fileOf pool4 2 #[] #[] 1537 4 #[] #[])
  fields := #[]
  methods := #[]
  instanceTypes := #[]
  staticTypes := #[]
  resolved := Array.replicate 8 none
  statics := none }

/-- the primitive boolean -/
def k5 : Class := { plain "boolean" none with kind := .primitive 'Z', accessFlags := 0x411 }
/-- [Z -/
def k6 : Class := { plain "[Z" (some 0) with kind := .array 5 .boolean, interfaces := #[3, 4], accessFlags := 1041 }

/-- the primitive byte -/
def k7 : Class := { plain "byte" none with kind := .primitive 'B', accessFlags := 0x411 }
/-- [B -/
def k8 : Class := { plain "[B" (some 0) with kind := .array 7 .byte, interfaces := #[3, 4], accessFlags := 1041 }

/-- the primitive int -/
def k9 : Class := { plain "int" none with kind := .primitive 'I', accessFlags := 0x411 }
/-- [I -/
def k10 : Class := { plain "[I" (some 0) with kind := .array 9 .int, interfaces := #[3, 4], accessFlags := 1041 }

def heap : Heap := #[]
def classes : Array Class := #[k0, k1, k2, k3, k4, k5, k6, k7, k8, k9, k10]
def interned : List (Array UInt16 × Addr) := []
def slotsUsed : Nat := 0
def theMethod : MethodId := ⟨1, 2⟩
def args0 : Array Value := #[.int 5, .int 3, .int 7]
def aboutOver (below : List Frame) : State where
  vm := { classes := classes, interned := interned.toArray }
  heap := heap
  slotsUsed := slotsUsed
  threads := #[{ frames := .invoking theMethod args0 :: below }]
def below0 : List Frame := [.native { method := ⟨0, 0⟩, args := #[] }]
def about1 : State := aboutOver below0
def p0 : Program := .bare "" "" ""
def e0 : Env := launch0.env 0 0 0
theorem w_frames : about1.frames = Frame.invoking theMethod args0 :: below0 := rfl
set_option maxRecDepth 65536 in
theorem w_args : argsFit about1.vm theMethod args0 = true := by decide +kernel
set_option maxRecDepth 65536 in
theorem w_heap : heapFits about1 = true := by decide +kernel
set_option maxRecDepth 65536 in
theorem w_runnable : about1.curStatus? = some .runnable := by decide +kernel
set_option maxRecDepth 65536 in
theorem w_alone : about1.alone = true := by decide +kernel
set_option maxRecDepth 65536 in
theorem w_named : about1.methodNamed? x = some theMethod := by decide +kernel
set_option maxRecDepth 65536 in
theorem w_hears : about1.hears theMethod below0 = true := by decide +kernel
set_option maxRecDepth 65536 in
theorem w_ripe : about1.ripe theMethod args0 below0 = true := by decide +kernel
theorem w_running : about1.status = .running := rfl
set_option maxRecDepth 65536 in
theorem w_room : about1.hasRoom e0.platform room_1 = true :=
  launch0.hasRoom_least _ room_1 (by decide +kernel) (by decide +kernel) (by decide +kernel) (by decide +kernel) (by decide +kernel) (by decide +kernel)
theorem allAtoms_all (ts : List Jvm.Cond) (a : Array Jvm.Value) (st : Jvm.State) : (allAtoms ts).before a st = ts.all (fun c => c.before a st) := by
  induction ts with
  | nil => rfl
  | cons c t ih =>
    show (Jvm.Cond.and c (allAtoms t)).before a st = _
    rw [Jvm.Cond.before_and, ih, List.all_cons]
def words1 : List Jvm.Cond := Jvm.Cond.code x code maxLocals ret :: tables_1
/-- a 'code' word, met by the world's own term for the bytes: nothing is compared byte by byte -/
theorem code_word {y : MethodName} {bytes : ByteArray} {mx : Nat} {rt : Option FieldType} {a : Array Value} {s : State} {m : MethodId} {meth : Method} {c : Code} (h1 : s.methodNamed? y = some m) (h2 : s.vm.method? m = some meth) (h3 : meth.code = some c) (h4 : c.code = bytes)
    (h5 : (c.maxLocals == mx && c.exceptionTable.isEmpty && decide (c.maxStack ≤ mostOperands) && decide (meth.sig.returnType = rt) && !meth.locks && decide (parseMethodDescriptor y.desc = some meth.sig)) = true) : (Jvm.Cond.code y bytes mx rt).before a s = true := by
  simp only [Bool.and_eq_true, beq_iff_eq, Bool.not_eq_true', decide_eq_true_eq] at h5
  obtain ⟨⟨⟨⟨⟨g1, g2⟩, g3⟩, g4⟩, g5⟩, g6⟩ := h5
  simp [Cond.before, Cond.holds, Cond.value, h1, h2, h3, h4, g1, g2, g3, g4, g5, g6]
def isCode : Jvm.Cond → Bool
  | .code _ _ _ _ => true
  | _ => false
theorem all_split {L : List Jvm.Cond} {P : Jvm.Cond → Bool} (h1 : L.all (fun c => isCode c || P c) = true) (h2 : ∀ c ∈ L.filter isCode, P c = true) : L.all P = true := by
  refine List.all_eq_true.mpr fun c hc => ?_
  have h := List.all_eq_true.mp h1 c hc
  rcases Bool.eq_false_or_eq_true (isCode c) with hi | hi
  · exact h2 c (List.mem_filter.mpr ⟨hc, hi⟩)
  · simpa [hi] using h
set_option maxRecDepth 65536 in
theorem w_c0 : (Jvm.Cond.code x code maxLocals ret).before args0 about1 = true := code_word (m := ⟨1, 2⟩) (meth := k1m2) (c := k1c2) (by decide +kernel) rfl rfl rfl (by decide +kernel)
set_option maxRecDepth 65536 in
theorem w_c1 : (Jvm.Cond.code ({ cls := "com/example/parfactor/parfactor/model/PotentialTable", name := "assignmentAt", desc := "(II)[Z" } : Jvm.MethodName) prog_61_method_8_code (5 : Nat) (Option.some (Jvm.ClassFile.FieldType.array Jvm.ClassFile.FieldType.boolean))).before args0 about1 = true := code_word (m := ⟨2, 0⟩) (meth := k2m0) (c := k2c0) (by decide +kernel) rfl rfl rfl (by decide +kernel)
set_option maxRecDepth 65536 in
theorem w_c2 : (Jvm.Cond.code ({ cls := "com/example/parfactor/parfactor/model/PotentialTableAssignmentAtPinLaw", name := "expected", desc := "(III)Z" } : Jvm.MethodName) method_2_code (4 : Nat) (Option.some Jvm.ClassFile.FieldType.boolean)).before args0 about1 = true := code_word (m := ⟨1, 1⟩) (meth := k1m1) (c := k1c1) (by decide +kernel) rfl rfl rfl (by decide +kernel)
def codes1 : List Jvm.Cond := [Jvm.Cond.code x code maxLocals ret, Jvm.Cond.code ({ cls := "com/example/parfactor/parfactor/model/PotentialTable", name := "assignmentAt", desc := "(II)[Z" } : Jvm.MethodName) prog_61_method_8_code (5 : Nat) (Option.some (Jvm.ClassFile.FieldType.array Jvm.ClassFile.FieldType.boolean)), Jvm.Cond.code ({ cls := "com/example/parfactor/parfactor/model/PotentialTableAssignmentAtPinLaw", name := "expected", desc := "(III)Z" } : Jvm.MethodName) method_2_code (4 : Nat) (Option.some Jvm.ClassFile.FieldType.boolean)]
set_option maxRecDepth 65536 in
theorem codes_eq : words1.filter isCode = codes1 := rfl
theorem w_codes : ∀ c ∈ words1.filter isCode, c.before args0 about1 = true := by
  rw [codes_eq]
  intro c hc
  simp only [codes1, List.mem_cons, List.not_mem_nil, or_false] at hc
  rcases hc with rfl | rfl | rfl
  · exact w_c0
  · exact w_c1
  · exact w_c2
set_option maxRecDepth 65536 in
theorem w_t1 : words1.all (fun c => isCode c || c.before args0 about1) = true := by decide +kernel
theorem w_tables : (allAtoms (Jvm.Cond.code x code maxLocals ret :: tables_1)).before args0 about1 = true := by
  rw [allAtoms_all]
  show words1.all (fun c => c.before args0 about1) = true
  refine all_split ?_ w_codes
  rw [w_t1]
set_option maxRecDepth 65536 in
theorem w_case : (Jvm.Cond.and given_1 narrow_1).before args0 about1 = true := by decide +kernel
theorem w_applies : (headSpec (Jvm.Cond.code x code maxLocals ret :: tables_1) room_1).applies x e0.platform about1 = true :=
  (Spec.applies_iff w_frames).mpr ⟨w_running, w_runnable, w_alone, w_named, w_hears, w_ripe, w_room, w_tables⟩
theorem atStart : AtStart classFile x code maxLocals ret World_1 tables_1 room_1 Calls_1 rest_1 Pre_1 launch0 p0 e0 about1 theMethod args0 below0 :=
  ⟨lists_1, trivial, launch0.admits_env _ _ _, launch0.least_env, fairChoices_fair.cas, fairChoices_fair.clock, w_frames, w_args, w_heap, w_applies, trivial, trivial, w_case⟩
end start1
theorem witness_1 : WitnessClaimed_1 := ⟨start1.p0, start1.e0, start1.about1, start1.theMethod, start1.args0, start1.below0, start1.atStart⟩
end Jvm.Pilot.@@N@@
